import JvmDerived
import JvmDerived.Pilot.@@N@@Statement
import JvmDerived.Pilot.@@N@@Code
set_option linter.unusedVariables false
set_option linter.unusedSimpArgs false
namespace Jvm.RoadKit
open Sem ClassFile Op Lib Jvm.Stand Jvm.Free Jvm.LawKit
section New
variable {p : Program} {l : Launch} {e : Env} {R : Room} {s : State} {m : MethodId} {args : Array Value} {below : List Frame} {meth : Method} {c : Code} {T : State} {locs : List Loc} {cells slots : Nat}
theorem retI (X : Stand p l e R s m args below meth c T locs cells slots) (hx : p.tables.exec = Jvm.exec) {pc : Nat} {Ls : Array Slot} {z : Int32} {rest : List Value} (hret : meth.sig.returnType = some .int) (hd : decode c.code pc = .ok (.ireturn, 1)) {fs : List Frame}
    (hl : ∀ (f : JFrame) (acts : List Action), f.method = m → f.locked = none → f.entered = [] → (doReturn e (T.setTop f) acts (some (.int z))).1 = T.setFrames fs) : Steps p.tables e below (T.setTop (mkF m pc Ls (.int z :: rest))) (T.setFrames fs) := by
  have hm' : T.vm.method? m = some meth := X.method'
  have hn : narrow .int (.int z) = .int z := rfl
  show Steps p.tables e below (T.setTop { method := m, pc := pc, locals := Ls, stack := _ :: rest, locked := none }) _
  jvm_step X.here [X.here.top, hx, hd, hm', hret, hn]
  first | (intro acts; rw [hl _ acts rfl rfl rfl]) | rw [hl _ _ rfl rfl rfl]
  exact Steps.refl _
theorem retJ (X : Stand p l e R s m args below meth c T locs cells slots) (hx : p.tables.exec = Jvm.exec) {pc : Nat} {Ls : Array Slot} {z : Int64} {rest : List Value} (hret : meth.sig.returnType = some .long) (hd : decode c.code pc = .ok (.lreturn, 1)) {fs : List Frame}
    (hl : ∀ (f : JFrame) (acts : List Action), f.method = m → f.locked = none → f.entered = [] → (doReturn e (T.setTop f) acts (some (.long z))).1 = T.setFrames fs) : Steps p.tables e below (T.setTop (mkF m pc Ls (.long z :: rest))) (T.setFrames fs) := by
  have hm' : T.vm.method? m = some meth := X.method'
  have hn : narrow .long (.long z) = .long z := rfl
  show Steps p.tables e below (T.setTop { method := m, pc := pc, locals := Ls, stack := _ :: rest, locked := none }) _
  jvm_step X.here [X.here.top, hx, hd, hm', hret, hn]
  first | (intro acts; rw [hl _ acts rfl rfl rfl]) | rw [hl _ _ rfl rfl rfl]
  exact Steps.refl _
end New
end Jvm.RoadKit
namespace Jvm.Pilot.@@N@@
open Jvm Jvm.ClassFile Sem Op Lib Jvm.Free Jvm.Stand Jvm.LawKit Jvm.RoadKit Bundle Jvm.Pilot.@@N@@.Jvm.D
def ArF (Z : State) (h : Heap) (a : Addr) (ty : FieldType) (n : Nat) (f : Nat → Value) : Prop := ∃ c : Cell, Arr Z h a c ty ∧ c.slots.size = n ∧ ∀ i, i < n → c.slots[i]? = some (f i)
theorem ArF.lt {Z : State} {h : Heap} {a : Addr} {ty : FieldType} {n : Nat} {f : Nat → Value} (F : ArF Z h a ty n f) : a < h.size := by obtain ⟨c, A, -⟩ := F; exact A.lt
theorem ArF.ext {Z : State} {h h' : Heap} {a : Addr} {ty : FieldType} {n : Nat} {f : Nat → Value} (F : ArF Z h a ty n f) (E : Ext h h') : ArF Z h' a ty n f := by obtain ⟨c, A, r⟩ := F; exact ⟨c, A.ext E, r⟩
theorem ArF.other {Z : State} {h h' : Heap} {a b : Addr} {ty : FieldType} {n sl : Nat} {f : Nat → Value} {v : Value} (F : ArF Z h b ty n f) (W : Wr h h' a sl v) (q : b ≠ a) : ArF Z h' b ty n f := by obtain ⟨c, A, r⟩ := F; exact ⟨c, A.other W q, r⟩
theorem ArF.keep {Z : State} {h h' : Heap} {a : Addr} {ty : FieldType} {n : Nat} {f : Nat → Value} {ws : List Addr} (F : ArF Z h a ty n f) (K : Keep h h' ws) (q : a ∉ ws) : ArF Z h' a ty n f := by obtain ⟨c, A, r⟩ := F; exact ⟨c, ⟨K.2.1 a c A.1 q, A.2⟩, r⟩
theorem ArF.mk0 {Z : State} {h : Heap} {a : Addr} {ty : FieldType} {k : ClassId} {z : Int32} {n : Nat} {v : Value} (A : Arr Z h a (newA k ty z) ty) (hn : z.toNatClampNeg = n) (hv : defaultValue ty = v) : ArF Z h a ty n (fun _ => v) := by
  subst hn hv
  refine ⟨_, A, sz_new _ _ _, fun i hi => ?_⟩
  show (Array.replicate _ _)[i]? = _
  rw [Array.getElem?_replicate, if_pos hi]
theorem ArF.set {Z : State} {h h' : Heap} {a : Addr} {ty : FieldType} {n : Nat} {f : Nat → Value} {c : Cell} {j : Int32} {v : Value} (A : Arr Z h a c ty) (S : c.slots.size = n) (H : ∀ i, i < n → c.slots[i]? = some (f i)) (W : Wr h h' a j.toNatClampNeg v) (hj : ¬ (j < 0 ∨ c.slots.size ≤ j.toNatClampNeg)) : ArF Z h' a ty n (fun i => if i = j.toNatClampNeg then v else f i) := by
  refine ⟨_, A.same W, by rw [sz_set]; exact S, fun i hi => ?_⟩
  have hjl : j.toNatClampNeg < c.slots.size := Nat.lt_of_not_le fun y => hj (Or.inr y)
  show (c.slots.setIfInBounds j.toNatClampNeg v)[i]? = some (if i = j.toNatClampNeg then v else f i)
  rw [Array.getElem?_setIfInBounds]
  by_cases e : j.toNatClampNeg = i
  · rw [if_pos e, if_pos hjl, if_pos e.symm]
  · rw [if_neg e, if_neg (Ne.symm e)]; exact H i hi
theorem ArF.at {n : Nat} {f : Nat → Value} {c : Cell} {j : Int32} {v : Value} (S : c.slots.size = n) (H : ∀ i, i < n → c.slots[i]? = some (f i)) (hj : ¬ (j < 0 ∨ c.slots.size ≤ j.toNatClampNeg)) (e : f j.toNatClampNeg = v) : c.slots[j.toNatClampNeg]? = some v := by
  rw [← e]; exact H _ (S ▸ Nat.lt_of_not_le fun y => hj (Or.inr y))
theorem inA {n : Nat} {c : Cell} {j : Int32} (S : c.slots.size = n) (h0 : ¬ j < 0) (h1 : j.toNatClampNeg < n) : ¬ (j < 0 ∨ c.slots.size ≤ j.toNatClampNeg) := fun q => q.elim h0 fun r => Nat.not_lt.mpr (S ▸ r) h1
theorem ArF.congr {Z : State} {h : Heap} {a : Addr} {ty : FieldType} {n : Nat} {f g : Nat → Value} (F : ArF Z h a ty n f) (q : ∀ i, i < n → f i = g i) : ArF Z h a ty n g := by obtain ⟨c, A, S, H⟩ := F; exact ⟨c, A, S, fun i hi => (H i hi).trans (congrArg some (q i hi))⟩
theorem Sta.keep0 {Z : State} {h h' : Heap} {C n d : String} {v : Value} (F : Sta Z h C n d v) (K : Keep h h' []) : Sta Z h' C n d v := by obtain ⟨cf, i, k, f, st, cell, h1, h2, h3, h4, h5, r⟩ := F; exact ⟨cf, i, k, f, st, cell, h1, h2, h3, h4, K.2.1 _ _ h5 nin0, r⟩
theorem own_selp {s : State} {args : Array Value} {y : MethodName} {n : Nat} (hi : (Jvm.Cond.instantiable y.cls n).before args s = true) (hpriv : s.PrivateAt y) (hinst : (Jvm.Cond.instanceMethod y).before args s = true) (hy : y.cls ≠ "java/lang/invoke/MethodHandle" ∧ y.cls ≠ "java/lang/invoke/VarHandle") : (Jvm.Cond.selects y.cls y y).before args s = true := by
  obtain ⟨c, k, hc, hk, -, hni, -⟩ := Cond.instantiable_spec hi
  exact Jvm.Stand.selects_self_of_private hc hk (Bool.or_eq_false_iff.mp hni).1 hpriv hinst hy
theorem pd_0 : parseMethodDescriptor "(I)I" = some ⟨[.int], some .int⟩ := by decide +kernel
theorem pd_1 : parseMethodDescriptor "(ID)V" = some ⟨[.int, .double], none⟩ := by decide +kernel
theorem pd_2 : parseMethodDescriptor "(I)D" = some ⟨[.int], some .double⟩ := by decide +kernel
theorem pd_3 : parseMethodDescriptor "(D)I" = some ⟨[.double], some .int⟩ := by decide +kernel
theorem pd_4 : parseMethodDescriptor "([D)V" = some ⟨[(.array .double)], none⟩ := by decide +kernel
theorem pd_5 : parseMethodDescriptor "(Lcom/example/velar/velar/WeightedDraws;II)V" = some ⟨[(.object "com/example/velar/velar/WeightedDraws"), .int, .int], none⟩ := by decide +kernel
theorem pd_6 : parseMethodDescriptor "()V" = some ⟨[], none⟩ := by decide +kernel
def own_nlz (p1 : Int32) : Int32 := if (0 : Int32) < p1 then if p1 < (65536 : Int32) then if p1 < (256 : Int32) then if p1 < (16 : Int32) then if p1 < (4 : Int32) then ((31 : Int32) - ((p1.toUInt32 >>> ((1 : Int32) &&& 31).toUInt32).toInt32)) else (((31 : Int32) + (-2 : Int32)) - ((((p1.toUInt32 >>> ((2 : Int32) &&& 31).toUInt32).toInt32).toUInt32 >>> ((1 : Int32) &&& 31).toUInt32).toInt32)) else if ((p1.toUInt32 >>> ((4 : Int32) &&& 31).toUInt32).toInt32) < (4 : Int32) then (((31 : Int32) + (-4 : Int32)) - ((((p1.toUInt32 >>> ((4 : Int32) &&& 31).toUInt32).toInt32).toUInt32 >>> ((1 : Int32) &&& 31).toUInt32).toInt32)) else ((((31 : Int32) + (-4 : Int32)) + (-2 : Int32)) - ((((((p1.toUInt32 >>> ((4 : Int32) &&& 31).toUInt32).toInt32).toUInt32 >>> ((2 : Int32) &&& 31).toUInt32).toInt32).toUInt32 >>> ((1 : Int32) &&& 31).toUInt32).toInt32)) else if ((p1.toUInt32 >>> ((8 : Int32) &&& 31).toUInt32).toInt32) < (16 : Int32) then if ((p1.toUInt32 >>> ((8 : Int32) &&& 31).toUInt32).toInt32) < (4 : Int32) then (((31 : Int32) + (-8 : Int32)) - ((((p1.toUInt32 >>> ((8 : Int32) &&& 31).toUInt32).toInt32).toUInt32 >>> ((1 : Int32) &&& 31).toUInt32).toInt32)) else ((((31 : Int32) + (-8 : Int32)) + (-2 : Int32)) - ((((((p1.toUInt32 >>> ((8 : Int32) &&& 31).toUInt32).toInt32).toUInt32 >>> ((2 : Int32) &&& 31).toUInt32).toInt32).toUInt32 >>> ((1 : Int32) &&& 31).toUInt32).toInt32)) else if ((((p1.toUInt32 >>> ((8 : Int32) &&& 31).toUInt32).toInt32).toUInt32 >>> ((4 : Int32) &&& 31).toUInt32).toInt32) < (4 : Int32) then ((((31 : Int32) + (-8 : Int32)) + (-4 : Int32)) - ((((((p1.toUInt32 >>> ((8 : Int32) &&& 31).toUInt32).toInt32).toUInt32 >>> ((4 : Int32) &&& 31).toUInt32).toInt32).toUInt32 >>> ((1 : Int32) &&& 31).toUInt32).toInt32)) else (((((31 : Int32) + (-8 : Int32)) + (-4 : Int32)) + (-2 : Int32)) - ((((((((p1.toUInt32 >>> ((8 : Int32) &&& 31).toUInt32).toInt32).toUInt32 >>> ((4 : Int32) &&& 31).toUInt32).toInt32).toUInt32 >>> ((2 : Int32) &&& 31).toUInt32).toInt32).toUInt32 >>> ((1 : Int32) &&& 31).toUInt32).toInt32)) else if ((p1.toUInt32 >>> ((16 : Int32) &&& 31).toUInt32).toInt32) < (256 : Int32) then if ((p1.toUInt32 >>> ((16 : Int32) &&& 31).toUInt32).toInt32) < (16 : Int32) then if ((p1.toUInt32 >>> ((16 : Int32) &&& 31).toUInt32).toInt32) < (4 : Int32) then (((31 : Int32) + (-16 : Int32)) - ((((p1.toUInt32 >>> ((16 : Int32) &&& 31).toUInt32).toInt32).toUInt32 >>> ((1 : Int32) &&& 31).toUInt32).toInt32)) else ((((31 : Int32) + (-16 : Int32)) + (-2 : Int32)) - ((((((p1.toUInt32 >>> ((16 : Int32) &&& 31).toUInt32).toInt32).toUInt32 >>> ((2 : Int32) &&& 31).toUInt32).toInt32).toUInt32 >>> ((1 : Int32) &&& 31).toUInt32).toInt32)) else if ((((p1.toUInt32 >>> ((16 : Int32) &&& 31).toUInt32).toInt32).toUInt32 >>> ((4 : Int32) &&& 31).toUInt32).toInt32) < (4 : Int32) then ((((31 : Int32) + (-16 : Int32)) + (-4 : Int32)) - ((((((p1.toUInt32 >>> ((16 : Int32) &&& 31).toUInt32).toInt32).toUInt32 >>> ((4 : Int32) &&& 31).toUInt32).toInt32).toUInt32 >>> ((1 : Int32) &&& 31).toUInt32).toInt32)) else (((((31 : Int32) + (-16 : Int32)) + (-4 : Int32)) + (-2 : Int32)) - ((((((((p1.toUInt32 >>> ((16 : Int32) &&& 31).toUInt32).toInt32).toUInt32 >>> ((4 : Int32) &&& 31).toUInt32).toInt32).toUInt32 >>> ((2 : Int32) &&& 31).toUInt32).toInt32).toUInt32 >>> ((1 : Int32) &&& 31).toUInt32).toInt32)) else if ((((p1.toUInt32 >>> ((16 : Int32) &&& 31).toUInt32).toInt32).toUInt32 >>> ((8 : Int32) &&& 31).toUInt32).toInt32) < (16 : Int32) then if ((((p1.toUInt32 >>> ((16 : Int32) &&& 31).toUInt32).toInt32).toUInt32 >>> ((8 : Int32) &&& 31).toUInt32).toInt32) < (4 : Int32) then ((((31 : Int32) + (-16 : Int32)) + (-8 : Int32)) - ((((((p1.toUInt32 >>> ((16 : Int32) &&& 31).toUInt32).toInt32).toUInt32 >>> ((8 : Int32) &&& 31).toUInt32).toInt32).toUInt32 >>> ((1 : Int32) &&& 31).toUInt32).toInt32)) else (((((31 : Int32) + (-16 : Int32)) + (-8 : Int32)) + (-2 : Int32)) - ((((((((p1.toUInt32 >>> ((16 : Int32) &&& 31).toUInt32).toInt32).toUInt32 >>> ((8 : Int32) &&& 31).toUInt32).toInt32).toUInt32 >>> ((2 : Int32) &&& 31).toUInt32).toInt32).toUInt32 >>> ((1 : Int32) &&& 31).toUInt32).toInt32)) else if ((((((p1.toUInt32 >>> ((16 : Int32) &&& 31).toUInt32).toInt32).toUInt32 >>> ((8 : Int32) &&& 31).toUInt32).toInt32).toUInt32 >>> ((4 : Int32) &&& 31).toUInt32).toInt32) < (4 : Int32) then (((((31 : Int32) + (-16 : Int32)) + (-8 : Int32)) + (-4 : Int32)) - ((((((((p1.toUInt32 >>> ((16 : Int32) &&& 31).toUInt32).toInt32).toUInt32 >>> ((8 : Int32) &&& 31).toUInt32).toInt32).toUInt32 >>> ((4 : Int32) &&& 31).toUInt32).toInt32).toUInt32 >>> ((1 : Int32) &&& 31).toUInt32).toInt32)) else ((((((31 : Int32) + (-16 : Int32)) + (-8 : Int32)) + (-4 : Int32)) + (-2 : Int32)) - ((((((((((p1.toUInt32 >>> ((16 : Int32) &&& 31).toUInt32).toInt32).toUInt32 >>> ((8 : Int32) &&& 31).toUInt32).toInt32).toUInt32 >>> ((4 : Int32) &&& 31).toUInt32).toInt32).toUInt32 >>> ((2 : Int32) &&& 31).toUInt32).toInt32).toUInt32 >>> ((1 : Int32) &&& 31).toUInt32).toInt32)) else if p1 = (0 : Int32) then (32 : Int32) else (0 : Int32)
theorem d4_0 : decode jdk_33_method_47_code 0 = .ok (.iload_n 0, 1) := by decide +kernel
theorem d4_1 : decode jdk_33_method_47_code 1 = .ok (.ifCond .gt 14, 3) := by decide +kernel
theorem d4_4 : decode jdk_33_method_47_code 4 = .ok (.iload_n 0, 1) := by decide +kernel
theorem d4_5 : decode jdk_33_method_47_code 5 = .ok (.ifCond .ne 8, 3) := by decide +kernel
theorem d4_8 : decode jdk_33_method_47_code 8 = .ok (.bipush 32, 2) := by decide +kernel
theorem d4_10 : decode jdk_33_method_47_code 10 = .ok (.goto 4, 3) := by decide +kernel
theorem d4_13 : decode jdk_33_method_47_code 13 = .ok (.iconst 0, 1) := by decide +kernel
theorem d4_14 : decode jdk_33_method_47_code 14 = .ok (.ireturn, 1) := by decide +kernel
theorem d4_15 : decode jdk_33_method_47_code 15 = .ok (.bipush 31, 2) := by decide +kernel
theorem d4_17 : decode jdk_33_method_47_code 17 = .ok (.istore_n 1, 1) := by decide +kernel
theorem d4_18 : decode jdk_33_method_47_code 18 = .ok (.iload_n 0, 1) := by decide +kernel
theorem d4_19 : decode jdk_33_method_47_code 19 = .ok (.ldc_w 264, 3) := by decide +kernel
theorem d4_22 : decode jdk_33_method_47_code 22 = .ok (.if_icmp .lt 11, 3) := by decide +kernel
theorem d4_25 : decode jdk_33_method_47_code 25 = .ok (.iinc 1 (-16), 3) := by decide +kernel
theorem d4_28 : decode jdk_33_method_47_code 28 = .ok (.iload_n 0, 1) := by decide +kernel
theorem d4_29 : decode jdk_33_method_47_code 29 = .ok (.bipush 16, 2) := by decide +kernel
theorem d4_31 : decode jdk_33_method_47_code 31 = .ok (.iushr, 1) := by decide +kernel
theorem d4_32 : decode jdk_33_method_47_code 32 = .ok (.istore_n 0, 1) := by decide +kernel
theorem d4_33 : decode jdk_33_method_47_code 33 = .ok (.iload_n 0, 1) := by decide +kernel
theorem d4_34 : decode jdk_33_method_47_code 34 = .ok (.sipush 256, 3) := by decide +kernel
theorem d4_37 : decode jdk_33_method_47_code 37 = .ok (.if_icmp .lt 11, 3) := by decide +kernel
theorem d4_40 : decode jdk_33_method_47_code 40 = .ok (.iinc 1 (-8), 3) := by decide +kernel
theorem d4_43 : decode jdk_33_method_47_code 43 = .ok (.iload_n 0, 1) := by decide +kernel
theorem d4_44 : decode jdk_33_method_47_code 44 = .ok (.bipush 8, 2) := by decide +kernel
theorem d4_46 : decode jdk_33_method_47_code 46 = .ok (.iushr, 1) := by decide +kernel
theorem d4_47 : decode jdk_33_method_47_code 47 = .ok (.istore_n 0, 1) := by decide +kernel
theorem d4_48 : decode jdk_33_method_47_code 48 = .ok (.iload_n 0, 1) := by decide +kernel
theorem d4_49 : decode jdk_33_method_47_code 49 = .ok (.bipush 16, 2) := by decide +kernel
theorem d4_51 : decode jdk_33_method_47_code 51 = .ok (.if_icmp .lt 10, 3) := by decide +kernel
theorem d4_54 : decode jdk_33_method_47_code 54 = .ok (.iinc 1 (-4), 3) := by decide +kernel
theorem d4_57 : decode jdk_33_method_47_code 57 = .ok (.iload_n 0, 1) := by decide +kernel
theorem d4_58 : decode jdk_33_method_47_code 58 = .ok (.iconst 4, 1) := by decide +kernel
theorem d4_59 : decode jdk_33_method_47_code 59 = .ok (.iushr, 1) := by decide +kernel
theorem d4_60 : decode jdk_33_method_47_code 60 = .ok (.istore_n 0, 1) := by decide +kernel
theorem d4_61 : decode jdk_33_method_47_code 61 = .ok (.iload_n 0, 1) := by decide +kernel
theorem d4_62 : decode jdk_33_method_47_code 62 = .ok (.iconst 4, 1) := by decide +kernel
theorem d4_63 : decode jdk_33_method_47_code 63 = .ok (.if_icmp .lt 10, 3) := by decide +kernel
theorem d4_66 : decode jdk_33_method_47_code 66 = .ok (.iinc 1 (-2), 3) := by decide +kernel
theorem d4_69 : decode jdk_33_method_47_code 69 = .ok (.iload_n 0, 1) := by decide +kernel
theorem d4_70 : decode jdk_33_method_47_code 70 = .ok (.iconst 2, 1) := by decide +kernel
theorem d4_71 : decode jdk_33_method_47_code 71 = .ok (.iushr, 1) := by decide +kernel
theorem d4_72 : decode jdk_33_method_47_code 72 = .ok (.istore_n 0, 1) := by decide +kernel
theorem d4_73 : decode jdk_33_method_47_code 73 = .ok (.iload_n 1, 1) := by decide +kernel
theorem d4_74 : decode jdk_33_method_47_code 74 = .ok (.iload_n 0, 1) := by decide +kernel
theorem d4_75 : decode jdk_33_method_47_code 75 = .ok (.iconst 1, 1) := by decide +kernel
theorem d4_76 : decode jdk_33_method_47_code 76 = .ok (.iushr, 1) := by decide +kernel
theorem d4_77 : decode jdk_33_method_47_code 77 = .ok (.isub, 1) := by decide +kernel
theorem d4_78 : decode jdk_33_method_47_code 78 = .ok (.ireturn, 1) := by decide +kernel
theorem pn_rmn : plainName "java/lang/Integer" = true := by first | (simp [plainName, overriddenIn]; done) | decide +kernel
theorem ef_rmn (m : MethodId) (x0 : Int32) : entryFrame m #[(.int x0)] 2 = mkF m 0 #[.val (.int x0), .unset] [] := by first | (simp [entryFrame, mkF, argsToLocals, Value.category]; done) | rfl
def Q_rmn (Z : State) (p1 : Int32) (h0 : Heap) (n0 : Nat) (v : Option Value) (h : Heap) (L : List Loc) : Prop := v = some (.int (own_nlz p1)) ∧ Fr n0 L ∧ h = h0
set_option maxRecDepth 65536 in
set_option maxHeartbeats 40000000 in
theorem rmn (l : Launch) (Z : State) (a0 : Array Value) (hw : ∀ d ∈ tables_1, d.before a0 Z = true) (ws : List Jvm.Cond) (p1 : Int32) (h0 : Heap) (n0 : Nat) (Z0 : n0 ≤ h0.size) :
    MetFree l (⟨"java/lang/Integer", "numberOfLeadingZeros", "(I)I"⟩ : MethodName) (head1 (Jvm.Cond.code (⟨"java/lang/Integer", "numberOfLeadingZeros", "(I)I"⟩ : MethodName) jdk_33_method_47_code 2 (some .int) :: ws) ({ frames := 0, cells := 0, slots := 0, locals := 0 } : Room)) (fun a U => a = #[(.int p1)] ∧ Z.Warmed39 U.vm ∧ U.heap = h0) (fun _ _ _ _ _ => True) (fun _ U o U' => ∃ v L, o = .returned v ∧ Q_rmn Z p1 h0 n0 v U'.heap L ∧ FrameEnd U o U' L ({ frames := 0, cells := 0, slots := 0, locals := 0 } : Room).cells ({ frames := 0, cells := 0, slots := 0, locals := 0 } : Room).slots) := by
  refine MetFree.of_bodySF (plainFor_of_name pn_rmn) hisR ?_
  intro p e s m args below meth c s₁ Bd hml0 hP hK
  obtain ⟨rfl, hZ, hh⟩ := hP
  have hx := Bd.exec
  have hby := Bd.bytes
  have hml : c.maxLocals = 2 := hml0
  have hown : s.vm.findClass "java/lang/Integer" = some m.cls := findClass_of_methodNamed Bd.named
  have hnm := (name_of_methodNamed Bd.named Bd.method).1
  have X0 : Stand p l e ({ frames := 0, cells := 0, slots := 0, locals := 0 } : Room) s m #[(.int p1)] below meth c s₁ [] 0 0 := Stand.of_body Bd
  have e0 : s₁.heap = h0 := by rw [← hh, Bd.state]; rfl
  have N0 := Fr.nil n0
  have pre0 : ∀ t, Steps p.tables e below (s₁.setTop (mkF m 0 #[.val (.int p1), .unset] [])) t → Steps p.tables e below (s₁.setTop (entryFrame m #[(.int p1)] 2)) t := fun t k => castTop (ef_rmn m p1) k
  have pre1 : ∀ t, Steps p.tables e below (s₁.setTop (mkF m 1 #[.val (.int p1), .unset] [(.int p1)])) t → Steps p.tables e below (s₁.setTop (entryFrame m #[(.int p1)] 2)) t := by
    intro t k
    refine pre0 t ?_
    show Steps p.tables e below (s₁.setTop (mkF m 0 #[.val (.int p1), .unset] [])) _
    refine XS.iloadN X0.here hx rfl (hb hby d4_0) rfl ?_
    exact k
  by_cases hc1_2 : (0 : Int32) < p1
  · have pre3 : ∀ t, Steps p.tables e below (s₁.setTop (mkF m 22 #[.val (.int p1), .val (.int (31 : Int32))] [(.int (65536 : Int32)), (.int p1)])) t → Steps p.tables e below (s₁.setTop (entryFrame m #[(.int p1)] 2)) t := by
      intro t k
      refine pre1 t ?_
      show Steps p.tables e below (s₁.setTop (mkF m 1 #[.val (.int p1), .unset] [(.int p1)])) _
      refine XS.ifYes X0.here hx rfl (pc0 := 1) (pc' := 15) rfl (hb hby d4_1) rfl ((if0 _ _).trans (tlt hc1_2).2.2.1) (by decide) (by decide) ?_
      show Steps p.tables e below (s₁.setTop (mkF m 15 #[.val (.int p1), .unset] [])) _
      refine XS.bipush X0.here hx rfl (hb hby d4_15) ?_
      show Steps p.tables e below (s₁.setTop (mkF m 17 #[.val (.int p1), .unset] [(.int (31 : Int32))])) _
      refine XS.istoreN X0.here hx rfl (hb hby d4_17) rfl (l' := #[.val (.int p1), .val (.int (31 : Int32))]) rfl ?_
      show Steps p.tables e below (s₁.setTop (mkF m 18 #[.val (.int p1), .val (.int (31 : Int32))] [])) _
      refine XS.iloadN X0.here hx rfl (hb hby d4_18) rfl ?_
      show Steps p.tables e below (s₁.setTop (mkF m 19 #[.val (.int p1), .val (.int (31 : Int32))] [(.int p1)])) _
      refine X0.ldcwInt hx hown (mvT hZ (hw _ (List.mem_of_getElem? (i := 23) rfl))) (g := (mkF m 19 #[.val (.int p1), .val (.int (31 : Int32))] [(.int p1)])) rfl (hb hby d4_19) _ ?_
      exact k
    by_cases hc22_4 : p1 < (65536 : Int32)
    · have pre5 : ∀ t, Steps p.tables e below (s₁.setTop (mkF m 37 #[.val (.int p1), .val (.int (31 : Int32))] [(.int (256 : Int32)), (.int p1)])) t → Steps p.tables e below (s₁.setTop (entryFrame m #[(.int p1)] 2)) t := by
        intro t k
        refine pre3 t ?_
        show Steps p.tables e below (s₁.setTop (mkF m 22 #[.val (.int p1), .val (.int (31 : Int32))] [(.int (65536 : Int32)), (.int p1)])) _
        refine XS.icmpYes X0.here hx rfl (pc0 := 22) (pc' := 33) rfl (hb hby d4_22) rfl (tlt hc22_4).1 (by decide) (by decide) ?_
        show Steps p.tables e below (s₁.setTop (mkF m 33 #[.val (.int p1), .val (.int (31 : Int32))] [])) _
        refine XS.iloadN X0.here hx rfl (hb hby d4_33) rfl ?_
        show Steps p.tables e below (s₁.setTop (mkF m 34 #[.val (.int p1), .val (.int (31 : Int32))] [(.int p1)])) _
        refine XS.sipush X0.here hx rfl (hb hby d4_34) ?_
        exact k
      by_cases hc37_6 : p1 < (256 : Int32)
      · have pre7 : ∀ t, Steps p.tables e below (s₁.setTop (mkF m 51 #[.val (.int p1), .val (.int (31 : Int32))] [(.int (16 : Int32)), (.int p1)])) t → Steps p.tables e below (s₁.setTop (entryFrame m #[(.int p1)] 2)) t := by
          intro t k
          refine pre5 t ?_
          show Steps p.tables e below (s₁.setTop (mkF m 37 #[.val (.int p1), .val (.int (31 : Int32))] [(.int (256 : Int32)), (.int p1)])) _
          refine XS.icmpYes X0.here hx rfl (pc0 := 37) (pc' := 48) rfl (hb hby d4_37) rfl (tlt hc37_6).1 (by decide) (by decide) ?_
          show Steps p.tables e below (s₁.setTop (mkF m 48 #[.val (.int p1), .val (.int (31 : Int32))] [])) _
          refine XS.iloadN X0.here hx rfl (hb hby d4_48) rfl ?_
          show Steps p.tables e below (s₁.setTop (mkF m 49 #[.val (.int p1), .val (.int (31 : Int32))] [(.int p1)])) _
          refine XS.bipush X0.here hx rfl (hb hby d4_49) ?_
          exact k
        by_cases hc51_8 : p1 < (16 : Int32)
        · have pre9 : ∀ t, Steps p.tables e below (s₁.setTop (mkF m 63 #[.val (.int p1), .val (.int (31 : Int32))] [(.int (4 : Int32)), (.int p1)])) t → Steps p.tables e below (s₁.setTop (entryFrame m #[(.int p1)] 2)) t := by
            intro t k
            refine pre7 t ?_
            show Steps p.tables e below (s₁.setTop (mkF m 51 #[.val (.int p1), .val (.int (31 : Int32))] [(.int (16 : Int32)), (.int p1)])) _
            refine XS.icmpYes X0.here hx rfl (pc0 := 51) (pc' := 61) rfl (hb hby d4_51) rfl (tlt hc51_8).1 (by decide) (by decide) ?_
            show Steps p.tables e below (s₁.setTop (mkF m 61 #[.val (.int p1), .val (.int (31 : Int32))] [])) _
            refine XS.iloadN X0.here hx rfl (hb hby d4_61) rfl ?_
            show Steps p.tables e below (s₁.setTop (mkF m 62 #[.val (.int p1), .val (.int (31 : Int32))] [(.int p1)])) _
            refine XS.iconst X0.here hx rfl (hb hby d4_62) ?_
            exact k
          by_cases hc63_10 : p1 < (4 : Int32)
          · obtain ⟨fs, hr, hrun, hended, hW, hsame⟩ := X0.leave (v := some (.int ((31 : Int32) - ((p1.toUInt32 >>> ((1 : Int32) &&& 31).toUInt32).toInt32)))) (fun h => by rw [Bd.returns] at h; cases h)
            refine ⟨_, _, pre9 _ ?_, hrun, hended, _, _, rfl, ?_, ⟨_, rfl⟩, hW, hsame.mono (by decide) (by decide)⟩
            · show Steps p.tables e below (s₁.setTop (mkF m 63 #[.val (.int p1), .val (.int (31 : Int32))] [(.int (4 : Int32)), (.int p1)])) _
              refine XS.icmpYes X0.here hx rfl (pc0 := 63) (pc' := 73) rfl (hb hby d4_63) rfl (tlt hc63_10).1 (by decide) (by decide) ?_
              show Steps p.tables e below (s₁.setTop (mkF m 73 #[.val (.int p1), .val (.int (31 : Int32))] [])) _
              refine XS.iloadN X0.here hx rfl (hb hby d4_73) rfl ?_
              show Steps p.tables e below (s₁.setTop (mkF m 74 #[.val (.int p1), .val (.int (31 : Int32))] [(.int (31 : Int32))])) _
              refine XS.iloadN X0.here hx rfl (hb hby d4_74) rfl ?_
              show Steps p.tables e below (s₁.setTop (mkF m 75 #[.val (.int p1), .val (.int (31 : Int32))] [(.int p1), (.int (31 : Int32))])) _
              refine XS.iconst X0.here hx rfl (hb hby d4_75) ?_
              show Steps p.tables e below (s₁.setTop (mkF m 76 #[.val (.int p1), .val (.int (31 : Int32))] [(.int (1 : Int32)), (.int p1), (.int (31 : Int32))])) _
              refine XS.iushr X0.here hx rfl (hb hby d4_76) rfl ?_
              show Steps p.tables e below (s₁.setTop (mkF m 77 #[.val (.int p1), .val (.int (31 : Int32))] [(.int ((p1.toUInt32 >>> ((1 : Int32) &&& 31).toUInt32).toInt32)), (.int (31 : Int32))])) _
              refine XS.isub X0.here hx rfl (hb hby d4_77) rfl ?_
              show Steps p.tables e below (s₁.setTop (mkF m 78 #[.val (.int p1), .val (.int (31 : Int32))] [(.int ((31 : Int32) - ((p1.toUInt32 >>> ((1 : Int32) &&& 31).toUInt32).toInt32)))])) _
              exact retI X0 hx Bd.returns (hb hby d4_78) hr
            · show Q_rmn Z p1 h0 n0 _ s₁.heap _
              rw [e0]
              exact ⟨by rw [own_nlz, if_pos hc1_2, if_pos hc22_4, if_pos hc37_6, if_pos hc51_8, if_pos hc63_10], N0, rfl⟩
          · obtain ⟨fs, hr, hrun, hended, hW, hsame⟩ := X0.leave (v := some (.int (((31 : Int32) + (-2 : Int32)) - ((((p1.toUInt32 >>> ((2 : Int32) &&& 31).toUInt32).toInt32).toUInt32 >>> ((1 : Int32) &&& 31).toUInt32).toInt32)))) (fun h => by rw [Bd.returns] at h; cases h)
            refine ⟨_, _, pre9 _ ?_, hrun, hended, _, _, rfl, ?_, ⟨_, rfl⟩, hW, hsame.mono (by decide) (by decide)⟩
            · show Steps p.tables e below (s₁.setTop (mkF m 63 #[.val (.int p1), .val (.int (31 : Int32))] [(.int (4 : Int32)), (.int p1)])) _
              refine XS.icmpNo X0.here hx rfl (hb hby d4_63) rfl (flt hc63_10).1 ?_
              show Steps p.tables e below (s₁.setTop (mkF m 66 #[.val (.int p1), .val (.int (31 : Int32))] [])) _
              refine XS.iinc X0.here hx rfl (hb hby d4_66) rfl (l' := #[.val (.int p1), .val (.int ((31 : Int32) + (-2 : Int32)))]) rfl ?_
              show Steps p.tables e below (s₁.setTop (mkF m 69 #[.val (.int p1), .val (.int ((31 : Int32) + (-2 : Int32)))] [])) _
              refine XS.iloadN X0.here hx rfl (hb hby d4_69) rfl ?_
              show Steps p.tables e below (s₁.setTop (mkF m 70 #[.val (.int p1), .val (.int ((31 : Int32) + (-2 : Int32)))] [(.int p1)])) _
              refine XS.iconst X0.here hx rfl (hb hby d4_70) ?_
              show Steps p.tables e below (s₁.setTop (mkF m 71 #[.val (.int p1), .val (.int ((31 : Int32) + (-2 : Int32)))] [(.int (2 : Int32)), (.int p1)])) _
              refine XS.iushr X0.here hx rfl (hb hby d4_71) rfl ?_
              show Steps p.tables e below (s₁.setTop (mkF m 72 #[.val (.int p1), .val (.int ((31 : Int32) + (-2 : Int32)))] [(.int ((p1.toUInt32 >>> ((2 : Int32) &&& 31).toUInt32).toInt32))])) _
              refine XS.istoreN X0.here hx rfl (hb hby d4_72) rfl (l' := #[.val (.int ((p1.toUInt32 >>> ((2 : Int32) &&& 31).toUInt32).toInt32)), .val (.int ((31 : Int32) + (-2 : Int32)))]) rfl ?_
              show Steps p.tables e below (s₁.setTop (mkF m 73 #[.val (.int ((p1.toUInt32 >>> ((2 : Int32) &&& 31).toUInt32).toInt32)), .val (.int ((31 : Int32) + (-2 : Int32)))] [])) _
              refine XS.iloadN X0.here hx rfl (hb hby d4_73) rfl ?_
              show Steps p.tables e below (s₁.setTop (mkF m 74 #[.val (.int ((p1.toUInt32 >>> ((2 : Int32) &&& 31).toUInt32).toInt32)), .val (.int ((31 : Int32) + (-2 : Int32)))] [(.int ((31 : Int32) + (-2 : Int32)))])) _
              refine XS.iloadN X0.here hx rfl (hb hby d4_74) rfl ?_
              show Steps p.tables e below (s₁.setTop (mkF m 75 #[.val (.int ((p1.toUInt32 >>> ((2 : Int32) &&& 31).toUInt32).toInt32)), .val (.int ((31 : Int32) + (-2 : Int32)))] [(.int ((p1.toUInt32 >>> ((2 : Int32) &&& 31).toUInt32).toInt32)), (.int ((31 : Int32) + (-2 : Int32)))])) _
              refine XS.iconst X0.here hx rfl (hb hby d4_75) ?_
              show Steps p.tables e below (s₁.setTop (mkF m 76 #[.val (.int ((p1.toUInt32 >>> ((2 : Int32) &&& 31).toUInt32).toInt32)), .val (.int ((31 : Int32) + (-2 : Int32)))] [(.int (1 : Int32)), (.int ((p1.toUInt32 >>> ((2 : Int32) &&& 31).toUInt32).toInt32)), (.int ((31 : Int32) + (-2 : Int32)))])) _
              refine XS.iushr X0.here hx rfl (hb hby d4_76) rfl ?_
              show Steps p.tables e below (s₁.setTop (mkF m 77 #[.val (.int ((p1.toUInt32 >>> ((2 : Int32) &&& 31).toUInt32).toInt32)), .val (.int ((31 : Int32) + (-2 : Int32)))] [(.int ((((p1.toUInt32 >>> ((2 : Int32) &&& 31).toUInt32).toInt32).toUInt32 >>> ((1 : Int32) &&& 31).toUInt32).toInt32)), (.int ((31 : Int32) + (-2 : Int32)))])) _
              refine XS.isub X0.here hx rfl (hb hby d4_77) rfl ?_
              show Steps p.tables e below (s₁.setTop (mkF m 78 #[.val (.int ((p1.toUInt32 >>> ((2 : Int32) &&& 31).toUInt32).toInt32)), .val (.int ((31 : Int32) + (-2 : Int32)))] [(.int (((31 : Int32) + (-2 : Int32)) - ((((p1.toUInt32 >>> ((2 : Int32) &&& 31).toUInt32).toInt32).toUInt32 >>> ((1 : Int32) &&& 31).toUInt32).toInt32)))])) _
              exact retI X0 hx Bd.returns (hb hby d4_78) hr
            · show Q_rmn Z p1 h0 n0 _ s₁.heap _
              rw [e0]
              exact ⟨by rw [own_nlz, if_pos hc1_2, if_pos hc22_4, if_pos hc37_6, if_pos hc51_8, if_neg hc63_10], N0, rfl⟩
        · have pre11 : ∀ t, Steps p.tables e below (s₁.setTop (mkF m 63 #[.val (.int ((p1.toUInt32 >>> ((4 : Int32) &&& 31).toUInt32).toInt32)), .val (.int ((31 : Int32) + (-4 : Int32)))] [(.int (4 : Int32)), (.int ((p1.toUInt32 >>> ((4 : Int32) &&& 31).toUInt32).toInt32))])) t → Steps p.tables e below (s₁.setTop (entryFrame m #[(.int p1)] 2)) t := by
            intro t k
            refine pre7 t ?_
            show Steps p.tables e below (s₁.setTop (mkF m 51 #[.val (.int p1), .val (.int (31 : Int32))] [(.int (16 : Int32)), (.int p1)])) _
            refine XS.icmpNo X0.here hx rfl (hb hby d4_51) rfl (flt hc51_8).1 ?_
            show Steps p.tables e below (s₁.setTop (mkF m 54 #[.val (.int p1), .val (.int (31 : Int32))] [])) _
            refine XS.iinc X0.here hx rfl (hb hby d4_54) rfl (l' := #[.val (.int p1), .val (.int ((31 : Int32) + (-4 : Int32)))]) rfl ?_
            show Steps p.tables e below (s₁.setTop (mkF m 57 #[.val (.int p1), .val (.int ((31 : Int32) + (-4 : Int32)))] [])) _
            refine XS.iloadN X0.here hx rfl (hb hby d4_57) rfl ?_
            show Steps p.tables e below (s₁.setTop (mkF m 58 #[.val (.int p1), .val (.int ((31 : Int32) + (-4 : Int32)))] [(.int p1)])) _
            refine XS.iconst X0.here hx rfl (hb hby d4_58) ?_
            show Steps p.tables e below (s₁.setTop (mkF m 59 #[.val (.int p1), .val (.int ((31 : Int32) + (-4 : Int32)))] [(.int (4 : Int32)), (.int p1)])) _
            refine XS.iushr X0.here hx rfl (hb hby d4_59) rfl ?_
            show Steps p.tables e below (s₁.setTop (mkF m 60 #[.val (.int p1), .val (.int ((31 : Int32) + (-4 : Int32)))] [(.int ((p1.toUInt32 >>> ((4 : Int32) &&& 31).toUInt32).toInt32))])) _
            refine XS.istoreN X0.here hx rfl (hb hby d4_60) rfl (l' := #[.val (.int ((p1.toUInt32 >>> ((4 : Int32) &&& 31).toUInt32).toInt32)), .val (.int ((31 : Int32) + (-4 : Int32)))]) rfl ?_
            show Steps p.tables e below (s₁.setTop (mkF m 61 #[.val (.int ((p1.toUInt32 >>> ((4 : Int32) &&& 31).toUInt32).toInt32)), .val (.int ((31 : Int32) + (-4 : Int32)))] [])) _
            refine XS.iloadN X0.here hx rfl (hb hby d4_61) rfl ?_
            show Steps p.tables e below (s₁.setTop (mkF m 62 #[.val (.int ((p1.toUInt32 >>> ((4 : Int32) &&& 31).toUInt32).toInt32)), .val (.int ((31 : Int32) + (-4 : Int32)))] [(.int ((p1.toUInt32 >>> ((4 : Int32) &&& 31).toUInt32).toInt32))])) _
            refine XS.iconst X0.here hx rfl (hb hby d4_62) ?_
            exact k
          by_cases hc63_12 : ((p1.toUInt32 >>> ((4 : Int32) &&& 31).toUInt32).toInt32) < (4 : Int32)
          · obtain ⟨fs, hr, hrun, hended, hW, hsame⟩ := X0.leave (v := some (.int (((31 : Int32) + (-4 : Int32)) - ((((p1.toUInt32 >>> ((4 : Int32) &&& 31).toUInt32).toInt32).toUInt32 >>> ((1 : Int32) &&& 31).toUInt32).toInt32)))) (fun h => by rw [Bd.returns] at h; cases h)
            refine ⟨_, _, pre11 _ ?_, hrun, hended, _, _, rfl, ?_, ⟨_, rfl⟩, hW, hsame.mono (by decide) (by decide)⟩
            · show Steps p.tables e below (s₁.setTop (mkF m 63 #[.val (.int ((p1.toUInt32 >>> ((4 : Int32) &&& 31).toUInt32).toInt32)), .val (.int ((31 : Int32) + (-4 : Int32)))] [(.int (4 : Int32)), (.int ((p1.toUInt32 >>> ((4 : Int32) &&& 31).toUInt32).toInt32))])) _
              refine XS.icmpYes X0.here hx rfl (pc0 := 63) (pc' := 73) rfl (hb hby d4_63) rfl (tlt hc63_12).1 (by decide) (by decide) ?_
              show Steps p.tables e below (s₁.setTop (mkF m 73 #[.val (.int ((p1.toUInt32 >>> ((4 : Int32) &&& 31).toUInt32).toInt32)), .val (.int ((31 : Int32) + (-4 : Int32)))] [])) _
              refine XS.iloadN X0.here hx rfl (hb hby d4_73) rfl ?_
              show Steps p.tables e below (s₁.setTop (mkF m 74 #[.val (.int ((p1.toUInt32 >>> ((4 : Int32) &&& 31).toUInt32).toInt32)), .val (.int ((31 : Int32) + (-4 : Int32)))] [(.int ((31 : Int32) + (-4 : Int32)))])) _
              refine XS.iloadN X0.here hx rfl (hb hby d4_74) rfl ?_
              show Steps p.tables e below (s₁.setTop (mkF m 75 #[.val (.int ((p1.toUInt32 >>> ((4 : Int32) &&& 31).toUInt32).toInt32)), .val (.int ((31 : Int32) + (-4 : Int32)))] [(.int ((p1.toUInt32 >>> ((4 : Int32) &&& 31).toUInt32).toInt32)), (.int ((31 : Int32) + (-4 : Int32)))])) _
              refine XS.iconst X0.here hx rfl (hb hby d4_75) ?_
              show Steps p.tables e below (s₁.setTop (mkF m 76 #[.val (.int ((p1.toUInt32 >>> ((4 : Int32) &&& 31).toUInt32).toInt32)), .val (.int ((31 : Int32) + (-4 : Int32)))] [(.int (1 : Int32)), (.int ((p1.toUInt32 >>> ((4 : Int32) &&& 31).toUInt32).toInt32)), (.int ((31 : Int32) + (-4 : Int32)))])) _
              refine XS.iushr X0.here hx rfl (hb hby d4_76) rfl ?_
              show Steps p.tables e below (s₁.setTop (mkF m 77 #[.val (.int ((p1.toUInt32 >>> ((4 : Int32) &&& 31).toUInt32).toInt32)), .val (.int ((31 : Int32) + (-4 : Int32)))] [(.int ((((p1.toUInt32 >>> ((4 : Int32) &&& 31).toUInt32).toInt32).toUInt32 >>> ((1 : Int32) &&& 31).toUInt32).toInt32)), (.int ((31 : Int32) + (-4 : Int32)))])) _
              refine XS.isub X0.here hx rfl (hb hby d4_77) rfl ?_
              show Steps p.tables e below (s₁.setTop (mkF m 78 #[.val (.int ((p1.toUInt32 >>> ((4 : Int32) &&& 31).toUInt32).toInt32)), .val (.int ((31 : Int32) + (-4 : Int32)))] [(.int (((31 : Int32) + (-4 : Int32)) - ((((p1.toUInt32 >>> ((4 : Int32) &&& 31).toUInt32).toInt32).toUInt32 >>> ((1 : Int32) &&& 31).toUInt32).toInt32)))])) _
              exact retI X0 hx Bd.returns (hb hby d4_78) hr
            · show Q_rmn Z p1 h0 n0 _ s₁.heap _
              rw [e0]
              exact ⟨by rw [own_nlz, if_pos hc1_2, if_pos hc22_4, if_pos hc37_6, if_neg hc51_8, if_pos hc63_12], N0, rfl⟩
          · obtain ⟨fs, hr, hrun, hended, hW, hsame⟩ := X0.leave (v := some (.int ((((31 : Int32) + (-4 : Int32)) + (-2 : Int32)) - ((((((p1.toUInt32 >>> ((4 : Int32) &&& 31).toUInt32).toInt32).toUInt32 >>> ((2 : Int32) &&& 31).toUInt32).toInt32).toUInt32 >>> ((1 : Int32) &&& 31).toUInt32).toInt32)))) (fun h => by rw [Bd.returns] at h; cases h)
            refine ⟨_, _, pre11 _ ?_, hrun, hended, _, _, rfl, ?_, ⟨_, rfl⟩, hW, hsame.mono (by decide) (by decide)⟩
            · show Steps p.tables e below (s₁.setTop (mkF m 63 #[.val (.int ((p1.toUInt32 >>> ((4 : Int32) &&& 31).toUInt32).toInt32)), .val (.int ((31 : Int32) + (-4 : Int32)))] [(.int (4 : Int32)), (.int ((p1.toUInt32 >>> ((4 : Int32) &&& 31).toUInt32).toInt32))])) _
              refine XS.icmpNo X0.here hx rfl (hb hby d4_63) rfl (flt hc63_12).1 ?_
              show Steps p.tables e below (s₁.setTop (mkF m 66 #[.val (.int ((p1.toUInt32 >>> ((4 : Int32) &&& 31).toUInt32).toInt32)), .val (.int ((31 : Int32) + (-4 : Int32)))] [])) _
              refine XS.iinc X0.here hx rfl (hb hby d4_66) rfl (l' := #[.val (.int ((p1.toUInt32 >>> ((4 : Int32) &&& 31).toUInt32).toInt32)), .val (.int (((31 : Int32) + (-4 : Int32)) + (-2 : Int32)))]) rfl ?_
              show Steps p.tables e below (s₁.setTop (mkF m 69 #[.val (.int ((p1.toUInt32 >>> ((4 : Int32) &&& 31).toUInt32).toInt32)), .val (.int (((31 : Int32) + (-4 : Int32)) + (-2 : Int32)))] [])) _
              refine XS.iloadN X0.here hx rfl (hb hby d4_69) rfl ?_
              show Steps p.tables e below (s₁.setTop (mkF m 70 #[.val (.int ((p1.toUInt32 >>> ((4 : Int32) &&& 31).toUInt32).toInt32)), .val (.int (((31 : Int32) + (-4 : Int32)) + (-2 : Int32)))] [(.int ((p1.toUInt32 >>> ((4 : Int32) &&& 31).toUInt32).toInt32))])) _
              refine XS.iconst X0.here hx rfl (hb hby d4_70) ?_
              show Steps p.tables e below (s₁.setTop (mkF m 71 #[.val (.int ((p1.toUInt32 >>> ((4 : Int32) &&& 31).toUInt32).toInt32)), .val (.int (((31 : Int32) + (-4 : Int32)) + (-2 : Int32)))] [(.int (2 : Int32)), (.int ((p1.toUInt32 >>> ((4 : Int32) &&& 31).toUInt32).toInt32))])) _
              refine XS.iushr X0.here hx rfl (hb hby d4_71) rfl ?_
              show Steps p.tables e below (s₁.setTop (mkF m 72 #[.val (.int ((p1.toUInt32 >>> ((4 : Int32) &&& 31).toUInt32).toInt32)), .val (.int (((31 : Int32) + (-4 : Int32)) + (-2 : Int32)))] [(.int ((((p1.toUInt32 >>> ((4 : Int32) &&& 31).toUInt32).toInt32).toUInt32 >>> ((2 : Int32) &&& 31).toUInt32).toInt32))])) _
              refine XS.istoreN X0.here hx rfl (hb hby d4_72) rfl (l' := #[.val (.int ((((p1.toUInt32 >>> ((4 : Int32) &&& 31).toUInt32).toInt32).toUInt32 >>> ((2 : Int32) &&& 31).toUInt32).toInt32)), .val (.int (((31 : Int32) + (-4 : Int32)) + (-2 : Int32)))]) rfl ?_
              show Steps p.tables e below (s₁.setTop (mkF m 73 #[.val (.int ((((p1.toUInt32 >>> ((4 : Int32) &&& 31).toUInt32).toInt32).toUInt32 >>> ((2 : Int32) &&& 31).toUInt32).toInt32)), .val (.int (((31 : Int32) + (-4 : Int32)) + (-2 : Int32)))] [])) _
              refine XS.iloadN X0.here hx rfl (hb hby d4_73) rfl ?_
              show Steps p.tables e below (s₁.setTop (mkF m 74 #[.val (.int ((((p1.toUInt32 >>> ((4 : Int32) &&& 31).toUInt32).toInt32).toUInt32 >>> ((2 : Int32) &&& 31).toUInt32).toInt32)), .val (.int (((31 : Int32) + (-4 : Int32)) + (-2 : Int32)))] [(.int (((31 : Int32) + (-4 : Int32)) + (-2 : Int32)))])) _
              refine XS.iloadN X0.here hx rfl (hb hby d4_74) rfl ?_
              show Steps p.tables e below (s₁.setTop (mkF m 75 #[.val (.int ((((p1.toUInt32 >>> ((4 : Int32) &&& 31).toUInt32).toInt32).toUInt32 >>> ((2 : Int32) &&& 31).toUInt32).toInt32)), .val (.int (((31 : Int32) + (-4 : Int32)) + (-2 : Int32)))] [(.int ((((p1.toUInt32 >>> ((4 : Int32) &&& 31).toUInt32).toInt32).toUInt32 >>> ((2 : Int32) &&& 31).toUInt32).toInt32)), (.int (((31 : Int32) + (-4 : Int32)) + (-2 : Int32)))])) _
              refine XS.iconst X0.here hx rfl (hb hby d4_75) ?_
              show Steps p.tables e below (s₁.setTop (mkF m 76 #[.val (.int ((((p1.toUInt32 >>> ((4 : Int32) &&& 31).toUInt32).toInt32).toUInt32 >>> ((2 : Int32) &&& 31).toUInt32).toInt32)), .val (.int (((31 : Int32) + (-4 : Int32)) + (-2 : Int32)))] [(.int (1 : Int32)), (.int ((((p1.toUInt32 >>> ((4 : Int32) &&& 31).toUInt32).toInt32).toUInt32 >>> ((2 : Int32) &&& 31).toUInt32).toInt32)), (.int (((31 : Int32) + (-4 : Int32)) + (-2 : Int32)))])) _
              refine XS.iushr X0.here hx rfl (hb hby d4_76) rfl ?_
              show Steps p.tables e below (s₁.setTop (mkF m 77 #[.val (.int ((((p1.toUInt32 >>> ((4 : Int32) &&& 31).toUInt32).toInt32).toUInt32 >>> ((2 : Int32) &&& 31).toUInt32).toInt32)), .val (.int (((31 : Int32) + (-4 : Int32)) + (-2 : Int32)))] [(.int ((((((p1.toUInt32 >>> ((4 : Int32) &&& 31).toUInt32).toInt32).toUInt32 >>> ((2 : Int32) &&& 31).toUInt32).toInt32).toUInt32 >>> ((1 : Int32) &&& 31).toUInt32).toInt32)), (.int (((31 : Int32) + (-4 : Int32)) + (-2 : Int32)))])) _
              refine XS.isub X0.here hx rfl (hb hby d4_77) rfl ?_
              show Steps p.tables e below (s₁.setTop (mkF m 78 #[.val (.int ((((p1.toUInt32 >>> ((4 : Int32) &&& 31).toUInt32).toInt32).toUInt32 >>> ((2 : Int32) &&& 31).toUInt32).toInt32)), .val (.int (((31 : Int32) + (-4 : Int32)) + (-2 : Int32)))] [(.int ((((31 : Int32) + (-4 : Int32)) + (-2 : Int32)) - ((((((p1.toUInt32 >>> ((4 : Int32) &&& 31).toUInt32).toInt32).toUInt32 >>> ((2 : Int32) &&& 31).toUInt32).toInt32).toUInt32 >>> ((1 : Int32) &&& 31).toUInt32).toInt32)))])) _
              exact retI X0 hx Bd.returns (hb hby d4_78) hr
            · show Q_rmn Z p1 h0 n0 _ s₁.heap _
              rw [e0]
              exact ⟨by rw [own_nlz, if_pos hc1_2, if_pos hc22_4, if_pos hc37_6, if_neg hc51_8, if_neg hc63_12], N0, rfl⟩
      · have pre13 : ∀ t, Steps p.tables e below (s₁.setTop (mkF m 51 #[.val (.int ((p1.toUInt32 >>> ((8 : Int32) &&& 31).toUInt32).toInt32)), .val (.int ((31 : Int32) + (-8 : Int32)))] [(.int (16 : Int32)), (.int ((p1.toUInt32 >>> ((8 : Int32) &&& 31).toUInt32).toInt32))])) t → Steps p.tables e below (s₁.setTop (entryFrame m #[(.int p1)] 2)) t := by
          intro t k
          refine pre5 t ?_
          show Steps p.tables e below (s₁.setTop (mkF m 37 #[.val (.int p1), .val (.int (31 : Int32))] [(.int (256 : Int32)), (.int p1)])) _
          refine XS.icmpNo X0.here hx rfl (hb hby d4_37) rfl (flt hc37_6).1 ?_
          show Steps p.tables e below (s₁.setTop (mkF m 40 #[.val (.int p1), .val (.int (31 : Int32))] [])) _
          refine XS.iinc X0.here hx rfl (hb hby d4_40) rfl (l' := #[.val (.int p1), .val (.int ((31 : Int32) + (-8 : Int32)))]) rfl ?_
          show Steps p.tables e below (s₁.setTop (mkF m 43 #[.val (.int p1), .val (.int ((31 : Int32) + (-8 : Int32)))] [])) _
          refine XS.iloadN X0.here hx rfl (hb hby d4_43) rfl ?_
          show Steps p.tables e below (s₁.setTop (mkF m 44 #[.val (.int p1), .val (.int ((31 : Int32) + (-8 : Int32)))] [(.int p1)])) _
          refine XS.bipush X0.here hx rfl (hb hby d4_44) ?_
          show Steps p.tables e below (s₁.setTop (mkF m 46 #[.val (.int p1), .val (.int ((31 : Int32) + (-8 : Int32)))] [(.int (8 : Int32)), (.int p1)])) _
          refine XS.iushr X0.here hx rfl (hb hby d4_46) rfl ?_
          show Steps p.tables e below (s₁.setTop (mkF m 47 #[.val (.int p1), .val (.int ((31 : Int32) + (-8 : Int32)))] [(.int ((p1.toUInt32 >>> ((8 : Int32) &&& 31).toUInt32).toInt32))])) _
          refine XS.istoreN X0.here hx rfl (hb hby d4_47) rfl (l' := #[.val (.int ((p1.toUInt32 >>> ((8 : Int32) &&& 31).toUInt32).toInt32)), .val (.int ((31 : Int32) + (-8 : Int32)))]) rfl ?_
          show Steps p.tables e below (s₁.setTop (mkF m 48 #[.val (.int ((p1.toUInt32 >>> ((8 : Int32) &&& 31).toUInt32).toInt32)), .val (.int ((31 : Int32) + (-8 : Int32)))] [])) _
          refine XS.iloadN X0.here hx rfl (hb hby d4_48) rfl ?_
          show Steps p.tables e below (s₁.setTop (mkF m 49 #[.val (.int ((p1.toUInt32 >>> ((8 : Int32) &&& 31).toUInt32).toInt32)), .val (.int ((31 : Int32) + (-8 : Int32)))] [(.int ((p1.toUInt32 >>> ((8 : Int32) &&& 31).toUInt32).toInt32))])) _
          refine XS.bipush X0.here hx rfl (hb hby d4_49) ?_
          exact k
        by_cases hc51_14 : ((p1.toUInt32 >>> ((8 : Int32) &&& 31).toUInt32).toInt32) < (16 : Int32)
        · have pre15 : ∀ t, Steps p.tables e below (s₁.setTop (mkF m 63 #[.val (.int ((p1.toUInt32 >>> ((8 : Int32) &&& 31).toUInt32).toInt32)), .val (.int ((31 : Int32) + (-8 : Int32)))] [(.int (4 : Int32)), (.int ((p1.toUInt32 >>> ((8 : Int32) &&& 31).toUInt32).toInt32))])) t → Steps p.tables e below (s₁.setTop (entryFrame m #[(.int p1)] 2)) t := by
            intro t k
            refine pre13 t ?_
            show Steps p.tables e below (s₁.setTop (mkF m 51 #[.val (.int ((p1.toUInt32 >>> ((8 : Int32) &&& 31).toUInt32).toInt32)), .val (.int ((31 : Int32) + (-8 : Int32)))] [(.int (16 : Int32)), (.int ((p1.toUInt32 >>> ((8 : Int32) &&& 31).toUInt32).toInt32))])) _
            refine XS.icmpYes X0.here hx rfl (pc0 := 51) (pc' := 61) rfl (hb hby d4_51) rfl (tlt hc51_14).1 (by decide) (by decide) ?_
            show Steps p.tables e below (s₁.setTop (mkF m 61 #[.val (.int ((p1.toUInt32 >>> ((8 : Int32) &&& 31).toUInt32).toInt32)), .val (.int ((31 : Int32) + (-8 : Int32)))] [])) _
            refine XS.iloadN X0.here hx rfl (hb hby d4_61) rfl ?_
            show Steps p.tables e below (s₁.setTop (mkF m 62 #[.val (.int ((p1.toUInt32 >>> ((8 : Int32) &&& 31).toUInt32).toInt32)), .val (.int ((31 : Int32) + (-8 : Int32)))] [(.int ((p1.toUInt32 >>> ((8 : Int32) &&& 31).toUInt32).toInt32))])) _
            refine XS.iconst X0.here hx rfl (hb hby d4_62) ?_
            exact k
          by_cases hc63_16 : ((p1.toUInt32 >>> ((8 : Int32) &&& 31).toUInt32).toInt32) < (4 : Int32)
          · obtain ⟨fs, hr, hrun, hended, hW, hsame⟩ := X0.leave (v := some (.int (((31 : Int32) + (-8 : Int32)) - ((((p1.toUInt32 >>> ((8 : Int32) &&& 31).toUInt32).toInt32).toUInt32 >>> ((1 : Int32) &&& 31).toUInt32).toInt32)))) (fun h => by rw [Bd.returns] at h; cases h)
            refine ⟨_, _, pre15 _ ?_, hrun, hended, _, _, rfl, ?_, ⟨_, rfl⟩, hW, hsame.mono (by decide) (by decide)⟩
            · show Steps p.tables e below (s₁.setTop (mkF m 63 #[.val (.int ((p1.toUInt32 >>> ((8 : Int32) &&& 31).toUInt32).toInt32)), .val (.int ((31 : Int32) + (-8 : Int32)))] [(.int (4 : Int32)), (.int ((p1.toUInt32 >>> ((8 : Int32) &&& 31).toUInt32).toInt32))])) _
              refine XS.icmpYes X0.here hx rfl (pc0 := 63) (pc' := 73) rfl (hb hby d4_63) rfl (tlt hc63_16).1 (by decide) (by decide) ?_
              show Steps p.tables e below (s₁.setTop (mkF m 73 #[.val (.int ((p1.toUInt32 >>> ((8 : Int32) &&& 31).toUInt32).toInt32)), .val (.int ((31 : Int32) + (-8 : Int32)))] [])) _
              refine XS.iloadN X0.here hx rfl (hb hby d4_73) rfl ?_
              show Steps p.tables e below (s₁.setTop (mkF m 74 #[.val (.int ((p1.toUInt32 >>> ((8 : Int32) &&& 31).toUInt32).toInt32)), .val (.int ((31 : Int32) + (-8 : Int32)))] [(.int ((31 : Int32) + (-8 : Int32)))])) _
              refine XS.iloadN X0.here hx rfl (hb hby d4_74) rfl ?_
              show Steps p.tables e below (s₁.setTop (mkF m 75 #[.val (.int ((p1.toUInt32 >>> ((8 : Int32) &&& 31).toUInt32).toInt32)), .val (.int ((31 : Int32) + (-8 : Int32)))] [(.int ((p1.toUInt32 >>> ((8 : Int32) &&& 31).toUInt32).toInt32)), (.int ((31 : Int32) + (-8 : Int32)))])) _
              refine XS.iconst X0.here hx rfl (hb hby d4_75) ?_
              show Steps p.tables e below (s₁.setTop (mkF m 76 #[.val (.int ((p1.toUInt32 >>> ((8 : Int32) &&& 31).toUInt32).toInt32)), .val (.int ((31 : Int32) + (-8 : Int32)))] [(.int (1 : Int32)), (.int ((p1.toUInt32 >>> ((8 : Int32) &&& 31).toUInt32).toInt32)), (.int ((31 : Int32) + (-8 : Int32)))])) _
              refine XS.iushr X0.here hx rfl (hb hby d4_76) rfl ?_
              show Steps p.tables e below (s₁.setTop (mkF m 77 #[.val (.int ((p1.toUInt32 >>> ((8 : Int32) &&& 31).toUInt32).toInt32)), .val (.int ((31 : Int32) + (-8 : Int32)))] [(.int ((((p1.toUInt32 >>> ((8 : Int32) &&& 31).toUInt32).toInt32).toUInt32 >>> ((1 : Int32) &&& 31).toUInt32).toInt32)), (.int ((31 : Int32) + (-8 : Int32)))])) _
              refine XS.isub X0.here hx rfl (hb hby d4_77) rfl ?_
              show Steps p.tables e below (s₁.setTop (mkF m 78 #[.val (.int ((p1.toUInt32 >>> ((8 : Int32) &&& 31).toUInt32).toInt32)), .val (.int ((31 : Int32) + (-8 : Int32)))] [(.int (((31 : Int32) + (-8 : Int32)) - ((((p1.toUInt32 >>> ((8 : Int32) &&& 31).toUInt32).toInt32).toUInt32 >>> ((1 : Int32) &&& 31).toUInt32).toInt32)))])) _
              exact retI X0 hx Bd.returns (hb hby d4_78) hr
            · show Q_rmn Z p1 h0 n0 _ s₁.heap _
              rw [e0]
              exact ⟨by rw [own_nlz, if_pos hc1_2, if_pos hc22_4, if_neg hc37_6, if_pos hc51_14, if_pos hc63_16], N0, rfl⟩
          · obtain ⟨fs, hr, hrun, hended, hW, hsame⟩ := X0.leave (v := some (.int ((((31 : Int32) + (-8 : Int32)) + (-2 : Int32)) - ((((((p1.toUInt32 >>> ((8 : Int32) &&& 31).toUInt32).toInt32).toUInt32 >>> ((2 : Int32) &&& 31).toUInt32).toInt32).toUInt32 >>> ((1 : Int32) &&& 31).toUInt32).toInt32)))) (fun h => by rw [Bd.returns] at h; cases h)
            refine ⟨_, _, pre15 _ ?_, hrun, hended, _, _, rfl, ?_, ⟨_, rfl⟩, hW, hsame.mono (by decide) (by decide)⟩
            · show Steps p.tables e below (s₁.setTop (mkF m 63 #[.val (.int ((p1.toUInt32 >>> ((8 : Int32) &&& 31).toUInt32).toInt32)), .val (.int ((31 : Int32) + (-8 : Int32)))] [(.int (4 : Int32)), (.int ((p1.toUInt32 >>> ((8 : Int32) &&& 31).toUInt32).toInt32))])) _
              refine XS.icmpNo X0.here hx rfl (hb hby d4_63) rfl (flt hc63_16).1 ?_
              show Steps p.tables e below (s₁.setTop (mkF m 66 #[.val (.int ((p1.toUInt32 >>> ((8 : Int32) &&& 31).toUInt32).toInt32)), .val (.int ((31 : Int32) + (-8 : Int32)))] [])) _
              refine XS.iinc X0.here hx rfl (hb hby d4_66) rfl (l' := #[.val (.int ((p1.toUInt32 >>> ((8 : Int32) &&& 31).toUInt32).toInt32)), .val (.int (((31 : Int32) + (-8 : Int32)) + (-2 : Int32)))]) rfl ?_
              show Steps p.tables e below (s₁.setTop (mkF m 69 #[.val (.int ((p1.toUInt32 >>> ((8 : Int32) &&& 31).toUInt32).toInt32)), .val (.int (((31 : Int32) + (-8 : Int32)) + (-2 : Int32)))] [])) _
              refine XS.iloadN X0.here hx rfl (hb hby d4_69) rfl ?_
              show Steps p.tables e below (s₁.setTop (mkF m 70 #[.val (.int ((p1.toUInt32 >>> ((8 : Int32) &&& 31).toUInt32).toInt32)), .val (.int (((31 : Int32) + (-8 : Int32)) + (-2 : Int32)))] [(.int ((p1.toUInt32 >>> ((8 : Int32) &&& 31).toUInt32).toInt32))])) _
              refine XS.iconst X0.here hx rfl (hb hby d4_70) ?_
              show Steps p.tables e below (s₁.setTop (mkF m 71 #[.val (.int ((p1.toUInt32 >>> ((8 : Int32) &&& 31).toUInt32).toInt32)), .val (.int (((31 : Int32) + (-8 : Int32)) + (-2 : Int32)))] [(.int (2 : Int32)), (.int ((p1.toUInt32 >>> ((8 : Int32) &&& 31).toUInt32).toInt32))])) _
              refine XS.iushr X0.here hx rfl (hb hby d4_71) rfl ?_
              show Steps p.tables e below (s₁.setTop (mkF m 72 #[.val (.int ((p1.toUInt32 >>> ((8 : Int32) &&& 31).toUInt32).toInt32)), .val (.int (((31 : Int32) + (-8 : Int32)) + (-2 : Int32)))] [(.int ((((p1.toUInt32 >>> ((8 : Int32) &&& 31).toUInt32).toInt32).toUInt32 >>> ((2 : Int32) &&& 31).toUInt32).toInt32))])) _
              refine XS.istoreN X0.here hx rfl (hb hby d4_72) rfl (l' := #[.val (.int ((((p1.toUInt32 >>> ((8 : Int32) &&& 31).toUInt32).toInt32).toUInt32 >>> ((2 : Int32) &&& 31).toUInt32).toInt32)), .val (.int (((31 : Int32) + (-8 : Int32)) + (-2 : Int32)))]) rfl ?_
              show Steps p.tables e below (s₁.setTop (mkF m 73 #[.val (.int ((((p1.toUInt32 >>> ((8 : Int32) &&& 31).toUInt32).toInt32).toUInt32 >>> ((2 : Int32) &&& 31).toUInt32).toInt32)), .val (.int (((31 : Int32) + (-8 : Int32)) + (-2 : Int32)))] [])) _
              refine XS.iloadN X0.here hx rfl (hb hby d4_73) rfl ?_
              show Steps p.tables e below (s₁.setTop (mkF m 74 #[.val (.int ((((p1.toUInt32 >>> ((8 : Int32) &&& 31).toUInt32).toInt32).toUInt32 >>> ((2 : Int32) &&& 31).toUInt32).toInt32)), .val (.int (((31 : Int32) + (-8 : Int32)) + (-2 : Int32)))] [(.int (((31 : Int32) + (-8 : Int32)) + (-2 : Int32)))])) _
              refine XS.iloadN X0.here hx rfl (hb hby d4_74) rfl ?_
              show Steps p.tables e below (s₁.setTop (mkF m 75 #[.val (.int ((((p1.toUInt32 >>> ((8 : Int32) &&& 31).toUInt32).toInt32).toUInt32 >>> ((2 : Int32) &&& 31).toUInt32).toInt32)), .val (.int (((31 : Int32) + (-8 : Int32)) + (-2 : Int32)))] [(.int ((((p1.toUInt32 >>> ((8 : Int32) &&& 31).toUInt32).toInt32).toUInt32 >>> ((2 : Int32) &&& 31).toUInt32).toInt32)), (.int (((31 : Int32) + (-8 : Int32)) + (-2 : Int32)))])) _
              refine XS.iconst X0.here hx rfl (hb hby d4_75) ?_
              show Steps p.tables e below (s₁.setTop (mkF m 76 #[.val (.int ((((p1.toUInt32 >>> ((8 : Int32) &&& 31).toUInt32).toInt32).toUInt32 >>> ((2 : Int32) &&& 31).toUInt32).toInt32)), .val (.int (((31 : Int32) + (-8 : Int32)) + (-2 : Int32)))] [(.int (1 : Int32)), (.int ((((p1.toUInt32 >>> ((8 : Int32) &&& 31).toUInt32).toInt32).toUInt32 >>> ((2 : Int32) &&& 31).toUInt32).toInt32)), (.int (((31 : Int32) + (-8 : Int32)) + (-2 : Int32)))])) _
              refine XS.iushr X0.here hx rfl (hb hby d4_76) rfl ?_
              show Steps p.tables e below (s₁.setTop (mkF m 77 #[.val (.int ((((p1.toUInt32 >>> ((8 : Int32) &&& 31).toUInt32).toInt32).toUInt32 >>> ((2 : Int32) &&& 31).toUInt32).toInt32)), .val (.int (((31 : Int32) + (-8 : Int32)) + (-2 : Int32)))] [(.int ((((((p1.toUInt32 >>> ((8 : Int32) &&& 31).toUInt32).toInt32).toUInt32 >>> ((2 : Int32) &&& 31).toUInt32).toInt32).toUInt32 >>> ((1 : Int32) &&& 31).toUInt32).toInt32)), (.int (((31 : Int32) + (-8 : Int32)) + (-2 : Int32)))])) _
              refine XS.isub X0.here hx rfl (hb hby d4_77) rfl ?_
              show Steps p.tables e below (s₁.setTop (mkF m 78 #[.val (.int ((((p1.toUInt32 >>> ((8 : Int32) &&& 31).toUInt32).toInt32).toUInt32 >>> ((2 : Int32) &&& 31).toUInt32).toInt32)), .val (.int (((31 : Int32) + (-8 : Int32)) + (-2 : Int32)))] [(.int ((((31 : Int32) + (-8 : Int32)) + (-2 : Int32)) - ((((((p1.toUInt32 >>> ((8 : Int32) &&& 31).toUInt32).toInt32).toUInt32 >>> ((2 : Int32) &&& 31).toUInt32).toInt32).toUInt32 >>> ((1 : Int32) &&& 31).toUInt32).toInt32)))])) _
              exact retI X0 hx Bd.returns (hb hby d4_78) hr
            · show Q_rmn Z p1 h0 n0 _ s₁.heap _
              rw [e0]
              exact ⟨by rw [own_nlz, if_pos hc1_2, if_pos hc22_4, if_neg hc37_6, if_pos hc51_14, if_neg hc63_16], N0, rfl⟩
        · have pre17 : ∀ t, Steps p.tables e below (s₁.setTop (mkF m 63 #[.val (.int ((((p1.toUInt32 >>> ((8 : Int32) &&& 31).toUInt32).toInt32).toUInt32 >>> ((4 : Int32) &&& 31).toUInt32).toInt32)), .val (.int (((31 : Int32) + (-8 : Int32)) + (-4 : Int32)))] [(.int (4 : Int32)), (.int ((((p1.toUInt32 >>> ((8 : Int32) &&& 31).toUInt32).toInt32).toUInt32 >>> ((4 : Int32) &&& 31).toUInt32).toInt32))])) t → Steps p.tables e below (s₁.setTop (entryFrame m #[(.int p1)] 2)) t := by
            intro t k
            refine pre13 t ?_
            show Steps p.tables e below (s₁.setTop (mkF m 51 #[.val (.int ((p1.toUInt32 >>> ((8 : Int32) &&& 31).toUInt32).toInt32)), .val (.int ((31 : Int32) + (-8 : Int32)))] [(.int (16 : Int32)), (.int ((p1.toUInt32 >>> ((8 : Int32) &&& 31).toUInt32).toInt32))])) _
            refine XS.icmpNo X0.here hx rfl (hb hby d4_51) rfl (flt hc51_14).1 ?_
            show Steps p.tables e below (s₁.setTop (mkF m 54 #[.val (.int ((p1.toUInt32 >>> ((8 : Int32) &&& 31).toUInt32).toInt32)), .val (.int ((31 : Int32) + (-8 : Int32)))] [])) _
            refine XS.iinc X0.here hx rfl (hb hby d4_54) rfl (l' := #[.val (.int ((p1.toUInt32 >>> ((8 : Int32) &&& 31).toUInt32).toInt32)), .val (.int (((31 : Int32) + (-8 : Int32)) + (-4 : Int32)))]) rfl ?_
            show Steps p.tables e below (s₁.setTop (mkF m 57 #[.val (.int ((p1.toUInt32 >>> ((8 : Int32) &&& 31).toUInt32).toInt32)), .val (.int (((31 : Int32) + (-8 : Int32)) + (-4 : Int32)))] [])) _
            refine XS.iloadN X0.here hx rfl (hb hby d4_57) rfl ?_
            show Steps p.tables e below (s₁.setTop (mkF m 58 #[.val (.int ((p1.toUInt32 >>> ((8 : Int32) &&& 31).toUInt32).toInt32)), .val (.int (((31 : Int32) + (-8 : Int32)) + (-4 : Int32)))] [(.int ((p1.toUInt32 >>> ((8 : Int32) &&& 31).toUInt32).toInt32))])) _
            refine XS.iconst X0.here hx rfl (hb hby d4_58) ?_
            show Steps p.tables e below (s₁.setTop (mkF m 59 #[.val (.int ((p1.toUInt32 >>> ((8 : Int32) &&& 31).toUInt32).toInt32)), .val (.int (((31 : Int32) + (-8 : Int32)) + (-4 : Int32)))] [(.int (4 : Int32)), (.int ((p1.toUInt32 >>> ((8 : Int32) &&& 31).toUInt32).toInt32))])) _
            refine XS.iushr X0.here hx rfl (hb hby d4_59) rfl ?_
            show Steps p.tables e below (s₁.setTop (mkF m 60 #[.val (.int ((p1.toUInt32 >>> ((8 : Int32) &&& 31).toUInt32).toInt32)), .val (.int (((31 : Int32) + (-8 : Int32)) + (-4 : Int32)))] [(.int ((((p1.toUInt32 >>> ((8 : Int32) &&& 31).toUInt32).toInt32).toUInt32 >>> ((4 : Int32) &&& 31).toUInt32).toInt32))])) _
            refine XS.istoreN X0.here hx rfl (hb hby d4_60) rfl (l' := #[.val (.int ((((p1.toUInt32 >>> ((8 : Int32) &&& 31).toUInt32).toInt32).toUInt32 >>> ((4 : Int32) &&& 31).toUInt32).toInt32)), .val (.int (((31 : Int32) + (-8 : Int32)) + (-4 : Int32)))]) rfl ?_
            show Steps p.tables e below (s₁.setTop (mkF m 61 #[.val (.int ((((p1.toUInt32 >>> ((8 : Int32) &&& 31).toUInt32).toInt32).toUInt32 >>> ((4 : Int32) &&& 31).toUInt32).toInt32)), .val (.int (((31 : Int32) + (-8 : Int32)) + (-4 : Int32)))] [])) _
            refine XS.iloadN X0.here hx rfl (hb hby d4_61) rfl ?_
            show Steps p.tables e below (s₁.setTop (mkF m 62 #[.val (.int ((((p1.toUInt32 >>> ((8 : Int32) &&& 31).toUInt32).toInt32).toUInt32 >>> ((4 : Int32) &&& 31).toUInt32).toInt32)), .val (.int (((31 : Int32) + (-8 : Int32)) + (-4 : Int32)))] [(.int ((((p1.toUInt32 >>> ((8 : Int32) &&& 31).toUInt32).toInt32).toUInt32 >>> ((4 : Int32) &&& 31).toUInt32).toInt32))])) _
            refine XS.iconst X0.here hx rfl (hb hby d4_62) ?_
            exact k
          by_cases hc63_18 : ((((p1.toUInt32 >>> ((8 : Int32) &&& 31).toUInt32).toInt32).toUInt32 >>> ((4 : Int32) &&& 31).toUInt32).toInt32) < (4 : Int32)
          · obtain ⟨fs, hr, hrun, hended, hW, hsame⟩ := X0.leave (v := some (.int ((((31 : Int32) + (-8 : Int32)) + (-4 : Int32)) - ((((((p1.toUInt32 >>> ((8 : Int32) &&& 31).toUInt32).toInt32).toUInt32 >>> ((4 : Int32) &&& 31).toUInt32).toInt32).toUInt32 >>> ((1 : Int32) &&& 31).toUInt32).toInt32)))) (fun h => by rw [Bd.returns] at h; cases h)
            refine ⟨_, _, pre17 _ ?_, hrun, hended, _, _, rfl, ?_, ⟨_, rfl⟩, hW, hsame.mono (by decide) (by decide)⟩
            · show Steps p.tables e below (s₁.setTop (mkF m 63 #[.val (.int ((((p1.toUInt32 >>> ((8 : Int32) &&& 31).toUInt32).toInt32).toUInt32 >>> ((4 : Int32) &&& 31).toUInt32).toInt32)), .val (.int (((31 : Int32) + (-8 : Int32)) + (-4 : Int32)))] [(.int (4 : Int32)), (.int ((((p1.toUInt32 >>> ((8 : Int32) &&& 31).toUInt32).toInt32).toUInt32 >>> ((4 : Int32) &&& 31).toUInt32).toInt32))])) _
              refine XS.icmpYes X0.here hx rfl (pc0 := 63) (pc' := 73) rfl (hb hby d4_63) rfl (tlt hc63_18).1 (by decide) (by decide) ?_
              show Steps p.tables e below (s₁.setTop (mkF m 73 #[.val (.int ((((p1.toUInt32 >>> ((8 : Int32) &&& 31).toUInt32).toInt32).toUInt32 >>> ((4 : Int32) &&& 31).toUInt32).toInt32)), .val (.int (((31 : Int32) + (-8 : Int32)) + (-4 : Int32)))] [])) _
              refine XS.iloadN X0.here hx rfl (hb hby d4_73) rfl ?_
              show Steps p.tables e below (s₁.setTop (mkF m 74 #[.val (.int ((((p1.toUInt32 >>> ((8 : Int32) &&& 31).toUInt32).toInt32).toUInt32 >>> ((4 : Int32) &&& 31).toUInt32).toInt32)), .val (.int (((31 : Int32) + (-8 : Int32)) + (-4 : Int32)))] [(.int (((31 : Int32) + (-8 : Int32)) + (-4 : Int32)))])) _
              refine XS.iloadN X0.here hx rfl (hb hby d4_74) rfl ?_
              show Steps p.tables e below (s₁.setTop (mkF m 75 #[.val (.int ((((p1.toUInt32 >>> ((8 : Int32) &&& 31).toUInt32).toInt32).toUInt32 >>> ((4 : Int32) &&& 31).toUInt32).toInt32)), .val (.int (((31 : Int32) + (-8 : Int32)) + (-4 : Int32)))] [(.int ((((p1.toUInt32 >>> ((8 : Int32) &&& 31).toUInt32).toInt32).toUInt32 >>> ((4 : Int32) &&& 31).toUInt32).toInt32)), (.int (((31 : Int32) + (-8 : Int32)) + (-4 : Int32)))])) _
              refine XS.iconst X0.here hx rfl (hb hby d4_75) ?_
              show Steps p.tables e below (s₁.setTop (mkF m 76 #[.val (.int ((((p1.toUInt32 >>> ((8 : Int32) &&& 31).toUInt32).toInt32).toUInt32 >>> ((4 : Int32) &&& 31).toUInt32).toInt32)), .val (.int (((31 : Int32) + (-8 : Int32)) + (-4 : Int32)))] [(.int (1 : Int32)), (.int ((((p1.toUInt32 >>> ((8 : Int32) &&& 31).toUInt32).toInt32).toUInt32 >>> ((4 : Int32) &&& 31).toUInt32).toInt32)), (.int (((31 : Int32) + (-8 : Int32)) + (-4 : Int32)))])) _
              refine XS.iushr X0.here hx rfl (hb hby d4_76) rfl ?_
              show Steps p.tables e below (s₁.setTop (mkF m 77 #[.val (.int ((((p1.toUInt32 >>> ((8 : Int32) &&& 31).toUInt32).toInt32).toUInt32 >>> ((4 : Int32) &&& 31).toUInt32).toInt32)), .val (.int (((31 : Int32) + (-8 : Int32)) + (-4 : Int32)))] [(.int ((((((p1.toUInt32 >>> ((8 : Int32) &&& 31).toUInt32).toInt32).toUInt32 >>> ((4 : Int32) &&& 31).toUInt32).toInt32).toUInt32 >>> ((1 : Int32) &&& 31).toUInt32).toInt32)), (.int (((31 : Int32) + (-8 : Int32)) + (-4 : Int32)))])) _
              refine XS.isub X0.here hx rfl (hb hby d4_77) rfl ?_
              show Steps p.tables e below (s₁.setTop (mkF m 78 #[.val (.int ((((p1.toUInt32 >>> ((8 : Int32) &&& 31).toUInt32).toInt32).toUInt32 >>> ((4 : Int32) &&& 31).toUInt32).toInt32)), .val (.int (((31 : Int32) + (-8 : Int32)) + (-4 : Int32)))] [(.int ((((31 : Int32) + (-8 : Int32)) + (-4 : Int32)) - ((((((p1.toUInt32 >>> ((8 : Int32) &&& 31).toUInt32).toInt32).toUInt32 >>> ((4 : Int32) &&& 31).toUInt32).toInt32).toUInt32 >>> ((1 : Int32) &&& 31).toUInt32).toInt32)))])) _
              exact retI X0 hx Bd.returns (hb hby d4_78) hr
            · show Q_rmn Z p1 h0 n0 _ s₁.heap _
              rw [e0]
              exact ⟨by rw [own_nlz, if_pos hc1_2, if_pos hc22_4, if_neg hc37_6, if_neg hc51_14, if_pos hc63_18], N0, rfl⟩
          · obtain ⟨fs, hr, hrun, hended, hW, hsame⟩ := X0.leave (v := some (.int (((((31 : Int32) + (-8 : Int32)) + (-4 : Int32)) + (-2 : Int32)) - ((((((((p1.toUInt32 >>> ((8 : Int32) &&& 31).toUInt32).toInt32).toUInt32 >>> ((4 : Int32) &&& 31).toUInt32).toInt32).toUInt32 >>> ((2 : Int32) &&& 31).toUInt32).toInt32).toUInt32 >>> ((1 : Int32) &&& 31).toUInt32).toInt32)))) (fun h => by rw [Bd.returns] at h; cases h)
            refine ⟨_, _, pre17 _ ?_, hrun, hended, _, _, rfl, ?_, ⟨_, rfl⟩, hW, hsame.mono (by decide) (by decide)⟩
            · show Steps p.tables e below (s₁.setTop (mkF m 63 #[.val (.int ((((p1.toUInt32 >>> ((8 : Int32) &&& 31).toUInt32).toInt32).toUInt32 >>> ((4 : Int32) &&& 31).toUInt32).toInt32)), .val (.int (((31 : Int32) + (-8 : Int32)) + (-4 : Int32)))] [(.int (4 : Int32)), (.int ((((p1.toUInt32 >>> ((8 : Int32) &&& 31).toUInt32).toInt32).toUInt32 >>> ((4 : Int32) &&& 31).toUInt32).toInt32))])) _
              refine XS.icmpNo X0.here hx rfl (hb hby d4_63) rfl (flt hc63_18).1 ?_
              show Steps p.tables e below (s₁.setTop (mkF m 66 #[.val (.int ((((p1.toUInt32 >>> ((8 : Int32) &&& 31).toUInt32).toInt32).toUInt32 >>> ((4 : Int32) &&& 31).toUInt32).toInt32)), .val (.int (((31 : Int32) + (-8 : Int32)) + (-4 : Int32)))] [])) _
              refine XS.iinc X0.here hx rfl (hb hby d4_66) rfl (l' := #[.val (.int ((((p1.toUInt32 >>> ((8 : Int32) &&& 31).toUInt32).toInt32).toUInt32 >>> ((4 : Int32) &&& 31).toUInt32).toInt32)), .val (.int ((((31 : Int32) + (-8 : Int32)) + (-4 : Int32)) + (-2 : Int32)))]) rfl ?_
              show Steps p.tables e below (s₁.setTop (mkF m 69 #[.val (.int ((((p1.toUInt32 >>> ((8 : Int32) &&& 31).toUInt32).toInt32).toUInt32 >>> ((4 : Int32) &&& 31).toUInt32).toInt32)), .val (.int ((((31 : Int32) + (-8 : Int32)) + (-4 : Int32)) + (-2 : Int32)))] [])) _
              refine XS.iloadN X0.here hx rfl (hb hby d4_69) rfl ?_
              show Steps p.tables e below (s₁.setTop (mkF m 70 #[.val (.int ((((p1.toUInt32 >>> ((8 : Int32) &&& 31).toUInt32).toInt32).toUInt32 >>> ((4 : Int32) &&& 31).toUInt32).toInt32)), .val (.int ((((31 : Int32) + (-8 : Int32)) + (-4 : Int32)) + (-2 : Int32)))] [(.int ((((p1.toUInt32 >>> ((8 : Int32) &&& 31).toUInt32).toInt32).toUInt32 >>> ((4 : Int32) &&& 31).toUInt32).toInt32))])) _
              refine XS.iconst X0.here hx rfl (hb hby d4_70) ?_
              show Steps p.tables e below (s₁.setTop (mkF m 71 #[.val (.int ((((p1.toUInt32 >>> ((8 : Int32) &&& 31).toUInt32).toInt32).toUInt32 >>> ((4 : Int32) &&& 31).toUInt32).toInt32)), .val (.int ((((31 : Int32) + (-8 : Int32)) + (-4 : Int32)) + (-2 : Int32)))] [(.int (2 : Int32)), (.int ((((p1.toUInt32 >>> ((8 : Int32) &&& 31).toUInt32).toInt32).toUInt32 >>> ((4 : Int32) &&& 31).toUInt32).toInt32))])) _
              refine XS.iushr X0.here hx rfl (hb hby d4_71) rfl ?_
              show Steps p.tables e below (s₁.setTop (mkF m 72 #[.val (.int ((((p1.toUInt32 >>> ((8 : Int32) &&& 31).toUInt32).toInt32).toUInt32 >>> ((4 : Int32) &&& 31).toUInt32).toInt32)), .val (.int ((((31 : Int32) + (-8 : Int32)) + (-4 : Int32)) + (-2 : Int32)))] [(.int ((((((p1.toUInt32 >>> ((8 : Int32) &&& 31).toUInt32).toInt32).toUInt32 >>> ((4 : Int32) &&& 31).toUInt32).toInt32).toUInt32 >>> ((2 : Int32) &&& 31).toUInt32).toInt32))])) _
              refine XS.istoreN X0.here hx rfl (hb hby d4_72) rfl (l' := #[.val (.int ((((((p1.toUInt32 >>> ((8 : Int32) &&& 31).toUInt32).toInt32).toUInt32 >>> ((4 : Int32) &&& 31).toUInt32).toInt32).toUInt32 >>> ((2 : Int32) &&& 31).toUInt32).toInt32)), .val (.int ((((31 : Int32) + (-8 : Int32)) + (-4 : Int32)) + (-2 : Int32)))]) rfl ?_
              show Steps p.tables e below (s₁.setTop (mkF m 73 #[.val (.int ((((((p1.toUInt32 >>> ((8 : Int32) &&& 31).toUInt32).toInt32).toUInt32 >>> ((4 : Int32) &&& 31).toUInt32).toInt32).toUInt32 >>> ((2 : Int32) &&& 31).toUInt32).toInt32)), .val (.int ((((31 : Int32) + (-8 : Int32)) + (-4 : Int32)) + (-2 : Int32)))] [])) _
              refine XS.iloadN X0.here hx rfl (hb hby d4_73) rfl ?_
              show Steps p.tables e below (s₁.setTop (mkF m 74 #[.val (.int ((((((p1.toUInt32 >>> ((8 : Int32) &&& 31).toUInt32).toInt32).toUInt32 >>> ((4 : Int32) &&& 31).toUInt32).toInt32).toUInt32 >>> ((2 : Int32) &&& 31).toUInt32).toInt32)), .val (.int ((((31 : Int32) + (-8 : Int32)) + (-4 : Int32)) + (-2 : Int32)))] [(.int ((((31 : Int32) + (-8 : Int32)) + (-4 : Int32)) + (-2 : Int32)))])) _
              refine XS.iloadN X0.here hx rfl (hb hby d4_74) rfl ?_
              show Steps p.tables e below (s₁.setTop (mkF m 75 #[.val (.int ((((((p1.toUInt32 >>> ((8 : Int32) &&& 31).toUInt32).toInt32).toUInt32 >>> ((4 : Int32) &&& 31).toUInt32).toInt32).toUInt32 >>> ((2 : Int32) &&& 31).toUInt32).toInt32)), .val (.int ((((31 : Int32) + (-8 : Int32)) + (-4 : Int32)) + (-2 : Int32)))] [(.int ((((((p1.toUInt32 >>> ((8 : Int32) &&& 31).toUInt32).toInt32).toUInt32 >>> ((4 : Int32) &&& 31).toUInt32).toInt32).toUInt32 >>> ((2 : Int32) &&& 31).toUInt32).toInt32)), (.int ((((31 : Int32) + (-8 : Int32)) + (-4 : Int32)) + (-2 : Int32)))])) _
              refine XS.iconst X0.here hx rfl (hb hby d4_75) ?_
              show Steps p.tables e below (s₁.setTop (mkF m 76 #[.val (.int ((((((p1.toUInt32 >>> ((8 : Int32) &&& 31).toUInt32).toInt32).toUInt32 >>> ((4 : Int32) &&& 31).toUInt32).toInt32).toUInt32 >>> ((2 : Int32) &&& 31).toUInt32).toInt32)), .val (.int ((((31 : Int32) + (-8 : Int32)) + (-4 : Int32)) + (-2 : Int32)))] [(.int (1 : Int32)), (.int ((((((p1.toUInt32 >>> ((8 : Int32) &&& 31).toUInt32).toInt32).toUInt32 >>> ((4 : Int32) &&& 31).toUInt32).toInt32).toUInt32 >>> ((2 : Int32) &&& 31).toUInt32).toInt32)), (.int ((((31 : Int32) + (-8 : Int32)) + (-4 : Int32)) + (-2 : Int32)))])) _
              refine XS.iushr X0.here hx rfl (hb hby d4_76) rfl ?_
              show Steps p.tables e below (s₁.setTop (mkF m 77 #[.val (.int ((((((p1.toUInt32 >>> ((8 : Int32) &&& 31).toUInt32).toInt32).toUInt32 >>> ((4 : Int32) &&& 31).toUInt32).toInt32).toUInt32 >>> ((2 : Int32) &&& 31).toUInt32).toInt32)), .val (.int ((((31 : Int32) + (-8 : Int32)) + (-4 : Int32)) + (-2 : Int32)))] [(.int ((((((((p1.toUInt32 >>> ((8 : Int32) &&& 31).toUInt32).toInt32).toUInt32 >>> ((4 : Int32) &&& 31).toUInt32).toInt32).toUInt32 >>> ((2 : Int32) &&& 31).toUInt32).toInt32).toUInt32 >>> ((1 : Int32) &&& 31).toUInt32).toInt32)), (.int ((((31 : Int32) + (-8 : Int32)) + (-4 : Int32)) + (-2 : Int32)))])) _
              refine XS.isub X0.here hx rfl (hb hby d4_77) rfl ?_
              show Steps p.tables e below (s₁.setTop (mkF m 78 #[.val (.int ((((((p1.toUInt32 >>> ((8 : Int32) &&& 31).toUInt32).toInt32).toUInt32 >>> ((4 : Int32) &&& 31).toUInt32).toInt32).toUInt32 >>> ((2 : Int32) &&& 31).toUInt32).toInt32)), .val (.int ((((31 : Int32) + (-8 : Int32)) + (-4 : Int32)) + (-2 : Int32)))] [(.int (((((31 : Int32) + (-8 : Int32)) + (-4 : Int32)) + (-2 : Int32)) - ((((((((p1.toUInt32 >>> ((8 : Int32) &&& 31).toUInt32).toInt32).toUInt32 >>> ((4 : Int32) &&& 31).toUInt32).toInt32).toUInt32 >>> ((2 : Int32) &&& 31).toUInt32).toInt32).toUInt32 >>> ((1 : Int32) &&& 31).toUInt32).toInt32)))])) _
              exact retI X0 hx Bd.returns (hb hby d4_78) hr
            · show Q_rmn Z p1 h0 n0 _ s₁.heap _
              rw [e0]
              exact ⟨by rw [own_nlz, if_pos hc1_2, if_pos hc22_4, if_neg hc37_6, if_neg hc51_14, if_neg hc63_18], N0, rfl⟩
    · have pre19 : ∀ t, Steps p.tables e below (s₁.setTop (mkF m 37 #[.val (.int ((p1.toUInt32 >>> ((16 : Int32) &&& 31).toUInt32).toInt32)), .val (.int ((31 : Int32) + (-16 : Int32)))] [(.int (256 : Int32)), (.int ((p1.toUInt32 >>> ((16 : Int32) &&& 31).toUInt32).toInt32))])) t → Steps p.tables e below (s₁.setTop (entryFrame m #[(.int p1)] 2)) t := by
        intro t k
        refine pre3 t ?_
        show Steps p.tables e below (s₁.setTop (mkF m 22 #[.val (.int p1), .val (.int (31 : Int32))] [(.int (65536 : Int32)), (.int p1)])) _
        refine XS.icmpNo X0.here hx rfl (hb hby d4_22) rfl (flt hc22_4).1 ?_
        show Steps p.tables e below (s₁.setTop (mkF m 25 #[.val (.int p1), .val (.int (31 : Int32))] [])) _
        refine XS.iinc X0.here hx rfl (hb hby d4_25) rfl (l' := #[.val (.int p1), .val (.int ((31 : Int32) + (-16 : Int32)))]) rfl ?_
        show Steps p.tables e below (s₁.setTop (mkF m 28 #[.val (.int p1), .val (.int ((31 : Int32) + (-16 : Int32)))] [])) _
        refine XS.iloadN X0.here hx rfl (hb hby d4_28) rfl ?_
        show Steps p.tables e below (s₁.setTop (mkF m 29 #[.val (.int p1), .val (.int ((31 : Int32) + (-16 : Int32)))] [(.int p1)])) _
        refine XS.bipush X0.here hx rfl (hb hby d4_29) ?_
        show Steps p.tables e below (s₁.setTop (mkF m 31 #[.val (.int p1), .val (.int ((31 : Int32) + (-16 : Int32)))] [(.int (16 : Int32)), (.int p1)])) _
        refine XS.iushr X0.here hx rfl (hb hby d4_31) rfl ?_
        show Steps p.tables e below (s₁.setTop (mkF m 32 #[.val (.int p1), .val (.int ((31 : Int32) + (-16 : Int32)))] [(.int ((p1.toUInt32 >>> ((16 : Int32) &&& 31).toUInt32).toInt32))])) _
        refine XS.istoreN X0.here hx rfl (hb hby d4_32) rfl (l' := #[.val (.int ((p1.toUInt32 >>> ((16 : Int32) &&& 31).toUInt32).toInt32)), .val (.int ((31 : Int32) + (-16 : Int32)))]) rfl ?_
        show Steps p.tables e below (s₁.setTop (mkF m 33 #[.val (.int ((p1.toUInt32 >>> ((16 : Int32) &&& 31).toUInt32).toInt32)), .val (.int ((31 : Int32) + (-16 : Int32)))] [])) _
        refine XS.iloadN X0.here hx rfl (hb hby d4_33) rfl ?_
        show Steps p.tables e below (s₁.setTop (mkF m 34 #[.val (.int ((p1.toUInt32 >>> ((16 : Int32) &&& 31).toUInt32).toInt32)), .val (.int ((31 : Int32) + (-16 : Int32)))] [(.int ((p1.toUInt32 >>> ((16 : Int32) &&& 31).toUInt32).toInt32))])) _
        refine XS.sipush X0.here hx rfl (hb hby d4_34) ?_
        exact k
      by_cases hc37_20 : ((p1.toUInt32 >>> ((16 : Int32) &&& 31).toUInt32).toInt32) < (256 : Int32)
      · have pre21 : ∀ t, Steps p.tables e below (s₁.setTop (mkF m 51 #[.val (.int ((p1.toUInt32 >>> ((16 : Int32) &&& 31).toUInt32).toInt32)), .val (.int ((31 : Int32) + (-16 : Int32)))] [(.int (16 : Int32)), (.int ((p1.toUInt32 >>> ((16 : Int32) &&& 31).toUInt32).toInt32))])) t → Steps p.tables e below (s₁.setTop (entryFrame m #[(.int p1)] 2)) t := by
          intro t k
          refine pre19 t ?_
          show Steps p.tables e below (s₁.setTop (mkF m 37 #[.val (.int ((p1.toUInt32 >>> ((16 : Int32) &&& 31).toUInt32).toInt32)), .val (.int ((31 : Int32) + (-16 : Int32)))] [(.int (256 : Int32)), (.int ((p1.toUInt32 >>> ((16 : Int32) &&& 31).toUInt32).toInt32))])) _
          refine XS.icmpYes X0.here hx rfl (pc0 := 37) (pc' := 48) rfl (hb hby d4_37) rfl (tlt hc37_20).1 (by decide) (by decide) ?_
          show Steps p.tables e below (s₁.setTop (mkF m 48 #[.val (.int ((p1.toUInt32 >>> ((16 : Int32) &&& 31).toUInt32).toInt32)), .val (.int ((31 : Int32) + (-16 : Int32)))] [])) _
          refine XS.iloadN X0.here hx rfl (hb hby d4_48) rfl ?_
          show Steps p.tables e below (s₁.setTop (mkF m 49 #[.val (.int ((p1.toUInt32 >>> ((16 : Int32) &&& 31).toUInt32).toInt32)), .val (.int ((31 : Int32) + (-16 : Int32)))] [(.int ((p1.toUInt32 >>> ((16 : Int32) &&& 31).toUInt32).toInt32))])) _
          refine XS.bipush X0.here hx rfl (hb hby d4_49) ?_
          exact k
        by_cases hc51_22 : ((p1.toUInt32 >>> ((16 : Int32) &&& 31).toUInt32).toInt32) < (16 : Int32)
        · have pre23 : ∀ t, Steps p.tables e below (s₁.setTop (mkF m 63 #[.val (.int ((p1.toUInt32 >>> ((16 : Int32) &&& 31).toUInt32).toInt32)), .val (.int ((31 : Int32) + (-16 : Int32)))] [(.int (4 : Int32)), (.int ((p1.toUInt32 >>> ((16 : Int32) &&& 31).toUInt32).toInt32))])) t → Steps p.tables e below (s₁.setTop (entryFrame m #[(.int p1)] 2)) t := by
            intro t k
            refine pre21 t ?_
            show Steps p.tables e below (s₁.setTop (mkF m 51 #[.val (.int ((p1.toUInt32 >>> ((16 : Int32) &&& 31).toUInt32).toInt32)), .val (.int ((31 : Int32) + (-16 : Int32)))] [(.int (16 : Int32)), (.int ((p1.toUInt32 >>> ((16 : Int32) &&& 31).toUInt32).toInt32))])) _
            refine XS.icmpYes X0.here hx rfl (pc0 := 51) (pc' := 61) rfl (hb hby d4_51) rfl (tlt hc51_22).1 (by decide) (by decide) ?_
            show Steps p.tables e below (s₁.setTop (mkF m 61 #[.val (.int ((p1.toUInt32 >>> ((16 : Int32) &&& 31).toUInt32).toInt32)), .val (.int ((31 : Int32) + (-16 : Int32)))] [])) _
            refine XS.iloadN X0.here hx rfl (hb hby d4_61) rfl ?_
            show Steps p.tables e below (s₁.setTop (mkF m 62 #[.val (.int ((p1.toUInt32 >>> ((16 : Int32) &&& 31).toUInt32).toInt32)), .val (.int ((31 : Int32) + (-16 : Int32)))] [(.int ((p1.toUInt32 >>> ((16 : Int32) &&& 31).toUInt32).toInt32))])) _
            refine XS.iconst X0.here hx rfl (hb hby d4_62) ?_
            exact k
          by_cases hc63_24 : ((p1.toUInt32 >>> ((16 : Int32) &&& 31).toUInt32).toInt32) < (4 : Int32)
          · obtain ⟨fs, hr, hrun, hended, hW, hsame⟩ := X0.leave (v := some (.int (((31 : Int32) + (-16 : Int32)) - ((((p1.toUInt32 >>> ((16 : Int32) &&& 31).toUInt32).toInt32).toUInt32 >>> ((1 : Int32) &&& 31).toUInt32).toInt32)))) (fun h => by rw [Bd.returns] at h; cases h)
            refine ⟨_, _, pre23 _ ?_, hrun, hended, _, _, rfl, ?_, ⟨_, rfl⟩, hW, hsame.mono (by decide) (by decide)⟩
            · show Steps p.tables e below (s₁.setTop (mkF m 63 #[.val (.int ((p1.toUInt32 >>> ((16 : Int32) &&& 31).toUInt32).toInt32)), .val (.int ((31 : Int32) + (-16 : Int32)))] [(.int (4 : Int32)), (.int ((p1.toUInt32 >>> ((16 : Int32) &&& 31).toUInt32).toInt32))])) _
              refine XS.icmpYes X0.here hx rfl (pc0 := 63) (pc' := 73) rfl (hb hby d4_63) rfl (tlt hc63_24).1 (by decide) (by decide) ?_
              show Steps p.tables e below (s₁.setTop (mkF m 73 #[.val (.int ((p1.toUInt32 >>> ((16 : Int32) &&& 31).toUInt32).toInt32)), .val (.int ((31 : Int32) + (-16 : Int32)))] [])) _
              refine XS.iloadN X0.here hx rfl (hb hby d4_73) rfl ?_
              show Steps p.tables e below (s₁.setTop (mkF m 74 #[.val (.int ((p1.toUInt32 >>> ((16 : Int32) &&& 31).toUInt32).toInt32)), .val (.int ((31 : Int32) + (-16 : Int32)))] [(.int ((31 : Int32) + (-16 : Int32)))])) _
              refine XS.iloadN X0.here hx rfl (hb hby d4_74) rfl ?_
              show Steps p.tables e below (s₁.setTop (mkF m 75 #[.val (.int ((p1.toUInt32 >>> ((16 : Int32) &&& 31).toUInt32).toInt32)), .val (.int ((31 : Int32) + (-16 : Int32)))] [(.int ((p1.toUInt32 >>> ((16 : Int32) &&& 31).toUInt32).toInt32)), (.int ((31 : Int32) + (-16 : Int32)))])) _
              refine XS.iconst X0.here hx rfl (hb hby d4_75) ?_
              show Steps p.tables e below (s₁.setTop (mkF m 76 #[.val (.int ((p1.toUInt32 >>> ((16 : Int32) &&& 31).toUInt32).toInt32)), .val (.int ((31 : Int32) + (-16 : Int32)))] [(.int (1 : Int32)), (.int ((p1.toUInt32 >>> ((16 : Int32) &&& 31).toUInt32).toInt32)), (.int ((31 : Int32) + (-16 : Int32)))])) _
              refine XS.iushr X0.here hx rfl (hb hby d4_76) rfl ?_
              show Steps p.tables e below (s₁.setTop (mkF m 77 #[.val (.int ((p1.toUInt32 >>> ((16 : Int32) &&& 31).toUInt32).toInt32)), .val (.int ((31 : Int32) + (-16 : Int32)))] [(.int ((((p1.toUInt32 >>> ((16 : Int32) &&& 31).toUInt32).toInt32).toUInt32 >>> ((1 : Int32) &&& 31).toUInt32).toInt32)), (.int ((31 : Int32) + (-16 : Int32)))])) _
              refine XS.isub X0.here hx rfl (hb hby d4_77) rfl ?_
              show Steps p.tables e below (s₁.setTop (mkF m 78 #[.val (.int ((p1.toUInt32 >>> ((16 : Int32) &&& 31).toUInt32).toInt32)), .val (.int ((31 : Int32) + (-16 : Int32)))] [(.int (((31 : Int32) + (-16 : Int32)) - ((((p1.toUInt32 >>> ((16 : Int32) &&& 31).toUInt32).toInt32).toUInt32 >>> ((1 : Int32) &&& 31).toUInt32).toInt32)))])) _
              exact retI X0 hx Bd.returns (hb hby d4_78) hr
            · show Q_rmn Z p1 h0 n0 _ s₁.heap _
              rw [e0]
              exact ⟨by rw [own_nlz, if_pos hc1_2, if_neg hc22_4, if_pos hc37_20, if_pos hc51_22, if_pos hc63_24], N0, rfl⟩
          · obtain ⟨fs, hr, hrun, hended, hW, hsame⟩ := X0.leave (v := some (.int ((((31 : Int32) + (-16 : Int32)) + (-2 : Int32)) - ((((((p1.toUInt32 >>> ((16 : Int32) &&& 31).toUInt32).toInt32).toUInt32 >>> ((2 : Int32) &&& 31).toUInt32).toInt32).toUInt32 >>> ((1 : Int32) &&& 31).toUInt32).toInt32)))) (fun h => by rw [Bd.returns] at h; cases h)
            refine ⟨_, _, pre23 _ ?_, hrun, hended, _, _, rfl, ?_, ⟨_, rfl⟩, hW, hsame.mono (by decide) (by decide)⟩
            · show Steps p.tables e below (s₁.setTop (mkF m 63 #[.val (.int ((p1.toUInt32 >>> ((16 : Int32) &&& 31).toUInt32).toInt32)), .val (.int ((31 : Int32) + (-16 : Int32)))] [(.int (4 : Int32)), (.int ((p1.toUInt32 >>> ((16 : Int32) &&& 31).toUInt32).toInt32))])) _
              refine XS.icmpNo X0.here hx rfl (hb hby d4_63) rfl (flt hc63_24).1 ?_
              show Steps p.tables e below (s₁.setTop (mkF m 66 #[.val (.int ((p1.toUInt32 >>> ((16 : Int32) &&& 31).toUInt32).toInt32)), .val (.int ((31 : Int32) + (-16 : Int32)))] [])) _
              refine XS.iinc X0.here hx rfl (hb hby d4_66) rfl (l' := #[.val (.int ((p1.toUInt32 >>> ((16 : Int32) &&& 31).toUInt32).toInt32)), .val (.int (((31 : Int32) + (-16 : Int32)) + (-2 : Int32)))]) rfl ?_
              show Steps p.tables e below (s₁.setTop (mkF m 69 #[.val (.int ((p1.toUInt32 >>> ((16 : Int32) &&& 31).toUInt32).toInt32)), .val (.int (((31 : Int32) + (-16 : Int32)) + (-2 : Int32)))] [])) _
              refine XS.iloadN X0.here hx rfl (hb hby d4_69) rfl ?_
              show Steps p.tables e below (s₁.setTop (mkF m 70 #[.val (.int ((p1.toUInt32 >>> ((16 : Int32) &&& 31).toUInt32).toInt32)), .val (.int (((31 : Int32) + (-16 : Int32)) + (-2 : Int32)))] [(.int ((p1.toUInt32 >>> ((16 : Int32) &&& 31).toUInt32).toInt32))])) _
              refine XS.iconst X0.here hx rfl (hb hby d4_70) ?_
              show Steps p.tables e below (s₁.setTop (mkF m 71 #[.val (.int ((p1.toUInt32 >>> ((16 : Int32) &&& 31).toUInt32).toInt32)), .val (.int (((31 : Int32) + (-16 : Int32)) + (-2 : Int32)))] [(.int (2 : Int32)), (.int ((p1.toUInt32 >>> ((16 : Int32) &&& 31).toUInt32).toInt32))])) _
              refine XS.iushr X0.here hx rfl (hb hby d4_71) rfl ?_
              show Steps p.tables e below (s₁.setTop (mkF m 72 #[.val (.int ((p1.toUInt32 >>> ((16 : Int32) &&& 31).toUInt32).toInt32)), .val (.int (((31 : Int32) + (-16 : Int32)) + (-2 : Int32)))] [(.int ((((p1.toUInt32 >>> ((16 : Int32) &&& 31).toUInt32).toInt32).toUInt32 >>> ((2 : Int32) &&& 31).toUInt32).toInt32))])) _
              refine XS.istoreN X0.here hx rfl (hb hby d4_72) rfl (l' := #[.val (.int ((((p1.toUInt32 >>> ((16 : Int32) &&& 31).toUInt32).toInt32).toUInt32 >>> ((2 : Int32) &&& 31).toUInt32).toInt32)), .val (.int (((31 : Int32) + (-16 : Int32)) + (-2 : Int32)))]) rfl ?_
              show Steps p.tables e below (s₁.setTop (mkF m 73 #[.val (.int ((((p1.toUInt32 >>> ((16 : Int32) &&& 31).toUInt32).toInt32).toUInt32 >>> ((2 : Int32) &&& 31).toUInt32).toInt32)), .val (.int (((31 : Int32) + (-16 : Int32)) + (-2 : Int32)))] [])) _
              refine XS.iloadN X0.here hx rfl (hb hby d4_73) rfl ?_
              show Steps p.tables e below (s₁.setTop (mkF m 74 #[.val (.int ((((p1.toUInt32 >>> ((16 : Int32) &&& 31).toUInt32).toInt32).toUInt32 >>> ((2 : Int32) &&& 31).toUInt32).toInt32)), .val (.int (((31 : Int32) + (-16 : Int32)) + (-2 : Int32)))] [(.int (((31 : Int32) + (-16 : Int32)) + (-2 : Int32)))])) _
              refine XS.iloadN X0.here hx rfl (hb hby d4_74) rfl ?_
              show Steps p.tables e below (s₁.setTop (mkF m 75 #[.val (.int ((((p1.toUInt32 >>> ((16 : Int32) &&& 31).toUInt32).toInt32).toUInt32 >>> ((2 : Int32) &&& 31).toUInt32).toInt32)), .val (.int (((31 : Int32) + (-16 : Int32)) + (-2 : Int32)))] [(.int ((((p1.toUInt32 >>> ((16 : Int32) &&& 31).toUInt32).toInt32).toUInt32 >>> ((2 : Int32) &&& 31).toUInt32).toInt32)), (.int (((31 : Int32) + (-16 : Int32)) + (-2 : Int32)))])) _
              refine XS.iconst X0.here hx rfl (hb hby d4_75) ?_
              show Steps p.tables e below (s₁.setTop (mkF m 76 #[.val (.int ((((p1.toUInt32 >>> ((16 : Int32) &&& 31).toUInt32).toInt32).toUInt32 >>> ((2 : Int32) &&& 31).toUInt32).toInt32)), .val (.int (((31 : Int32) + (-16 : Int32)) + (-2 : Int32)))] [(.int (1 : Int32)), (.int ((((p1.toUInt32 >>> ((16 : Int32) &&& 31).toUInt32).toInt32).toUInt32 >>> ((2 : Int32) &&& 31).toUInt32).toInt32)), (.int (((31 : Int32) + (-16 : Int32)) + (-2 : Int32)))])) _
              refine XS.iushr X0.here hx rfl (hb hby d4_76) rfl ?_
              show Steps p.tables e below (s₁.setTop (mkF m 77 #[.val (.int ((((p1.toUInt32 >>> ((16 : Int32) &&& 31).toUInt32).toInt32).toUInt32 >>> ((2 : Int32) &&& 31).toUInt32).toInt32)), .val (.int (((31 : Int32) + (-16 : Int32)) + (-2 : Int32)))] [(.int ((((((p1.toUInt32 >>> ((16 : Int32) &&& 31).toUInt32).toInt32).toUInt32 >>> ((2 : Int32) &&& 31).toUInt32).toInt32).toUInt32 >>> ((1 : Int32) &&& 31).toUInt32).toInt32)), (.int (((31 : Int32) + (-16 : Int32)) + (-2 : Int32)))])) _
              refine XS.isub X0.here hx rfl (hb hby d4_77) rfl ?_
              show Steps p.tables e below (s₁.setTop (mkF m 78 #[.val (.int ((((p1.toUInt32 >>> ((16 : Int32) &&& 31).toUInt32).toInt32).toUInt32 >>> ((2 : Int32) &&& 31).toUInt32).toInt32)), .val (.int (((31 : Int32) + (-16 : Int32)) + (-2 : Int32)))] [(.int ((((31 : Int32) + (-16 : Int32)) + (-2 : Int32)) - ((((((p1.toUInt32 >>> ((16 : Int32) &&& 31).toUInt32).toInt32).toUInt32 >>> ((2 : Int32) &&& 31).toUInt32).toInt32).toUInt32 >>> ((1 : Int32) &&& 31).toUInt32).toInt32)))])) _
              exact retI X0 hx Bd.returns (hb hby d4_78) hr
            · show Q_rmn Z p1 h0 n0 _ s₁.heap _
              rw [e0]
              exact ⟨by rw [own_nlz, if_pos hc1_2, if_neg hc22_4, if_pos hc37_20, if_pos hc51_22, if_neg hc63_24], N0, rfl⟩
        · have pre25 : ∀ t, Steps p.tables e below (s₁.setTop (mkF m 63 #[.val (.int ((((p1.toUInt32 >>> ((16 : Int32) &&& 31).toUInt32).toInt32).toUInt32 >>> ((4 : Int32) &&& 31).toUInt32).toInt32)), .val (.int (((31 : Int32) + (-16 : Int32)) + (-4 : Int32)))] [(.int (4 : Int32)), (.int ((((p1.toUInt32 >>> ((16 : Int32) &&& 31).toUInt32).toInt32).toUInt32 >>> ((4 : Int32) &&& 31).toUInt32).toInt32))])) t → Steps p.tables e below (s₁.setTop (entryFrame m #[(.int p1)] 2)) t := by
            intro t k
            refine pre21 t ?_
            show Steps p.tables e below (s₁.setTop (mkF m 51 #[.val (.int ((p1.toUInt32 >>> ((16 : Int32) &&& 31).toUInt32).toInt32)), .val (.int ((31 : Int32) + (-16 : Int32)))] [(.int (16 : Int32)), (.int ((p1.toUInt32 >>> ((16 : Int32) &&& 31).toUInt32).toInt32))])) _
            refine XS.icmpNo X0.here hx rfl (hb hby d4_51) rfl (flt hc51_22).1 ?_
            show Steps p.tables e below (s₁.setTop (mkF m 54 #[.val (.int ((p1.toUInt32 >>> ((16 : Int32) &&& 31).toUInt32).toInt32)), .val (.int ((31 : Int32) + (-16 : Int32)))] [])) _
            refine XS.iinc X0.here hx rfl (hb hby d4_54) rfl (l' := #[.val (.int ((p1.toUInt32 >>> ((16 : Int32) &&& 31).toUInt32).toInt32)), .val (.int (((31 : Int32) + (-16 : Int32)) + (-4 : Int32)))]) rfl ?_
            show Steps p.tables e below (s₁.setTop (mkF m 57 #[.val (.int ((p1.toUInt32 >>> ((16 : Int32) &&& 31).toUInt32).toInt32)), .val (.int (((31 : Int32) + (-16 : Int32)) + (-4 : Int32)))] [])) _
            refine XS.iloadN X0.here hx rfl (hb hby d4_57) rfl ?_
            show Steps p.tables e below (s₁.setTop (mkF m 58 #[.val (.int ((p1.toUInt32 >>> ((16 : Int32) &&& 31).toUInt32).toInt32)), .val (.int (((31 : Int32) + (-16 : Int32)) + (-4 : Int32)))] [(.int ((p1.toUInt32 >>> ((16 : Int32) &&& 31).toUInt32).toInt32))])) _
            refine XS.iconst X0.here hx rfl (hb hby d4_58) ?_
            show Steps p.tables e below (s₁.setTop (mkF m 59 #[.val (.int ((p1.toUInt32 >>> ((16 : Int32) &&& 31).toUInt32).toInt32)), .val (.int (((31 : Int32) + (-16 : Int32)) + (-4 : Int32)))] [(.int (4 : Int32)), (.int ((p1.toUInt32 >>> ((16 : Int32) &&& 31).toUInt32).toInt32))])) _
            refine XS.iushr X0.here hx rfl (hb hby d4_59) rfl ?_
            show Steps p.tables e below (s₁.setTop (mkF m 60 #[.val (.int ((p1.toUInt32 >>> ((16 : Int32) &&& 31).toUInt32).toInt32)), .val (.int (((31 : Int32) + (-16 : Int32)) + (-4 : Int32)))] [(.int ((((p1.toUInt32 >>> ((16 : Int32) &&& 31).toUInt32).toInt32).toUInt32 >>> ((4 : Int32) &&& 31).toUInt32).toInt32))])) _
            refine XS.istoreN X0.here hx rfl (hb hby d4_60) rfl (l' := #[.val (.int ((((p1.toUInt32 >>> ((16 : Int32) &&& 31).toUInt32).toInt32).toUInt32 >>> ((4 : Int32) &&& 31).toUInt32).toInt32)), .val (.int (((31 : Int32) + (-16 : Int32)) + (-4 : Int32)))]) rfl ?_
            show Steps p.tables e below (s₁.setTop (mkF m 61 #[.val (.int ((((p1.toUInt32 >>> ((16 : Int32) &&& 31).toUInt32).toInt32).toUInt32 >>> ((4 : Int32) &&& 31).toUInt32).toInt32)), .val (.int (((31 : Int32) + (-16 : Int32)) + (-4 : Int32)))] [])) _
            refine XS.iloadN X0.here hx rfl (hb hby d4_61) rfl ?_
            show Steps p.tables e below (s₁.setTop (mkF m 62 #[.val (.int ((((p1.toUInt32 >>> ((16 : Int32) &&& 31).toUInt32).toInt32).toUInt32 >>> ((4 : Int32) &&& 31).toUInt32).toInt32)), .val (.int (((31 : Int32) + (-16 : Int32)) + (-4 : Int32)))] [(.int ((((p1.toUInt32 >>> ((16 : Int32) &&& 31).toUInt32).toInt32).toUInt32 >>> ((4 : Int32) &&& 31).toUInt32).toInt32))])) _
            refine XS.iconst X0.here hx rfl (hb hby d4_62) ?_
            exact k
          by_cases hc63_26 : ((((p1.toUInt32 >>> ((16 : Int32) &&& 31).toUInt32).toInt32).toUInt32 >>> ((4 : Int32) &&& 31).toUInt32).toInt32) < (4 : Int32)
          · obtain ⟨fs, hr, hrun, hended, hW, hsame⟩ := X0.leave (v := some (.int ((((31 : Int32) + (-16 : Int32)) + (-4 : Int32)) - ((((((p1.toUInt32 >>> ((16 : Int32) &&& 31).toUInt32).toInt32).toUInt32 >>> ((4 : Int32) &&& 31).toUInt32).toInt32).toUInt32 >>> ((1 : Int32) &&& 31).toUInt32).toInt32)))) (fun h => by rw [Bd.returns] at h; cases h)
            refine ⟨_, _, pre25 _ ?_, hrun, hended, _, _, rfl, ?_, ⟨_, rfl⟩, hW, hsame.mono (by decide) (by decide)⟩
            · show Steps p.tables e below (s₁.setTop (mkF m 63 #[.val (.int ((((p1.toUInt32 >>> ((16 : Int32) &&& 31).toUInt32).toInt32).toUInt32 >>> ((4 : Int32) &&& 31).toUInt32).toInt32)), .val (.int (((31 : Int32) + (-16 : Int32)) + (-4 : Int32)))] [(.int (4 : Int32)), (.int ((((p1.toUInt32 >>> ((16 : Int32) &&& 31).toUInt32).toInt32).toUInt32 >>> ((4 : Int32) &&& 31).toUInt32).toInt32))])) _
              refine XS.icmpYes X0.here hx rfl (pc0 := 63) (pc' := 73) rfl (hb hby d4_63) rfl (tlt hc63_26).1 (by decide) (by decide) ?_
              show Steps p.tables e below (s₁.setTop (mkF m 73 #[.val (.int ((((p1.toUInt32 >>> ((16 : Int32) &&& 31).toUInt32).toInt32).toUInt32 >>> ((4 : Int32) &&& 31).toUInt32).toInt32)), .val (.int (((31 : Int32) + (-16 : Int32)) + (-4 : Int32)))] [])) _
              refine XS.iloadN X0.here hx rfl (hb hby d4_73) rfl ?_
              show Steps p.tables e below (s₁.setTop (mkF m 74 #[.val (.int ((((p1.toUInt32 >>> ((16 : Int32) &&& 31).toUInt32).toInt32).toUInt32 >>> ((4 : Int32) &&& 31).toUInt32).toInt32)), .val (.int (((31 : Int32) + (-16 : Int32)) + (-4 : Int32)))] [(.int (((31 : Int32) + (-16 : Int32)) + (-4 : Int32)))])) _
              refine XS.iloadN X0.here hx rfl (hb hby d4_74) rfl ?_
              show Steps p.tables e below (s₁.setTop (mkF m 75 #[.val (.int ((((p1.toUInt32 >>> ((16 : Int32) &&& 31).toUInt32).toInt32).toUInt32 >>> ((4 : Int32) &&& 31).toUInt32).toInt32)), .val (.int (((31 : Int32) + (-16 : Int32)) + (-4 : Int32)))] [(.int ((((p1.toUInt32 >>> ((16 : Int32) &&& 31).toUInt32).toInt32).toUInt32 >>> ((4 : Int32) &&& 31).toUInt32).toInt32)), (.int (((31 : Int32) + (-16 : Int32)) + (-4 : Int32)))])) _
              refine XS.iconst X0.here hx rfl (hb hby d4_75) ?_
              show Steps p.tables e below (s₁.setTop (mkF m 76 #[.val (.int ((((p1.toUInt32 >>> ((16 : Int32) &&& 31).toUInt32).toInt32).toUInt32 >>> ((4 : Int32) &&& 31).toUInt32).toInt32)), .val (.int (((31 : Int32) + (-16 : Int32)) + (-4 : Int32)))] [(.int (1 : Int32)), (.int ((((p1.toUInt32 >>> ((16 : Int32) &&& 31).toUInt32).toInt32).toUInt32 >>> ((4 : Int32) &&& 31).toUInt32).toInt32)), (.int (((31 : Int32) + (-16 : Int32)) + (-4 : Int32)))])) _
              refine XS.iushr X0.here hx rfl (hb hby d4_76) rfl ?_
              show Steps p.tables e below (s₁.setTop (mkF m 77 #[.val (.int ((((p1.toUInt32 >>> ((16 : Int32) &&& 31).toUInt32).toInt32).toUInt32 >>> ((4 : Int32) &&& 31).toUInt32).toInt32)), .val (.int (((31 : Int32) + (-16 : Int32)) + (-4 : Int32)))] [(.int ((((((p1.toUInt32 >>> ((16 : Int32) &&& 31).toUInt32).toInt32).toUInt32 >>> ((4 : Int32) &&& 31).toUInt32).toInt32).toUInt32 >>> ((1 : Int32) &&& 31).toUInt32).toInt32)), (.int (((31 : Int32) + (-16 : Int32)) + (-4 : Int32)))])) _
              refine XS.isub X0.here hx rfl (hb hby d4_77) rfl ?_
              show Steps p.tables e below (s₁.setTop (mkF m 78 #[.val (.int ((((p1.toUInt32 >>> ((16 : Int32) &&& 31).toUInt32).toInt32).toUInt32 >>> ((4 : Int32) &&& 31).toUInt32).toInt32)), .val (.int (((31 : Int32) + (-16 : Int32)) + (-4 : Int32)))] [(.int ((((31 : Int32) + (-16 : Int32)) + (-4 : Int32)) - ((((((p1.toUInt32 >>> ((16 : Int32) &&& 31).toUInt32).toInt32).toUInt32 >>> ((4 : Int32) &&& 31).toUInt32).toInt32).toUInt32 >>> ((1 : Int32) &&& 31).toUInt32).toInt32)))])) _
              exact retI X0 hx Bd.returns (hb hby d4_78) hr
            · show Q_rmn Z p1 h0 n0 _ s₁.heap _
              rw [e0]
              exact ⟨by rw [own_nlz, if_pos hc1_2, if_neg hc22_4, if_pos hc37_20, if_neg hc51_22, if_pos hc63_26], N0, rfl⟩
          · obtain ⟨fs, hr, hrun, hended, hW, hsame⟩ := X0.leave (v := some (.int (((((31 : Int32) + (-16 : Int32)) + (-4 : Int32)) + (-2 : Int32)) - ((((((((p1.toUInt32 >>> ((16 : Int32) &&& 31).toUInt32).toInt32).toUInt32 >>> ((4 : Int32) &&& 31).toUInt32).toInt32).toUInt32 >>> ((2 : Int32) &&& 31).toUInt32).toInt32).toUInt32 >>> ((1 : Int32) &&& 31).toUInt32).toInt32)))) (fun h => by rw [Bd.returns] at h; cases h)
            refine ⟨_, _, pre25 _ ?_, hrun, hended, _, _, rfl, ?_, ⟨_, rfl⟩, hW, hsame.mono (by decide) (by decide)⟩
            · show Steps p.tables e below (s₁.setTop (mkF m 63 #[.val (.int ((((p1.toUInt32 >>> ((16 : Int32) &&& 31).toUInt32).toInt32).toUInt32 >>> ((4 : Int32) &&& 31).toUInt32).toInt32)), .val (.int (((31 : Int32) + (-16 : Int32)) + (-4 : Int32)))] [(.int (4 : Int32)), (.int ((((p1.toUInt32 >>> ((16 : Int32) &&& 31).toUInt32).toInt32).toUInt32 >>> ((4 : Int32) &&& 31).toUInt32).toInt32))])) _
              refine XS.icmpNo X0.here hx rfl (hb hby d4_63) rfl (flt hc63_26).1 ?_
              show Steps p.tables e below (s₁.setTop (mkF m 66 #[.val (.int ((((p1.toUInt32 >>> ((16 : Int32) &&& 31).toUInt32).toInt32).toUInt32 >>> ((4 : Int32) &&& 31).toUInt32).toInt32)), .val (.int (((31 : Int32) + (-16 : Int32)) + (-4 : Int32)))] [])) _
              refine XS.iinc X0.here hx rfl (hb hby d4_66) rfl (l' := #[.val (.int ((((p1.toUInt32 >>> ((16 : Int32) &&& 31).toUInt32).toInt32).toUInt32 >>> ((4 : Int32) &&& 31).toUInt32).toInt32)), .val (.int ((((31 : Int32) + (-16 : Int32)) + (-4 : Int32)) + (-2 : Int32)))]) rfl ?_
              show Steps p.tables e below (s₁.setTop (mkF m 69 #[.val (.int ((((p1.toUInt32 >>> ((16 : Int32) &&& 31).toUInt32).toInt32).toUInt32 >>> ((4 : Int32) &&& 31).toUInt32).toInt32)), .val (.int ((((31 : Int32) + (-16 : Int32)) + (-4 : Int32)) + (-2 : Int32)))] [])) _
              refine XS.iloadN X0.here hx rfl (hb hby d4_69) rfl ?_
              show Steps p.tables e below (s₁.setTop (mkF m 70 #[.val (.int ((((p1.toUInt32 >>> ((16 : Int32) &&& 31).toUInt32).toInt32).toUInt32 >>> ((4 : Int32) &&& 31).toUInt32).toInt32)), .val (.int ((((31 : Int32) + (-16 : Int32)) + (-4 : Int32)) + (-2 : Int32)))] [(.int ((((p1.toUInt32 >>> ((16 : Int32) &&& 31).toUInt32).toInt32).toUInt32 >>> ((4 : Int32) &&& 31).toUInt32).toInt32))])) _
              refine XS.iconst X0.here hx rfl (hb hby d4_70) ?_
              show Steps p.tables e below (s₁.setTop (mkF m 71 #[.val (.int ((((p1.toUInt32 >>> ((16 : Int32) &&& 31).toUInt32).toInt32).toUInt32 >>> ((4 : Int32) &&& 31).toUInt32).toInt32)), .val (.int ((((31 : Int32) + (-16 : Int32)) + (-4 : Int32)) + (-2 : Int32)))] [(.int (2 : Int32)), (.int ((((p1.toUInt32 >>> ((16 : Int32) &&& 31).toUInt32).toInt32).toUInt32 >>> ((4 : Int32) &&& 31).toUInt32).toInt32))])) _
              refine XS.iushr X0.here hx rfl (hb hby d4_71) rfl ?_
              show Steps p.tables e below (s₁.setTop (mkF m 72 #[.val (.int ((((p1.toUInt32 >>> ((16 : Int32) &&& 31).toUInt32).toInt32).toUInt32 >>> ((4 : Int32) &&& 31).toUInt32).toInt32)), .val (.int ((((31 : Int32) + (-16 : Int32)) + (-4 : Int32)) + (-2 : Int32)))] [(.int ((((((p1.toUInt32 >>> ((16 : Int32) &&& 31).toUInt32).toInt32).toUInt32 >>> ((4 : Int32) &&& 31).toUInt32).toInt32).toUInt32 >>> ((2 : Int32) &&& 31).toUInt32).toInt32))])) _
              refine XS.istoreN X0.here hx rfl (hb hby d4_72) rfl (l' := #[.val (.int ((((((p1.toUInt32 >>> ((16 : Int32) &&& 31).toUInt32).toInt32).toUInt32 >>> ((4 : Int32) &&& 31).toUInt32).toInt32).toUInt32 >>> ((2 : Int32) &&& 31).toUInt32).toInt32)), .val (.int ((((31 : Int32) + (-16 : Int32)) + (-4 : Int32)) + (-2 : Int32)))]) rfl ?_
              show Steps p.tables e below (s₁.setTop (mkF m 73 #[.val (.int ((((((p1.toUInt32 >>> ((16 : Int32) &&& 31).toUInt32).toInt32).toUInt32 >>> ((4 : Int32) &&& 31).toUInt32).toInt32).toUInt32 >>> ((2 : Int32) &&& 31).toUInt32).toInt32)), .val (.int ((((31 : Int32) + (-16 : Int32)) + (-4 : Int32)) + (-2 : Int32)))] [])) _
              refine XS.iloadN X0.here hx rfl (hb hby d4_73) rfl ?_
              show Steps p.tables e below (s₁.setTop (mkF m 74 #[.val (.int ((((((p1.toUInt32 >>> ((16 : Int32) &&& 31).toUInt32).toInt32).toUInt32 >>> ((4 : Int32) &&& 31).toUInt32).toInt32).toUInt32 >>> ((2 : Int32) &&& 31).toUInt32).toInt32)), .val (.int ((((31 : Int32) + (-16 : Int32)) + (-4 : Int32)) + (-2 : Int32)))] [(.int ((((31 : Int32) + (-16 : Int32)) + (-4 : Int32)) + (-2 : Int32)))])) _
              refine XS.iloadN X0.here hx rfl (hb hby d4_74) rfl ?_
              show Steps p.tables e below (s₁.setTop (mkF m 75 #[.val (.int ((((((p1.toUInt32 >>> ((16 : Int32) &&& 31).toUInt32).toInt32).toUInt32 >>> ((4 : Int32) &&& 31).toUInt32).toInt32).toUInt32 >>> ((2 : Int32) &&& 31).toUInt32).toInt32)), .val (.int ((((31 : Int32) + (-16 : Int32)) + (-4 : Int32)) + (-2 : Int32)))] [(.int ((((((p1.toUInt32 >>> ((16 : Int32) &&& 31).toUInt32).toInt32).toUInt32 >>> ((4 : Int32) &&& 31).toUInt32).toInt32).toUInt32 >>> ((2 : Int32) &&& 31).toUInt32).toInt32)), (.int ((((31 : Int32) + (-16 : Int32)) + (-4 : Int32)) + (-2 : Int32)))])) _
              refine XS.iconst X0.here hx rfl (hb hby d4_75) ?_
              show Steps p.tables e below (s₁.setTop (mkF m 76 #[.val (.int ((((((p1.toUInt32 >>> ((16 : Int32) &&& 31).toUInt32).toInt32).toUInt32 >>> ((4 : Int32) &&& 31).toUInt32).toInt32).toUInt32 >>> ((2 : Int32) &&& 31).toUInt32).toInt32)), .val (.int ((((31 : Int32) + (-16 : Int32)) + (-4 : Int32)) + (-2 : Int32)))] [(.int (1 : Int32)), (.int ((((((p1.toUInt32 >>> ((16 : Int32) &&& 31).toUInt32).toInt32).toUInt32 >>> ((4 : Int32) &&& 31).toUInt32).toInt32).toUInt32 >>> ((2 : Int32) &&& 31).toUInt32).toInt32)), (.int ((((31 : Int32) + (-16 : Int32)) + (-4 : Int32)) + (-2 : Int32)))])) _
              refine XS.iushr X0.here hx rfl (hb hby d4_76) rfl ?_
              show Steps p.tables e below (s₁.setTop (mkF m 77 #[.val (.int ((((((p1.toUInt32 >>> ((16 : Int32) &&& 31).toUInt32).toInt32).toUInt32 >>> ((4 : Int32) &&& 31).toUInt32).toInt32).toUInt32 >>> ((2 : Int32) &&& 31).toUInt32).toInt32)), .val (.int ((((31 : Int32) + (-16 : Int32)) + (-4 : Int32)) + (-2 : Int32)))] [(.int ((((((((p1.toUInt32 >>> ((16 : Int32) &&& 31).toUInt32).toInt32).toUInt32 >>> ((4 : Int32) &&& 31).toUInt32).toInt32).toUInt32 >>> ((2 : Int32) &&& 31).toUInt32).toInt32).toUInt32 >>> ((1 : Int32) &&& 31).toUInt32).toInt32)), (.int ((((31 : Int32) + (-16 : Int32)) + (-4 : Int32)) + (-2 : Int32)))])) _
              refine XS.isub X0.here hx rfl (hb hby d4_77) rfl ?_
              show Steps p.tables e below (s₁.setTop (mkF m 78 #[.val (.int ((((((p1.toUInt32 >>> ((16 : Int32) &&& 31).toUInt32).toInt32).toUInt32 >>> ((4 : Int32) &&& 31).toUInt32).toInt32).toUInt32 >>> ((2 : Int32) &&& 31).toUInt32).toInt32)), .val (.int ((((31 : Int32) + (-16 : Int32)) + (-4 : Int32)) + (-2 : Int32)))] [(.int (((((31 : Int32) + (-16 : Int32)) + (-4 : Int32)) + (-2 : Int32)) - ((((((((p1.toUInt32 >>> ((16 : Int32) &&& 31).toUInt32).toInt32).toUInt32 >>> ((4 : Int32) &&& 31).toUInt32).toInt32).toUInt32 >>> ((2 : Int32) &&& 31).toUInt32).toInt32).toUInt32 >>> ((1 : Int32) &&& 31).toUInt32).toInt32)))])) _
              exact retI X0 hx Bd.returns (hb hby d4_78) hr
            · show Q_rmn Z p1 h0 n0 _ s₁.heap _
              rw [e0]
              exact ⟨by rw [own_nlz, if_pos hc1_2, if_neg hc22_4, if_pos hc37_20, if_neg hc51_22, if_neg hc63_26], N0, rfl⟩
      · have pre27 : ∀ t, Steps p.tables e below (s₁.setTop (mkF m 51 #[.val (.int ((((p1.toUInt32 >>> ((16 : Int32) &&& 31).toUInt32).toInt32).toUInt32 >>> ((8 : Int32) &&& 31).toUInt32).toInt32)), .val (.int (((31 : Int32) + (-16 : Int32)) + (-8 : Int32)))] [(.int (16 : Int32)), (.int ((((p1.toUInt32 >>> ((16 : Int32) &&& 31).toUInt32).toInt32).toUInt32 >>> ((8 : Int32) &&& 31).toUInt32).toInt32))])) t → Steps p.tables e below (s₁.setTop (entryFrame m #[(.int p1)] 2)) t := by
          intro t k
          refine pre19 t ?_
          show Steps p.tables e below (s₁.setTop (mkF m 37 #[.val (.int ((p1.toUInt32 >>> ((16 : Int32) &&& 31).toUInt32).toInt32)), .val (.int ((31 : Int32) + (-16 : Int32)))] [(.int (256 : Int32)), (.int ((p1.toUInt32 >>> ((16 : Int32) &&& 31).toUInt32).toInt32))])) _
          refine XS.icmpNo X0.here hx rfl (hb hby d4_37) rfl (flt hc37_20).1 ?_
          show Steps p.tables e below (s₁.setTop (mkF m 40 #[.val (.int ((p1.toUInt32 >>> ((16 : Int32) &&& 31).toUInt32).toInt32)), .val (.int ((31 : Int32) + (-16 : Int32)))] [])) _
          refine XS.iinc X0.here hx rfl (hb hby d4_40) rfl (l' := #[.val (.int ((p1.toUInt32 >>> ((16 : Int32) &&& 31).toUInt32).toInt32)), .val (.int (((31 : Int32) + (-16 : Int32)) + (-8 : Int32)))]) rfl ?_
          show Steps p.tables e below (s₁.setTop (mkF m 43 #[.val (.int ((p1.toUInt32 >>> ((16 : Int32) &&& 31).toUInt32).toInt32)), .val (.int (((31 : Int32) + (-16 : Int32)) + (-8 : Int32)))] [])) _
          refine XS.iloadN X0.here hx rfl (hb hby d4_43) rfl ?_
          show Steps p.tables e below (s₁.setTop (mkF m 44 #[.val (.int ((p1.toUInt32 >>> ((16 : Int32) &&& 31).toUInt32).toInt32)), .val (.int (((31 : Int32) + (-16 : Int32)) + (-8 : Int32)))] [(.int ((p1.toUInt32 >>> ((16 : Int32) &&& 31).toUInt32).toInt32))])) _
          refine XS.bipush X0.here hx rfl (hb hby d4_44) ?_
          show Steps p.tables e below (s₁.setTop (mkF m 46 #[.val (.int ((p1.toUInt32 >>> ((16 : Int32) &&& 31).toUInt32).toInt32)), .val (.int (((31 : Int32) + (-16 : Int32)) + (-8 : Int32)))] [(.int (8 : Int32)), (.int ((p1.toUInt32 >>> ((16 : Int32) &&& 31).toUInt32).toInt32))])) _
          refine XS.iushr X0.here hx rfl (hb hby d4_46) rfl ?_
          show Steps p.tables e below (s₁.setTop (mkF m 47 #[.val (.int ((p1.toUInt32 >>> ((16 : Int32) &&& 31).toUInt32).toInt32)), .val (.int (((31 : Int32) + (-16 : Int32)) + (-8 : Int32)))] [(.int ((((p1.toUInt32 >>> ((16 : Int32) &&& 31).toUInt32).toInt32).toUInt32 >>> ((8 : Int32) &&& 31).toUInt32).toInt32))])) _
          refine XS.istoreN X0.here hx rfl (hb hby d4_47) rfl (l' := #[.val (.int ((((p1.toUInt32 >>> ((16 : Int32) &&& 31).toUInt32).toInt32).toUInt32 >>> ((8 : Int32) &&& 31).toUInt32).toInt32)), .val (.int (((31 : Int32) + (-16 : Int32)) + (-8 : Int32)))]) rfl ?_
          show Steps p.tables e below (s₁.setTop (mkF m 48 #[.val (.int ((((p1.toUInt32 >>> ((16 : Int32) &&& 31).toUInt32).toInt32).toUInt32 >>> ((8 : Int32) &&& 31).toUInt32).toInt32)), .val (.int (((31 : Int32) + (-16 : Int32)) + (-8 : Int32)))] [])) _
          refine XS.iloadN X0.here hx rfl (hb hby d4_48) rfl ?_
          show Steps p.tables e below (s₁.setTop (mkF m 49 #[.val (.int ((((p1.toUInt32 >>> ((16 : Int32) &&& 31).toUInt32).toInt32).toUInt32 >>> ((8 : Int32) &&& 31).toUInt32).toInt32)), .val (.int (((31 : Int32) + (-16 : Int32)) + (-8 : Int32)))] [(.int ((((p1.toUInt32 >>> ((16 : Int32) &&& 31).toUInt32).toInt32).toUInt32 >>> ((8 : Int32) &&& 31).toUInt32).toInt32))])) _
          refine XS.bipush X0.here hx rfl (hb hby d4_49) ?_
          exact k
        by_cases hc51_28 : ((((p1.toUInt32 >>> ((16 : Int32) &&& 31).toUInt32).toInt32).toUInt32 >>> ((8 : Int32) &&& 31).toUInt32).toInt32) < (16 : Int32)
        · have pre29 : ∀ t, Steps p.tables e below (s₁.setTop (mkF m 63 #[.val (.int ((((p1.toUInt32 >>> ((16 : Int32) &&& 31).toUInt32).toInt32).toUInt32 >>> ((8 : Int32) &&& 31).toUInt32).toInt32)), .val (.int (((31 : Int32) + (-16 : Int32)) + (-8 : Int32)))] [(.int (4 : Int32)), (.int ((((p1.toUInt32 >>> ((16 : Int32) &&& 31).toUInt32).toInt32).toUInt32 >>> ((8 : Int32) &&& 31).toUInt32).toInt32))])) t → Steps p.tables e below (s₁.setTop (entryFrame m #[(.int p1)] 2)) t := by
            intro t k
            refine pre27 t ?_
            show Steps p.tables e below (s₁.setTop (mkF m 51 #[.val (.int ((((p1.toUInt32 >>> ((16 : Int32) &&& 31).toUInt32).toInt32).toUInt32 >>> ((8 : Int32) &&& 31).toUInt32).toInt32)), .val (.int (((31 : Int32) + (-16 : Int32)) + (-8 : Int32)))] [(.int (16 : Int32)), (.int ((((p1.toUInt32 >>> ((16 : Int32) &&& 31).toUInt32).toInt32).toUInt32 >>> ((8 : Int32) &&& 31).toUInt32).toInt32))])) _
            refine XS.icmpYes X0.here hx rfl (pc0 := 51) (pc' := 61) rfl (hb hby d4_51) rfl (tlt hc51_28).1 (by decide) (by decide) ?_
            show Steps p.tables e below (s₁.setTop (mkF m 61 #[.val (.int ((((p1.toUInt32 >>> ((16 : Int32) &&& 31).toUInt32).toInt32).toUInt32 >>> ((8 : Int32) &&& 31).toUInt32).toInt32)), .val (.int (((31 : Int32) + (-16 : Int32)) + (-8 : Int32)))] [])) _
            refine XS.iloadN X0.here hx rfl (hb hby d4_61) rfl ?_
            show Steps p.tables e below (s₁.setTop (mkF m 62 #[.val (.int ((((p1.toUInt32 >>> ((16 : Int32) &&& 31).toUInt32).toInt32).toUInt32 >>> ((8 : Int32) &&& 31).toUInt32).toInt32)), .val (.int (((31 : Int32) + (-16 : Int32)) + (-8 : Int32)))] [(.int ((((p1.toUInt32 >>> ((16 : Int32) &&& 31).toUInt32).toInt32).toUInt32 >>> ((8 : Int32) &&& 31).toUInt32).toInt32))])) _
            refine XS.iconst X0.here hx rfl (hb hby d4_62) ?_
            exact k
          by_cases hc63_30 : ((((p1.toUInt32 >>> ((16 : Int32) &&& 31).toUInt32).toInt32).toUInt32 >>> ((8 : Int32) &&& 31).toUInt32).toInt32) < (4 : Int32)
          · obtain ⟨fs, hr, hrun, hended, hW, hsame⟩ := X0.leave (v := some (.int ((((31 : Int32) + (-16 : Int32)) + (-8 : Int32)) - ((((((p1.toUInt32 >>> ((16 : Int32) &&& 31).toUInt32).toInt32).toUInt32 >>> ((8 : Int32) &&& 31).toUInt32).toInt32).toUInt32 >>> ((1 : Int32) &&& 31).toUInt32).toInt32)))) (fun h => by rw [Bd.returns] at h; cases h)
            refine ⟨_, _, pre29 _ ?_, hrun, hended, _, _, rfl, ?_, ⟨_, rfl⟩, hW, hsame.mono (by decide) (by decide)⟩
            · show Steps p.tables e below (s₁.setTop (mkF m 63 #[.val (.int ((((p1.toUInt32 >>> ((16 : Int32) &&& 31).toUInt32).toInt32).toUInt32 >>> ((8 : Int32) &&& 31).toUInt32).toInt32)), .val (.int (((31 : Int32) + (-16 : Int32)) + (-8 : Int32)))] [(.int (4 : Int32)), (.int ((((p1.toUInt32 >>> ((16 : Int32) &&& 31).toUInt32).toInt32).toUInt32 >>> ((8 : Int32) &&& 31).toUInt32).toInt32))])) _
              refine XS.icmpYes X0.here hx rfl (pc0 := 63) (pc' := 73) rfl (hb hby d4_63) rfl (tlt hc63_30).1 (by decide) (by decide) ?_
              show Steps p.tables e below (s₁.setTop (mkF m 73 #[.val (.int ((((p1.toUInt32 >>> ((16 : Int32) &&& 31).toUInt32).toInt32).toUInt32 >>> ((8 : Int32) &&& 31).toUInt32).toInt32)), .val (.int (((31 : Int32) + (-16 : Int32)) + (-8 : Int32)))] [])) _
              refine XS.iloadN X0.here hx rfl (hb hby d4_73) rfl ?_
              show Steps p.tables e below (s₁.setTop (mkF m 74 #[.val (.int ((((p1.toUInt32 >>> ((16 : Int32) &&& 31).toUInt32).toInt32).toUInt32 >>> ((8 : Int32) &&& 31).toUInt32).toInt32)), .val (.int (((31 : Int32) + (-16 : Int32)) + (-8 : Int32)))] [(.int (((31 : Int32) + (-16 : Int32)) + (-8 : Int32)))])) _
              refine XS.iloadN X0.here hx rfl (hb hby d4_74) rfl ?_
              show Steps p.tables e below (s₁.setTop (mkF m 75 #[.val (.int ((((p1.toUInt32 >>> ((16 : Int32) &&& 31).toUInt32).toInt32).toUInt32 >>> ((8 : Int32) &&& 31).toUInt32).toInt32)), .val (.int (((31 : Int32) + (-16 : Int32)) + (-8 : Int32)))] [(.int ((((p1.toUInt32 >>> ((16 : Int32) &&& 31).toUInt32).toInt32).toUInt32 >>> ((8 : Int32) &&& 31).toUInt32).toInt32)), (.int (((31 : Int32) + (-16 : Int32)) + (-8 : Int32)))])) _
              refine XS.iconst X0.here hx rfl (hb hby d4_75) ?_
              show Steps p.tables e below (s₁.setTop (mkF m 76 #[.val (.int ((((p1.toUInt32 >>> ((16 : Int32) &&& 31).toUInt32).toInt32).toUInt32 >>> ((8 : Int32) &&& 31).toUInt32).toInt32)), .val (.int (((31 : Int32) + (-16 : Int32)) + (-8 : Int32)))] [(.int (1 : Int32)), (.int ((((p1.toUInt32 >>> ((16 : Int32) &&& 31).toUInt32).toInt32).toUInt32 >>> ((8 : Int32) &&& 31).toUInt32).toInt32)), (.int (((31 : Int32) + (-16 : Int32)) + (-8 : Int32)))])) _
              refine XS.iushr X0.here hx rfl (hb hby d4_76) rfl ?_
              show Steps p.tables e below (s₁.setTop (mkF m 77 #[.val (.int ((((p1.toUInt32 >>> ((16 : Int32) &&& 31).toUInt32).toInt32).toUInt32 >>> ((8 : Int32) &&& 31).toUInt32).toInt32)), .val (.int (((31 : Int32) + (-16 : Int32)) + (-8 : Int32)))] [(.int ((((((p1.toUInt32 >>> ((16 : Int32) &&& 31).toUInt32).toInt32).toUInt32 >>> ((8 : Int32) &&& 31).toUInt32).toInt32).toUInt32 >>> ((1 : Int32) &&& 31).toUInt32).toInt32)), (.int (((31 : Int32) + (-16 : Int32)) + (-8 : Int32)))])) _
              refine XS.isub X0.here hx rfl (hb hby d4_77) rfl ?_
              show Steps p.tables e below (s₁.setTop (mkF m 78 #[.val (.int ((((p1.toUInt32 >>> ((16 : Int32) &&& 31).toUInt32).toInt32).toUInt32 >>> ((8 : Int32) &&& 31).toUInt32).toInt32)), .val (.int (((31 : Int32) + (-16 : Int32)) + (-8 : Int32)))] [(.int ((((31 : Int32) + (-16 : Int32)) + (-8 : Int32)) - ((((((p1.toUInt32 >>> ((16 : Int32) &&& 31).toUInt32).toInt32).toUInt32 >>> ((8 : Int32) &&& 31).toUInt32).toInt32).toUInt32 >>> ((1 : Int32) &&& 31).toUInt32).toInt32)))])) _
              exact retI X0 hx Bd.returns (hb hby d4_78) hr
            · show Q_rmn Z p1 h0 n0 _ s₁.heap _
              rw [e0]
              exact ⟨by rw [own_nlz, if_pos hc1_2, if_neg hc22_4, if_neg hc37_20, if_pos hc51_28, if_pos hc63_30], N0, rfl⟩
          · obtain ⟨fs, hr, hrun, hended, hW, hsame⟩ := X0.leave (v := some (.int (((((31 : Int32) + (-16 : Int32)) + (-8 : Int32)) + (-2 : Int32)) - ((((((((p1.toUInt32 >>> ((16 : Int32) &&& 31).toUInt32).toInt32).toUInt32 >>> ((8 : Int32) &&& 31).toUInt32).toInt32).toUInt32 >>> ((2 : Int32) &&& 31).toUInt32).toInt32).toUInt32 >>> ((1 : Int32) &&& 31).toUInt32).toInt32)))) (fun h => by rw [Bd.returns] at h; cases h)
            refine ⟨_, _, pre29 _ ?_, hrun, hended, _, _, rfl, ?_, ⟨_, rfl⟩, hW, hsame.mono (by decide) (by decide)⟩
            · show Steps p.tables e below (s₁.setTop (mkF m 63 #[.val (.int ((((p1.toUInt32 >>> ((16 : Int32) &&& 31).toUInt32).toInt32).toUInt32 >>> ((8 : Int32) &&& 31).toUInt32).toInt32)), .val (.int (((31 : Int32) + (-16 : Int32)) + (-8 : Int32)))] [(.int (4 : Int32)), (.int ((((p1.toUInt32 >>> ((16 : Int32) &&& 31).toUInt32).toInt32).toUInt32 >>> ((8 : Int32) &&& 31).toUInt32).toInt32))])) _
              refine XS.icmpNo X0.here hx rfl (hb hby d4_63) rfl (flt hc63_30).1 ?_
              show Steps p.tables e below (s₁.setTop (mkF m 66 #[.val (.int ((((p1.toUInt32 >>> ((16 : Int32) &&& 31).toUInt32).toInt32).toUInt32 >>> ((8 : Int32) &&& 31).toUInt32).toInt32)), .val (.int (((31 : Int32) + (-16 : Int32)) + (-8 : Int32)))] [])) _
              refine XS.iinc X0.here hx rfl (hb hby d4_66) rfl (l' := #[.val (.int ((((p1.toUInt32 >>> ((16 : Int32) &&& 31).toUInt32).toInt32).toUInt32 >>> ((8 : Int32) &&& 31).toUInt32).toInt32)), .val (.int ((((31 : Int32) + (-16 : Int32)) + (-8 : Int32)) + (-2 : Int32)))]) rfl ?_
              show Steps p.tables e below (s₁.setTop (mkF m 69 #[.val (.int ((((p1.toUInt32 >>> ((16 : Int32) &&& 31).toUInt32).toInt32).toUInt32 >>> ((8 : Int32) &&& 31).toUInt32).toInt32)), .val (.int ((((31 : Int32) + (-16 : Int32)) + (-8 : Int32)) + (-2 : Int32)))] [])) _
              refine XS.iloadN X0.here hx rfl (hb hby d4_69) rfl ?_
              show Steps p.tables e below (s₁.setTop (mkF m 70 #[.val (.int ((((p1.toUInt32 >>> ((16 : Int32) &&& 31).toUInt32).toInt32).toUInt32 >>> ((8 : Int32) &&& 31).toUInt32).toInt32)), .val (.int ((((31 : Int32) + (-16 : Int32)) + (-8 : Int32)) + (-2 : Int32)))] [(.int ((((p1.toUInt32 >>> ((16 : Int32) &&& 31).toUInt32).toInt32).toUInt32 >>> ((8 : Int32) &&& 31).toUInt32).toInt32))])) _
              refine XS.iconst X0.here hx rfl (hb hby d4_70) ?_
              show Steps p.tables e below (s₁.setTop (mkF m 71 #[.val (.int ((((p1.toUInt32 >>> ((16 : Int32) &&& 31).toUInt32).toInt32).toUInt32 >>> ((8 : Int32) &&& 31).toUInt32).toInt32)), .val (.int ((((31 : Int32) + (-16 : Int32)) + (-8 : Int32)) + (-2 : Int32)))] [(.int (2 : Int32)), (.int ((((p1.toUInt32 >>> ((16 : Int32) &&& 31).toUInt32).toInt32).toUInt32 >>> ((8 : Int32) &&& 31).toUInt32).toInt32))])) _
              refine XS.iushr X0.here hx rfl (hb hby d4_71) rfl ?_
              show Steps p.tables e below (s₁.setTop (mkF m 72 #[.val (.int ((((p1.toUInt32 >>> ((16 : Int32) &&& 31).toUInt32).toInt32).toUInt32 >>> ((8 : Int32) &&& 31).toUInt32).toInt32)), .val (.int ((((31 : Int32) + (-16 : Int32)) + (-8 : Int32)) + (-2 : Int32)))] [(.int ((((((p1.toUInt32 >>> ((16 : Int32) &&& 31).toUInt32).toInt32).toUInt32 >>> ((8 : Int32) &&& 31).toUInt32).toInt32).toUInt32 >>> ((2 : Int32) &&& 31).toUInt32).toInt32))])) _
              refine XS.istoreN X0.here hx rfl (hb hby d4_72) rfl (l' := #[.val (.int ((((((p1.toUInt32 >>> ((16 : Int32) &&& 31).toUInt32).toInt32).toUInt32 >>> ((8 : Int32) &&& 31).toUInt32).toInt32).toUInt32 >>> ((2 : Int32) &&& 31).toUInt32).toInt32)), .val (.int ((((31 : Int32) + (-16 : Int32)) + (-8 : Int32)) + (-2 : Int32)))]) rfl ?_
              show Steps p.tables e below (s₁.setTop (mkF m 73 #[.val (.int ((((((p1.toUInt32 >>> ((16 : Int32) &&& 31).toUInt32).toInt32).toUInt32 >>> ((8 : Int32) &&& 31).toUInt32).toInt32).toUInt32 >>> ((2 : Int32) &&& 31).toUInt32).toInt32)), .val (.int ((((31 : Int32) + (-16 : Int32)) + (-8 : Int32)) + (-2 : Int32)))] [])) _
              refine XS.iloadN X0.here hx rfl (hb hby d4_73) rfl ?_
              show Steps p.tables e below (s₁.setTop (mkF m 74 #[.val (.int ((((((p1.toUInt32 >>> ((16 : Int32) &&& 31).toUInt32).toInt32).toUInt32 >>> ((8 : Int32) &&& 31).toUInt32).toInt32).toUInt32 >>> ((2 : Int32) &&& 31).toUInt32).toInt32)), .val (.int ((((31 : Int32) + (-16 : Int32)) + (-8 : Int32)) + (-2 : Int32)))] [(.int ((((31 : Int32) + (-16 : Int32)) + (-8 : Int32)) + (-2 : Int32)))])) _
              refine XS.iloadN X0.here hx rfl (hb hby d4_74) rfl ?_
              show Steps p.tables e below (s₁.setTop (mkF m 75 #[.val (.int ((((((p1.toUInt32 >>> ((16 : Int32) &&& 31).toUInt32).toInt32).toUInt32 >>> ((8 : Int32) &&& 31).toUInt32).toInt32).toUInt32 >>> ((2 : Int32) &&& 31).toUInt32).toInt32)), .val (.int ((((31 : Int32) + (-16 : Int32)) + (-8 : Int32)) + (-2 : Int32)))] [(.int ((((((p1.toUInt32 >>> ((16 : Int32) &&& 31).toUInt32).toInt32).toUInt32 >>> ((8 : Int32) &&& 31).toUInt32).toInt32).toUInt32 >>> ((2 : Int32) &&& 31).toUInt32).toInt32)), (.int ((((31 : Int32) + (-16 : Int32)) + (-8 : Int32)) + (-2 : Int32)))])) _
              refine XS.iconst X0.here hx rfl (hb hby d4_75) ?_
              show Steps p.tables e below (s₁.setTop (mkF m 76 #[.val (.int ((((((p1.toUInt32 >>> ((16 : Int32) &&& 31).toUInt32).toInt32).toUInt32 >>> ((8 : Int32) &&& 31).toUInt32).toInt32).toUInt32 >>> ((2 : Int32) &&& 31).toUInt32).toInt32)), .val (.int ((((31 : Int32) + (-16 : Int32)) + (-8 : Int32)) + (-2 : Int32)))] [(.int (1 : Int32)), (.int ((((((p1.toUInt32 >>> ((16 : Int32) &&& 31).toUInt32).toInt32).toUInt32 >>> ((8 : Int32) &&& 31).toUInt32).toInt32).toUInt32 >>> ((2 : Int32) &&& 31).toUInt32).toInt32)), (.int ((((31 : Int32) + (-16 : Int32)) + (-8 : Int32)) + (-2 : Int32)))])) _
              refine XS.iushr X0.here hx rfl (hb hby d4_76) rfl ?_
              show Steps p.tables e below (s₁.setTop (mkF m 77 #[.val (.int ((((((p1.toUInt32 >>> ((16 : Int32) &&& 31).toUInt32).toInt32).toUInt32 >>> ((8 : Int32) &&& 31).toUInt32).toInt32).toUInt32 >>> ((2 : Int32) &&& 31).toUInt32).toInt32)), .val (.int ((((31 : Int32) + (-16 : Int32)) + (-8 : Int32)) + (-2 : Int32)))] [(.int ((((((((p1.toUInt32 >>> ((16 : Int32) &&& 31).toUInt32).toInt32).toUInt32 >>> ((8 : Int32) &&& 31).toUInt32).toInt32).toUInt32 >>> ((2 : Int32) &&& 31).toUInt32).toInt32).toUInt32 >>> ((1 : Int32) &&& 31).toUInt32).toInt32)), (.int ((((31 : Int32) + (-16 : Int32)) + (-8 : Int32)) + (-2 : Int32)))])) _
              refine XS.isub X0.here hx rfl (hb hby d4_77) rfl ?_
              show Steps p.tables e below (s₁.setTop (mkF m 78 #[.val (.int ((((((p1.toUInt32 >>> ((16 : Int32) &&& 31).toUInt32).toInt32).toUInt32 >>> ((8 : Int32) &&& 31).toUInt32).toInt32).toUInt32 >>> ((2 : Int32) &&& 31).toUInt32).toInt32)), .val (.int ((((31 : Int32) + (-16 : Int32)) + (-8 : Int32)) + (-2 : Int32)))] [(.int (((((31 : Int32) + (-16 : Int32)) + (-8 : Int32)) + (-2 : Int32)) - ((((((((p1.toUInt32 >>> ((16 : Int32) &&& 31).toUInt32).toInt32).toUInt32 >>> ((8 : Int32) &&& 31).toUInt32).toInt32).toUInt32 >>> ((2 : Int32) &&& 31).toUInt32).toInt32).toUInt32 >>> ((1 : Int32) &&& 31).toUInt32).toInt32)))])) _
              exact retI X0 hx Bd.returns (hb hby d4_78) hr
            · show Q_rmn Z p1 h0 n0 _ s₁.heap _
              rw [e0]
              exact ⟨by rw [own_nlz, if_pos hc1_2, if_neg hc22_4, if_neg hc37_20, if_pos hc51_28, if_neg hc63_30], N0, rfl⟩
        · have pre31 : ∀ t, Steps p.tables e below (s₁.setTop (mkF m 63 #[.val (.int ((((((p1.toUInt32 >>> ((16 : Int32) &&& 31).toUInt32).toInt32).toUInt32 >>> ((8 : Int32) &&& 31).toUInt32).toInt32).toUInt32 >>> ((4 : Int32) &&& 31).toUInt32).toInt32)), .val (.int ((((31 : Int32) + (-16 : Int32)) + (-8 : Int32)) + (-4 : Int32)))] [(.int (4 : Int32)), (.int ((((((p1.toUInt32 >>> ((16 : Int32) &&& 31).toUInt32).toInt32).toUInt32 >>> ((8 : Int32) &&& 31).toUInt32).toInt32).toUInt32 >>> ((4 : Int32) &&& 31).toUInt32).toInt32))])) t → Steps p.tables e below (s₁.setTop (entryFrame m #[(.int p1)] 2)) t := by
            intro t k
            refine pre27 t ?_
            show Steps p.tables e below (s₁.setTop (mkF m 51 #[.val (.int ((((p1.toUInt32 >>> ((16 : Int32) &&& 31).toUInt32).toInt32).toUInt32 >>> ((8 : Int32) &&& 31).toUInt32).toInt32)), .val (.int (((31 : Int32) + (-16 : Int32)) + (-8 : Int32)))] [(.int (16 : Int32)), (.int ((((p1.toUInt32 >>> ((16 : Int32) &&& 31).toUInt32).toInt32).toUInt32 >>> ((8 : Int32) &&& 31).toUInt32).toInt32))])) _
            refine XS.icmpNo X0.here hx rfl (hb hby d4_51) rfl (flt hc51_28).1 ?_
            show Steps p.tables e below (s₁.setTop (mkF m 54 #[.val (.int ((((p1.toUInt32 >>> ((16 : Int32) &&& 31).toUInt32).toInt32).toUInt32 >>> ((8 : Int32) &&& 31).toUInt32).toInt32)), .val (.int (((31 : Int32) + (-16 : Int32)) + (-8 : Int32)))] [])) _
            refine XS.iinc X0.here hx rfl (hb hby d4_54) rfl (l' := #[.val (.int ((((p1.toUInt32 >>> ((16 : Int32) &&& 31).toUInt32).toInt32).toUInt32 >>> ((8 : Int32) &&& 31).toUInt32).toInt32)), .val (.int ((((31 : Int32) + (-16 : Int32)) + (-8 : Int32)) + (-4 : Int32)))]) rfl ?_
            show Steps p.tables e below (s₁.setTop (mkF m 57 #[.val (.int ((((p1.toUInt32 >>> ((16 : Int32) &&& 31).toUInt32).toInt32).toUInt32 >>> ((8 : Int32) &&& 31).toUInt32).toInt32)), .val (.int ((((31 : Int32) + (-16 : Int32)) + (-8 : Int32)) + (-4 : Int32)))] [])) _
            refine XS.iloadN X0.here hx rfl (hb hby d4_57) rfl ?_
            show Steps p.tables e below (s₁.setTop (mkF m 58 #[.val (.int ((((p1.toUInt32 >>> ((16 : Int32) &&& 31).toUInt32).toInt32).toUInt32 >>> ((8 : Int32) &&& 31).toUInt32).toInt32)), .val (.int ((((31 : Int32) + (-16 : Int32)) + (-8 : Int32)) + (-4 : Int32)))] [(.int ((((p1.toUInt32 >>> ((16 : Int32) &&& 31).toUInt32).toInt32).toUInt32 >>> ((8 : Int32) &&& 31).toUInt32).toInt32))])) _
            refine XS.iconst X0.here hx rfl (hb hby d4_58) ?_
            show Steps p.tables e below (s₁.setTop (mkF m 59 #[.val (.int ((((p1.toUInt32 >>> ((16 : Int32) &&& 31).toUInt32).toInt32).toUInt32 >>> ((8 : Int32) &&& 31).toUInt32).toInt32)), .val (.int ((((31 : Int32) + (-16 : Int32)) + (-8 : Int32)) + (-4 : Int32)))] [(.int (4 : Int32)), (.int ((((p1.toUInt32 >>> ((16 : Int32) &&& 31).toUInt32).toInt32).toUInt32 >>> ((8 : Int32) &&& 31).toUInt32).toInt32))])) _
            refine XS.iushr X0.here hx rfl (hb hby d4_59) rfl ?_
            show Steps p.tables e below (s₁.setTop (mkF m 60 #[.val (.int ((((p1.toUInt32 >>> ((16 : Int32) &&& 31).toUInt32).toInt32).toUInt32 >>> ((8 : Int32) &&& 31).toUInt32).toInt32)), .val (.int ((((31 : Int32) + (-16 : Int32)) + (-8 : Int32)) + (-4 : Int32)))] [(.int ((((((p1.toUInt32 >>> ((16 : Int32) &&& 31).toUInt32).toInt32).toUInt32 >>> ((8 : Int32) &&& 31).toUInt32).toInt32).toUInt32 >>> ((4 : Int32) &&& 31).toUInt32).toInt32))])) _
            refine XS.istoreN X0.here hx rfl (hb hby d4_60) rfl (l' := #[.val (.int ((((((p1.toUInt32 >>> ((16 : Int32) &&& 31).toUInt32).toInt32).toUInt32 >>> ((8 : Int32) &&& 31).toUInt32).toInt32).toUInt32 >>> ((4 : Int32) &&& 31).toUInt32).toInt32)), .val (.int ((((31 : Int32) + (-16 : Int32)) + (-8 : Int32)) + (-4 : Int32)))]) rfl ?_
            show Steps p.tables e below (s₁.setTop (mkF m 61 #[.val (.int ((((((p1.toUInt32 >>> ((16 : Int32) &&& 31).toUInt32).toInt32).toUInt32 >>> ((8 : Int32) &&& 31).toUInt32).toInt32).toUInt32 >>> ((4 : Int32) &&& 31).toUInt32).toInt32)), .val (.int ((((31 : Int32) + (-16 : Int32)) + (-8 : Int32)) + (-4 : Int32)))] [])) _
            refine XS.iloadN X0.here hx rfl (hb hby d4_61) rfl ?_
            show Steps p.tables e below (s₁.setTop (mkF m 62 #[.val (.int ((((((p1.toUInt32 >>> ((16 : Int32) &&& 31).toUInt32).toInt32).toUInt32 >>> ((8 : Int32) &&& 31).toUInt32).toInt32).toUInt32 >>> ((4 : Int32) &&& 31).toUInt32).toInt32)), .val (.int ((((31 : Int32) + (-16 : Int32)) + (-8 : Int32)) + (-4 : Int32)))] [(.int ((((((p1.toUInt32 >>> ((16 : Int32) &&& 31).toUInt32).toInt32).toUInt32 >>> ((8 : Int32) &&& 31).toUInt32).toInt32).toUInt32 >>> ((4 : Int32) &&& 31).toUInt32).toInt32))])) _
            refine XS.iconst X0.here hx rfl (hb hby d4_62) ?_
            exact k
          by_cases hc63_32 : ((((((p1.toUInt32 >>> ((16 : Int32) &&& 31).toUInt32).toInt32).toUInt32 >>> ((8 : Int32) &&& 31).toUInt32).toInt32).toUInt32 >>> ((4 : Int32) &&& 31).toUInt32).toInt32) < (4 : Int32)
          · obtain ⟨fs, hr, hrun, hended, hW, hsame⟩ := X0.leave (v := some (.int (((((31 : Int32) + (-16 : Int32)) + (-8 : Int32)) + (-4 : Int32)) - ((((((((p1.toUInt32 >>> ((16 : Int32) &&& 31).toUInt32).toInt32).toUInt32 >>> ((8 : Int32) &&& 31).toUInt32).toInt32).toUInt32 >>> ((4 : Int32) &&& 31).toUInt32).toInt32).toUInt32 >>> ((1 : Int32) &&& 31).toUInt32).toInt32)))) (fun h => by rw [Bd.returns] at h; cases h)
            refine ⟨_, _, pre31 _ ?_, hrun, hended, _, _, rfl, ?_, ⟨_, rfl⟩, hW, hsame.mono (by decide) (by decide)⟩
            · show Steps p.tables e below (s₁.setTop (mkF m 63 #[.val (.int ((((((p1.toUInt32 >>> ((16 : Int32) &&& 31).toUInt32).toInt32).toUInt32 >>> ((8 : Int32) &&& 31).toUInt32).toInt32).toUInt32 >>> ((4 : Int32) &&& 31).toUInt32).toInt32)), .val (.int ((((31 : Int32) + (-16 : Int32)) + (-8 : Int32)) + (-4 : Int32)))] [(.int (4 : Int32)), (.int ((((((p1.toUInt32 >>> ((16 : Int32) &&& 31).toUInt32).toInt32).toUInt32 >>> ((8 : Int32) &&& 31).toUInt32).toInt32).toUInt32 >>> ((4 : Int32) &&& 31).toUInt32).toInt32))])) _
              refine XS.icmpYes X0.here hx rfl (pc0 := 63) (pc' := 73) rfl (hb hby d4_63) rfl (tlt hc63_32).1 (by decide) (by decide) ?_
              show Steps p.tables e below (s₁.setTop (mkF m 73 #[.val (.int ((((((p1.toUInt32 >>> ((16 : Int32) &&& 31).toUInt32).toInt32).toUInt32 >>> ((8 : Int32) &&& 31).toUInt32).toInt32).toUInt32 >>> ((4 : Int32) &&& 31).toUInt32).toInt32)), .val (.int ((((31 : Int32) + (-16 : Int32)) + (-8 : Int32)) + (-4 : Int32)))] [])) _
              refine XS.iloadN X0.here hx rfl (hb hby d4_73) rfl ?_
              show Steps p.tables e below (s₁.setTop (mkF m 74 #[.val (.int ((((((p1.toUInt32 >>> ((16 : Int32) &&& 31).toUInt32).toInt32).toUInt32 >>> ((8 : Int32) &&& 31).toUInt32).toInt32).toUInt32 >>> ((4 : Int32) &&& 31).toUInt32).toInt32)), .val (.int ((((31 : Int32) + (-16 : Int32)) + (-8 : Int32)) + (-4 : Int32)))] [(.int ((((31 : Int32) + (-16 : Int32)) + (-8 : Int32)) + (-4 : Int32)))])) _
              refine XS.iloadN X0.here hx rfl (hb hby d4_74) rfl ?_
              show Steps p.tables e below (s₁.setTop (mkF m 75 #[.val (.int ((((((p1.toUInt32 >>> ((16 : Int32) &&& 31).toUInt32).toInt32).toUInt32 >>> ((8 : Int32) &&& 31).toUInt32).toInt32).toUInt32 >>> ((4 : Int32) &&& 31).toUInt32).toInt32)), .val (.int ((((31 : Int32) + (-16 : Int32)) + (-8 : Int32)) + (-4 : Int32)))] [(.int ((((((p1.toUInt32 >>> ((16 : Int32) &&& 31).toUInt32).toInt32).toUInt32 >>> ((8 : Int32) &&& 31).toUInt32).toInt32).toUInt32 >>> ((4 : Int32) &&& 31).toUInt32).toInt32)), (.int ((((31 : Int32) + (-16 : Int32)) + (-8 : Int32)) + (-4 : Int32)))])) _
              refine XS.iconst X0.here hx rfl (hb hby d4_75) ?_
              show Steps p.tables e below (s₁.setTop (mkF m 76 #[.val (.int ((((((p1.toUInt32 >>> ((16 : Int32) &&& 31).toUInt32).toInt32).toUInt32 >>> ((8 : Int32) &&& 31).toUInt32).toInt32).toUInt32 >>> ((4 : Int32) &&& 31).toUInt32).toInt32)), .val (.int ((((31 : Int32) + (-16 : Int32)) + (-8 : Int32)) + (-4 : Int32)))] [(.int (1 : Int32)), (.int ((((((p1.toUInt32 >>> ((16 : Int32) &&& 31).toUInt32).toInt32).toUInt32 >>> ((8 : Int32) &&& 31).toUInt32).toInt32).toUInt32 >>> ((4 : Int32) &&& 31).toUInt32).toInt32)), (.int ((((31 : Int32) + (-16 : Int32)) + (-8 : Int32)) + (-4 : Int32)))])) _
              refine XS.iushr X0.here hx rfl (hb hby d4_76) rfl ?_
              show Steps p.tables e below (s₁.setTop (mkF m 77 #[.val (.int ((((((p1.toUInt32 >>> ((16 : Int32) &&& 31).toUInt32).toInt32).toUInt32 >>> ((8 : Int32) &&& 31).toUInt32).toInt32).toUInt32 >>> ((4 : Int32) &&& 31).toUInt32).toInt32)), .val (.int ((((31 : Int32) + (-16 : Int32)) + (-8 : Int32)) + (-4 : Int32)))] [(.int ((((((((p1.toUInt32 >>> ((16 : Int32) &&& 31).toUInt32).toInt32).toUInt32 >>> ((8 : Int32) &&& 31).toUInt32).toInt32).toUInt32 >>> ((4 : Int32) &&& 31).toUInt32).toInt32).toUInt32 >>> ((1 : Int32) &&& 31).toUInt32).toInt32)), (.int ((((31 : Int32) + (-16 : Int32)) + (-8 : Int32)) + (-4 : Int32)))])) _
              refine XS.isub X0.here hx rfl (hb hby d4_77) rfl ?_
              show Steps p.tables e below (s₁.setTop (mkF m 78 #[.val (.int ((((((p1.toUInt32 >>> ((16 : Int32) &&& 31).toUInt32).toInt32).toUInt32 >>> ((8 : Int32) &&& 31).toUInt32).toInt32).toUInt32 >>> ((4 : Int32) &&& 31).toUInt32).toInt32)), .val (.int ((((31 : Int32) + (-16 : Int32)) + (-8 : Int32)) + (-4 : Int32)))] [(.int (((((31 : Int32) + (-16 : Int32)) + (-8 : Int32)) + (-4 : Int32)) - ((((((((p1.toUInt32 >>> ((16 : Int32) &&& 31).toUInt32).toInt32).toUInt32 >>> ((8 : Int32) &&& 31).toUInt32).toInt32).toUInt32 >>> ((4 : Int32) &&& 31).toUInt32).toInt32).toUInt32 >>> ((1 : Int32) &&& 31).toUInt32).toInt32)))])) _
              exact retI X0 hx Bd.returns (hb hby d4_78) hr
            · show Q_rmn Z p1 h0 n0 _ s₁.heap _
              rw [e0]
              exact ⟨by rw [own_nlz, if_pos hc1_2, if_neg hc22_4, if_neg hc37_20, if_neg hc51_28, if_pos hc63_32], N0, rfl⟩
          · obtain ⟨fs, hr, hrun, hended, hW, hsame⟩ := X0.leave (v := some (.int ((((((31 : Int32) + (-16 : Int32)) + (-8 : Int32)) + (-4 : Int32)) + (-2 : Int32)) - ((((((((((p1.toUInt32 >>> ((16 : Int32) &&& 31).toUInt32).toInt32).toUInt32 >>> ((8 : Int32) &&& 31).toUInt32).toInt32).toUInt32 >>> ((4 : Int32) &&& 31).toUInt32).toInt32).toUInt32 >>> ((2 : Int32) &&& 31).toUInt32).toInt32).toUInt32 >>> ((1 : Int32) &&& 31).toUInt32).toInt32)))) (fun h => by rw [Bd.returns] at h; cases h)
            refine ⟨_, _, pre31 _ ?_, hrun, hended, _, _, rfl, ?_, ⟨_, rfl⟩, hW, hsame.mono (by decide) (by decide)⟩
            · show Steps p.tables e below (s₁.setTop (mkF m 63 #[.val (.int ((((((p1.toUInt32 >>> ((16 : Int32) &&& 31).toUInt32).toInt32).toUInt32 >>> ((8 : Int32) &&& 31).toUInt32).toInt32).toUInt32 >>> ((4 : Int32) &&& 31).toUInt32).toInt32)), .val (.int ((((31 : Int32) + (-16 : Int32)) + (-8 : Int32)) + (-4 : Int32)))] [(.int (4 : Int32)), (.int ((((((p1.toUInt32 >>> ((16 : Int32) &&& 31).toUInt32).toInt32).toUInt32 >>> ((8 : Int32) &&& 31).toUInt32).toInt32).toUInt32 >>> ((4 : Int32) &&& 31).toUInt32).toInt32))])) _
              refine XS.icmpNo X0.here hx rfl (hb hby d4_63) rfl (flt hc63_32).1 ?_
              show Steps p.tables e below (s₁.setTop (mkF m 66 #[.val (.int ((((((p1.toUInt32 >>> ((16 : Int32) &&& 31).toUInt32).toInt32).toUInt32 >>> ((8 : Int32) &&& 31).toUInt32).toInt32).toUInt32 >>> ((4 : Int32) &&& 31).toUInt32).toInt32)), .val (.int ((((31 : Int32) + (-16 : Int32)) + (-8 : Int32)) + (-4 : Int32)))] [])) _
              refine XS.iinc X0.here hx rfl (hb hby d4_66) rfl (l' := #[.val (.int ((((((p1.toUInt32 >>> ((16 : Int32) &&& 31).toUInt32).toInt32).toUInt32 >>> ((8 : Int32) &&& 31).toUInt32).toInt32).toUInt32 >>> ((4 : Int32) &&& 31).toUInt32).toInt32)), .val (.int (((((31 : Int32) + (-16 : Int32)) + (-8 : Int32)) + (-4 : Int32)) + (-2 : Int32)))]) rfl ?_
              show Steps p.tables e below (s₁.setTop (mkF m 69 #[.val (.int ((((((p1.toUInt32 >>> ((16 : Int32) &&& 31).toUInt32).toInt32).toUInt32 >>> ((8 : Int32) &&& 31).toUInt32).toInt32).toUInt32 >>> ((4 : Int32) &&& 31).toUInt32).toInt32)), .val (.int (((((31 : Int32) + (-16 : Int32)) + (-8 : Int32)) + (-4 : Int32)) + (-2 : Int32)))] [])) _
              refine XS.iloadN X0.here hx rfl (hb hby d4_69) rfl ?_
              show Steps p.tables e below (s₁.setTop (mkF m 70 #[.val (.int ((((((p1.toUInt32 >>> ((16 : Int32) &&& 31).toUInt32).toInt32).toUInt32 >>> ((8 : Int32) &&& 31).toUInt32).toInt32).toUInt32 >>> ((4 : Int32) &&& 31).toUInt32).toInt32)), .val (.int (((((31 : Int32) + (-16 : Int32)) + (-8 : Int32)) + (-4 : Int32)) + (-2 : Int32)))] [(.int ((((((p1.toUInt32 >>> ((16 : Int32) &&& 31).toUInt32).toInt32).toUInt32 >>> ((8 : Int32) &&& 31).toUInt32).toInt32).toUInt32 >>> ((4 : Int32) &&& 31).toUInt32).toInt32))])) _
              refine XS.iconst X0.here hx rfl (hb hby d4_70) ?_
              show Steps p.tables e below (s₁.setTop (mkF m 71 #[.val (.int ((((((p1.toUInt32 >>> ((16 : Int32) &&& 31).toUInt32).toInt32).toUInt32 >>> ((8 : Int32) &&& 31).toUInt32).toInt32).toUInt32 >>> ((4 : Int32) &&& 31).toUInt32).toInt32)), .val (.int (((((31 : Int32) + (-16 : Int32)) + (-8 : Int32)) + (-4 : Int32)) + (-2 : Int32)))] [(.int (2 : Int32)), (.int ((((((p1.toUInt32 >>> ((16 : Int32) &&& 31).toUInt32).toInt32).toUInt32 >>> ((8 : Int32) &&& 31).toUInt32).toInt32).toUInt32 >>> ((4 : Int32) &&& 31).toUInt32).toInt32))])) _
              refine XS.iushr X0.here hx rfl (hb hby d4_71) rfl ?_
              show Steps p.tables e below (s₁.setTop (mkF m 72 #[.val (.int ((((((p1.toUInt32 >>> ((16 : Int32) &&& 31).toUInt32).toInt32).toUInt32 >>> ((8 : Int32) &&& 31).toUInt32).toInt32).toUInt32 >>> ((4 : Int32) &&& 31).toUInt32).toInt32)), .val (.int (((((31 : Int32) + (-16 : Int32)) + (-8 : Int32)) + (-4 : Int32)) + (-2 : Int32)))] [(.int ((((((((p1.toUInt32 >>> ((16 : Int32) &&& 31).toUInt32).toInt32).toUInt32 >>> ((8 : Int32) &&& 31).toUInt32).toInt32).toUInt32 >>> ((4 : Int32) &&& 31).toUInt32).toInt32).toUInt32 >>> ((2 : Int32) &&& 31).toUInt32).toInt32))])) _
              refine XS.istoreN X0.here hx rfl (hb hby d4_72) rfl (l' := #[.val (.int ((((((((p1.toUInt32 >>> ((16 : Int32) &&& 31).toUInt32).toInt32).toUInt32 >>> ((8 : Int32) &&& 31).toUInt32).toInt32).toUInt32 >>> ((4 : Int32) &&& 31).toUInt32).toInt32).toUInt32 >>> ((2 : Int32) &&& 31).toUInt32).toInt32)), .val (.int (((((31 : Int32) + (-16 : Int32)) + (-8 : Int32)) + (-4 : Int32)) + (-2 : Int32)))]) rfl ?_
              show Steps p.tables e below (s₁.setTop (mkF m 73 #[.val (.int ((((((((p1.toUInt32 >>> ((16 : Int32) &&& 31).toUInt32).toInt32).toUInt32 >>> ((8 : Int32) &&& 31).toUInt32).toInt32).toUInt32 >>> ((4 : Int32) &&& 31).toUInt32).toInt32).toUInt32 >>> ((2 : Int32) &&& 31).toUInt32).toInt32)), .val (.int (((((31 : Int32) + (-16 : Int32)) + (-8 : Int32)) + (-4 : Int32)) + (-2 : Int32)))] [])) _
              refine XS.iloadN X0.here hx rfl (hb hby d4_73) rfl ?_
              show Steps p.tables e below (s₁.setTop (mkF m 74 #[.val (.int ((((((((p1.toUInt32 >>> ((16 : Int32) &&& 31).toUInt32).toInt32).toUInt32 >>> ((8 : Int32) &&& 31).toUInt32).toInt32).toUInt32 >>> ((4 : Int32) &&& 31).toUInt32).toInt32).toUInt32 >>> ((2 : Int32) &&& 31).toUInt32).toInt32)), .val (.int (((((31 : Int32) + (-16 : Int32)) + (-8 : Int32)) + (-4 : Int32)) + (-2 : Int32)))] [(.int (((((31 : Int32) + (-16 : Int32)) + (-8 : Int32)) + (-4 : Int32)) + (-2 : Int32)))])) _
              refine XS.iloadN X0.here hx rfl (hb hby d4_74) rfl ?_
              show Steps p.tables e below (s₁.setTop (mkF m 75 #[.val (.int ((((((((p1.toUInt32 >>> ((16 : Int32) &&& 31).toUInt32).toInt32).toUInt32 >>> ((8 : Int32) &&& 31).toUInt32).toInt32).toUInt32 >>> ((4 : Int32) &&& 31).toUInt32).toInt32).toUInt32 >>> ((2 : Int32) &&& 31).toUInt32).toInt32)), .val (.int (((((31 : Int32) + (-16 : Int32)) + (-8 : Int32)) + (-4 : Int32)) + (-2 : Int32)))] [(.int ((((((((p1.toUInt32 >>> ((16 : Int32) &&& 31).toUInt32).toInt32).toUInt32 >>> ((8 : Int32) &&& 31).toUInt32).toInt32).toUInt32 >>> ((4 : Int32) &&& 31).toUInt32).toInt32).toUInt32 >>> ((2 : Int32) &&& 31).toUInt32).toInt32)), (.int (((((31 : Int32) + (-16 : Int32)) + (-8 : Int32)) + (-4 : Int32)) + (-2 : Int32)))])) _
              refine XS.iconst X0.here hx rfl (hb hby d4_75) ?_
              show Steps p.tables e below (s₁.setTop (mkF m 76 #[.val (.int ((((((((p1.toUInt32 >>> ((16 : Int32) &&& 31).toUInt32).toInt32).toUInt32 >>> ((8 : Int32) &&& 31).toUInt32).toInt32).toUInt32 >>> ((4 : Int32) &&& 31).toUInt32).toInt32).toUInt32 >>> ((2 : Int32) &&& 31).toUInt32).toInt32)), .val (.int (((((31 : Int32) + (-16 : Int32)) + (-8 : Int32)) + (-4 : Int32)) + (-2 : Int32)))] [(.int (1 : Int32)), (.int ((((((((p1.toUInt32 >>> ((16 : Int32) &&& 31).toUInt32).toInt32).toUInt32 >>> ((8 : Int32) &&& 31).toUInt32).toInt32).toUInt32 >>> ((4 : Int32) &&& 31).toUInt32).toInt32).toUInt32 >>> ((2 : Int32) &&& 31).toUInt32).toInt32)), (.int (((((31 : Int32) + (-16 : Int32)) + (-8 : Int32)) + (-4 : Int32)) + (-2 : Int32)))])) _
              refine XS.iushr X0.here hx rfl (hb hby d4_76) rfl ?_
              show Steps p.tables e below (s₁.setTop (mkF m 77 #[.val (.int ((((((((p1.toUInt32 >>> ((16 : Int32) &&& 31).toUInt32).toInt32).toUInt32 >>> ((8 : Int32) &&& 31).toUInt32).toInt32).toUInt32 >>> ((4 : Int32) &&& 31).toUInt32).toInt32).toUInt32 >>> ((2 : Int32) &&& 31).toUInt32).toInt32)), .val (.int (((((31 : Int32) + (-16 : Int32)) + (-8 : Int32)) + (-4 : Int32)) + (-2 : Int32)))] [(.int ((((((((((p1.toUInt32 >>> ((16 : Int32) &&& 31).toUInt32).toInt32).toUInt32 >>> ((8 : Int32) &&& 31).toUInt32).toInt32).toUInt32 >>> ((4 : Int32) &&& 31).toUInt32).toInt32).toUInt32 >>> ((2 : Int32) &&& 31).toUInt32).toInt32).toUInt32 >>> ((1 : Int32) &&& 31).toUInt32).toInt32)), (.int (((((31 : Int32) + (-16 : Int32)) + (-8 : Int32)) + (-4 : Int32)) + (-2 : Int32)))])) _
              refine XS.isub X0.here hx rfl (hb hby d4_77) rfl ?_
              show Steps p.tables e below (s₁.setTop (mkF m 78 #[.val (.int ((((((((p1.toUInt32 >>> ((16 : Int32) &&& 31).toUInt32).toInt32).toUInt32 >>> ((8 : Int32) &&& 31).toUInt32).toInt32).toUInt32 >>> ((4 : Int32) &&& 31).toUInt32).toInt32).toUInt32 >>> ((2 : Int32) &&& 31).toUInt32).toInt32)), .val (.int (((((31 : Int32) + (-16 : Int32)) + (-8 : Int32)) + (-4 : Int32)) + (-2 : Int32)))] [(.int ((((((31 : Int32) + (-16 : Int32)) + (-8 : Int32)) + (-4 : Int32)) + (-2 : Int32)) - ((((((((((p1.toUInt32 >>> ((16 : Int32) &&& 31).toUInt32).toInt32).toUInt32 >>> ((8 : Int32) &&& 31).toUInt32).toInt32).toUInt32 >>> ((4 : Int32) &&& 31).toUInt32).toInt32).toUInt32 >>> ((2 : Int32) &&& 31).toUInt32).toInt32).toUInt32 >>> ((1 : Int32) &&& 31).toUInt32).toInt32)))])) _
              exact retI X0 hx Bd.returns (hb hby d4_78) hr
            · show Q_rmn Z p1 h0 n0 _ s₁.heap _
              rw [e0]
              exact ⟨by rw [own_nlz, if_pos hc1_2, if_neg hc22_4, if_neg hc37_20, if_neg hc51_28, if_neg hc63_32], N0, rfl⟩
  · have pre33 : ∀ t, Steps p.tables e below (s₁.setTop (mkF m 5 #[.val (.int p1), .unset] [(.int p1)])) t → Steps p.tables e below (s₁.setTop (entryFrame m #[(.int p1)] 2)) t := by
      intro t k
      refine pre1 t ?_
      show Steps p.tables e below (s₁.setTop (mkF m 1 #[.val (.int p1), .unset] [(.int p1)])) _
      refine XS.ifNo X0.here hx rfl (hb hby d4_1) rfl ((if0 _ _).trans (flt hc1_2).2.2.1) ?_
      show Steps p.tables e below (s₁.setTop (mkF m 4 #[.val (.int p1), .unset] [])) _
      refine XS.iloadN X0.here hx rfl (hb hby d4_4) rfl ?_
      exact k
    by_cases hc5_34 : p1 = (0 : Int32)
    · obtain ⟨fs, hr, hrun, hended, hW, hsame⟩ := X0.leave (v := some (.int (32 : Int32))) (fun h => by rw [Bd.returns] at h; cases h)
      refine ⟨_, _, pre33 _ ?_, hrun, hended, _, _, rfl, ?_, ⟨_, rfl⟩, hW, hsame.mono (by decide) (by decide)⟩
      · show Steps p.tables e below (s₁.setTop (mkF m 5 #[.val (.int p1), .unset] [(.int p1)])) _
        refine XS.ifNo X0.here hx rfl (hb hby d4_5) rfl ((if0 _ _).trans (teq hc5_34).2) ?_
        show Steps p.tables e below (s₁.setTop (mkF m 8 #[.val (.int p1), .unset] [])) _
        refine XS.bipush X0.here hx rfl (hb hby d4_8) ?_
        show Steps p.tables e below (s₁.setTop (mkF m 10 #[.val (.int p1), .unset] [(.int (32 : Int32))])) _
        refine XS.goto X0.here hx rfl (pc0 := 10) (pc' := 14) rfl (hb hby d4_10) (by decide) (by decide) ?_
        show Steps p.tables e below (s₁.setTop (mkF m 14 #[.val (.int p1), .unset] [(.int (32 : Int32))])) _
        exact retI X0 hx Bd.returns (hb hby d4_14) hr
      · show Q_rmn Z p1 h0 n0 _ s₁.heap _
        rw [e0]
        exact ⟨by rw [own_nlz, if_neg hc1_2, if_pos hc5_34], N0, rfl⟩
    · obtain ⟨fs, hr, hrun, hended, hW, hsame⟩ := X0.leave (v := some (.int (0 : Int32))) (fun h => by rw [Bd.returns] at h; cases h)
      refine ⟨_, _, pre33 _ ?_, hrun, hended, _, _, rfl, ?_, ⟨_, rfl⟩, hW, hsame.mono (by decide) (by decide)⟩
      · show Steps p.tables e below (s₁.setTop (mkF m 5 #[.val (.int p1), .unset] [(.int p1)])) _
        refine XS.ifYes X0.here hx rfl (pc0 := 5) (pc' := 13) rfl (hb hby d4_5) rfl ((if0 _ _).trans (feq hc5_34).2) (by decide) (by decide) ?_
        show Steps p.tables e below (s₁.setTop (mkF m 13 #[.val (.int p1), .unset] [])) _
        refine XS.iconst X0.here hx rfl (hb hby d4_13) ?_
        show Steps p.tables e below (s₁.setTop (mkF m 14 #[.val (.int p1), .unset] [(.int (0 : Int32))])) _
        exact retI X0 hx Bd.returns (hb hby d4_14) hr
      · show Q_rmn Z p1 h0 n0 _ s₁.heap _
        rw [e0]
        exact ⟨by rw [own_nlz, if_neg hc1_2, if_neg hc5_34], N0, rfl⟩
def own_hob (p1 : Int32) : Int32 := (p1 &&& (((-2147483648 : Int32).toUInt32 >>> ((own_nlz p1) &&& 31).toUInt32).toInt32))
theorem d3_0 : decode jdk_33_method_45_code 0 = .ok (.iload_n 0, 1) := by decide +kernel
theorem d3_1 : decode jdk_33_method_45_code 1 = .ok (.ldc 127, 2) := by decide +kernel
theorem d3_3 : decode jdk_33_method_45_code 3 = .ok (.iload_n 0, 1) := by decide +kernel
theorem d3_4 : decode jdk_33_method_45_code 4 = .ok (.invokestatic 51, 3) := by decide +kernel
theorem d3_7 : decode jdk_33_method_45_code 7 = .ok (.iushr, 1) := by decide +kernel
theorem d3_8 : decode jdk_33_method_45_code 8 = .ok (.iand, 1) := by decide +kernel
theorem d3_9 : decode jdk_33_method_45_code 9 = .ok (.ireturn, 1) := by decide +kernel
theorem pn_rmh : plainName "java/lang/Integer" = true := by first | (simp [plainName, overriddenIn]; done) | decide +kernel
theorem ef_rmh (m : MethodId) (x0 : Int32) : entryFrame m #[(.int x0)] 1 = mkF m 0 #[.val (.int x0)] [] := by first | (simp [entryFrame, mkF, argsToLocals, Value.category]; done) | rfl
def Q_rmh (Z : State) (p1 : Int32) (h0 : Heap) (n0 : Nat) (v : Option Value) (h : Heap) (L : List Loc) : Prop := v = some (.int (own_hob p1)) ∧ Fr n0 L ∧ h = h0
set_option maxRecDepth 65536 in
set_option maxHeartbeats 40000000 in
theorem rmh (l : Launch) (Z : State) (a0 : Array Value) (hw : ∀ d ∈ tables_1, d.before a0 Z = true) (ws : List Jvm.Cond) (p1 : Int32) (h0 : Heap) (n0 : Nat) (Z0 : n0 ≤ h0.size) :
    MetFree l (⟨"java/lang/Integer", "highestOneBit", "(I)I"⟩ : MethodName) (head1 (Jvm.Cond.code (⟨"java/lang/Integer", "highestOneBit", "(I)I"⟩ : MethodName) jdk_33_method_45_code 1 (some .int) :: ws) ({ frames := 1, cells := 0, slots := 0, locals := 15 } : Room)) (fun a U => a = #[(.int p1)] ∧ Z.Warmed39 U.vm ∧ U.heap = h0) (fun _ _ _ _ _ => True) (fun _ U o U' => ∃ v L, o = .returned v ∧ Q_rmh Z p1 h0 n0 v U'.heap L ∧ FrameEnd U o U' L ({ frames := 1, cells := 0, slots := 0, locals := 15 } : Room).cells ({ frames := 1, cells := 0, slots := 0, locals := 15 } : Room).slots) := by
  refine MetFree.of_bodySF (plainFor_of_name pn_rmh) hisR ?_
  intro p e s m args below meth c s₁ Bd hml0 hP hK
  obtain ⟨rfl, hZ, hh⟩ := hP
  have hx := Bd.exec
  have hby := Bd.bytes
  have hml : c.maxLocals = 1 := hml0
  have hown : s.vm.findClass "java/lang/Integer" = some m.cls := findClass_of_methodNamed Bd.named
  have hnm := (name_of_methodNamed Bd.named Bd.method).1
  have X0 : Stand p l e ({ frames := 1, cells := 0, slots := 0, locals := 15 } : Room) s m #[(.int p1)] below meth c s₁ [] 0 0 := Stand.of_body Bd
  have e0 : s₁.heap = h0 := by rw [← hh, Bd.state]; rfl
  have N0 := Fr.nil n0
  have pre0 : ∀ t, Steps p.tables e below (s₁.setTop (mkF m 0 #[.val (.int p1)] [])) t → Steps p.tables e below (s₁.setTop (entryFrame m #[(.int p1)] 1)) t := fun t k => castTop (ef_rmh m p1) k
  obtain ⟨_, _, ⟨T1, L1, k1, n1⟩, -, X1, ⟨Lc1, hQ1, l1, y1, z1⟩, st1⟩ := Jvm.LawKit.callS X0 hx (y := (⟨"java/lang/Integer", "numberOfLeadingZeros", "(I)I"⟩ : MethodName)) hown (mvT hZ (hw _ (List.mem_of_getElem? (i := 20) rfl))) (mvT hZ (hw _ (List.mem_of_getElem? (i := 21) rfl))) (mvT hZ (hw _ (List.mem_of_getElem? (i := 17) rfl))) (mvT hZ (hw _ (List.mem_of_getElem? (i := 22) rfl))) (by decide) (backOf (W := 2) (rmn l Z a0 hw [] p1 h0 n0 Z0) hZ (hw _ (List.mem_of_getElem? (i := 22) rfl)) (hw _ (List.mem_of_getElem? (i := 17) rfl)) (by decide) (by decide)) (g := (mkF m 4 #[.val (.int p1)] [(.int p1), (.int (-2147483648 : Int32)), (.int p1)])) rfl (by rw [hml]; rfl) (argsL := [(.int p1)]) (rest := [(.int (-2147483648 : Int32)), (.int p1)]) (lenOf pd_0 rfl) rfl (by show 2 * 0 + _ ≤ _; exact Nat.le_of_eq rfl) (hb hby d3_4) (fun _ _ => ⟨rfl, e0, (by decide : 0 + 0 ≤ _), (by decide : 0 + 0 ≤ _)⟩)
  dsimp only [Pt.U, Pt.locs, Pt.cells, Pt.slots] at X1 l1 y1 z1 st1 hQ1
  subst l1 y1 z1
  obtain ⟨rfl, N1q, e1⟩ := hQ1
  have N1 := Fr.app N0 N1q
  obtain ⟨fs, hr, hrun, hended, hW, hsame⟩ := X1.leave (v := some (.int (p1 &&& (((-2147483648 : Int32).toUInt32 >>> ((own_nlz p1) &&& 31).toUInt32).toInt32)))) (fun h => by rw [Bd.returns] at h; cases h)
  refine ⟨_, _, pre0 _ ?_, hrun, hended, _, _, rfl, ?_, ⟨_, rfl⟩, hW, hsame.mono (by decide) (by decide)⟩
  · show Steps p.tables e below (s₁.setTop (mkF m 0 #[.val (.int p1)] [])) _
    refine XS.iloadN X0.here hx rfl (hb hby d3_0) rfl ?_
    show Steps p.tables e below (s₁.setTop (mkF m 1 #[.val (.int p1)] [(.int p1)])) _
    refine X0.ldcInt hx hown (mvT hZ (hw _ (List.mem_of_getElem? (i := 19) rfl))) (g := (mkF m 1 #[.val (.int p1)] [(.int p1)])) rfl (hb hby d3_1) _ ?_
    show Steps p.tables e below (s₁.setTop (mkF m 3 #[.val (.int p1)] [(.int (-2147483648 : Int32)), (.int p1)])) _
    refine XS.iloadN X0.here hx rfl (hb hby d3_3) rfl ?_
    show Steps p.tables e below (s₁.setTop (mkF m 4 #[.val (.int p1)] [(.int p1), (.int (-2147483648 : Int32)), (.int p1)])) _
    refine st1 _ ?_
    show Steps p.tables e below (T1.setTop (mkF m 7 #[.val (.int p1)] [(.int (own_nlz p1)), (.int (-2147483648 : Int32)), (.int p1)])) _
    refine XS.iushr X1.here hx rfl (hb hby d3_7) rfl ?_
    show Steps p.tables e below (T1.setTop (mkF m 8 #[.val (.int p1)] [(.int (((-2147483648 : Int32).toUInt32 >>> ((own_nlz p1) &&& 31).toUInt32).toInt32)), (.int p1)])) _
    refine XS.iand X1.here hx rfl (hb hby d3_8) rfl ?_
    show Steps p.tables e below (T1.setTop (mkF m 9 #[.val (.int p1)] [(.int (p1 &&& (((-2147483648 : Int32).toUInt32 >>> ((own_nlz p1) &&& 31).toUInt32).toInt32)))])) _
    exact retI X1 hx Bd.returns (hb hby d3_9) hr
  · show Q_rmh Z p1 h0 n0 _ T1.heap _
    rw [e1]
    exact ⟨by rw [own_hob], N1, rfl⟩
def own_t (M : Int32 → Int64) (i : Nat) : Int64 := if i = 1 then (M 4 + M 5) + (M 6 + 0) else if i = 2 then M 4 + M 5 else if i = 3 then M 6 + 0 else if i = 4 then M 4 else if i = 5 then M 5 else if i = 6 then M 6 else 0
def own_up (M : Int32 → Int64) (k : Int32) (x : Int64) (j : Int32) : Int64 := if j = k then x else M j
def own_upN (D : Nat → Int32) (c k : Int32) (i : Nat) : Int32 := if i = c.toNatClampNeg then k else D i
def own_upX (X : Nat → Int64) (c : Int32) (x : Int64) (i : Nat) : Int64 := if i = c.toNatClampNeg then x else X i
def own_Lb (n : Int) (a : Int64) : Prop := 0 ≤ a.toInt ∧ a.toInt ≤ n
theorem own_L0 : own_Lb 16 (0 : Int64) := by unfold own_Lb; decide
theorem own_Lw {n m : Int} {a : Int64} (h : own_Lb n a) (q : n ≤ m) : own_Lb m a := ⟨h.1, Int.le_trans h.2 q⟩
theorem own_La {n m : Int} {a b : Int64} (ha : own_Lb n a) (hb : own_Lb m b) (q : n + m ≤ 1000) : own_Lb (n + m) (a + b) := by
  have h := c_ladd a b
  have r := rng64 (a + b)
  obtain ⟨a1, a2⟩ := ha
  obtain ⟨b1, b2⟩ := hb
  exact ⟨by omega, by omega⟩
theorem own_Lb53 {n : Int} {a : Int64} (h : own_Lb n a) (q : n ≤ 1000) : B53 a := ⟨by have := h.1; omega, by have := h.2; omega⟩
def own_bd (M : Int32 → Int64) : Prop := ∀ k, own_Lb 16 (M k)
theorem own_bdup {M : Int32 → Int64} {k : Int32} {x : Int64} (h : own_bd M) (hx : own_Lb 16 x) : own_bd (own_up M k x) := fun j => by
  unfold own_up; split
  · exact hx
  · exact h j
theorem own_tb {M : Int32 → Int64} (h : own_bd M) (i : Nat) : own_Lb 64 (own_t M i) := by
  have z := own_L0
  unfold own_t
  repeat' split
  · exact own_La (own_La (h 4) (h 5) (by decide)) (own_La (h 6) z (by decide)) (by decide)
  · exact own_Lw (own_La (h 4) (h 5) (by decide)) (by decide)
  · exact own_Lw (own_La (h 6) z (by decide)) (by decide)
  · exact own_Lw (h 4) (by decide)
  · exact own_Lw (h 5) (by decide)
  · exact own_Lw (h 6) (by decide)
  · exact own_Lw z (by decide)
def own_fr (p : Int32) : UInt64 := FP.ddiv (FP.l2d ((p &&& (7 : Int32)).toInt64)) (4620693217682128896 : UInt64)
theorem own_f8 (p : Int32) : ∃ k : Fin 8, (p &&& (7 : Int32)).toInt64 = Int64.ofInt (k.val : Int) := by
  have hm := c_mask p 7 3 (by decide) (by decide)
  rw [show ((2 ^ 3 : Nat) : Int) = 8 from by decide] at hm
  refine ⟨⟨(p &&& (7 : Int32)).toInt.toNat, by omega⟩, ?_⟩
  apply Int64.toInt_inj.mp
  show _ = (Int64.ofInt (((p &&& (7 : Int32)).toInt.toNat : Nat) : Int)).toInt
  rw [Int.toNat_of_nonneg (by omega), ← c_i2l, Int64.ofInt_toInt]
theorem own_frt : ∀ k : Fin 8, Jvm.Free.Fl.Fin64 (FP.ddiv (FP.l2d (Int64.ofInt (k.val : Int))) (4620693217682128896 : UInt64)) := by unfold Jvm.Free.Fl.Fin64; decide +kernel
theorem own_frf (p : Int32) : Jvm.Free.Fl.Fin64 (own_fr p) := by
  obtain ⟨k, hk⟩ := own_f8 p
  unfold own_fr
  rw [hk]
  exact own_frt k
theorem own_frn (p : Int32) : Jvm.Free.Fl.NoNaN64 (FP.ddiv (FP.l2d ((p &&& (7 : Int32)).toInt64)) (4620693217682128896 : UInt64)) := (own_frf p).noNaN
set_option maxRecDepth 100000 in
theorem own_pst : ∀ k : Fin 8, ∀ T : Fin 65, ¬ (cmpValue (FP.dcmp (FP.dmul (FP.ddiv (FP.l2d (Int64.ofInt (k.val : Int))) (4620693217682128896 : UInt64)) (FP.l2d (Int64.ofInt (T.val : Int)))) (FP.l2d 0)) .g) < (0 : Int32) := by decide +kernel
theorem own_ps (p : Int32) {T : Int64} (h : own_Lb 64 T) : ¬ (cmpValue (FP.dcmp (FP.dmul (own_fr p) (FP.l2d T)) (FP.l2d 0)) .g) < (0 : Int32) := by
  obtain ⟨k, hk⟩ := own_f8 p
  obtain ⟨h1, h2⟩ := h
  have q := own_pst k ⟨T.toInt.toNat, by omega⟩
  have e : Int64.ofInt (((T.toInt.toNat : Nat) : Int)) = T := by rw [Int.toNat_of_nonneg h1]; exact Int64.ofInt_toInt T
  dsimp only at q
  rw [e] at q
  unfold own_fr
  rw [hk]
  exact q
def own_n2 (M : Int32 → Int64) (r : UInt64) : Int32 := if (cmpValue (FP.dcmp r (FP.l2d (own_t M 4))) .g) < (0 : Int32) then 4 else if (cmpValue (FP.dcmp (FP.l2d (own_t M 5)) (FP.l2d 0)) .l) = (0 : Int32) then 4 else 5
def own_pick (M : Int32 → Int64) (f : UInt64) : Int32 := if (cmpValue (FP.dcmp (FP.dmul f (FP.l2d (own_t M 1))) (FP.l2d (own_t M 2))) .g) < (0 : Int32) then own_n2 M (FP.dmul f (FP.l2d (own_t M 1))) else if (cmpValue (FP.dcmp (FP.l2d (own_t M 3)) (FP.l2d 0)) .l) = (0 : Int32) then own_n2 M (FP.dmul f (FP.l2d (own_t M 1))) else 6
theorem own_pk3 (M : Int32 → Int64) (f : UInt64) : own_pick M f = 4 ∨ own_pick M f = 5 ∨ own_pick M f = 6 := by
  unfold own_pick own_n2
  repeat' split
  all_goals first | exact Or.inl rfl | exact Or.inr (Or.inl rfl) | exact Or.inr (Or.inr rfl)
theorem own_cz {n : Int} {a : Int64} (h : own_Lb n a) (q : n ≤ 1000) : (cmpValue (FP.dcmp (FP.l2d a) (FP.l2d 0)) .l) = (0 : Int32) ↔ a = 0 := by
  rw [dcmpV_w (own_Lb53 h q) (own_Lb53 own_L0 (by decide)), lw_eq]
theorem own_nz (M : Int32 → Int64) (p : Int32) (hM : own_bd M) (h : M 4 ≠ 0 ∨ M 5 ≠ 0 ∨ M 6 ≠ 0) : M (own_pick M (own_fr p)) ≠ 0 := by
  have hp := own_ps p (own_tb hM 1)
  have key : ∀ a : Int64, (cmpValue (FP.dcmp (FP.dmul (own_fr p) (FP.l2d (own_t M 1))) (FP.l2d a)) .g) < (0 : Int32) → a ≠ 0 := fun a ha q => hp (q ▸ ha)
  have t2 : own_t M 2 = M 4 + M 5 := rfl
  have t3 : own_t M 3 = M 6 + 0 := rfl
  have t4 : own_t M 4 = M 4 := rfl
  have t5 : own_t M 5 = M 5 := rfl
  have e3 : M 6 + 0 = M 6 := Int64.add_zero _
  have n2 : M 4 + M 5 ≠ 0 → M (own_n2 M (FP.dmul (own_fr p) (FP.l2d (own_t M 1)))) ≠ 0 := fun hs => by
    unfold own_n2
    split
    · rename_i q; exact t4 ▸ key _ q
    · split
      · rename_i q
        rw [own_cz (own_tb hM 5) (by decide), t5] at q
        intro q4
        rw [q4, q] at hs
        exact hs rfl
      · rename_i q
        rw [own_cz (own_tb hM 5) (by decide), t5] at q
        exact q
  unfold own_pick
  split
  · rename_i q; exact n2 (t2 ▸ key _ q)
  · split
    · rename_i q
      rw [own_cz (own_tb hM 3) (by decide), t3, e3] at q
      refine n2 fun hs => ?_
      have b4 := hM 4
      have b5 := hM 5
      have ad := c_ladd (M 4) (M 5)
      rw [hs, show (0 : Int64).toInt = 0 from by decide] at ad
      obtain ⟨x1, x2⟩ := b4
      obtain ⟨y1, y2⟩ := b5
      have z4 : M 4 = 0 := Int64.toInt_inj.mp (by rw [show (0 : Int64).toInt = 0 from by decide]; omega)
      have z5 : M 5 = 0 := Int64.toInt_inj.mp (by rw [show (0 : Int64).toInt = 0 from by decide]; omega)
      rcases h with h | h | h
      · exact h z4
      · exact h z5
      · exact h q
    · rename_i q
      rw [own_cz (own_tb hM 3) (by decide), t3, e3] at q
      exact q
theorem d8_0 : decode prog_28_method_4_code 0 = .ok (.aload_n 0, 1) := by decide +kernel
theorem d8_1 : decode prog_28_method_4_code 1 = .ok (.getfield 27, 3) := by decide +kernel
theorem d8_4 : decode prog_28_method_4_code 4 = .ok (.iload_n 1, 1) := by decide +kernel
theorem d8_5 : decode prog_28_method_4_code 5 = .ok (.dload_n 2, 1) := by decide +kernel
theorem d8_6 : decode prog_28_method_4_code 6 = .ok (.dastore, 1) := by decide +kernel
theorem d8_7 : decode prog_28_method_4_code 7 = .ok (.iload_n 1, 1) := by decide +kernel
theorem d8_8 : decode prog_28_method_4_code 8 = .ok (.iconst 2, 1) := by decide +kernel
theorem d8_9 : decode prog_28_method_4_code 9 = .ok (.idiv, 1) := by decide +kernel
theorem d8_10 : decode prog_28_method_4_code 10 = .ok (.istore 4, 2) := by decide +kernel
theorem d8_12 : decode prog_28_method_4_code 12 = .ok (.iload 4, 2) := by decide +kernel
theorem d8_14 : decode prog_28_method_4_code 14 = .ok (.iconst 1, 1) := by decide +kernel
theorem d8_15 : decode prog_28_method_4_code 15 = .ok (.if_icmp .lt 40, 3) := by decide +kernel
theorem d8_18 : decode prog_28_method_4_code 18 = .ok (.aload_n 0, 1) := by decide +kernel
theorem d8_19 : decode prog_28_method_4_code 19 = .ok (.getfield 27, 3) := by decide +kernel
theorem d8_22 : decode prog_28_method_4_code 22 = .ok (.iload 4, 2) := by decide +kernel
theorem d8_24 : decode prog_28_method_4_code 24 = .ok (.aload_n 0, 1) := by decide +kernel
theorem d8_25 : decode prog_28_method_4_code 25 = .ok (.getfield 27, 3) := by decide +kernel
theorem d8_28 : decode prog_28_method_4_code 28 = .ok (.iconst 2, 1) := by decide +kernel
theorem d8_29 : decode prog_28_method_4_code 29 = .ok (.iload 4, 2) := by decide +kernel
theorem d8_31 : decode prog_28_method_4_code 31 = .ok (.imul, 1) := by decide +kernel
theorem d8_32 : decode prog_28_method_4_code 32 = .ok (.daload, 1) := by decide +kernel
theorem d8_33 : decode prog_28_method_4_code 33 = .ok (.aload_n 0, 1) := by decide +kernel
theorem d8_34 : decode prog_28_method_4_code 34 = .ok (.getfield 27, 3) := by decide +kernel
theorem d8_37 : decode prog_28_method_4_code 37 = .ok (.iconst 2, 1) := by decide +kernel
theorem d8_38 : decode prog_28_method_4_code 38 = .ok (.iload 4, 2) := by decide +kernel
theorem d8_40 : decode prog_28_method_4_code 40 = .ok (.imul, 1) := by decide +kernel
theorem d8_41 : decode prog_28_method_4_code 41 = .ok (.iconst 1, 1) := by decide +kernel
theorem d8_42 : decode prog_28_method_4_code 42 = .ok (.iadd, 1) := by decide +kernel
theorem d8_43 : decode prog_28_method_4_code 43 = .ok (.daload, 1) := by decide +kernel
theorem d8_44 : decode prog_28_method_4_code 44 = .ok (.dadd, 1) := by decide +kernel
theorem d8_45 : decode prog_28_method_4_code 45 = .ok (.dastore, 1) := by decide +kernel
theorem d8_46 : decode prog_28_method_4_code 46 = .ok (.iload 4, 2) := by decide +kernel
theorem d8_48 : decode prog_28_method_4_code 48 = .ok (.iconst 2, 1) := by decide +kernel
theorem d8_49 : decode prog_28_method_4_code 49 = .ok (.idiv, 1) := by decide +kernel
theorem d8_50 : decode prog_28_method_4_code 50 = .ok (.istore 4, 2) := by decide +kernel
theorem d8_52 : decode prog_28_method_4_code 52 = .ok (.goto (-40), 3) := by decide +kernel
theorem d8_55 : decode prog_28_method_4_code 55 = .ok (.return_, 1) := by decide +kernel
theorem pn_rset4 : plainName "com/example/velar/velar/WeightedDraws" = true := by first | (simp [plainName, overriddenIn]; done) | decide +kernel
theorem ef_rset4 (m : MethodId) (x0 : Addr) (x1 : Int32) (x2 : UInt64) : entryFrame m #[(.ref x0), (.int x1), (.double x2)] 5 = mkF m 0 #[.val (.ref x0), .val (.int x1), .val (.double x2), .second, .unset] [] := by first | (simp [entryFrame, mkF, argsToLocals, Value.category]; done) | rfl
def Q_rset4 (Z : State) (a1 : Addr) (x : Int64) (aS : Addr) (M : Int32 → Int64) (h0 : Heap) (n0 : Nat) (v : Option Value) (h : Heap) (L : List Loc) : Prop := v = none ∧ Fr n0 L ∧ Keep h0 h [aS] ∧ ArF Z h aS .double 8 (fun i => .double (FP.l2d (own_t (own_up M (4 : Int32) x) i)))
set_option maxRecDepth 65536 in
set_option maxHeartbeats 40000000 in
theorem rset4 (l : Launch) (Z : State) (a0 : Array Value) (hw : ∀ d ∈ tables_1, d.before a0 Z = true) (ws : List Jvm.Cond) (a1 : Addr) (x : Int64) (aS : Addr) (M : Int32 → Int64) (h0 : Heap) (n0 : Nat) (Z0 : n0 ≤ h0.size) (Fs : Fld Z h0 a1 "com/example/velar/velar/WeightedDraws" "sums" "[D" (.ref aS)) (V0 : ArF Z h0 aS .double 8 (fun i => .double (FP.l2d (own_t M i)))) (gs : n0 ≤ aS) (n1 : a1 ≠ aS) (hM : own_bd M) (hxx : own_Lb 16 x) :
    MetFree l (⟨"com/example/velar/velar/WeightedDraws", "set", "(ID)V"⟩ : MethodName) (head1 (Jvm.Cond.code (⟨"com/example/velar/velar/WeightedDraws", "set", "(ID)V"⟩ : MethodName) prog_28_method_4_code 5 none :: ws) ({ frames := 0, cells := 0, slots := 0, locals := 0 } : Room)) (fun a U => a = #[(.ref a1), (.int (4 : Int32)), (.double (FP.l2d x))] ∧ Z.Warmed39 U.vm ∧ U.heap = h0) (fun _ _ _ _ _ => True) (fun _ U o U' => ∃ v L, o = .returned v ∧ Q_rset4 Z a1 x aS M h0 n0 v U'.heap L ∧ FrameEnd U o U' L ({ frames := 0, cells := 0, slots := 0, locals := 0 } : Room).cells ({ frames := 0, cells := 0, slots := 0, locals := 0 } : Room).slots) := by
  refine MetFree.of_bodySF (plainFor_of_name pn_rset4) hisR ?_
  intro p e s m args below meth c s₁ Bd hml0 hP hK
  obtain ⟨rfl, hZ, hh⟩ := hP
  have hx := Bd.exec
  have hby := Bd.bytes
  have hml : c.maxLocals = 5 := hml0
  have hown : s.vm.findClass "com/example/velar/velar/WeightedDraws" = some m.cls := findClass_of_methodNamed Bd.named
  have hnm := (name_of_methodNamed Bd.named Bd.method).1
  have X0 : Stand p l e ({ frames := 0, cells := 0, slots := 0, locals := 0 } : Room) s m #[(.ref a1), (.int (4 : Int32)), (.double (FP.l2d x))] below meth c s₁ [] 0 0 := Stand.of_body Bd
  have e0 : s₁.heap = h0 := by rw [← hh, Bd.state]; rfl
  have N0 := Fr.nil n0
  have pre0 : ∀ t, Steps p.tables e below (s₁.setTop (mkF m 0 #[.val (.ref a1), .val (.int (4 : Int32)), .val (.double (FP.l2d x)), .second, .unset] [])) t → Steps p.tables e below (s₁.setTop (entryFrame m #[(.ref a1), (.int (4 : Int32)), (.double (FP.l2d x))] 5)) t := fun t k => castTop (ef_rset4 m a1 (4 : Int32) (FP.l2d x)) k
  have K0 := Keep.refl h0 [aS]
  obtain ⟨T1, X1, e1, st1⟩ := getF X0 hx hZ hown (host := "") (Or.inl (hw _ (List.mem_of_getElem? (i := 26) rfl))) Via.refl e0 Fs (g := (mkF m 1 #[.val (.ref a1), .val (.int (4 : Int32)), .val (.double (FP.l2d x)), .second, .unset] [(.ref a1)])) rfl rfl (hb hby d8_1)
  obtain ⟨cl2, Ar2, S2, H2⟩ := id V0
  have hin2 : ¬ ((4 : Int32) < 0 ∨ cl2.slots.size ≤ ((4 : Int32)).toNatClampNeg) := inA S2 (by decide) (by decide)
  obtain ⟨T2, h2, X2, e2, W2, st2⟩ := stD X1 hx hZ e1 Ar2 (j := (4 : Int32)) hin2 (g := (mkF m 6 #[.val (.ref a1), .val (.int (4 : Int32)), .val (.double (FP.l2d x)), .second, .unset] [(.double (FP.l2d x)), (.int (4 : Int32)), (.ref aS)])) rfl rfl (hb hby d8_6)
  have Fs_v2 := Fs.other W2 (Or.inl n1)
  have Z2 : n0 ≤ h2.size := Nat.le_trans Z0 (Nat.le_of_eq W2.size.symm)
  have K2 := K0.wr W2 (Or.inl (by simp))
  have V2_v2 := ArF.set Ar2 S2 H2 W2 hin2
  have N2 := Fr.snoc X2 N0 gs
  obtain ⟨T3, X3, e3, st3⟩ := getF X2 hx hZ hown (host := "") (Or.inl (hw _ (List.mem_of_getElem? (i := 26) rfl))) Via.refl e2 Fs_v2 (g := (mkF m 19 #[.val (.ref a1), .val (.int (4 : Int32)), .val (.double (FP.l2d x)), .second, .val (.int (2 : Int32))] [(.ref a1)])) rfl rfl (hb hby d8_19)
  obtain ⟨T4, X4, e4, st4⟩ := getF X3 hx hZ hown (host := "") (Or.inl (hw _ (List.mem_of_getElem? (i := 26) rfl))) Via.refl e3 Fs_v2 (g := (mkF m 25 #[.val (.ref a1), .val (.int (4 : Int32)), .val (.double (FP.l2d x)), .second, .val (.int (2 : Int32))] [(.ref a1), (.int (2 : Int32)), (.ref aS)])) rfl rfl (hb hby d8_25)
  obtain ⟨cl5, Ar5, S5, H5⟩ := id V2_v2
  have hin5 : ¬ ((4 : Int32) < 0 ∨ cl5.slots.size ≤ ((4 : Int32)).toNatClampNeg) := inA S5 (by decide) (by decide)
  have hat5 : cl5.slots[((4 : Int32)).toNatClampNeg]? = some (.double (FP.l2d x)) := ArF.at S5 H5 hin5 rfl
  obtain ⟨T6, X6, e6, st6⟩ := getF X4 hx hZ hown (host := "") (Or.inl (hw _ (List.mem_of_getElem? (i := 26) rfl))) Via.refl e4 Fs_v2 (g := (mkF m 34 #[.val (.ref a1), .val (.int (4 : Int32)), .val (.double (FP.l2d x)), .second, .val (.int (2 : Int32))] [(.ref a1), (.double (FP.l2d x)), (.int (2 : Int32)), (.ref aS)])) rfl rfl (hb hby d8_34)
  obtain ⟨cl7, Ar7, S7, H7⟩ := id V2_v2
  have hin7 : ¬ ((5 : Int32) < 0 ∨ cl7.slots.size ≤ ((5 : Int32)).toNatClampNeg) := inA S7 (by decide) (by decide)
  have hat7 : cl7.slots[((5 : Int32)).toNatClampNeg]? = some (.double (FP.l2d (own_t M 5))) := ArF.at S7 H7 hin7 rfl
  obtain ⟨cl8, Ar8, S8, H8⟩ := id V2_v2
  have hin8 : ¬ ((2 : Int32) < 0 ∨ cl8.slots.size ≤ ((2 : Int32)).toNatClampNeg) := inA S8 (by decide) (by decide)
  obtain ⟨T8, h8, X8, e8, W8, st8⟩ := stD X6 hx hZ e6 Ar8 (j := (2 : Int32)) hin8 (g := (mkF m 45 #[.val (.ref a1), .val (.int (4 : Int32)), .val (.double (FP.l2d x)), .second, .val (.int (2 : Int32))] [(.double (FP.l2d (x + (own_t M 5)))), (.int (2 : Int32)), (.ref aS)])) rfl rfl (hb hby d8_45)
  have Fs_v8 := Fs_v2.other W8 (Or.inl n1)
  have Z8 : n0 ≤ h8.size := Nat.le_trans Z2 (Nat.le_of_eq W8.size.symm)
  have K8 := K2.wr W8 (Or.inl (by simp))
  have V8_v8 := ArF.set Ar8 S8 H8 W8 hin8
  have N8 := Fr.snoc X8 N2 gs
  obtain ⟨T9, X9, e9, st9⟩ := getF X8 hx hZ hown (host := "") (Or.inl (hw _ (List.mem_of_getElem? (i := 26) rfl))) Via.refl e8 Fs_v8 (g := (mkF m 19 #[.val (.ref a1), .val (.int (4 : Int32)), .val (.double (FP.l2d x)), .second, .val (.int (1 : Int32))] [(.ref a1)])) rfl rfl (hb hby d8_19)
  obtain ⟨T10, X10, e10, st10⟩ := getF X9 hx hZ hown (host := "") (Or.inl (hw _ (List.mem_of_getElem? (i := 26) rfl))) Via.refl e9 Fs_v8 (g := (mkF m 25 #[.val (.ref a1), .val (.int (4 : Int32)), .val (.double (FP.l2d x)), .second, .val (.int (1 : Int32))] [(.ref a1), (.int (1 : Int32)), (.ref aS)])) rfl rfl (hb hby d8_25)
  obtain ⟨cl11, Ar11, S11, H11⟩ := id V8_v8
  have hin11 : ¬ ((2 : Int32) < 0 ∨ cl11.slots.size ≤ ((2 : Int32)).toNatClampNeg) := inA S11 (by decide) (by decide)
  have hat11 : cl11.slots[((2 : Int32)).toNatClampNeg]? = some (.double (FP.l2d (x + (own_t M 5)))) := ArF.at S11 H11 hin11 rfl
  obtain ⟨T12, X12, e12, st12⟩ := getF X10 hx hZ hown (host := "") (Or.inl (hw _ (List.mem_of_getElem? (i := 26) rfl))) Via.refl e10 Fs_v8 (g := (mkF m 34 #[.val (.ref a1), .val (.int (4 : Int32)), .val (.double (FP.l2d x)), .second, .val (.int (1 : Int32))] [(.ref a1), (.double (FP.l2d (x + (own_t M 5)))), (.int (1 : Int32)), (.ref aS)])) rfl rfl (hb hby d8_34)
  obtain ⟨cl13, Ar13, S13, H13⟩ := id V8_v8
  have hin13 : ¬ ((3 : Int32) < 0 ∨ cl13.slots.size ≤ ((3 : Int32)).toNatClampNeg) := inA S13 (by decide) (by decide)
  have hat13 : cl13.slots[((3 : Int32)).toNatClampNeg]? = some (.double (FP.l2d (own_t M 3))) := ArF.at S13 H13 hin13 rfl
  obtain ⟨cl14, Ar14, S14, H14⟩ := id V8_v8
  have hin14 : ¬ ((1 : Int32) < 0 ∨ cl14.slots.size ≤ ((1 : Int32)).toNatClampNeg) := inA S14 (by decide) (by decide)
  obtain ⟨T14, h14, X14, e14, W14, st14⟩ := stD X12 hx hZ e12 Ar14 (j := (1 : Int32)) hin14 (g := (mkF m 45 #[.val (.ref a1), .val (.int (4 : Int32)), .val (.double (FP.l2d x)), .second, .val (.int (1 : Int32))] [(.double (FP.l2d ((x + (own_t M 5)) + (own_t M 3)))), (.int (1 : Int32)), (.ref aS)])) rfl rfl (hb hby d8_45)
  have Fs_v14 := Fs_v8.other W14 (Or.inl n1)
  have Z14 : n0 ≤ h14.size := Nat.le_trans Z8 (Nat.le_of_eq W14.size.symm)
  have K14 := K8.wr W14 (Or.inl (by simp))
  have V14_v14 := ArF.set Ar14 S14 H14 W14 hin14
  have N14 := Fr.snoc X14 N8 gs
  obtain ⟨fs, hr, hrun, hended, hW, hsame⟩ := X14.leave (v := none) (fun _ => rfl)
  refine ⟨_, _, pre0 _ ?_, hrun, hended, _, _, rfl, ?_, ⟨_, rfl⟩, hW, hsame.mono (by decide) (by decide)⟩
  · show Steps p.tables e below (s₁.setTop (mkF m 0 #[.val (.ref a1), .val (.int (4 : Int32)), .val (.double (FP.l2d x)), .second, .unset] [])) _
    refine XS.aloadN X0.here hx rfl (hb hby d8_0) rfl rfl ?_
    show Steps p.tables e below (s₁.setTop (mkF m 1 #[.val (.ref a1), .val (.int (4 : Int32)), .val (.double (FP.l2d x)), .second, .unset] [(.ref a1)])) _
    refine st1 _ ?_
    show Steps p.tables e below (T1.setTop (mkF m 4 #[.val (.ref a1), .val (.int (4 : Int32)), .val (.double (FP.l2d x)), .second, .unset] [(.ref aS)])) _
    refine XS.iloadN X1.here hx rfl (hb hby d8_4) rfl ?_
    show Steps p.tables e below (T1.setTop (mkF m 5 #[.val (.ref a1), .val (.int (4 : Int32)), .val (.double (FP.l2d x)), .second, .unset] [(.int (4 : Int32)), (.ref aS)])) _
    refine XS.dloadN X1.here hx rfl (hb hby d8_5) rfl ?_
    show Steps p.tables e below (T1.setTop (mkF m 6 #[.val (.ref a1), .val (.int (4 : Int32)), .val (.double (FP.l2d x)), .second, .unset] [(.double (FP.l2d x)), (.int (4 : Int32)), (.ref aS)])) _
    refine st2 _ ?_
    show Steps p.tables e below (T2.setTop (mkF m 7 #[.val (.ref a1), .val (.int (4 : Int32)), .val (.double (FP.l2d x)), .second, .unset] [])) _
    refine XS.iloadN X2.here hx rfl (hb hby d8_7) rfl ?_
    show Steps p.tables e below (T2.setTop (mkF m 8 #[.val (.ref a1), .val (.int (4 : Int32)), .val (.double (FP.l2d x)), .second, .unset] [(.int (4 : Int32))])) _
    refine XS.iconst X2.here hx rfl (hb hby d8_8) ?_
    show Steps p.tables e below (T2.setTop (mkF m 9 #[.val (.ref a1), .val (.int (4 : Int32)), .val (.double (FP.l2d x)), .second, .unset] [(.int (2 : Int32)), (.int (4 : Int32))])) _
    refine XS.idiv X2.here hx rfl (hb hby d8_9) rfl (by decide) ?_
    show Steps p.tables e below (T2.setTop (mkF m 10 #[.val (.ref a1), .val (.int (4 : Int32)), .val (.double (FP.l2d x)), .second, .unset] [(.int (2 : Int32))])) _
    refine XS.istore X2.here hx rfl (hb hby d8_10) rfl (l' := #[.val (.ref a1), .val (.int (4 : Int32)), .val (.double (FP.l2d x)), .second, .val (.int (2 : Int32))]) rfl ?_
    show Steps p.tables e below (T2.setTop (mkF m 12 #[.val (.ref a1), .val (.int (4 : Int32)), .val (.double (FP.l2d x)), .second, .val (.int (2 : Int32))] [])) _
    refine XS.iload X2.here hx rfl (hb hby d8_12) rfl ?_
    show Steps p.tables e below (T2.setTop (mkF m 14 #[.val (.ref a1), .val (.int (4 : Int32)), .val (.double (FP.l2d x)), .second, .val (.int (2 : Int32))] [(.int (2 : Int32))])) _
    refine XS.iconst X2.here hx rfl (hb hby d8_14) ?_
    show Steps p.tables e below (T2.setTop (mkF m 15 #[.val (.ref a1), .val (.int (4 : Int32)), .val (.double (FP.l2d x)), .second, .val (.int (2 : Int32))] [(.int (1 : Int32)), (.int (2 : Int32))])) _
    refine XS.icmpNo X2.here hx rfl (hb hby d8_15) rfl (flt (by decide : ¬ ((2 : Int32) < (1 : Int32)))).1 ?_
    show Steps p.tables e below (T2.setTop (mkF m 18 #[.val (.ref a1), .val (.int (4 : Int32)), .val (.double (FP.l2d x)), .second, .val (.int (2 : Int32))] [])) _
    refine XS.aloadN X2.here hx rfl (hb hby d8_18) rfl rfl ?_
    show Steps p.tables e below (T2.setTop (mkF m 19 #[.val (.ref a1), .val (.int (4 : Int32)), .val (.double (FP.l2d x)), .second, .val (.int (2 : Int32))] [(.ref a1)])) _
    refine st3 _ ?_
    show Steps p.tables e below (T3.setTop (mkF m 22 #[.val (.ref a1), .val (.int (4 : Int32)), .val (.double (FP.l2d x)), .second, .val (.int (2 : Int32))] [(.ref aS)])) _
    refine XS.iload X3.here hx rfl (hb hby d8_22) rfl ?_
    show Steps p.tables e below (T3.setTop (mkF m 24 #[.val (.ref a1), .val (.int (4 : Int32)), .val (.double (FP.l2d x)), .second, .val (.int (2 : Int32))] [(.int (2 : Int32)), (.ref aS)])) _
    refine XS.aloadN X3.here hx rfl (hb hby d8_24) rfl rfl ?_
    show Steps p.tables e below (T3.setTop (mkF m 25 #[.val (.ref a1), .val (.int (4 : Int32)), .val (.double (FP.l2d x)), .second, .val (.int (2 : Int32))] [(.ref a1), (.int (2 : Int32)), (.ref aS)])) _
    refine st4 _ ?_
    show Steps p.tables e below (T4.setTop (mkF m 28 #[.val (.ref a1), .val (.int (4 : Int32)), .val (.double (FP.l2d x)), .second, .val (.int (2 : Int32))] [(.ref aS), (.int (2 : Int32)), (.ref aS)])) _
    refine XS.iconst X4.here hx rfl (hb hby d8_28) ?_
    show Steps p.tables e below (T4.setTop (mkF m 29 #[.val (.ref a1), .val (.int (4 : Int32)), .val (.double (FP.l2d x)), .second, .val (.int (2 : Int32))] [(.int (2 : Int32)), (.ref aS), (.int (2 : Int32)), (.ref aS)])) _
    refine XS.iload X4.here hx rfl (hb hby d8_29) rfl ?_
    show Steps p.tables e below (T4.setTop (mkF m 31 #[.val (.ref a1), .val (.int (4 : Int32)), .val (.double (FP.l2d x)), .second, .val (.int (2 : Int32))] [(.int (2 : Int32)), (.int (2 : Int32)), (.ref aS), (.int (2 : Int32)), (.ref aS)])) _
    refine XS.imul X4.here hx rfl (hb hby d8_31) rfl ?_
    show Steps p.tables e below (T4.setTop (mkF m 32 #[.val (.ref a1), .val (.int (4 : Int32)), .val (.double (FP.l2d x)), .second, .val (.int (2 : Int32))] [(.int (4 : Int32)), (.ref aS), (.int (2 : Int32)), (.ref aS)])) _
    refine X4.daload hx (j := (4 : Int32)) (v := (.double (FP.l2d x))) (by rw [e4]; exact Ar5.1) (State.isArrayOf_alike hZ.alike Ar5.2.1) Ar5.2.2 hin5 hat5 (g := (mkF m 32 #[.val (.ref a1), .val (.int (4 : Int32)), .val (.double (FP.l2d x)), .second, .val (.int (2 : Int32))] [(.int (4 : Int32)), (.ref aS), (.int (2 : Int32)), (.ref aS)])) rfl rfl (hb hby d8_32) _ ?_
    show Steps p.tables e below (T4.setTop (mkF m 33 #[.val (.ref a1), .val (.int (4 : Int32)), .val (.double (FP.l2d x)), .second, .val (.int (2 : Int32))] [(.double (FP.l2d x)), (.int (2 : Int32)), (.ref aS)])) _
    refine XS.aloadN X4.here hx rfl (hb hby d8_33) rfl rfl ?_
    show Steps p.tables e below (T4.setTop (mkF m 34 #[.val (.ref a1), .val (.int (4 : Int32)), .val (.double (FP.l2d x)), .second, .val (.int (2 : Int32))] [(.ref a1), (.double (FP.l2d x)), (.int (2 : Int32)), (.ref aS)])) _
    refine st6 _ ?_
    show Steps p.tables e below (T6.setTop (mkF m 37 #[.val (.ref a1), .val (.int (4 : Int32)), .val (.double (FP.l2d x)), .second, .val (.int (2 : Int32))] [(.ref aS), (.double (FP.l2d x)), (.int (2 : Int32)), (.ref aS)])) _
    refine XS.iconst X6.here hx rfl (hb hby d8_37) ?_
    show Steps p.tables e below (T6.setTop (mkF m 38 #[.val (.ref a1), .val (.int (4 : Int32)), .val (.double (FP.l2d x)), .second, .val (.int (2 : Int32))] [(.int (2 : Int32)), (.ref aS), (.double (FP.l2d x)), (.int (2 : Int32)), (.ref aS)])) _
    refine XS.iload X6.here hx rfl (hb hby d8_38) rfl ?_
    show Steps p.tables e below (T6.setTop (mkF m 40 #[.val (.ref a1), .val (.int (4 : Int32)), .val (.double (FP.l2d x)), .second, .val (.int (2 : Int32))] [(.int (2 : Int32)), (.int (2 : Int32)), (.ref aS), (.double (FP.l2d x)), (.int (2 : Int32)), (.ref aS)])) _
    refine XS.imul X6.here hx rfl (hb hby d8_40) rfl ?_
    show Steps p.tables e below (T6.setTop (mkF m 41 #[.val (.ref a1), .val (.int (4 : Int32)), .val (.double (FP.l2d x)), .second, .val (.int (2 : Int32))] [(.int (4 : Int32)), (.ref aS), (.double (FP.l2d x)), (.int (2 : Int32)), (.ref aS)])) _
    refine XS.iconst X6.here hx rfl (hb hby d8_41) ?_
    show Steps p.tables e below (T6.setTop (mkF m 42 #[.val (.ref a1), .val (.int (4 : Int32)), .val (.double (FP.l2d x)), .second, .val (.int (2 : Int32))] [(.int (1 : Int32)), (.int (4 : Int32)), (.ref aS), (.double (FP.l2d x)), (.int (2 : Int32)), (.ref aS)])) _
    refine XS.iadd X6.here hx rfl (hb hby d8_42) rfl ?_
    show Steps p.tables e below (T6.setTop (mkF m 43 #[.val (.ref a1), .val (.int (4 : Int32)), .val (.double (FP.l2d x)), .second, .val (.int (2 : Int32))] [(.int (5 : Int32)), (.ref aS), (.double (FP.l2d x)), (.int (2 : Int32)), (.ref aS)])) _
    refine X6.daload hx (j := (5 : Int32)) (v := (.double (FP.l2d (own_t M 5)))) (by rw [e6]; exact Ar7.1) (State.isArrayOf_alike hZ.alike Ar7.2.1) Ar7.2.2 hin7 hat7 (g := (mkF m 43 #[.val (.ref a1), .val (.int (4 : Int32)), .val (.double (FP.l2d x)), .second, .val (.int (2 : Int32))] [(.int (5 : Int32)), (.ref aS), (.double (FP.l2d x)), (.int (2 : Int32)), (.ref aS)])) rfl rfl (hb hby d8_43) _ ?_
    show Steps p.tables e below (T6.setTop (mkF m 44 #[.val (.ref a1), .val (.int (4 : Int32)), .val (.double (FP.l2d x)), .second, .val (.int (2 : Int32))] [(.double (FP.l2d (own_t M 5))), (.double (FP.l2d x)), (.int (2 : Int32)), (.ref aS)])) _
    refine XS.daddS X6.here hx rfl (hb hby d8_44) rfl (nn_w (dadd_w (own_Lb53 hxx (by decide)) (own_Lb53 (own_tb hM 5) (by decide)))) (v := (FP.l2d (x + (own_t M 5)))) (dadd_w (own_Lb53 hxx (by decide)) (own_Lb53 (own_tb hM 5) (by decide))) ?_
    show Steps p.tables e below (T6.setTop (mkF m 45 #[.val (.ref a1), .val (.int (4 : Int32)), .val (.double (FP.l2d x)), .second, .val (.int (2 : Int32))] [(.double (FP.l2d (x + (own_t M 5)))), (.int (2 : Int32)), (.ref aS)])) _
    refine st8 _ ?_
    show Steps p.tables e below (T8.setTop (mkF m 46 #[.val (.ref a1), .val (.int (4 : Int32)), .val (.double (FP.l2d x)), .second, .val (.int (2 : Int32))] [])) _
    refine XS.iload X8.here hx rfl (hb hby d8_46) rfl ?_
    show Steps p.tables e below (T8.setTop (mkF m 48 #[.val (.ref a1), .val (.int (4 : Int32)), .val (.double (FP.l2d x)), .second, .val (.int (2 : Int32))] [(.int (2 : Int32))])) _
    refine XS.iconst X8.here hx rfl (hb hby d8_48) ?_
    show Steps p.tables e below (T8.setTop (mkF m 49 #[.val (.ref a1), .val (.int (4 : Int32)), .val (.double (FP.l2d x)), .second, .val (.int (2 : Int32))] [(.int (2 : Int32)), (.int (2 : Int32))])) _
    refine XS.idiv X8.here hx rfl (hb hby d8_49) rfl (by decide) ?_
    show Steps p.tables e below (T8.setTop (mkF m 50 #[.val (.ref a1), .val (.int (4 : Int32)), .val (.double (FP.l2d x)), .second, .val (.int (2 : Int32))] [(.int (1 : Int32))])) _
    refine XS.istore X8.here hx rfl (hb hby d8_50) rfl (l' := #[.val (.ref a1), .val (.int (4 : Int32)), .val (.double (FP.l2d x)), .second, .val (.int (1 : Int32))]) rfl ?_
    show Steps p.tables e below (T8.setTop (mkF m 52 #[.val (.ref a1), .val (.int (4 : Int32)), .val (.double (FP.l2d x)), .second, .val (.int (1 : Int32))] [])) _
    refine XS.goto X8.here hx rfl (pc0 := 52) (pc' := 12) rfl (hb hby d8_52) (by decide) (by decide) ?_
    show Steps p.tables e below (T8.setTop (mkF m 12 #[.val (.ref a1), .val (.int (4 : Int32)), .val (.double (FP.l2d x)), .second, .val (.int (1 : Int32))] [])) _
    refine XS.iload X8.here hx rfl (hb hby d8_12) rfl ?_
    show Steps p.tables e below (T8.setTop (mkF m 14 #[.val (.ref a1), .val (.int (4 : Int32)), .val (.double (FP.l2d x)), .second, .val (.int (1 : Int32))] [(.int (1 : Int32))])) _
    refine XS.iconst X8.here hx rfl (hb hby d8_14) ?_
    show Steps p.tables e below (T8.setTop (mkF m 15 #[.val (.ref a1), .val (.int (4 : Int32)), .val (.double (FP.l2d x)), .second, .val (.int (1 : Int32))] [(.int (1 : Int32)), (.int (1 : Int32))])) _
    refine XS.icmpNo X8.here hx rfl (hb hby d8_15) rfl (flt (by decide : ¬ ((1 : Int32) < (1 : Int32)))).1 ?_
    show Steps p.tables e below (T8.setTop (mkF m 18 #[.val (.ref a1), .val (.int (4 : Int32)), .val (.double (FP.l2d x)), .second, .val (.int (1 : Int32))] [])) _
    refine XS.aloadN X8.here hx rfl (hb hby d8_18) rfl rfl ?_
    show Steps p.tables e below (T8.setTop (mkF m 19 #[.val (.ref a1), .val (.int (4 : Int32)), .val (.double (FP.l2d x)), .second, .val (.int (1 : Int32))] [(.ref a1)])) _
    refine st9 _ ?_
    show Steps p.tables e below (T9.setTop (mkF m 22 #[.val (.ref a1), .val (.int (4 : Int32)), .val (.double (FP.l2d x)), .second, .val (.int (1 : Int32))] [(.ref aS)])) _
    refine XS.iload X9.here hx rfl (hb hby d8_22) rfl ?_
    show Steps p.tables e below (T9.setTop (mkF m 24 #[.val (.ref a1), .val (.int (4 : Int32)), .val (.double (FP.l2d x)), .second, .val (.int (1 : Int32))] [(.int (1 : Int32)), (.ref aS)])) _
    refine XS.aloadN X9.here hx rfl (hb hby d8_24) rfl rfl ?_
    show Steps p.tables e below (T9.setTop (mkF m 25 #[.val (.ref a1), .val (.int (4 : Int32)), .val (.double (FP.l2d x)), .second, .val (.int (1 : Int32))] [(.ref a1), (.int (1 : Int32)), (.ref aS)])) _
    refine st10 _ ?_
    show Steps p.tables e below (T10.setTop (mkF m 28 #[.val (.ref a1), .val (.int (4 : Int32)), .val (.double (FP.l2d x)), .second, .val (.int (1 : Int32))] [(.ref aS), (.int (1 : Int32)), (.ref aS)])) _
    refine XS.iconst X10.here hx rfl (hb hby d8_28) ?_
    show Steps p.tables e below (T10.setTop (mkF m 29 #[.val (.ref a1), .val (.int (4 : Int32)), .val (.double (FP.l2d x)), .second, .val (.int (1 : Int32))] [(.int (2 : Int32)), (.ref aS), (.int (1 : Int32)), (.ref aS)])) _
    refine XS.iload X10.here hx rfl (hb hby d8_29) rfl ?_
    show Steps p.tables e below (T10.setTop (mkF m 31 #[.val (.ref a1), .val (.int (4 : Int32)), .val (.double (FP.l2d x)), .second, .val (.int (1 : Int32))] [(.int (1 : Int32)), (.int (2 : Int32)), (.ref aS), (.int (1 : Int32)), (.ref aS)])) _
    refine XS.imul X10.here hx rfl (hb hby d8_31) rfl ?_
    show Steps p.tables e below (T10.setTop (mkF m 32 #[.val (.ref a1), .val (.int (4 : Int32)), .val (.double (FP.l2d x)), .second, .val (.int (1 : Int32))] [(.int (2 : Int32)), (.ref aS), (.int (1 : Int32)), (.ref aS)])) _
    refine X10.daload hx (j := (2 : Int32)) (v := (.double (FP.l2d (x + (own_t M 5))))) (by rw [e10]; exact Ar11.1) (State.isArrayOf_alike hZ.alike Ar11.2.1) Ar11.2.2 hin11 hat11 (g := (mkF m 32 #[.val (.ref a1), .val (.int (4 : Int32)), .val (.double (FP.l2d x)), .second, .val (.int (1 : Int32))] [(.int (2 : Int32)), (.ref aS), (.int (1 : Int32)), (.ref aS)])) rfl rfl (hb hby d8_32) _ ?_
    show Steps p.tables e below (T10.setTop (mkF m 33 #[.val (.ref a1), .val (.int (4 : Int32)), .val (.double (FP.l2d x)), .second, .val (.int (1 : Int32))] [(.double (FP.l2d (x + (own_t M 5)))), (.int (1 : Int32)), (.ref aS)])) _
    refine XS.aloadN X10.here hx rfl (hb hby d8_33) rfl rfl ?_
    show Steps p.tables e below (T10.setTop (mkF m 34 #[.val (.ref a1), .val (.int (4 : Int32)), .val (.double (FP.l2d x)), .second, .val (.int (1 : Int32))] [(.ref a1), (.double (FP.l2d (x + (own_t M 5)))), (.int (1 : Int32)), (.ref aS)])) _
    refine st12 _ ?_
    show Steps p.tables e below (T12.setTop (mkF m 37 #[.val (.ref a1), .val (.int (4 : Int32)), .val (.double (FP.l2d x)), .second, .val (.int (1 : Int32))] [(.ref aS), (.double (FP.l2d (x + (own_t M 5)))), (.int (1 : Int32)), (.ref aS)])) _
    refine XS.iconst X12.here hx rfl (hb hby d8_37) ?_
    show Steps p.tables e below (T12.setTop (mkF m 38 #[.val (.ref a1), .val (.int (4 : Int32)), .val (.double (FP.l2d x)), .second, .val (.int (1 : Int32))] [(.int (2 : Int32)), (.ref aS), (.double (FP.l2d (x + (own_t M 5)))), (.int (1 : Int32)), (.ref aS)])) _
    refine XS.iload X12.here hx rfl (hb hby d8_38) rfl ?_
    show Steps p.tables e below (T12.setTop (mkF m 40 #[.val (.ref a1), .val (.int (4 : Int32)), .val (.double (FP.l2d x)), .second, .val (.int (1 : Int32))] [(.int (1 : Int32)), (.int (2 : Int32)), (.ref aS), (.double (FP.l2d (x + (own_t M 5)))), (.int (1 : Int32)), (.ref aS)])) _
    refine XS.imul X12.here hx rfl (hb hby d8_40) rfl ?_
    show Steps p.tables e below (T12.setTop (mkF m 41 #[.val (.ref a1), .val (.int (4 : Int32)), .val (.double (FP.l2d x)), .second, .val (.int (1 : Int32))] [(.int (2 : Int32)), (.ref aS), (.double (FP.l2d (x + (own_t M 5)))), (.int (1 : Int32)), (.ref aS)])) _
    refine XS.iconst X12.here hx rfl (hb hby d8_41) ?_
    show Steps p.tables e below (T12.setTop (mkF m 42 #[.val (.ref a1), .val (.int (4 : Int32)), .val (.double (FP.l2d x)), .second, .val (.int (1 : Int32))] [(.int (1 : Int32)), (.int (2 : Int32)), (.ref aS), (.double (FP.l2d (x + (own_t M 5)))), (.int (1 : Int32)), (.ref aS)])) _
    refine XS.iadd X12.here hx rfl (hb hby d8_42) rfl ?_
    show Steps p.tables e below (T12.setTop (mkF m 43 #[.val (.ref a1), .val (.int (4 : Int32)), .val (.double (FP.l2d x)), .second, .val (.int (1 : Int32))] [(.int (3 : Int32)), (.ref aS), (.double (FP.l2d (x + (own_t M 5)))), (.int (1 : Int32)), (.ref aS)])) _
    refine X12.daload hx (j := (3 : Int32)) (v := (.double (FP.l2d (own_t M 3)))) (by rw [e12]; exact Ar13.1) (State.isArrayOf_alike hZ.alike Ar13.2.1) Ar13.2.2 hin13 hat13 (g := (mkF m 43 #[.val (.ref a1), .val (.int (4 : Int32)), .val (.double (FP.l2d x)), .second, .val (.int (1 : Int32))] [(.int (3 : Int32)), (.ref aS), (.double (FP.l2d (x + (own_t M 5)))), (.int (1 : Int32)), (.ref aS)])) rfl rfl (hb hby d8_43) _ ?_
    show Steps p.tables e below (T12.setTop (mkF m 44 #[.val (.ref a1), .val (.int (4 : Int32)), .val (.double (FP.l2d x)), .second, .val (.int (1 : Int32))] [(.double (FP.l2d (own_t M 3))), (.double (FP.l2d (x + (own_t M 5)))), (.int (1 : Int32)), (.ref aS)])) _
    refine XS.daddS X12.here hx rfl (hb hby d8_44) rfl (nn_w (dadd_w (own_Lb53 (own_La hxx (own_tb hM 5) (by decide)) (by decide)) (own_Lb53 (own_tb hM 3) (by decide)))) (v := (FP.l2d ((x + (own_t M 5)) + (own_t M 3)))) (dadd_w (own_Lb53 (own_La hxx (own_tb hM 5) (by decide)) (by decide)) (own_Lb53 (own_tb hM 3) (by decide))) ?_
    show Steps p.tables e below (T12.setTop (mkF m 45 #[.val (.ref a1), .val (.int (4 : Int32)), .val (.double (FP.l2d x)), .second, .val (.int (1 : Int32))] [(.double (FP.l2d ((x + (own_t M 5)) + (own_t M 3)))), (.int (1 : Int32)), (.ref aS)])) _
    refine st14 _ ?_
    show Steps p.tables e below (T14.setTop (mkF m 46 #[.val (.ref a1), .val (.int (4 : Int32)), .val (.double (FP.l2d x)), .second, .val (.int (1 : Int32))] [])) _
    refine XS.iload X14.here hx rfl (hb hby d8_46) rfl ?_
    show Steps p.tables e below (T14.setTop (mkF m 48 #[.val (.ref a1), .val (.int (4 : Int32)), .val (.double (FP.l2d x)), .second, .val (.int (1 : Int32))] [(.int (1 : Int32))])) _
    refine XS.iconst X14.here hx rfl (hb hby d8_48) ?_
    show Steps p.tables e below (T14.setTop (mkF m 49 #[.val (.ref a1), .val (.int (4 : Int32)), .val (.double (FP.l2d x)), .second, .val (.int (1 : Int32))] [(.int (2 : Int32)), (.int (1 : Int32))])) _
    refine XS.idiv X14.here hx rfl (hb hby d8_49) rfl (by decide) ?_
    show Steps p.tables e below (T14.setTop (mkF m 50 #[.val (.ref a1), .val (.int (4 : Int32)), .val (.double (FP.l2d x)), .second, .val (.int (1 : Int32))] [(.int (0 : Int32))])) _
    refine XS.istore X14.here hx rfl (hb hby d8_50) rfl (l' := #[.val (.ref a1), .val (.int (4 : Int32)), .val (.double (FP.l2d x)), .second, .val (.int (0 : Int32))]) rfl ?_
    show Steps p.tables e below (T14.setTop (mkF m 52 #[.val (.ref a1), .val (.int (4 : Int32)), .val (.double (FP.l2d x)), .second, .val (.int (0 : Int32))] [])) _
    refine XS.goto X14.here hx rfl (pc0 := 52) (pc' := 12) rfl (hb hby d8_52) (by decide) (by decide) ?_
    show Steps p.tables e below (T14.setTop (mkF m 12 #[.val (.ref a1), .val (.int (4 : Int32)), .val (.double (FP.l2d x)), .second, .val (.int (0 : Int32))] [])) _
    refine XS.iload X14.here hx rfl (hb hby d8_12) rfl ?_
    show Steps p.tables e below (T14.setTop (mkF m 14 #[.val (.ref a1), .val (.int (4 : Int32)), .val (.double (FP.l2d x)), .second, .val (.int (0 : Int32))] [(.int (0 : Int32))])) _
    refine XS.iconst X14.here hx rfl (hb hby d8_14) ?_
    show Steps p.tables e below (T14.setTop (mkF m 15 #[.val (.ref a1), .val (.int (4 : Int32)), .val (.double (FP.l2d x)), .second, .val (.int (0 : Int32))] [(.int (1 : Int32)), (.int (0 : Int32))])) _
    refine XS.icmpYes X14.here hx rfl (pc0 := 15) (pc' := 55) rfl (hb hby d8_15) rfl (tlt (by decide : ((0 : Int32) < (1 : Int32)))).1 (by decide) (by decide) ?_
    show Steps p.tables e below (T14.setTop (mkF m 55 #[.val (.ref a1), .val (.int (4 : Int32)), .val (.double (FP.l2d x)), .second, .val (.int (0 : Int32))] [])) _
    exact X14.returnOut hx Bd.returns (hb hby d8_55) hr
  · show Q_rset4 Z a1 x aS M h0 n0 _ T14.heap _
    rw [e14]
    exact ⟨rfl, N14, K14, V14_v14.congr (fun i hi => by match i, hi with | 0, _ => rfl | 1, _ => rfl | 2, _ => rfl | 3, _ => rfl | 4, _ => rfl | 5, _ => rfl | 6, _ => rfl | 7, _ => rfl)⟩
theorem pn_rset5 : plainName "com/example/velar/velar/WeightedDraws" = true := by first | (simp [plainName, overriddenIn]; done) | decide +kernel
theorem ef_rset5 (m : MethodId) (x0 : Addr) (x1 : Int32) (x2 : UInt64) : entryFrame m #[(.ref x0), (.int x1), (.double x2)] 5 = mkF m 0 #[.val (.ref x0), .val (.int x1), .val (.double x2), .second, .unset] [] := by first | (simp [entryFrame, mkF, argsToLocals, Value.category]; done) | rfl
def Q_rset5 (Z : State) (a1 : Addr) (x : Int64) (aS : Addr) (M : Int32 → Int64) (h0 : Heap) (n0 : Nat) (v : Option Value) (h : Heap) (L : List Loc) : Prop := v = none ∧ Fr n0 L ∧ Keep h0 h [aS] ∧ ArF Z h aS .double 8 (fun i => .double (FP.l2d (own_t (own_up M (5 : Int32) x) i)))
set_option maxRecDepth 65536 in
set_option maxHeartbeats 40000000 in
theorem rset5 (l : Launch) (Z : State) (a0 : Array Value) (hw : ∀ d ∈ tables_1, d.before a0 Z = true) (ws : List Jvm.Cond) (a1 : Addr) (x : Int64) (aS : Addr) (M : Int32 → Int64) (h0 : Heap) (n0 : Nat) (Z0 : n0 ≤ h0.size) (Fs : Fld Z h0 a1 "com/example/velar/velar/WeightedDraws" "sums" "[D" (.ref aS)) (V0 : ArF Z h0 aS .double 8 (fun i => .double (FP.l2d (own_t M i)))) (gs : n0 ≤ aS) (n1 : a1 ≠ aS) (hM : own_bd M) (hxx : own_Lb 16 x) :
    MetFree l (⟨"com/example/velar/velar/WeightedDraws", "set", "(ID)V"⟩ : MethodName) (head1 (Jvm.Cond.code (⟨"com/example/velar/velar/WeightedDraws", "set", "(ID)V"⟩ : MethodName) prog_28_method_4_code 5 none :: ws) ({ frames := 0, cells := 0, slots := 0, locals := 0 } : Room)) (fun a U => a = #[(.ref a1), (.int (5 : Int32)), (.double (FP.l2d x))] ∧ Z.Warmed39 U.vm ∧ U.heap = h0) (fun _ _ _ _ _ => True) (fun _ U o U' => ∃ v L, o = .returned v ∧ Q_rset5 Z a1 x aS M h0 n0 v U'.heap L ∧ FrameEnd U o U' L ({ frames := 0, cells := 0, slots := 0, locals := 0 } : Room).cells ({ frames := 0, cells := 0, slots := 0, locals := 0 } : Room).slots) := by
  refine MetFree.of_bodySF (plainFor_of_name pn_rset5) hisR ?_
  intro p e s m args below meth c s₁ Bd hml0 hP hK
  obtain ⟨rfl, hZ, hh⟩ := hP
  have hx := Bd.exec
  have hby := Bd.bytes
  have hml : c.maxLocals = 5 := hml0
  have hown : s.vm.findClass "com/example/velar/velar/WeightedDraws" = some m.cls := findClass_of_methodNamed Bd.named
  have hnm := (name_of_methodNamed Bd.named Bd.method).1
  have X0 : Stand p l e ({ frames := 0, cells := 0, slots := 0, locals := 0 } : Room) s m #[(.ref a1), (.int (5 : Int32)), (.double (FP.l2d x))] below meth c s₁ [] 0 0 := Stand.of_body Bd
  have e0 : s₁.heap = h0 := by rw [← hh, Bd.state]; rfl
  have N0 := Fr.nil n0
  have pre0 : ∀ t, Steps p.tables e below (s₁.setTop (mkF m 0 #[.val (.ref a1), .val (.int (5 : Int32)), .val (.double (FP.l2d x)), .second, .unset] [])) t → Steps p.tables e below (s₁.setTop (entryFrame m #[(.ref a1), (.int (5 : Int32)), (.double (FP.l2d x))] 5)) t := fun t k => castTop (ef_rset5 m a1 (5 : Int32) (FP.l2d x)) k
  have K0 := Keep.refl h0 [aS]
  obtain ⟨T1, X1, e1, st1⟩ := getF X0 hx hZ hown (host := "") (Or.inl (hw _ (List.mem_of_getElem? (i := 26) rfl))) Via.refl e0 Fs (g := (mkF m 1 #[.val (.ref a1), .val (.int (5 : Int32)), .val (.double (FP.l2d x)), .second, .unset] [(.ref a1)])) rfl rfl (hb hby d8_1)
  obtain ⟨cl2, Ar2, S2, H2⟩ := id V0
  have hin2 : ¬ ((5 : Int32) < 0 ∨ cl2.slots.size ≤ ((5 : Int32)).toNatClampNeg) := inA S2 (by decide) (by decide)
  obtain ⟨T2, h2, X2, e2, W2, st2⟩ := stD X1 hx hZ e1 Ar2 (j := (5 : Int32)) hin2 (g := (mkF m 6 #[.val (.ref a1), .val (.int (5 : Int32)), .val (.double (FP.l2d x)), .second, .unset] [(.double (FP.l2d x)), (.int (5 : Int32)), (.ref aS)])) rfl rfl (hb hby d8_6)
  have Fs_v2 := Fs.other W2 (Or.inl n1)
  have Z2 : n0 ≤ h2.size := Nat.le_trans Z0 (Nat.le_of_eq W2.size.symm)
  have K2 := K0.wr W2 (Or.inl (by simp))
  have V2_v2 := ArF.set Ar2 S2 H2 W2 hin2
  have N2 := Fr.snoc X2 N0 gs
  obtain ⟨T3, X3, e3, st3⟩ := getF X2 hx hZ hown (host := "") (Or.inl (hw _ (List.mem_of_getElem? (i := 26) rfl))) Via.refl e2 Fs_v2 (g := (mkF m 19 #[.val (.ref a1), .val (.int (5 : Int32)), .val (.double (FP.l2d x)), .second, .val (.int (2 : Int32))] [(.ref a1)])) rfl rfl (hb hby d8_19)
  obtain ⟨T4, X4, e4, st4⟩ := getF X3 hx hZ hown (host := "") (Or.inl (hw _ (List.mem_of_getElem? (i := 26) rfl))) Via.refl e3 Fs_v2 (g := (mkF m 25 #[.val (.ref a1), .val (.int (5 : Int32)), .val (.double (FP.l2d x)), .second, .val (.int (2 : Int32))] [(.ref a1), (.int (2 : Int32)), (.ref aS)])) rfl rfl (hb hby d8_25)
  obtain ⟨cl5, Ar5, S5, H5⟩ := id V2_v2
  have hin5 : ¬ ((4 : Int32) < 0 ∨ cl5.slots.size ≤ ((4 : Int32)).toNatClampNeg) := inA S5 (by decide) (by decide)
  have hat5 : cl5.slots[((4 : Int32)).toNatClampNeg]? = some (.double (FP.l2d (own_t M 4))) := ArF.at S5 H5 hin5 rfl
  obtain ⟨T6, X6, e6, st6⟩ := getF X4 hx hZ hown (host := "") (Or.inl (hw _ (List.mem_of_getElem? (i := 26) rfl))) Via.refl e4 Fs_v2 (g := (mkF m 34 #[.val (.ref a1), .val (.int (5 : Int32)), .val (.double (FP.l2d x)), .second, .val (.int (2 : Int32))] [(.ref a1), (.double (FP.l2d (own_t M 4))), (.int (2 : Int32)), (.ref aS)])) rfl rfl (hb hby d8_34)
  obtain ⟨cl7, Ar7, S7, H7⟩ := id V2_v2
  have hin7 : ¬ ((5 : Int32) < 0 ∨ cl7.slots.size ≤ ((5 : Int32)).toNatClampNeg) := inA S7 (by decide) (by decide)
  have hat7 : cl7.slots[((5 : Int32)).toNatClampNeg]? = some (.double (FP.l2d x)) := ArF.at S7 H7 hin7 rfl
  obtain ⟨cl8, Ar8, S8, H8⟩ := id V2_v2
  have hin8 : ¬ ((2 : Int32) < 0 ∨ cl8.slots.size ≤ ((2 : Int32)).toNatClampNeg) := inA S8 (by decide) (by decide)
  obtain ⟨T8, h8, X8, e8, W8, st8⟩ := stD X6 hx hZ e6 Ar8 (j := (2 : Int32)) hin8 (g := (mkF m 45 #[.val (.ref a1), .val (.int (5 : Int32)), .val (.double (FP.l2d x)), .second, .val (.int (2 : Int32))] [(.double (FP.l2d ((own_t M 4) + x))), (.int (2 : Int32)), (.ref aS)])) rfl rfl (hb hby d8_45)
  have Fs_v8 := Fs_v2.other W8 (Or.inl n1)
  have Z8 : n0 ≤ h8.size := Nat.le_trans Z2 (Nat.le_of_eq W8.size.symm)
  have K8 := K2.wr W8 (Or.inl (by simp))
  have V8_v8 := ArF.set Ar8 S8 H8 W8 hin8
  have N8 := Fr.snoc X8 N2 gs
  obtain ⟨T9, X9, e9, st9⟩ := getF X8 hx hZ hown (host := "") (Or.inl (hw _ (List.mem_of_getElem? (i := 26) rfl))) Via.refl e8 Fs_v8 (g := (mkF m 19 #[.val (.ref a1), .val (.int (5 : Int32)), .val (.double (FP.l2d x)), .second, .val (.int (1 : Int32))] [(.ref a1)])) rfl rfl (hb hby d8_19)
  obtain ⟨T10, X10, e10, st10⟩ := getF X9 hx hZ hown (host := "") (Or.inl (hw _ (List.mem_of_getElem? (i := 26) rfl))) Via.refl e9 Fs_v8 (g := (mkF m 25 #[.val (.ref a1), .val (.int (5 : Int32)), .val (.double (FP.l2d x)), .second, .val (.int (1 : Int32))] [(.ref a1), (.int (1 : Int32)), (.ref aS)])) rfl rfl (hb hby d8_25)
  obtain ⟨cl11, Ar11, S11, H11⟩ := id V8_v8
  have hin11 : ¬ ((2 : Int32) < 0 ∨ cl11.slots.size ≤ ((2 : Int32)).toNatClampNeg) := inA S11 (by decide) (by decide)
  have hat11 : cl11.slots[((2 : Int32)).toNatClampNeg]? = some (.double (FP.l2d ((own_t M 4) + x))) := ArF.at S11 H11 hin11 rfl
  obtain ⟨T12, X12, e12, st12⟩ := getF X10 hx hZ hown (host := "") (Or.inl (hw _ (List.mem_of_getElem? (i := 26) rfl))) Via.refl e10 Fs_v8 (g := (mkF m 34 #[.val (.ref a1), .val (.int (5 : Int32)), .val (.double (FP.l2d x)), .second, .val (.int (1 : Int32))] [(.ref a1), (.double (FP.l2d ((own_t M 4) + x))), (.int (1 : Int32)), (.ref aS)])) rfl rfl (hb hby d8_34)
  obtain ⟨cl13, Ar13, S13, H13⟩ := id V8_v8
  have hin13 : ¬ ((3 : Int32) < 0 ∨ cl13.slots.size ≤ ((3 : Int32)).toNatClampNeg) := inA S13 (by decide) (by decide)
  have hat13 : cl13.slots[((3 : Int32)).toNatClampNeg]? = some (.double (FP.l2d (own_t M 3))) := ArF.at S13 H13 hin13 rfl
  obtain ⟨cl14, Ar14, S14, H14⟩ := id V8_v8
  have hin14 : ¬ ((1 : Int32) < 0 ∨ cl14.slots.size ≤ ((1 : Int32)).toNatClampNeg) := inA S14 (by decide) (by decide)
  obtain ⟨T14, h14, X14, e14, W14, st14⟩ := stD X12 hx hZ e12 Ar14 (j := (1 : Int32)) hin14 (g := (mkF m 45 #[.val (.ref a1), .val (.int (5 : Int32)), .val (.double (FP.l2d x)), .second, .val (.int (1 : Int32))] [(.double (FP.l2d (((own_t M 4) + x) + (own_t M 3)))), (.int (1 : Int32)), (.ref aS)])) rfl rfl (hb hby d8_45)
  have Fs_v14 := Fs_v8.other W14 (Or.inl n1)
  have Z14 : n0 ≤ h14.size := Nat.le_trans Z8 (Nat.le_of_eq W14.size.symm)
  have K14 := K8.wr W14 (Or.inl (by simp))
  have V14_v14 := ArF.set Ar14 S14 H14 W14 hin14
  have N14 := Fr.snoc X14 N8 gs
  obtain ⟨fs, hr, hrun, hended, hW, hsame⟩ := X14.leave (v := none) (fun _ => rfl)
  refine ⟨_, _, pre0 _ ?_, hrun, hended, _, _, rfl, ?_, ⟨_, rfl⟩, hW, hsame.mono (by decide) (by decide)⟩
  · show Steps p.tables e below (s₁.setTop (mkF m 0 #[.val (.ref a1), .val (.int (5 : Int32)), .val (.double (FP.l2d x)), .second, .unset] [])) _
    refine XS.aloadN X0.here hx rfl (hb hby d8_0) rfl rfl ?_
    show Steps p.tables e below (s₁.setTop (mkF m 1 #[.val (.ref a1), .val (.int (5 : Int32)), .val (.double (FP.l2d x)), .second, .unset] [(.ref a1)])) _
    refine st1 _ ?_
    show Steps p.tables e below (T1.setTop (mkF m 4 #[.val (.ref a1), .val (.int (5 : Int32)), .val (.double (FP.l2d x)), .second, .unset] [(.ref aS)])) _
    refine XS.iloadN X1.here hx rfl (hb hby d8_4) rfl ?_
    show Steps p.tables e below (T1.setTop (mkF m 5 #[.val (.ref a1), .val (.int (5 : Int32)), .val (.double (FP.l2d x)), .second, .unset] [(.int (5 : Int32)), (.ref aS)])) _
    refine XS.dloadN X1.here hx rfl (hb hby d8_5) rfl ?_
    show Steps p.tables e below (T1.setTop (mkF m 6 #[.val (.ref a1), .val (.int (5 : Int32)), .val (.double (FP.l2d x)), .second, .unset] [(.double (FP.l2d x)), (.int (5 : Int32)), (.ref aS)])) _
    refine st2 _ ?_
    show Steps p.tables e below (T2.setTop (mkF m 7 #[.val (.ref a1), .val (.int (5 : Int32)), .val (.double (FP.l2d x)), .second, .unset] [])) _
    refine XS.iloadN X2.here hx rfl (hb hby d8_7) rfl ?_
    show Steps p.tables e below (T2.setTop (mkF m 8 #[.val (.ref a1), .val (.int (5 : Int32)), .val (.double (FP.l2d x)), .second, .unset] [(.int (5 : Int32))])) _
    refine XS.iconst X2.here hx rfl (hb hby d8_8) ?_
    show Steps p.tables e below (T2.setTop (mkF m 9 #[.val (.ref a1), .val (.int (5 : Int32)), .val (.double (FP.l2d x)), .second, .unset] [(.int (2 : Int32)), (.int (5 : Int32))])) _
    refine XS.idiv X2.here hx rfl (hb hby d8_9) rfl (by decide) ?_
    show Steps p.tables e below (T2.setTop (mkF m 10 #[.val (.ref a1), .val (.int (5 : Int32)), .val (.double (FP.l2d x)), .second, .unset] [(.int (2 : Int32))])) _
    refine XS.istore X2.here hx rfl (hb hby d8_10) rfl (l' := #[.val (.ref a1), .val (.int (5 : Int32)), .val (.double (FP.l2d x)), .second, .val (.int (2 : Int32))]) rfl ?_
    show Steps p.tables e below (T2.setTop (mkF m 12 #[.val (.ref a1), .val (.int (5 : Int32)), .val (.double (FP.l2d x)), .second, .val (.int (2 : Int32))] [])) _
    refine XS.iload X2.here hx rfl (hb hby d8_12) rfl ?_
    show Steps p.tables e below (T2.setTop (mkF m 14 #[.val (.ref a1), .val (.int (5 : Int32)), .val (.double (FP.l2d x)), .second, .val (.int (2 : Int32))] [(.int (2 : Int32))])) _
    refine XS.iconst X2.here hx rfl (hb hby d8_14) ?_
    show Steps p.tables e below (T2.setTop (mkF m 15 #[.val (.ref a1), .val (.int (5 : Int32)), .val (.double (FP.l2d x)), .second, .val (.int (2 : Int32))] [(.int (1 : Int32)), (.int (2 : Int32))])) _
    refine XS.icmpNo X2.here hx rfl (hb hby d8_15) rfl (flt (by decide : ¬ ((2 : Int32) < (1 : Int32)))).1 ?_
    show Steps p.tables e below (T2.setTop (mkF m 18 #[.val (.ref a1), .val (.int (5 : Int32)), .val (.double (FP.l2d x)), .second, .val (.int (2 : Int32))] [])) _
    refine XS.aloadN X2.here hx rfl (hb hby d8_18) rfl rfl ?_
    show Steps p.tables e below (T2.setTop (mkF m 19 #[.val (.ref a1), .val (.int (5 : Int32)), .val (.double (FP.l2d x)), .second, .val (.int (2 : Int32))] [(.ref a1)])) _
    refine st3 _ ?_
    show Steps p.tables e below (T3.setTop (mkF m 22 #[.val (.ref a1), .val (.int (5 : Int32)), .val (.double (FP.l2d x)), .second, .val (.int (2 : Int32))] [(.ref aS)])) _
    refine XS.iload X3.here hx rfl (hb hby d8_22) rfl ?_
    show Steps p.tables e below (T3.setTop (mkF m 24 #[.val (.ref a1), .val (.int (5 : Int32)), .val (.double (FP.l2d x)), .second, .val (.int (2 : Int32))] [(.int (2 : Int32)), (.ref aS)])) _
    refine XS.aloadN X3.here hx rfl (hb hby d8_24) rfl rfl ?_
    show Steps p.tables e below (T3.setTop (mkF m 25 #[.val (.ref a1), .val (.int (5 : Int32)), .val (.double (FP.l2d x)), .second, .val (.int (2 : Int32))] [(.ref a1), (.int (2 : Int32)), (.ref aS)])) _
    refine st4 _ ?_
    show Steps p.tables e below (T4.setTop (mkF m 28 #[.val (.ref a1), .val (.int (5 : Int32)), .val (.double (FP.l2d x)), .second, .val (.int (2 : Int32))] [(.ref aS), (.int (2 : Int32)), (.ref aS)])) _
    refine XS.iconst X4.here hx rfl (hb hby d8_28) ?_
    show Steps p.tables e below (T4.setTop (mkF m 29 #[.val (.ref a1), .val (.int (5 : Int32)), .val (.double (FP.l2d x)), .second, .val (.int (2 : Int32))] [(.int (2 : Int32)), (.ref aS), (.int (2 : Int32)), (.ref aS)])) _
    refine XS.iload X4.here hx rfl (hb hby d8_29) rfl ?_
    show Steps p.tables e below (T4.setTop (mkF m 31 #[.val (.ref a1), .val (.int (5 : Int32)), .val (.double (FP.l2d x)), .second, .val (.int (2 : Int32))] [(.int (2 : Int32)), (.int (2 : Int32)), (.ref aS), (.int (2 : Int32)), (.ref aS)])) _
    refine XS.imul X4.here hx rfl (hb hby d8_31) rfl ?_
    show Steps p.tables e below (T4.setTop (mkF m 32 #[.val (.ref a1), .val (.int (5 : Int32)), .val (.double (FP.l2d x)), .second, .val (.int (2 : Int32))] [(.int (4 : Int32)), (.ref aS), (.int (2 : Int32)), (.ref aS)])) _
    refine X4.daload hx (j := (4 : Int32)) (v := (.double (FP.l2d (own_t M 4)))) (by rw [e4]; exact Ar5.1) (State.isArrayOf_alike hZ.alike Ar5.2.1) Ar5.2.2 hin5 hat5 (g := (mkF m 32 #[.val (.ref a1), .val (.int (5 : Int32)), .val (.double (FP.l2d x)), .second, .val (.int (2 : Int32))] [(.int (4 : Int32)), (.ref aS), (.int (2 : Int32)), (.ref aS)])) rfl rfl (hb hby d8_32) _ ?_
    show Steps p.tables e below (T4.setTop (mkF m 33 #[.val (.ref a1), .val (.int (5 : Int32)), .val (.double (FP.l2d x)), .second, .val (.int (2 : Int32))] [(.double (FP.l2d (own_t M 4))), (.int (2 : Int32)), (.ref aS)])) _
    refine XS.aloadN X4.here hx rfl (hb hby d8_33) rfl rfl ?_
    show Steps p.tables e below (T4.setTop (mkF m 34 #[.val (.ref a1), .val (.int (5 : Int32)), .val (.double (FP.l2d x)), .second, .val (.int (2 : Int32))] [(.ref a1), (.double (FP.l2d (own_t M 4))), (.int (2 : Int32)), (.ref aS)])) _
    refine st6 _ ?_
    show Steps p.tables e below (T6.setTop (mkF m 37 #[.val (.ref a1), .val (.int (5 : Int32)), .val (.double (FP.l2d x)), .second, .val (.int (2 : Int32))] [(.ref aS), (.double (FP.l2d (own_t M 4))), (.int (2 : Int32)), (.ref aS)])) _
    refine XS.iconst X6.here hx rfl (hb hby d8_37) ?_
    show Steps p.tables e below (T6.setTop (mkF m 38 #[.val (.ref a1), .val (.int (5 : Int32)), .val (.double (FP.l2d x)), .second, .val (.int (2 : Int32))] [(.int (2 : Int32)), (.ref aS), (.double (FP.l2d (own_t M 4))), (.int (2 : Int32)), (.ref aS)])) _
    refine XS.iload X6.here hx rfl (hb hby d8_38) rfl ?_
    show Steps p.tables e below (T6.setTop (mkF m 40 #[.val (.ref a1), .val (.int (5 : Int32)), .val (.double (FP.l2d x)), .second, .val (.int (2 : Int32))] [(.int (2 : Int32)), (.int (2 : Int32)), (.ref aS), (.double (FP.l2d (own_t M 4))), (.int (2 : Int32)), (.ref aS)])) _
    refine XS.imul X6.here hx rfl (hb hby d8_40) rfl ?_
    show Steps p.tables e below (T6.setTop (mkF m 41 #[.val (.ref a1), .val (.int (5 : Int32)), .val (.double (FP.l2d x)), .second, .val (.int (2 : Int32))] [(.int (4 : Int32)), (.ref aS), (.double (FP.l2d (own_t M 4))), (.int (2 : Int32)), (.ref aS)])) _
    refine XS.iconst X6.here hx rfl (hb hby d8_41) ?_
    show Steps p.tables e below (T6.setTop (mkF m 42 #[.val (.ref a1), .val (.int (5 : Int32)), .val (.double (FP.l2d x)), .second, .val (.int (2 : Int32))] [(.int (1 : Int32)), (.int (4 : Int32)), (.ref aS), (.double (FP.l2d (own_t M 4))), (.int (2 : Int32)), (.ref aS)])) _
    refine XS.iadd X6.here hx rfl (hb hby d8_42) rfl ?_
    show Steps p.tables e below (T6.setTop (mkF m 43 #[.val (.ref a1), .val (.int (5 : Int32)), .val (.double (FP.l2d x)), .second, .val (.int (2 : Int32))] [(.int (5 : Int32)), (.ref aS), (.double (FP.l2d (own_t M 4))), (.int (2 : Int32)), (.ref aS)])) _
    refine X6.daload hx (j := (5 : Int32)) (v := (.double (FP.l2d x))) (by rw [e6]; exact Ar7.1) (State.isArrayOf_alike hZ.alike Ar7.2.1) Ar7.2.2 hin7 hat7 (g := (mkF m 43 #[.val (.ref a1), .val (.int (5 : Int32)), .val (.double (FP.l2d x)), .second, .val (.int (2 : Int32))] [(.int (5 : Int32)), (.ref aS), (.double (FP.l2d (own_t M 4))), (.int (2 : Int32)), (.ref aS)])) rfl rfl (hb hby d8_43) _ ?_
    show Steps p.tables e below (T6.setTop (mkF m 44 #[.val (.ref a1), .val (.int (5 : Int32)), .val (.double (FP.l2d x)), .second, .val (.int (2 : Int32))] [(.double (FP.l2d x)), (.double (FP.l2d (own_t M 4))), (.int (2 : Int32)), (.ref aS)])) _
    refine XS.daddS X6.here hx rfl (hb hby d8_44) rfl (nn_w (dadd_w (own_Lb53 (own_tb hM 4) (by decide)) (own_Lb53 hxx (by decide)))) (v := (FP.l2d ((own_t M 4) + x))) (dadd_w (own_Lb53 (own_tb hM 4) (by decide)) (own_Lb53 hxx (by decide))) ?_
    show Steps p.tables e below (T6.setTop (mkF m 45 #[.val (.ref a1), .val (.int (5 : Int32)), .val (.double (FP.l2d x)), .second, .val (.int (2 : Int32))] [(.double (FP.l2d ((own_t M 4) + x))), (.int (2 : Int32)), (.ref aS)])) _
    refine st8 _ ?_
    show Steps p.tables e below (T8.setTop (mkF m 46 #[.val (.ref a1), .val (.int (5 : Int32)), .val (.double (FP.l2d x)), .second, .val (.int (2 : Int32))] [])) _
    refine XS.iload X8.here hx rfl (hb hby d8_46) rfl ?_
    show Steps p.tables e below (T8.setTop (mkF m 48 #[.val (.ref a1), .val (.int (5 : Int32)), .val (.double (FP.l2d x)), .second, .val (.int (2 : Int32))] [(.int (2 : Int32))])) _
    refine XS.iconst X8.here hx rfl (hb hby d8_48) ?_
    show Steps p.tables e below (T8.setTop (mkF m 49 #[.val (.ref a1), .val (.int (5 : Int32)), .val (.double (FP.l2d x)), .second, .val (.int (2 : Int32))] [(.int (2 : Int32)), (.int (2 : Int32))])) _
    refine XS.idiv X8.here hx rfl (hb hby d8_49) rfl (by decide) ?_
    show Steps p.tables e below (T8.setTop (mkF m 50 #[.val (.ref a1), .val (.int (5 : Int32)), .val (.double (FP.l2d x)), .second, .val (.int (2 : Int32))] [(.int (1 : Int32))])) _
    refine XS.istore X8.here hx rfl (hb hby d8_50) rfl (l' := #[.val (.ref a1), .val (.int (5 : Int32)), .val (.double (FP.l2d x)), .second, .val (.int (1 : Int32))]) rfl ?_
    show Steps p.tables e below (T8.setTop (mkF m 52 #[.val (.ref a1), .val (.int (5 : Int32)), .val (.double (FP.l2d x)), .second, .val (.int (1 : Int32))] [])) _
    refine XS.goto X8.here hx rfl (pc0 := 52) (pc' := 12) rfl (hb hby d8_52) (by decide) (by decide) ?_
    show Steps p.tables e below (T8.setTop (mkF m 12 #[.val (.ref a1), .val (.int (5 : Int32)), .val (.double (FP.l2d x)), .second, .val (.int (1 : Int32))] [])) _
    refine XS.iload X8.here hx rfl (hb hby d8_12) rfl ?_
    show Steps p.tables e below (T8.setTop (mkF m 14 #[.val (.ref a1), .val (.int (5 : Int32)), .val (.double (FP.l2d x)), .second, .val (.int (1 : Int32))] [(.int (1 : Int32))])) _
    refine XS.iconst X8.here hx rfl (hb hby d8_14) ?_
    show Steps p.tables e below (T8.setTop (mkF m 15 #[.val (.ref a1), .val (.int (5 : Int32)), .val (.double (FP.l2d x)), .second, .val (.int (1 : Int32))] [(.int (1 : Int32)), (.int (1 : Int32))])) _
    refine XS.icmpNo X8.here hx rfl (hb hby d8_15) rfl (flt (by decide : ¬ ((1 : Int32) < (1 : Int32)))).1 ?_
    show Steps p.tables e below (T8.setTop (mkF m 18 #[.val (.ref a1), .val (.int (5 : Int32)), .val (.double (FP.l2d x)), .second, .val (.int (1 : Int32))] [])) _
    refine XS.aloadN X8.here hx rfl (hb hby d8_18) rfl rfl ?_
    show Steps p.tables e below (T8.setTop (mkF m 19 #[.val (.ref a1), .val (.int (5 : Int32)), .val (.double (FP.l2d x)), .second, .val (.int (1 : Int32))] [(.ref a1)])) _
    refine st9 _ ?_
    show Steps p.tables e below (T9.setTop (mkF m 22 #[.val (.ref a1), .val (.int (5 : Int32)), .val (.double (FP.l2d x)), .second, .val (.int (1 : Int32))] [(.ref aS)])) _
    refine XS.iload X9.here hx rfl (hb hby d8_22) rfl ?_
    show Steps p.tables e below (T9.setTop (mkF m 24 #[.val (.ref a1), .val (.int (5 : Int32)), .val (.double (FP.l2d x)), .second, .val (.int (1 : Int32))] [(.int (1 : Int32)), (.ref aS)])) _
    refine XS.aloadN X9.here hx rfl (hb hby d8_24) rfl rfl ?_
    show Steps p.tables e below (T9.setTop (mkF m 25 #[.val (.ref a1), .val (.int (5 : Int32)), .val (.double (FP.l2d x)), .second, .val (.int (1 : Int32))] [(.ref a1), (.int (1 : Int32)), (.ref aS)])) _
    refine st10 _ ?_
    show Steps p.tables e below (T10.setTop (mkF m 28 #[.val (.ref a1), .val (.int (5 : Int32)), .val (.double (FP.l2d x)), .second, .val (.int (1 : Int32))] [(.ref aS), (.int (1 : Int32)), (.ref aS)])) _
    refine XS.iconst X10.here hx rfl (hb hby d8_28) ?_
    show Steps p.tables e below (T10.setTop (mkF m 29 #[.val (.ref a1), .val (.int (5 : Int32)), .val (.double (FP.l2d x)), .second, .val (.int (1 : Int32))] [(.int (2 : Int32)), (.ref aS), (.int (1 : Int32)), (.ref aS)])) _
    refine XS.iload X10.here hx rfl (hb hby d8_29) rfl ?_
    show Steps p.tables e below (T10.setTop (mkF m 31 #[.val (.ref a1), .val (.int (5 : Int32)), .val (.double (FP.l2d x)), .second, .val (.int (1 : Int32))] [(.int (1 : Int32)), (.int (2 : Int32)), (.ref aS), (.int (1 : Int32)), (.ref aS)])) _
    refine XS.imul X10.here hx rfl (hb hby d8_31) rfl ?_
    show Steps p.tables e below (T10.setTop (mkF m 32 #[.val (.ref a1), .val (.int (5 : Int32)), .val (.double (FP.l2d x)), .second, .val (.int (1 : Int32))] [(.int (2 : Int32)), (.ref aS), (.int (1 : Int32)), (.ref aS)])) _
    refine X10.daload hx (j := (2 : Int32)) (v := (.double (FP.l2d ((own_t M 4) + x)))) (by rw [e10]; exact Ar11.1) (State.isArrayOf_alike hZ.alike Ar11.2.1) Ar11.2.2 hin11 hat11 (g := (mkF m 32 #[.val (.ref a1), .val (.int (5 : Int32)), .val (.double (FP.l2d x)), .second, .val (.int (1 : Int32))] [(.int (2 : Int32)), (.ref aS), (.int (1 : Int32)), (.ref aS)])) rfl rfl (hb hby d8_32) _ ?_
    show Steps p.tables e below (T10.setTop (mkF m 33 #[.val (.ref a1), .val (.int (5 : Int32)), .val (.double (FP.l2d x)), .second, .val (.int (1 : Int32))] [(.double (FP.l2d ((own_t M 4) + x))), (.int (1 : Int32)), (.ref aS)])) _
    refine XS.aloadN X10.here hx rfl (hb hby d8_33) rfl rfl ?_
    show Steps p.tables e below (T10.setTop (mkF m 34 #[.val (.ref a1), .val (.int (5 : Int32)), .val (.double (FP.l2d x)), .second, .val (.int (1 : Int32))] [(.ref a1), (.double (FP.l2d ((own_t M 4) + x))), (.int (1 : Int32)), (.ref aS)])) _
    refine st12 _ ?_
    show Steps p.tables e below (T12.setTop (mkF m 37 #[.val (.ref a1), .val (.int (5 : Int32)), .val (.double (FP.l2d x)), .second, .val (.int (1 : Int32))] [(.ref aS), (.double (FP.l2d ((own_t M 4) + x))), (.int (1 : Int32)), (.ref aS)])) _
    refine XS.iconst X12.here hx rfl (hb hby d8_37) ?_
    show Steps p.tables e below (T12.setTop (mkF m 38 #[.val (.ref a1), .val (.int (5 : Int32)), .val (.double (FP.l2d x)), .second, .val (.int (1 : Int32))] [(.int (2 : Int32)), (.ref aS), (.double (FP.l2d ((own_t M 4) + x))), (.int (1 : Int32)), (.ref aS)])) _
    refine XS.iload X12.here hx rfl (hb hby d8_38) rfl ?_
    show Steps p.tables e below (T12.setTop (mkF m 40 #[.val (.ref a1), .val (.int (5 : Int32)), .val (.double (FP.l2d x)), .second, .val (.int (1 : Int32))] [(.int (1 : Int32)), (.int (2 : Int32)), (.ref aS), (.double (FP.l2d ((own_t M 4) + x))), (.int (1 : Int32)), (.ref aS)])) _
    refine XS.imul X12.here hx rfl (hb hby d8_40) rfl ?_
    show Steps p.tables e below (T12.setTop (mkF m 41 #[.val (.ref a1), .val (.int (5 : Int32)), .val (.double (FP.l2d x)), .second, .val (.int (1 : Int32))] [(.int (2 : Int32)), (.ref aS), (.double (FP.l2d ((own_t M 4) + x))), (.int (1 : Int32)), (.ref aS)])) _
    refine XS.iconst X12.here hx rfl (hb hby d8_41) ?_
    show Steps p.tables e below (T12.setTop (mkF m 42 #[.val (.ref a1), .val (.int (5 : Int32)), .val (.double (FP.l2d x)), .second, .val (.int (1 : Int32))] [(.int (1 : Int32)), (.int (2 : Int32)), (.ref aS), (.double (FP.l2d ((own_t M 4) + x))), (.int (1 : Int32)), (.ref aS)])) _
    refine XS.iadd X12.here hx rfl (hb hby d8_42) rfl ?_
    show Steps p.tables e below (T12.setTop (mkF m 43 #[.val (.ref a1), .val (.int (5 : Int32)), .val (.double (FP.l2d x)), .second, .val (.int (1 : Int32))] [(.int (3 : Int32)), (.ref aS), (.double (FP.l2d ((own_t M 4) + x))), (.int (1 : Int32)), (.ref aS)])) _
    refine X12.daload hx (j := (3 : Int32)) (v := (.double (FP.l2d (own_t M 3)))) (by rw [e12]; exact Ar13.1) (State.isArrayOf_alike hZ.alike Ar13.2.1) Ar13.2.2 hin13 hat13 (g := (mkF m 43 #[.val (.ref a1), .val (.int (5 : Int32)), .val (.double (FP.l2d x)), .second, .val (.int (1 : Int32))] [(.int (3 : Int32)), (.ref aS), (.double (FP.l2d ((own_t M 4) + x))), (.int (1 : Int32)), (.ref aS)])) rfl rfl (hb hby d8_43) _ ?_
    show Steps p.tables e below (T12.setTop (mkF m 44 #[.val (.ref a1), .val (.int (5 : Int32)), .val (.double (FP.l2d x)), .second, .val (.int (1 : Int32))] [(.double (FP.l2d (own_t M 3))), (.double (FP.l2d ((own_t M 4) + x))), (.int (1 : Int32)), (.ref aS)])) _
    refine XS.daddS X12.here hx rfl (hb hby d8_44) rfl (nn_w (dadd_w (own_Lb53 (own_La (own_tb hM 4) hxx (by decide)) (by decide)) (own_Lb53 (own_tb hM 3) (by decide)))) (v := (FP.l2d (((own_t M 4) + x) + (own_t M 3)))) (dadd_w (own_Lb53 (own_La (own_tb hM 4) hxx (by decide)) (by decide)) (own_Lb53 (own_tb hM 3) (by decide))) ?_
    show Steps p.tables e below (T12.setTop (mkF m 45 #[.val (.ref a1), .val (.int (5 : Int32)), .val (.double (FP.l2d x)), .second, .val (.int (1 : Int32))] [(.double (FP.l2d (((own_t M 4) + x) + (own_t M 3)))), (.int (1 : Int32)), (.ref aS)])) _
    refine st14 _ ?_
    show Steps p.tables e below (T14.setTop (mkF m 46 #[.val (.ref a1), .val (.int (5 : Int32)), .val (.double (FP.l2d x)), .second, .val (.int (1 : Int32))] [])) _
    refine XS.iload X14.here hx rfl (hb hby d8_46) rfl ?_
    show Steps p.tables e below (T14.setTop (mkF m 48 #[.val (.ref a1), .val (.int (5 : Int32)), .val (.double (FP.l2d x)), .second, .val (.int (1 : Int32))] [(.int (1 : Int32))])) _
    refine XS.iconst X14.here hx rfl (hb hby d8_48) ?_
    show Steps p.tables e below (T14.setTop (mkF m 49 #[.val (.ref a1), .val (.int (5 : Int32)), .val (.double (FP.l2d x)), .second, .val (.int (1 : Int32))] [(.int (2 : Int32)), (.int (1 : Int32))])) _
    refine XS.idiv X14.here hx rfl (hb hby d8_49) rfl (by decide) ?_
    show Steps p.tables e below (T14.setTop (mkF m 50 #[.val (.ref a1), .val (.int (5 : Int32)), .val (.double (FP.l2d x)), .second, .val (.int (1 : Int32))] [(.int (0 : Int32))])) _
    refine XS.istore X14.here hx rfl (hb hby d8_50) rfl (l' := #[.val (.ref a1), .val (.int (5 : Int32)), .val (.double (FP.l2d x)), .second, .val (.int (0 : Int32))]) rfl ?_
    show Steps p.tables e below (T14.setTop (mkF m 52 #[.val (.ref a1), .val (.int (5 : Int32)), .val (.double (FP.l2d x)), .second, .val (.int (0 : Int32))] [])) _
    refine XS.goto X14.here hx rfl (pc0 := 52) (pc' := 12) rfl (hb hby d8_52) (by decide) (by decide) ?_
    show Steps p.tables e below (T14.setTop (mkF m 12 #[.val (.ref a1), .val (.int (5 : Int32)), .val (.double (FP.l2d x)), .second, .val (.int (0 : Int32))] [])) _
    refine XS.iload X14.here hx rfl (hb hby d8_12) rfl ?_
    show Steps p.tables e below (T14.setTop (mkF m 14 #[.val (.ref a1), .val (.int (5 : Int32)), .val (.double (FP.l2d x)), .second, .val (.int (0 : Int32))] [(.int (0 : Int32))])) _
    refine XS.iconst X14.here hx rfl (hb hby d8_14) ?_
    show Steps p.tables e below (T14.setTop (mkF m 15 #[.val (.ref a1), .val (.int (5 : Int32)), .val (.double (FP.l2d x)), .second, .val (.int (0 : Int32))] [(.int (1 : Int32)), (.int (0 : Int32))])) _
    refine XS.icmpYes X14.here hx rfl (pc0 := 15) (pc' := 55) rfl (hb hby d8_15) rfl (tlt (by decide : ((0 : Int32) < (1 : Int32)))).1 (by decide) (by decide) ?_
    show Steps p.tables e below (T14.setTop (mkF m 55 #[.val (.ref a1), .val (.int (5 : Int32)), .val (.double (FP.l2d x)), .second, .val (.int (0 : Int32))] [])) _
    exact X14.returnOut hx Bd.returns (hb hby d8_55) hr
  · show Q_rset5 Z a1 x aS M h0 n0 _ T14.heap _
    rw [e14]
    exact ⟨rfl, N14, K14, V14_v14.congr (fun i hi => by match i, hi with | 0, _ => rfl | 1, _ => rfl | 2, _ => rfl | 3, _ => rfl | 4, _ => rfl | 5, _ => rfl | 6, _ => rfl | 7, _ => rfl)⟩
theorem pn_rset6 : plainName "com/example/velar/velar/WeightedDraws" = true := by first | (simp [plainName, overriddenIn]; done) | decide +kernel
theorem ef_rset6 (m : MethodId) (x0 : Addr) (x1 : Int32) (x2 : UInt64) : entryFrame m #[(.ref x0), (.int x1), (.double x2)] 5 = mkF m 0 #[.val (.ref x0), .val (.int x1), .val (.double x2), .second, .unset] [] := by first | (simp [entryFrame, mkF, argsToLocals, Value.category]; done) | rfl
def Q_rset6 (Z : State) (a1 : Addr) (x : Int64) (aS : Addr) (M : Int32 → Int64) (h0 : Heap) (n0 : Nat) (v : Option Value) (h : Heap) (L : List Loc) : Prop := v = none ∧ Fr n0 L ∧ Keep h0 h [aS] ∧ ArF Z h aS .double 8 (fun i => .double (FP.l2d (own_t (own_up M (6 : Int32) x) i)))
set_option maxRecDepth 65536 in
set_option maxHeartbeats 40000000 in
theorem rset6 (l : Launch) (Z : State) (a0 : Array Value) (hw : ∀ d ∈ tables_1, d.before a0 Z = true) (ws : List Jvm.Cond) (a1 : Addr) (x : Int64) (aS : Addr) (M : Int32 → Int64) (h0 : Heap) (n0 : Nat) (Z0 : n0 ≤ h0.size) (Fs : Fld Z h0 a1 "com/example/velar/velar/WeightedDraws" "sums" "[D" (.ref aS)) (V0 : ArF Z h0 aS .double 8 (fun i => .double (FP.l2d (own_t M i)))) (gs : n0 ≤ aS) (n1 : a1 ≠ aS) (hM : own_bd M) (hxx : own_Lb 16 x) :
    MetFree l (⟨"com/example/velar/velar/WeightedDraws", "set", "(ID)V"⟩ : MethodName) (head1 (Jvm.Cond.code (⟨"com/example/velar/velar/WeightedDraws", "set", "(ID)V"⟩ : MethodName) prog_28_method_4_code 5 none :: ws) ({ frames := 0, cells := 0, slots := 0, locals := 0 } : Room)) (fun a U => a = #[(.ref a1), (.int (6 : Int32)), (.double (FP.l2d x))] ∧ Z.Warmed39 U.vm ∧ U.heap = h0) (fun _ _ _ _ _ => True) (fun _ U o U' => ∃ v L, o = .returned v ∧ Q_rset6 Z a1 x aS M h0 n0 v U'.heap L ∧ FrameEnd U o U' L ({ frames := 0, cells := 0, slots := 0, locals := 0 } : Room).cells ({ frames := 0, cells := 0, slots := 0, locals := 0 } : Room).slots) := by
  refine MetFree.of_bodySF (plainFor_of_name pn_rset6) hisR ?_
  intro p e s m args below meth c s₁ Bd hml0 hP hK
  obtain ⟨rfl, hZ, hh⟩ := hP
  have hx := Bd.exec
  have hby := Bd.bytes
  have hml : c.maxLocals = 5 := hml0
  have hown : s.vm.findClass "com/example/velar/velar/WeightedDraws" = some m.cls := findClass_of_methodNamed Bd.named
  have hnm := (name_of_methodNamed Bd.named Bd.method).1
  have X0 : Stand p l e ({ frames := 0, cells := 0, slots := 0, locals := 0 } : Room) s m #[(.ref a1), (.int (6 : Int32)), (.double (FP.l2d x))] below meth c s₁ [] 0 0 := Stand.of_body Bd
  have e0 : s₁.heap = h0 := by rw [← hh, Bd.state]; rfl
  have N0 := Fr.nil n0
  have pre0 : ∀ t, Steps p.tables e below (s₁.setTop (mkF m 0 #[.val (.ref a1), .val (.int (6 : Int32)), .val (.double (FP.l2d x)), .second, .unset] [])) t → Steps p.tables e below (s₁.setTop (entryFrame m #[(.ref a1), (.int (6 : Int32)), (.double (FP.l2d x))] 5)) t := fun t k => castTop (ef_rset6 m a1 (6 : Int32) (FP.l2d x)) k
  have K0 := Keep.refl h0 [aS]
  obtain ⟨T1, X1, e1, st1⟩ := getF X0 hx hZ hown (host := "") (Or.inl (hw _ (List.mem_of_getElem? (i := 26) rfl))) Via.refl e0 Fs (g := (mkF m 1 #[.val (.ref a1), .val (.int (6 : Int32)), .val (.double (FP.l2d x)), .second, .unset] [(.ref a1)])) rfl rfl (hb hby d8_1)
  obtain ⟨cl2, Ar2, S2, H2⟩ := id V0
  have hin2 : ¬ ((6 : Int32) < 0 ∨ cl2.slots.size ≤ ((6 : Int32)).toNatClampNeg) := inA S2 (by decide) (by decide)
  obtain ⟨T2, h2, X2, e2, W2, st2⟩ := stD X1 hx hZ e1 Ar2 (j := (6 : Int32)) hin2 (g := (mkF m 6 #[.val (.ref a1), .val (.int (6 : Int32)), .val (.double (FP.l2d x)), .second, .unset] [(.double (FP.l2d x)), (.int (6 : Int32)), (.ref aS)])) rfl rfl (hb hby d8_6)
  have Fs_v2 := Fs.other W2 (Or.inl n1)
  have Z2 : n0 ≤ h2.size := Nat.le_trans Z0 (Nat.le_of_eq W2.size.symm)
  have K2 := K0.wr W2 (Or.inl (by simp))
  have V2_v2 := ArF.set Ar2 S2 H2 W2 hin2
  have N2 := Fr.snoc X2 N0 gs
  obtain ⟨T3, X3, e3, st3⟩ := getF X2 hx hZ hown (host := "") (Or.inl (hw _ (List.mem_of_getElem? (i := 26) rfl))) Via.refl e2 Fs_v2 (g := (mkF m 19 #[.val (.ref a1), .val (.int (6 : Int32)), .val (.double (FP.l2d x)), .second, .val (.int (3 : Int32))] [(.ref a1)])) rfl rfl (hb hby d8_19)
  obtain ⟨T4, X4, e4, st4⟩ := getF X3 hx hZ hown (host := "") (Or.inl (hw _ (List.mem_of_getElem? (i := 26) rfl))) Via.refl e3 Fs_v2 (g := (mkF m 25 #[.val (.ref a1), .val (.int (6 : Int32)), .val (.double (FP.l2d x)), .second, .val (.int (3 : Int32))] [(.ref a1), (.int (3 : Int32)), (.ref aS)])) rfl rfl (hb hby d8_25)
  obtain ⟨cl5, Ar5, S5, H5⟩ := id V2_v2
  have hin5 : ¬ ((6 : Int32) < 0 ∨ cl5.slots.size ≤ ((6 : Int32)).toNatClampNeg) := inA S5 (by decide) (by decide)
  have hat5 : cl5.slots[((6 : Int32)).toNatClampNeg]? = some (.double (FP.l2d x)) := ArF.at S5 H5 hin5 rfl
  obtain ⟨T6, X6, e6, st6⟩ := getF X4 hx hZ hown (host := "") (Or.inl (hw _ (List.mem_of_getElem? (i := 26) rfl))) Via.refl e4 Fs_v2 (g := (mkF m 34 #[.val (.ref a1), .val (.int (6 : Int32)), .val (.double (FP.l2d x)), .second, .val (.int (3 : Int32))] [(.ref a1), (.double (FP.l2d x)), (.int (3 : Int32)), (.ref aS)])) rfl rfl (hb hby d8_34)
  obtain ⟨cl7, Ar7, S7, H7⟩ := id V2_v2
  have hin7 : ¬ ((7 : Int32) < 0 ∨ cl7.slots.size ≤ ((7 : Int32)).toNatClampNeg) := inA S7 (by decide) (by decide)
  have hat7 : cl7.slots[((7 : Int32)).toNatClampNeg]? = some (.double (FP.l2d (own_t M 7))) := ArF.at S7 H7 hin7 rfl
  obtain ⟨cl8, Ar8, S8, H8⟩ := id V2_v2
  have hin8 : ¬ ((3 : Int32) < 0 ∨ cl8.slots.size ≤ ((3 : Int32)).toNatClampNeg) := inA S8 (by decide) (by decide)
  obtain ⟨T8, h8, X8, e8, W8, st8⟩ := stD X6 hx hZ e6 Ar8 (j := (3 : Int32)) hin8 (g := (mkF m 45 #[.val (.ref a1), .val (.int (6 : Int32)), .val (.double (FP.l2d x)), .second, .val (.int (3 : Int32))] [(.double (FP.l2d (x + (own_t M 7)))), (.int (3 : Int32)), (.ref aS)])) rfl rfl (hb hby d8_45)
  have Fs_v8 := Fs_v2.other W8 (Or.inl n1)
  have Z8 : n0 ≤ h8.size := Nat.le_trans Z2 (Nat.le_of_eq W8.size.symm)
  have K8 := K2.wr W8 (Or.inl (by simp))
  have V8_v8 := ArF.set Ar8 S8 H8 W8 hin8
  have N8 := Fr.snoc X8 N2 gs
  obtain ⟨T9, X9, e9, st9⟩ := getF X8 hx hZ hown (host := "") (Or.inl (hw _ (List.mem_of_getElem? (i := 26) rfl))) Via.refl e8 Fs_v8 (g := (mkF m 19 #[.val (.ref a1), .val (.int (6 : Int32)), .val (.double (FP.l2d x)), .second, .val (.int (1 : Int32))] [(.ref a1)])) rfl rfl (hb hby d8_19)
  obtain ⟨T10, X10, e10, st10⟩ := getF X9 hx hZ hown (host := "") (Or.inl (hw _ (List.mem_of_getElem? (i := 26) rfl))) Via.refl e9 Fs_v8 (g := (mkF m 25 #[.val (.ref a1), .val (.int (6 : Int32)), .val (.double (FP.l2d x)), .second, .val (.int (1 : Int32))] [(.ref a1), (.int (1 : Int32)), (.ref aS)])) rfl rfl (hb hby d8_25)
  obtain ⟨cl11, Ar11, S11, H11⟩ := id V8_v8
  have hin11 : ¬ ((2 : Int32) < 0 ∨ cl11.slots.size ≤ ((2 : Int32)).toNatClampNeg) := inA S11 (by decide) (by decide)
  have hat11 : cl11.slots[((2 : Int32)).toNatClampNeg]? = some (.double (FP.l2d (own_t M 2))) := ArF.at S11 H11 hin11 rfl
  obtain ⟨T12, X12, e12, st12⟩ := getF X10 hx hZ hown (host := "") (Or.inl (hw _ (List.mem_of_getElem? (i := 26) rfl))) Via.refl e10 Fs_v8 (g := (mkF m 34 #[.val (.ref a1), .val (.int (6 : Int32)), .val (.double (FP.l2d x)), .second, .val (.int (1 : Int32))] [(.ref a1), (.double (FP.l2d (own_t M 2))), (.int (1 : Int32)), (.ref aS)])) rfl rfl (hb hby d8_34)
  obtain ⟨cl13, Ar13, S13, H13⟩ := id V8_v8
  have hin13 : ¬ ((3 : Int32) < 0 ∨ cl13.slots.size ≤ ((3 : Int32)).toNatClampNeg) := inA S13 (by decide) (by decide)
  have hat13 : cl13.slots[((3 : Int32)).toNatClampNeg]? = some (.double (FP.l2d (x + (own_t M 7)))) := ArF.at S13 H13 hin13 rfl
  obtain ⟨cl14, Ar14, S14, H14⟩ := id V8_v8
  have hin14 : ¬ ((1 : Int32) < 0 ∨ cl14.slots.size ≤ ((1 : Int32)).toNatClampNeg) := inA S14 (by decide) (by decide)
  obtain ⟨T14, h14, X14, e14, W14, st14⟩ := stD X12 hx hZ e12 Ar14 (j := (1 : Int32)) hin14 (g := (mkF m 45 #[.val (.ref a1), .val (.int (6 : Int32)), .val (.double (FP.l2d x)), .second, .val (.int (1 : Int32))] [(.double (FP.l2d ((own_t M 2) + (x + (own_t M 7))))), (.int (1 : Int32)), (.ref aS)])) rfl rfl (hb hby d8_45)
  have Fs_v14 := Fs_v8.other W14 (Or.inl n1)
  have Z14 : n0 ≤ h14.size := Nat.le_trans Z8 (Nat.le_of_eq W14.size.symm)
  have K14 := K8.wr W14 (Or.inl (by simp))
  have V14_v14 := ArF.set Ar14 S14 H14 W14 hin14
  have N14 := Fr.snoc X14 N8 gs
  obtain ⟨fs, hr, hrun, hended, hW, hsame⟩ := X14.leave (v := none) (fun _ => rfl)
  refine ⟨_, _, pre0 _ ?_, hrun, hended, _, _, rfl, ?_, ⟨_, rfl⟩, hW, hsame.mono (by decide) (by decide)⟩
  · show Steps p.tables e below (s₁.setTop (mkF m 0 #[.val (.ref a1), .val (.int (6 : Int32)), .val (.double (FP.l2d x)), .second, .unset] [])) _
    refine XS.aloadN X0.here hx rfl (hb hby d8_0) rfl rfl ?_
    show Steps p.tables e below (s₁.setTop (mkF m 1 #[.val (.ref a1), .val (.int (6 : Int32)), .val (.double (FP.l2d x)), .second, .unset] [(.ref a1)])) _
    refine st1 _ ?_
    show Steps p.tables e below (T1.setTop (mkF m 4 #[.val (.ref a1), .val (.int (6 : Int32)), .val (.double (FP.l2d x)), .second, .unset] [(.ref aS)])) _
    refine XS.iloadN X1.here hx rfl (hb hby d8_4) rfl ?_
    show Steps p.tables e below (T1.setTop (mkF m 5 #[.val (.ref a1), .val (.int (6 : Int32)), .val (.double (FP.l2d x)), .second, .unset] [(.int (6 : Int32)), (.ref aS)])) _
    refine XS.dloadN X1.here hx rfl (hb hby d8_5) rfl ?_
    show Steps p.tables e below (T1.setTop (mkF m 6 #[.val (.ref a1), .val (.int (6 : Int32)), .val (.double (FP.l2d x)), .second, .unset] [(.double (FP.l2d x)), (.int (6 : Int32)), (.ref aS)])) _
    refine st2 _ ?_
    show Steps p.tables e below (T2.setTop (mkF m 7 #[.val (.ref a1), .val (.int (6 : Int32)), .val (.double (FP.l2d x)), .second, .unset] [])) _
    refine XS.iloadN X2.here hx rfl (hb hby d8_7) rfl ?_
    show Steps p.tables e below (T2.setTop (mkF m 8 #[.val (.ref a1), .val (.int (6 : Int32)), .val (.double (FP.l2d x)), .second, .unset] [(.int (6 : Int32))])) _
    refine XS.iconst X2.here hx rfl (hb hby d8_8) ?_
    show Steps p.tables e below (T2.setTop (mkF m 9 #[.val (.ref a1), .val (.int (6 : Int32)), .val (.double (FP.l2d x)), .second, .unset] [(.int (2 : Int32)), (.int (6 : Int32))])) _
    refine XS.idiv X2.here hx rfl (hb hby d8_9) rfl (by decide) ?_
    show Steps p.tables e below (T2.setTop (mkF m 10 #[.val (.ref a1), .val (.int (6 : Int32)), .val (.double (FP.l2d x)), .second, .unset] [(.int (3 : Int32))])) _
    refine XS.istore X2.here hx rfl (hb hby d8_10) rfl (l' := #[.val (.ref a1), .val (.int (6 : Int32)), .val (.double (FP.l2d x)), .second, .val (.int (3 : Int32))]) rfl ?_
    show Steps p.tables e below (T2.setTop (mkF m 12 #[.val (.ref a1), .val (.int (6 : Int32)), .val (.double (FP.l2d x)), .second, .val (.int (3 : Int32))] [])) _
    refine XS.iload X2.here hx rfl (hb hby d8_12) rfl ?_
    show Steps p.tables e below (T2.setTop (mkF m 14 #[.val (.ref a1), .val (.int (6 : Int32)), .val (.double (FP.l2d x)), .second, .val (.int (3 : Int32))] [(.int (3 : Int32))])) _
    refine XS.iconst X2.here hx rfl (hb hby d8_14) ?_
    show Steps p.tables e below (T2.setTop (mkF m 15 #[.val (.ref a1), .val (.int (6 : Int32)), .val (.double (FP.l2d x)), .second, .val (.int (3 : Int32))] [(.int (1 : Int32)), (.int (3 : Int32))])) _
    refine XS.icmpNo X2.here hx rfl (hb hby d8_15) rfl (flt (by decide : ¬ ((3 : Int32) < (1 : Int32)))).1 ?_
    show Steps p.tables e below (T2.setTop (mkF m 18 #[.val (.ref a1), .val (.int (6 : Int32)), .val (.double (FP.l2d x)), .second, .val (.int (3 : Int32))] [])) _
    refine XS.aloadN X2.here hx rfl (hb hby d8_18) rfl rfl ?_
    show Steps p.tables e below (T2.setTop (mkF m 19 #[.val (.ref a1), .val (.int (6 : Int32)), .val (.double (FP.l2d x)), .second, .val (.int (3 : Int32))] [(.ref a1)])) _
    refine st3 _ ?_
    show Steps p.tables e below (T3.setTop (mkF m 22 #[.val (.ref a1), .val (.int (6 : Int32)), .val (.double (FP.l2d x)), .second, .val (.int (3 : Int32))] [(.ref aS)])) _
    refine XS.iload X3.here hx rfl (hb hby d8_22) rfl ?_
    show Steps p.tables e below (T3.setTop (mkF m 24 #[.val (.ref a1), .val (.int (6 : Int32)), .val (.double (FP.l2d x)), .second, .val (.int (3 : Int32))] [(.int (3 : Int32)), (.ref aS)])) _
    refine XS.aloadN X3.here hx rfl (hb hby d8_24) rfl rfl ?_
    show Steps p.tables e below (T3.setTop (mkF m 25 #[.val (.ref a1), .val (.int (6 : Int32)), .val (.double (FP.l2d x)), .second, .val (.int (3 : Int32))] [(.ref a1), (.int (3 : Int32)), (.ref aS)])) _
    refine st4 _ ?_
    show Steps p.tables e below (T4.setTop (mkF m 28 #[.val (.ref a1), .val (.int (6 : Int32)), .val (.double (FP.l2d x)), .second, .val (.int (3 : Int32))] [(.ref aS), (.int (3 : Int32)), (.ref aS)])) _
    refine XS.iconst X4.here hx rfl (hb hby d8_28) ?_
    show Steps p.tables e below (T4.setTop (mkF m 29 #[.val (.ref a1), .val (.int (6 : Int32)), .val (.double (FP.l2d x)), .second, .val (.int (3 : Int32))] [(.int (2 : Int32)), (.ref aS), (.int (3 : Int32)), (.ref aS)])) _
    refine XS.iload X4.here hx rfl (hb hby d8_29) rfl ?_
    show Steps p.tables e below (T4.setTop (mkF m 31 #[.val (.ref a1), .val (.int (6 : Int32)), .val (.double (FP.l2d x)), .second, .val (.int (3 : Int32))] [(.int (3 : Int32)), (.int (2 : Int32)), (.ref aS), (.int (3 : Int32)), (.ref aS)])) _
    refine XS.imul X4.here hx rfl (hb hby d8_31) rfl ?_
    show Steps p.tables e below (T4.setTop (mkF m 32 #[.val (.ref a1), .val (.int (6 : Int32)), .val (.double (FP.l2d x)), .second, .val (.int (3 : Int32))] [(.int (6 : Int32)), (.ref aS), (.int (3 : Int32)), (.ref aS)])) _
    refine X4.daload hx (j := (6 : Int32)) (v := (.double (FP.l2d x))) (by rw [e4]; exact Ar5.1) (State.isArrayOf_alike hZ.alike Ar5.2.1) Ar5.2.2 hin5 hat5 (g := (mkF m 32 #[.val (.ref a1), .val (.int (6 : Int32)), .val (.double (FP.l2d x)), .second, .val (.int (3 : Int32))] [(.int (6 : Int32)), (.ref aS), (.int (3 : Int32)), (.ref aS)])) rfl rfl (hb hby d8_32) _ ?_
    show Steps p.tables e below (T4.setTop (mkF m 33 #[.val (.ref a1), .val (.int (6 : Int32)), .val (.double (FP.l2d x)), .second, .val (.int (3 : Int32))] [(.double (FP.l2d x)), (.int (3 : Int32)), (.ref aS)])) _
    refine XS.aloadN X4.here hx rfl (hb hby d8_33) rfl rfl ?_
    show Steps p.tables e below (T4.setTop (mkF m 34 #[.val (.ref a1), .val (.int (6 : Int32)), .val (.double (FP.l2d x)), .second, .val (.int (3 : Int32))] [(.ref a1), (.double (FP.l2d x)), (.int (3 : Int32)), (.ref aS)])) _
    refine st6 _ ?_
    show Steps p.tables e below (T6.setTop (mkF m 37 #[.val (.ref a1), .val (.int (6 : Int32)), .val (.double (FP.l2d x)), .second, .val (.int (3 : Int32))] [(.ref aS), (.double (FP.l2d x)), (.int (3 : Int32)), (.ref aS)])) _
    refine XS.iconst X6.here hx rfl (hb hby d8_37) ?_
    show Steps p.tables e below (T6.setTop (mkF m 38 #[.val (.ref a1), .val (.int (6 : Int32)), .val (.double (FP.l2d x)), .second, .val (.int (3 : Int32))] [(.int (2 : Int32)), (.ref aS), (.double (FP.l2d x)), (.int (3 : Int32)), (.ref aS)])) _
    refine XS.iload X6.here hx rfl (hb hby d8_38) rfl ?_
    show Steps p.tables e below (T6.setTop (mkF m 40 #[.val (.ref a1), .val (.int (6 : Int32)), .val (.double (FP.l2d x)), .second, .val (.int (3 : Int32))] [(.int (3 : Int32)), (.int (2 : Int32)), (.ref aS), (.double (FP.l2d x)), (.int (3 : Int32)), (.ref aS)])) _
    refine XS.imul X6.here hx rfl (hb hby d8_40) rfl ?_
    show Steps p.tables e below (T6.setTop (mkF m 41 #[.val (.ref a1), .val (.int (6 : Int32)), .val (.double (FP.l2d x)), .second, .val (.int (3 : Int32))] [(.int (6 : Int32)), (.ref aS), (.double (FP.l2d x)), (.int (3 : Int32)), (.ref aS)])) _
    refine XS.iconst X6.here hx rfl (hb hby d8_41) ?_
    show Steps p.tables e below (T6.setTop (mkF m 42 #[.val (.ref a1), .val (.int (6 : Int32)), .val (.double (FP.l2d x)), .second, .val (.int (3 : Int32))] [(.int (1 : Int32)), (.int (6 : Int32)), (.ref aS), (.double (FP.l2d x)), (.int (3 : Int32)), (.ref aS)])) _
    refine XS.iadd X6.here hx rfl (hb hby d8_42) rfl ?_
    show Steps p.tables e below (T6.setTop (mkF m 43 #[.val (.ref a1), .val (.int (6 : Int32)), .val (.double (FP.l2d x)), .second, .val (.int (3 : Int32))] [(.int (7 : Int32)), (.ref aS), (.double (FP.l2d x)), (.int (3 : Int32)), (.ref aS)])) _
    refine X6.daload hx (j := (7 : Int32)) (v := (.double (FP.l2d (own_t M 7)))) (by rw [e6]; exact Ar7.1) (State.isArrayOf_alike hZ.alike Ar7.2.1) Ar7.2.2 hin7 hat7 (g := (mkF m 43 #[.val (.ref a1), .val (.int (6 : Int32)), .val (.double (FP.l2d x)), .second, .val (.int (3 : Int32))] [(.int (7 : Int32)), (.ref aS), (.double (FP.l2d x)), (.int (3 : Int32)), (.ref aS)])) rfl rfl (hb hby d8_43) _ ?_
    show Steps p.tables e below (T6.setTop (mkF m 44 #[.val (.ref a1), .val (.int (6 : Int32)), .val (.double (FP.l2d x)), .second, .val (.int (3 : Int32))] [(.double (FP.l2d (own_t M 7))), (.double (FP.l2d x)), (.int (3 : Int32)), (.ref aS)])) _
    refine XS.daddS X6.here hx rfl (hb hby d8_44) rfl (nn_w (dadd_w (own_Lb53 hxx (by decide)) (own_Lb53 (own_tb hM 7) (by decide)))) (v := (FP.l2d (x + (own_t M 7)))) (dadd_w (own_Lb53 hxx (by decide)) (own_Lb53 (own_tb hM 7) (by decide))) ?_
    show Steps p.tables e below (T6.setTop (mkF m 45 #[.val (.ref a1), .val (.int (6 : Int32)), .val (.double (FP.l2d x)), .second, .val (.int (3 : Int32))] [(.double (FP.l2d (x + (own_t M 7)))), (.int (3 : Int32)), (.ref aS)])) _
    refine st8 _ ?_
    show Steps p.tables e below (T8.setTop (mkF m 46 #[.val (.ref a1), .val (.int (6 : Int32)), .val (.double (FP.l2d x)), .second, .val (.int (3 : Int32))] [])) _
    refine XS.iload X8.here hx rfl (hb hby d8_46) rfl ?_
    show Steps p.tables e below (T8.setTop (mkF m 48 #[.val (.ref a1), .val (.int (6 : Int32)), .val (.double (FP.l2d x)), .second, .val (.int (3 : Int32))] [(.int (3 : Int32))])) _
    refine XS.iconst X8.here hx rfl (hb hby d8_48) ?_
    show Steps p.tables e below (T8.setTop (mkF m 49 #[.val (.ref a1), .val (.int (6 : Int32)), .val (.double (FP.l2d x)), .second, .val (.int (3 : Int32))] [(.int (2 : Int32)), (.int (3 : Int32))])) _
    refine XS.idiv X8.here hx rfl (hb hby d8_49) rfl (by decide) ?_
    show Steps p.tables e below (T8.setTop (mkF m 50 #[.val (.ref a1), .val (.int (6 : Int32)), .val (.double (FP.l2d x)), .second, .val (.int (3 : Int32))] [(.int (1 : Int32))])) _
    refine XS.istore X8.here hx rfl (hb hby d8_50) rfl (l' := #[.val (.ref a1), .val (.int (6 : Int32)), .val (.double (FP.l2d x)), .second, .val (.int (1 : Int32))]) rfl ?_
    show Steps p.tables e below (T8.setTop (mkF m 52 #[.val (.ref a1), .val (.int (6 : Int32)), .val (.double (FP.l2d x)), .second, .val (.int (1 : Int32))] [])) _
    refine XS.goto X8.here hx rfl (pc0 := 52) (pc' := 12) rfl (hb hby d8_52) (by decide) (by decide) ?_
    show Steps p.tables e below (T8.setTop (mkF m 12 #[.val (.ref a1), .val (.int (6 : Int32)), .val (.double (FP.l2d x)), .second, .val (.int (1 : Int32))] [])) _
    refine XS.iload X8.here hx rfl (hb hby d8_12) rfl ?_
    show Steps p.tables e below (T8.setTop (mkF m 14 #[.val (.ref a1), .val (.int (6 : Int32)), .val (.double (FP.l2d x)), .second, .val (.int (1 : Int32))] [(.int (1 : Int32))])) _
    refine XS.iconst X8.here hx rfl (hb hby d8_14) ?_
    show Steps p.tables e below (T8.setTop (mkF m 15 #[.val (.ref a1), .val (.int (6 : Int32)), .val (.double (FP.l2d x)), .second, .val (.int (1 : Int32))] [(.int (1 : Int32)), (.int (1 : Int32))])) _
    refine XS.icmpNo X8.here hx rfl (hb hby d8_15) rfl (flt (by decide : ¬ ((1 : Int32) < (1 : Int32)))).1 ?_
    show Steps p.tables e below (T8.setTop (mkF m 18 #[.val (.ref a1), .val (.int (6 : Int32)), .val (.double (FP.l2d x)), .second, .val (.int (1 : Int32))] [])) _
    refine XS.aloadN X8.here hx rfl (hb hby d8_18) rfl rfl ?_
    show Steps p.tables e below (T8.setTop (mkF m 19 #[.val (.ref a1), .val (.int (6 : Int32)), .val (.double (FP.l2d x)), .second, .val (.int (1 : Int32))] [(.ref a1)])) _
    refine st9 _ ?_
    show Steps p.tables e below (T9.setTop (mkF m 22 #[.val (.ref a1), .val (.int (6 : Int32)), .val (.double (FP.l2d x)), .second, .val (.int (1 : Int32))] [(.ref aS)])) _
    refine XS.iload X9.here hx rfl (hb hby d8_22) rfl ?_
    show Steps p.tables e below (T9.setTop (mkF m 24 #[.val (.ref a1), .val (.int (6 : Int32)), .val (.double (FP.l2d x)), .second, .val (.int (1 : Int32))] [(.int (1 : Int32)), (.ref aS)])) _
    refine XS.aloadN X9.here hx rfl (hb hby d8_24) rfl rfl ?_
    show Steps p.tables e below (T9.setTop (mkF m 25 #[.val (.ref a1), .val (.int (6 : Int32)), .val (.double (FP.l2d x)), .second, .val (.int (1 : Int32))] [(.ref a1), (.int (1 : Int32)), (.ref aS)])) _
    refine st10 _ ?_
    show Steps p.tables e below (T10.setTop (mkF m 28 #[.val (.ref a1), .val (.int (6 : Int32)), .val (.double (FP.l2d x)), .second, .val (.int (1 : Int32))] [(.ref aS), (.int (1 : Int32)), (.ref aS)])) _
    refine XS.iconst X10.here hx rfl (hb hby d8_28) ?_
    show Steps p.tables e below (T10.setTop (mkF m 29 #[.val (.ref a1), .val (.int (6 : Int32)), .val (.double (FP.l2d x)), .second, .val (.int (1 : Int32))] [(.int (2 : Int32)), (.ref aS), (.int (1 : Int32)), (.ref aS)])) _
    refine XS.iload X10.here hx rfl (hb hby d8_29) rfl ?_
    show Steps p.tables e below (T10.setTop (mkF m 31 #[.val (.ref a1), .val (.int (6 : Int32)), .val (.double (FP.l2d x)), .second, .val (.int (1 : Int32))] [(.int (1 : Int32)), (.int (2 : Int32)), (.ref aS), (.int (1 : Int32)), (.ref aS)])) _
    refine XS.imul X10.here hx rfl (hb hby d8_31) rfl ?_
    show Steps p.tables e below (T10.setTop (mkF m 32 #[.val (.ref a1), .val (.int (6 : Int32)), .val (.double (FP.l2d x)), .second, .val (.int (1 : Int32))] [(.int (2 : Int32)), (.ref aS), (.int (1 : Int32)), (.ref aS)])) _
    refine X10.daload hx (j := (2 : Int32)) (v := (.double (FP.l2d (own_t M 2)))) (by rw [e10]; exact Ar11.1) (State.isArrayOf_alike hZ.alike Ar11.2.1) Ar11.2.2 hin11 hat11 (g := (mkF m 32 #[.val (.ref a1), .val (.int (6 : Int32)), .val (.double (FP.l2d x)), .second, .val (.int (1 : Int32))] [(.int (2 : Int32)), (.ref aS), (.int (1 : Int32)), (.ref aS)])) rfl rfl (hb hby d8_32) _ ?_
    show Steps p.tables e below (T10.setTop (mkF m 33 #[.val (.ref a1), .val (.int (6 : Int32)), .val (.double (FP.l2d x)), .second, .val (.int (1 : Int32))] [(.double (FP.l2d (own_t M 2))), (.int (1 : Int32)), (.ref aS)])) _
    refine XS.aloadN X10.here hx rfl (hb hby d8_33) rfl rfl ?_
    show Steps p.tables e below (T10.setTop (mkF m 34 #[.val (.ref a1), .val (.int (6 : Int32)), .val (.double (FP.l2d x)), .second, .val (.int (1 : Int32))] [(.ref a1), (.double (FP.l2d (own_t M 2))), (.int (1 : Int32)), (.ref aS)])) _
    refine st12 _ ?_
    show Steps p.tables e below (T12.setTop (mkF m 37 #[.val (.ref a1), .val (.int (6 : Int32)), .val (.double (FP.l2d x)), .second, .val (.int (1 : Int32))] [(.ref aS), (.double (FP.l2d (own_t M 2))), (.int (1 : Int32)), (.ref aS)])) _
    refine XS.iconst X12.here hx rfl (hb hby d8_37) ?_
    show Steps p.tables e below (T12.setTop (mkF m 38 #[.val (.ref a1), .val (.int (6 : Int32)), .val (.double (FP.l2d x)), .second, .val (.int (1 : Int32))] [(.int (2 : Int32)), (.ref aS), (.double (FP.l2d (own_t M 2))), (.int (1 : Int32)), (.ref aS)])) _
    refine XS.iload X12.here hx rfl (hb hby d8_38) rfl ?_
    show Steps p.tables e below (T12.setTop (mkF m 40 #[.val (.ref a1), .val (.int (6 : Int32)), .val (.double (FP.l2d x)), .second, .val (.int (1 : Int32))] [(.int (1 : Int32)), (.int (2 : Int32)), (.ref aS), (.double (FP.l2d (own_t M 2))), (.int (1 : Int32)), (.ref aS)])) _
    refine XS.imul X12.here hx rfl (hb hby d8_40) rfl ?_
    show Steps p.tables e below (T12.setTop (mkF m 41 #[.val (.ref a1), .val (.int (6 : Int32)), .val (.double (FP.l2d x)), .second, .val (.int (1 : Int32))] [(.int (2 : Int32)), (.ref aS), (.double (FP.l2d (own_t M 2))), (.int (1 : Int32)), (.ref aS)])) _
    refine XS.iconst X12.here hx rfl (hb hby d8_41) ?_
    show Steps p.tables e below (T12.setTop (mkF m 42 #[.val (.ref a1), .val (.int (6 : Int32)), .val (.double (FP.l2d x)), .second, .val (.int (1 : Int32))] [(.int (1 : Int32)), (.int (2 : Int32)), (.ref aS), (.double (FP.l2d (own_t M 2))), (.int (1 : Int32)), (.ref aS)])) _
    refine XS.iadd X12.here hx rfl (hb hby d8_42) rfl ?_
    show Steps p.tables e below (T12.setTop (mkF m 43 #[.val (.ref a1), .val (.int (6 : Int32)), .val (.double (FP.l2d x)), .second, .val (.int (1 : Int32))] [(.int (3 : Int32)), (.ref aS), (.double (FP.l2d (own_t M 2))), (.int (1 : Int32)), (.ref aS)])) _
    refine X12.daload hx (j := (3 : Int32)) (v := (.double (FP.l2d (x + (own_t M 7))))) (by rw [e12]; exact Ar13.1) (State.isArrayOf_alike hZ.alike Ar13.2.1) Ar13.2.2 hin13 hat13 (g := (mkF m 43 #[.val (.ref a1), .val (.int (6 : Int32)), .val (.double (FP.l2d x)), .second, .val (.int (1 : Int32))] [(.int (3 : Int32)), (.ref aS), (.double (FP.l2d (own_t M 2))), (.int (1 : Int32)), (.ref aS)])) rfl rfl (hb hby d8_43) _ ?_
    show Steps p.tables e below (T12.setTop (mkF m 44 #[.val (.ref a1), .val (.int (6 : Int32)), .val (.double (FP.l2d x)), .second, .val (.int (1 : Int32))] [(.double (FP.l2d (x + (own_t M 7)))), (.double (FP.l2d (own_t M 2))), (.int (1 : Int32)), (.ref aS)])) _
    refine XS.daddS X12.here hx rfl (hb hby d8_44) rfl (nn_w (dadd_w (own_Lb53 (own_tb hM 2) (by decide)) (own_Lb53 (own_La hxx (own_tb hM 7) (by decide)) (by decide)))) (v := (FP.l2d ((own_t M 2) + (x + (own_t M 7))))) (dadd_w (own_Lb53 (own_tb hM 2) (by decide)) (own_Lb53 (own_La hxx (own_tb hM 7) (by decide)) (by decide))) ?_
    show Steps p.tables e below (T12.setTop (mkF m 45 #[.val (.ref a1), .val (.int (6 : Int32)), .val (.double (FP.l2d x)), .second, .val (.int (1 : Int32))] [(.double (FP.l2d ((own_t M 2) + (x + (own_t M 7))))), (.int (1 : Int32)), (.ref aS)])) _
    refine st14 _ ?_
    show Steps p.tables e below (T14.setTop (mkF m 46 #[.val (.ref a1), .val (.int (6 : Int32)), .val (.double (FP.l2d x)), .second, .val (.int (1 : Int32))] [])) _
    refine XS.iload X14.here hx rfl (hb hby d8_46) rfl ?_
    show Steps p.tables e below (T14.setTop (mkF m 48 #[.val (.ref a1), .val (.int (6 : Int32)), .val (.double (FP.l2d x)), .second, .val (.int (1 : Int32))] [(.int (1 : Int32))])) _
    refine XS.iconst X14.here hx rfl (hb hby d8_48) ?_
    show Steps p.tables e below (T14.setTop (mkF m 49 #[.val (.ref a1), .val (.int (6 : Int32)), .val (.double (FP.l2d x)), .second, .val (.int (1 : Int32))] [(.int (2 : Int32)), (.int (1 : Int32))])) _
    refine XS.idiv X14.here hx rfl (hb hby d8_49) rfl (by decide) ?_
    show Steps p.tables e below (T14.setTop (mkF m 50 #[.val (.ref a1), .val (.int (6 : Int32)), .val (.double (FP.l2d x)), .second, .val (.int (1 : Int32))] [(.int (0 : Int32))])) _
    refine XS.istore X14.here hx rfl (hb hby d8_50) rfl (l' := #[.val (.ref a1), .val (.int (6 : Int32)), .val (.double (FP.l2d x)), .second, .val (.int (0 : Int32))]) rfl ?_
    show Steps p.tables e below (T14.setTop (mkF m 52 #[.val (.ref a1), .val (.int (6 : Int32)), .val (.double (FP.l2d x)), .second, .val (.int (0 : Int32))] [])) _
    refine XS.goto X14.here hx rfl (pc0 := 52) (pc' := 12) rfl (hb hby d8_52) (by decide) (by decide) ?_
    show Steps p.tables e below (T14.setTop (mkF m 12 #[.val (.ref a1), .val (.int (6 : Int32)), .val (.double (FP.l2d x)), .second, .val (.int (0 : Int32))] [])) _
    refine XS.iload X14.here hx rfl (hb hby d8_12) rfl ?_
    show Steps p.tables e below (T14.setTop (mkF m 14 #[.val (.ref a1), .val (.int (6 : Int32)), .val (.double (FP.l2d x)), .second, .val (.int (0 : Int32))] [(.int (0 : Int32))])) _
    refine XS.iconst X14.here hx rfl (hb hby d8_14) ?_
    show Steps p.tables e below (T14.setTop (mkF m 15 #[.val (.ref a1), .val (.int (6 : Int32)), .val (.double (FP.l2d x)), .second, .val (.int (0 : Int32))] [(.int (1 : Int32)), (.int (0 : Int32))])) _
    refine XS.icmpYes X14.here hx rfl (pc0 := 15) (pc' := 55) rfl (hb hby d8_15) rfl (tlt (by decide : ((0 : Int32) < (1 : Int32)))).1 (by decide) (by decide) ?_
    show Steps p.tables e below (T14.setTop (mkF m 55 #[.val (.ref a1), .val (.int (6 : Int32)), .val (.double (FP.l2d x)), .second, .val (.int (0 : Int32))] [])) _
    exact X14.returnOut hx Bd.returns (hb hby d8_55) hr
  · show Q_rset6 Z a1 x aS M h0 n0 _ T14.heap _
    rw [e14]
    exact ⟨rfl, N14, K14, V14_v14.congr (fun i hi => by match i, hi with | 0, _ => rfl | 1, _ => rfl | 2, _ => rfl | 3, _ => rfl | 4, _ => rfl | 5, _ => rfl | 6, _ => rfl | 7, _ => rfl)⟩

def Q_rset (Z : State) (a1 : Addr) (p2 : Int32) (x : Int64) (aS : Addr) (M : Int32 → Int64) (h0 : Heap) (n0 : Nat) (v : Option Value) (h : Heap) (L : List Loc) : Prop := v = none ∧ Fr n0 L ∧ Keep h0 h [aS] ∧ ArF Z h aS .double 8 (fun i => .double (FP.l2d (own_t (own_up M p2 x) i)))
theorem rset (l : Launch) (Z : State) (a0 : Array Value) (hw : ∀ d ∈ tables_1, d.before a0 Z = true) (ws : List Jvm.Cond) (a1 : Addr) (p2 : Int32) (x : Int64) (aS : Addr) (M : Int32 → Int64) (h0 : Heap) (n0 : Nat) (Z0 : n0 ≤ h0.size) (Fs : Fld Z h0 a1 "com/example/velar/velar/WeightedDraws" "sums" "[D" (.ref aS)) (V0 : ArF Z h0 aS .double 8 (fun i => .double (FP.l2d (own_t M i)))) (gs : n0 ≤ aS) (n1 : a1 ≠ aS) (hM : own_bd M) (hx : own_Lb 16 x) (hk : p2 = 4 ∨ p2 = 5 ∨ p2 = 6) :
    MetFree l (⟨"com/example/velar/velar/WeightedDraws", "set", "(ID)V"⟩ : MethodName) (head1 (Jvm.Cond.code (⟨"com/example/velar/velar/WeightedDraws", "set", "(ID)V"⟩ : MethodName) prog_28_method_4_code 5 none :: ws) ({ frames := 0, cells := 0, slots := 0, locals := 0 } : Room)) (fun a U => a = #[(.ref a1), (.int p2), (.double (FP.l2d x))] ∧ Z.Warmed39 U.vm ∧ U.heap = h0) (fun _ _ _ _ _ => True) (fun _ U o U' => ∃ v L, o = .returned v ∧ Q_rset Z a1 p2 x aS M h0 n0 v U'.heap L ∧ FrameEnd U o U' L ({ frames := 0, cells := 0, slots := 0, locals := 0 } : Room).cells ({ frames := 0, cells := 0, slots := 0, locals := 0 } : Room).slots) := by
  rcases hk with rfl | rfl | rfl
  · exact rset4 l Z a0 hw ws a1 x aS M h0 n0 Z0 Fs V0 gs n1 hM hx
  · exact rset5 l Z a0 hw ws a1 x aS M h0 n0 Z0 Fs V0 gs n1 hM hx
  · exact rset6 l Z a0 hw ws a1 x aS M h0 n0 Z0 Fs V0 gs n1 hM hx
theorem d6_0 : decode method_2_code 0 = .ok (.iload_n 0, 1) := by decide +kernel
theorem d6_1 : decode method_2_code 1 = .ok (.bipush 7, 2) := by decide +kernel
theorem d6_3 : decode method_2_code 3 = .ok (.iand, 1) := by decide +kernel
theorem d6_4 : decode method_2_code 4 = .ok (.i2d, 1) := by decide +kernel
theorem d6_5 : decode method_2_code 5 = .ok (.ldc2_w 7, 3) := by decide +kernel
theorem d6_8 : decode method_2_code 8 = .ok (.ddiv, 1) := by decide +kernel
theorem d6_9 : decode method_2_code 9 = .ok (.dreturn, 1) := by decide +kernel
theorem pn_rfr : plainName "com/example/velar/velar/WeightedDrawsPutBackPinLaw" = true := by first | (simp [plainName, overriddenIn]; done) | decide +kernel
theorem ef_rfr (m : MethodId) (x0 : Int32) : entryFrame m #[(.int x0)] 1 = mkF m 0 #[.val (.int x0)] [] := by first | (simp [entryFrame, mkF, argsToLocals, Value.category]; done) | rfl
def Q_rfr (Z : State) (p1 : Int32) (h0 : Heap) (n0 : Nat) (v : Option Value) (h : Heap) (L : List Loc) : Prop := v = some (.double (own_fr p1)) ∧ Fr n0 L ∧ h = h0
set_option maxRecDepth 65536 in
set_option maxHeartbeats 40000000 in
theorem rfr (l : Launch) (Z : State) (a0 : Array Value) (hw : ∀ d ∈ tables_1, d.before a0 Z = true) (ws : List Jvm.Cond) (p1 : Int32) (h0 : Heap) (n0 : Nat) (Z0 : n0 ≤ h0.size) :
    MetFree l (⟨"com/example/velar/velar/WeightedDrawsPutBackPinLaw", "frac", "(I)D"⟩ : MethodName) (head1 (Jvm.Cond.code (⟨"com/example/velar/velar/WeightedDrawsPutBackPinLaw", "frac", "(I)D"⟩ : MethodName) method_2_code 1 (some .double) :: ws) ({ frames := 0, cells := 0, slots := 0, locals := 0 } : Room)) (fun a U => a = #[(.int p1)] ∧ Z.Warmed39 U.vm ∧ U.heap = h0) (fun _ _ _ _ _ => True) (fun _ U o U' => ∃ v L, o = .returned v ∧ Q_rfr Z p1 h0 n0 v U'.heap L ∧ FrameEnd U o U' L ({ frames := 0, cells := 0, slots := 0, locals := 0 } : Room).cells ({ frames := 0, cells := 0, slots := 0, locals := 0 } : Room).slots) := by
  refine MetFree.of_bodySF (plainFor_of_name pn_rfr) hisR ?_
  intro p e s m args below meth c s₁ Bd hml0 hP hK
  obtain ⟨rfl, hZ, hh⟩ := hP
  have hx := Bd.exec
  have hby := Bd.bytes
  have hml : c.maxLocals = 1 := hml0
  have hown : s.vm.findClass "com/example/velar/velar/WeightedDrawsPutBackPinLaw" = some m.cls := findClass_of_methodNamed Bd.named
  have hnm := (name_of_methodNamed Bd.named Bd.method).1
  have X0 : Stand p l e ({ frames := 0, cells := 0, slots := 0, locals := 0 } : Room) s m #[(.int p1)] below meth c s₁ [] 0 0 := Stand.of_body Bd
  have e0 : s₁.heap = h0 := by rw [← hh, Bd.state]; rfl
  have N0 := Fr.nil n0
  have pre0 : ∀ t, Steps p.tables e below (s₁.setTop (mkF m 0 #[.val (.int p1)] [])) t → Steps p.tables e below (s₁.setTop (entryFrame m #[(.int p1)] 1)) t := fun t k => castTop (ef_rfr m p1) k
  obtain ⟨fs, hr, hrun, hended, hW, hsame⟩ := X0.leave (v := some (.double (FP.ddiv (FP.l2d ((p1 &&& (7 : Int32)).toInt64)) (4620693217682128896 : UInt64)))) (fun h => by rw [Bd.returns] at h; cases h)
  refine ⟨_, _, pre0 _ ?_, hrun, hended, _, _, rfl, ?_, ⟨_, rfl⟩, hW, hsame.mono (by decide) (by decide)⟩
  · show Steps p.tables e below (s₁.setTop (mkF m 0 #[.val (.int p1)] [])) _
    refine XS.iloadN X0.here hx rfl (hb hby d6_0) rfl ?_
    show Steps p.tables e below (s₁.setTop (mkF m 1 #[.val (.int p1)] [(.int p1)])) _
    refine XS.bipush X0.here hx rfl (hb hby d6_1) ?_
    show Steps p.tables e below (s₁.setTop (mkF m 3 #[.val (.int p1)] [(.int (7 : Int32)), (.int p1)])) _
    refine XS.iand X0.here hx rfl (hb hby d6_3) rfl ?_
    show Steps p.tables e below (s₁.setTop (mkF m 4 #[.val (.int p1)] [(.int (p1 &&& (7 : Int32)))])) _
    refine XS.i2dS X0.here hx rfl (hb hby d6_4) rfl (v := (FP.l2d ((p1 &&& (7 : Int32)).toInt64))) (i2d_w _) ?_
    show Steps p.tables e below (s₁.setTop (mkF m 5 #[.val (.int p1)] [(.double (FP.l2d ((p1 &&& (7 : Int32)).toInt64)))])) _
    refine X0.ldc2DoubleC hx hown (mvT hZ (hw _ (List.mem_of_getElem? (i := 39) rfl))) (g := (mkF m 5 #[.val (.int p1)] [(.double (FP.l2d ((p1 &&& (7 : Int32)).toInt64)))])) rfl (hb hby d6_5) _ ?_
    show Steps p.tables e below (s₁.setTop (mkF m 8 #[.val (.int p1)] [(.double (4620693217682128896 : UInt64)), (.double (FP.l2d ((p1 &&& (7 : Int32)).toInt64)))])) _
    refine XS.ddivS X0.here hx rfl (hb hby d6_8) rfl (own_frn p1) (v := (FP.ddiv (FP.l2d ((p1 &&& (7 : Int32)).toInt64)) (4620693217682128896 : UInt64))) rfl ?_
    show Steps p.tables e below (s₁.setTop (mkF m 9 #[.val (.int p1)] [(.double (FP.ddiv (FP.l2d ((p1 &&& (7 : Int32)).toInt64)) (4620693217682128896 : UInt64)))])) _
    exact retOut X0 hx (t := .double) Bd.returns rfl (Or.inr (Or.inr (Or.inl ⟨rfl, rfl, _, rfl⟩))) (hb hby d6_9) hr
  · show Q_rfr Z p1 h0 n0 _ s₁.heap _
    rw [e0]
    exact ⟨rfl, N0, rfl⟩
theorem own_upV (D : Nat → Int32) (c k : Int32) (i : Nat) : (if i = c.toNatClampNeg then Value.int k else Value.int (D i)) = Value.int (own_upN D c k i) := by unfold own_upN; split <;> rfl
theorem own_upW (X : Nat → Int64) (c : Int32) (x : Int64) (i : Nat) : (if i = c.toNatClampNeg then Value.double (FP.l2d x) else Value.double (FP.l2d (X i))) = Value.double (FP.l2d (own_upX X c x i)) := by unfold own_upX; split <;> rfl
theorem d7_0 : decode prog_28_method_2_code 0 = .ok (.dload_n 1, 1) := by decide +kernel
theorem d7_1 : decode prog_28_method_2_code 1 = .ok (.aload_n 0, 1) := by decide +kernel
theorem d7_2 : decode prog_28_method_2_code 2 = .ok (.getfield 27, 3) := by decide +kernel
theorem d7_5 : decode prog_28_method_2_code 5 = .ok (.iconst 1, 1) := by decide +kernel
theorem d7_6 : decode prog_28_method_2_code 6 = .ok (.daload, 1) := by decide +kernel
theorem d7_7 : decode prog_28_method_2_code 7 = .ok (.dmul, 1) := by decide +kernel
theorem d7_8 : decode prog_28_method_2_code 8 = .ok (.dstore_n 3, 1) := by decide +kernel
theorem d7_9 : decode prog_28_method_2_code 9 = .ok (.iconst 1, 1) := by decide +kernel
theorem d7_10 : decode prog_28_method_2_code 10 = .ok (.istore 5, 2) := by decide +kernel
theorem d7_12 : decode prog_28_method_2_code 12 = .ok (.iload 5, 2) := by decide +kernel
theorem d7_14 : decode prog_28_method_2_code 14 = .ok (.aload_n 0, 1) := by decide +kernel
theorem d7_15 : decode prog_28_method_2_code 15 = .ok (.getfield 23, 3) := by decide +kernel
theorem d7_18 : decode prog_28_method_2_code 18 = .ok (.if_icmp .ge 62, 3) := by decide +kernel
theorem d7_21 : decode prog_28_method_2_code 21 = .ok (.aload_n 0, 1) := by decide +kernel
theorem d7_22 : decode prog_28_method_2_code 22 = .ok (.getfield 27, 3) := by decide +kernel
theorem d7_25 : decode prog_28_method_2_code 25 = .ok (.iconst 2, 1) := by decide +kernel
theorem d7_26 : decode prog_28_method_2_code 26 = .ok (.iload 5, 2) := by decide +kernel
theorem d7_28 : decode prog_28_method_2_code 28 = .ok (.imul, 1) := by decide +kernel
theorem d7_29 : decode prog_28_method_2_code 29 = .ok (.daload, 1) := by decide +kernel
theorem d7_30 : decode prog_28_method_2_code 30 = .ok (.dstore 6, 2) := by decide +kernel
theorem d7_32 : decode prog_28_method_2_code 32 = .ok (.dload_n 3, 1) := by decide +kernel
theorem d7_33 : decode prog_28_method_2_code 33 = .ok (.dload 6, 2) := by decide +kernel
theorem d7_35 : decode prog_28_method_2_code 35 = .ok (.dcmp .g, 1) := by decide +kernel
theorem d7_36 : decode prog_28_method_2_code 36 = .ok (.ifCond .lt 19, 3) := by decide +kernel
theorem d7_39 : decode prog_28_method_2_code 39 = .ok (.aload_n 0, 1) := by decide +kernel
theorem d7_40 : decode prog_28_method_2_code 40 = .ok (.getfield 27, 3) := by decide +kernel
theorem d7_43 : decode prog_28_method_2_code 43 = .ok (.iconst 2, 1) := by decide +kernel
theorem d7_44 : decode prog_28_method_2_code 44 = .ok (.iload 5, 2) := by decide +kernel
theorem d7_46 : decode prog_28_method_2_code 46 = .ok (.imul, 1) := by decide +kernel
theorem d7_47 : decode prog_28_method_2_code 47 = .ok (.iconst 1, 1) := by decide +kernel
theorem d7_48 : decode prog_28_method_2_code 48 = .ok (.iadd, 1) := by decide +kernel
theorem d7_49 : decode prog_28_method_2_code 49 = .ok (.daload, 1) := by decide +kernel
theorem d7_50 : decode prog_28_method_2_code 50 = .ok (.dconst 0, 1) := by decide +kernel
theorem d7_51 : decode prog_28_method_2_code 51 = .ok (.dcmp .l, 1) := by decide +kernel
theorem d7_52 : decode prog_28_method_2_code 52 = .ok (.ifCond .ne 12, 3) := by decide +kernel
theorem d7_55 : decode prog_28_method_2_code 55 = .ok (.iconst 2, 1) := by decide +kernel
theorem d7_56 : decode prog_28_method_2_code 56 = .ok (.iload 5, 2) := by decide +kernel
theorem d7_58 : decode prog_28_method_2_code 58 = .ok (.imul, 1) := by decide +kernel
theorem d7_59 : decode prog_28_method_2_code 59 = .ok (.istore 5, 2) := by decide +kernel
theorem d7_61 : decode prog_28_method_2_code 61 = .ok (.goto 16, 3) := by decide +kernel
theorem d7_64 : decode prog_28_method_2_code 64 = .ok (.dload_n 3, 1) := by decide +kernel
theorem d7_65 : decode prog_28_method_2_code 65 = .ok (.dload 6, 2) := by decide +kernel
theorem d7_67 : decode prog_28_method_2_code 67 = .ok (.dsub, 1) := by decide +kernel
theorem d7_68 : decode prog_28_method_2_code 68 = .ok (.dstore_n 3, 1) := by decide +kernel
theorem d7_69 : decode prog_28_method_2_code 69 = .ok (.iconst 2, 1) := by decide +kernel
theorem d7_70 : decode prog_28_method_2_code 70 = .ok (.iload 5, 2) := by decide +kernel
theorem d7_72 : decode prog_28_method_2_code 72 = .ok (.imul, 1) := by decide +kernel
theorem d7_73 : decode prog_28_method_2_code 73 = .ok (.iconst 1, 1) := by decide +kernel
theorem d7_74 : decode prog_28_method_2_code 74 = .ok (.iadd, 1) := by decide +kernel
theorem d7_75 : decode prog_28_method_2_code 75 = .ok (.istore 5, 2) := by decide +kernel
theorem d7_77 : decode prog_28_method_2_code 77 = .ok (.goto (-65), 3) := by decide +kernel
theorem d7_80 : decode prog_28_method_2_code 80 = .ok (.aload_n 0, 1) := by decide +kernel
theorem d7_81 : decode prog_28_method_2_code 81 = .ok (.getfield 36, 3) := by decide +kernel
theorem d7_84 : decode prog_28_method_2_code 84 = .ok (.aload_n 0, 1) := by decide +kernel
theorem d7_85 : decode prog_28_method_2_code 85 = .ok (.getfield 7, 3) := by decide +kernel
theorem d7_88 : decode prog_28_method_2_code 88 = .ok (.arraylength, 1) := by decide +kernel
theorem d7_89 : decode prog_28_method_2_code 89 = .ok (.if_icmp .ne 37, 3) := by decide +kernel
theorem d7_126 : decode prog_28_method_2_code 126 = .ok (.aload_n 0, 1) := by decide +kernel
theorem d7_127 : decode prog_28_method_2_code 127 = .ok (.getfield 7, 3) := by decide +kernel
theorem d7_130 : decode prog_28_method_2_code 130 = .ok (.aload_n 0, 1) := by decide +kernel
theorem d7_131 : decode prog_28_method_2_code 131 = .ok (.getfield 36, 3) := by decide +kernel
theorem d7_134 : decode prog_28_method_2_code 134 = .ok (.iload 5, 2) := by decide +kernel
theorem d7_136 : decode prog_28_method_2_code 136 = .ok (.iastore, 1) := by decide +kernel
theorem d7_137 : decode prog_28_method_2_code 137 = .ok (.aload_n 0, 1) := by decide +kernel
theorem d7_138 : decode prog_28_method_2_code 138 = .ok (.getfield 13, 3) := by decide +kernel
theorem d7_141 : decode prog_28_method_2_code 141 = .ok (.aload_n 0, 1) := by decide +kernel
theorem d7_142 : decode prog_28_method_2_code 142 = .ok (.getfield 36, 3) := by decide +kernel
theorem d7_145 : decode prog_28_method_2_code 145 = .ok (.aload_n 0, 1) := by decide +kernel
theorem d7_146 : decode prog_28_method_2_code 146 = .ok (.getfield 27, 3) := by decide +kernel
theorem d7_149 : decode prog_28_method_2_code 149 = .ok (.iload 5, 2) := by decide +kernel
theorem d7_151 : decode prog_28_method_2_code 151 = .ok (.daload, 1) := by decide +kernel
theorem d7_152 : decode prog_28_method_2_code 152 = .ok (.dastore, 1) := by decide +kernel
theorem d7_153 : decode prog_28_method_2_code 153 = .ok (.aload_n 0, 1) := by decide +kernel
theorem d7_154 : decode prog_28_method_2_code 154 = .ok (.dup, 1) := by decide +kernel
theorem d7_155 : decode prog_28_method_2_code 155 = .ok (.getfield 36, 3) := by decide +kernel
theorem d7_158 : decode prog_28_method_2_code 158 = .ok (.iconst 1, 1) := by decide +kernel
theorem d7_159 : decode prog_28_method_2_code 159 = .ok (.iadd, 1) := by decide +kernel
theorem d7_160 : decode prog_28_method_2_code 160 = .ok (.putfield 36, 3) := by decide +kernel
theorem d7_163 : decode prog_28_method_2_code 163 = .ok (.aload_n 0, 1) := by decide +kernel
theorem d7_164 : decode prog_28_method_2_code 164 = .ok (.iload 5, 2) := by decide +kernel
theorem d7_166 : decode prog_28_method_2_code 166 = .ok (.dconst 0, 1) := by decide +kernel
theorem d7_167 : decode prog_28_method_2_code 167 = .ok (.invokevirtual 48, 3) := by decide +kernel
theorem d7_170 : decode prog_28_method_2_code 170 = .ok (.iload 5, 2) := by decide +kernel
theorem d7_172 : decode prog_28_method_2_code 172 = .ok (.aload_n 0, 1) := by decide +kernel
theorem d7_173 : decode prog_28_method_2_code 173 = .ok (.getfield 23, 3) := by decide +kernel
theorem d7_176 : decode prog_28_method_2_code 176 = .ok (.isub, 1) := by decide +kernel
theorem d7_177 : decode prog_28_method_2_code 177 = .ok (.ireturn, 1) := by decide +kernel
theorem pn_rdr : plainName "com/example/velar/velar/WeightedDraws" = true := by first | (simp [plainName, overriddenIn]; done) | decide +kernel
theorem ef_rdr (m : MethodId) (x0 : Addr) (x1 : UInt64) : entryFrame m #[(.ref x0), (.double x1)] 8 = mkF m 0 #[.val (.ref x0), .val (.double x1), .second, .unset, .unset, .unset, .unset, .unset] [] := by first | (simp [entryFrame, mkF, argsToLocals, Value.category]; done) | rfl
def Q_rdr (Z : State) (a1 : Addr) (d2 : UInt64) (aS aD aE : Addr) (cn : Int32) (M : Int32 → Int64) (D : Nat → Int32) (X : Nat → Int64) (h0 : Heap) (n0 : Nat) (v : Option Value) (h : Heap) (L : List Loc) : Prop := v = some (.int ((own_pick M d2) - (4 : Int32))) ∧ Fr n0 L ∧ Keep h0 h [a1, aS, aD, aE] ∧ Fld Z h a1 "com/example/velar/velar/WeightedDraws" "leaves" "I" (.int (4 : Int32)) ∧ Fld Z h a1 "com/example/velar/velar/WeightedDraws" "sums" "[D" (.ref aS) ∧ Fld Z h a1 "com/example/velar/velar/WeightedDraws" "drawn" "[I" (.ref aD) ∧ Fld Z h a1 "com/example/velar/velar/WeightedDraws" "drawnWeights" "[D" (.ref aE) ∧ Fld Z h a1 "com/example/velar/velar/WeightedDraws" "drawnCount" "I" (.int (cn + (1 : Int32))) ∧ ArF Z h aS .double 8 (fun i => .double (FP.l2d (own_t (own_up M (own_pick M d2) 0) i))) ∧ ArF Z h aD .int 64 (fun i => .int ((own_upN D cn (own_pick M d2)) i)) ∧ ArF Z h aE .double 64 (fun i => .double (FP.l2d ((own_upX X cn (M (own_pick M d2))) i)))
set_option maxRecDepth 65536 in
set_option maxHeartbeats 40000000 in
theorem rdr (l : Launch) (Z : State) (a0 : Array Value) (hw : ∀ d ∈ tables_1, d.before a0 Z = true) (ws : List Jvm.Cond) (a1 : Addr) (d2 : UInt64) (aS aD aE : Addr) (cn : Int32) (M : Int32 → Int64) (D : Nat → Int32) (X : Nat → Int64) (h0 : Heap) (n0 : Nat) (Z0 : n0 ≤ h0.size) (Ex : Exa Z h0 a1 "com/example/velar/velar/WeightedDraws") (F_leaves : Fld Z h0 a1 "com/example/velar/velar/WeightedDraws" "leaves" "I" (.int (4 : Int32))) (F_sums : Fld Z h0 a1 "com/example/velar/velar/WeightedDraws" "sums" "[D" (.ref aS)) (F_drawn : Fld Z h0 a1 "com/example/velar/velar/WeightedDraws" "drawn" "[I" (.ref aD)) (F_drawnWeights : Fld Z h0 a1 "com/example/velar/velar/WeightedDraws" "drawnWeights" "[D" (.ref aE)) (F_drawnCount : Fld Z h0 a1 "com/example/velar/velar/WeightedDraws" "drawnCount" "I" (.int cn)) (Vs : ArF Z h0 aS .double 8 (fun i => .double (FP.l2d (own_t M i)))) (Vd : ArF Z h0 aD .int 64 (fun i => .int (D i))) (Ve : ArF Z h0 aE .double 64 (fun i => .double (FP.l2d (X i)))) (ga : n0 ≤ a1) (gs : n0 ≤ aS) (gd : n0 ≤ aD) (ge : n0 ≤ aE) (n1 : a1 ≠ aS) (n2 : a1 ≠ aD) (n3 : a1 ≠ aE) (n4 : aS ≠ aD) (n5 : aS ≠ aE) (n6 : aD ≠ aE) (hM : own_bd M) (hfr : Jvm.Free.Fl.Fin64 d2) (hc : ¬ cn < 0 ∧ cn.toNatClampNeg < 64 ∧ ¬ cn = (64 : Int32)) :
    MetFree l (⟨"com/example/velar/velar/WeightedDraws", "draw", "(D)I"⟩ : MethodName) (head1 (Jvm.Cond.code (⟨"com/example/velar/velar/WeightedDraws", "draw", "(D)I"⟩ : MethodName) prog_28_method_2_code 8 (some .int) :: ws) ({ frames := 1, cells := 0, slots := 0, locals := 16 } : Room)) (fun a U => a = #[(.ref a1), (.double d2)] ∧ Z.Warmed39 U.vm ∧ U.heap = h0) (fun _ _ _ _ _ => True) (fun _ U o U' => ∃ v L, o = .returned v ∧ Q_rdr Z a1 d2 aS aD aE cn M D X h0 n0 v U'.heap L ∧ FrameEnd U o U' L ({ frames := 1, cells := 0, slots := 0, locals := 16 } : Room).cells ({ frames := 1, cells := 0, slots := 0, locals := 16 } : Room).slots) := by
  refine MetFree.of_bodySF (plainFor_of_name pn_rdr) hisR ?_
  intro p e s m args below meth c s₁ Bd hml0 hP hK
  obtain ⟨rfl, hZ, hh⟩ := hP
  have hx := Bd.exec
  have hby := Bd.bytes
  have hml : c.maxLocals = 8 := hml0
  have hown : s.vm.findClass "com/example/velar/velar/WeightedDraws" = some m.cls := findClass_of_methodNamed Bd.named
  have hnm := (name_of_methodNamed Bd.named Bd.method).1
  have X0 : Stand p l e ({ frames := 1, cells := 0, slots := 0, locals := 16 } : Room) s m #[(.ref a1), (.double d2)] below meth c s₁ [] 0 0 := Stand.of_body Bd
  have e0 : s₁.heap = h0 := by rw [← hh, Bd.state]; rfl
  have N0 := Fr.nil n0
  have pre0 : ∀ t, Steps p.tables e below (s₁.setTop (mkF m 0 #[.val (.ref a1), .val (.double d2), .second, .unset, .unset, .unset, .unset, .unset] [])) t → Steps p.tables e below (s₁.setTop (entryFrame m #[(.ref a1), (.double d2)] 8)) t := fun t k => castTop (ef_rdr m a1 d2) k
  have K0 := Keep.refl h0 [a1, aS, aD, aE]
  obtain ⟨T1, X1, e1, st1⟩ := getF X0 hx hZ hown (host := "") (Or.inl (hw _ (List.mem_of_getElem? (i := 26) rfl))) Via.refl e0 F_sums (g := (mkF m 2 #[.val (.ref a1), .val (.double d2), .second, .unset, .unset, .unset, .unset, .unset] [(.ref a1), (.double d2)])) rfl rfl (hb hby d7_2)
  obtain ⟨cl2, Ar2, S2, H2⟩ := id Vs
  have hin2 : ¬ ((1 : Int32) < 0 ∨ cl2.slots.size ≤ ((1 : Int32)).toNatClampNeg) := inA S2 (by decide) (by decide)
  have hat2 : cl2.slots[((1 : Int32)).toNatClampNeg]? = some (.double (FP.l2d (own_t M 1))) := ArF.at S2 H2 hin2 rfl
  obtain ⟨T3, X3, e3, st3⟩ := getF X1 hx hZ hown (host := "") (Or.inl (hw _ (List.mem_of_getElem? (i := 24) rfl))) Via.refl e1 F_leaves (g := (mkF m 15 #[.val (.ref a1), .val (.double d2), .second, .val (.double (FP.dmul d2 (FP.l2d (own_t M 1)))), .second, .val (.int (1 : Int32)), .unset, .unset] [(.ref a1), (.int (1 : Int32))])) rfl rfl (hb hby d7_15)
  obtain ⟨T4, X4, e4, st4⟩ := getF X3 hx hZ hown (host := "") (Or.inl (hw _ (List.mem_of_getElem? (i := 26) rfl))) Via.refl e3 F_sums (g := (mkF m 22 #[.val (.ref a1), .val (.double d2), .second, .val (.double (FP.dmul d2 (FP.l2d (own_t M 1)))), .second, .val (.int (1 : Int32)), .unset, .unset] [(.ref a1)])) rfl rfl (hb hby d7_22)
  obtain ⟨cl5, Ar5, S5, H5⟩ := id Vs
  have hin5 : ¬ ((2 : Int32) < 0 ∨ cl5.slots.size ≤ ((2 : Int32)).toNatClampNeg) := inA S5 (by decide) (by decide)
  have hat5 : cl5.slots[((2 : Int32)).toNatClampNeg]? = some (.double (FP.l2d (own_t M 2))) := ArF.at S5 H5 hin5 rfl
  have pre6 : ∀ t, Steps p.tables e below (T4.setTop (mkF m 36 #[.val (.ref a1), .val (.double d2), .second, .val (.double (FP.dmul d2 (FP.l2d (own_t M 1)))), .second, .val (.int (1 : Int32)), .val (.double (FP.l2d (own_t M 2))), .second] [(.int (cmpValue (FP.dcmp (FP.dmul d2 (FP.l2d (own_t M 1))) (FP.l2d (own_t M 2))) .g))])) t → Steps p.tables e below (s₁.setTop (entryFrame m #[(.ref a1), (.double d2)] 8)) t := by
    intro t k
    refine pre0 t ?_
    show Steps p.tables e below (s₁.setTop (mkF m 0 #[.val (.ref a1), .val (.double d2), .second, .unset, .unset, .unset, .unset, .unset] [])) _
    refine XS.dloadN X0.here hx rfl (hb hby d7_0) rfl ?_
    show Steps p.tables e below (s₁.setTop (mkF m 1 #[.val (.ref a1), .val (.double d2), .second, .unset, .unset, .unset, .unset, .unset] [(.double d2)])) _
    refine XS.aloadN X0.here hx rfl (hb hby d7_1) rfl rfl ?_
    show Steps p.tables e below (s₁.setTop (mkF m 2 #[.val (.ref a1), .val (.double d2), .second, .unset, .unset, .unset, .unset, .unset] [(.ref a1), (.double d2)])) _
    refine st1 _ ?_
    show Steps p.tables e below (T1.setTop (mkF m 5 #[.val (.ref a1), .val (.double d2), .second, .unset, .unset, .unset, .unset, .unset] [(.ref aS), (.double d2)])) _
    refine XS.iconst X1.here hx rfl (hb hby d7_5) ?_
    show Steps p.tables e below (T1.setTop (mkF m 6 #[.val (.ref a1), .val (.double d2), .second, .unset, .unset, .unset, .unset, .unset] [(.int (1 : Int32)), (.ref aS), (.double d2)])) _
    refine X1.daload hx (j := (1 : Int32)) (v := (.double (FP.l2d (own_t M 1)))) (by rw [e1]; exact Ar2.1) (State.isArrayOf_alike hZ.alike Ar2.2.1) Ar2.2.2 hin2 hat2 (g := (mkF m 6 #[.val (.ref a1), .val (.double d2), .second, .unset, .unset, .unset, .unset, .unset] [(.int (1 : Int32)), (.ref aS), (.double d2)])) rfl rfl (hb hby d7_6) _ ?_
    show Steps p.tables e below (T1.setTop (mkF m 7 #[.val (.ref a1), .val (.double d2), .second, .unset, .unset, .unset, .unset, .unset] [(.double (FP.l2d (own_t M 1))), (.double d2)])) _
    refine XS.dmulS X1.here hx rfl (hb hby d7_7) rfl (Jvm.Free.Fl.dmul_out hfr (Jvm.Free.Fl.l2d_fin _)) (v := (FP.dmul d2 (FP.l2d (own_t M 1)))) rfl ?_
    show Steps p.tables e below (T1.setTop (mkF m 8 #[.val (.ref a1), .val (.double d2), .second, .unset, .unset, .unset, .unset, .unset] [(.double (FP.dmul d2 (FP.l2d (own_t M 1))))])) _
    refine XS.dstoreN X1.here hx rfl (hb hby d7_8) rfl (l' := #[.val (.ref a1), .val (.double d2), .second, .val (.double (FP.dmul d2 (FP.l2d (own_t M 1)))), .second, .unset, .unset, .unset]) rfl ?_
    show Steps p.tables e below (T1.setTop (mkF m 9 #[.val (.ref a1), .val (.double d2), .second, .val (.double (FP.dmul d2 (FP.l2d (own_t M 1)))), .second, .unset, .unset, .unset] [])) _
    refine XS.iconst X1.here hx rfl (hb hby d7_9) ?_
    show Steps p.tables e below (T1.setTop (mkF m 10 #[.val (.ref a1), .val (.double d2), .second, .val (.double (FP.dmul d2 (FP.l2d (own_t M 1)))), .second, .unset, .unset, .unset] [(.int (1 : Int32))])) _
    refine XS.istore X1.here hx rfl (hb hby d7_10) rfl (l' := #[.val (.ref a1), .val (.double d2), .second, .val (.double (FP.dmul d2 (FP.l2d (own_t M 1)))), .second, .val (.int (1 : Int32)), .unset, .unset]) rfl ?_
    show Steps p.tables e below (T1.setTop (mkF m 12 #[.val (.ref a1), .val (.double d2), .second, .val (.double (FP.dmul d2 (FP.l2d (own_t M 1)))), .second, .val (.int (1 : Int32)), .unset, .unset] [])) _
    refine XS.iload X1.here hx rfl (hb hby d7_12) rfl ?_
    show Steps p.tables e below (T1.setTop (mkF m 14 #[.val (.ref a1), .val (.double d2), .second, .val (.double (FP.dmul d2 (FP.l2d (own_t M 1)))), .second, .val (.int (1 : Int32)), .unset, .unset] [(.int (1 : Int32))])) _
    refine XS.aloadN X1.here hx rfl (hb hby d7_14) rfl rfl ?_
    show Steps p.tables e below (T1.setTop (mkF m 15 #[.val (.ref a1), .val (.double d2), .second, .val (.double (FP.dmul d2 (FP.l2d (own_t M 1)))), .second, .val (.int (1 : Int32)), .unset, .unset] [(.ref a1), (.int (1 : Int32))])) _
    refine st3 _ ?_
    show Steps p.tables e below (T3.setTop (mkF m 18 #[.val (.ref a1), .val (.double d2), .second, .val (.double (FP.dmul d2 (FP.l2d (own_t M 1)))), .second, .val (.int (1 : Int32)), .unset, .unset] [(.int (4 : Int32)), (.int (1 : Int32))])) _
    refine XS.icmpNo X3.here hx rfl (hb hby d7_18) rfl (tlt (by decide : ((1 : Int32) < (4 : Int32)))).2.1 ?_
    show Steps p.tables e below (T3.setTop (mkF m 21 #[.val (.ref a1), .val (.double d2), .second, .val (.double (FP.dmul d2 (FP.l2d (own_t M 1)))), .second, .val (.int (1 : Int32)), .unset, .unset] [])) _
    refine XS.aloadN X3.here hx rfl (hb hby d7_21) rfl rfl ?_
    show Steps p.tables e below (T3.setTop (mkF m 22 #[.val (.ref a1), .val (.double d2), .second, .val (.double (FP.dmul d2 (FP.l2d (own_t M 1)))), .second, .val (.int (1 : Int32)), .unset, .unset] [(.ref a1)])) _
    refine st4 _ ?_
    show Steps p.tables e below (T4.setTop (mkF m 25 #[.val (.ref a1), .val (.double d2), .second, .val (.double (FP.dmul d2 (FP.l2d (own_t M 1)))), .second, .val (.int (1 : Int32)), .unset, .unset] [(.ref aS)])) _
    refine XS.iconst X4.here hx rfl (hb hby d7_25) ?_
    show Steps p.tables e below (T4.setTop (mkF m 26 #[.val (.ref a1), .val (.double d2), .second, .val (.double (FP.dmul d2 (FP.l2d (own_t M 1)))), .second, .val (.int (1 : Int32)), .unset, .unset] [(.int (2 : Int32)), (.ref aS)])) _
    refine XS.iload X4.here hx rfl (hb hby d7_26) rfl ?_
    show Steps p.tables e below (T4.setTop (mkF m 28 #[.val (.ref a1), .val (.double d2), .second, .val (.double (FP.dmul d2 (FP.l2d (own_t M 1)))), .second, .val (.int (1 : Int32)), .unset, .unset] [(.int (1 : Int32)), (.int (2 : Int32)), (.ref aS)])) _
    refine XS.imul X4.here hx rfl (hb hby d7_28) rfl ?_
    show Steps p.tables e below (T4.setTop (mkF m 29 #[.val (.ref a1), .val (.double d2), .second, .val (.double (FP.dmul d2 (FP.l2d (own_t M 1)))), .second, .val (.int (1 : Int32)), .unset, .unset] [(.int (2 : Int32)), (.ref aS)])) _
    refine X4.daload hx (j := (2 : Int32)) (v := (.double (FP.l2d (own_t M 2)))) (by rw [e4]; exact Ar5.1) (State.isArrayOf_alike hZ.alike Ar5.2.1) Ar5.2.2 hin5 hat5 (g := (mkF m 29 #[.val (.ref a1), .val (.double d2), .second, .val (.double (FP.dmul d2 (FP.l2d (own_t M 1)))), .second, .val (.int (1 : Int32)), .unset, .unset] [(.int (2 : Int32)), (.ref aS)])) rfl rfl (hb hby d7_29) _ ?_
    show Steps p.tables e below (T4.setTop (mkF m 30 #[.val (.ref a1), .val (.double d2), .second, .val (.double (FP.dmul d2 (FP.l2d (own_t M 1)))), .second, .val (.int (1 : Int32)), .unset, .unset] [(.double (FP.l2d (own_t M 2)))])) _
    refine XS.dstore X4.here hx rfl (hb hby d7_30) rfl (l' := #[.val (.ref a1), .val (.double d2), .second, .val (.double (FP.dmul d2 (FP.l2d (own_t M 1)))), .second, .val (.int (1 : Int32)), .val (.double (FP.l2d (own_t M 2))), .second]) rfl ?_
    show Steps p.tables e below (T4.setTop (mkF m 32 #[.val (.ref a1), .val (.double d2), .second, .val (.double (FP.dmul d2 (FP.l2d (own_t M 1)))), .second, .val (.int (1 : Int32)), .val (.double (FP.l2d (own_t M 2))), .second] [])) _
    refine XS.dloadN X4.here hx rfl (hb hby d7_32) rfl ?_
    show Steps p.tables e below (T4.setTop (mkF m 33 #[.val (.ref a1), .val (.double d2), .second, .val (.double (FP.dmul d2 (FP.l2d (own_t M 1)))), .second, .val (.int (1 : Int32)), .val (.double (FP.l2d (own_t M 2))), .second] [(.double (FP.dmul d2 (FP.l2d (own_t M 1))))])) _
    refine XS.dload X4.here hx rfl (hb hby d7_33) rfl ?_
    show Steps p.tables e below (T4.setTop (mkF m 35 #[.val (.ref a1), .val (.double d2), .second, .val (.double (FP.dmul d2 (FP.l2d (own_t M 1)))), .second, .val (.int (1 : Int32)), .val (.double (FP.l2d (own_t M 2))), .second] [(.double (FP.l2d (own_t M 2))), (.double (FP.dmul d2 (FP.l2d (own_t M 1))))])) _
    refine XS.dcmpS X4.here hx rfl (hb hby d7_35) rfl rfl ?_
    exact k
  by_cases hc36_7 : (cmpValue (FP.dcmp (FP.dmul d2 (FP.l2d (own_t M 1))) (FP.l2d (own_t M 2))) .g) < (0 : Int32)
  · obtain ⟨T8, X8, e8, st8⟩ := getF X4 hx hZ hown (host := "") (Or.inl (hw _ (List.mem_of_getElem? (i := 24) rfl))) Via.refl e4 F_leaves (g := (mkF m 15 #[.val (.ref a1), .val (.double d2), .second, .val (.double (FP.dmul d2 (FP.l2d (own_t M 1)))), .second, .val (.int (2 : Int32)), .val (.double (FP.l2d (own_t M 2))), .second] [(.ref a1), (.int (2 : Int32))])) rfl rfl (hb hby d7_15)
    obtain ⟨T9, X9, e9, st9⟩ := getF X8 hx hZ hown (host := "") (Or.inl (hw _ (List.mem_of_getElem? (i := 26) rfl))) Via.refl e8 F_sums (g := (mkF m 22 #[.val (.ref a1), .val (.double d2), .second, .val (.double (FP.dmul d2 (FP.l2d (own_t M 1)))), .second, .val (.int (2 : Int32)), .val (.double (FP.l2d (own_t M 2))), .second] [(.ref a1)])) rfl rfl (hb hby d7_22)
    obtain ⟨cl10, Ar10, S10, H10⟩ := id Vs
    have hin10 : ¬ ((4 : Int32) < 0 ∨ cl10.slots.size ≤ ((4 : Int32)).toNatClampNeg) := inA S10 (by decide) (by decide)
    have hat10 : cl10.slots[((4 : Int32)).toNatClampNeg]? = some (.double (FP.l2d (own_t M 4))) := ArF.at S10 H10 hin10 rfl
    have pre11 : ∀ t, Steps p.tables e below (T9.setTop (mkF m 36 #[.val (.ref a1), .val (.double d2), .second, .val (.double (FP.dmul d2 (FP.l2d (own_t M 1)))), .second, .val (.int (2 : Int32)), .val (.double (FP.l2d (own_t M 4))), .second] [(.int (cmpValue (FP.dcmp (FP.dmul d2 (FP.l2d (own_t M 1))) (FP.l2d (own_t M 4))) .g))])) t → Steps p.tables e below (s₁.setTop (entryFrame m #[(.ref a1), (.double d2)] 8)) t := by
      intro t k
      refine pre6 t ?_
      show Steps p.tables e below (T4.setTop (mkF m 36 #[.val (.ref a1), .val (.double d2), .second, .val (.double (FP.dmul d2 (FP.l2d (own_t M 1)))), .second, .val (.int (1 : Int32)), .val (.double (FP.l2d (own_t M 2))), .second] [(.int (cmpValue (FP.dcmp (FP.dmul d2 (FP.l2d (own_t M 1))) (FP.l2d (own_t M 2))) .g))])) _
      refine XS.ifYes X4.here hx rfl (pc0 := 36) (pc' := 55) rfl (hb hby d7_36) rfl ((if0 _ _).trans (tlt hc36_7).1) (by decide) (by decide) ?_
      show Steps p.tables e below (T4.setTop (mkF m 55 #[.val (.ref a1), .val (.double d2), .second, .val (.double (FP.dmul d2 (FP.l2d (own_t M 1)))), .second, .val (.int (1 : Int32)), .val (.double (FP.l2d (own_t M 2))), .second] [])) _
      refine XS.iconst X4.here hx rfl (hb hby d7_55) ?_
      show Steps p.tables e below (T4.setTop (mkF m 56 #[.val (.ref a1), .val (.double d2), .second, .val (.double (FP.dmul d2 (FP.l2d (own_t M 1)))), .second, .val (.int (1 : Int32)), .val (.double (FP.l2d (own_t M 2))), .second] [(.int (2 : Int32))])) _
      refine XS.iload X4.here hx rfl (hb hby d7_56) rfl ?_
      show Steps p.tables e below (T4.setTop (mkF m 58 #[.val (.ref a1), .val (.double d2), .second, .val (.double (FP.dmul d2 (FP.l2d (own_t M 1)))), .second, .val (.int (1 : Int32)), .val (.double (FP.l2d (own_t M 2))), .second] [(.int (1 : Int32)), (.int (2 : Int32))])) _
      refine XS.imul X4.here hx rfl (hb hby d7_58) rfl ?_
      show Steps p.tables e below (T4.setTop (mkF m 59 #[.val (.ref a1), .val (.double d2), .second, .val (.double (FP.dmul d2 (FP.l2d (own_t M 1)))), .second, .val (.int (1 : Int32)), .val (.double (FP.l2d (own_t M 2))), .second] [(.int (2 : Int32))])) _
      refine XS.istore X4.here hx rfl (hb hby d7_59) rfl (l' := #[.val (.ref a1), .val (.double d2), .second, .val (.double (FP.dmul d2 (FP.l2d (own_t M 1)))), .second, .val (.int (2 : Int32)), .val (.double (FP.l2d (own_t M 2))), .second]) rfl ?_
      show Steps p.tables e below (T4.setTop (mkF m 61 #[.val (.ref a1), .val (.double d2), .second, .val (.double (FP.dmul d2 (FP.l2d (own_t M 1)))), .second, .val (.int (2 : Int32)), .val (.double (FP.l2d (own_t M 2))), .second] [])) _
      refine XS.goto X4.here hx rfl (pc0 := 61) (pc' := 77) rfl (hb hby d7_61) (by decide) (by decide) ?_
      show Steps p.tables e below (T4.setTop (mkF m 77 #[.val (.ref a1), .val (.double d2), .second, .val (.double (FP.dmul d2 (FP.l2d (own_t M 1)))), .second, .val (.int (2 : Int32)), .val (.double (FP.l2d (own_t M 2))), .second] [])) _
      refine XS.goto X4.here hx rfl (pc0 := 77) (pc' := 12) rfl (hb hby d7_77) (by decide) (by decide) ?_
      show Steps p.tables e below (T4.setTop (mkF m 12 #[.val (.ref a1), .val (.double d2), .second, .val (.double (FP.dmul d2 (FP.l2d (own_t M 1)))), .second, .val (.int (2 : Int32)), .val (.double (FP.l2d (own_t M 2))), .second] [])) _
      refine XS.iload X4.here hx rfl (hb hby d7_12) rfl ?_
      show Steps p.tables e below (T4.setTop (mkF m 14 #[.val (.ref a1), .val (.double d2), .second, .val (.double (FP.dmul d2 (FP.l2d (own_t M 1)))), .second, .val (.int (2 : Int32)), .val (.double (FP.l2d (own_t M 2))), .second] [(.int (2 : Int32))])) _
      refine XS.aloadN X4.here hx rfl (hb hby d7_14) rfl rfl ?_
      show Steps p.tables e below (T4.setTop (mkF m 15 #[.val (.ref a1), .val (.double d2), .second, .val (.double (FP.dmul d2 (FP.l2d (own_t M 1)))), .second, .val (.int (2 : Int32)), .val (.double (FP.l2d (own_t M 2))), .second] [(.ref a1), (.int (2 : Int32))])) _
      refine st8 _ ?_
      show Steps p.tables e below (T8.setTop (mkF m 18 #[.val (.ref a1), .val (.double d2), .second, .val (.double (FP.dmul d2 (FP.l2d (own_t M 1)))), .second, .val (.int (2 : Int32)), .val (.double (FP.l2d (own_t M 2))), .second] [(.int (4 : Int32)), (.int (2 : Int32))])) _
      refine XS.icmpNo X8.here hx rfl (hb hby d7_18) rfl (tlt (by decide : ((2 : Int32) < (4 : Int32)))).2.1 ?_
      show Steps p.tables e below (T8.setTop (mkF m 21 #[.val (.ref a1), .val (.double d2), .second, .val (.double (FP.dmul d2 (FP.l2d (own_t M 1)))), .second, .val (.int (2 : Int32)), .val (.double (FP.l2d (own_t M 2))), .second] [])) _
      refine XS.aloadN X8.here hx rfl (hb hby d7_21) rfl rfl ?_
      show Steps p.tables e below (T8.setTop (mkF m 22 #[.val (.ref a1), .val (.double d2), .second, .val (.double (FP.dmul d2 (FP.l2d (own_t M 1)))), .second, .val (.int (2 : Int32)), .val (.double (FP.l2d (own_t M 2))), .second] [(.ref a1)])) _
      refine st9 _ ?_
      show Steps p.tables e below (T9.setTop (mkF m 25 #[.val (.ref a1), .val (.double d2), .second, .val (.double (FP.dmul d2 (FP.l2d (own_t M 1)))), .second, .val (.int (2 : Int32)), .val (.double (FP.l2d (own_t M 2))), .second] [(.ref aS)])) _
      refine XS.iconst X9.here hx rfl (hb hby d7_25) ?_
      show Steps p.tables e below (T9.setTop (mkF m 26 #[.val (.ref a1), .val (.double d2), .second, .val (.double (FP.dmul d2 (FP.l2d (own_t M 1)))), .second, .val (.int (2 : Int32)), .val (.double (FP.l2d (own_t M 2))), .second] [(.int (2 : Int32)), (.ref aS)])) _
      refine XS.iload X9.here hx rfl (hb hby d7_26) rfl ?_
      show Steps p.tables e below (T9.setTop (mkF m 28 #[.val (.ref a1), .val (.double d2), .second, .val (.double (FP.dmul d2 (FP.l2d (own_t M 1)))), .second, .val (.int (2 : Int32)), .val (.double (FP.l2d (own_t M 2))), .second] [(.int (2 : Int32)), (.int (2 : Int32)), (.ref aS)])) _
      refine XS.imul X9.here hx rfl (hb hby d7_28) rfl ?_
      show Steps p.tables e below (T9.setTop (mkF m 29 #[.val (.ref a1), .val (.double d2), .second, .val (.double (FP.dmul d2 (FP.l2d (own_t M 1)))), .second, .val (.int (2 : Int32)), .val (.double (FP.l2d (own_t M 2))), .second] [(.int (4 : Int32)), (.ref aS)])) _
      refine X9.daload hx (j := (4 : Int32)) (v := (.double (FP.l2d (own_t M 4)))) (by rw [e9]; exact Ar10.1) (State.isArrayOf_alike hZ.alike Ar10.2.1) Ar10.2.2 hin10 hat10 (g := (mkF m 29 #[.val (.ref a1), .val (.double d2), .second, .val (.double (FP.dmul d2 (FP.l2d (own_t M 1)))), .second, .val (.int (2 : Int32)), .val (.double (FP.l2d (own_t M 2))), .second] [(.int (4 : Int32)), (.ref aS)])) rfl rfl (hb hby d7_29) _ ?_
      show Steps p.tables e below (T9.setTop (mkF m 30 #[.val (.ref a1), .val (.double d2), .second, .val (.double (FP.dmul d2 (FP.l2d (own_t M 1)))), .second, .val (.int (2 : Int32)), .val (.double (FP.l2d (own_t M 2))), .second] [(.double (FP.l2d (own_t M 4)))])) _
      refine XS.dstore X9.here hx rfl (hb hby d7_30) rfl (l' := #[.val (.ref a1), .val (.double d2), .second, .val (.double (FP.dmul d2 (FP.l2d (own_t M 1)))), .second, .val (.int (2 : Int32)), .val (.double (FP.l2d (own_t M 4))), .second]) rfl ?_
      show Steps p.tables e below (T9.setTop (mkF m 32 #[.val (.ref a1), .val (.double d2), .second, .val (.double (FP.dmul d2 (FP.l2d (own_t M 1)))), .second, .val (.int (2 : Int32)), .val (.double (FP.l2d (own_t M 4))), .second] [])) _
      refine XS.dloadN X9.here hx rfl (hb hby d7_32) rfl ?_
      show Steps p.tables e below (T9.setTop (mkF m 33 #[.val (.ref a1), .val (.double d2), .second, .val (.double (FP.dmul d2 (FP.l2d (own_t M 1)))), .second, .val (.int (2 : Int32)), .val (.double (FP.l2d (own_t M 4))), .second] [(.double (FP.dmul d2 (FP.l2d (own_t M 1))))])) _
      refine XS.dload X9.here hx rfl (hb hby d7_33) rfl ?_
      show Steps p.tables e below (T9.setTop (mkF m 35 #[.val (.ref a1), .val (.double d2), .second, .val (.double (FP.dmul d2 (FP.l2d (own_t M 1)))), .second, .val (.int (2 : Int32)), .val (.double (FP.l2d (own_t M 4))), .second] [(.double (FP.l2d (own_t M 4))), (.double (FP.dmul d2 (FP.l2d (own_t M 1))))])) _
      refine XS.dcmpS X9.here hx rfl (hb hby d7_35) rfl rfl ?_
      exact k
    by_cases hc36_12 : (cmpValue (FP.dcmp (FP.dmul d2 (FP.l2d (own_t M 1))) (FP.l2d (own_t M 4))) .g) < (0 : Int32)
    · obtain ⟨T13, X13, e13, st13⟩ := getF X9 hx hZ hown (host := "") (Or.inl (hw _ (List.mem_of_getElem? (i := 24) rfl))) Via.refl e9 F_leaves (g := (mkF m 15 #[.val (.ref a1), .val (.double d2), .second, .val (.double (FP.dmul d2 (FP.l2d (own_t M 1)))), .second, .val (.int (4 : Int32)), .val (.double (FP.l2d (own_t M 4))), .second] [(.ref a1), (.int (4 : Int32))])) rfl rfl (hb hby d7_15)
      obtain ⟨T14, X14, e14, st14⟩ := getF X13 hx hZ hown (host := "") (Or.inl (hw _ (List.mem_of_getElem? (i := 45) rfl))) Via.refl e13 F_drawnCount (g := (mkF m 81 #[.val (.ref a1), .val (.double d2), .second, .val (.double (FP.dmul d2 (FP.l2d (own_t M 1)))), .second, .val (.int (4 : Int32)), .val (.double (FP.l2d (own_t M 4))), .second] [(.ref a1)])) rfl rfl (hb hby d7_81)
      obtain ⟨T15, X15, e15, st15⟩ := getF X14 hx hZ hown (host := "") (Or.inl (hw _ (List.mem_of_getElem? (i := 11) rfl))) Via.refl e14 F_drawn (g := (mkF m 85 #[.val (.ref a1), .val (.double d2), .second, .val (.double (FP.dmul d2 (FP.l2d (own_t M 1)))), .second, .val (.int (4 : Int32)), .val (.double (FP.l2d (own_t M 4))), .second] [(.ref a1), (.int cn)])) rfl rfl (hb hby d7_85)
      obtain ⟨cl16, Ar16, S16, H16⟩ := id Vd
      obtain ⟨T17, X17, e17, st17⟩ := getF X15 hx hZ hown (host := "") (Or.inl (hw _ (List.mem_of_getElem? (i := 11) rfl))) Via.refl e15 F_drawn (g := (mkF m 127 #[.val (.ref a1), .val (.double d2), .second, .val (.double (FP.dmul d2 (FP.l2d (own_t M 1)))), .second, .val (.int (4 : Int32)), .val (.double (FP.l2d (own_t M 4))), .second] [(.ref a1)])) rfl rfl (hb hby d7_127)
      obtain ⟨T18, X18, e18, st18⟩ := getF X17 hx hZ hown (host := "") (Or.inl (hw _ (List.mem_of_getElem? (i := 45) rfl))) Via.refl e17 F_drawnCount (g := (mkF m 131 #[.val (.ref a1), .val (.double d2), .second, .val (.double (FP.dmul d2 (FP.l2d (own_t M 1)))), .second, .val (.int (4 : Int32)), .val (.double (FP.l2d (own_t M 4))), .second] [(.ref a1), (.ref aD)])) rfl rfl (hb hby d7_131)
      obtain ⟨cl19, Ar19, S19, H19⟩ := id Vd
      have hin19 : ¬ (cn < 0 ∨ cl19.slots.size ≤ (cn).toNatClampNeg) := inA S19 hc.1 hc.2.1
      obtain ⟨T19, h19, X19, e19, W19, st19⟩ := stI X18 hx hZ e18 Ar19 (j := cn) hin19 (g := (mkF m 136 #[.val (.ref a1), .val (.double d2), .second, .val (.double (FP.dmul d2 (FP.l2d (own_t M 1)))), .second, .val (.int (4 : Int32)), .val (.double (FP.l2d (own_t M 4))), .second] [(.int (4 : Int32)), (.int cn), (.ref aD)])) rfl rfl (hb hby d7_136)
      have Ex_v19 := Ex.wr W19
      have F_leaves_v19 := F_leaves.other W19 (Or.inl n2)
      have F_sums_v19 := F_sums.other W19 (Or.inl n2)
      have F_drawn_v19 := F_drawn.other W19 (Or.inl n2)
      have F_drawnWeights_v19 := F_drawnWeights.other W19 (Or.inl n2)
      have F_drawnCount_v19 := F_drawnCount.other W19 (Or.inl n2)
      have Vs_v19 := Vs.other W19 n4
      have Ve_v19 := Ve.other W19 (Ne.symm n6)
      have Z19 : n0 ≤ h19.size := Nat.le_trans Z0 (Nat.le_of_eq W19.size.symm)
      have K19 := K0.wr W19 (Or.inl (by simp))
      have V19_v19 := ArF.set Ar19 S19 H19 W19 hin19
      have N19 := Fr.snoc X19 N0 gd
      have VN20_v20 : ArF Z h19 aD .int 64 (fun i => .int ((own_upN D cn (4 : Int32)) i)) := V19_v19.congr (fun i hi => own_upV D cn (4 : Int32) i)
      obtain ⟨T21, X21, e21, st21⟩ := getF X19 hx hZ hown (host := "") (Or.inl (hw _ (List.mem_of_getElem? (i := 13) rfl))) Via.refl e19 F_drawnWeights_v19 (g := (mkF m 138 #[.val (.ref a1), .val (.double d2), .second, .val (.double (FP.dmul d2 (FP.l2d (own_t M 1)))), .second, .val (.int (4 : Int32)), .val (.double (FP.l2d (own_t M 4))), .second] [(.ref a1)])) rfl rfl (hb hby d7_138)
      obtain ⟨T22, X22, e22, st22⟩ := getF X21 hx hZ hown (host := "") (Or.inl (hw _ (List.mem_of_getElem? (i := 45) rfl))) Via.refl e21 F_drawnCount_v19 (g := (mkF m 142 #[.val (.ref a1), .val (.double d2), .second, .val (.double (FP.dmul d2 (FP.l2d (own_t M 1)))), .second, .val (.int (4 : Int32)), .val (.double (FP.l2d (own_t M 4))), .second] [(.ref a1), (.ref aE)])) rfl rfl (hb hby d7_142)
      obtain ⟨T23, X23, e23, st23⟩ := getF X22 hx hZ hown (host := "") (Or.inl (hw _ (List.mem_of_getElem? (i := 26) rfl))) Via.refl e22 F_sums_v19 (g := (mkF m 146 #[.val (.ref a1), .val (.double d2), .second, .val (.double (FP.dmul d2 (FP.l2d (own_t M 1)))), .second, .val (.int (4 : Int32)), .val (.double (FP.l2d (own_t M 4))), .second] [(.ref a1), (.int cn), (.ref aE)])) rfl rfl (hb hby d7_146)
      obtain ⟨cl24, Ar24, S24, H24⟩ := id Vs_v19
      have hin24 : ¬ ((4 : Int32) < 0 ∨ cl24.slots.size ≤ ((4 : Int32)).toNatClampNeg) := inA S24 (by decide) (by decide)
      have hat24 : cl24.slots[((4 : Int32)).toNatClampNeg]? = some (.double (FP.l2d (own_t M 4))) := ArF.at S24 H24 hin24 rfl
      obtain ⟨cl25, Ar25, S25, H25⟩ := id Ve_v19
      have hin25 : ¬ (cn < 0 ∨ cl25.slots.size ≤ (cn).toNatClampNeg) := inA S25 hc.1 hc.2.1
      obtain ⟨T25, h25, X25, e25, W25, st25⟩ := stD X23 hx hZ e23 Ar25 (j := cn) hin25 (g := (mkF m 152 #[.val (.ref a1), .val (.double d2), .second, .val (.double (FP.dmul d2 (FP.l2d (own_t M 1)))), .second, .val (.int (4 : Int32)), .val (.double (FP.l2d (own_t M 4))), .second] [(.double (FP.l2d (own_t M 4))), (.int cn), (.ref aE)])) rfl rfl (hb hby d7_152)
      have Ex_v25 := Ex_v19.wr W25
      have F_leaves_v25 := F_leaves_v19.other W25 (Or.inl n3)
      have F_sums_v25 := F_sums_v19.other W25 (Or.inl n3)
      have F_drawn_v25 := F_drawn_v19.other W25 (Or.inl n3)
      have F_drawnWeights_v25 := F_drawnWeights_v19.other W25 (Or.inl n3)
      have F_drawnCount_v25 := F_drawnCount_v19.other W25 (Or.inl n3)
      have Vs_v25 := Vs_v19.other W25 n5
      have VN20_v25 := VN20_v20.other W25 n6
      have Z25 : n0 ≤ h25.size := Nat.le_trans Z19 (Nat.le_of_eq W25.size.symm)
      have K25 := K19.wr W25 (Or.inl (by simp))
      have V25_v25 := ArF.set Ar25 S25 H25 W25 hin25
      have N25 := Fr.snoc X25 N19 ge
      have VX26_v26 : ArF Z h25 aE .double 64 (fun i => .double (FP.l2d ((own_upX X cn (own_t M 4)) i))) := V25_v25.congr (fun i hi => own_upW X cn (own_t M 4) i)
      obtain ⟨T27, X27, e27, st27⟩ := getF X25 hx hZ hown (host := "") (Or.inl (hw _ (List.mem_of_getElem? (i := 45) rfl))) Via.refl e25 F_drawnCount_v25 (g := (mkF m 155 #[.val (.ref a1), .val (.double d2), .second, .val (.double (FP.dmul d2 (FP.l2d (own_t M 1)))), .second, .val (.int (4 : Int32)), .val (.double (FP.l2d (own_t M 4))), .second] [(.ref a1), (.ref a1)])) rfl rfl (hb hby d7_155)
      obtain ⟨T28, h28, X28, e28, W28, st28⟩ := putF X27 hx hZ hown (host := "") (Or.inl (hw _ (List.mem_of_getElem? (i := 45) rfl))) Via.refl e27 F_drawnCount_v25 Ex_v25 (Or.inl (hw _ (List.mem_of_getElem? (i := 46) rfl))) (hw _ (List.mem_of_getElem? (i := 2) rfl)) (ty := .int) (by decide) rfl rfl (g := (mkF m 160 #[.val (.ref a1), .val (.double d2), .second, .val (.double (FP.dmul d2 (FP.l2d (own_t M 1)))), .second, .val (.int (4 : Int32)), .val (.double (FP.l2d (own_t M 4))), .second] [(.int (cn + (1 : Int32))), (.ref a1)])) rfl rfl (hb hby d7_160)
      have Ex_v28 := Ex_v25.wr W28
      have F_leaves_v28 := F_leaves_v25.other W28 (Or.inr (slot_ne (Or.inr (hw _ (List.mem_of_getElem? (i := 25) rfl))) (Or.inl (hw _ (List.mem_of_getElem? (i := 46) rfl))) (by decide) (t := .int) (t' := .int) (by decide) (by decide)))
      have F_sums_v28 := F_sums_v25.other W28 (Or.inr (slot_ne (Or.inr (hw _ (List.mem_of_getElem? (i := 27) rfl))) (Or.inl (hw _ (List.mem_of_getElem? (i := 46) rfl))) (by decide) (t := (.array .double)) (t' := .int) (by decide) (by decide)))
      have F_drawn_v28 := F_drawn_v25.other W28 (Or.inr (slot_ne (Or.inl (hw _ (List.mem_of_getElem? (i := 12) rfl))) (Or.inl (hw _ (List.mem_of_getElem? (i := 46) rfl))) (by decide) (t := (.array .int)) (t' := .int) (by decide) (by decide)))
      have F_drawnWeights_v28 := F_drawnWeights_v25.other W28 (Or.inr (slot_ne (Or.inl (hw _ (List.mem_of_getElem? (i := 14) rfl))) (Or.inl (hw _ (List.mem_of_getElem? (i := 46) rfl))) (by decide) (t := (.array .double)) (t' := .int) (by decide) (by decide)))
      have Vs_v28 := Vs_v25.other W28 (Ne.symm n1)
      have VN20_v28 := VN20_v25.other W28 (Ne.symm n2)
      have VX26_v28 := VX26_v26.other W28 (Ne.symm n3)
      have Z28 : n0 ≤ h28.size := Nat.le_trans Z25 (Nat.le_of_eq W28.size.symm)
      have K28 := K25.wr W28 (Or.inl (by simp))
      have F28_v28 : Fld Z h28 a1 "com/example/velar/velar/WeightedDraws" "drawnCount" "I" (.int (cn + (1 : Int32))) := F_drawnCount_v25.same W28
      have N28 := Fr.snoc X28 N25 ga
      obtain ⟨cq29, qq29, qq29'⟩ := Ex_v28.cell
      obtain ⟨_, _, ⟨T29, L29, k29, n29⟩, -, X29, ⟨Lc29, hQ29, l29, y29, z29⟩, st29⟩ := X28.privateBack hx (y := (⟨"com/example/velar/velar/WeightedDraws", "set", "(ID)V"⟩ : MethodName)) hown (mvT hZ (hw _ (List.mem_of_getElem? (i := 47) rfl))) (mvT hZ (hw _ (List.mem_of_getElem? (i := 48) rfl))) (own_selp (mvT hZ (hw _ (List.mem_of_getElem? (i := 2) rfl))) (Cond.privateMethod_at (mvP hZ (hw _ (List.mem_of_getElem? (i := 49) rfl)) (args := #[]))) (mvT hZ (hw _ (List.mem_of_getElem? (i := 48) rfl))) (by decide)) (Cond.privateMethod_at (mvP hZ (hw _ (List.mem_of_getElem? (i := 49) rfl)) (args := #[]))) (mvT hZ (hw _ (List.mem_of_getElem? (i := 50) rfl))) (by decide) (backOf (W := 0) (rset l Z a0 hw [] a1 (4 : Int32) (0 : Int64) aS M h28 n0 Z28 F_sums_v28 Vs_v28 gs n1 hM own_L0 (by decide)) hZ (hw _ (List.mem_of_getElem? (i := 50) rfl)) (hw _ (List.mem_of_getElem? (i := 3) rfl)) (by decide) (by decide)) (g := (mkF m 167 #[.val (.ref a1), .val (.double d2), .second, .val (.double (FP.dmul d2 (FP.l2d (own_t M 1)))), .second, .val (.int (4 : Int32)), .val (.double (FP.l2d (own_t M 4))), .second] [(.double (FP.l2d 0)), (.int (4 : Int32)), (.ref a1)])) rfl (by rw [hml]; rfl) (Steps.refl _) (a := a1) (by rw [e28]; exact qq29) qq29' (argsL := [(.int (4 : Int32)), (.double (FP.l2d 0))]) (rest := []) (lenOf pd_1 rfl) rfl (by show 2 * 0 + _ ≤ _; exact Nat.le_of_eq rfl) (hb hby d7_167) (fun _ _ => ⟨rfl, e28, (by decide : 0 + 0 ≤ _), (by decide : 0 + 0 ≤ _)⟩)
      dsimp only [Pt.U, Pt.locs, Pt.cells, Pt.slots] at X29 l29 y29 z29 st29 hQ29
      subst l29 y29 z29
      obtain ⟨rfl, N29q, Kc29, nf29_v29⟩ := hQ29
      have N29 := Fr.app N28 N29q
      have Ex_v29 := Ex_v28.keep Kc29
      have F_leaves_v29 := F_leaves_v28.keep Kc29 (ninS n1 nin0)
      have F_sums_v29 := F_sums_v28.keep Kc29 (ninS n1 nin0)
      have F_drawn_v29 := F_drawn_v28.keep Kc29 (ninS n1 nin0)
      have F_drawnWeights_v29 := F_drawnWeights_v28.keep Kc29 (ninS n1 nin0)
      have VN20_v29 := VN20_v28.keep Kc29 (ninS (Ne.symm n4) nin0)
      have VX26_v29 := VX26_v28.keep Kc29 (ninS (Ne.symm n5) nin0)
      have F28_v29 := F28_v28.keep Kc29 (ninS n1 nin0)
      have Z29 : n0 ≤ T29.heap.size := Nat.le_trans Z28 Kc29.1
      have KK29 := K28.trans Kc29 (allS (Or.inl (by simp)) all0)
      obtain ⟨T30, X30, e30, st30⟩ := getF X29 hx hZ hown (host := "") (Or.inl (hw _ (List.mem_of_getElem? (i := 24) rfl))) Via.refl rfl F_leaves_v29 (g := (mkF m 173 #[.val (.ref a1), .val (.double d2), .second, .val (.double (FP.dmul d2 (FP.l2d (own_t M 1)))), .second, .val (.int (4 : Int32)), .val (.double (FP.l2d (own_t M 4))), .second] [(.ref a1), (.int (4 : Int32))])) rfl rfl (hb hby d7_173)
      obtain ⟨fs, hr, hrun, hended, hW, hsame⟩ := X30.leave (v := some (.int (0 : Int32))) (fun h => by rw [Bd.returns] at h; cases h)
      refine ⟨_, _, pre11 _ ?_, hrun, hended, _, _, rfl, ?_, ⟨_, rfl⟩, hW, hsame.mono (by decide) (by decide)⟩
      · show Steps p.tables e below (T9.setTop (mkF m 36 #[.val (.ref a1), .val (.double d2), .second, .val (.double (FP.dmul d2 (FP.l2d (own_t M 1)))), .second, .val (.int (2 : Int32)), .val (.double (FP.l2d (own_t M 4))), .second] [(.int (cmpValue (FP.dcmp (FP.dmul d2 (FP.l2d (own_t M 1))) (FP.l2d (own_t M 4))) .g))])) _
        refine XS.ifYes X9.here hx rfl (pc0 := 36) (pc' := 55) rfl (hb hby d7_36) rfl ((if0 _ _).trans (tlt hc36_12).1) (by decide) (by decide) ?_
        show Steps p.tables e below (T9.setTop (mkF m 55 #[.val (.ref a1), .val (.double d2), .second, .val (.double (FP.dmul d2 (FP.l2d (own_t M 1)))), .second, .val (.int (2 : Int32)), .val (.double (FP.l2d (own_t M 4))), .second] [])) _
        refine XS.iconst X9.here hx rfl (hb hby d7_55) ?_
        show Steps p.tables e below (T9.setTop (mkF m 56 #[.val (.ref a1), .val (.double d2), .second, .val (.double (FP.dmul d2 (FP.l2d (own_t M 1)))), .second, .val (.int (2 : Int32)), .val (.double (FP.l2d (own_t M 4))), .second] [(.int (2 : Int32))])) _
        refine XS.iload X9.here hx rfl (hb hby d7_56) rfl ?_
        show Steps p.tables e below (T9.setTop (mkF m 58 #[.val (.ref a1), .val (.double d2), .second, .val (.double (FP.dmul d2 (FP.l2d (own_t M 1)))), .second, .val (.int (2 : Int32)), .val (.double (FP.l2d (own_t M 4))), .second] [(.int (2 : Int32)), (.int (2 : Int32))])) _
        refine XS.imul X9.here hx rfl (hb hby d7_58) rfl ?_
        show Steps p.tables e below (T9.setTop (mkF m 59 #[.val (.ref a1), .val (.double d2), .second, .val (.double (FP.dmul d2 (FP.l2d (own_t M 1)))), .second, .val (.int (2 : Int32)), .val (.double (FP.l2d (own_t M 4))), .second] [(.int (4 : Int32))])) _
        refine XS.istore X9.here hx rfl (hb hby d7_59) rfl (l' := #[.val (.ref a1), .val (.double d2), .second, .val (.double (FP.dmul d2 (FP.l2d (own_t M 1)))), .second, .val (.int (4 : Int32)), .val (.double (FP.l2d (own_t M 4))), .second]) rfl ?_
        show Steps p.tables e below (T9.setTop (mkF m 61 #[.val (.ref a1), .val (.double d2), .second, .val (.double (FP.dmul d2 (FP.l2d (own_t M 1)))), .second, .val (.int (4 : Int32)), .val (.double (FP.l2d (own_t M 4))), .second] [])) _
        refine XS.goto X9.here hx rfl (pc0 := 61) (pc' := 77) rfl (hb hby d7_61) (by decide) (by decide) ?_
        show Steps p.tables e below (T9.setTop (mkF m 77 #[.val (.ref a1), .val (.double d2), .second, .val (.double (FP.dmul d2 (FP.l2d (own_t M 1)))), .second, .val (.int (4 : Int32)), .val (.double (FP.l2d (own_t M 4))), .second] [])) _
        refine XS.goto X9.here hx rfl (pc0 := 77) (pc' := 12) rfl (hb hby d7_77) (by decide) (by decide) ?_
        show Steps p.tables e below (T9.setTop (mkF m 12 #[.val (.ref a1), .val (.double d2), .second, .val (.double (FP.dmul d2 (FP.l2d (own_t M 1)))), .second, .val (.int (4 : Int32)), .val (.double (FP.l2d (own_t M 4))), .second] [])) _
        refine XS.iload X9.here hx rfl (hb hby d7_12) rfl ?_
        show Steps p.tables e below (T9.setTop (mkF m 14 #[.val (.ref a1), .val (.double d2), .second, .val (.double (FP.dmul d2 (FP.l2d (own_t M 1)))), .second, .val (.int (4 : Int32)), .val (.double (FP.l2d (own_t M 4))), .second] [(.int (4 : Int32))])) _
        refine XS.aloadN X9.here hx rfl (hb hby d7_14) rfl rfl ?_
        show Steps p.tables e below (T9.setTop (mkF m 15 #[.val (.ref a1), .val (.double d2), .second, .val (.double (FP.dmul d2 (FP.l2d (own_t M 1)))), .second, .val (.int (4 : Int32)), .val (.double (FP.l2d (own_t M 4))), .second] [(.ref a1), (.int (4 : Int32))])) _
        refine st13 _ ?_
        show Steps p.tables e below (T13.setTop (mkF m 18 #[.val (.ref a1), .val (.double d2), .second, .val (.double (FP.dmul d2 (FP.l2d (own_t M 1)))), .second, .val (.int (4 : Int32)), .val (.double (FP.l2d (own_t M 4))), .second] [(.int (4 : Int32)), (.int (4 : Int32))])) _
        refine XS.icmpYes X13.here hx rfl (pc0 := 18) (pc' := 80) rfl (hb hby d7_18) rfl (flt (by decide : ¬ ((4 : Int32) < (4 : Int32)))).2.1 (by decide) (by decide) ?_
        show Steps p.tables e below (T13.setTop (mkF m 80 #[.val (.ref a1), .val (.double d2), .second, .val (.double (FP.dmul d2 (FP.l2d (own_t M 1)))), .second, .val (.int (4 : Int32)), .val (.double (FP.l2d (own_t M 4))), .second] [])) _
        refine XS.aloadN X13.here hx rfl (hb hby d7_80) rfl rfl ?_
        show Steps p.tables e below (T13.setTop (mkF m 81 #[.val (.ref a1), .val (.double d2), .second, .val (.double (FP.dmul d2 (FP.l2d (own_t M 1)))), .second, .val (.int (4 : Int32)), .val (.double (FP.l2d (own_t M 4))), .second] [(.ref a1)])) _
        refine st14 _ ?_
        show Steps p.tables e below (T14.setTop (mkF m 84 #[.val (.ref a1), .val (.double d2), .second, .val (.double (FP.dmul d2 (FP.l2d (own_t M 1)))), .second, .val (.int (4 : Int32)), .val (.double (FP.l2d (own_t M 4))), .second] [(.int cn)])) _
        refine XS.aloadN X14.here hx rfl (hb hby d7_84) rfl rfl ?_
        show Steps p.tables e below (T14.setTop (mkF m 85 #[.val (.ref a1), .val (.double d2), .second, .val (.double (FP.dmul d2 (FP.l2d (own_t M 1)))), .second, .val (.int (4 : Int32)), .val (.double (FP.l2d (own_t M 4))), .second] [(.ref a1), (.int cn)])) _
        refine st15 _ ?_
        show Steps p.tables e below (T15.setTop (mkF m 88 #[.val (.ref a1), .val (.double d2), .second, .val (.double (FP.dmul d2 (FP.l2d (own_t M 1)))), .second, .val (.int (4 : Int32)), .val (.double (FP.l2d (own_t M 4))), .second] [(.ref aD), (.int cn)])) _
        refine X15.arraylength hx (by rw [e15]; exact Ar16.1) (State.isArrayOf_alike hZ.alike Ar16.2.1) (g := (mkF m 88 #[.val (.ref a1), .val (.double d2), .second, .val (.double (FP.dmul d2 (FP.l2d (own_t M 1)))), .second, .val (.int (4 : Int32)), .val (.double (FP.l2d (own_t M 4))), .second] [(.ref aD), (.int cn)])) rfl rfl (hb hby d7_88) _ ?_
        rw [show cl16.slots.size.toInt32 = (64 : Int32) from by rw [S16]; rfl]
        show Steps p.tables e below (T15.setTop (mkF m 89 #[.val (.ref a1), .val (.double d2), .second, .val (.double (FP.dmul d2 (FP.l2d (own_t M 1)))), .second, .val (.int (4 : Int32)), .val (.double (FP.l2d (own_t M 4))), .second] [(.int (64 : Int32)), (.int cn)])) _
        refine XS.icmpYes X15.here hx rfl (pc0 := 89) (pc' := 126) rfl (hb hby d7_89) rfl (feq (hc.2.2 : ¬ (cn = (64 : Int32)))).2 (by decide) (by decide) ?_
        show Steps p.tables e below (T15.setTop (mkF m 126 #[.val (.ref a1), .val (.double d2), .second, .val (.double (FP.dmul d2 (FP.l2d (own_t M 1)))), .second, .val (.int (4 : Int32)), .val (.double (FP.l2d (own_t M 4))), .second] [])) _
        refine XS.aloadN X15.here hx rfl (hb hby d7_126) rfl rfl ?_
        show Steps p.tables e below (T15.setTop (mkF m 127 #[.val (.ref a1), .val (.double d2), .second, .val (.double (FP.dmul d2 (FP.l2d (own_t M 1)))), .second, .val (.int (4 : Int32)), .val (.double (FP.l2d (own_t M 4))), .second] [(.ref a1)])) _
        refine st17 _ ?_
        show Steps p.tables e below (T17.setTop (mkF m 130 #[.val (.ref a1), .val (.double d2), .second, .val (.double (FP.dmul d2 (FP.l2d (own_t M 1)))), .second, .val (.int (4 : Int32)), .val (.double (FP.l2d (own_t M 4))), .second] [(.ref aD)])) _
        refine XS.aloadN X17.here hx rfl (hb hby d7_130) rfl rfl ?_
        show Steps p.tables e below (T17.setTop (mkF m 131 #[.val (.ref a1), .val (.double d2), .second, .val (.double (FP.dmul d2 (FP.l2d (own_t M 1)))), .second, .val (.int (4 : Int32)), .val (.double (FP.l2d (own_t M 4))), .second] [(.ref a1), (.ref aD)])) _
        refine st18 _ ?_
        show Steps p.tables e below (T18.setTop (mkF m 134 #[.val (.ref a1), .val (.double d2), .second, .val (.double (FP.dmul d2 (FP.l2d (own_t M 1)))), .second, .val (.int (4 : Int32)), .val (.double (FP.l2d (own_t M 4))), .second] [(.int cn), (.ref aD)])) _
        refine XS.iload X18.here hx rfl (hb hby d7_134) rfl ?_
        show Steps p.tables e below (T18.setTop (mkF m 136 #[.val (.ref a1), .val (.double d2), .second, .val (.double (FP.dmul d2 (FP.l2d (own_t M 1)))), .second, .val (.int (4 : Int32)), .val (.double (FP.l2d (own_t M 4))), .second] [(.int (4 : Int32)), (.int cn), (.ref aD)])) _
        refine st19 _ ?_
        show Steps p.tables e below (T19.setTop (mkF m 137 #[.val (.ref a1), .val (.double d2), .second, .val (.double (FP.dmul d2 (FP.l2d (own_t M 1)))), .second, .val (.int (4 : Int32)), .val (.double (FP.l2d (own_t M 4))), .second] [])) _
        refine XS.aloadN X19.here hx rfl (hb hby d7_137) rfl rfl ?_
        show Steps p.tables e below (T19.setTop (mkF m 138 #[.val (.ref a1), .val (.double d2), .second, .val (.double (FP.dmul d2 (FP.l2d (own_t M 1)))), .second, .val (.int (4 : Int32)), .val (.double (FP.l2d (own_t M 4))), .second] [(.ref a1)])) _
        refine st21 _ ?_
        show Steps p.tables e below (T21.setTop (mkF m 141 #[.val (.ref a1), .val (.double d2), .second, .val (.double (FP.dmul d2 (FP.l2d (own_t M 1)))), .second, .val (.int (4 : Int32)), .val (.double (FP.l2d (own_t M 4))), .second] [(.ref aE)])) _
        refine XS.aloadN X21.here hx rfl (hb hby d7_141) rfl rfl ?_
        show Steps p.tables e below (T21.setTop (mkF m 142 #[.val (.ref a1), .val (.double d2), .second, .val (.double (FP.dmul d2 (FP.l2d (own_t M 1)))), .second, .val (.int (4 : Int32)), .val (.double (FP.l2d (own_t M 4))), .second] [(.ref a1), (.ref aE)])) _
        refine st22 _ ?_
        show Steps p.tables e below (T22.setTop (mkF m 145 #[.val (.ref a1), .val (.double d2), .second, .val (.double (FP.dmul d2 (FP.l2d (own_t M 1)))), .second, .val (.int (4 : Int32)), .val (.double (FP.l2d (own_t M 4))), .second] [(.int cn), (.ref aE)])) _
        refine XS.aloadN X22.here hx rfl (hb hby d7_145) rfl rfl ?_
        show Steps p.tables e below (T22.setTop (mkF m 146 #[.val (.ref a1), .val (.double d2), .second, .val (.double (FP.dmul d2 (FP.l2d (own_t M 1)))), .second, .val (.int (4 : Int32)), .val (.double (FP.l2d (own_t M 4))), .second] [(.ref a1), (.int cn), (.ref aE)])) _
        refine st23 _ ?_
        show Steps p.tables e below (T23.setTop (mkF m 149 #[.val (.ref a1), .val (.double d2), .second, .val (.double (FP.dmul d2 (FP.l2d (own_t M 1)))), .second, .val (.int (4 : Int32)), .val (.double (FP.l2d (own_t M 4))), .second] [(.ref aS), (.int cn), (.ref aE)])) _
        refine XS.iload X23.here hx rfl (hb hby d7_149) rfl ?_
        show Steps p.tables e below (T23.setTop (mkF m 151 #[.val (.ref a1), .val (.double d2), .second, .val (.double (FP.dmul d2 (FP.l2d (own_t M 1)))), .second, .val (.int (4 : Int32)), .val (.double (FP.l2d (own_t M 4))), .second] [(.int (4 : Int32)), (.ref aS), (.int cn), (.ref aE)])) _
        refine X23.daload hx (j := (4 : Int32)) (v := (.double (FP.l2d (own_t M 4)))) (by rw [e23]; exact Ar24.1) (State.isArrayOf_alike hZ.alike Ar24.2.1) Ar24.2.2 hin24 hat24 (g := (mkF m 151 #[.val (.ref a1), .val (.double d2), .second, .val (.double (FP.dmul d2 (FP.l2d (own_t M 1)))), .second, .val (.int (4 : Int32)), .val (.double (FP.l2d (own_t M 4))), .second] [(.int (4 : Int32)), (.ref aS), (.int cn), (.ref aE)])) rfl rfl (hb hby d7_151) _ ?_
        show Steps p.tables e below (T23.setTop (mkF m 152 #[.val (.ref a1), .val (.double d2), .second, .val (.double (FP.dmul d2 (FP.l2d (own_t M 1)))), .second, .val (.int (4 : Int32)), .val (.double (FP.l2d (own_t M 4))), .second] [(.double (FP.l2d (own_t M 4))), (.int cn), (.ref aE)])) _
        refine st25 _ ?_
        show Steps p.tables e below (T25.setTop (mkF m 153 #[.val (.ref a1), .val (.double d2), .second, .val (.double (FP.dmul d2 (FP.l2d (own_t M 1)))), .second, .val (.int (4 : Int32)), .val (.double (FP.l2d (own_t M 4))), .second] [])) _
        refine XS.aloadN X25.here hx rfl (hb hby d7_153) rfl rfl ?_
        show Steps p.tables e below (T25.setTop (mkF m 154 #[.val (.ref a1), .val (.double d2), .second, .val (.double (FP.dmul d2 (FP.l2d (own_t M 1)))), .second, .val (.int (4 : Int32)), .val (.double (FP.l2d (own_t M 4))), .second] [(.ref a1)])) _
        refine XS.dup X25.here hx rfl (hb hby d7_154) rfl rfl ?_
        show Steps p.tables e below (T25.setTop (mkF m 155 #[.val (.ref a1), .val (.double d2), .second, .val (.double (FP.dmul d2 (FP.l2d (own_t M 1)))), .second, .val (.int (4 : Int32)), .val (.double (FP.l2d (own_t M 4))), .second] [(.ref a1), (.ref a1)])) _
        refine st27 _ ?_
        show Steps p.tables e below (T27.setTop (mkF m 158 #[.val (.ref a1), .val (.double d2), .second, .val (.double (FP.dmul d2 (FP.l2d (own_t M 1)))), .second, .val (.int (4 : Int32)), .val (.double (FP.l2d (own_t M 4))), .second] [(.int cn), (.ref a1)])) _
        refine XS.iconst X27.here hx rfl (hb hby d7_158) ?_
        show Steps p.tables e below (T27.setTop (mkF m 159 #[.val (.ref a1), .val (.double d2), .second, .val (.double (FP.dmul d2 (FP.l2d (own_t M 1)))), .second, .val (.int (4 : Int32)), .val (.double (FP.l2d (own_t M 4))), .second] [(.int (1 : Int32)), (.int cn), (.ref a1)])) _
        refine XS.iadd X27.here hx rfl (hb hby d7_159) rfl ?_
        show Steps p.tables e below (T27.setTop (mkF m 160 #[.val (.ref a1), .val (.double d2), .second, .val (.double (FP.dmul d2 (FP.l2d (own_t M 1)))), .second, .val (.int (4 : Int32)), .val (.double (FP.l2d (own_t M 4))), .second] [(.int (cn + (1 : Int32))), (.ref a1)])) _
        refine st28 _ ?_
        show Steps p.tables e below (T28.setTop (mkF m 163 #[.val (.ref a1), .val (.double d2), .second, .val (.double (FP.dmul d2 (FP.l2d (own_t M 1)))), .second, .val (.int (4 : Int32)), .val (.double (FP.l2d (own_t M 4))), .second] [])) _
        refine XS.aloadN X28.here hx rfl (hb hby d7_163) rfl rfl ?_
        show Steps p.tables e below (T28.setTop (mkF m 164 #[.val (.ref a1), .val (.double d2), .second, .val (.double (FP.dmul d2 (FP.l2d (own_t M 1)))), .second, .val (.int (4 : Int32)), .val (.double (FP.l2d (own_t M 4))), .second] [(.ref a1)])) _
        refine XS.iload X28.here hx rfl (hb hby d7_164) rfl ?_
        show Steps p.tables e below (T28.setTop (mkF m 166 #[.val (.ref a1), .val (.double d2), .second, .val (.double (FP.dmul d2 (FP.l2d (own_t M 1)))), .second, .val (.int (4 : Int32)), .val (.double (FP.l2d (own_t M 4))), .second] [(.int (4 : Int32)), (.ref a1)])) _
        refine XS.dconst0 X28.here hx rfl (hb hby d7_166) (v := (FP.l2d 0)) (by decide +kernel) ?_
        show Steps p.tables e below (T28.setTop (mkF m 167 #[.val (.ref a1), .val (.double d2), .second, .val (.double (FP.dmul d2 (FP.l2d (own_t M 1)))), .second, .val (.int (4 : Int32)), .val (.double (FP.l2d (own_t M 4))), .second] [(.double (FP.l2d 0)), (.int (4 : Int32)), (.ref a1)])) _
        refine st29.trans ?_
        show Steps p.tables e below (T29.setTop (mkF m 170 #[.val (.ref a1), .val (.double d2), .second, .val (.double (FP.dmul d2 (FP.l2d (own_t M 1)))), .second, .val (.int (4 : Int32)), .val (.double (FP.l2d (own_t M 4))), .second] [])) _
        refine XS.iload X29.here hx rfl (hb hby d7_170) rfl ?_
        show Steps p.tables e below (T29.setTop (mkF m 172 #[.val (.ref a1), .val (.double d2), .second, .val (.double (FP.dmul d2 (FP.l2d (own_t M 1)))), .second, .val (.int (4 : Int32)), .val (.double (FP.l2d (own_t M 4))), .second] [(.int (4 : Int32))])) _
        refine XS.aloadN X29.here hx rfl (hb hby d7_172) rfl rfl ?_
        show Steps p.tables e below (T29.setTop (mkF m 173 #[.val (.ref a1), .val (.double d2), .second, .val (.double (FP.dmul d2 (FP.l2d (own_t M 1)))), .second, .val (.int (4 : Int32)), .val (.double (FP.l2d (own_t M 4))), .second] [(.ref a1), (.int (4 : Int32))])) _
        refine st30 _ ?_
        show Steps p.tables e below (T30.setTop (mkF m 176 #[.val (.ref a1), .val (.double d2), .second, .val (.double (FP.dmul d2 (FP.l2d (own_t M 1)))), .second, .val (.int (4 : Int32)), .val (.double (FP.l2d (own_t M 4))), .second] [(.int (4 : Int32)), (.int (4 : Int32))])) _
        refine XS.isub X30.here hx rfl (hb hby d7_176) rfl ?_
        show Steps p.tables e below (T30.setTop (mkF m 177 #[.val (.ref a1), .val (.double d2), .second, .val (.double (FP.dmul d2 (FP.l2d (own_t M 1)))), .second, .val (.int (4 : Int32)), .val (.double (FP.l2d (own_t M 4))), .second] [(.int (0 : Int32))])) _
        exact retI X30 hx Bd.returns (hb hby d7_177) hr
      · show Q_rdr Z a1 d2 aS aD aE cn M D X h0 n0 _ T30.heap _
        rw [e30]
        have hpk : own_pick M d2 = (4 : Int32) := by rw [own_pick, if_pos hc36_7, own_n2, if_pos hc36_12]
        exact (by rw [Q_rdr, hpk]; exact ⟨rfl, N29, KK29, F_leaves_v29, F_sums_v29, F_drawn_v29, F_drawnWeights_v29, F28_v29, nf29_v29, VN20_v29, VX26_v29⟩)
    · obtain ⟨T31, X31, e31, st31⟩ := getF X9 hx hZ hown (host := "") (Or.inl (hw _ (List.mem_of_getElem? (i := 26) rfl))) Via.refl e9 F_sums (g := (mkF m 40 #[.val (.ref a1), .val (.double d2), .second, .val (.double (FP.dmul d2 (FP.l2d (own_t M 1)))), .second, .val (.int (2 : Int32)), .val (.double (FP.l2d (own_t M 4))), .second] [(.ref a1)])) rfl rfl (hb hby d7_40)
      obtain ⟨cl32, Ar32, S32, H32⟩ := id Vs
      have hin32 : ¬ ((5 : Int32) < 0 ∨ cl32.slots.size ≤ ((5 : Int32)).toNatClampNeg) := inA S32 (by decide) (by decide)
      have hat32 : cl32.slots[((5 : Int32)).toNatClampNeg]? = some (.double (FP.l2d (own_t M 5))) := ArF.at S32 H32 hin32 rfl
      have pre33 : ∀ t, Steps p.tables e below (T31.setTop (mkF m 52 #[.val (.ref a1), .val (.double d2), .second, .val (.double (FP.dmul d2 (FP.l2d (own_t M 1)))), .second, .val (.int (2 : Int32)), .val (.double (FP.l2d (own_t M 4))), .second] [(.int (cmpValue (FP.dcmp (FP.l2d (own_t M 5)) (FP.l2d 0)) .l))])) t → Steps p.tables e below (s₁.setTop (entryFrame m #[(.ref a1), (.double d2)] 8)) t := by
        intro t k
        refine pre11 t ?_
        show Steps p.tables e below (T9.setTop (mkF m 36 #[.val (.ref a1), .val (.double d2), .second, .val (.double (FP.dmul d2 (FP.l2d (own_t M 1)))), .second, .val (.int (2 : Int32)), .val (.double (FP.l2d (own_t M 4))), .second] [(.int (cmpValue (FP.dcmp (FP.dmul d2 (FP.l2d (own_t M 1))) (FP.l2d (own_t M 4))) .g))])) _
        refine XS.ifNo X9.here hx rfl (hb hby d7_36) rfl ((if0 _ _).trans (flt hc36_12).1) ?_
        show Steps p.tables e below (T9.setTop (mkF m 39 #[.val (.ref a1), .val (.double d2), .second, .val (.double (FP.dmul d2 (FP.l2d (own_t M 1)))), .second, .val (.int (2 : Int32)), .val (.double (FP.l2d (own_t M 4))), .second] [])) _
        refine XS.aloadN X9.here hx rfl (hb hby d7_39) rfl rfl ?_
        show Steps p.tables e below (T9.setTop (mkF m 40 #[.val (.ref a1), .val (.double d2), .second, .val (.double (FP.dmul d2 (FP.l2d (own_t M 1)))), .second, .val (.int (2 : Int32)), .val (.double (FP.l2d (own_t M 4))), .second] [(.ref a1)])) _
        refine st31 _ ?_
        show Steps p.tables e below (T31.setTop (mkF m 43 #[.val (.ref a1), .val (.double d2), .second, .val (.double (FP.dmul d2 (FP.l2d (own_t M 1)))), .second, .val (.int (2 : Int32)), .val (.double (FP.l2d (own_t M 4))), .second] [(.ref aS)])) _
        refine XS.iconst X31.here hx rfl (hb hby d7_43) ?_
        show Steps p.tables e below (T31.setTop (mkF m 44 #[.val (.ref a1), .val (.double d2), .second, .val (.double (FP.dmul d2 (FP.l2d (own_t M 1)))), .second, .val (.int (2 : Int32)), .val (.double (FP.l2d (own_t M 4))), .second] [(.int (2 : Int32)), (.ref aS)])) _
        refine XS.iload X31.here hx rfl (hb hby d7_44) rfl ?_
        show Steps p.tables e below (T31.setTop (mkF m 46 #[.val (.ref a1), .val (.double d2), .second, .val (.double (FP.dmul d2 (FP.l2d (own_t M 1)))), .second, .val (.int (2 : Int32)), .val (.double (FP.l2d (own_t M 4))), .second] [(.int (2 : Int32)), (.int (2 : Int32)), (.ref aS)])) _
        refine XS.imul X31.here hx rfl (hb hby d7_46) rfl ?_
        show Steps p.tables e below (T31.setTop (mkF m 47 #[.val (.ref a1), .val (.double d2), .second, .val (.double (FP.dmul d2 (FP.l2d (own_t M 1)))), .second, .val (.int (2 : Int32)), .val (.double (FP.l2d (own_t M 4))), .second] [(.int (4 : Int32)), (.ref aS)])) _
        refine XS.iconst X31.here hx rfl (hb hby d7_47) ?_
        show Steps p.tables e below (T31.setTop (mkF m 48 #[.val (.ref a1), .val (.double d2), .second, .val (.double (FP.dmul d2 (FP.l2d (own_t M 1)))), .second, .val (.int (2 : Int32)), .val (.double (FP.l2d (own_t M 4))), .second] [(.int (1 : Int32)), (.int (4 : Int32)), (.ref aS)])) _
        refine XS.iadd X31.here hx rfl (hb hby d7_48) rfl ?_
        show Steps p.tables e below (T31.setTop (mkF m 49 #[.val (.ref a1), .val (.double d2), .second, .val (.double (FP.dmul d2 (FP.l2d (own_t M 1)))), .second, .val (.int (2 : Int32)), .val (.double (FP.l2d (own_t M 4))), .second] [(.int (5 : Int32)), (.ref aS)])) _
        refine X31.daload hx (j := (5 : Int32)) (v := (.double (FP.l2d (own_t M 5)))) (by rw [e31]; exact Ar32.1) (State.isArrayOf_alike hZ.alike Ar32.2.1) Ar32.2.2 hin32 hat32 (g := (mkF m 49 #[.val (.ref a1), .val (.double d2), .second, .val (.double (FP.dmul d2 (FP.l2d (own_t M 1)))), .second, .val (.int (2 : Int32)), .val (.double (FP.l2d (own_t M 4))), .second] [(.int (5 : Int32)), (.ref aS)])) rfl rfl (hb hby d7_49) _ ?_
        show Steps p.tables e below (T31.setTop (mkF m 50 #[.val (.ref a1), .val (.double d2), .second, .val (.double (FP.dmul d2 (FP.l2d (own_t M 1)))), .second, .val (.int (2 : Int32)), .val (.double (FP.l2d (own_t M 4))), .second] [(.double (FP.l2d (own_t M 5)))])) _
        refine XS.dconst0 X31.here hx rfl (hb hby d7_50) (v := (FP.l2d 0)) (by decide +kernel) ?_
        show Steps p.tables e below (T31.setTop (mkF m 51 #[.val (.ref a1), .val (.double d2), .second, .val (.double (FP.dmul d2 (FP.l2d (own_t M 1)))), .second, .val (.int (2 : Int32)), .val (.double (FP.l2d (own_t M 4))), .second] [(.double (FP.l2d 0)), (.double (FP.l2d (own_t M 5)))])) _
        refine XS.dcmpS X31.here hx rfl (hb hby d7_51) rfl rfl ?_
        exact k
      by_cases hc52_34 : (cmpValue (FP.dcmp (FP.l2d (own_t M 5)) (FP.l2d 0)) .l) = (0 : Int32)
      · obtain ⟨T35, X35, e35, st35⟩ := getF X31 hx hZ hown (host := "") (Or.inl (hw _ (List.mem_of_getElem? (i := 24) rfl))) Via.refl e31 F_leaves (g := (mkF m 15 #[.val (.ref a1), .val (.double d2), .second, .val (.double (FP.dmul d2 (FP.l2d (own_t M 1)))), .second, .val (.int (4 : Int32)), .val (.double (FP.l2d (own_t M 4))), .second] [(.ref a1), (.int (4 : Int32))])) rfl rfl (hb hby d7_15)
        obtain ⟨T36, X36, e36, st36⟩ := getF X35 hx hZ hown (host := "") (Or.inl (hw _ (List.mem_of_getElem? (i := 45) rfl))) Via.refl e35 F_drawnCount (g := (mkF m 81 #[.val (.ref a1), .val (.double d2), .second, .val (.double (FP.dmul d2 (FP.l2d (own_t M 1)))), .second, .val (.int (4 : Int32)), .val (.double (FP.l2d (own_t M 4))), .second] [(.ref a1)])) rfl rfl (hb hby d7_81)
        obtain ⟨T37, X37, e37, st37⟩ := getF X36 hx hZ hown (host := "") (Or.inl (hw _ (List.mem_of_getElem? (i := 11) rfl))) Via.refl e36 F_drawn (g := (mkF m 85 #[.val (.ref a1), .val (.double d2), .second, .val (.double (FP.dmul d2 (FP.l2d (own_t M 1)))), .second, .val (.int (4 : Int32)), .val (.double (FP.l2d (own_t M 4))), .second] [(.ref a1), (.int cn)])) rfl rfl (hb hby d7_85)
        obtain ⟨cl38, Ar38, S38, H38⟩ := id Vd
        obtain ⟨T39, X39, e39, st39⟩ := getF X37 hx hZ hown (host := "") (Or.inl (hw _ (List.mem_of_getElem? (i := 11) rfl))) Via.refl e37 F_drawn (g := (mkF m 127 #[.val (.ref a1), .val (.double d2), .second, .val (.double (FP.dmul d2 (FP.l2d (own_t M 1)))), .second, .val (.int (4 : Int32)), .val (.double (FP.l2d (own_t M 4))), .second] [(.ref a1)])) rfl rfl (hb hby d7_127)
        obtain ⟨T40, X40, e40, st40⟩ := getF X39 hx hZ hown (host := "") (Or.inl (hw _ (List.mem_of_getElem? (i := 45) rfl))) Via.refl e39 F_drawnCount (g := (mkF m 131 #[.val (.ref a1), .val (.double d2), .second, .val (.double (FP.dmul d2 (FP.l2d (own_t M 1)))), .second, .val (.int (4 : Int32)), .val (.double (FP.l2d (own_t M 4))), .second] [(.ref a1), (.ref aD)])) rfl rfl (hb hby d7_131)
        obtain ⟨cl41, Ar41, S41, H41⟩ := id Vd
        have hin41 : ¬ (cn < 0 ∨ cl41.slots.size ≤ (cn).toNatClampNeg) := inA S41 hc.1 hc.2.1
        obtain ⟨T41, h41, X41, e41, W41, st41⟩ := stI X40 hx hZ e40 Ar41 (j := cn) hin41 (g := (mkF m 136 #[.val (.ref a1), .val (.double d2), .second, .val (.double (FP.dmul d2 (FP.l2d (own_t M 1)))), .second, .val (.int (4 : Int32)), .val (.double (FP.l2d (own_t M 4))), .second] [(.int (4 : Int32)), (.int cn), (.ref aD)])) rfl rfl (hb hby d7_136)
        have Ex_v41 := Ex.wr W41
        have F_leaves_v41 := F_leaves.other W41 (Or.inl n2)
        have F_sums_v41 := F_sums.other W41 (Or.inl n2)
        have F_drawn_v41 := F_drawn.other W41 (Or.inl n2)
        have F_drawnWeights_v41 := F_drawnWeights.other W41 (Or.inl n2)
        have F_drawnCount_v41 := F_drawnCount.other W41 (Or.inl n2)
        have Vs_v41 := Vs.other W41 n4
        have Ve_v41 := Ve.other W41 (Ne.symm n6)
        have Z41 : n0 ≤ h41.size := Nat.le_trans Z0 (Nat.le_of_eq W41.size.symm)
        have K41 := K0.wr W41 (Or.inl (by simp))
        have V41_v41 := ArF.set Ar41 S41 H41 W41 hin41
        have N41 := Fr.snoc X41 N0 gd
        have VN42_v42 : ArF Z h41 aD .int 64 (fun i => .int ((own_upN D cn (4 : Int32)) i)) := V41_v41.congr (fun i hi => own_upV D cn (4 : Int32) i)
        obtain ⟨T43, X43, e43, st43⟩ := getF X41 hx hZ hown (host := "") (Or.inl (hw _ (List.mem_of_getElem? (i := 13) rfl))) Via.refl e41 F_drawnWeights_v41 (g := (mkF m 138 #[.val (.ref a1), .val (.double d2), .second, .val (.double (FP.dmul d2 (FP.l2d (own_t M 1)))), .second, .val (.int (4 : Int32)), .val (.double (FP.l2d (own_t M 4))), .second] [(.ref a1)])) rfl rfl (hb hby d7_138)
        obtain ⟨T44, X44, e44, st44⟩ := getF X43 hx hZ hown (host := "") (Or.inl (hw _ (List.mem_of_getElem? (i := 45) rfl))) Via.refl e43 F_drawnCount_v41 (g := (mkF m 142 #[.val (.ref a1), .val (.double d2), .second, .val (.double (FP.dmul d2 (FP.l2d (own_t M 1)))), .second, .val (.int (4 : Int32)), .val (.double (FP.l2d (own_t M 4))), .second] [(.ref a1), (.ref aE)])) rfl rfl (hb hby d7_142)
        obtain ⟨T45, X45, e45, st45⟩ := getF X44 hx hZ hown (host := "") (Or.inl (hw _ (List.mem_of_getElem? (i := 26) rfl))) Via.refl e44 F_sums_v41 (g := (mkF m 146 #[.val (.ref a1), .val (.double d2), .second, .val (.double (FP.dmul d2 (FP.l2d (own_t M 1)))), .second, .val (.int (4 : Int32)), .val (.double (FP.l2d (own_t M 4))), .second] [(.ref a1), (.int cn), (.ref aE)])) rfl rfl (hb hby d7_146)
        obtain ⟨cl46, Ar46, S46, H46⟩ := id Vs_v41
        have hin46 : ¬ ((4 : Int32) < 0 ∨ cl46.slots.size ≤ ((4 : Int32)).toNatClampNeg) := inA S46 (by decide) (by decide)
        have hat46 : cl46.slots[((4 : Int32)).toNatClampNeg]? = some (.double (FP.l2d (own_t M 4))) := ArF.at S46 H46 hin46 rfl
        obtain ⟨cl47, Ar47, S47, H47⟩ := id Ve_v41
        have hin47 : ¬ (cn < 0 ∨ cl47.slots.size ≤ (cn).toNatClampNeg) := inA S47 hc.1 hc.2.1
        obtain ⟨T47, h47, X47, e47, W47, st47⟩ := stD X45 hx hZ e45 Ar47 (j := cn) hin47 (g := (mkF m 152 #[.val (.ref a1), .val (.double d2), .second, .val (.double (FP.dmul d2 (FP.l2d (own_t M 1)))), .second, .val (.int (4 : Int32)), .val (.double (FP.l2d (own_t M 4))), .second] [(.double (FP.l2d (own_t M 4))), (.int cn), (.ref aE)])) rfl rfl (hb hby d7_152)
        have Ex_v47 := Ex_v41.wr W47
        have F_leaves_v47 := F_leaves_v41.other W47 (Or.inl n3)
        have F_sums_v47 := F_sums_v41.other W47 (Or.inl n3)
        have F_drawn_v47 := F_drawn_v41.other W47 (Or.inl n3)
        have F_drawnWeights_v47 := F_drawnWeights_v41.other W47 (Or.inl n3)
        have F_drawnCount_v47 := F_drawnCount_v41.other W47 (Or.inl n3)
        have Vs_v47 := Vs_v41.other W47 n5
        have VN42_v47 := VN42_v42.other W47 n6
        have Z47 : n0 ≤ h47.size := Nat.le_trans Z41 (Nat.le_of_eq W47.size.symm)
        have K47 := K41.wr W47 (Or.inl (by simp))
        have V47_v47 := ArF.set Ar47 S47 H47 W47 hin47
        have N47 := Fr.snoc X47 N41 ge
        have VX48_v48 : ArF Z h47 aE .double 64 (fun i => .double (FP.l2d ((own_upX X cn (own_t M 4)) i))) := V47_v47.congr (fun i hi => own_upW X cn (own_t M 4) i)
        obtain ⟨T49, X49, e49, st49⟩ := getF X47 hx hZ hown (host := "") (Or.inl (hw _ (List.mem_of_getElem? (i := 45) rfl))) Via.refl e47 F_drawnCount_v47 (g := (mkF m 155 #[.val (.ref a1), .val (.double d2), .second, .val (.double (FP.dmul d2 (FP.l2d (own_t M 1)))), .second, .val (.int (4 : Int32)), .val (.double (FP.l2d (own_t M 4))), .second] [(.ref a1), (.ref a1)])) rfl rfl (hb hby d7_155)
        obtain ⟨T50, h50, X50, e50, W50, st50⟩ := putF X49 hx hZ hown (host := "") (Or.inl (hw _ (List.mem_of_getElem? (i := 45) rfl))) Via.refl e49 F_drawnCount_v47 Ex_v47 (Or.inl (hw _ (List.mem_of_getElem? (i := 46) rfl))) (hw _ (List.mem_of_getElem? (i := 2) rfl)) (ty := .int) (by decide) rfl rfl (g := (mkF m 160 #[.val (.ref a1), .val (.double d2), .second, .val (.double (FP.dmul d2 (FP.l2d (own_t M 1)))), .second, .val (.int (4 : Int32)), .val (.double (FP.l2d (own_t M 4))), .second] [(.int (cn + (1 : Int32))), (.ref a1)])) rfl rfl (hb hby d7_160)
        have Ex_v50 := Ex_v47.wr W50
        have F_leaves_v50 := F_leaves_v47.other W50 (Or.inr (slot_ne (Or.inr (hw _ (List.mem_of_getElem? (i := 25) rfl))) (Or.inl (hw _ (List.mem_of_getElem? (i := 46) rfl))) (by decide) (t := .int) (t' := .int) (by decide) (by decide)))
        have F_sums_v50 := F_sums_v47.other W50 (Or.inr (slot_ne (Or.inr (hw _ (List.mem_of_getElem? (i := 27) rfl))) (Or.inl (hw _ (List.mem_of_getElem? (i := 46) rfl))) (by decide) (t := (.array .double)) (t' := .int) (by decide) (by decide)))
        have F_drawn_v50 := F_drawn_v47.other W50 (Or.inr (slot_ne (Or.inl (hw _ (List.mem_of_getElem? (i := 12) rfl))) (Or.inl (hw _ (List.mem_of_getElem? (i := 46) rfl))) (by decide) (t := (.array .int)) (t' := .int) (by decide) (by decide)))
        have F_drawnWeights_v50 := F_drawnWeights_v47.other W50 (Or.inr (slot_ne (Or.inl (hw _ (List.mem_of_getElem? (i := 14) rfl))) (Or.inl (hw _ (List.mem_of_getElem? (i := 46) rfl))) (by decide) (t := (.array .double)) (t' := .int) (by decide) (by decide)))
        have Vs_v50 := Vs_v47.other W50 (Ne.symm n1)
        have VN42_v50 := VN42_v47.other W50 (Ne.symm n2)
        have VX48_v50 := VX48_v48.other W50 (Ne.symm n3)
        have Z50 : n0 ≤ h50.size := Nat.le_trans Z47 (Nat.le_of_eq W50.size.symm)
        have K50 := K47.wr W50 (Or.inl (by simp))
        have F50_v50 : Fld Z h50 a1 "com/example/velar/velar/WeightedDraws" "drawnCount" "I" (.int (cn + (1 : Int32))) := F_drawnCount_v47.same W50
        have N50 := Fr.snoc X50 N47 ga
        obtain ⟨cq51, qq51, qq51'⟩ := Ex_v50.cell
        obtain ⟨_, _, ⟨T51, L51, k51, n51⟩, -, X51, ⟨Lc51, hQ51, l51, y51, z51⟩, st51⟩ := X50.privateBack hx (y := (⟨"com/example/velar/velar/WeightedDraws", "set", "(ID)V"⟩ : MethodName)) hown (mvT hZ (hw _ (List.mem_of_getElem? (i := 47) rfl))) (mvT hZ (hw _ (List.mem_of_getElem? (i := 48) rfl))) (own_selp (mvT hZ (hw _ (List.mem_of_getElem? (i := 2) rfl))) (Cond.privateMethod_at (mvP hZ (hw _ (List.mem_of_getElem? (i := 49) rfl)) (args := #[]))) (mvT hZ (hw _ (List.mem_of_getElem? (i := 48) rfl))) (by decide)) (Cond.privateMethod_at (mvP hZ (hw _ (List.mem_of_getElem? (i := 49) rfl)) (args := #[]))) (mvT hZ (hw _ (List.mem_of_getElem? (i := 50) rfl))) (by decide) (backOf (W := 0) (rset l Z a0 hw [] a1 (4 : Int32) (0 : Int64) aS M h50 n0 Z50 F_sums_v50 Vs_v50 gs n1 hM own_L0 (by decide)) hZ (hw _ (List.mem_of_getElem? (i := 50) rfl)) (hw _ (List.mem_of_getElem? (i := 3) rfl)) (by decide) (by decide)) (g := (mkF m 167 #[.val (.ref a1), .val (.double d2), .second, .val (.double (FP.dmul d2 (FP.l2d (own_t M 1)))), .second, .val (.int (4 : Int32)), .val (.double (FP.l2d (own_t M 4))), .second] [(.double (FP.l2d 0)), (.int (4 : Int32)), (.ref a1)])) rfl (by rw [hml]; rfl) (Steps.refl _) (a := a1) (by rw [e50]; exact qq51) qq51' (argsL := [(.int (4 : Int32)), (.double (FP.l2d 0))]) (rest := []) (lenOf pd_1 rfl) rfl (by show 2 * 0 + _ ≤ _; exact Nat.le_of_eq rfl) (hb hby d7_167) (fun _ _ => ⟨rfl, e50, (by decide : 0 + 0 ≤ _), (by decide : 0 + 0 ≤ _)⟩)
        dsimp only [Pt.U, Pt.locs, Pt.cells, Pt.slots] at X51 l51 y51 z51 st51 hQ51
        subst l51 y51 z51
        obtain ⟨rfl, N51q, Kc51, nf51_v51⟩ := hQ51
        have N51 := Fr.app N50 N51q
        have Ex_v51 := Ex_v50.keep Kc51
        have F_leaves_v51 := F_leaves_v50.keep Kc51 (ninS n1 nin0)
        have F_sums_v51 := F_sums_v50.keep Kc51 (ninS n1 nin0)
        have F_drawn_v51 := F_drawn_v50.keep Kc51 (ninS n1 nin0)
        have F_drawnWeights_v51 := F_drawnWeights_v50.keep Kc51 (ninS n1 nin0)
        have VN42_v51 := VN42_v50.keep Kc51 (ninS (Ne.symm n4) nin0)
        have VX48_v51 := VX48_v50.keep Kc51 (ninS (Ne.symm n5) nin0)
        have F50_v51 := F50_v50.keep Kc51 (ninS n1 nin0)
        have Z51 : n0 ≤ T51.heap.size := Nat.le_trans Z50 Kc51.1
        have KK51 := K50.trans Kc51 (allS (Or.inl (by simp)) all0)
        obtain ⟨T52, X52, e52, st52⟩ := getF X51 hx hZ hown (host := "") (Or.inl (hw _ (List.mem_of_getElem? (i := 24) rfl))) Via.refl rfl F_leaves_v51 (g := (mkF m 173 #[.val (.ref a1), .val (.double d2), .second, .val (.double (FP.dmul d2 (FP.l2d (own_t M 1)))), .second, .val (.int (4 : Int32)), .val (.double (FP.l2d (own_t M 4))), .second] [(.ref a1), (.int (4 : Int32))])) rfl rfl (hb hby d7_173)
        obtain ⟨fs, hr, hrun, hended, hW, hsame⟩ := X52.leave (v := some (.int (0 : Int32))) (fun h => by rw [Bd.returns] at h; cases h)
        refine ⟨_, _, pre33 _ ?_, hrun, hended, _, _, rfl, ?_, ⟨_, rfl⟩, hW, hsame.mono (by decide) (by decide)⟩
        · show Steps p.tables e below (T31.setTop (mkF m 52 #[.val (.ref a1), .val (.double d2), .second, .val (.double (FP.dmul d2 (FP.l2d (own_t M 1)))), .second, .val (.int (2 : Int32)), .val (.double (FP.l2d (own_t M 4))), .second] [(.int (cmpValue (FP.dcmp (FP.l2d (own_t M 5)) (FP.l2d 0)) .l))])) _
          refine XS.ifNo X31.here hx rfl (hb hby d7_52) rfl ((if0 _ _).trans (teq hc52_34).2) ?_
          show Steps p.tables e below (T31.setTop (mkF m 55 #[.val (.ref a1), .val (.double d2), .second, .val (.double (FP.dmul d2 (FP.l2d (own_t M 1)))), .second, .val (.int (2 : Int32)), .val (.double (FP.l2d (own_t M 4))), .second] [])) _
          refine XS.iconst X31.here hx rfl (hb hby d7_55) ?_
          show Steps p.tables e below (T31.setTop (mkF m 56 #[.val (.ref a1), .val (.double d2), .second, .val (.double (FP.dmul d2 (FP.l2d (own_t M 1)))), .second, .val (.int (2 : Int32)), .val (.double (FP.l2d (own_t M 4))), .second] [(.int (2 : Int32))])) _
          refine XS.iload X31.here hx rfl (hb hby d7_56) rfl ?_
          show Steps p.tables e below (T31.setTop (mkF m 58 #[.val (.ref a1), .val (.double d2), .second, .val (.double (FP.dmul d2 (FP.l2d (own_t M 1)))), .second, .val (.int (2 : Int32)), .val (.double (FP.l2d (own_t M 4))), .second] [(.int (2 : Int32)), (.int (2 : Int32))])) _
          refine XS.imul X31.here hx rfl (hb hby d7_58) rfl ?_
          show Steps p.tables e below (T31.setTop (mkF m 59 #[.val (.ref a1), .val (.double d2), .second, .val (.double (FP.dmul d2 (FP.l2d (own_t M 1)))), .second, .val (.int (2 : Int32)), .val (.double (FP.l2d (own_t M 4))), .second] [(.int (4 : Int32))])) _
          refine XS.istore X31.here hx rfl (hb hby d7_59) rfl (l' := #[.val (.ref a1), .val (.double d2), .second, .val (.double (FP.dmul d2 (FP.l2d (own_t M 1)))), .second, .val (.int (4 : Int32)), .val (.double (FP.l2d (own_t M 4))), .second]) rfl ?_
          show Steps p.tables e below (T31.setTop (mkF m 61 #[.val (.ref a1), .val (.double d2), .second, .val (.double (FP.dmul d2 (FP.l2d (own_t M 1)))), .second, .val (.int (4 : Int32)), .val (.double (FP.l2d (own_t M 4))), .second] [])) _
          refine XS.goto X31.here hx rfl (pc0 := 61) (pc' := 77) rfl (hb hby d7_61) (by decide) (by decide) ?_
          show Steps p.tables e below (T31.setTop (mkF m 77 #[.val (.ref a1), .val (.double d2), .second, .val (.double (FP.dmul d2 (FP.l2d (own_t M 1)))), .second, .val (.int (4 : Int32)), .val (.double (FP.l2d (own_t M 4))), .second] [])) _
          refine XS.goto X31.here hx rfl (pc0 := 77) (pc' := 12) rfl (hb hby d7_77) (by decide) (by decide) ?_
          show Steps p.tables e below (T31.setTop (mkF m 12 #[.val (.ref a1), .val (.double d2), .second, .val (.double (FP.dmul d2 (FP.l2d (own_t M 1)))), .second, .val (.int (4 : Int32)), .val (.double (FP.l2d (own_t M 4))), .second] [])) _
          refine XS.iload X31.here hx rfl (hb hby d7_12) rfl ?_
          show Steps p.tables e below (T31.setTop (mkF m 14 #[.val (.ref a1), .val (.double d2), .second, .val (.double (FP.dmul d2 (FP.l2d (own_t M 1)))), .second, .val (.int (4 : Int32)), .val (.double (FP.l2d (own_t M 4))), .second] [(.int (4 : Int32))])) _
          refine XS.aloadN X31.here hx rfl (hb hby d7_14) rfl rfl ?_
          show Steps p.tables e below (T31.setTop (mkF m 15 #[.val (.ref a1), .val (.double d2), .second, .val (.double (FP.dmul d2 (FP.l2d (own_t M 1)))), .second, .val (.int (4 : Int32)), .val (.double (FP.l2d (own_t M 4))), .second] [(.ref a1), (.int (4 : Int32))])) _
          refine st35 _ ?_
          show Steps p.tables e below (T35.setTop (mkF m 18 #[.val (.ref a1), .val (.double d2), .second, .val (.double (FP.dmul d2 (FP.l2d (own_t M 1)))), .second, .val (.int (4 : Int32)), .val (.double (FP.l2d (own_t M 4))), .second] [(.int (4 : Int32)), (.int (4 : Int32))])) _
          refine XS.icmpYes X35.here hx rfl (pc0 := 18) (pc' := 80) rfl (hb hby d7_18) rfl (flt (by decide : ¬ ((4 : Int32) < (4 : Int32)))).2.1 (by decide) (by decide) ?_
          show Steps p.tables e below (T35.setTop (mkF m 80 #[.val (.ref a1), .val (.double d2), .second, .val (.double (FP.dmul d2 (FP.l2d (own_t M 1)))), .second, .val (.int (4 : Int32)), .val (.double (FP.l2d (own_t M 4))), .second] [])) _
          refine XS.aloadN X35.here hx rfl (hb hby d7_80) rfl rfl ?_
          show Steps p.tables e below (T35.setTop (mkF m 81 #[.val (.ref a1), .val (.double d2), .second, .val (.double (FP.dmul d2 (FP.l2d (own_t M 1)))), .second, .val (.int (4 : Int32)), .val (.double (FP.l2d (own_t M 4))), .second] [(.ref a1)])) _
          refine st36 _ ?_
          show Steps p.tables e below (T36.setTop (mkF m 84 #[.val (.ref a1), .val (.double d2), .second, .val (.double (FP.dmul d2 (FP.l2d (own_t M 1)))), .second, .val (.int (4 : Int32)), .val (.double (FP.l2d (own_t M 4))), .second] [(.int cn)])) _
          refine XS.aloadN X36.here hx rfl (hb hby d7_84) rfl rfl ?_
          show Steps p.tables e below (T36.setTop (mkF m 85 #[.val (.ref a1), .val (.double d2), .second, .val (.double (FP.dmul d2 (FP.l2d (own_t M 1)))), .second, .val (.int (4 : Int32)), .val (.double (FP.l2d (own_t M 4))), .second] [(.ref a1), (.int cn)])) _
          refine st37 _ ?_
          show Steps p.tables e below (T37.setTop (mkF m 88 #[.val (.ref a1), .val (.double d2), .second, .val (.double (FP.dmul d2 (FP.l2d (own_t M 1)))), .second, .val (.int (4 : Int32)), .val (.double (FP.l2d (own_t M 4))), .second] [(.ref aD), (.int cn)])) _
          refine X37.arraylength hx (by rw [e37]; exact Ar38.1) (State.isArrayOf_alike hZ.alike Ar38.2.1) (g := (mkF m 88 #[.val (.ref a1), .val (.double d2), .second, .val (.double (FP.dmul d2 (FP.l2d (own_t M 1)))), .second, .val (.int (4 : Int32)), .val (.double (FP.l2d (own_t M 4))), .second] [(.ref aD), (.int cn)])) rfl rfl (hb hby d7_88) _ ?_
          rw [show cl38.slots.size.toInt32 = (64 : Int32) from by rw [S38]; rfl]
          show Steps p.tables e below (T37.setTop (mkF m 89 #[.val (.ref a1), .val (.double d2), .second, .val (.double (FP.dmul d2 (FP.l2d (own_t M 1)))), .second, .val (.int (4 : Int32)), .val (.double (FP.l2d (own_t M 4))), .second] [(.int (64 : Int32)), (.int cn)])) _
          refine XS.icmpYes X37.here hx rfl (pc0 := 89) (pc' := 126) rfl (hb hby d7_89) rfl (feq (hc.2.2 : ¬ (cn = (64 : Int32)))).2 (by decide) (by decide) ?_
          show Steps p.tables e below (T37.setTop (mkF m 126 #[.val (.ref a1), .val (.double d2), .second, .val (.double (FP.dmul d2 (FP.l2d (own_t M 1)))), .second, .val (.int (4 : Int32)), .val (.double (FP.l2d (own_t M 4))), .second] [])) _
          refine XS.aloadN X37.here hx rfl (hb hby d7_126) rfl rfl ?_
          show Steps p.tables e below (T37.setTop (mkF m 127 #[.val (.ref a1), .val (.double d2), .second, .val (.double (FP.dmul d2 (FP.l2d (own_t M 1)))), .second, .val (.int (4 : Int32)), .val (.double (FP.l2d (own_t M 4))), .second] [(.ref a1)])) _
          refine st39 _ ?_
          show Steps p.tables e below (T39.setTop (mkF m 130 #[.val (.ref a1), .val (.double d2), .second, .val (.double (FP.dmul d2 (FP.l2d (own_t M 1)))), .second, .val (.int (4 : Int32)), .val (.double (FP.l2d (own_t M 4))), .second] [(.ref aD)])) _
          refine XS.aloadN X39.here hx rfl (hb hby d7_130) rfl rfl ?_
          show Steps p.tables e below (T39.setTop (mkF m 131 #[.val (.ref a1), .val (.double d2), .second, .val (.double (FP.dmul d2 (FP.l2d (own_t M 1)))), .second, .val (.int (4 : Int32)), .val (.double (FP.l2d (own_t M 4))), .second] [(.ref a1), (.ref aD)])) _
          refine st40 _ ?_
          show Steps p.tables e below (T40.setTop (mkF m 134 #[.val (.ref a1), .val (.double d2), .second, .val (.double (FP.dmul d2 (FP.l2d (own_t M 1)))), .second, .val (.int (4 : Int32)), .val (.double (FP.l2d (own_t M 4))), .second] [(.int cn), (.ref aD)])) _
          refine XS.iload X40.here hx rfl (hb hby d7_134) rfl ?_
          show Steps p.tables e below (T40.setTop (mkF m 136 #[.val (.ref a1), .val (.double d2), .second, .val (.double (FP.dmul d2 (FP.l2d (own_t M 1)))), .second, .val (.int (4 : Int32)), .val (.double (FP.l2d (own_t M 4))), .second] [(.int (4 : Int32)), (.int cn), (.ref aD)])) _
          refine st41 _ ?_
          show Steps p.tables e below (T41.setTop (mkF m 137 #[.val (.ref a1), .val (.double d2), .second, .val (.double (FP.dmul d2 (FP.l2d (own_t M 1)))), .second, .val (.int (4 : Int32)), .val (.double (FP.l2d (own_t M 4))), .second] [])) _
          refine XS.aloadN X41.here hx rfl (hb hby d7_137) rfl rfl ?_
          show Steps p.tables e below (T41.setTop (mkF m 138 #[.val (.ref a1), .val (.double d2), .second, .val (.double (FP.dmul d2 (FP.l2d (own_t M 1)))), .second, .val (.int (4 : Int32)), .val (.double (FP.l2d (own_t M 4))), .second] [(.ref a1)])) _
          refine st43 _ ?_
          show Steps p.tables e below (T43.setTop (mkF m 141 #[.val (.ref a1), .val (.double d2), .second, .val (.double (FP.dmul d2 (FP.l2d (own_t M 1)))), .second, .val (.int (4 : Int32)), .val (.double (FP.l2d (own_t M 4))), .second] [(.ref aE)])) _
          refine XS.aloadN X43.here hx rfl (hb hby d7_141) rfl rfl ?_
          show Steps p.tables e below (T43.setTop (mkF m 142 #[.val (.ref a1), .val (.double d2), .second, .val (.double (FP.dmul d2 (FP.l2d (own_t M 1)))), .second, .val (.int (4 : Int32)), .val (.double (FP.l2d (own_t M 4))), .second] [(.ref a1), (.ref aE)])) _
          refine st44 _ ?_
          show Steps p.tables e below (T44.setTop (mkF m 145 #[.val (.ref a1), .val (.double d2), .second, .val (.double (FP.dmul d2 (FP.l2d (own_t M 1)))), .second, .val (.int (4 : Int32)), .val (.double (FP.l2d (own_t M 4))), .second] [(.int cn), (.ref aE)])) _
          refine XS.aloadN X44.here hx rfl (hb hby d7_145) rfl rfl ?_
          show Steps p.tables e below (T44.setTop (mkF m 146 #[.val (.ref a1), .val (.double d2), .second, .val (.double (FP.dmul d2 (FP.l2d (own_t M 1)))), .second, .val (.int (4 : Int32)), .val (.double (FP.l2d (own_t M 4))), .second] [(.ref a1), (.int cn), (.ref aE)])) _
          refine st45 _ ?_
          show Steps p.tables e below (T45.setTop (mkF m 149 #[.val (.ref a1), .val (.double d2), .second, .val (.double (FP.dmul d2 (FP.l2d (own_t M 1)))), .second, .val (.int (4 : Int32)), .val (.double (FP.l2d (own_t M 4))), .second] [(.ref aS), (.int cn), (.ref aE)])) _
          refine XS.iload X45.here hx rfl (hb hby d7_149) rfl ?_
          show Steps p.tables e below (T45.setTop (mkF m 151 #[.val (.ref a1), .val (.double d2), .second, .val (.double (FP.dmul d2 (FP.l2d (own_t M 1)))), .second, .val (.int (4 : Int32)), .val (.double (FP.l2d (own_t M 4))), .second] [(.int (4 : Int32)), (.ref aS), (.int cn), (.ref aE)])) _
          refine X45.daload hx (j := (4 : Int32)) (v := (.double (FP.l2d (own_t M 4)))) (by rw [e45]; exact Ar46.1) (State.isArrayOf_alike hZ.alike Ar46.2.1) Ar46.2.2 hin46 hat46 (g := (mkF m 151 #[.val (.ref a1), .val (.double d2), .second, .val (.double (FP.dmul d2 (FP.l2d (own_t M 1)))), .second, .val (.int (4 : Int32)), .val (.double (FP.l2d (own_t M 4))), .second] [(.int (4 : Int32)), (.ref aS), (.int cn), (.ref aE)])) rfl rfl (hb hby d7_151) _ ?_
          show Steps p.tables e below (T45.setTop (mkF m 152 #[.val (.ref a1), .val (.double d2), .second, .val (.double (FP.dmul d2 (FP.l2d (own_t M 1)))), .second, .val (.int (4 : Int32)), .val (.double (FP.l2d (own_t M 4))), .second] [(.double (FP.l2d (own_t M 4))), (.int cn), (.ref aE)])) _
          refine st47 _ ?_
          show Steps p.tables e below (T47.setTop (mkF m 153 #[.val (.ref a1), .val (.double d2), .second, .val (.double (FP.dmul d2 (FP.l2d (own_t M 1)))), .second, .val (.int (4 : Int32)), .val (.double (FP.l2d (own_t M 4))), .second] [])) _
          refine XS.aloadN X47.here hx rfl (hb hby d7_153) rfl rfl ?_
          show Steps p.tables e below (T47.setTop (mkF m 154 #[.val (.ref a1), .val (.double d2), .second, .val (.double (FP.dmul d2 (FP.l2d (own_t M 1)))), .second, .val (.int (4 : Int32)), .val (.double (FP.l2d (own_t M 4))), .second] [(.ref a1)])) _
          refine XS.dup X47.here hx rfl (hb hby d7_154) rfl rfl ?_
          show Steps p.tables e below (T47.setTop (mkF m 155 #[.val (.ref a1), .val (.double d2), .second, .val (.double (FP.dmul d2 (FP.l2d (own_t M 1)))), .second, .val (.int (4 : Int32)), .val (.double (FP.l2d (own_t M 4))), .second] [(.ref a1), (.ref a1)])) _
          refine st49 _ ?_
          show Steps p.tables e below (T49.setTop (mkF m 158 #[.val (.ref a1), .val (.double d2), .second, .val (.double (FP.dmul d2 (FP.l2d (own_t M 1)))), .second, .val (.int (4 : Int32)), .val (.double (FP.l2d (own_t M 4))), .second] [(.int cn), (.ref a1)])) _
          refine XS.iconst X49.here hx rfl (hb hby d7_158) ?_
          show Steps p.tables e below (T49.setTop (mkF m 159 #[.val (.ref a1), .val (.double d2), .second, .val (.double (FP.dmul d2 (FP.l2d (own_t M 1)))), .second, .val (.int (4 : Int32)), .val (.double (FP.l2d (own_t M 4))), .second] [(.int (1 : Int32)), (.int cn), (.ref a1)])) _
          refine XS.iadd X49.here hx rfl (hb hby d7_159) rfl ?_
          show Steps p.tables e below (T49.setTop (mkF m 160 #[.val (.ref a1), .val (.double d2), .second, .val (.double (FP.dmul d2 (FP.l2d (own_t M 1)))), .second, .val (.int (4 : Int32)), .val (.double (FP.l2d (own_t M 4))), .second] [(.int (cn + (1 : Int32))), (.ref a1)])) _
          refine st50 _ ?_
          show Steps p.tables e below (T50.setTop (mkF m 163 #[.val (.ref a1), .val (.double d2), .second, .val (.double (FP.dmul d2 (FP.l2d (own_t M 1)))), .second, .val (.int (4 : Int32)), .val (.double (FP.l2d (own_t M 4))), .second] [])) _
          refine XS.aloadN X50.here hx rfl (hb hby d7_163) rfl rfl ?_
          show Steps p.tables e below (T50.setTop (mkF m 164 #[.val (.ref a1), .val (.double d2), .second, .val (.double (FP.dmul d2 (FP.l2d (own_t M 1)))), .second, .val (.int (4 : Int32)), .val (.double (FP.l2d (own_t M 4))), .second] [(.ref a1)])) _
          refine XS.iload X50.here hx rfl (hb hby d7_164) rfl ?_
          show Steps p.tables e below (T50.setTop (mkF m 166 #[.val (.ref a1), .val (.double d2), .second, .val (.double (FP.dmul d2 (FP.l2d (own_t M 1)))), .second, .val (.int (4 : Int32)), .val (.double (FP.l2d (own_t M 4))), .second] [(.int (4 : Int32)), (.ref a1)])) _
          refine XS.dconst0 X50.here hx rfl (hb hby d7_166) (v := (FP.l2d 0)) (by decide +kernel) ?_
          show Steps p.tables e below (T50.setTop (mkF m 167 #[.val (.ref a1), .val (.double d2), .second, .val (.double (FP.dmul d2 (FP.l2d (own_t M 1)))), .second, .val (.int (4 : Int32)), .val (.double (FP.l2d (own_t M 4))), .second] [(.double (FP.l2d 0)), (.int (4 : Int32)), (.ref a1)])) _
          refine st51.trans ?_
          show Steps p.tables e below (T51.setTop (mkF m 170 #[.val (.ref a1), .val (.double d2), .second, .val (.double (FP.dmul d2 (FP.l2d (own_t M 1)))), .second, .val (.int (4 : Int32)), .val (.double (FP.l2d (own_t M 4))), .second] [])) _
          refine XS.iload X51.here hx rfl (hb hby d7_170) rfl ?_
          show Steps p.tables e below (T51.setTop (mkF m 172 #[.val (.ref a1), .val (.double d2), .second, .val (.double (FP.dmul d2 (FP.l2d (own_t M 1)))), .second, .val (.int (4 : Int32)), .val (.double (FP.l2d (own_t M 4))), .second] [(.int (4 : Int32))])) _
          refine XS.aloadN X51.here hx rfl (hb hby d7_172) rfl rfl ?_
          show Steps p.tables e below (T51.setTop (mkF m 173 #[.val (.ref a1), .val (.double d2), .second, .val (.double (FP.dmul d2 (FP.l2d (own_t M 1)))), .second, .val (.int (4 : Int32)), .val (.double (FP.l2d (own_t M 4))), .second] [(.ref a1), (.int (4 : Int32))])) _
          refine st52 _ ?_
          show Steps p.tables e below (T52.setTop (mkF m 176 #[.val (.ref a1), .val (.double d2), .second, .val (.double (FP.dmul d2 (FP.l2d (own_t M 1)))), .second, .val (.int (4 : Int32)), .val (.double (FP.l2d (own_t M 4))), .second] [(.int (4 : Int32)), (.int (4 : Int32))])) _
          refine XS.isub X52.here hx rfl (hb hby d7_176) rfl ?_
          show Steps p.tables e below (T52.setTop (mkF m 177 #[.val (.ref a1), .val (.double d2), .second, .val (.double (FP.dmul d2 (FP.l2d (own_t M 1)))), .second, .val (.int (4 : Int32)), .val (.double (FP.l2d (own_t M 4))), .second] [(.int (0 : Int32))])) _
          exact retI X52 hx Bd.returns (hb hby d7_177) hr
        · show Q_rdr Z a1 d2 aS aD aE cn M D X h0 n0 _ T52.heap _
          rw [e52]
          have hpk : own_pick M d2 = (4 : Int32) := by rw [own_pick, if_pos hc36_7, own_n2, if_neg hc36_12, if_pos hc52_34]
          exact (by rw [Q_rdr, hpk]; exact ⟨rfl, N51, KK51, F_leaves_v51, F_sums_v51, F_drawn_v51, F_drawnWeights_v51, F50_v51, nf51_v51, VN42_v51, VX48_v51⟩)
      · obtain ⟨T53, X53, e53, st53⟩ := getF X31 hx hZ hown (host := "") (Or.inl (hw _ (List.mem_of_getElem? (i := 24) rfl))) Via.refl e31 F_leaves (g := (mkF m 15 #[.val (.ref a1), .val (.double d2), .second, .val (.double (FP.dsub (FP.dmul d2 (FP.l2d (own_t M 1))) (FP.l2d (own_t M 4)))), .second, .val (.int (5 : Int32)), .val (.double (FP.l2d (own_t M 4))), .second] [(.ref a1), (.int (5 : Int32))])) rfl rfl (hb hby d7_15)
        obtain ⟨T54, X54, e54, st54⟩ := getF X53 hx hZ hown (host := "") (Or.inl (hw _ (List.mem_of_getElem? (i := 45) rfl))) Via.refl e53 F_drawnCount (g := (mkF m 81 #[.val (.ref a1), .val (.double d2), .second, .val (.double (FP.dsub (FP.dmul d2 (FP.l2d (own_t M 1))) (FP.l2d (own_t M 4)))), .second, .val (.int (5 : Int32)), .val (.double (FP.l2d (own_t M 4))), .second] [(.ref a1)])) rfl rfl (hb hby d7_81)
        obtain ⟨T55, X55, e55, st55⟩ := getF X54 hx hZ hown (host := "") (Or.inl (hw _ (List.mem_of_getElem? (i := 11) rfl))) Via.refl e54 F_drawn (g := (mkF m 85 #[.val (.ref a1), .val (.double d2), .second, .val (.double (FP.dsub (FP.dmul d2 (FP.l2d (own_t M 1))) (FP.l2d (own_t M 4)))), .second, .val (.int (5 : Int32)), .val (.double (FP.l2d (own_t M 4))), .second] [(.ref a1), (.int cn)])) rfl rfl (hb hby d7_85)
        obtain ⟨cl56, Ar56, S56, H56⟩ := id Vd
        obtain ⟨T57, X57, e57, st57⟩ := getF X55 hx hZ hown (host := "") (Or.inl (hw _ (List.mem_of_getElem? (i := 11) rfl))) Via.refl e55 F_drawn (g := (mkF m 127 #[.val (.ref a1), .val (.double d2), .second, .val (.double (FP.dsub (FP.dmul d2 (FP.l2d (own_t M 1))) (FP.l2d (own_t M 4)))), .second, .val (.int (5 : Int32)), .val (.double (FP.l2d (own_t M 4))), .second] [(.ref a1)])) rfl rfl (hb hby d7_127)
        obtain ⟨T58, X58, e58, st58⟩ := getF X57 hx hZ hown (host := "") (Or.inl (hw _ (List.mem_of_getElem? (i := 45) rfl))) Via.refl e57 F_drawnCount (g := (mkF m 131 #[.val (.ref a1), .val (.double d2), .second, .val (.double (FP.dsub (FP.dmul d2 (FP.l2d (own_t M 1))) (FP.l2d (own_t M 4)))), .second, .val (.int (5 : Int32)), .val (.double (FP.l2d (own_t M 4))), .second] [(.ref a1), (.ref aD)])) rfl rfl (hb hby d7_131)
        obtain ⟨cl59, Ar59, S59, H59⟩ := id Vd
        have hin59 : ¬ (cn < 0 ∨ cl59.slots.size ≤ (cn).toNatClampNeg) := inA S59 hc.1 hc.2.1
        obtain ⟨T59, h59, X59, e59, W59, st59⟩ := stI X58 hx hZ e58 Ar59 (j := cn) hin59 (g := (mkF m 136 #[.val (.ref a1), .val (.double d2), .second, .val (.double (FP.dsub (FP.dmul d2 (FP.l2d (own_t M 1))) (FP.l2d (own_t M 4)))), .second, .val (.int (5 : Int32)), .val (.double (FP.l2d (own_t M 4))), .second] [(.int (5 : Int32)), (.int cn), (.ref aD)])) rfl rfl (hb hby d7_136)
        have Ex_v59 := Ex.wr W59
        have F_leaves_v59 := F_leaves.other W59 (Or.inl n2)
        have F_sums_v59 := F_sums.other W59 (Or.inl n2)
        have F_drawn_v59 := F_drawn.other W59 (Or.inl n2)
        have F_drawnWeights_v59 := F_drawnWeights.other W59 (Or.inl n2)
        have F_drawnCount_v59 := F_drawnCount.other W59 (Or.inl n2)
        have Vs_v59 := Vs.other W59 n4
        have Ve_v59 := Ve.other W59 (Ne.symm n6)
        have Z59 : n0 ≤ h59.size := Nat.le_trans Z0 (Nat.le_of_eq W59.size.symm)
        have K59 := K0.wr W59 (Or.inl (by simp))
        have V59_v59 := ArF.set Ar59 S59 H59 W59 hin59
        have N59 := Fr.snoc X59 N0 gd
        have VN60_v60 : ArF Z h59 aD .int 64 (fun i => .int ((own_upN D cn (5 : Int32)) i)) := V59_v59.congr (fun i hi => own_upV D cn (5 : Int32) i)
        obtain ⟨T61, X61, e61, st61⟩ := getF X59 hx hZ hown (host := "") (Or.inl (hw _ (List.mem_of_getElem? (i := 13) rfl))) Via.refl e59 F_drawnWeights_v59 (g := (mkF m 138 #[.val (.ref a1), .val (.double d2), .second, .val (.double (FP.dsub (FP.dmul d2 (FP.l2d (own_t M 1))) (FP.l2d (own_t M 4)))), .second, .val (.int (5 : Int32)), .val (.double (FP.l2d (own_t M 4))), .second] [(.ref a1)])) rfl rfl (hb hby d7_138)
        obtain ⟨T62, X62, e62, st62⟩ := getF X61 hx hZ hown (host := "") (Or.inl (hw _ (List.mem_of_getElem? (i := 45) rfl))) Via.refl e61 F_drawnCount_v59 (g := (mkF m 142 #[.val (.ref a1), .val (.double d2), .second, .val (.double (FP.dsub (FP.dmul d2 (FP.l2d (own_t M 1))) (FP.l2d (own_t M 4)))), .second, .val (.int (5 : Int32)), .val (.double (FP.l2d (own_t M 4))), .second] [(.ref a1), (.ref aE)])) rfl rfl (hb hby d7_142)
        obtain ⟨T63, X63, e63, st63⟩ := getF X62 hx hZ hown (host := "") (Or.inl (hw _ (List.mem_of_getElem? (i := 26) rfl))) Via.refl e62 F_sums_v59 (g := (mkF m 146 #[.val (.ref a1), .val (.double d2), .second, .val (.double (FP.dsub (FP.dmul d2 (FP.l2d (own_t M 1))) (FP.l2d (own_t M 4)))), .second, .val (.int (5 : Int32)), .val (.double (FP.l2d (own_t M 4))), .second] [(.ref a1), (.int cn), (.ref aE)])) rfl rfl (hb hby d7_146)
        obtain ⟨cl64, Ar64, S64, H64⟩ := id Vs_v59
        have hin64 : ¬ ((5 : Int32) < 0 ∨ cl64.slots.size ≤ ((5 : Int32)).toNatClampNeg) := inA S64 (by decide) (by decide)
        have hat64 : cl64.slots[((5 : Int32)).toNatClampNeg]? = some (.double (FP.l2d (own_t M 5))) := ArF.at S64 H64 hin64 rfl
        obtain ⟨cl65, Ar65, S65, H65⟩ := id Ve_v59
        have hin65 : ¬ (cn < 0 ∨ cl65.slots.size ≤ (cn).toNatClampNeg) := inA S65 hc.1 hc.2.1
        obtain ⟨T65, h65, X65, e65, W65, st65⟩ := stD X63 hx hZ e63 Ar65 (j := cn) hin65 (g := (mkF m 152 #[.val (.ref a1), .val (.double d2), .second, .val (.double (FP.dsub (FP.dmul d2 (FP.l2d (own_t M 1))) (FP.l2d (own_t M 4)))), .second, .val (.int (5 : Int32)), .val (.double (FP.l2d (own_t M 4))), .second] [(.double (FP.l2d (own_t M 5))), (.int cn), (.ref aE)])) rfl rfl (hb hby d7_152)
        have Ex_v65 := Ex_v59.wr W65
        have F_leaves_v65 := F_leaves_v59.other W65 (Or.inl n3)
        have F_sums_v65 := F_sums_v59.other W65 (Or.inl n3)
        have F_drawn_v65 := F_drawn_v59.other W65 (Or.inl n3)
        have F_drawnWeights_v65 := F_drawnWeights_v59.other W65 (Or.inl n3)
        have F_drawnCount_v65 := F_drawnCount_v59.other W65 (Or.inl n3)
        have Vs_v65 := Vs_v59.other W65 n5
        have VN60_v65 := VN60_v60.other W65 n6
        have Z65 : n0 ≤ h65.size := Nat.le_trans Z59 (Nat.le_of_eq W65.size.symm)
        have K65 := K59.wr W65 (Or.inl (by simp))
        have V65_v65 := ArF.set Ar65 S65 H65 W65 hin65
        have N65 := Fr.snoc X65 N59 ge
        have VX66_v66 : ArF Z h65 aE .double 64 (fun i => .double (FP.l2d ((own_upX X cn (own_t M 5)) i))) := V65_v65.congr (fun i hi => own_upW X cn (own_t M 5) i)
        obtain ⟨T67, X67, e67, st67⟩ := getF X65 hx hZ hown (host := "") (Or.inl (hw _ (List.mem_of_getElem? (i := 45) rfl))) Via.refl e65 F_drawnCount_v65 (g := (mkF m 155 #[.val (.ref a1), .val (.double d2), .second, .val (.double (FP.dsub (FP.dmul d2 (FP.l2d (own_t M 1))) (FP.l2d (own_t M 4)))), .second, .val (.int (5 : Int32)), .val (.double (FP.l2d (own_t M 4))), .second] [(.ref a1), (.ref a1)])) rfl rfl (hb hby d7_155)
        obtain ⟨T68, h68, X68, e68, W68, st68⟩ := putF X67 hx hZ hown (host := "") (Or.inl (hw _ (List.mem_of_getElem? (i := 45) rfl))) Via.refl e67 F_drawnCount_v65 Ex_v65 (Or.inl (hw _ (List.mem_of_getElem? (i := 46) rfl))) (hw _ (List.mem_of_getElem? (i := 2) rfl)) (ty := .int) (by decide) rfl rfl (g := (mkF m 160 #[.val (.ref a1), .val (.double d2), .second, .val (.double (FP.dsub (FP.dmul d2 (FP.l2d (own_t M 1))) (FP.l2d (own_t M 4)))), .second, .val (.int (5 : Int32)), .val (.double (FP.l2d (own_t M 4))), .second] [(.int (cn + (1 : Int32))), (.ref a1)])) rfl rfl (hb hby d7_160)
        have Ex_v68 := Ex_v65.wr W68
        have F_leaves_v68 := F_leaves_v65.other W68 (Or.inr (slot_ne (Or.inr (hw _ (List.mem_of_getElem? (i := 25) rfl))) (Or.inl (hw _ (List.mem_of_getElem? (i := 46) rfl))) (by decide) (t := .int) (t' := .int) (by decide) (by decide)))
        have F_sums_v68 := F_sums_v65.other W68 (Or.inr (slot_ne (Or.inr (hw _ (List.mem_of_getElem? (i := 27) rfl))) (Or.inl (hw _ (List.mem_of_getElem? (i := 46) rfl))) (by decide) (t := (.array .double)) (t' := .int) (by decide) (by decide)))
        have F_drawn_v68 := F_drawn_v65.other W68 (Or.inr (slot_ne (Or.inl (hw _ (List.mem_of_getElem? (i := 12) rfl))) (Or.inl (hw _ (List.mem_of_getElem? (i := 46) rfl))) (by decide) (t := (.array .int)) (t' := .int) (by decide) (by decide)))
        have F_drawnWeights_v68 := F_drawnWeights_v65.other W68 (Or.inr (slot_ne (Or.inl (hw _ (List.mem_of_getElem? (i := 14) rfl))) (Or.inl (hw _ (List.mem_of_getElem? (i := 46) rfl))) (by decide) (t := (.array .double)) (t' := .int) (by decide) (by decide)))
        have Vs_v68 := Vs_v65.other W68 (Ne.symm n1)
        have VN60_v68 := VN60_v65.other W68 (Ne.symm n2)
        have VX66_v68 := VX66_v66.other W68 (Ne.symm n3)
        have Z68 : n0 ≤ h68.size := Nat.le_trans Z65 (Nat.le_of_eq W68.size.symm)
        have K68 := K65.wr W68 (Or.inl (by simp))
        have F68_v68 : Fld Z h68 a1 "com/example/velar/velar/WeightedDraws" "drawnCount" "I" (.int (cn + (1 : Int32))) := F_drawnCount_v65.same W68
        have N68 := Fr.snoc X68 N65 ga
        obtain ⟨cq69, qq69, qq69'⟩ := Ex_v68.cell
        obtain ⟨_, _, ⟨T69, L69, k69, n69⟩, -, X69, ⟨Lc69, hQ69, l69, y69, z69⟩, st69⟩ := X68.privateBack hx (y := (⟨"com/example/velar/velar/WeightedDraws", "set", "(ID)V"⟩ : MethodName)) hown (mvT hZ (hw _ (List.mem_of_getElem? (i := 47) rfl))) (mvT hZ (hw _ (List.mem_of_getElem? (i := 48) rfl))) (own_selp (mvT hZ (hw _ (List.mem_of_getElem? (i := 2) rfl))) (Cond.privateMethod_at (mvP hZ (hw _ (List.mem_of_getElem? (i := 49) rfl)) (args := #[]))) (mvT hZ (hw _ (List.mem_of_getElem? (i := 48) rfl))) (by decide)) (Cond.privateMethod_at (mvP hZ (hw _ (List.mem_of_getElem? (i := 49) rfl)) (args := #[]))) (mvT hZ (hw _ (List.mem_of_getElem? (i := 50) rfl))) (by decide) (backOf (W := 0) (rset l Z a0 hw [] a1 (5 : Int32) (0 : Int64) aS M h68 n0 Z68 F_sums_v68 Vs_v68 gs n1 hM own_L0 (by decide)) hZ (hw _ (List.mem_of_getElem? (i := 50) rfl)) (hw _ (List.mem_of_getElem? (i := 3) rfl)) (by decide) (by decide)) (g := (mkF m 167 #[.val (.ref a1), .val (.double d2), .second, .val (.double (FP.dsub (FP.dmul d2 (FP.l2d (own_t M 1))) (FP.l2d (own_t M 4)))), .second, .val (.int (5 : Int32)), .val (.double (FP.l2d (own_t M 4))), .second] [(.double (FP.l2d 0)), (.int (5 : Int32)), (.ref a1)])) rfl (by rw [hml]; rfl) (Steps.refl _) (a := a1) (by rw [e68]; exact qq69) qq69' (argsL := [(.int (5 : Int32)), (.double (FP.l2d 0))]) (rest := []) (lenOf pd_1 rfl) rfl (by show 2 * 0 + _ ≤ _; exact Nat.le_of_eq rfl) (hb hby d7_167) (fun _ _ => ⟨rfl, e68, (by decide : 0 + 0 ≤ _), (by decide : 0 + 0 ≤ _)⟩)
        dsimp only [Pt.U, Pt.locs, Pt.cells, Pt.slots] at X69 l69 y69 z69 st69 hQ69
        subst l69 y69 z69
        obtain ⟨rfl, N69q, Kc69, nf69_v69⟩ := hQ69
        have N69 := Fr.app N68 N69q
        have Ex_v69 := Ex_v68.keep Kc69
        have F_leaves_v69 := F_leaves_v68.keep Kc69 (ninS n1 nin0)
        have F_sums_v69 := F_sums_v68.keep Kc69 (ninS n1 nin0)
        have F_drawn_v69 := F_drawn_v68.keep Kc69 (ninS n1 nin0)
        have F_drawnWeights_v69 := F_drawnWeights_v68.keep Kc69 (ninS n1 nin0)
        have VN60_v69 := VN60_v68.keep Kc69 (ninS (Ne.symm n4) nin0)
        have VX66_v69 := VX66_v68.keep Kc69 (ninS (Ne.symm n5) nin0)
        have F68_v69 := F68_v68.keep Kc69 (ninS n1 nin0)
        have Z69 : n0 ≤ T69.heap.size := Nat.le_trans Z68 Kc69.1
        have KK69 := K68.trans Kc69 (allS (Or.inl (by simp)) all0)
        obtain ⟨T70, X70, e70, st70⟩ := getF X69 hx hZ hown (host := "") (Or.inl (hw _ (List.mem_of_getElem? (i := 24) rfl))) Via.refl rfl F_leaves_v69 (g := (mkF m 173 #[.val (.ref a1), .val (.double d2), .second, .val (.double (FP.dsub (FP.dmul d2 (FP.l2d (own_t M 1))) (FP.l2d (own_t M 4)))), .second, .val (.int (5 : Int32)), .val (.double (FP.l2d (own_t M 4))), .second] [(.ref a1), (.int (5 : Int32))])) rfl rfl (hb hby d7_173)
        obtain ⟨fs, hr, hrun, hended, hW, hsame⟩ := X70.leave (v := some (.int (1 : Int32))) (fun h => by rw [Bd.returns] at h; cases h)
        refine ⟨_, _, pre33 _ ?_, hrun, hended, _, _, rfl, ?_, ⟨_, rfl⟩, hW, hsame.mono (by decide) (by decide)⟩
        · show Steps p.tables e below (T31.setTop (mkF m 52 #[.val (.ref a1), .val (.double d2), .second, .val (.double (FP.dmul d2 (FP.l2d (own_t M 1)))), .second, .val (.int (2 : Int32)), .val (.double (FP.l2d (own_t M 4))), .second] [(.int (cmpValue (FP.dcmp (FP.l2d (own_t M 5)) (FP.l2d 0)) .l))])) _
          refine XS.ifYes X31.here hx rfl (pc0 := 52) (pc' := 64) rfl (hb hby d7_52) rfl ((if0 _ _).trans (feq hc52_34).2) (by decide) (by decide) ?_
          show Steps p.tables e below (T31.setTop (mkF m 64 #[.val (.ref a1), .val (.double d2), .second, .val (.double (FP.dmul d2 (FP.l2d (own_t M 1)))), .second, .val (.int (2 : Int32)), .val (.double (FP.l2d (own_t M 4))), .second] [])) _
          refine XS.dloadN X31.here hx rfl (hb hby d7_64) rfl ?_
          show Steps p.tables e below (T31.setTop (mkF m 65 #[.val (.ref a1), .val (.double d2), .second, .val (.double (FP.dmul d2 (FP.l2d (own_t M 1)))), .second, .val (.int (2 : Int32)), .val (.double (FP.l2d (own_t M 4))), .second] [(.double (FP.dmul d2 (FP.l2d (own_t M 1))))])) _
          refine XS.dload X31.here hx rfl (hb hby d7_65) rfl ?_
          show Steps p.tables e below (T31.setTop (mkF m 67 #[.val (.ref a1), .val (.double d2), .second, .val (.double (FP.dmul d2 (FP.l2d (own_t M 1)))), .second, .val (.int (2 : Int32)), .val (.double (FP.l2d (own_t M 4))), .second] [(.double (FP.l2d (own_t M 4))), (.double (FP.dmul d2 (FP.l2d (own_t M 1))))])) _
          refine XS.dsubS X31.here hx rfl (hb hby d7_67) rfl (Jvm.Free.Fl.dsub_out (Jvm.Free.Fl.dmul_out hfr (Jvm.Free.Fl.l2d_fin _)) (Jvm.Free.Fl.l2d_fin _)) (v := (FP.dsub (FP.dmul d2 (FP.l2d (own_t M 1))) (FP.l2d (own_t M 4)))) rfl ?_
          show Steps p.tables e below (T31.setTop (mkF m 68 #[.val (.ref a1), .val (.double d2), .second, .val (.double (FP.dmul d2 (FP.l2d (own_t M 1)))), .second, .val (.int (2 : Int32)), .val (.double (FP.l2d (own_t M 4))), .second] [(.double (FP.dsub (FP.dmul d2 (FP.l2d (own_t M 1))) (FP.l2d (own_t M 4))))])) _
          refine XS.dstoreN X31.here hx rfl (hb hby d7_68) rfl (l' := #[.val (.ref a1), .val (.double d2), .second, .val (.double (FP.dsub (FP.dmul d2 (FP.l2d (own_t M 1))) (FP.l2d (own_t M 4)))), .second, .val (.int (2 : Int32)), .val (.double (FP.l2d (own_t M 4))), .second]) rfl ?_
          show Steps p.tables e below (T31.setTop (mkF m 69 #[.val (.ref a1), .val (.double d2), .second, .val (.double (FP.dsub (FP.dmul d2 (FP.l2d (own_t M 1))) (FP.l2d (own_t M 4)))), .second, .val (.int (2 : Int32)), .val (.double (FP.l2d (own_t M 4))), .second] [])) _
          refine XS.iconst X31.here hx rfl (hb hby d7_69) ?_
          show Steps p.tables e below (T31.setTop (mkF m 70 #[.val (.ref a1), .val (.double d2), .second, .val (.double (FP.dsub (FP.dmul d2 (FP.l2d (own_t M 1))) (FP.l2d (own_t M 4)))), .second, .val (.int (2 : Int32)), .val (.double (FP.l2d (own_t M 4))), .second] [(.int (2 : Int32))])) _
          refine XS.iload X31.here hx rfl (hb hby d7_70) rfl ?_
          show Steps p.tables e below (T31.setTop (mkF m 72 #[.val (.ref a1), .val (.double d2), .second, .val (.double (FP.dsub (FP.dmul d2 (FP.l2d (own_t M 1))) (FP.l2d (own_t M 4)))), .second, .val (.int (2 : Int32)), .val (.double (FP.l2d (own_t M 4))), .second] [(.int (2 : Int32)), (.int (2 : Int32))])) _
          refine XS.imul X31.here hx rfl (hb hby d7_72) rfl ?_
          show Steps p.tables e below (T31.setTop (mkF m 73 #[.val (.ref a1), .val (.double d2), .second, .val (.double (FP.dsub (FP.dmul d2 (FP.l2d (own_t M 1))) (FP.l2d (own_t M 4)))), .second, .val (.int (2 : Int32)), .val (.double (FP.l2d (own_t M 4))), .second] [(.int (4 : Int32))])) _
          refine XS.iconst X31.here hx rfl (hb hby d7_73) ?_
          show Steps p.tables e below (T31.setTop (mkF m 74 #[.val (.ref a1), .val (.double d2), .second, .val (.double (FP.dsub (FP.dmul d2 (FP.l2d (own_t M 1))) (FP.l2d (own_t M 4)))), .second, .val (.int (2 : Int32)), .val (.double (FP.l2d (own_t M 4))), .second] [(.int (1 : Int32)), (.int (4 : Int32))])) _
          refine XS.iadd X31.here hx rfl (hb hby d7_74) rfl ?_
          show Steps p.tables e below (T31.setTop (mkF m 75 #[.val (.ref a1), .val (.double d2), .second, .val (.double (FP.dsub (FP.dmul d2 (FP.l2d (own_t M 1))) (FP.l2d (own_t M 4)))), .second, .val (.int (2 : Int32)), .val (.double (FP.l2d (own_t M 4))), .second] [(.int (5 : Int32))])) _
          refine XS.istore X31.here hx rfl (hb hby d7_75) rfl (l' := #[.val (.ref a1), .val (.double d2), .second, .val (.double (FP.dsub (FP.dmul d2 (FP.l2d (own_t M 1))) (FP.l2d (own_t M 4)))), .second, .val (.int (5 : Int32)), .val (.double (FP.l2d (own_t M 4))), .second]) rfl ?_
          show Steps p.tables e below (T31.setTop (mkF m 77 #[.val (.ref a1), .val (.double d2), .second, .val (.double (FP.dsub (FP.dmul d2 (FP.l2d (own_t M 1))) (FP.l2d (own_t M 4)))), .second, .val (.int (5 : Int32)), .val (.double (FP.l2d (own_t M 4))), .second] [])) _
          refine XS.goto X31.here hx rfl (pc0 := 77) (pc' := 12) rfl (hb hby d7_77) (by decide) (by decide) ?_
          show Steps p.tables e below (T31.setTop (mkF m 12 #[.val (.ref a1), .val (.double d2), .second, .val (.double (FP.dsub (FP.dmul d2 (FP.l2d (own_t M 1))) (FP.l2d (own_t M 4)))), .second, .val (.int (5 : Int32)), .val (.double (FP.l2d (own_t M 4))), .second] [])) _
          refine XS.iload X31.here hx rfl (hb hby d7_12) rfl ?_
          show Steps p.tables e below (T31.setTop (mkF m 14 #[.val (.ref a1), .val (.double d2), .second, .val (.double (FP.dsub (FP.dmul d2 (FP.l2d (own_t M 1))) (FP.l2d (own_t M 4)))), .second, .val (.int (5 : Int32)), .val (.double (FP.l2d (own_t M 4))), .second] [(.int (5 : Int32))])) _
          refine XS.aloadN X31.here hx rfl (hb hby d7_14) rfl rfl ?_
          show Steps p.tables e below (T31.setTop (mkF m 15 #[.val (.ref a1), .val (.double d2), .second, .val (.double (FP.dsub (FP.dmul d2 (FP.l2d (own_t M 1))) (FP.l2d (own_t M 4)))), .second, .val (.int (5 : Int32)), .val (.double (FP.l2d (own_t M 4))), .second] [(.ref a1), (.int (5 : Int32))])) _
          refine st53 _ ?_
          show Steps p.tables e below (T53.setTop (mkF m 18 #[.val (.ref a1), .val (.double d2), .second, .val (.double (FP.dsub (FP.dmul d2 (FP.l2d (own_t M 1))) (FP.l2d (own_t M 4)))), .second, .val (.int (5 : Int32)), .val (.double (FP.l2d (own_t M 4))), .second] [(.int (4 : Int32)), (.int (5 : Int32))])) _
          refine XS.icmpYes X53.here hx rfl (pc0 := 18) (pc' := 80) rfl (hb hby d7_18) rfl (flt (by decide : ¬ ((5 : Int32) < (4 : Int32)))).2.1 (by decide) (by decide) ?_
          show Steps p.tables e below (T53.setTop (mkF m 80 #[.val (.ref a1), .val (.double d2), .second, .val (.double (FP.dsub (FP.dmul d2 (FP.l2d (own_t M 1))) (FP.l2d (own_t M 4)))), .second, .val (.int (5 : Int32)), .val (.double (FP.l2d (own_t M 4))), .second] [])) _
          refine XS.aloadN X53.here hx rfl (hb hby d7_80) rfl rfl ?_
          show Steps p.tables e below (T53.setTop (mkF m 81 #[.val (.ref a1), .val (.double d2), .second, .val (.double (FP.dsub (FP.dmul d2 (FP.l2d (own_t M 1))) (FP.l2d (own_t M 4)))), .second, .val (.int (5 : Int32)), .val (.double (FP.l2d (own_t M 4))), .second] [(.ref a1)])) _
          refine st54 _ ?_
          show Steps p.tables e below (T54.setTop (mkF m 84 #[.val (.ref a1), .val (.double d2), .second, .val (.double (FP.dsub (FP.dmul d2 (FP.l2d (own_t M 1))) (FP.l2d (own_t M 4)))), .second, .val (.int (5 : Int32)), .val (.double (FP.l2d (own_t M 4))), .second] [(.int cn)])) _
          refine XS.aloadN X54.here hx rfl (hb hby d7_84) rfl rfl ?_
          show Steps p.tables e below (T54.setTop (mkF m 85 #[.val (.ref a1), .val (.double d2), .second, .val (.double (FP.dsub (FP.dmul d2 (FP.l2d (own_t M 1))) (FP.l2d (own_t M 4)))), .second, .val (.int (5 : Int32)), .val (.double (FP.l2d (own_t M 4))), .second] [(.ref a1), (.int cn)])) _
          refine st55 _ ?_
          show Steps p.tables e below (T55.setTop (mkF m 88 #[.val (.ref a1), .val (.double d2), .second, .val (.double (FP.dsub (FP.dmul d2 (FP.l2d (own_t M 1))) (FP.l2d (own_t M 4)))), .second, .val (.int (5 : Int32)), .val (.double (FP.l2d (own_t M 4))), .second] [(.ref aD), (.int cn)])) _
          refine X55.arraylength hx (by rw [e55]; exact Ar56.1) (State.isArrayOf_alike hZ.alike Ar56.2.1) (g := (mkF m 88 #[.val (.ref a1), .val (.double d2), .second, .val (.double (FP.dsub (FP.dmul d2 (FP.l2d (own_t M 1))) (FP.l2d (own_t M 4)))), .second, .val (.int (5 : Int32)), .val (.double (FP.l2d (own_t M 4))), .second] [(.ref aD), (.int cn)])) rfl rfl (hb hby d7_88) _ ?_
          rw [show cl56.slots.size.toInt32 = (64 : Int32) from by rw [S56]; rfl]
          show Steps p.tables e below (T55.setTop (mkF m 89 #[.val (.ref a1), .val (.double d2), .second, .val (.double (FP.dsub (FP.dmul d2 (FP.l2d (own_t M 1))) (FP.l2d (own_t M 4)))), .second, .val (.int (5 : Int32)), .val (.double (FP.l2d (own_t M 4))), .second] [(.int (64 : Int32)), (.int cn)])) _
          refine XS.icmpYes X55.here hx rfl (pc0 := 89) (pc' := 126) rfl (hb hby d7_89) rfl (feq (hc.2.2 : ¬ (cn = (64 : Int32)))).2 (by decide) (by decide) ?_
          show Steps p.tables e below (T55.setTop (mkF m 126 #[.val (.ref a1), .val (.double d2), .second, .val (.double (FP.dsub (FP.dmul d2 (FP.l2d (own_t M 1))) (FP.l2d (own_t M 4)))), .second, .val (.int (5 : Int32)), .val (.double (FP.l2d (own_t M 4))), .second] [])) _
          refine XS.aloadN X55.here hx rfl (hb hby d7_126) rfl rfl ?_
          show Steps p.tables e below (T55.setTop (mkF m 127 #[.val (.ref a1), .val (.double d2), .second, .val (.double (FP.dsub (FP.dmul d2 (FP.l2d (own_t M 1))) (FP.l2d (own_t M 4)))), .second, .val (.int (5 : Int32)), .val (.double (FP.l2d (own_t M 4))), .second] [(.ref a1)])) _
          refine st57 _ ?_
          show Steps p.tables e below (T57.setTop (mkF m 130 #[.val (.ref a1), .val (.double d2), .second, .val (.double (FP.dsub (FP.dmul d2 (FP.l2d (own_t M 1))) (FP.l2d (own_t M 4)))), .second, .val (.int (5 : Int32)), .val (.double (FP.l2d (own_t M 4))), .second] [(.ref aD)])) _
          refine XS.aloadN X57.here hx rfl (hb hby d7_130) rfl rfl ?_
          show Steps p.tables e below (T57.setTop (mkF m 131 #[.val (.ref a1), .val (.double d2), .second, .val (.double (FP.dsub (FP.dmul d2 (FP.l2d (own_t M 1))) (FP.l2d (own_t M 4)))), .second, .val (.int (5 : Int32)), .val (.double (FP.l2d (own_t M 4))), .second] [(.ref a1), (.ref aD)])) _
          refine st58 _ ?_
          show Steps p.tables e below (T58.setTop (mkF m 134 #[.val (.ref a1), .val (.double d2), .second, .val (.double (FP.dsub (FP.dmul d2 (FP.l2d (own_t M 1))) (FP.l2d (own_t M 4)))), .second, .val (.int (5 : Int32)), .val (.double (FP.l2d (own_t M 4))), .second] [(.int cn), (.ref aD)])) _
          refine XS.iload X58.here hx rfl (hb hby d7_134) rfl ?_
          show Steps p.tables e below (T58.setTop (mkF m 136 #[.val (.ref a1), .val (.double d2), .second, .val (.double (FP.dsub (FP.dmul d2 (FP.l2d (own_t M 1))) (FP.l2d (own_t M 4)))), .second, .val (.int (5 : Int32)), .val (.double (FP.l2d (own_t M 4))), .second] [(.int (5 : Int32)), (.int cn), (.ref aD)])) _
          refine st59 _ ?_
          show Steps p.tables e below (T59.setTop (mkF m 137 #[.val (.ref a1), .val (.double d2), .second, .val (.double (FP.dsub (FP.dmul d2 (FP.l2d (own_t M 1))) (FP.l2d (own_t M 4)))), .second, .val (.int (5 : Int32)), .val (.double (FP.l2d (own_t M 4))), .second] [])) _
          refine XS.aloadN X59.here hx rfl (hb hby d7_137) rfl rfl ?_
          show Steps p.tables e below (T59.setTop (mkF m 138 #[.val (.ref a1), .val (.double d2), .second, .val (.double (FP.dsub (FP.dmul d2 (FP.l2d (own_t M 1))) (FP.l2d (own_t M 4)))), .second, .val (.int (5 : Int32)), .val (.double (FP.l2d (own_t M 4))), .second] [(.ref a1)])) _
          refine st61 _ ?_
          show Steps p.tables e below (T61.setTop (mkF m 141 #[.val (.ref a1), .val (.double d2), .second, .val (.double (FP.dsub (FP.dmul d2 (FP.l2d (own_t M 1))) (FP.l2d (own_t M 4)))), .second, .val (.int (5 : Int32)), .val (.double (FP.l2d (own_t M 4))), .second] [(.ref aE)])) _
          refine XS.aloadN X61.here hx rfl (hb hby d7_141) rfl rfl ?_
          show Steps p.tables e below (T61.setTop (mkF m 142 #[.val (.ref a1), .val (.double d2), .second, .val (.double (FP.dsub (FP.dmul d2 (FP.l2d (own_t M 1))) (FP.l2d (own_t M 4)))), .second, .val (.int (5 : Int32)), .val (.double (FP.l2d (own_t M 4))), .second] [(.ref a1), (.ref aE)])) _
          refine st62 _ ?_
          show Steps p.tables e below (T62.setTop (mkF m 145 #[.val (.ref a1), .val (.double d2), .second, .val (.double (FP.dsub (FP.dmul d2 (FP.l2d (own_t M 1))) (FP.l2d (own_t M 4)))), .second, .val (.int (5 : Int32)), .val (.double (FP.l2d (own_t M 4))), .second] [(.int cn), (.ref aE)])) _
          refine XS.aloadN X62.here hx rfl (hb hby d7_145) rfl rfl ?_
          show Steps p.tables e below (T62.setTop (mkF m 146 #[.val (.ref a1), .val (.double d2), .second, .val (.double (FP.dsub (FP.dmul d2 (FP.l2d (own_t M 1))) (FP.l2d (own_t M 4)))), .second, .val (.int (5 : Int32)), .val (.double (FP.l2d (own_t M 4))), .second] [(.ref a1), (.int cn), (.ref aE)])) _
          refine st63 _ ?_
          show Steps p.tables e below (T63.setTop (mkF m 149 #[.val (.ref a1), .val (.double d2), .second, .val (.double (FP.dsub (FP.dmul d2 (FP.l2d (own_t M 1))) (FP.l2d (own_t M 4)))), .second, .val (.int (5 : Int32)), .val (.double (FP.l2d (own_t M 4))), .second] [(.ref aS), (.int cn), (.ref aE)])) _
          refine XS.iload X63.here hx rfl (hb hby d7_149) rfl ?_
          show Steps p.tables e below (T63.setTop (mkF m 151 #[.val (.ref a1), .val (.double d2), .second, .val (.double (FP.dsub (FP.dmul d2 (FP.l2d (own_t M 1))) (FP.l2d (own_t M 4)))), .second, .val (.int (5 : Int32)), .val (.double (FP.l2d (own_t M 4))), .second] [(.int (5 : Int32)), (.ref aS), (.int cn), (.ref aE)])) _
          refine X63.daload hx (j := (5 : Int32)) (v := (.double (FP.l2d (own_t M 5)))) (by rw [e63]; exact Ar64.1) (State.isArrayOf_alike hZ.alike Ar64.2.1) Ar64.2.2 hin64 hat64 (g := (mkF m 151 #[.val (.ref a1), .val (.double d2), .second, .val (.double (FP.dsub (FP.dmul d2 (FP.l2d (own_t M 1))) (FP.l2d (own_t M 4)))), .second, .val (.int (5 : Int32)), .val (.double (FP.l2d (own_t M 4))), .second] [(.int (5 : Int32)), (.ref aS), (.int cn), (.ref aE)])) rfl rfl (hb hby d7_151) _ ?_
          show Steps p.tables e below (T63.setTop (mkF m 152 #[.val (.ref a1), .val (.double d2), .second, .val (.double (FP.dsub (FP.dmul d2 (FP.l2d (own_t M 1))) (FP.l2d (own_t M 4)))), .second, .val (.int (5 : Int32)), .val (.double (FP.l2d (own_t M 4))), .second] [(.double (FP.l2d (own_t M 5))), (.int cn), (.ref aE)])) _
          refine st65 _ ?_
          show Steps p.tables e below (T65.setTop (mkF m 153 #[.val (.ref a1), .val (.double d2), .second, .val (.double (FP.dsub (FP.dmul d2 (FP.l2d (own_t M 1))) (FP.l2d (own_t M 4)))), .second, .val (.int (5 : Int32)), .val (.double (FP.l2d (own_t M 4))), .second] [])) _
          refine XS.aloadN X65.here hx rfl (hb hby d7_153) rfl rfl ?_
          show Steps p.tables e below (T65.setTop (mkF m 154 #[.val (.ref a1), .val (.double d2), .second, .val (.double (FP.dsub (FP.dmul d2 (FP.l2d (own_t M 1))) (FP.l2d (own_t M 4)))), .second, .val (.int (5 : Int32)), .val (.double (FP.l2d (own_t M 4))), .second] [(.ref a1)])) _
          refine XS.dup X65.here hx rfl (hb hby d7_154) rfl rfl ?_
          show Steps p.tables e below (T65.setTop (mkF m 155 #[.val (.ref a1), .val (.double d2), .second, .val (.double (FP.dsub (FP.dmul d2 (FP.l2d (own_t M 1))) (FP.l2d (own_t M 4)))), .second, .val (.int (5 : Int32)), .val (.double (FP.l2d (own_t M 4))), .second] [(.ref a1), (.ref a1)])) _
          refine st67 _ ?_
          show Steps p.tables e below (T67.setTop (mkF m 158 #[.val (.ref a1), .val (.double d2), .second, .val (.double (FP.dsub (FP.dmul d2 (FP.l2d (own_t M 1))) (FP.l2d (own_t M 4)))), .second, .val (.int (5 : Int32)), .val (.double (FP.l2d (own_t M 4))), .second] [(.int cn), (.ref a1)])) _
          refine XS.iconst X67.here hx rfl (hb hby d7_158) ?_
          show Steps p.tables e below (T67.setTop (mkF m 159 #[.val (.ref a1), .val (.double d2), .second, .val (.double (FP.dsub (FP.dmul d2 (FP.l2d (own_t M 1))) (FP.l2d (own_t M 4)))), .second, .val (.int (5 : Int32)), .val (.double (FP.l2d (own_t M 4))), .second] [(.int (1 : Int32)), (.int cn), (.ref a1)])) _
          refine XS.iadd X67.here hx rfl (hb hby d7_159) rfl ?_
          show Steps p.tables e below (T67.setTop (mkF m 160 #[.val (.ref a1), .val (.double d2), .second, .val (.double (FP.dsub (FP.dmul d2 (FP.l2d (own_t M 1))) (FP.l2d (own_t M 4)))), .second, .val (.int (5 : Int32)), .val (.double (FP.l2d (own_t M 4))), .second] [(.int (cn + (1 : Int32))), (.ref a1)])) _
          refine st68 _ ?_
          show Steps p.tables e below (T68.setTop (mkF m 163 #[.val (.ref a1), .val (.double d2), .second, .val (.double (FP.dsub (FP.dmul d2 (FP.l2d (own_t M 1))) (FP.l2d (own_t M 4)))), .second, .val (.int (5 : Int32)), .val (.double (FP.l2d (own_t M 4))), .second] [])) _
          refine XS.aloadN X68.here hx rfl (hb hby d7_163) rfl rfl ?_
          show Steps p.tables e below (T68.setTop (mkF m 164 #[.val (.ref a1), .val (.double d2), .second, .val (.double (FP.dsub (FP.dmul d2 (FP.l2d (own_t M 1))) (FP.l2d (own_t M 4)))), .second, .val (.int (5 : Int32)), .val (.double (FP.l2d (own_t M 4))), .second] [(.ref a1)])) _
          refine XS.iload X68.here hx rfl (hb hby d7_164) rfl ?_
          show Steps p.tables e below (T68.setTop (mkF m 166 #[.val (.ref a1), .val (.double d2), .second, .val (.double (FP.dsub (FP.dmul d2 (FP.l2d (own_t M 1))) (FP.l2d (own_t M 4)))), .second, .val (.int (5 : Int32)), .val (.double (FP.l2d (own_t M 4))), .second] [(.int (5 : Int32)), (.ref a1)])) _
          refine XS.dconst0 X68.here hx rfl (hb hby d7_166) (v := (FP.l2d 0)) (by decide +kernel) ?_
          show Steps p.tables e below (T68.setTop (mkF m 167 #[.val (.ref a1), .val (.double d2), .second, .val (.double (FP.dsub (FP.dmul d2 (FP.l2d (own_t M 1))) (FP.l2d (own_t M 4)))), .second, .val (.int (5 : Int32)), .val (.double (FP.l2d (own_t M 4))), .second] [(.double (FP.l2d 0)), (.int (5 : Int32)), (.ref a1)])) _
          refine st69.trans ?_
          show Steps p.tables e below (T69.setTop (mkF m 170 #[.val (.ref a1), .val (.double d2), .second, .val (.double (FP.dsub (FP.dmul d2 (FP.l2d (own_t M 1))) (FP.l2d (own_t M 4)))), .second, .val (.int (5 : Int32)), .val (.double (FP.l2d (own_t M 4))), .second] [])) _
          refine XS.iload X69.here hx rfl (hb hby d7_170) rfl ?_
          show Steps p.tables e below (T69.setTop (mkF m 172 #[.val (.ref a1), .val (.double d2), .second, .val (.double (FP.dsub (FP.dmul d2 (FP.l2d (own_t M 1))) (FP.l2d (own_t M 4)))), .second, .val (.int (5 : Int32)), .val (.double (FP.l2d (own_t M 4))), .second] [(.int (5 : Int32))])) _
          refine XS.aloadN X69.here hx rfl (hb hby d7_172) rfl rfl ?_
          show Steps p.tables e below (T69.setTop (mkF m 173 #[.val (.ref a1), .val (.double d2), .second, .val (.double (FP.dsub (FP.dmul d2 (FP.l2d (own_t M 1))) (FP.l2d (own_t M 4)))), .second, .val (.int (5 : Int32)), .val (.double (FP.l2d (own_t M 4))), .second] [(.ref a1), (.int (5 : Int32))])) _
          refine st70 _ ?_
          show Steps p.tables e below (T70.setTop (mkF m 176 #[.val (.ref a1), .val (.double d2), .second, .val (.double (FP.dsub (FP.dmul d2 (FP.l2d (own_t M 1))) (FP.l2d (own_t M 4)))), .second, .val (.int (5 : Int32)), .val (.double (FP.l2d (own_t M 4))), .second] [(.int (4 : Int32)), (.int (5 : Int32))])) _
          refine XS.isub X70.here hx rfl (hb hby d7_176) rfl ?_
          show Steps p.tables e below (T70.setTop (mkF m 177 #[.val (.ref a1), .val (.double d2), .second, .val (.double (FP.dsub (FP.dmul d2 (FP.l2d (own_t M 1))) (FP.l2d (own_t M 4)))), .second, .val (.int (5 : Int32)), .val (.double (FP.l2d (own_t M 4))), .second] [(.int (1 : Int32))])) _
          exact retI X70 hx Bd.returns (hb hby d7_177) hr
        · show Q_rdr Z a1 d2 aS aD aE cn M D X h0 n0 _ T70.heap _
          rw [e70]
          have hpk : own_pick M d2 = (5 : Int32) := by rw [own_pick, if_pos hc36_7, own_n2, if_neg hc36_12, if_neg hc52_34]
          exact (by rw [Q_rdr, hpk]; exact ⟨rfl, N69, KK69, F_leaves_v69, F_sums_v69, F_drawn_v69, F_drawnWeights_v69, F68_v69, nf69_v69, VN60_v69, VX66_v69⟩)
  · obtain ⟨T71, X71, e71, st71⟩ := getF X4 hx hZ hown (host := "") (Or.inl (hw _ (List.mem_of_getElem? (i := 26) rfl))) Via.refl e4 F_sums (g := (mkF m 40 #[.val (.ref a1), .val (.double d2), .second, .val (.double (FP.dmul d2 (FP.l2d (own_t M 1)))), .second, .val (.int (1 : Int32)), .val (.double (FP.l2d (own_t M 2))), .second] [(.ref a1)])) rfl rfl (hb hby d7_40)
    obtain ⟨cl72, Ar72, S72, H72⟩ := id Vs
    have hin72 : ¬ ((3 : Int32) < 0 ∨ cl72.slots.size ≤ ((3 : Int32)).toNatClampNeg) := inA S72 (by decide) (by decide)
    have hat72 : cl72.slots[((3 : Int32)).toNatClampNeg]? = some (.double (FP.l2d (own_t M 3))) := ArF.at S72 H72 hin72 rfl
    have pre73 : ∀ t, Steps p.tables e below (T71.setTop (mkF m 52 #[.val (.ref a1), .val (.double d2), .second, .val (.double (FP.dmul d2 (FP.l2d (own_t M 1)))), .second, .val (.int (1 : Int32)), .val (.double (FP.l2d (own_t M 2))), .second] [(.int (cmpValue (FP.dcmp (FP.l2d (own_t M 3)) (FP.l2d 0)) .l))])) t → Steps p.tables e below (s₁.setTop (entryFrame m #[(.ref a1), (.double d2)] 8)) t := by
      intro t k
      refine pre6 t ?_
      show Steps p.tables e below (T4.setTop (mkF m 36 #[.val (.ref a1), .val (.double d2), .second, .val (.double (FP.dmul d2 (FP.l2d (own_t M 1)))), .second, .val (.int (1 : Int32)), .val (.double (FP.l2d (own_t M 2))), .second] [(.int (cmpValue (FP.dcmp (FP.dmul d2 (FP.l2d (own_t M 1))) (FP.l2d (own_t M 2))) .g))])) _
      refine XS.ifNo X4.here hx rfl (hb hby d7_36) rfl ((if0 _ _).trans (flt hc36_7).1) ?_
      show Steps p.tables e below (T4.setTop (mkF m 39 #[.val (.ref a1), .val (.double d2), .second, .val (.double (FP.dmul d2 (FP.l2d (own_t M 1)))), .second, .val (.int (1 : Int32)), .val (.double (FP.l2d (own_t M 2))), .second] [])) _
      refine XS.aloadN X4.here hx rfl (hb hby d7_39) rfl rfl ?_
      show Steps p.tables e below (T4.setTop (mkF m 40 #[.val (.ref a1), .val (.double d2), .second, .val (.double (FP.dmul d2 (FP.l2d (own_t M 1)))), .second, .val (.int (1 : Int32)), .val (.double (FP.l2d (own_t M 2))), .second] [(.ref a1)])) _
      refine st71 _ ?_
      show Steps p.tables e below (T71.setTop (mkF m 43 #[.val (.ref a1), .val (.double d2), .second, .val (.double (FP.dmul d2 (FP.l2d (own_t M 1)))), .second, .val (.int (1 : Int32)), .val (.double (FP.l2d (own_t M 2))), .second] [(.ref aS)])) _
      refine XS.iconst X71.here hx rfl (hb hby d7_43) ?_
      show Steps p.tables e below (T71.setTop (mkF m 44 #[.val (.ref a1), .val (.double d2), .second, .val (.double (FP.dmul d2 (FP.l2d (own_t M 1)))), .second, .val (.int (1 : Int32)), .val (.double (FP.l2d (own_t M 2))), .second] [(.int (2 : Int32)), (.ref aS)])) _
      refine XS.iload X71.here hx rfl (hb hby d7_44) rfl ?_
      show Steps p.tables e below (T71.setTop (mkF m 46 #[.val (.ref a1), .val (.double d2), .second, .val (.double (FP.dmul d2 (FP.l2d (own_t M 1)))), .second, .val (.int (1 : Int32)), .val (.double (FP.l2d (own_t M 2))), .second] [(.int (1 : Int32)), (.int (2 : Int32)), (.ref aS)])) _
      refine XS.imul X71.here hx rfl (hb hby d7_46) rfl ?_
      show Steps p.tables e below (T71.setTop (mkF m 47 #[.val (.ref a1), .val (.double d2), .second, .val (.double (FP.dmul d2 (FP.l2d (own_t M 1)))), .second, .val (.int (1 : Int32)), .val (.double (FP.l2d (own_t M 2))), .second] [(.int (2 : Int32)), (.ref aS)])) _
      refine XS.iconst X71.here hx rfl (hb hby d7_47) ?_
      show Steps p.tables e below (T71.setTop (mkF m 48 #[.val (.ref a1), .val (.double d2), .second, .val (.double (FP.dmul d2 (FP.l2d (own_t M 1)))), .second, .val (.int (1 : Int32)), .val (.double (FP.l2d (own_t M 2))), .second] [(.int (1 : Int32)), (.int (2 : Int32)), (.ref aS)])) _
      refine XS.iadd X71.here hx rfl (hb hby d7_48) rfl ?_
      show Steps p.tables e below (T71.setTop (mkF m 49 #[.val (.ref a1), .val (.double d2), .second, .val (.double (FP.dmul d2 (FP.l2d (own_t M 1)))), .second, .val (.int (1 : Int32)), .val (.double (FP.l2d (own_t M 2))), .second] [(.int (3 : Int32)), (.ref aS)])) _
      refine X71.daload hx (j := (3 : Int32)) (v := (.double (FP.l2d (own_t M 3)))) (by rw [e71]; exact Ar72.1) (State.isArrayOf_alike hZ.alike Ar72.2.1) Ar72.2.2 hin72 hat72 (g := (mkF m 49 #[.val (.ref a1), .val (.double d2), .second, .val (.double (FP.dmul d2 (FP.l2d (own_t M 1)))), .second, .val (.int (1 : Int32)), .val (.double (FP.l2d (own_t M 2))), .second] [(.int (3 : Int32)), (.ref aS)])) rfl rfl (hb hby d7_49) _ ?_
      show Steps p.tables e below (T71.setTop (mkF m 50 #[.val (.ref a1), .val (.double d2), .second, .val (.double (FP.dmul d2 (FP.l2d (own_t M 1)))), .second, .val (.int (1 : Int32)), .val (.double (FP.l2d (own_t M 2))), .second] [(.double (FP.l2d (own_t M 3)))])) _
      refine XS.dconst0 X71.here hx rfl (hb hby d7_50) (v := (FP.l2d 0)) (by decide +kernel) ?_
      show Steps p.tables e below (T71.setTop (mkF m 51 #[.val (.ref a1), .val (.double d2), .second, .val (.double (FP.dmul d2 (FP.l2d (own_t M 1)))), .second, .val (.int (1 : Int32)), .val (.double (FP.l2d (own_t M 2))), .second] [(.double (FP.l2d 0)), (.double (FP.l2d (own_t M 3)))])) _
      refine XS.dcmpS X71.here hx rfl (hb hby d7_51) rfl rfl ?_
      exact k
    by_cases hc52_74 : (cmpValue (FP.dcmp (FP.l2d (own_t M 3)) (FP.l2d 0)) .l) = (0 : Int32)
    · obtain ⟨T75, X75, e75, st75⟩ := getF X71 hx hZ hown (host := "") (Or.inl (hw _ (List.mem_of_getElem? (i := 24) rfl))) Via.refl e71 F_leaves (g := (mkF m 15 #[.val (.ref a1), .val (.double d2), .second, .val (.double (FP.dmul d2 (FP.l2d (own_t M 1)))), .second, .val (.int (2 : Int32)), .val (.double (FP.l2d (own_t M 2))), .second] [(.ref a1), (.int (2 : Int32))])) rfl rfl (hb hby d7_15)
      obtain ⟨T76, X76, e76, st76⟩ := getF X75 hx hZ hown (host := "") (Or.inl (hw _ (List.mem_of_getElem? (i := 26) rfl))) Via.refl e75 F_sums (g := (mkF m 22 #[.val (.ref a1), .val (.double d2), .second, .val (.double (FP.dmul d2 (FP.l2d (own_t M 1)))), .second, .val (.int (2 : Int32)), .val (.double (FP.l2d (own_t M 2))), .second] [(.ref a1)])) rfl rfl (hb hby d7_22)
      obtain ⟨cl77, Ar77, S77, H77⟩ := id Vs
      have hin77 : ¬ ((4 : Int32) < 0 ∨ cl77.slots.size ≤ ((4 : Int32)).toNatClampNeg) := inA S77 (by decide) (by decide)
      have hat77 : cl77.slots[((4 : Int32)).toNatClampNeg]? = some (.double (FP.l2d (own_t M 4))) := ArF.at S77 H77 hin77 rfl
      have pre78 : ∀ t, Steps p.tables e below (T76.setTop (mkF m 36 #[.val (.ref a1), .val (.double d2), .second, .val (.double (FP.dmul d2 (FP.l2d (own_t M 1)))), .second, .val (.int (2 : Int32)), .val (.double (FP.l2d (own_t M 4))), .second] [(.int (cmpValue (FP.dcmp (FP.dmul d2 (FP.l2d (own_t M 1))) (FP.l2d (own_t M 4))) .g))])) t → Steps p.tables e below (s₁.setTop (entryFrame m #[(.ref a1), (.double d2)] 8)) t := by
        intro t k
        refine pre73 t ?_
        show Steps p.tables e below (T71.setTop (mkF m 52 #[.val (.ref a1), .val (.double d2), .second, .val (.double (FP.dmul d2 (FP.l2d (own_t M 1)))), .second, .val (.int (1 : Int32)), .val (.double (FP.l2d (own_t M 2))), .second] [(.int (cmpValue (FP.dcmp (FP.l2d (own_t M 3)) (FP.l2d 0)) .l))])) _
        refine XS.ifNo X71.here hx rfl (hb hby d7_52) rfl ((if0 _ _).trans (teq hc52_74).2) ?_
        show Steps p.tables e below (T71.setTop (mkF m 55 #[.val (.ref a1), .val (.double d2), .second, .val (.double (FP.dmul d2 (FP.l2d (own_t M 1)))), .second, .val (.int (1 : Int32)), .val (.double (FP.l2d (own_t M 2))), .second] [])) _
        refine XS.iconst X71.here hx rfl (hb hby d7_55) ?_
        show Steps p.tables e below (T71.setTop (mkF m 56 #[.val (.ref a1), .val (.double d2), .second, .val (.double (FP.dmul d2 (FP.l2d (own_t M 1)))), .second, .val (.int (1 : Int32)), .val (.double (FP.l2d (own_t M 2))), .second] [(.int (2 : Int32))])) _
        refine XS.iload X71.here hx rfl (hb hby d7_56) rfl ?_
        show Steps p.tables e below (T71.setTop (mkF m 58 #[.val (.ref a1), .val (.double d2), .second, .val (.double (FP.dmul d2 (FP.l2d (own_t M 1)))), .second, .val (.int (1 : Int32)), .val (.double (FP.l2d (own_t M 2))), .second] [(.int (1 : Int32)), (.int (2 : Int32))])) _
        refine XS.imul X71.here hx rfl (hb hby d7_58) rfl ?_
        show Steps p.tables e below (T71.setTop (mkF m 59 #[.val (.ref a1), .val (.double d2), .second, .val (.double (FP.dmul d2 (FP.l2d (own_t M 1)))), .second, .val (.int (1 : Int32)), .val (.double (FP.l2d (own_t M 2))), .second] [(.int (2 : Int32))])) _
        refine XS.istore X71.here hx rfl (hb hby d7_59) rfl (l' := #[.val (.ref a1), .val (.double d2), .second, .val (.double (FP.dmul d2 (FP.l2d (own_t M 1)))), .second, .val (.int (2 : Int32)), .val (.double (FP.l2d (own_t M 2))), .second]) rfl ?_
        show Steps p.tables e below (T71.setTop (mkF m 61 #[.val (.ref a1), .val (.double d2), .second, .val (.double (FP.dmul d2 (FP.l2d (own_t M 1)))), .second, .val (.int (2 : Int32)), .val (.double (FP.l2d (own_t M 2))), .second] [])) _
        refine XS.goto X71.here hx rfl (pc0 := 61) (pc' := 77) rfl (hb hby d7_61) (by decide) (by decide) ?_
        show Steps p.tables e below (T71.setTop (mkF m 77 #[.val (.ref a1), .val (.double d2), .second, .val (.double (FP.dmul d2 (FP.l2d (own_t M 1)))), .second, .val (.int (2 : Int32)), .val (.double (FP.l2d (own_t M 2))), .second] [])) _
        refine XS.goto X71.here hx rfl (pc0 := 77) (pc' := 12) rfl (hb hby d7_77) (by decide) (by decide) ?_
        show Steps p.tables e below (T71.setTop (mkF m 12 #[.val (.ref a1), .val (.double d2), .second, .val (.double (FP.dmul d2 (FP.l2d (own_t M 1)))), .second, .val (.int (2 : Int32)), .val (.double (FP.l2d (own_t M 2))), .second] [])) _
        refine XS.iload X71.here hx rfl (hb hby d7_12) rfl ?_
        show Steps p.tables e below (T71.setTop (mkF m 14 #[.val (.ref a1), .val (.double d2), .second, .val (.double (FP.dmul d2 (FP.l2d (own_t M 1)))), .second, .val (.int (2 : Int32)), .val (.double (FP.l2d (own_t M 2))), .second] [(.int (2 : Int32))])) _
        refine XS.aloadN X71.here hx rfl (hb hby d7_14) rfl rfl ?_
        show Steps p.tables e below (T71.setTop (mkF m 15 #[.val (.ref a1), .val (.double d2), .second, .val (.double (FP.dmul d2 (FP.l2d (own_t M 1)))), .second, .val (.int (2 : Int32)), .val (.double (FP.l2d (own_t M 2))), .second] [(.ref a1), (.int (2 : Int32))])) _
        refine st75 _ ?_
        show Steps p.tables e below (T75.setTop (mkF m 18 #[.val (.ref a1), .val (.double d2), .second, .val (.double (FP.dmul d2 (FP.l2d (own_t M 1)))), .second, .val (.int (2 : Int32)), .val (.double (FP.l2d (own_t M 2))), .second] [(.int (4 : Int32)), (.int (2 : Int32))])) _
        refine XS.icmpNo X75.here hx rfl (hb hby d7_18) rfl (tlt (by decide : ((2 : Int32) < (4 : Int32)))).2.1 ?_
        show Steps p.tables e below (T75.setTop (mkF m 21 #[.val (.ref a1), .val (.double d2), .second, .val (.double (FP.dmul d2 (FP.l2d (own_t M 1)))), .second, .val (.int (2 : Int32)), .val (.double (FP.l2d (own_t M 2))), .second] [])) _
        refine XS.aloadN X75.here hx rfl (hb hby d7_21) rfl rfl ?_
        show Steps p.tables e below (T75.setTop (mkF m 22 #[.val (.ref a1), .val (.double d2), .second, .val (.double (FP.dmul d2 (FP.l2d (own_t M 1)))), .second, .val (.int (2 : Int32)), .val (.double (FP.l2d (own_t M 2))), .second] [(.ref a1)])) _
        refine st76 _ ?_
        show Steps p.tables e below (T76.setTop (mkF m 25 #[.val (.ref a1), .val (.double d2), .second, .val (.double (FP.dmul d2 (FP.l2d (own_t M 1)))), .second, .val (.int (2 : Int32)), .val (.double (FP.l2d (own_t M 2))), .second] [(.ref aS)])) _
        refine XS.iconst X76.here hx rfl (hb hby d7_25) ?_
        show Steps p.tables e below (T76.setTop (mkF m 26 #[.val (.ref a1), .val (.double d2), .second, .val (.double (FP.dmul d2 (FP.l2d (own_t M 1)))), .second, .val (.int (2 : Int32)), .val (.double (FP.l2d (own_t M 2))), .second] [(.int (2 : Int32)), (.ref aS)])) _
        refine XS.iload X76.here hx rfl (hb hby d7_26) rfl ?_
        show Steps p.tables e below (T76.setTop (mkF m 28 #[.val (.ref a1), .val (.double d2), .second, .val (.double (FP.dmul d2 (FP.l2d (own_t M 1)))), .second, .val (.int (2 : Int32)), .val (.double (FP.l2d (own_t M 2))), .second] [(.int (2 : Int32)), (.int (2 : Int32)), (.ref aS)])) _
        refine XS.imul X76.here hx rfl (hb hby d7_28) rfl ?_
        show Steps p.tables e below (T76.setTop (mkF m 29 #[.val (.ref a1), .val (.double d2), .second, .val (.double (FP.dmul d2 (FP.l2d (own_t M 1)))), .second, .val (.int (2 : Int32)), .val (.double (FP.l2d (own_t M 2))), .second] [(.int (4 : Int32)), (.ref aS)])) _
        refine X76.daload hx (j := (4 : Int32)) (v := (.double (FP.l2d (own_t M 4)))) (by rw [e76]; exact Ar77.1) (State.isArrayOf_alike hZ.alike Ar77.2.1) Ar77.2.2 hin77 hat77 (g := (mkF m 29 #[.val (.ref a1), .val (.double d2), .second, .val (.double (FP.dmul d2 (FP.l2d (own_t M 1)))), .second, .val (.int (2 : Int32)), .val (.double (FP.l2d (own_t M 2))), .second] [(.int (4 : Int32)), (.ref aS)])) rfl rfl (hb hby d7_29) _ ?_
        show Steps p.tables e below (T76.setTop (mkF m 30 #[.val (.ref a1), .val (.double d2), .second, .val (.double (FP.dmul d2 (FP.l2d (own_t M 1)))), .second, .val (.int (2 : Int32)), .val (.double (FP.l2d (own_t M 2))), .second] [(.double (FP.l2d (own_t M 4)))])) _
        refine XS.dstore X76.here hx rfl (hb hby d7_30) rfl (l' := #[.val (.ref a1), .val (.double d2), .second, .val (.double (FP.dmul d2 (FP.l2d (own_t M 1)))), .second, .val (.int (2 : Int32)), .val (.double (FP.l2d (own_t M 4))), .second]) rfl ?_
        show Steps p.tables e below (T76.setTop (mkF m 32 #[.val (.ref a1), .val (.double d2), .second, .val (.double (FP.dmul d2 (FP.l2d (own_t M 1)))), .second, .val (.int (2 : Int32)), .val (.double (FP.l2d (own_t M 4))), .second] [])) _
        refine XS.dloadN X76.here hx rfl (hb hby d7_32) rfl ?_
        show Steps p.tables e below (T76.setTop (mkF m 33 #[.val (.ref a1), .val (.double d2), .second, .val (.double (FP.dmul d2 (FP.l2d (own_t M 1)))), .second, .val (.int (2 : Int32)), .val (.double (FP.l2d (own_t M 4))), .second] [(.double (FP.dmul d2 (FP.l2d (own_t M 1))))])) _
        refine XS.dload X76.here hx rfl (hb hby d7_33) rfl ?_
        show Steps p.tables e below (T76.setTop (mkF m 35 #[.val (.ref a1), .val (.double d2), .second, .val (.double (FP.dmul d2 (FP.l2d (own_t M 1)))), .second, .val (.int (2 : Int32)), .val (.double (FP.l2d (own_t M 4))), .second] [(.double (FP.l2d (own_t M 4))), (.double (FP.dmul d2 (FP.l2d (own_t M 1))))])) _
        refine XS.dcmpS X76.here hx rfl (hb hby d7_35) rfl rfl ?_
        exact k
      by_cases hc36_79 : (cmpValue (FP.dcmp (FP.dmul d2 (FP.l2d (own_t M 1))) (FP.l2d (own_t M 4))) .g) < (0 : Int32)
      · obtain ⟨T80, X80, e80, st80⟩ := getF X76 hx hZ hown (host := "") (Or.inl (hw _ (List.mem_of_getElem? (i := 24) rfl))) Via.refl e76 F_leaves (g := (mkF m 15 #[.val (.ref a1), .val (.double d2), .second, .val (.double (FP.dmul d2 (FP.l2d (own_t M 1)))), .second, .val (.int (4 : Int32)), .val (.double (FP.l2d (own_t M 4))), .second] [(.ref a1), (.int (4 : Int32))])) rfl rfl (hb hby d7_15)
        obtain ⟨T81, X81, e81, st81⟩ := getF X80 hx hZ hown (host := "") (Or.inl (hw _ (List.mem_of_getElem? (i := 45) rfl))) Via.refl e80 F_drawnCount (g := (mkF m 81 #[.val (.ref a1), .val (.double d2), .second, .val (.double (FP.dmul d2 (FP.l2d (own_t M 1)))), .second, .val (.int (4 : Int32)), .val (.double (FP.l2d (own_t M 4))), .second] [(.ref a1)])) rfl rfl (hb hby d7_81)
        obtain ⟨T82, X82, e82, st82⟩ := getF X81 hx hZ hown (host := "") (Or.inl (hw _ (List.mem_of_getElem? (i := 11) rfl))) Via.refl e81 F_drawn (g := (mkF m 85 #[.val (.ref a1), .val (.double d2), .second, .val (.double (FP.dmul d2 (FP.l2d (own_t M 1)))), .second, .val (.int (4 : Int32)), .val (.double (FP.l2d (own_t M 4))), .second] [(.ref a1), (.int cn)])) rfl rfl (hb hby d7_85)
        obtain ⟨cl83, Ar83, S83, H83⟩ := id Vd
        obtain ⟨T84, X84, e84, st84⟩ := getF X82 hx hZ hown (host := "") (Or.inl (hw _ (List.mem_of_getElem? (i := 11) rfl))) Via.refl e82 F_drawn (g := (mkF m 127 #[.val (.ref a1), .val (.double d2), .second, .val (.double (FP.dmul d2 (FP.l2d (own_t M 1)))), .second, .val (.int (4 : Int32)), .val (.double (FP.l2d (own_t M 4))), .second] [(.ref a1)])) rfl rfl (hb hby d7_127)
        obtain ⟨T85, X85, e85, st85⟩ := getF X84 hx hZ hown (host := "") (Or.inl (hw _ (List.mem_of_getElem? (i := 45) rfl))) Via.refl e84 F_drawnCount (g := (mkF m 131 #[.val (.ref a1), .val (.double d2), .second, .val (.double (FP.dmul d2 (FP.l2d (own_t M 1)))), .second, .val (.int (4 : Int32)), .val (.double (FP.l2d (own_t M 4))), .second] [(.ref a1), (.ref aD)])) rfl rfl (hb hby d7_131)
        obtain ⟨cl86, Ar86, S86, H86⟩ := id Vd
        have hin86 : ¬ (cn < 0 ∨ cl86.slots.size ≤ (cn).toNatClampNeg) := inA S86 hc.1 hc.2.1
        obtain ⟨T86, h86, X86, e86, W86, st86⟩ := stI X85 hx hZ e85 Ar86 (j := cn) hin86 (g := (mkF m 136 #[.val (.ref a1), .val (.double d2), .second, .val (.double (FP.dmul d2 (FP.l2d (own_t M 1)))), .second, .val (.int (4 : Int32)), .val (.double (FP.l2d (own_t M 4))), .second] [(.int (4 : Int32)), (.int cn), (.ref aD)])) rfl rfl (hb hby d7_136)
        have Ex_v86 := Ex.wr W86
        have F_leaves_v86 := F_leaves.other W86 (Or.inl n2)
        have F_sums_v86 := F_sums.other W86 (Or.inl n2)
        have F_drawn_v86 := F_drawn.other W86 (Or.inl n2)
        have F_drawnWeights_v86 := F_drawnWeights.other W86 (Or.inl n2)
        have F_drawnCount_v86 := F_drawnCount.other W86 (Or.inl n2)
        have Vs_v86 := Vs.other W86 n4
        have Ve_v86 := Ve.other W86 (Ne.symm n6)
        have Z86 : n0 ≤ h86.size := Nat.le_trans Z0 (Nat.le_of_eq W86.size.symm)
        have K86 := K0.wr W86 (Or.inl (by simp))
        have V86_v86 := ArF.set Ar86 S86 H86 W86 hin86
        have N86 := Fr.snoc X86 N0 gd
        have VN87_v87 : ArF Z h86 aD .int 64 (fun i => .int ((own_upN D cn (4 : Int32)) i)) := V86_v86.congr (fun i hi => own_upV D cn (4 : Int32) i)
        obtain ⟨T88, X88, e88, st88⟩ := getF X86 hx hZ hown (host := "") (Or.inl (hw _ (List.mem_of_getElem? (i := 13) rfl))) Via.refl e86 F_drawnWeights_v86 (g := (mkF m 138 #[.val (.ref a1), .val (.double d2), .second, .val (.double (FP.dmul d2 (FP.l2d (own_t M 1)))), .second, .val (.int (4 : Int32)), .val (.double (FP.l2d (own_t M 4))), .second] [(.ref a1)])) rfl rfl (hb hby d7_138)
        obtain ⟨T89, X89, e89, st89⟩ := getF X88 hx hZ hown (host := "") (Or.inl (hw _ (List.mem_of_getElem? (i := 45) rfl))) Via.refl e88 F_drawnCount_v86 (g := (mkF m 142 #[.val (.ref a1), .val (.double d2), .second, .val (.double (FP.dmul d2 (FP.l2d (own_t M 1)))), .second, .val (.int (4 : Int32)), .val (.double (FP.l2d (own_t M 4))), .second] [(.ref a1), (.ref aE)])) rfl rfl (hb hby d7_142)
        obtain ⟨T90, X90, e90, st90⟩ := getF X89 hx hZ hown (host := "") (Or.inl (hw _ (List.mem_of_getElem? (i := 26) rfl))) Via.refl e89 F_sums_v86 (g := (mkF m 146 #[.val (.ref a1), .val (.double d2), .second, .val (.double (FP.dmul d2 (FP.l2d (own_t M 1)))), .second, .val (.int (4 : Int32)), .val (.double (FP.l2d (own_t M 4))), .second] [(.ref a1), (.int cn), (.ref aE)])) rfl rfl (hb hby d7_146)
        obtain ⟨cl91, Ar91, S91, H91⟩ := id Vs_v86
        have hin91 : ¬ ((4 : Int32) < 0 ∨ cl91.slots.size ≤ ((4 : Int32)).toNatClampNeg) := inA S91 (by decide) (by decide)
        have hat91 : cl91.slots[((4 : Int32)).toNatClampNeg]? = some (.double (FP.l2d (own_t M 4))) := ArF.at S91 H91 hin91 rfl
        obtain ⟨cl92, Ar92, S92, H92⟩ := id Ve_v86
        have hin92 : ¬ (cn < 0 ∨ cl92.slots.size ≤ (cn).toNatClampNeg) := inA S92 hc.1 hc.2.1
        obtain ⟨T92, h92, X92, e92, W92, st92⟩ := stD X90 hx hZ e90 Ar92 (j := cn) hin92 (g := (mkF m 152 #[.val (.ref a1), .val (.double d2), .second, .val (.double (FP.dmul d2 (FP.l2d (own_t M 1)))), .second, .val (.int (4 : Int32)), .val (.double (FP.l2d (own_t M 4))), .second] [(.double (FP.l2d (own_t M 4))), (.int cn), (.ref aE)])) rfl rfl (hb hby d7_152)
        have Ex_v92 := Ex_v86.wr W92
        have F_leaves_v92 := F_leaves_v86.other W92 (Or.inl n3)
        have F_sums_v92 := F_sums_v86.other W92 (Or.inl n3)
        have F_drawn_v92 := F_drawn_v86.other W92 (Or.inl n3)
        have F_drawnWeights_v92 := F_drawnWeights_v86.other W92 (Or.inl n3)
        have F_drawnCount_v92 := F_drawnCount_v86.other W92 (Or.inl n3)
        have Vs_v92 := Vs_v86.other W92 n5
        have VN87_v92 := VN87_v87.other W92 n6
        have Z92 : n0 ≤ h92.size := Nat.le_trans Z86 (Nat.le_of_eq W92.size.symm)
        have K92 := K86.wr W92 (Or.inl (by simp))
        have V92_v92 := ArF.set Ar92 S92 H92 W92 hin92
        have N92 := Fr.snoc X92 N86 ge
        have VX93_v93 : ArF Z h92 aE .double 64 (fun i => .double (FP.l2d ((own_upX X cn (own_t M 4)) i))) := V92_v92.congr (fun i hi => own_upW X cn (own_t M 4) i)
        obtain ⟨T94, X94, e94, st94⟩ := getF X92 hx hZ hown (host := "") (Or.inl (hw _ (List.mem_of_getElem? (i := 45) rfl))) Via.refl e92 F_drawnCount_v92 (g := (mkF m 155 #[.val (.ref a1), .val (.double d2), .second, .val (.double (FP.dmul d2 (FP.l2d (own_t M 1)))), .second, .val (.int (4 : Int32)), .val (.double (FP.l2d (own_t M 4))), .second] [(.ref a1), (.ref a1)])) rfl rfl (hb hby d7_155)
        obtain ⟨T95, h95, X95, e95, W95, st95⟩ := putF X94 hx hZ hown (host := "") (Or.inl (hw _ (List.mem_of_getElem? (i := 45) rfl))) Via.refl e94 F_drawnCount_v92 Ex_v92 (Or.inl (hw _ (List.mem_of_getElem? (i := 46) rfl))) (hw _ (List.mem_of_getElem? (i := 2) rfl)) (ty := .int) (by decide) rfl rfl (g := (mkF m 160 #[.val (.ref a1), .val (.double d2), .second, .val (.double (FP.dmul d2 (FP.l2d (own_t M 1)))), .second, .val (.int (4 : Int32)), .val (.double (FP.l2d (own_t M 4))), .second] [(.int (cn + (1 : Int32))), (.ref a1)])) rfl rfl (hb hby d7_160)
        have Ex_v95 := Ex_v92.wr W95
        have F_leaves_v95 := F_leaves_v92.other W95 (Or.inr (slot_ne (Or.inr (hw _ (List.mem_of_getElem? (i := 25) rfl))) (Or.inl (hw _ (List.mem_of_getElem? (i := 46) rfl))) (by decide) (t := .int) (t' := .int) (by decide) (by decide)))
        have F_sums_v95 := F_sums_v92.other W95 (Or.inr (slot_ne (Or.inr (hw _ (List.mem_of_getElem? (i := 27) rfl))) (Or.inl (hw _ (List.mem_of_getElem? (i := 46) rfl))) (by decide) (t := (.array .double)) (t' := .int) (by decide) (by decide)))
        have F_drawn_v95 := F_drawn_v92.other W95 (Or.inr (slot_ne (Or.inl (hw _ (List.mem_of_getElem? (i := 12) rfl))) (Or.inl (hw _ (List.mem_of_getElem? (i := 46) rfl))) (by decide) (t := (.array .int)) (t' := .int) (by decide) (by decide)))
        have F_drawnWeights_v95 := F_drawnWeights_v92.other W95 (Or.inr (slot_ne (Or.inl (hw _ (List.mem_of_getElem? (i := 14) rfl))) (Or.inl (hw _ (List.mem_of_getElem? (i := 46) rfl))) (by decide) (t := (.array .double)) (t' := .int) (by decide) (by decide)))
        have Vs_v95 := Vs_v92.other W95 (Ne.symm n1)
        have VN87_v95 := VN87_v92.other W95 (Ne.symm n2)
        have VX93_v95 := VX93_v93.other W95 (Ne.symm n3)
        have Z95 : n0 ≤ h95.size := Nat.le_trans Z92 (Nat.le_of_eq W95.size.symm)
        have K95 := K92.wr W95 (Or.inl (by simp))
        have F95_v95 : Fld Z h95 a1 "com/example/velar/velar/WeightedDraws" "drawnCount" "I" (.int (cn + (1 : Int32))) := F_drawnCount_v92.same W95
        have N95 := Fr.snoc X95 N92 ga
        obtain ⟨cq96, qq96, qq96'⟩ := Ex_v95.cell
        obtain ⟨_, _, ⟨T96, L96, k96, n96⟩, -, X96, ⟨Lc96, hQ96, l96, y96, z96⟩, st96⟩ := X95.privateBack hx (y := (⟨"com/example/velar/velar/WeightedDraws", "set", "(ID)V"⟩ : MethodName)) hown (mvT hZ (hw _ (List.mem_of_getElem? (i := 47) rfl))) (mvT hZ (hw _ (List.mem_of_getElem? (i := 48) rfl))) (own_selp (mvT hZ (hw _ (List.mem_of_getElem? (i := 2) rfl))) (Cond.privateMethod_at (mvP hZ (hw _ (List.mem_of_getElem? (i := 49) rfl)) (args := #[]))) (mvT hZ (hw _ (List.mem_of_getElem? (i := 48) rfl))) (by decide)) (Cond.privateMethod_at (mvP hZ (hw _ (List.mem_of_getElem? (i := 49) rfl)) (args := #[]))) (mvT hZ (hw _ (List.mem_of_getElem? (i := 50) rfl))) (by decide) (backOf (W := 0) (rset l Z a0 hw [] a1 (4 : Int32) (0 : Int64) aS M h95 n0 Z95 F_sums_v95 Vs_v95 gs n1 hM own_L0 (by decide)) hZ (hw _ (List.mem_of_getElem? (i := 50) rfl)) (hw _ (List.mem_of_getElem? (i := 3) rfl)) (by decide) (by decide)) (g := (mkF m 167 #[.val (.ref a1), .val (.double d2), .second, .val (.double (FP.dmul d2 (FP.l2d (own_t M 1)))), .second, .val (.int (4 : Int32)), .val (.double (FP.l2d (own_t M 4))), .second] [(.double (FP.l2d 0)), (.int (4 : Int32)), (.ref a1)])) rfl (by rw [hml]; rfl) (Steps.refl _) (a := a1) (by rw [e95]; exact qq96) qq96' (argsL := [(.int (4 : Int32)), (.double (FP.l2d 0))]) (rest := []) (lenOf pd_1 rfl) rfl (by show 2 * 0 + _ ≤ _; exact Nat.le_of_eq rfl) (hb hby d7_167) (fun _ _ => ⟨rfl, e95, (by decide : 0 + 0 ≤ _), (by decide : 0 + 0 ≤ _)⟩)
        dsimp only [Pt.U, Pt.locs, Pt.cells, Pt.slots] at X96 l96 y96 z96 st96 hQ96
        subst l96 y96 z96
        obtain ⟨rfl, N96q, Kc96, nf96_v96⟩ := hQ96
        have N96 := Fr.app N95 N96q
        have Ex_v96 := Ex_v95.keep Kc96
        have F_leaves_v96 := F_leaves_v95.keep Kc96 (ninS n1 nin0)
        have F_sums_v96 := F_sums_v95.keep Kc96 (ninS n1 nin0)
        have F_drawn_v96 := F_drawn_v95.keep Kc96 (ninS n1 nin0)
        have F_drawnWeights_v96 := F_drawnWeights_v95.keep Kc96 (ninS n1 nin0)
        have VN87_v96 := VN87_v95.keep Kc96 (ninS (Ne.symm n4) nin0)
        have VX93_v96 := VX93_v95.keep Kc96 (ninS (Ne.symm n5) nin0)
        have F95_v96 := F95_v95.keep Kc96 (ninS n1 nin0)
        have Z96 : n0 ≤ T96.heap.size := Nat.le_trans Z95 Kc96.1
        have KK96 := K95.trans Kc96 (allS (Or.inl (by simp)) all0)
        obtain ⟨T97, X97, e97, st97⟩ := getF X96 hx hZ hown (host := "") (Or.inl (hw _ (List.mem_of_getElem? (i := 24) rfl))) Via.refl rfl F_leaves_v96 (g := (mkF m 173 #[.val (.ref a1), .val (.double d2), .second, .val (.double (FP.dmul d2 (FP.l2d (own_t M 1)))), .second, .val (.int (4 : Int32)), .val (.double (FP.l2d (own_t M 4))), .second] [(.ref a1), (.int (4 : Int32))])) rfl rfl (hb hby d7_173)
        obtain ⟨fs, hr, hrun, hended, hW, hsame⟩ := X97.leave (v := some (.int (0 : Int32))) (fun h => by rw [Bd.returns] at h; cases h)
        refine ⟨_, _, pre78 _ ?_, hrun, hended, _, _, rfl, ?_, ⟨_, rfl⟩, hW, hsame.mono (by decide) (by decide)⟩
        · show Steps p.tables e below (T76.setTop (mkF m 36 #[.val (.ref a1), .val (.double d2), .second, .val (.double (FP.dmul d2 (FP.l2d (own_t M 1)))), .second, .val (.int (2 : Int32)), .val (.double (FP.l2d (own_t M 4))), .second] [(.int (cmpValue (FP.dcmp (FP.dmul d2 (FP.l2d (own_t M 1))) (FP.l2d (own_t M 4))) .g))])) _
          refine XS.ifYes X76.here hx rfl (pc0 := 36) (pc' := 55) rfl (hb hby d7_36) rfl ((if0 _ _).trans (tlt hc36_79).1) (by decide) (by decide) ?_
          show Steps p.tables e below (T76.setTop (mkF m 55 #[.val (.ref a1), .val (.double d2), .second, .val (.double (FP.dmul d2 (FP.l2d (own_t M 1)))), .second, .val (.int (2 : Int32)), .val (.double (FP.l2d (own_t M 4))), .second] [])) _
          refine XS.iconst X76.here hx rfl (hb hby d7_55) ?_
          show Steps p.tables e below (T76.setTop (mkF m 56 #[.val (.ref a1), .val (.double d2), .second, .val (.double (FP.dmul d2 (FP.l2d (own_t M 1)))), .second, .val (.int (2 : Int32)), .val (.double (FP.l2d (own_t M 4))), .second] [(.int (2 : Int32))])) _
          refine XS.iload X76.here hx rfl (hb hby d7_56) rfl ?_
          show Steps p.tables e below (T76.setTop (mkF m 58 #[.val (.ref a1), .val (.double d2), .second, .val (.double (FP.dmul d2 (FP.l2d (own_t M 1)))), .second, .val (.int (2 : Int32)), .val (.double (FP.l2d (own_t M 4))), .second] [(.int (2 : Int32)), (.int (2 : Int32))])) _
          refine XS.imul X76.here hx rfl (hb hby d7_58) rfl ?_
          show Steps p.tables e below (T76.setTop (mkF m 59 #[.val (.ref a1), .val (.double d2), .second, .val (.double (FP.dmul d2 (FP.l2d (own_t M 1)))), .second, .val (.int (2 : Int32)), .val (.double (FP.l2d (own_t M 4))), .second] [(.int (4 : Int32))])) _
          refine XS.istore X76.here hx rfl (hb hby d7_59) rfl (l' := #[.val (.ref a1), .val (.double d2), .second, .val (.double (FP.dmul d2 (FP.l2d (own_t M 1)))), .second, .val (.int (4 : Int32)), .val (.double (FP.l2d (own_t M 4))), .second]) rfl ?_
          show Steps p.tables e below (T76.setTop (mkF m 61 #[.val (.ref a1), .val (.double d2), .second, .val (.double (FP.dmul d2 (FP.l2d (own_t M 1)))), .second, .val (.int (4 : Int32)), .val (.double (FP.l2d (own_t M 4))), .second] [])) _
          refine XS.goto X76.here hx rfl (pc0 := 61) (pc' := 77) rfl (hb hby d7_61) (by decide) (by decide) ?_
          show Steps p.tables e below (T76.setTop (mkF m 77 #[.val (.ref a1), .val (.double d2), .second, .val (.double (FP.dmul d2 (FP.l2d (own_t M 1)))), .second, .val (.int (4 : Int32)), .val (.double (FP.l2d (own_t M 4))), .second] [])) _
          refine XS.goto X76.here hx rfl (pc0 := 77) (pc' := 12) rfl (hb hby d7_77) (by decide) (by decide) ?_
          show Steps p.tables e below (T76.setTop (mkF m 12 #[.val (.ref a1), .val (.double d2), .second, .val (.double (FP.dmul d2 (FP.l2d (own_t M 1)))), .second, .val (.int (4 : Int32)), .val (.double (FP.l2d (own_t M 4))), .second] [])) _
          refine XS.iload X76.here hx rfl (hb hby d7_12) rfl ?_
          show Steps p.tables e below (T76.setTop (mkF m 14 #[.val (.ref a1), .val (.double d2), .second, .val (.double (FP.dmul d2 (FP.l2d (own_t M 1)))), .second, .val (.int (4 : Int32)), .val (.double (FP.l2d (own_t M 4))), .second] [(.int (4 : Int32))])) _
          refine XS.aloadN X76.here hx rfl (hb hby d7_14) rfl rfl ?_
          show Steps p.tables e below (T76.setTop (mkF m 15 #[.val (.ref a1), .val (.double d2), .second, .val (.double (FP.dmul d2 (FP.l2d (own_t M 1)))), .second, .val (.int (4 : Int32)), .val (.double (FP.l2d (own_t M 4))), .second] [(.ref a1), (.int (4 : Int32))])) _
          refine st80 _ ?_
          show Steps p.tables e below (T80.setTop (mkF m 18 #[.val (.ref a1), .val (.double d2), .second, .val (.double (FP.dmul d2 (FP.l2d (own_t M 1)))), .second, .val (.int (4 : Int32)), .val (.double (FP.l2d (own_t M 4))), .second] [(.int (4 : Int32)), (.int (4 : Int32))])) _
          refine XS.icmpYes X80.here hx rfl (pc0 := 18) (pc' := 80) rfl (hb hby d7_18) rfl (flt (by decide : ¬ ((4 : Int32) < (4 : Int32)))).2.1 (by decide) (by decide) ?_
          show Steps p.tables e below (T80.setTop (mkF m 80 #[.val (.ref a1), .val (.double d2), .second, .val (.double (FP.dmul d2 (FP.l2d (own_t M 1)))), .second, .val (.int (4 : Int32)), .val (.double (FP.l2d (own_t M 4))), .second] [])) _
          refine XS.aloadN X80.here hx rfl (hb hby d7_80) rfl rfl ?_
          show Steps p.tables e below (T80.setTop (mkF m 81 #[.val (.ref a1), .val (.double d2), .second, .val (.double (FP.dmul d2 (FP.l2d (own_t M 1)))), .second, .val (.int (4 : Int32)), .val (.double (FP.l2d (own_t M 4))), .second] [(.ref a1)])) _
          refine st81 _ ?_
          show Steps p.tables e below (T81.setTop (mkF m 84 #[.val (.ref a1), .val (.double d2), .second, .val (.double (FP.dmul d2 (FP.l2d (own_t M 1)))), .second, .val (.int (4 : Int32)), .val (.double (FP.l2d (own_t M 4))), .second] [(.int cn)])) _
          refine XS.aloadN X81.here hx rfl (hb hby d7_84) rfl rfl ?_
          show Steps p.tables e below (T81.setTop (mkF m 85 #[.val (.ref a1), .val (.double d2), .second, .val (.double (FP.dmul d2 (FP.l2d (own_t M 1)))), .second, .val (.int (4 : Int32)), .val (.double (FP.l2d (own_t M 4))), .second] [(.ref a1), (.int cn)])) _
          refine st82 _ ?_
          show Steps p.tables e below (T82.setTop (mkF m 88 #[.val (.ref a1), .val (.double d2), .second, .val (.double (FP.dmul d2 (FP.l2d (own_t M 1)))), .second, .val (.int (4 : Int32)), .val (.double (FP.l2d (own_t M 4))), .second] [(.ref aD), (.int cn)])) _
          refine X82.arraylength hx (by rw [e82]; exact Ar83.1) (State.isArrayOf_alike hZ.alike Ar83.2.1) (g := (mkF m 88 #[.val (.ref a1), .val (.double d2), .second, .val (.double (FP.dmul d2 (FP.l2d (own_t M 1)))), .second, .val (.int (4 : Int32)), .val (.double (FP.l2d (own_t M 4))), .second] [(.ref aD), (.int cn)])) rfl rfl (hb hby d7_88) _ ?_
          rw [show cl83.slots.size.toInt32 = (64 : Int32) from by rw [S83]; rfl]
          show Steps p.tables e below (T82.setTop (mkF m 89 #[.val (.ref a1), .val (.double d2), .second, .val (.double (FP.dmul d2 (FP.l2d (own_t M 1)))), .second, .val (.int (4 : Int32)), .val (.double (FP.l2d (own_t M 4))), .second] [(.int (64 : Int32)), (.int cn)])) _
          refine XS.icmpYes X82.here hx rfl (pc0 := 89) (pc' := 126) rfl (hb hby d7_89) rfl (feq (hc.2.2 : ¬ (cn = (64 : Int32)))).2 (by decide) (by decide) ?_
          show Steps p.tables e below (T82.setTop (mkF m 126 #[.val (.ref a1), .val (.double d2), .second, .val (.double (FP.dmul d2 (FP.l2d (own_t M 1)))), .second, .val (.int (4 : Int32)), .val (.double (FP.l2d (own_t M 4))), .second] [])) _
          refine XS.aloadN X82.here hx rfl (hb hby d7_126) rfl rfl ?_
          show Steps p.tables e below (T82.setTop (mkF m 127 #[.val (.ref a1), .val (.double d2), .second, .val (.double (FP.dmul d2 (FP.l2d (own_t M 1)))), .second, .val (.int (4 : Int32)), .val (.double (FP.l2d (own_t M 4))), .second] [(.ref a1)])) _
          refine st84 _ ?_
          show Steps p.tables e below (T84.setTop (mkF m 130 #[.val (.ref a1), .val (.double d2), .second, .val (.double (FP.dmul d2 (FP.l2d (own_t M 1)))), .second, .val (.int (4 : Int32)), .val (.double (FP.l2d (own_t M 4))), .second] [(.ref aD)])) _
          refine XS.aloadN X84.here hx rfl (hb hby d7_130) rfl rfl ?_
          show Steps p.tables e below (T84.setTop (mkF m 131 #[.val (.ref a1), .val (.double d2), .second, .val (.double (FP.dmul d2 (FP.l2d (own_t M 1)))), .second, .val (.int (4 : Int32)), .val (.double (FP.l2d (own_t M 4))), .second] [(.ref a1), (.ref aD)])) _
          refine st85 _ ?_
          show Steps p.tables e below (T85.setTop (mkF m 134 #[.val (.ref a1), .val (.double d2), .second, .val (.double (FP.dmul d2 (FP.l2d (own_t M 1)))), .second, .val (.int (4 : Int32)), .val (.double (FP.l2d (own_t M 4))), .second] [(.int cn), (.ref aD)])) _
          refine XS.iload X85.here hx rfl (hb hby d7_134) rfl ?_
          show Steps p.tables e below (T85.setTop (mkF m 136 #[.val (.ref a1), .val (.double d2), .second, .val (.double (FP.dmul d2 (FP.l2d (own_t M 1)))), .second, .val (.int (4 : Int32)), .val (.double (FP.l2d (own_t M 4))), .second] [(.int (4 : Int32)), (.int cn), (.ref aD)])) _
          refine st86 _ ?_
          show Steps p.tables e below (T86.setTop (mkF m 137 #[.val (.ref a1), .val (.double d2), .second, .val (.double (FP.dmul d2 (FP.l2d (own_t M 1)))), .second, .val (.int (4 : Int32)), .val (.double (FP.l2d (own_t M 4))), .second] [])) _
          refine XS.aloadN X86.here hx rfl (hb hby d7_137) rfl rfl ?_
          show Steps p.tables e below (T86.setTop (mkF m 138 #[.val (.ref a1), .val (.double d2), .second, .val (.double (FP.dmul d2 (FP.l2d (own_t M 1)))), .second, .val (.int (4 : Int32)), .val (.double (FP.l2d (own_t M 4))), .second] [(.ref a1)])) _
          refine st88 _ ?_
          show Steps p.tables e below (T88.setTop (mkF m 141 #[.val (.ref a1), .val (.double d2), .second, .val (.double (FP.dmul d2 (FP.l2d (own_t M 1)))), .second, .val (.int (4 : Int32)), .val (.double (FP.l2d (own_t M 4))), .second] [(.ref aE)])) _
          refine XS.aloadN X88.here hx rfl (hb hby d7_141) rfl rfl ?_
          show Steps p.tables e below (T88.setTop (mkF m 142 #[.val (.ref a1), .val (.double d2), .second, .val (.double (FP.dmul d2 (FP.l2d (own_t M 1)))), .second, .val (.int (4 : Int32)), .val (.double (FP.l2d (own_t M 4))), .second] [(.ref a1), (.ref aE)])) _
          refine st89 _ ?_
          show Steps p.tables e below (T89.setTop (mkF m 145 #[.val (.ref a1), .val (.double d2), .second, .val (.double (FP.dmul d2 (FP.l2d (own_t M 1)))), .second, .val (.int (4 : Int32)), .val (.double (FP.l2d (own_t M 4))), .second] [(.int cn), (.ref aE)])) _
          refine XS.aloadN X89.here hx rfl (hb hby d7_145) rfl rfl ?_
          show Steps p.tables e below (T89.setTop (mkF m 146 #[.val (.ref a1), .val (.double d2), .second, .val (.double (FP.dmul d2 (FP.l2d (own_t M 1)))), .second, .val (.int (4 : Int32)), .val (.double (FP.l2d (own_t M 4))), .second] [(.ref a1), (.int cn), (.ref aE)])) _
          refine st90 _ ?_
          show Steps p.tables e below (T90.setTop (mkF m 149 #[.val (.ref a1), .val (.double d2), .second, .val (.double (FP.dmul d2 (FP.l2d (own_t M 1)))), .second, .val (.int (4 : Int32)), .val (.double (FP.l2d (own_t M 4))), .second] [(.ref aS), (.int cn), (.ref aE)])) _
          refine XS.iload X90.here hx rfl (hb hby d7_149) rfl ?_
          show Steps p.tables e below (T90.setTop (mkF m 151 #[.val (.ref a1), .val (.double d2), .second, .val (.double (FP.dmul d2 (FP.l2d (own_t M 1)))), .second, .val (.int (4 : Int32)), .val (.double (FP.l2d (own_t M 4))), .second] [(.int (4 : Int32)), (.ref aS), (.int cn), (.ref aE)])) _
          refine X90.daload hx (j := (4 : Int32)) (v := (.double (FP.l2d (own_t M 4)))) (by rw [e90]; exact Ar91.1) (State.isArrayOf_alike hZ.alike Ar91.2.1) Ar91.2.2 hin91 hat91 (g := (mkF m 151 #[.val (.ref a1), .val (.double d2), .second, .val (.double (FP.dmul d2 (FP.l2d (own_t M 1)))), .second, .val (.int (4 : Int32)), .val (.double (FP.l2d (own_t M 4))), .second] [(.int (4 : Int32)), (.ref aS), (.int cn), (.ref aE)])) rfl rfl (hb hby d7_151) _ ?_
          show Steps p.tables e below (T90.setTop (mkF m 152 #[.val (.ref a1), .val (.double d2), .second, .val (.double (FP.dmul d2 (FP.l2d (own_t M 1)))), .second, .val (.int (4 : Int32)), .val (.double (FP.l2d (own_t M 4))), .second] [(.double (FP.l2d (own_t M 4))), (.int cn), (.ref aE)])) _
          refine st92 _ ?_
          show Steps p.tables e below (T92.setTop (mkF m 153 #[.val (.ref a1), .val (.double d2), .second, .val (.double (FP.dmul d2 (FP.l2d (own_t M 1)))), .second, .val (.int (4 : Int32)), .val (.double (FP.l2d (own_t M 4))), .second] [])) _
          refine XS.aloadN X92.here hx rfl (hb hby d7_153) rfl rfl ?_
          show Steps p.tables e below (T92.setTop (mkF m 154 #[.val (.ref a1), .val (.double d2), .second, .val (.double (FP.dmul d2 (FP.l2d (own_t M 1)))), .second, .val (.int (4 : Int32)), .val (.double (FP.l2d (own_t M 4))), .second] [(.ref a1)])) _
          refine XS.dup X92.here hx rfl (hb hby d7_154) rfl rfl ?_
          show Steps p.tables e below (T92.setTop (mkF m 155 #[.val (.ref a1), .val (.double d2), .second, .val (.double (FP.dmul d2 (FP.l2d (own_t M 1)))), .second, .val (.int (4 : Int32)), .val (.double (FP.l2d (own_t M 4))), .second] [(.ref a1), (.ref a1)])) _
          refine st94 _ ?_
          show Steps p.tables e below (T94.setTop (mkF m 158 #[.val (.ref a1), .val (.double d2), .second, .val (.double (FP.dmul d2 (FP.l2d (own_t M 1)))), .second, .val (.int (4 : Int32)), .val (.double (FP.l2d (own_t M 4))), .second] [(.int cn), (.ref a1)])) _
          refine XS.iconst X94.here hx rfl (hb hby d7_158) ?_
          show Steps p.tables e below (T94.setTop (mkF m 159 #[.val (.ref a1), .val (.double d2), .second, .val (.double (FP.dmul d2 (FP.l2d (own_t M 1)))), .second, .val (.int (4 : Int32)), .val (.double (FP.l2d (own_t M 4))), .second] [(.int (1 : Int32)), (.int cn), (.ref a1)])) _
          refine XS.iadd X94.here hx rfl (hb hby d7_159) rfl ?_
          show Steps p.tables e below (T94.setTop (mkF m 160 #[.val (.ref a1), .val (.double d2), .second, .val (.double (FP.dmul d2 (FP.l2d (own_t M 1)))), .second, .val (.int (4 : Int32)), .val (.double (FP.l2d (own_t M 4))), .second] [(.int (cn + (1 : Int32))), (.ref a1)])) _
          refine st95 _ ?_
          show Steps p.tables e below (T95.setTop (mkF m 163 #[.val (.ref a1), .val (.double d2), .second, .val (.double (FP.dmul d2 (FP.l2d (own_t M 1)))), .second, .val (.int (4 : Int32)), .val (.double (FP.l2d (own_t M 4))), .second] [])) _
          refine XS.aloadN X95.here hx rfl (hb hby d7_163) rfl rfl ?_
          show Steps p.tables e below (T95.setTop (mkF m 164 #[.val (.ref a1), .val (.double d2), .second, .val (.double (FP.dmul d2 (FP.l2d (own_t M 1)))), .second, .val (.int (4 : Int32)), .val (.double (FP.l2d (own_t M 4))), .second] [(.ref a1)])) _
          refine XS.iload X95.here hx rfl (hb hby d7_164) rfl ?_
          show Steps p.tables e below (T95.setTop (mkF m 166 #[.val (.ref a1), .val (.double d2), .second, .val (.double (FP.dmul d2 (FP.l2d (own_t M 1)))), .second, .val (.int (4 : Int32)), .val (.double (FP.l2d (own_t M 4))), .second] [(.int (4 : Int32)), (.ref a1)])) _
          refine XS.dconst0 X95.here hx rfl (hb hby d7_166) (v := (FP.l2d 0)) (by decide +kernel) ?_
          show Steps p.tables e below (T95.setTop (mkF m 167 #[.val (.ref a1), .val (.double d2), .second, .val (.double (FP.dmul d2 (FP.l2d (own_t M 1)))), .second, .val (.int (4 : Int32)), .val (.double (FP.l2d (own_t M 4))), .second] [(.double (FP.l2d 0)), (.int (4 : Int32)), (.ref a1)])) _
          refine st96.trans ?_
          show Steps p.tables e below (T96.setTop (mkF m 170 #[.val (.ref a1), .val (.double d2), .second, .val (.double (FP.dmul d2 (FP.l2d (own_t M 1)))), .second, .val (.int (4 : Int32)), .val (.double (FP.l2d (own_t M 4))), .second] [])) _
          refine XS.iload X96.here hx rfl (hb hby d7_170) rfl ?_
          show Steps p.tables e below (T96.setTop (mkF m 172 #[.val (.ref a1), .val (.double d2), .second, .val (.double (FP.dmul d2 (FP.l2d (own_t M 1)))), .second, .val (.int (4 : Int32)), .val (.double (FP.l2d (own_t M 4))), .second] [(.int (4 : Int32))])) _
          refine XS.aloadN X96.here hx rfl (hb hby d7_172) rfl rfl ?_
          show Steps p.tables e below (T96.setTop (mkF m 173 #[.val (.ref a1), .val (.double d2), .second, .val (.double (FP.dmul d2 (FP.l2d (own_t M 1)))), .second, .val (.int (4 : Int32)), .val (.double (FP.l2d (own_t M 4))), .second] [(.ref a1), (.int (4 : Int32))])) _
          refine st97 _ ?_
          show Steps p.tables e below (T97.setTop (mkF m 176 #[.val (.ref a1), .val (.double d2), .second, .val (.double (FP.dmul d2 (FP.l2d (own_t M 1)))), .second, .val (.int (4 : Int32)), .val (.double (FP.l2d (own_t M 4))), .second] [(.int (4 : Int32)), (.int (4 : Int32))])) _
          refine XS.isub X97.here hx rfl (hb hby d7_176) rfl ?_
          show Steps p.tables e below (T97.setTop (mkF m 177 #[.val (.ref a1), .val (.double d2), .second, .val (.double (FP.dmul d2 (FP.l2d (own_t M 1)))), .second, .val (.int (4 : Int32)), .val (.double (FP.l2d (own_t M 4))), .second] [(.int (0 : Int32))])) _
          exact retI X97 hx Bd.returns (hb hby d7_177) hr
        · show Q_rdr Z a1 d2 aS aD aE cn M D X h0 n0 _ T97.heap _
          rw [e97]
          have hpk : own_pick M d2 = (4 : Int32) := by rw [own_pick, if_neg hc36_7, if_pos hc52_74, own_n2, if_pos hc36_79]
          exact (by rw [Q_rdr, hpk]; exact ⟨rfl, N96, KK96, F_leaves_v96, F_sums_v96, F_drawn_v96, F_drawnWeights_v96, F95_v96, nf96_v96, VN87_v96, VX93_v96⟩)
      · obtain ⟨T98, X98, e98, st98⟩ := getF X76 hx hZ hown (host := "") (Or.inl (hw _ (List.mem_of_getElem? (i := 26) rfl))) Via.refl e76 F_sums (g := (mkF m 40 #[.val (.ref a1), .val (.double d2), .second, .val (.double (FP.dmul d2 (FP.l2d (own_t M 1)))), .second, .val (.int (2 : Int32)), .val (.double (FP.l2d (own_t M 4))), .second] [(.ref a1)])) rfl rfl (hb hby d7_40)
        obtain ⟨cl99, Ar99, S99, H99⟩ := id Vs
        have hin99 : ¬ ((5 : Int32) < 0 ∨ cl99.slots.size ≤ ((5 : Int32)).toNatClampNeg) := inA S99 (by decide) (by decide)
        have hat99 : cl99.slots[((5 : Int32)).toNatClampNeg]? = some (.double (FP.l2d (own_t M 5))) := ArF.at S99 H99 hin99 rfl
        have pre100 : ∀ t, Steps p.tables e below (T98.setTop (mkF m 52 #[.val (.ref a1), .val (.double d2), .second, .val (.double (FP.dmul d2 (FP.l2d (own_t M 1)))), .second, .val (.int (2 : Int32)), .val (.double (FP.l2d (own_t M 4))), .second] [(.int (cmpValue (FP.dcmp (FP.l2d (own_t M 5)) (FP.l2d 0)) .l))])) t → Steps p.tables e below (s₁.setTop (entryFrame m #[(.ref a1), (.double d2)] 8)) t := by
          intro t k
          refine pre78 t ?_
          show Steps p.tables e below (T76.setTop (mkF m 36 #[.val (.ref a1), .val (.double d2), .second, .val (.double (FP.dmul d2 (FP.l2d (own_t M 1)))), .second, .val (.int (2 : Int32)), .val (.double (FP.l2d (own_t M 4))), .second] [(.int (cmpValue (FP.dcmp (FP.dmul d2 (FP.l2d (own_t M 1))) (FP.l2d (own_t M 4))) .g))])) _
          refine XS.ifNo X76.here hx rfl (hb hby d7_36) rfl ((if0 _ _).trans (flt hc36_79).1) ?_
          show Steps p.tables e below (T76.setTop (mkF m 39 #[.val (.ref a1), .val (.double d2), .second, .val (.double (FP.dmul d2 (FP.l2d (own_t M 1)))), .second, .val (.int (2 : Int32)), .val (.double (FP.l2d (own_t M 4))), .second] [])) _
          refine XS.aloadN X76.here hx rfl (hb hby d7_39) rfl rfl ?_
          show Steps p.tables e below (T76.setTop (mkF m 40 #[.val (.ref a1), .val (.double d2), .second, .val (.double (FP.dmul d2 (FP.l2d (own_t M 1)))), .second, .val (.int (2 : Int32)), .val (.double (FP.l2d (own_t M 4))), .second] [(.ref a1)])) _
          refine st98 _ ?_
          show Steps p.tables e below (T98.setTop (mkF m 43 #[.val (.ref a1), .val (.double d2), .second, .val (.double (FP.dmul d2 (FP.l2d (own_t M 1)))), .second, .val (.int (2 : Int32)), .val (.double (FP.l2d (own_t M 4))), .second] [(.ref aS)])) _
          refine XS.iconst X98.here hx rfl (hb hby d7_43) ?_
          show Steps p.tables e below (T98.setTop (mkF m 44 #[.val (.ref a1), .val (.double d2), .second, .val (.double (FP.dmul d2 (FP.l2d (own_t M 1)))), .second, .val (.int (2 : Int32)), .val (.double (FP.l2d (own_t M 4))), .second] [(.int (2 : Int32)), (.ref aS)])) _
          refine XS.iload X98.here hx rfl (hb hby d7_44) rfl ?_
          show Steps p.tables e below (T98.setTop (mkF m 46 #[.val (.ref a1), .val (.double d2), .second, .val (.double (FP.dmul d2 (FP.l2d (own_t M 1)))), .second, .val (.int (2 : Int32)), .val (.double (FP.l2d (own_t M 4))), .second] [(.int (2 : Int32)), (.int (2 : Int32)), (.ref aS)])) _
          refine XS.imul X98.here hx rfl (hb hby d7_46) rfl ?_
          show Steps p.tables e below (T98.setTop (mkF m 47 #[.val (.ref a1), .val (.double d2), .second, .val (.double (FP.dmul d2 (FP.l2d (own_t M 1)))), .second, .val (.int (2 : Int32)), .val (.double (FP.l2d (own_t M 4))), .second] [(.int (4 : Int32)), (.ref aS)])) _
          refine XS.iconst X98.here hx rfl (hb hby d7_47) ?_
          show Steps p.tables e below (T98.setTop (mkF m 48 #[.val (.ref a1), .val (.double d2), .second, .val (.double (FP.dmul d2 (FP.l2d (own_t M 1)))), .second, .val (.int (2 : Int32)), .val (.double (FP.l2d (own_t M 4))), .second] [(.int (1 : Int32)), (.int (4 : Int32)), (.ref aS)])) _
          refine XS.iadd X98.here hx rfl (hb hby d7_48) rfl ?_
          show Steps p.tables e below (T98.setTop (mkF m 49 #[.val (.ref a1), .val (.double d2), .second, .val (.double (FP.dmul d2 (FP.l2d (own_t M 1)))), .second, .val (.int (2 : Int32)), .val (.double (FP.l2d (own_t M 4))), .second] [(.int (5 : Int32)), (.ref aS)])) _
          refine X98.daload hx (j := (5 : Int32)) (v := (.double (FP.l2d (own_t M 5)))) (by rw [e98]; exact Ar99.1) (State.isArrayOf_alike hZ.alike Ar99.2.1) Ar99.2.2 hin99 hat99 (g := (mkF m 49 #[.val (.ref a1), .val (.double d2), .second, .val (.double (FP.dmul d2 (FP.l2d (own_t M 1)))), .second, .val (.int (2 : Int32)), .val (.double (FP.l2d (own_t M 4))), .second] [(.int (5 : Int32)), (.ref aS)])) rfl rfl (hb hby d7_49) _ ?_
          show Steps p.tables e below (T98.setTop (mkF m 50 #[.val (.ref a1), .val (.double d2), .second, .val (.double (FP.dmul d2 (FP.l2d (own_t M 1)))), .second, .val (.int (2 : Int32)), .val (.double (FP.l2d (own_t M 4))), .second] [(.double (FP.l2d (own_t M 5)))])) _
          refine XS.dconst0 X98.here hx rfl (hb hby d7_50) (v := (FP.l2d 0)) (by decide +kernel) ?_
          show Steps p.tables e below (T98.setTop (mkF m 51 #[.val (.ref a1), .val (.double d2), .second, .val (.double (FP.dmul d2 (FP.l2d (own_t M 1)))), .second, .val (.int (2 : Int32)), .val (.double (FP.l2d (own_t M 4))), .second] [(.double (FP.l2d 0)), (.double (FP.l2d (own_t M 5)))])) _
          refine XS.dcmpS X98.here hx rfl (hb hby d7_51) rfl rfl ?_
          exact k
        by_cases hc52_101 : (cmpValue (FP.dcmp (FP.l2d (own_t M 5)) (FP.l2d 0)) .l) = (0 : Int32)
        · obtain ⟨T102, X102, e102, st102⟩ := getF X98 hx hZ hown (host := "") (Or.inl (hw _ (List.mem_of_getElem? (i := 24) rfl))) Via.refl e98 F_leaves (g := (mkF m 15 #[.val (.ref a1), .val (.double d2), .second, .val (.double (FP.dmul d2 (FP.l2d (own_t M 1)))), .second, .val (.int (4 : Int32)), .val (.double (FP.l2d (own_t M 4))), .second] [(.ref a1), (.int (4 : Int32))])) rfl rfl (hb hby d7_15)
          obtain ⟨T103, X103, e103, st103⟩ := getF X102 hx hZ hown (host := "") (Or.inl (hw _ (List.mem_of_getElem? (i := 45) rfl))) Via.refl e102 F_drawnCount (g := (mkF m 81 #[.val (.ref a1), .val (.double d2), .second, .val (.double (FP.dmul d2 (FP.l2d (own_t M 1)))), .second, .val (.int (4 : Int32)), .val (.double (FP.l2d (own_t M 4))), .second] [(.ref a1)])) rfl rfl (hb hby d7_81)
          obtain ⟨T104, X104, e104, st104⟩ := getF X103 hx hZ hown (host := "") (Or.inl (hw _ (List.mem_of_getElem? (i := 11) rfl))) Via.refl e103 F_drawn (g := (mkF m 85 #[.val (.ref a1), .val (.double d2), .second, .val (.double (FP.dmul d2 (FP.l2d (own_t M 1)))), .second, .val (.int (4 : Int32)), .val (.double (FP.l2d (own_t M 4))), .second] [(.ref a1), (.int cn)])) rfl rfl (hb hby d7_85)
          obtain ⟨cl105, Ar105, S105, H105⟩ := id Vd
          obtain ⟨T106, X106, e106, st106⟩ := getF X104 hx hZ hown (host := "") (Or.inl (hw _ (List.mem_of_getElem? (i := 11) rfl))) Via.refl e104 F_drawn (g := (mkF m 127 #[.val (.ref a1), .val (.double d2), .second, .val (.double (FP.dmul d2 (FP.l2d (own_t M 1)))), .second, .val (.int (4 : Int32)), .val (.double (FP.l2d (own_t M 4))), .second] [(.ref a1)])) rfl rfl (hb hby d7_127)
          obtain ⟨T107, X107, e107, st107⟩ := getF X106 hx hZ hown (host := "") (Or.inl (hw _ (List.mem_of_getElem? (i := 45) rfl))) Via.refl e106 F_drawnCount (g := (mkF m 131 #[.val (.ref a1), .val (.double d2), .second, .val (.double (FP.dmul d2 (FP.l2d (own_t M 1)))), .second, .val (.int (4 : Int32)), .val (.double (FP.l2d (own_t M 4))), .second] [(.ref a1), (.ref aD)])) rfl rfl (hb hby d7_131)
          obtain ⟨cl108, Ar108, S108, H108⟩ := id Vd
          have hin108 : ¬ (cn < 0 ∨ cl108.slots.size ≤ (cn).toNatClampNeg) := inA S108 hc.1 hc.2.1
          obtain ⟨T108, h108, X108, e108, W108, st108⟩ := stI X107 hx hZ e107 Ar108 (j := cn) hin108 (g := (mkF m 136 #[.val (.ref a1), .val (.double d2), .second, .val (.double (FP.dmul d2 (FP.l2d (own_t M 1)))), .second, .val (.int (4 : Int32)), .val (.double (FP.l2d (own_t M 4))), .second] [(.int (4 : Int32)), (.int cn), (.ref aD)])) rfl rfl (hb hby d7_136)
          have Ex_v108 := Ex.wr W108
          have F_leaves_v108 := F_leaves.other W108 (Or.inl n2)
          have F_sums_v108 := F_sums.other W108 (Or.inl n2)
          have F_drawn_v108 := F_drawn.other W108 (Or.inl n2)
          have F_drawnWeights_v108 := F_drawnWeights.other W108 (Or.inl n2)
          have F_drawnCount_v108 := F_drawnCount.other W108 (Or.inl n2)
          have Vs_v108 := Vs.other W108 n4
          have Ve_v108 := Ve.other W108 (Ne.symm n6)
          have Z108 : n0 ≤ h108.size := Nat.le_trans Z0 (Nat.le_of_eq W108.size.symm)
          have K108 := K0.wr W108 (Or.inl (by simp))
          have V108_v108 := ArF.set Ar108 S108 H108 W108 hin108
          have N108 := Fr.snoc X108 N0 gd
          have VN109_v109 : ArF Z h108 aD .int 64 (fun i => .int ((own_upN D cn (4 : Int32)) i)) := V108_v108.congr (fun i hi => own_upV D cn (4 : Int32) i)
          obtain ⟨T110, X110, e110, st110⟩ := getF X108 hx hZ hown (host := "") (Or.inl (hw _ (List.mem_of_getElem? (i := 13) rfl))) Via.refl e108 F_drawnWeights_v108 (g := (mkF m 138 #[.val (.ref a1), .val (.double d2), .second, .val (.double (FP.dmul d2 (FP.l2d (own_t M 1)))), .second, .val (.int (4 : Int32)), .val (.double (FP.l2d (own_t M 4))), .second] [(.ref a1)])) rfl rfl (hb hby d7_138)
          obtain ⟨T111, X111, e111, st111⟩ := getF X110 hx hZ hown (host := "") (Or.inl (hw _ (List.mem_of_getElem? (i := 45) rfl))) Via.refl e110 F_drawnCount_v108 (g := (mkF m 142 #[.val (.ref a1), .val (.double d2), .second, .val (.double (FP.dmul d2 (FP.l2d (own_t M 1)))), .second, .val (.int (4 : Int32)), .val (.double (FP.l2d (own_t M 4))), .second] [(.ref a1), (.ref aE)])) rfl rfl (hb hby d7_142)
          obtain ⟨T112, X112, e112, st112⟩ := getF X111 hx hZ hown (host := "") (Or.inl (hw _ (List.mem_of_getElem? (i := 26) rfl))) Via.refl e111 F_sums_v108 (g := (mkF m 146 #[.val (.ref a1), .val (.double d2), .second, .val (.double (FP.dmul d2 (FP.l2d (own_t M 1)))), .second, .val (.int (4 : Int32)), .val (.double (FP.l2d (own_t M 4))), .second] [(.ref a1), (.int cn), (.ref aE)])) rfl rfl (hb hby d7_146)
          obtain ⟨cl113, Ar113, S113, H113⟩ := id Vs_v108
          have hin113 : ¬ ((4 : Int32) < 0 ∨ cl113.slots.size ≤ ((4 : Int32)).toNatClampNeg) := inA S113 (by decide) (by decide)
          have hat113 : cl113.slots[((4 : Int32)).toNatClampNeg]? = some (.double (FP.l2d (own_t M 4))) := ArF.at S113 H113 hin113 rfl
          obtain ⟨cl114, Ar114, S114, H114⟩ := id Ve_v108
          have hin114 : ¬ (cn < 0 ∨ cl114.slots.size ≤ (cn).toNatClampNeg) := inA S114 hc.1 hc.2.1
          obtain ⟨T114, h114, X114, e114, W114, st114⟩ := stD X112 hx hZ e112 Ar114 (j := cn) hin114 (g := (mkF m 152 #[.val (.ref a1), .val (.double d2), .second, .val (.double (FP.dmul d2 (FP.l2d (own_t M 1)))), .second, .val (.int (4 : Int32)), .val (.double (FP.l2d (own_t M 4))), .second] [(.double (FP.l2d (own_t M 4))), (.int cn), (.ref aE)])) rfl rfl (hb hby d7_152)
          have Ex_v114 := Ex_v108.wr W114
          have F_leaves_v114 := F_leaves_v108.other W114 (Or.inl n3)
          have F_sums_v114 := F_sums_v108.other W114 (Or.inl n3)
          have F_drawn_v114 := F_drawn_v108.other W114 (Or.inl n3)
          have F_drawnWeights_v114 := F_drawnWeights_v108.other W114 (Or.inl n3)
          have F_drawnCount_v114 := F_drawnCount_v108.other W114 (Or.inl n3)
          have Vs_v114 := Vs_v108.other W114 n5
          have VN109_v114 := VN109_v109.other W114 n6
          have Z114 : n0 ≤ h114.size := Nat.le_trans Z108 (Nat.le_of_eq W114.size.symm)
          have K114 := K108.wr W114 (Or.inl (by simp))
          have V114_v114 := ArF.set Ar114 S114 H114 W114 hin114
          have N114 := Fr.snoc X114 N108 ge
          have VX115_v115 : ArF Z h114 aE .double 64 (fun i => .double (FP.l2d ((own_upX X cn (own_t M 4)) i))) := V114_v114.congr (fun i hi => own_upW X cn (own_t M 4) i)
          obtain ⟨T116, X116, e116, st116⟩ := getF X114 hx hZ hown (host := "") (Or.inl (hw _ (List.mem_of_getElem? (i := 45) rfl))) Via.refl e114 F_drawnCount_v114 (g := (mkF m 155 #[.val (.ref a1), .val (.double d2), .second, .val (.double (FP.dmul d2 (FP.l2d (own_t M 1)))), .second, .val (.int (4 : Int32)), .val (.double (FP.l2d (own_t M 4))), .second] [(.ref a1), (.ref a1)])) rfl rfl (hb hby d7_155)
          obtain ⟨T117, h117, X117, e117, W117, st117⟩ := putF X116 hx hZ hown (host := "") (Or.inl (hw _ (List.mem_of_getElem? (i := 45) rfl))) Via.refl e116 F_drawnCount_v114 Ex_v114 (Or.inl (hw _ (List.mem_of_getElem? (i := 46) rfl))) (hw _ (List.mem_of_getElem? (i := 2) rfl)) (ty := .int) (by decide) rfl rfl (g := (mkF m 160 #[.val (.ref a1), .val (.double d2), .second, .val (.double (FP.dmul d2 (FP.l2d (own_t M 1)))), .second, .val (.int (4 : Int32)), .val (.double (FP.l2d (own_t M 4))), .second] [(.int (cn + (1 : Int32))), (.ref a1)])) rfl rfl (hb hby d7_160)
          have Ex_v117 := Ex_v114.wr W117
          have F_leaves_v117 := F_leaves_v114.other W117 (Or.inr (slot_ne (Or.inr (hw _ (List.mem_of_getElem? (i := 25) rfl))) (Or.inl (hw _ (List.mem_of_getElem? (i := 46) rfl))) (by decide) (t := .int) (t' := .int) (by decide) (by decide)))
          have F_sums_v117 := F_sums_v114.other W117 (Or.inr (slot_ne (Or.inr (hw _ (List.mem_of_getElem? (i := 27) rfl))) (Or.inl (hw _ (List.mem_of_getElem? (i := 46) rfl))) (by decide) (t := (.array .double)) (t' := .int) (by decide) (by decide)))
          have F_drawn_v117 := F_drawn_v114.other W117 (Or.inr (slot_ne (Or.inl (hw _ (List.mem_of_getElem? (i := 12) rfl))) (Or.inl (hw _ (List.mem_of_getElem? (i := 46) rfl))) (by decide) (t := (.array .int)) (t' := .int) (by decide) (by decide)))
          have F_drawnWeights_v117 := F_drawnWeights_v114.other W117 (Or.inr (slot_ne (Or.inl (hw _ (List.mem_of_getElem? (i := 14) rfl))) (Or.inl (hw _ (List.mem_of_getElem? (i := 46) rfl))) (by decide) (t := (.array .double)) (t' := .int) (by decide) (by decide)))
          have Vs_v117 := Vs_v114.other W117 (Ne.symm n1)
          have VN109_v117 := VN109_v114.other W117 (Ne.symm n2)
          have VX115_v117 := VX115_v115.other W117 (Ne.symm n3)
          have Z117 : n0 ≤ h117.size := Nat.le_trans Z114 (Nat.le_of_eq W117.size.symm)
          have K117 := K114.wr W117 (Or.inl (by simp))
          have F117_v117 : Fld Z h117 a1 "com/example/velar/velar/WeightedDraws" "drawnCount" "I" (.int (cn + (1 : Int32))) := F_drawnCount_v114.same W117
          have N117 := Fr.snoc X117 N114 ga
          obtain ⟨cq118, qq118, qq118'⟩ := Ex_v117.cell
          obtain ⟨_, _, ⟨T118, L118, k118, n118⟩, -, X118, ⟨Lc118, hQ118, l118, y118, z118⟩, st118⟩ := X117.privateBack hx (y := (⟨"com/example/velar/velar/WeightedDraws", "set", "(ID)V"⟩ : MethodName)) hown (mvT hZ (hw _ (List.mem_of_getElem? (i := 47) rfl))) (mvT hZ (hw _ (List.mem_of_getElem? (i := 48) rfl))) (own_selp (mvT hZ (hw _ (List.mem_of_getElem? (i := 2) rfl))) (Cond.privateMethod_at (mvP hZ (hw _ (List.mem_of_getElem? (i := 49) rfl)) (args := #[]))) (mvT hZ (hw _ (List.mem_of_getElem? (i := 48) rfl))) (by decide)) (Cond.privateMethod_at (mvP hZ (hw _ (List.mem_of_getElem? (i := 49) rfl)) (args := #[]))) (mvT hZ (hw _ (List.mem_of_getElem? (i := 50) rfl))) (by decide) (backOf (W := 0) (rset l Z a0 hw [] a1 (4 : Int32) (0 : Int64) aS M h117 n0 Z117 F_sums_v117 Vs_v117 gs n1 hM own_L0 (by decide)) hZ (hw _ (List.mem_of_getElem? (i := 50) rfl)) (hw _ (List.mem_of_getElem? (i := 3) rfl)) (by decide) (by decide)) (g := (mkF m 167 #[.val (.ref a1), .val (.double d2), .second, .val (.double (FP.dmul d2 (FP.l2d (own_t M 1)))), .second, .val (.int (4 : Int32)), .val (.double (FP.l2d (own_t M 4))), .second] [(.double (FP.l2d 0)), (.int (4 : Int32)), (.ref a1)])) rfl (by rw [hml]; rfl) (Steps.refl _) (a := a1) (by rw [e117]; exact qq118) qq118' (argsL := [(.int (4 : Int32)), (.double (FP.l2d 0))]) (rest := []) (lenOf pd_1 rfl) rfl (by show 2 * 0 + _ ≤ _; exact Nat.le_of_eq rfl) (hb hby d7_167) (fun _ _ => ⟨rfl, e117, (by decide : 0 + 0 ≤ _), (by decide : 0 + 0 ≤ _)⟩)
          dsimp only [Pt.U, Pt.locs, Pt.cells, Pt.slots] at X118 l118 y118 z118 st118 hQ118
          subst l118 y118 z118
          obtain ⟨rfl, N118q, Kc118, nf118_v118⟩ := hQ118
          have N118 := Fr.app N117 N118q
          have Ex_v118 := Ex_v117.keep Kc118
          have F_leaves_v118 := F_leaves_v117.keep Kc118 (ninS n1 nin0)
          have F_sums_v118 := F_sums_v117.keep Kc118 (ninS n1 nin0)
          have F_drawn_v118 := F_drawn_v117.keep Kc118 (ninS n1 nin0)
          have F_drawnWeights_v118 := F_drawnWeights_v117.keep Kc118 (ninS n1 nin0)
          have VN109_v118 := VN109_v117.keep Kc118 (ninS (Ne.symm n4) nin0)
          have VX115_v118 := VX115_v117.keep Kc118 (ninS (Ne.symm n5) nin0)
          have F117_v118 := F117_v117.keep Kc118 (ninS n1 nin0)
          have Z118 : n0 ≤ T118.heap.size := Nat.le_trans Z117 Kc118.1
          have KK118 := K117.trans Kc118 (allS (Or.inl (by simp)) all0)
          obtain ⟨T119, X119, e119, st119⟩ := getF X118 hx hZ hown (host := "") (Or.inl (hw _ (List.mem_of_getElem? (i := 24) rfl))) Via.refl rfl F_leaves_v118 (g := (mkF m 173 #[.val (.ref a1), .val (.double d2), .second, .val (.double (FP.dmul d2 (FP.l2d (own_t M 1)))), .second, .val (.int (4 : Int32)), .val (.double (FP.l2d (own_t M 4))), .second] [(.ref a1), (.int (4 : Int32))])) rfl rfl (hb hby d7_173)
          obtain ⟨fs, hr, hrun, hended, hW, hsame⟩ := X119.leave (v := some (.int (0 : Int32))) (fun h => by rw [Bd.returns] at h; cases h)
          refine ⟨_, _, pre100 _ ?_, hrun, hended, _, _, rfl, ?_, ⟨_, rfl⟩, hW, hsame.mono (by decide) (by decide)⟩
          · show Steps p.tables e below (T98.setTop (mkF m 52 #[.val (.ref a1), .val (.double d2), .second, .val (.double (FP.dmul d2 (FP.l2d (own_t M 1)))), .second, .val (.int (2 : Int32)), .val (.double (FP.l2d (own_t M 4))), .second] [(.int (cmpValue (FP.dcmp (FP.l2d (own_t M 5)) (FP.l2d 0)) .l))])) _
            refine XS.ifNo X98.here hx rfl (hb hby d7_52) rfl ((if0 _ _).trans (teq hc52_101).2) ?_
            show Steps p.tables e below (T98.setTop (mkF m 55 #[.val (.ref a1), .val (.double d2), .second, .val (.double (FP.dmul d2 (FP.l2d (own_t M 1)))), .second, .val (.int (2 : Int32)), .val (.double (FP.l2d (own_t M 4))), .second] [])) _
            refine XS.iconst X98.here hx rfl (hb hby d7_55) ?_
            show Steps p.tables e below (T98.setTop (mkF m 56 #[.val (.ref a1), .val (.double d2), .second, .val (.double (FP.dmul d2 (FP.l2d (own_t M 1)))), .second, .val (.int (2 : Int32)), .val (.double (FP.l2d (own_t M 4))), .second] [(.int (2 : Int32))])) _
            refine XS.iload X98.here hx rfl (hb hby d7_56) rfl ?_
            show Steps p.tables e below (T98.setTop (mkF m 58 #[.val (.ref a1), .val (.double d2), .second, .val (.double (FP.dmul d2 (FP.l2d (own_t M 1)))), .second, .val (.int (2 : Int32)), .val (.double (FP.l2d (own_t M 4))), .second] [(.int (2 : Int32)), (.int (2 : Int32))])) _
            refine XS.imul X98.here hx rfl (hb hby d7_58) rfl ?_
            show Steps p.tables e below (T98.setTop (mkF m 59 #[.val (.ref a1), .val (.double d2), .second, .val (.double (FP.dmul d2 (FP.l2d (own_t M 1)))), .second, .val (.int (2 : Int32)), .val (.double (FP.l2d (own_t M 4))), .second] [(.int (4 : Int32))])) _
            refine XS.istore X98.here hx rfl (hb hby d7_59) rfl (l' := #[.val (.ref a1), .val (.double d2), .second, .val (.double (FP.dmul d2 (FP.l2d (own_t M 1)))), .second, .val (.int (4 : Int32)), .val (.double (FP.l2d (own_t M 4))), .second]) rfl ?_
            show Steps p.tables e below (T98.setTop (mkF m 61 #[.val (.ref a1), .val (.double d2), .second, .val (.double (FP.dmul d2 (FP.l2d (own_t M 1)))), .second, .val (.int (4 : Int32)), .val (.double (FP.l2d (own_t M 4))), .second] [])) _
            refine XS.goto X98.here hx rfl (pc0 := 61) (pc' := 77) rfl (hb hby d7_61) (by decide) (by decide) ?_
            show Steps p.tables e below (T98.setTop (mkF m 77 #[.val (.ref a1), .val (.double d2), .second, .val (.double (FP.dmul d2 (FP.l2d (own_t M 1)))), .second, .val (.int (4 : Int32)), .val (.double (FP.l2d (own_t M 4))), .second] [])) _
            refine XS.goto X98.here hx rfl (pc0 := 77) (pc' := 12) rfl (hb hby d7_77) (by decide) (by decide) ?_
            show Steps p.tables e below (T98.setTop (mkF m 12 #[.val (.ref a1), .val (.double d2), .second, .val (.double (FP.dmul d2 (FP.l2d (own_t M 1)))), .second, .val (.int (4 : Int32)), .val (.double (FP.l2d (own_t M 4))), .second] [])) _
            refine XS.iload X98.here hx rfl (hb hby d7_12) rfl ?_
            show Steps p.tables e below (T98.setTop (mkF m 14 #[.val (.ref a1), .val (.double d2), .second, .val (.double (FP.dmul d2 (FP.l2d (own_t M 1)))), .second, .val (.int (4 : Int32)), .val (.double (FP.l2d (own_t M 4))), .second] [(.int (4 : Int32))])) _
            refine XS.aloadN X98.here hx rfl (hb hby d7_14) rfl rfl ?_
            show Steps p.tables e below (T98.setTop (mkF m 15 #[.val (.ref a1), .val (.double d2), .second, .val (.double (FP.dmul d2 (FP.l2d (own_t M 1)))), .second, .val (.int (4 : Int32)), .val (.double (FP.l2d (own_t M 4))), .second] [(.ref a1), (.int (4 : Int32))])) _
            refine st102 _ ?_
            show Steps p.tables e below (T102.setTop (mkF m 18 #[.val (.ref a1), .val (.double d2), .second, .val (.double (FP.dmul d2 (FP.l2d (own_t M 1)))), .second, .val (.int (4 : Int32)), .val (.double (FP.l2d (own_t M 4))), .second] [(.int (4 : Int32)), (.int (4 : Int32))])) _
            refine XS.icmpYes X102.here hx rfl (pc0 := 18) (pc' := 80) rfl (hb hby d7_18) rfl (flt (by decide : ¬ ((4 : Int32) < (4 : Int32)))).2.1 (by decide) (by decide) ?_
            show Steps p.tables e below (T102.setTop (mkF m 80 #[.val (.ref a1), .val (.double d2), .second, .val (.double (FP.dmul d2 (FP.l2d (own_t M 1)))), .second, .val (.int (4 : Int32)), .val (.double (FP.l2d (own_t M 4))), .second] [])) _
            refine XS.aloadN X102.here hx rfl (hb hby d7_80) rfl rfl ?_
            show Steps p.tables e below (T102.setTop (mkF m 81 #[.val (.ref a1), .val (.double d2), .second, .val (.double (FP.dmul d2 (FP.l2d (own_t M 1)))), .second, .val (.int (4 : Int32)), .val (.double (FP.l2d (own_t M 4))), .second] [(.ref a1)])) _
            refine st103 _ ?_
            show Steps p.tables e below (T103.setTop (mkF m 84 #[.val (.ref a1), .val (.double d2), .second, .val (.double (FP.dmul d2 (FP.l2d (own_t M 1)))), .second, .val (.int (4 : Int32)), .val (.double (FP.l2d (own_t M 4))), .second] [(.int cn)])) _
            refine XS.aloadN X103.here hx rfl (hb hby d7_84) rfl rfl ?_
            show Steps p.tables e below (T103.setTop (mkF m 85 #[.val (.ref a1), .val (.double d2), .second, .val (.double (FP.dmul d2 (FP.l2d (own_t M 1)))), .second, .val (.int (4 : Int32)), .val (.double (FP.l2d (own_t M 4))), .second] [(.ref a1), (.int cn)])) _
            refine st104 _ ?_
            show Steps p.tables e below (T104.setTop (mkF m 88 #[.val (.ref a1), .val (.double d2), .second, .val (.double (FP.dmul d2 (FP.l2d (own_t M 1)))), .second, .val (.int (4 : Int32)), .val (.double (FP.l2d (own_t M 4))), .second] [(.ref aD), (.int cn)])) _
            refine X104.arraylength hx (by rw [e104]; exact Ar105.1) (State.isArrayOf_alike hZ.alike Ar105.2.1) (g := (mkF m 88 #[.val (.ref a1), .val (.double d2), .second, .val (.double (FP.dmul d2 (FP.l2d (own_t M 1)))), .second, .val (.int (4 : Int32)), .val (.double (FP.l2d (own_t M 4))), .second] [(.ref aD), (.int cn)])) rfl rfl (hb hby d7_88) _ ?_
            rw [show cl105.slots.size.toInt32 = (64 : Int32) from by rw [S105]; rfl]
            show Steps p.tables e below (T104.setTop (mkF m 89 #[.val (.ref a1), .val (.double d2), .second, .val (.double (FP.dmul d2 (FP.l2d (own_t M 1)))), .second, .val (.int (4 : Int32)), .val (.double (FP.l2d (own_t M 4))), .second] [(.int (64 : Int32)), (.int cn)])) _
            refine XS.icmpYes X104.here hx rfl (pc0 := 89) (pc' := 126) rfl (hb hby d7_89) rfl (feq (hc.2.2 : ¬ (cn = (64 : Int32)))).2 (by decide) (by decide) ?_
            show Steps p.tables e below (T104.setTop (mkF m 126 #[.val (.ref a1), .val (.double d2), .second, .val (.double (FP.dmul d2 (FP.l2d (own_t M 1)))), .second, .val (.int (4 : Int32)), .val (.double (FP.l2d (own_t M 4))), .second] [])) _
            refine XS.aloadN X104.here hx rfl (hb hby d7_126) rfl rfl ?_
            show Steps p.tables e below (T104.setTop (mkF m 127 #[.val (.ref a1), .val (.double d2), .second, .val (.double (FP.dmul d2 (FP.l2d (own_t M 1)))), .second, .val (.int (4 : Int32)), .val (.double (FP.l2d (own_t M 4))), .second] [(.ref a1)])) _
            refine st106 _ ?_
            show Steps p.tables e below (T106.setTop (mkF m 130 #[.val (.ref a1), .val (.double d2), .second, .val (.double (FP.dmul d2 (FP.l2d (own_t M 1)))), .second, .val (.int (4 : Int32)), .val (.double (FP.l2d (own_t M 4))), .second] [(.ref aD)])) _
            refine XS.aloadN X106.here hx rfl (hb hby d7_130) rfl rfl ?_
            show Steps p.tables e below (T106.setTop (mkF m 131 #[.val (.ref a1), .val (.double d2), .second, .val (.double (FP.dmul d2 (FP.l2d (own_t M 1)))), .second, .val (.int (4 : Int32)), .val (.double (FP.l2d (own_t M 4))), .second] [(.ref a1), (.ref aD)])) _
            refine st107 _ ?_
            show Steps p.tables e below (T107.setTop (mkF m 134 #[.val (.ref a1), .val (.double d2), .second, .val (.double (FP.dmul d2 (FP.l2d (own_t M 1)))), .second, .val (.int (4 : Int32)), .val (.double (FP.l2d (own_t M 4))), .second] [(.int cn), (.ref aD)])) _
            refine XS.iload X107.here hx rfl (hb hby d7_134) rfl ?_
            show Steps p.tables e below (T107.setTop (mkF m 136 #[.val (.ref a1), .val (.double d2), .second, .val (.double (FP.dmul d2 (FP.l2d (own_t M 1)))), .second, .val (.int (4 : Int32)), .val (.double (FP.l2d (own_t M 4))), .second] [(.int (4 : Int32)), (.int cn), (.ref aD)])) _
            refine st108 _ ?_
            show Steps p.tables e below (T108.setTop (mkF m 137 #[.val (.ref a1), .val (.double d2), .second, .val (.double (FP.dmul d2 (FP.l2d (own_t M 1)))), .second, .val (.int (4 : Int32)), .val (.double (FP.l2d (own_t M 4))), .second] [])) _
            refine XS.aloadN X108.here hx rfl (hb hby d7_137) rfl rfl ?_
            show Steps p.tables e below (T108.setTop (mkF m 138 #[.val (.ref a1), .val (.double d2), .second, .val (.double (FP.dmul d2 (FP.l2d (own_t M 1)))), .second, .val (.int (4 : Int32)), .val (.double (FP.l2d (own_t M 4))), .second] [(.ref a1)])) _
            refine st110 _ ?_
            show Steps p.tables e below (T110.setTop (mkF m 141 #[.val (.ref a1), .val (.double d2), .second, .val (.double (FP.dmul d2 (FP.l2d (own_t M 1)))), .second, .val (.int (4 : Int32)), .val (.double (FP.l2d (own_t M 4))), .second] [(.ref aE)])) _
            refine XS.aloadN X110.here hx rfl (hb hby d7_141) rfl rfl ?_
            show Steps p.tables e below (T110.setTop (mkF m 142 #[.val (.ref a1), .val (.double d2), .second, .val (.double (FP.dmul d2 (FP.l2d (own_t M 1)))), .second, .val (.int (4 : Int32)), .val (.double (FP.l2d (own_t M 4))), .second] [(.ref a1), (.ref aE)])) _
            refine st111 _ ?_
            show Steps p.tables e below (T111.setTop (mkF m 145 #[.val (.ref a1), .val (.double d2), .second, .val (.double (FP.dmul d2 (FP.l2d (own_t M 1)))), .second, .val (.int (4 : Int32)), .val (.double (FP.l2d (own_t M 4))), .second] [(.int cn), (.ref aE)])) _
            refine XS.aloadN X111.here hx rfl (hb hby d7_145) rfl rfl ?_
            show Steps p.tables e below (T111.setTop (mkF m 146 #[.val (.ref a1), .val (.double d2), .second, .val (.double (FP.dmul d2 (FP.l2d (own_t M 1)))), .second, .val (.int (4 : Int32)), .val (.double (FP.l2d (own_t M 4))), .second] [(.ref a1), (.int cn), (.ref aE)])) _
            refine st112 _ ?_
            show Steps p.tables e below (T112.setTop (mkF m 149 #[.val (.ref a1), .val (.double d2), .second, .val (.double (FP.dmul d2 (FP.l2d (own_t M 1)))), .second, .val (.int (4 : Int32)), .val (.double (FP.l2d (own_t M 4))), .second] [(.ref aS), (.int cn), (.ref aE)])) _
            refine XS.iload X112.here hx rfl (hb hby d7_149) rfl ?_
            show Steps p.tables e below (T112.setTop (mkF m 151 #[.val (.ref a1), .val (.double d2), .second, .val (.double (FP.dmul d2 (FP.l2d (own_t M 1)))), .second, .val (.int (4 : Int32)), .val (.double (FP.l2d (own_t M 4))), .second] [(.int (4 : Int32)), (.ref aS), (.int cn), (.ref aE)])) _
            refine X112.daload hx (j := (4 : Int32)) (v := (.double (FP.l2d (own_t M 4)))) (by rw [e112]; exact Ar113.1) (State.isArrayOf_alike hZ.alike Ar113.2.1) Ar113.2.2 hin113 hat113 (g := (mkF m 151 #[.val (.ref a1), .val (.double d2), .second, .val (.double (FP.dmul d2 (FP.l2d (own_t M 1)))), .second, .val (.int (4 : Int32)), .val (.double (FP.l2d (own_t M 4))), .second] [(.int (4 : Int32)), (.ref aS), (.int cn), (.ref aE)])) rfl rfl (hb hby d7_151) _ ?_
            show Steps p.tables e below (T112.setTop (mkF m 152 #[.val (.ref a1), .val (.double d2), .second, .val (.double (FP.dmul d2 (FP.l2d (own_t M 1)))), .second, .val (.int (4 : Int32)), .val (.double (FP.l2d (own_t M 4))), .second] [(.double (FP.l2d (own_t M 4))), (.int cn), (.ref aE)])) _
            refine st114 _ ?_
            show Steps p.tables e below (T114.setTop (mkF m 153 #[.val (.ref a1), .val (.double d2), .second, .val (.double (FP.dmul d2 (FP.l2d (own_t M 1)))), .second, .val (.int (4 : Int32)), .val (.double (FP.l2d (own_t M 4))), .second] [])) _
            refine XS.aloadN X114.here hx rfl (hb hby d7_153) rfl rfl ?_
            show Steps p.tables e below (T114.setTop (mkF m 154 #[.val (.ref a1), .val (.double d2), .second, .val (.double (FP.dmul d2 (FP.l2d (own_t M 1)))), .second, .val (.int (4 : Int32)), .val (.double (FP.l2d (own_t M 4))), .second] [(.ref a1)])) _
            refine XS.dup X114.here hx rfl (hb hby d7_154) rfl rfl ?_
            show Steps p.tables e below (T114.setTop (mkF m 155 #[.val (.ref a1), .val (.double d2), .second, .val (.double (FP.dmul d2 (FP.l2d (own_t M 1)))), .second, .val (.int (4 : Int32)), .val (.double (FP.l2d (own_t M 4))), .second] [(.ref a1), (.ref a1)])) _
            refine st116 _ ?_
            show Steps p.tables e below (T116.setTop (mkF m 158 #[.val (.ref a1), .val (.double d2), .second, .val (.double (FP.dmul d2 (FP.l2d (own_t M 1)))), .second, .val (.int (4 : Int32)), .val (.double (FP.l2d (own_t M 4))), .second] [(.int cn), (.ref a1)])) _
            refine XS.iconst X116.here hx rfl (hb hby d7_158) ?_
            show Steps p.tables e below (T116.setTop (mkF m 159 #[.val (.ref a1), .val (.double d2), .second, .val (.double (FP.dmul d2 (FP.l2d (own_t M 1)))), .second, .val (.int (4 : Int32)), .val (.double (FP.l2d (own_t M 4))), .second] [(.int (1 : Int32)), (.int cn), (.ref a1)])) _
            refine XS.iadd X116.here hx rfl (hb hby d7_159) rfl ?_
            show Steps p.tables e below (T116.setTop (mkF m 160 #[.val (.ref a1), .val (.double d2), .second, .val (.double (FP.dmul d2 (FP.l2d (own_t M 1)))), .second, .val (.int (4 : Int32)), .val (.double (FP.l2d (own_t M 4))), .second] [(.int (cn + (1 : Int32))), (.ref a1)])) _
            refine st117 _ ?_
            show Steps p.tables e below (T117.setTop (mkF m 163 #[.val (.ref a1), .val (.double d2), .second, .val (.double (FP.dmul d2 (FP.l2d (own_t M 1)))), .second, .val (.int (4 : Int32)), .val (.double (FP.l2d (own_t M 4))), .second] [])) _
            refine XS.aloadN X117.here hx rfl (hb hby d7_163) rfl rfl ?_
            show Steps p.tables e below (T117.setTop (mkF m 164 #[.val (.ref a1), .val (.double d2), .second, .val (.double (FP.dmul d2 (FP.l2d (own_t M 1)))), .second, .val (.int (4 : Int32)), .val (.double (FP.l2d (own_t M 4))), .second] [(.ref a1)])) _
            refine XS.iload X117.here hx rfl (hb hby d7_164) rfl ?_
            show Steps p.tables e below (T117.setTop (mkF m 166 #[.val (.ref a1), .val (.double d2), .second, .val (.double (FP.dmul d2 (FP.l2d (own_t M 1)))), .second, .val (.int (4 : Int32)), .val (.double (FP.l2d (own_t M 4))), .second] [(.int (4 : Int32)), (.ref a1)])) _
            refine XS.dconst0 X117.here hx rfl (hb hby d7_166) (v := (FP.l2d 0)) (by decide +kernel) ?_
            show Steps p.tables e below (T117.setTop (mkF m 167 #[.val (.ref a1), .val (.double d2), .second, .val (.double (FP.dmul d2 (FP.l2d (own_t M 1)))), .second, .val (.int (4 : Int32)), .val (.double (FP.l2d (own_t M 4))), .second] [(.double (FP.l2d 0)), (.int (4 : Int32)), (.ref a1)])) _
            refine st118.trans ?_
            show Steps p.tables e below (T118.setTop (mkF m 170 #[.val (.ref a1), .val (.double d2), .second, .val (.double (FP.dmul d2 (FP.l2d (own_t M 1)))), .second, .val (.int (4 : Int32)), .val (.double (FP.l2d (own_t M 4))), .second] [])) _
            refine XS.iload X118.here hx rfl (hb hby d7_170) rfl ?_
            show Steps p.tables e below (T118.setTop (mkF m 172 #[.val (.ref a1), .val (.double d2), .second, .val (.double (FP.dmul d2 (FP.l2d (own_t M 1)))), .second, .val (.int (4 : Int32)), .val (.double (FP.l2d (own_t M 4))), .second] [(.int (4 : Int32))])) _
            refine XS.aloadN X118.here hx rfl (hb hby d7_172) rfl rfl ?_
            show Steps p.tables e below (T118.setTop (mkF m 173 #[.val (.ref a1), .val (.double d2), .second, .val (.double (FP.dmul d2 (FP.l2d (own_t M 1)))), .second, .val (.int (4 : Int32)), .val (.double (FP.l2d (own_t M 4))), .second] [(.ref a1), (.int (4 : Int32))])) _
            refine st119 _ ?_
            show Steps p.tables e below (T119.setTop (mkF m 176 #[.val (.ref a1), .val (.double d2), .second, .val (.double (FP.dmul d2 (FP.l2d (own_t M 1)))), .second, .val (.int (4 : Int32)), .val (.double (FP.l2d (own_t M 4))), .second] [(.int (4 : Int32)), (.int (4 : Int32))])) _
            refine XS.isub X119.here hx rfl (hb hby d7_176) rfl ?_
            show Steps p.tables e below (T119.setTop (mkF m 177 #[.val (.ref a1), .val (.double d2), .second, .val (.double (FP.dmul d2 (FP.l2d (own_t M 1)))), .second, .val (.int (4 : Int32)), .val (.double (FP.l2d (own_t M 4))), .second] [(.int (0 : Int32))])) _
            exact retI X119 hx Bd.returns (hb hby d7_177) hr
          · show Q_rdr Z a1 d2 aS aD aE cn M D X h0 n0 _ T119.heap _
            rw [e119]
            have hpk : own_pick M d2 = (4 : Int32) := by rw [own_pick, if_neg hc36_7, if_pos hc52_74, own_n2, if_neg hc36_79, if_pos hc52_101]
            exact (by rw [Q_rdr, hpk]; exact ⟨rfl, N118, KK118, F_leaves_v118, F_sums_v118, F_drawn_v118, F_drawnWeights_v118, F117_v118, nf118_v118, VN109_v118, VX115_v118⟩)
        · obtain ⟨T120, X120, e120, st120⟩ := getF X98 hx hZ hown (host := "") (Or.inl (hw _ (List.mem_of_getElem? (i := 24) rfl))) Via.refl e98 F_leaves (g := (mkF m 15 #[.val (.ref a1), .val (.double d2), .second, .val (.double (FP.dsub (FP.dmul d2 (FP.l2d (own_t M 1))) (FP.l2d (own_t M 4)))), .second, .val (.int (5 : Int32)), .val (.double (FP.l2d (own_t M 4))), .second] [(.ref a1), (.int (5 : Int32))])) rfl rfl (hb hby d7_15)
          obtain ⟨T121, X121, e121, st121⟩ := getF X120 hx hZ hown (host := "") (Or.inl (hw _ (List.mem_of_getElem? (i := 45) rfl))) Via.refl e120 F_drawnCount (g := (mkF m 81 #[.val (.ref a1), .val (.double d2), .second, .val (.double (FP.dsub (FP.dmul d2 (FP.l2d (own_t M 1))) (FP.l2d (own_t M 4)))), .second, .val (.int (5 : Int32)), .val (.double (FP.l2d (own_t M 4))), .second] [(.ref a1)])) rfl rfl (hb hby d7_81)
          obtain ⟨T122, X122, e122, st122⟩ := getF X121 hx hZ hown (host := "") (Or.inl (hw _ (List.mem_of_getElem? (i := 11) rfl))) Via.refl e121 F_drawn (g := (mkF m 85 #[.val (.ref a1), .val (.double d2), .second, .val (.double (FP.dsub (FP.dmul d2 (FP.l2d (own_t M 1))) (FP.l2d (own_t M 4)))), .second, .val (.int (5 : Int32)), .val (.double (FP.l2d (own_t M 4))), .second] [(.ref a1), (.int cn)])) rfl rfl (hb hby d7_85)
          obtain ⟨cl123, Ar123, S123, H123⟩ := id Vd
          obtain ⟨T124, X124, e124, st124⟩ := getF X122 hx hZ hown (host := "") (Or.inl (hw _ (List.mem_of_getElem? (i := 11) rfl))) Via.refl e122 F_drawn (g := (mkF m 127 #[.val (.ref a1), .val (.double d2), .second, .val (.double (FP.dsub (FP.dmul d2 (FP.l2d (own_t M 1))) (FP.l2d (own_t M 4)))), .second, .val (.int (5 : Int32)), .val (.double (FP.l2d (own_t M 4))), .second] [(.ref a1)])) rfl rfl (hb hby d7_127)
          obtain ⟨T125, X125, e125, st125⟩ := getF X124 hx hZ hown (host := "") (Or.inl (hw _ (List.mem_of_getElem? (i := 45) rfl))) Via.refl e124 F_drawnCount (g := (mkF m 131 #[.val (.ref a1), .val (.double d2), .second, .val (.double (FP.dsub (FP.dmul d2 (FP.l2d (own_t M 1))) (FP.l2d (own_t M 4)))), .second, .val (.int (5 : Int32)), .val (.double (FP.l2d (own_t M 4))), .second] [(.ref a1), (.ref aD)])) rfl rfl (hb hby d7_131)
          obtain ⟨cl126, Ar126, S126, H126⟩ := id Vd
          have hin126 : ¬ (cn < 0 ∨ cl126.slots.size ≤ (cn).toNatClampNeg) := inA S126 hc.1 hc.2.1
          obtain ⟨T126, h126, X126, e126, W126, st126⟩ := stI X125 hx hZ e125 Ar126 (j := cn) hin126 (g := (mkF m 136 #[.val (.ref a1), .val (.double d2), .second, .val (.double (FP.dsub (FP.dmul d2 (FP.l2d (own_t M 1))) (FP.l2d (own_t M 4)))), .second, .val (.int (5 : Int32)), .val (.double (FP.l2d (own_t M 4))), .second] [(.int (5 : Int32)), (.int cn), (.ref aD)])) rfl rfl (hb hby d7_136)
          have Ex_v126 := Ex.wr W126
          have F_leaves_v126 := F_leaves.other W126 (Or.inl n2)
          have F_sums_v126 := F_sums.other W126 (Or.inl n2)
          have F_drawn_v126 := F_drawn.other W126 (Or.inl n2)
          have F_drawnWeights_v126 := F_drawnWeights.other W126 (Or.inl n2)
          have F_drawnCount_v126 := F_drawnCount.other W126 (Or.inl n2)
          have Vs_v126 := Vs.other W126 n4
          have Ve_v126 := Ve.other W126 (Ne.symm n6)
          have Z126 : n0 ≤ h126.size := Nat.le_trans Z0 (Nat.le_of_eq W126.size.symm)
          have K126 := K0.wr W126 (Or.inl (by simp))
          have V126_v126 := ArF.set Ar126 S126 H126 W126 hin126
          have N126 := Fr.snoc X126 N0 gd
          have VN127_v127 : ArF Z h126 aD .int 64 (fun i => .int ((own_upN D cn (5 : Int32)) i)) := V126_v126.congr (fun i hi => own_upV D cn (5 : Int32) i)
          obtain ⟨T128, X128, e128, st128⟩ := getF X126 hx hZ hown (host := "") (Or.inl (hw _ (List.mem_of_getElem? (i := 13) rfl))) Via.refl e126 F_drawnWeights_v126 (g := (mkF m 138 #[.val (.ref a1), .val (.double d2), .second, .val (.double (FP.dsub (FP.dmul d2 (FP.l2d (own_t M 1))) (FP.l2d (own_t M 4)))), .second, .val (.int (5 : Int32)), .val (.double (FP.l2d (own_t M 4))), .second] [(.ref a1)])) rfl rfl (hb hby d7_138)
          obtain ⟨T129, X129, e129, st129⟩ := getF X128 hx hZ hown (host := "") (Or.inl (hw _ (List.mem_of_getElem? (i := 45) rfl))) Via.refl e128 F_drawnCount_v126 (g := (mkF m 142 #[.val (.ref a1), .val (.double d2), .second, .val (.double (FP.dsub (FP.dmul d2 (FP.l2d (own_t M 1))) (FP.l2d (own_t M 4)))), .second, .val (.int (5 : Int32)), .val (.double (FP.l2d (own_t M 4))), .second] [(.ref a1), (.ref aE)])) rfl rfl (hb hby d7_142)
          obtain ⟨T130, X130, e130, st130⟩ := getF X129 hx hZ hown (host := "") (Or.inl (hw _ (List.mem_of_getElem? (i := 26) rfl))) Via.refl e129 F_sums_v126 (g := (mkF m 146 #[.val (.ref a1), .val (.double d2), .second, .val (.double (FP.dsub (FP.dmul d2 (FP.l2d (own_t M 1))) (FP.l2d (own_t M 4)))), .second, .val (.int (5 : Int32)), .val (.double (FP.l2d (own_t M 4))), .second] [(.ref a1), (.int cn), (.ref aE)])) rfl rfl (hb hby d7_146)
          obtain ⟨cl131, Ar131, S131, H131⟩ := id Vs_v126
          have hin131 : ¬ ((5 : Int32) < 0 ∨ cl131.slots.size ≤ ((5 : Int32)).toNatClampNeg) := inA S131 (by decide) (by decide)
          have hat131 : cl131.slots[((5 : Int32)).toNatClampNeg]? = some (.double (FP.l2d (own_t M 5))) := ArF.at S131 H131 hin131 rfl
          obtain ⟨cl132, Ar132, S132, H132⟩ := id Ve_v126
          have hin132 : ¬ (cn < 0 ∨ cl132.slots.size ≤ (cn).toNatClampNeg) := inA S132 hc.1 hc.2.1
          obtain ⟨T132, h132, X132, e132, W132, st132⟩ := stD X130 hx hZ e130 Ar132 (j := cn) hin132 (g := (mkF m 152 #[.val (.ref a1), .val (.double d2), .second, .val (.double (FP.dsub (FP.dmul d2 (FP.l2d (own_t M 1))) (FP.l2d (own_t M 4)))), .second, .val (.int (5 : Int32)), .val (.double (FP.l2d (own_t M 4))), .second] [(.double (FP.l2d (own_t M 5))), (.int cn), (.ref aE)])) rfl rfl (hb hby d7_152)
          have Ex_v132 := Ex_v126.wr W132
          have F_leaves_v132 := F_leaves_v126.other W132 (Or.inl n3)
          have F_sums_v132 := F_sums_v126.other W132 (Or.inl n3)
          have F_drawn_v132 := F_drawn_v126.other W132 (Or.inl n3)
          have F_drawnWeights_v132 := F_drawnWeights_v126.other W132 (Or.inl n3)
          have F_drawnCount_v132 := F_drawnCount_v126.other W132 (Or.inl n3)
          have Vs_v132 := Vs_v126.other W132 n5
          have VN127_v132 := VN127_v127.other W132 n6
          have Z132 : n0 ≤ h132.size := Nat.le_trans Z126 (Nat.le_of_eq W132.size.symm)
          have K132 := K126.wr W132 (Or.inl (by simp))
          have V132_v132 := ArF.set Ar132 S132 H132 W132 hin132
          have N132 := Fr.snoc X132 N126 ge
          have VX133_v133 : ArF Z h132 aE .double 64 (fun i => .double (FP.l2d ((own_upX X cn (own_t M 5)) i))) := V132_v132.congr (fun i hi => own_upW X cn (own_t M 5) i)
          obtain ⟨T134, X134, e134, st134⟩ := getF X132 hx hZ hown (host := "") (Or.inl (hw _ (List.mem_of_getElem? (i := 45) rfl))) Via.refl e132 F_drawnCount_v132 (g := (mkF m 155 #[.val (.ref a1), .val (.double d2), .second, .val (.double (FP.dsub (FP.dmul d2 (FP.l2d (own_t M 1))) (FP.l2d (own_t M 4)))), .second, .val (.int (5 : Int32)), .val (.double (FP.l2d (own_t M 4))), .second] [(.ref a1), (.ref a1)])) rfl rfl (hb hby d7_155)
          obtain ⟨T135, h135, X135, e135, W135, st135⟩ := putF X134 hx hZ hown (host := "") (Or.inl (hw _ (List.mem_of_getElem? (i := 45) rfl))) Via.refl e134 F_drawnCount_v132 Ex_v132 (Or.inl (hw _ (List.mem_of_getElem? (i := 46) rfl))) (hw _ (List.mem_of_getElem? (i := 2) rfl)) (ty := .int) (by decide) rfl rfl (g := (mkF m 160 #[.val (.ref a1), .val (.double d2), .second, .val (.double (FP.dsub (FP.dmul d2 (FP.l2d (own_t M 1))) (FP.l2d (own_t M 4)))), .second, .val (.int (5 : Int32)), .val (.double (FP.l2d (own_t M 4))), .second] [(.int (cn + (1 : Int32))), (.ref a1)])) rfl rfl (hb hby d7_160)
          have Ex_v135 := Ex_v132.wr W135
          have F_leaves_v135 := F_leaves_v132.other W135 (Or.inr (slot_ne (Or.inr (hw _ (List.mem_of_getElem? (i := 25) rfl))) (Or.inl (hw _ (List.mem_of_getElem? (i := 46) rfl))) (by decide) (t := .int) (t' := .int) (by decide) (by decide)))
          have F_sums_v135 := F_sums_v132.other W135 (Or.inr (slot_ne (Or.inr (hw _ (List.mem_of_getElem? (i := 27) rfl))) (Or.inl (hw _ (List.mem_of_getElem? (i := 46) rfl))) (by decide) (t := (.array .double)) (t' := .int) (by decide) (by decide)))
          have F_drawn_v135 := F_drawn_v132.other W135 (Or.inr (slot_ne (Or.inl (hw _ (List.mem_of_getElem? (i := 12) rfl))) (Or.inl (hw _ (List.mem_of_getElem? (i := 46) rfl))) (by decide) (t := (.array .int)) (t' := .int) (by decide) (by decide)))
          have F_drawnWeights_v135 := F_drawnWeights_v132.other W135 (Or.inr (slot_ne (Or.inl (hw _ (List.mem_of_getElem? (i := 14) rfl))) (Or.inl (hw _ (List.mem_of_getElem? (i := 46) rfl))) (by decide) (t := (.array .double)) (t' := .int) (by decide) (by decide)))
          have Vs_v135 := Vs_v132.other W135 (Ne.symm n1)
          have VN127_v135 := VN127_v132.other W135 (Ne.symm n2)
          have VX133_v135 := VX133_v133.other W135 (Ne.symm n3)
          have Z135 : n0 ≤ h135.size := Nat.le_trans Z132 (Nat.le_of_eq W135.size.symm)
          have K135 := K132.wr W135 (Or.inl (by simp))
          have F135_v135 : Fld Z h135 a1 "com/example/velar/velar/WeightedDraws" "drawnCount" "I" (.int (cn + (1 : Int32))) := F_drawnCount_v132.same W135
          have N135 := Fr.snoc X135 N132 ga
          obtain ⟨cq136, qq136, qq136'⟩ := Ex_v135.cell
          obtain ⟨_, _, ⟨T136, L136, k136, n136⟩, -, X136, ⟨Lc136, hQ136, l136, y136, z136⟩, st136⟩ := X135.privateBack hx (y := (⟨"com/example/velar/velar/WeightedDraws", "set", "(ID)V"⟩ : MethodName)) hown (mvT hZ (hw _ (List.mem_of_getElem? (i := 47) rfl))) (mvT hZ (hw _ (List.mem_of_getElem? (i := 48) rfl))) (own_selp (mvT hZ (hw _ (List.mem_of_getElem? (i := 2) rfl))) (Cond.privateMethod_at (mvP hZ (hw _ (List.mem_of_getElem? (i := 49) rfl)) (args := #[]))) (mvT hZ (hw _ (List.mem_of_getElem? (i := 48) rfl))) (by decide)) (Cond.privateMethod_at (mvP hZ (hw _ (List.mem_of_getElem? (i := 49) rfl)) (args := #[]))) (mvT hZ (hw _ (List.mem_of_getElem? (i := 50) rfl))) (by decide) (backOf (W := 0) (rset l Z a0 hw [] a1 (5 : Int32) (0 : Int64) aS M h135 n0 Z135 F_sums_v135 Vs_v135 gs n1 hM own_L0 (by decide)) hZ (hw _ (List.mem_of_getElem? (i := 50) rfl)) (hw _ (List.mem_of_getElem? (i := 3) rfl)) (by decide) (by decide)) (g := (mkF m 167 #[.val (.ref a1), .val (.double d2), .second, .val (.double (FP.dsub (FP.dmul d2 (FP.l2d (own_t M 1))) (FP.l2d (own_t M 4)))), .second, .val (.int (5 : Int32)), .val (.double (FP.l2d (own_t M 4))), .second] [(.double (FP.l2d 0)), (.int (5 : Int32)), (.ref a1)])) rfl (by rw [hml]; rfl) (Steps.refl _) (a := a1) (by rw [e135]; exact qq136) qq136' (argsL := [(.int (5 : Int32)), (.double (FP.l2d 0))]) (rest := []) (lenOf pd_1 rfl) rfl (by show 2 * 0 + _ ≤ _; exact Nat.le_of_eq rfl) (hb hby d7_167) (fun _ _ => ⟨rfl, e135, (by decide : 0 + 0 ≤ _), (by decide : 0 + 0 ≤ _)⟩)
          dsimp only [Pt.U, Pt.locs, Pt.cells, Pt.slots] at X136 l136 y136 z136 st136 hQ136
          subst l136 y136 z136
          obtain ⟨rfl, N136q, Kc136, nf136_v136⟩ := hQ136
          have N136 := Fr.app N135 N136q
          have Ex_v136 := Ex_v135.keep Kc136
          have F_leaves_v136 := F_leaves_v135.keep Kc136 (ninS n1 nin0)
          have F_sums_v136 := F_sums_v135.keep Kc136 (ninS n1 nin0)
          have F_drawn_v136 := F_drawn_v135.keep Kc136 (ninS n1 nin0)
          have F_drawnWeights_v136 := F_drawnWeights_v135.keep Kc136 (ninS n1 nin0)
          have VN127_v136 := VN127_v135.keep Kc136 (ninS (Ne.symm n4) nin0)
          have VX133_v136 := VX133_v135.keep Kc136 (ninS (Ne.symm n5) nin0)
          have F135_v136 := F135_v135.keep Kc136 (ninS n1 nin0)
          have Z136 : n0 ≤ T136.heap.size := Nat.le_trans Z135 Kc136.1
          have KK136 := K135.trans Kc136 (allS (Or.inl (by simp)) all0)
          obtain ⟨T137, X137, e137, st137⟩ := getF X136 hx hZ hown (host := "") (Or.inl (hw _ (List.mem_of_getElem? (i := 24) rfl))) Via.refl rfl F_leaves_v136 (g := (mkF m 173 #[.val (.ref a1), .val (.double d2), .second, .val (.double (FP.dsub (FP.dmul d2 (FP.l2d (own_t M 1))) (FP.l2d (own_t M 4)))), .second, .val (.int (5 : Int32)), .val (.double (FP.l2d (own_t M 4))), .second] [(.ref a1), (.int (5 : Int32))])) rfl rfl (hb hby d7_173)
          obtain ⟨fs, hr, hrun, hended, hW, hsame⟩ := X137.leave (v := some (.int (1 : Int32))) (fun h => by rw [Bd.returns] at h; cases h)
          refine ⟨_, _, pre100 _ ?_, hrun, hended, _, _, rfl, ?_, ⟨_, rfl⟩, hW, hsame.mono (by decide) (by decide)⟩
          · show Steps p.tables e below (T98.setTop (mkF m 52 #[.val (.ref a1), .val (.double d2), .second, .val (.double (FP.dmul d2 (FP.l2d (own_t M 1)))), .second, .val (.int (2 : Int32)), .val (.double (FP.l2d (own_t M 4))), .second] [(.int (cmpValue (FP.dcmp (FP.l2d (own_t M 5)) (FP.l2d 0)) .l))])) _
            refine XS.ifYes X98.here hx rfl (pc0 := 52) (pc' := 64) rfl (hb hby d7_52) rfl ((if0 _ _).trans (feq hc52_101).2) (by decide) (by decide) ?_
            show Steps p.tables e below (T98.setTop (mkF m 64 #[.val (.ref a1), .val (.double d2), .second, .val (.double (FP.dmul d2 (FP.l2d (own_t M 1)))), .second, .val (.int (2 : Int32)), .val (.double (FP.l2d (own_t M 4))), .second] [])) _
            refine XS.dloadN X98.here hx rfl (hb hby d7_64) rfl ?_
            show Steps p.tables e below (T98.setTop (mkF m 65 #[.val (.ref a1), .val (.double d2), .second, .val (.double (FP.dmul d2 (FP.l2d (own_t M 1)))), .second, .val (.int (2 : Int32)), .val (.double (FP.l2d (own_t M 4))), .second] [(.double (FP.dmul d2 (FP.l2d (own_t M 1))))])) _
            refine XS.dload X98.here hx rfl (hb hby d7_65) rfl ?_
            show Steps p.tables e below (T98.setTop (mkF m 67 #[.val (.ref a1), .val (.double d2), .second, .val (.double (FP.dmul d2 (FP.l2d (own_t M 1)))), .second, .val (.int (2 : Int32)), .val (.double (FP.l2d (own_t M 4))), .second] [(.double (FP.l2d (own_t M 4))), (.double (FP.dmul d2 (FP.l2d (own_t M 1))))])) _
            refine XS.dsubS X98.here hx rfl (hb hby d7_67) rfl (Jvm.Free.Fl.dsub_out (Jvm.Free.Fl.dmul_out hfr (Jvm.Free.Fl.l2d_fin _)) (Jvm.Free.Fl.l2d_fin _)) (v := (FP.dsub (FP.dmul d2 (FP.l2d (own_t M 1))) (FP.l2d (own_t M 4)))) rfl ?_
            show Steps p.tables e below (T98.setTop (mkF m 68 #[.val (.ref a1), .val (.double d2), .second, .val (.double (FP.dmul d2 (FP.l2d (own_t M 1)))), .second, .val (.int (2 : Int32)), .val (.double (FP.l2d (own_t M 4))), .second] [(.double (FP.dsub (FP.dmul d2 (FP.l2d (own_t M 1))) (FP.l2d (own_t M 4))))])) _
            refine XS.dstoreN X98.here hx rfl (hb hby d7_68) rfl (l' := #[.val (.ref a1), .val (.double d2), .second, .val (.double (FP.dsub (FP.dmul d2 (FP.l2d (own_t M 1))) (FP.l2d (own_t M 4)))), .second, .val (.int (2 : Int32)), .val (.double (FP.l2d (own_t M 4))), .second]) rfl ?_
            show Steps p.tables e below (T98.setTop (mkF m 69 #[.val (.ref a1), .val (.double d2), .second, .val (.double (FP.dsub (FP.dmul d2 (FP.l2d (own_t M 1))) (FP.l2d (own_t M 4)))), .second, .val (.int (2 : Int32)), .val (.double (FP.l2d (own_t M 4))), .second] [])) _
            refine XS.iconst X98.here hx rfl (hb hby d7_69) ?_
            show Steps p.tables e below (T98.setTop (mkF m 70 #[.val (.ref a1), .val (.double d2), .second, .val (.double (FP.dsub (FP.dmul d2 (FP.l2d (own_t M 1))) (FP.l2d (own_t M 4)))), .second, .val (.int (2 : Int32)), .val (.double (FP.l2d (own_t M 4))), .second] [(.int (2 : Int32))])) _
            refine XS.iload X98.here hx rfl (hb hby d7_70) rfl ?_
            show Steps p.tables e below (T98.setTop (mkF m 72 #[.val (.ref a1), .val (.double d2), .second, .val (.double (FP.dsub (FP.dmul d2 (FP.l2d (own_t M 1))) (FP.l2d (own_t M 4)))), .second, .val (.int (2 : Int32)), .val (.double (FP.l2d (own_t M 4))), .second] [(.int (2 : Int32)), (.int (2 : Int32))])) _
            refine XS.imul X98.here hx rfl (hb hby d7_72) rfl ?_
            show Steps p.tables e below (T98.setTop (mkF m 73 #[.val (.ref a1), .val (.double d2), .second, .val (.double (FP.dsub (FP.dmul d2 (FP.l2d (own_t M 1))) (FP.l2d (own_t M 4)))), .second, .val (.int (2 : Int32)), .val (.double (FP.l2d (own_t M 4))), .second] [(.int (4 : Int32))])) _
            refine XS.iconst X98.here hx rfl (hb hby d7_73) ?_
            show Steps p.tables e below (T98.setTop (mkF m 74 #[.val (.ref a1), .val (.double d2), .second, .val (.double (FP.dsub (FP.dmul d2 (FP.l2d (own_t M 1))) (FP.l2d (own_t M 4)))), .second, .val (.int (2 : Int32)), .val (.double (FP.l2d (own_t M 4))), .second] [(.int (1 : Int32)), (.int (4 : Int32))])) _
            refine XS.iadd X98.here hx rfl (hb hby d7_74) rfl ?_
            show Steps p.tables e below (T98.setTop (mkF m 75 #[.val (.ref a1), .val (.double d2), .second, .val (.double (FP.dsub (FP.dmul d2 (FP.l2d (own_t M 1))) (FP.l2d (own_t M 4)))), .second, .val (.int (2 : Int32)), .val (.double (FP.l2d (own_t M 4))), .second] [(.int (5 : Int32))])) _
            refine XS.istore X98.here hx rfl (hb hby d7_75) rfl (l' := #[.val (.ref a1), .val (.double d2), .second, .val (.double (FP.dsub (FP.dmul d2 (FP.l2d (own_t M 1))) (FP.l2d (own_t M 4)))), .second, .val (.int (5 : Int32)), .val (.double (FP.l2d (own_t M 4))), .second]) rfl ?_
            show Steps p.tables e below (T98.setTop (mkF m 77 #[.val (.ref a1), .val (.double d2), .second, .val (.double (FP.dsub (FP.dmul d2 (FP.l2d (own_t M 1))) (FP.l2d (own_t M 4)))), .second, .val (.int (5 : Int32)), .val (.double (FP.l2d (own_t M 4))), .second] [])) _
            refine XS.goto X98.here hx rfl (pc0 := 77) (pc' := 12) rfl (hb hby d7_77) (by decide) (by decide) ?_
            show Steps p.tables e below (T98.setTop (mkF m 12 #[.val (.ref a1), .val (.double d2), .second, .val (.double (FP.dsub (FP.dmul d2 (FP.l2d (own_t M 1))) (FP.l2d (own_t M 4)))), .second, .val (.int (5 : Int32)), .val (.double (FP.l2d (own_t M 4))), .second] [])) _
            refine XS.iload X98.here hx rfl (hb hby d7_12) rfl ?_
            show Steps p.tables e below (T98.setTop (mkF m 14 #[.val (.ref a1), .val (.double d2), .second, .val (.double (FP.dsub (FP.dmul d2 (FP.l2d (own_t M 1))) (FP.l2d (own_t M 4)))), .second, .val (.int (5 : Int32)), .val (.double (FP.l2d (own_t M 4))), .second] [(.int (5 : Int32))])) _
            refine XS.aloadN X98.here hx rfl (hb hby d7_14) rfl rfl ?_
            show Steps p.tables e below (T98.setTop (mkF m 15 #[.val (.ref a1), .val (.double d2), .second, .val (.double (FP.dsub (FP.dmul d2 (FP.l2d (own_t M 1))) (FP.l2d (own_t M 4)))), .second, .val (.int (5 : Int32)), .val (.double (FP.l2d (own_t M 4))), .second] [(.ref a1), (.int (5 : Int32))])) _
            refine st120 _ ?_
            show Steps p.tables e below (T120.setTop (mkF m 18 #[.val (.ref a1), .val (.double d2), .second, .val (.double (FP.dsub (FP.dmul d2 (FP.l2d (own_t M 1))) (FP.l2d (own_t M 4)))), .second, .val (.int (5 : Int32)), .val (.double (FP.l2d (own_t M 4))), .second] [(.int (4 : Int32)), (.int (5 : Int32))])) _
            refine XS.icmpYes X120.here hx rfl (pc0 := 18) (pc' := 80) rfl (hb hby d7_18) rfl (flt (by decide : ¬ ((5 : Int32) < (4 : Int32)))).2.1 (by decide) (by decide) ?_
            show Steps p.tables e below (T120.setTop (mkF m 80 #[.val (.ref a1), .val (.double d2), .second, .val (.double (FP.dsub (FP.dmul d2 (FP.l2d (own_t M 1))) (FP.l2d (own_t M 4)))), .second, .val (.int (5 : Int32)), .val (.double (FP.l2d (own_t M 4))), .second] [])) _
            refine XS.aloadN X120.here hx rfl (hb hby d7_80) rfl rfl ?_
            show Steps p.tables e below (T120.setTop (mkF m 81 #[.val (.ref a1), .val (.double d2), .second, .val (.double (FP.dsub (FP.dmul d2 (FP.l2d (own_t M 1))) (FP.l2d (own_t M 4)))), .second, .val (.int (5 : Int32)), .val (.double (FP.l2d (own_t M 4))), .second] [(.ref a1)])) _
            refine st121 _ ?_
            show Steps p.tables e below (T121.setTop (mkF m 84 #[.val (.ref a1), .val (.double d2), .second, .val (.double (FP.dsub (FP.dmul d2 (FP.l2d (own_t M 1))) (FP.l2d (own_t M 4)))), .second, .val (.int (5 : Int32)), .val (.double (FP.l2d (own_t M 4))), .second] [(.int cn)])) _
            refine XS.aloadN X121.here hx rfl (hb hby d7_84) rfl rfl ?_
            show Steps p.tables e below (T121.setTop (mkF m 85 #[.val (.ref a1), .val (.double d2), .second, .val (.double (FP.dsub (FP.dmul d2 (FP.l2d (own_t M 1))) (FP.l2d (own_t M 4)))), .second, .val (.int (5 : Int32)), .val (.double (FP.l2d (own_t M 4))), .second] [(.ref a1), (.int cn)])) _
            refine st122 _ ?_
            show Steps p.tables e below (T122.setTop (mkF m 88 #[.val (.ref a1), .val (.double d2), .second, .val (.double (FP.dsub (FP.dmul d2 (FP.l2d (own_t M 1))) (FP.l2d (own_t M 4)))), .second, .val (.int (5 : Int32)), .val (.double (FP.l2d (own_t M 4))), .second] [(.ref aD), (.int cn)])) _
            refine X122.arraylength hx (by rw [e122]; exact Ar123.1) (State.isArrayOf_alike hZ.alike Ar123.2.1) (g := (mkF m 88 #[.val (.ref a1), .val (.double d2), .second, .val (.double (FP.dsub (FP.dmul d2 (FP.l2d (own_t M 1))) (FP.l2d (own_t M 4)))), .second, .val (.int (5 : Int32)), .val (.double (FP.l2d (own_t M 4))), .second] [(.ref aD), (.int cn)])) rfl rfl (hb hby d7_88) _ ?_
            rw [show cl123.slots.size.toInt32 = (64 : Int32) from by rw [S123]; rfl]
            show Steps p.tables e below (T122.setTop (mkF m 89 #[.val (.ref a1), .val (.double d2), .second, .val (.double (FP.dsub (FP.dmul d2 (FP.l2d (own_t M 1))) (FP.l2d (own_t M 4)))), .second, .val (.int (5 : Int32)), .val (.double (FP.l2d (own_t M 4))), .second] [(.int (64 : Int32)), (.int cn)])) _
            refine XS.icmpYes X122.here hx rfl (pc0 := 89) (pc' := 126) rfl (hb hby d7_89) rfl (feq (hc.2.2 : ¬ (cn = (64 : Int32)))).2 (by decide) (by decide) ?_
            show Steps p.tables e below (T122.setTop (mkF m 126 #[.val (.ref a1), .val (.double d2), .second, .val (.double (FP.dsub (FP.dmul d2 (FP.l2d (own_t M 1))) (FP.l2d (own_t M 4)))), .second, .val (.int (5 : Int32)), .val (.double (FP.l2d (own_t M 4))), .second] [])) _
            refine XS.aloadN X122.here hx rfl (hb hby d7_126) rfl rfl ?_
            show Steps p.tables e below (T122.setTop (mkF m 127 #[.val (.ref a1), .val (.double d2), .second, .val (.double (FP.dsub (FP.dmul d2 (FP.l2d (own_t M 1))) (FP.l2d (own_t M 4)))), .second, .val (.int (5 : Int32)), .val (.double (FP.l2d (own_t M 4))), .second] [(.ref a1)])) _
            refine st124 _ ?_
            show Steps p.tables e below (T124.setTop (mkF m 130 #[.val (.ref a1), .val (.double d2), .second, .val (.double (FP.dsub (FP.dmul d2 (FP.l2d (own_t M 1))) (FP.l2d (own_t M 4)))), .second, .val (.int (5 : Int32)), .val (.double (FP.l2d (own_t M 4))), .second] [(.ref aD)])) _
            refine XS.aloadN X124.here hx rfl (hb hby d7_130) rfl rfl ?_
            show Steps p.tables e below (T124.setTop (mkF m 131 #[.val (.ref a1), .val (.double d2), .second, .val (.double (FP.dsub (FP.dmul d2 (FP.l2d (own_t M 1))) (FP.l2d (own_t M 4)))), .second, .val (.int (5 : Int32)), .val (.double (FP.l2d (own_t M 4))), .second] [(.ref a1), (.ref aD)])) _
            refine st125 _ ?_
            show Steps p.tables e below (T125.setTop (mkF m 134 #[.val (.ref a1), .val (.double d2), .second, .val (.double (FP.dsub (FP.dmul d2 (FP.l2d (own_t M 1))) (FP.l2d (own_t M 4)))), .second, .val (.int (5 : Int32)), .val (.double (FP.l2d (own_t M 4))), .second] [(.int cn), (.ref aD)])) _
            refine XS.iload X125.here hx rfl (hb hby d7_134) rfl ?_
            show Steps p.tables e below (T125.setTop (mkF m 136 #[.val (.ref a1), .val (.double d2), .second, .val (.double (FP.dsub (FP.dmul d2 (FP.l2d (own_t M 1))) (FP.l2d (own_t M 4)))), .second, .val (.int (5 : Int32)), .val (.double (FP.l2d (own_t M 4))), .second] [(.int (5 : Int32)), (.int cn), (.ref aD)])) _
            refine st126 _ ?_
            show Steps p.tables e below (T126.setTop (mkF m 137 #[.val (.ref a1), .val (.double d2), .second, .val (.double (FP.dsub (FP.dmul d2 (FP.l2d (own_t M 1))) (FP.l2d (own_t M 4)))), .second, .val (.int (5 : Int32)), .val (.double (FP.l2d (own_t M 4))), .second] [])) _
            refine XS.aloadN X126.here hx rfl (hb hby d7_137) rfl rfl ?_
            show Steps p.tables e below (T126.setTop (mkF m 138 #[.val (.ref a1), .val (.double d2), .second, .val (.double (FP.dsub (FP.dmul d2 (FP.l2d (own_t M 1))) (FP.l2d (own_t M 4)))), .second, .val (.int (5 : Int32)), .val (.double (FP.l2d (own_t M 4))), .second] [(.ref a1)])) _
            refine st128 _ ?_
            show Steps p.tables e below (T128.setTop (mkF m 141 #[.val (.ref a1), .val (.double d2), .second, .val (.double (FP.dsub (FP.dmul d2 (FP.l2d (own_t M 1))) (FP.l2d (own_t M 4)))), .second, .val (.int (5 : Int32)), .val (.double (FP.l2d (own_t M 4))), .second] [(.ref aE)])) _
            refine XS.aloadN X128.here hx rfl (hb hby d7_141) rfl rfl ?_
            show Steps p.tables e below (T128.setTop (mkF m 142 #[.val (.ref a1), .val (.double d2), .second, .val (.double (FP.dsub (FP.dmul d2 (FP.l2d (own_t M 1))) (FP.l2d (own_t M 4)))), .second, .val (.int (5 : Int32)), .val (.double (FP.l2d (own_t M 4))), .second] [(.ref a1), (.ref aE)])) _
            refine st129 _ ?_
            show Steps p.tables e below (T129.setTop (mkF m 145 #[.val (.ref a1), .val (.double d2), .second, .val (.double (FP.dsub (FP.dmul d2 (FP.l2d (own_t M 1))) (FP.l2d (own_t M 4)))), .second, .val (.int (5 : Int32)), .val (.double (FP.l2d (own_t M 4))), .second] [(.int cn), (.ref aE)])) _
            refine XS.aloadN X129.here hx rfl (hb hby d7_145) rfl rfl ?_
            show Steps p.tables e below (T129.setTop (mkF m 146 #[.val (.ref a1), .val (.double d2), .second, .val (.double (FP.dsub (FP.dmul d2 (FP.l2d (own_t M 1))) (FP.l2d (own_t M 4)))), .second, .val (.int (5 : Int32)), .val (.double (FP.l2d (own_t M 4))), .second] [(.ref a1), (.int cn), (.ref aE)])) _
            refine st130 _ ?_
            show Steps p.tables e below (T130.setTop (mkF m 149 #[.val (.ref a1), .val (.double d2), .second, .val (.double (FP.dsub (FP.dmul d2 (FP.l2d (own_t M 1))) (FP.l2d (own_t M 4)))), .second, .val (.int (5 : Int32)), .val (.double (FP.l2d (own_t M 4))), .second] [(.ref aS), (.int cn), (.ref aE)])) _
            refine XS.iload X130.here hx rfl (hb hby d7_149) rfl ?_
            show Steps p.tables e below (T130.setTop (mkF m 151 #[.val (.ref a1), .val (.double d2), .second, .val (.double (FP.dsub (FP.dmul d2 (FP.l2d (own_t M 1))) (FP.l2d (own_t M 4)))), .second, .val (.int (5 : Int32)), .val (.double (FP.l2d (own_t M 4))), .second] [(.int (5 : Int32)), (.ref aS), (.int cn), (.ref aE)])) _
            refine X130.daload hx (j := (5 : Int32)) (v := (.double (FP.l2d (own_t M 5)))) (by rw [e130]; exact Ar131.1) (State.isArrayOf_alike hZ.alike Ar131.2.1) Ar131.2.2 hin131 hat131 (g := (mkF m 151 #[.val (.ref a1), .val (.double d2), .second, .val (.double (FP.dsub (FP.dmul d2 (FP.l2d (own_t M 1))) (FP.l2d (own_t M 4)))), .second, .val (.int (5 : Int32)), .val (.double (FP.l2d (own_t M 4))), .second] [(.int (5 : Int32)), (.ref aS), (.int cn), (.ref aE)])) rfl rfl (hb hby d7_151) _ ?_
            show Steps p.tables e below (T130.setTop (mkF m 152 #[.val (.ref a1), .val (.double d2), .second, .val (.double (FP.dsub (FP.dmul d2 (FP.l2d (own_t M 1))) (FP.l2d (own_t M 4)))), .second, .val (.int (5 : Int32)), .val (.double (FP.l2d (own_t M 4))), .second] [(.double (FP.l2d (own_t M 5))), (.int cn), (.ref aE)])) _
            refine st132 _ ?_
            show Steps p.tables e below (T132.setTop (mkF m 153 #[.val (.ref a1), .val (.double d2), .second, .val (.double (FP.dsub (FP.dmul d2 (FP.l2d (own_t M 1))) (FP.l2d (own_t M 4)))), .second, .val (.int (5 : Int32)), .val (.double (FP.l2d (own_t M 4))), .second] [])) _
            refine XS.aloadN X132.here hx rfl (hb hby d7_153) rfl rfl ?_
            show Steps p.tables e below (T132.setTop (mkF m 154 #[.val (.ref a1), .val (.double d2), .second, .val (.double (FP.dsub (FP.dmul d2 (FP.l2d (own_t M 1))) (FP.l2d (own_t M 4)))), .second, .val (.int (5 : Int32)), .val (.double (FP.l2d (own_t M 4))), .second] [(.ref a1)])) _
            refine XS.dup X132.here hx rfl (hb hby d7_154) rfl rfl ?_
            show Steps p.tables e below (T132.setTop (mkF m 155 #[.val (.ref a1), .val (.double d2), .second, .val (.double (FP.dsub (FP.dmul d2 (FP.l2d (own_t M 1))) (FP.l2d (own_t M 4)))), .second, .val (.int (5 : Int32)), .val (.double (FP.l2d (own_t M 4))), .second] [(.ref a1), (.ref a1)])) _
            refine st134 _ ?_
            show Steps p.tables e below (T134.setTop (mkF m 158 #[.val (.ref a1), .val (.double d2), .second, .val (.double (FP.dsub (FP.dmul d2 (FP.l2d (own_t M 1))) (FP.l2d (own_t M 4)))), .second, .val (.int (5 : Int32)), .val (.double (FP.l2d (own_t M 4))), .second] [(.int cn), (.ref a1)])) _
            refine XS.iconst X134.here hx rfl (hb hby d7_158) ?_
            show Steps p.tables e below (T134.setTop (mkF m 159 #[.val (.ref a1), .val (.double d2), .second, .val (.double (FP.dsub (FP.dmul d2 (FP.l2d (own_t M 1))) (FP.l2d (own_t M 4)))), .second, .val (.int (5 : Int32)), .val (.double (FP.l2d (own_t M 4))), .second] [(.int (1 : Int32)), (.int cn), (.ref a1)])) _
            refine XS.iadd X134.here hx rfl (hb hby d7_159) rfl ?_
            show Steps p.tables e below (T134.setTop (mkF m 160 #[.val (.ref a1), .val (.double d2), .second, .val (.double (FP.dsub (FP.dmul d2 (FP.l2d (own_t M 1))) (FP.l2d (own_t M 4)))), .second, .val (.int (5 : Int32)), .val (.double (FP.l2d (own_t M 4))), .second] [(.int (cn + (1 : Int32))), (.ref a1)])) _
            refine st135 _ ?_
            show Steps p.tables e below (T135.setTop (mkF m 163 #[.val (.ref a1), .val (.double d2), .second, .val (.double (FP.dsub (FP.dmul d2 (FP.l2d (own_t M 1))) (FP.l2d (own_t M 4)))), .second, .val (.int (5 : Int32)), .val (.double (FP.l2d (own_t M 4))), .second] [])) _
            refine XS.aloadN X135.here hx rfl (hb hby d7_163) rfl rfl ?_
            show Steps p.tables e below (T135.setTop (mkF m 164 #[.val (.ref a1), .val (.double d2), .second, .val (.double (FP.dsub (FP.dmul d2 (FP.l2d (own_t M 1))) (FP.l2d (own_t M 4)))), .second, .val (.int (5 : Int32)), .val (.double (FP.l2d (own_t M 4))), .second] [(.ref a1)])) _
            refine XS.iload X135.here hx rfl (hb hby d7_164) rfl ?_
            show Steps p.tables e below (T135.setTop (mkF m 166 #[.val (.ref a1), .val (.double d2), .second, .val (.double (FP.dsub (FP.dmul d2 (FP.l2d (own_t M 1))) (FP.l2d (own_t M 4)))), .second, .val (.int (5 : Int32)), .val (.double (FP.l2d (own_t M 4))), .second] [(.int (5 : Int32)), (.ref a1)])) _
            refine XS.dconst0 X135.here hx rfl (hb hby d7_166) (v := (FP.l2d 0)) (by decide +kernel) ?_
            show Steps p.tables e below (T135.setTop (mkF m 167 #[.val (.ref a1), .val (.double d2), .second, .val (.double (FP.dsub (FP.dmul d2 (FP.l2d (own_t M 1))) (FP.l2d (own_t M 4)))), .second, .val (.int (5 : Int32)), .val (.double (FP.l2d (own_t M 4))), .second] [(.double (FP.l2d 0)), (.int (5 : Int32)), (.ref a1)])) _
            refine st136.trans ?_
            show Steps p.tables e below (T136.setTop (mkF m 170 #[.val (.ref a1), .val (.double d2), .second, .val (.double (FP.dsub (FP.dmul d2 (FP.l2d (own_t M 1))) (FP.l2d (own_t M 4)))), .second, .val (.int (5 : Int32)), .val (.double (FP.l2d (own_t M 4))), .second] [])) _
            refine XS.iload X136.here hx rfl (hb hby d7_170) rfl ?_
            show Steps p.tables e below (T136.setTop (mkF m 172 #[.val (.ref a1), .val (.double d2), .second, .val (.double (FP.dsub (FP.dmul d2 (FP.l2d (own_t M 1))) (FP.l2d (own_t M 4)))), .second, .val (.int (5 : Int32)), .val (.double (FP.l2d (own_t M 4))), .second] [(.int (5 : Int32))])) _
            refine XS.aloadN X136.here hx rfl (hb hby d7_172) rfl rfl ?_
            show Steps p.tables e below (T136.setTop (mkF m 173 #[.val (.ref a1), .val (.double d2), .second, .val (.double (FP.dsub (FP.dmul d2 (FP.l2d (own_t M 1))) (FP.l2d (own_t M 4)))), .second, .val (.int (5 : Int32)), .val (.double (FP.l2d (own_t M 4))), .second] [(.ref a1), (.int (5 : Int32))])) _
            refine st137 _ ?_
            show Steps p.tables e below (T137.setTop (mkF m 176 #[.val (.ref a1), .val (.double d2), .second, .val (.double (FP.dsub (FP.dmul d2 (FP.l2d (own_t M 1))) (FP.l2d (own_t M 4)))), .second, .val (.int (5 : Int32)), .val (.double (FP.l2d (own_t M 4))), .second] [(.int (4 : Int32)), (.int (5 : Int32))])) _
            refine XS.isub X137.here hx rfl (hb hby d7_176) rfl ?_
            show Steps p.tables e below (T137.setTop (mkF m 177 #[.val (.ref a1), .val (.double d2), .second, .val (.double (FP.dsub (FP.dmul d2 (FP.l2d (own_t M 1))) (FP.l2d (own_t M 4)))), .second, .val (.int (5 : Int32)), .val (.double (FP.l2d (own_t M 4))), .second] [(.int (1 : Int32))])) _
            exact retI X137 hx Bd.returns (hb hby d7_177) hr
          · show Q_rdr Z a1 d2 aS aD aE cn M D X h0 n0 _ T137.heap _
            rw [e137]
            have hpk : own_pick M d2 = (5 : Int32) := by rw [own_pick, if_neg hc36_7, if_pos hc52_74, own_n2, if_neg hc36_79, if_neg hc52_101]
            exact (by rw [Q_rdr, hpk]; exact ⟨rfl, N136, KK136, F_leaves_v136, F_sums_v136, F_drawn_v136, F_drawnWeights_v136, F135_v136, nf136_v136, VN127_v136, VX133_v136⟩)
    · obtain ⟨T138, X138, e138, st138⟩ := getF X71 hx hZ hown (host := "") (Or.inl (hw _ (List.mem_of_getElem? (i := 24) rfl))) Via.refl e71 F_leaves (g := (mkF m 15 #[.val (.ref a1), .val (.double d2), .second, .val (.double (FP.dsub (FP.dmul d2 (FP.l2d (own_t M 1))) (FP.l2d (own_t M 2)))), .second, .val (.int (3 : Int32)), .val (.double (FP.l2d (own_t M 2))), .second] [(.ref a1), (.int (3 : Int32))])) rfl rfl (hb hby d7_15)
      obtain ⟨T139, X139, e139, st139⟩ := getF X138 hx hZ hown (host := "") (Or.inl (hw _ (List.mem_of_getElem? (i := 26) rfl))) Via.refl e138 F_sums (g := (mkF m 22 #[.val (.ref a1), .val (.double d2), .second, .val (.double (FP.dsub (FP.dmul d2 (FP.l2d (own_t M 1))) (FP.l2d (own_t M 2)))), .second, .val (.int (3 : Int32)), .val (.double (FP.l2d (own_t M 2))), .second] [(.ref a1)])) rfl rfl (hb hby d7_22)
      obtain ⟨cl140, Ar140, S140, H140⟩ := id Vs
      have hin140 : ¬ ((6 : Int32) < 0 ∨ cl140.slots.size ≤ ((6 : Int32)).toNatClampNeg) := inA S140 (by decide) (by decide)
      have hat140 : cl140.slots[((6 : Int32)).toNatClampNeg]? = some (.double (FP.l2d (own_t M 6))) := ArF.at S140 H140 hin140 rfl
      have pre141 : ∀ t, Steps p.tables e below (T139.setTop (mkF m 36 #[.val (.ref a1), .val (.double d2), .second, .val (.double (FP.dsub (FP.dmul d2 (FP.l2d (own_t M 1))) (FP.l2d (own_t M 2)))), .second, .val (.int (3 : Int32)), .val (.double (FP.l2d (own_t M 6))), .second] [(.int (cmpValue (FP.dcmp (FP.dsub (FP.dmul d2 (FP.l2d (own_t M 1))) (FP.l2d (own_t M 2))) (FP.l2d (own_t M 6))) .g))])) t → Steps p.tables e below (s₁.setTop (entryFrame m #[(.ref a1), (.double d2)] 8)) t := by
        intro t k
        refine pre73 t ?_
        show Steps p.tables e below (T71.setTop (mkF m 52 #[.val (.ref a1), .val (.double d2), .second, .val (.double (FP.dmul d2 (FP.l2d (own_t M 1)))), .second, .val (.int (1 : Int32)), .val (.double (FP.l2d (own_t M 2))), .second] [(.int (cmpValue (FP.dcmp (FP.l2d (own_t M 3)) (FP.l2d 0)) .l))])) _
        refine XS.ifYes X71.here hx rfl (pc0 := 52) (pc' := 64) rfl (hb hby d7_52) rfl ((if0 _ _).trans (feq hc52_74).2) (by decide) (by decide) ?_
        show Steps p.tables e below (T71.setTop (mkF m 64 #[.val (.ref a1), .val (.double d2), .second, .val (.double (FP.dmul d2 (FP.l2d (own_t M 1)))), .second, .val (.int (1 : Int32)), .val (.double (FP.l2d (own_t M 2))), .second] [])) _
        refine XS.dloadN X71.here hx rfl (hb hby d7_64) rfl ?_
        show Steps p.tables e below (T71.setTop (mkF m 65 #[.val (.ref a1), .val (.double d2), .second, .val (.double (FP.dmul d2 (FP.l2d (own_t M 1)))), .second, .val (.int (1 : Int32)), .val (.double (FP.l2d (own_t M 2))), .second] [(.double (FP.dmul d2 (FP.l2d (own_t M 1))))])) _
        refine XS.dload X71.here hx rfl (hb hby d7_65) rfl ?_
        show Steps p.tables e below (T71.setTop (mkF m 67 #[.val (.ref a1), .val (.double d2), .second, .val (.double (FP.dmul d2 (FP.l2d (own_t M 1)))), .second, .val (.int (1 : Int32)), .val (.double (FP.l2d (own_t M 2))), .second] [(.double (FP.l2d (own_t M 2))), (.double (FP.dmul d2 (FP.l2d (own_t M 1))))])) _
        refine XS.dsubS X71.here hx rfl (hb hby d7_67) rfl (Jvm.Free.Fl.dsub_out (Jvm.Free.Fl.dmul_out hfr (Jvm.Free.Fl.l2d_fin _)) (Jvm.Free.Fl.l2d_fin _)) (v := (FP.dsub (FP.dmul d2 (FP.l2d (own_t M 1))) (FP.l2d (own_t M 2)))) rfl ?_
        show Steps p.tables e below (T71.setTop (mkF m 68 #[.val (.ref a1), .val (.double d2), .second, .val (.double (FP.dmul d2 (FP.l2d (own_t M 1)))), .second, .val (.int (1 : Int32)), .val (.double (FP.l2d (own_t M 2))), .second] [(.double (FP.dsub (FP.dmul d2 (FP.l2d (own_t M 1))) (FP.l2d (own_t M 2))))])) _
        refine XS.dstoreN X71.here hx rfl (hb hby d7_68) rfl (l' := #[.val (.ref a1), .val (.double d2), .second, .val (.double (FP.dsub (FP.dmul d2 (FP.l2d (own_t M 1))) (FP.l2d (own_t M 2)))), .second, .val (.int (1 : Int32)), .val (.double (FP.l2d (own_t M 2))), .second]) rfl ?_
        show Steps p.tables e below (T71.setTop (mkF m 69 #[.val (.ref a1), .val (.double d2), .second, .val (.double (FP.dsub (FP.dmul d2 (FP.l2d (own_t M 1))) (FP.l2d (own_t M 2)))), .second, .val (.int (1 : Int32)), .val (.double (FP.l2d (own_t M 2))), .second] [])) _
        refine XS.iconst X71.here hx rfl (hb hby d7_69) ?_
        show Steps p.tables e below (T71.setTop (mkF m 70 #[.val (.ref a1), .val (.double d2), .second, .val (.double (FP.dsub (FP.dmul d2 (FP.l2d (own_t M 1))) (FP.l2d (own_t M 2)))), .second, .val (.int (1 : Int32)), .val (.double (FP.l2d (own_t M 2))), .second] [(.int (2 : Int32))])) _
        refine XS.iload X71.here hx rfl (hb hby d7_70) rfl ?_
        show Steps p.tables e below (T71.setTop (mkF m 72 #[.val (.ref a1), .val (.double d2), .second, .val (.double (FP.dsub (FP.dmul d2 (FP.l2d (own_t M 1))) (FP.l2d (own_t M 2)))), .second, .val (.int (1 : Int32)), .val (.double (FP.l2d (own_t M 2))), .second] [(.int (1 : Int32)), (.int (2 : Int32))])) _
        refine XS.imul X71.here hx rfl (hb hby d7_72) rfl ?_
        show Steps p.tables e below (T71.setTop (mkF m 73 #[.val (.ref a1), .val (.double d2), .second, .val (.double (FP.dsub (FP.dmul d2 (FP.l2d (own_t M 1))) (FP.l2d (own_t M 2)))), .second, .val (.int (1 : Int32)), .val (.double (FP.l2d (own_t M 2))), .second] [(.int (2 : Int32))])) _
        refine XS.iconst X71.here hx rfl (hb hby d7_73) ?_
        show Steps p.tables e below (T71.setTop (mkF m 74 #[.val (.ref a1), .val (.double d2), .second, .val (.double (FP.dsub (FP.dmul d2 (FP.l2d (own_t M 1))) (FP.l2d (own_t M 2)))), .second, .val (.int (1 : Int32)), .val (.double (FP.l2d (own_t M 2))), .second] [(.int (1 : Int32)), (.int (2 : Int32))])) _
        refine XS.iadd X71.here hx rfl (hb hby d7_74) rfl ?_
        show Steps p.tables e below (T71.setTop (mkF m 75 #[.val (.ref a1), .val (.double d2), .second, .val (.double (FP.dsub (FP.dmul d2 (FP.l2d (own_t M 1))) (FP.l2d (own_t M 2)))), .second, .val (.int (1 : Int32)), .val (.double (FP.l2d (own_t M 2))), .second] [(.int (3 : Int32))])) _
        refine XS.istore X71.here hx rfl (hb hby d7_75) rfl (l' := #[.val (.ref a1), .val (.double d2), .second, .val (.double (FP.dsub (FP.dmul d2 (FP.l2d (own_t M 1))) (FP.l2d (own_t M 2)))), .second, .val (.int (3 : Int32)), .val (.double (FP.l2d (own_t M 2))), .second]) rfl ?_
        show Steps p.tables e below (T71.setTop (mkF m 77 #[.val (.ref a1), .val (.double d2), .second, .val (.double (FP.dsub (FP.dmul d2 (FP.l2d (own_t M 1))) (FP.l2d (own_t M 2)))), .second, .val (.int (3 : Int32)), .val (.double (FP.l2d (own_t M 2))), .second] [])) _
        refine XS.goto X71.here hx rfl (pc0 := 77) (pc' := 12) rfl (hb hby d7_77) (by decide) (by decide) ?_
        show Steps p.tables e below (T71.setTop (mkF m 12 #[.val (.ref a1), .val (.double d2), .second, .val (.double (FP.dsub (FP.dmul d2 (FP.l2d (own_t M 1))) (FP.l2d (own_t M 2)))), .second, .val (.int (3 : Int32)), .val (.double (FP.l2d (own_t M 2))), .second] [])) _
        refine XS.iload X71.here hx rfl (hb hby d7_12) rfl ?_
        show Steps p.tables e below (T71.setTop (mkF m 14 #[.val (.ref a1), .val (.double d2), .second, .val (.double (FP.dsub (FP.dmul d2 (FP.l2d (own_t M 1))) (FP.l2d (own_t M 2)))), .second, .val (.int (3 : Int32)), .val (.double (FP.l2d (own_t M 2))), .second] [(.int (3 : Int32))])) _
        refine XS.aloadN X71.here hx rfl (hb hby d7_14) rfl rfl ?_
        show Steps p.tables e below (T71.setTop (mkF m 15 #[.val (.ref a1), .val (.double d2), .second, .val (.double (FP.dsub (FP.dmul d2 (FP.l2d (own_t M 1))) (FP.l2d (own_t M 2)))), .second, .val (.int (3 : Int32)), .val (.double (FP.l2d (own_t M 2))), .second] [(.ref a1), (.int (3 : Int32))])) _
        refine st138 _ ?_
        show Steps p.tables e below (T138.setTop (mkF m 18 #[.val (.ref a1), .val (.double d2), .second, .val (.double (FP.dsub (FP.dmul d2 (FP.l2d (own_t M 1))) (FP.l2d (own_t M 2)))), .second, .val (.int (3 : Int32)), .val (.double (FP.l2d (own_t M 2))), .second] [(.int (4 : Int32)), (.int (3 : Int32))])) _
        refine XS.icmpNo X138.here hx rfl (hb hby d7_18) rfl (tlt (by decide : ((3 : Int32) < (4 : Int32)))).2.1 ?_
        show Steps p.tables e below (T138.setTop (mkF m 21 #[.val (.ref a1), .val (.double d2), .second, .val (.double (FP.dsub (FP.dmul d2 (FP.l2d (own_t M 1))) (FP.l2d (own_t M 2)))), .second, .val (.int (3 : Int32)), .val (.double (FP.l2d (own_t M 2))), .second] [])) _
        refine XS.aloadN X138.here hx rfl (hb hby d7_21) rfl rfl ?_
        show Steps p.tables e below (T138.setTop (mkF m 22 #[.val (.ref a1), .val (.double d2), .second, .val (.double (FP.dsub (FP.dmul d2 (FP.l2d (own_t M 1))) (FP.l2d (own_t M 2)))), .second, .val (.int (3 : Int32)), .val (.double (FP.l2d (own_t M 2))), .second] [(.ref a1)])) _
        refine st139 _ ?_
        show Steps p.tables e below (T139.setTop (mkF m 25 #[.val (.ref a1), .val (.double d2), .second, .val (.double (FP.dsub (FP.dmul d2 (FP.l2d (own_t M 1))) (FP.l2d (own_t M 2)))), .second, .val (.int (3 : Int32)), .val (.double (FP.l2d (own_t M 2))), .second] [(.ref aS)])) _
        refine XS.iconst X139.here hx rfl (hb hby d7_25) ?_
        show Steps p.tables e below (T139.setTop (mkF m 26 #[.val (.ref a1), .val (.double d2), .second, .val (.double (FP.dsub (FP.dmul d2 (FP.l2d (own_t M 1))) (FP.l2d (own_t M 2)))), .second, .val (.int (3 : Int32)), .val (.double (FP.l2d (own_t M 2))), .second] [(.int (2 : Int32)), (.ref aS)])) _
        refine XS.iload X139.here hx rfl (hb hby d7_26) rfl ?_
        show Steps p.tables e below (T139.setTop (mkF m 28 #[.val (.ref a1), .val (.double d2), .second, .val (.double (FP.dsub (FP.dmul d2 (FP.l2d (own_t M 1))) (FP.l2d (own_t M 2)))), .second, .val (.int (3 : Int32)), .val (.double (FP.l2d (own_t M 2))), .second] [(.int (3 : Int32)), (.int (2 : Int32)), (.ref aS)])) _
        refine XS.imul X139.here hx rfl (hb hby d7_28) rfl ?_
        show Steps p.tables e below (T139.setTop (mkF m 29 #[.val (.ref a1), .val (.double d2), .second, .val (.double (FP.dsub (FP.dmul d2 (FP.l2d (own_t M 1))) (FP.l2d (own_t M 2)))), .second, .val (.int (3 : Int32)), .val (.double (FP.l2d (own_t M 2))), .second] [(.int (6 : Int32)), (.ref aS)])) _
        refine X139.daload hx (j := (6 : Int32)) (v := (.double (FP.l2d (own_t M 6)))) (by rw [e139]; exact Ar140.1) (State.isArrayOf_alike hZ.alike Ar140.2.1) Ar140.2.2 hin140 hat140 (g := (mkF m 29 #[.val (.ref a1), .val (.double d2), .second, .val (.double (FP.dsub (FP.dmul d2 (FP.l2d (own_t M 1))) (FP.l2d (own_t M 2)))), .second, .val (.int (3 : Int32)), .val (.double (FP.l2d (own_t M 2))), .second] [(.int (6 : Int32)), (.ref aS)])) rfl rfl (hb hby d7_29) _ ?_
        show Steps p.tables e below (T139.setTop (mkF m 30 #[.val (.ref a1), .val (.double d2), .second, .val (.double (FP.dsub (FP.dmul d2 (FP.l2d (own_t M 1))) (FP.l2d (own_t M 2)))), .second, .val (.int (3 : Int32)), .val (.double (FP.l2d (own_t M 2))), .second] [(.double (FP.l2d (own_t M 6)))])) _
        refine XS.dstore X139.here hx rfl (hb hby d7_30) rfl (l' := #[.val (.ref a1), .val (.double d2), .second, .val (.double (FP.dsub (FP.dmul d2 (FP.l2d (own_t M 1))) (FP.l2d (own_t M 2)))), .second, .val (.int (3 : Int32)), .val (.double (FP.l2d (own_t M 6))), .second]) rfl ?_
        show Steps p.tables e below (T139.setTop (mkF m 32 #[.val (.ref a1), .val (.double d2), .second, .val (.double (FP.dsub (FP.dmul d2 (FP.l2d (own_t M 1))) (FP.l2d (own_t M 2)))), .second, .val (.int (3 : Int32)), .val (.double (FP.l2d (own_t M 6))), .second] [])) _
        refine XS.dloadN X139.here hx rfl (hb hby d7_32) rfl ?_
        show Steps p.tables e below (T139.setTop (mkF m 33 #[.val (.ref a1), .val (.double d2), .second, .val (.double (FP.dsub (FP.dmul d2 (FP.l2d (own_t M 1))) (FP.l2d (own_t M 2)))), .second, .val (.int (3 : Int32)), .val (.double (FP.l2d (own_t M 6))), .second] [(.double (FP.dsub (FP.dmul d2 (FP.l2d (own_t M 1))) (FP.l2d (own_t M 2))))])) _
        refine XS.dload X139.here hx rfl (hb hby d7_33) rfl ?_
        show Steps p.tables e below (T139.setTop (mkF m 35 #[.val (.ref a1), .val (.double d2), .second, .val (.double (FP.dsub (FP.dmul d2 (FP.l2d (own_t M 1))) (FP.l2d (own_t M 2)))), .second, .val (.int (3 : Int32)), .val (.double (FP.l2d (own_t M 6))), .second] [(.double (FP.l2d (own_t M 6))), (.double (FP.dsub (FP.dmul d2 (FP.l2d (own_t M 1))) (FP.l2d (own_t M 2))))])) _
        refine XS.dcmpS X139.here hx rfl (hb hby d7_35) rfl rfl ?_
        exact k
      by_cases hc36_142 : (cmpValue (FP.dcmp (FP.dsub (FP.dmul d2 (FP.l2d (own_t M 1))) (FP.l2d (own_t M 2))) (FP.l2d (own_t M 6))) .g) < (0 : Int32)
      · obtain ⟨T143, X143, e143, st143⟩ := getF X139 hx hZ hown (host := "") (Or.inl (hw _ (List.mem_of_getElem? (i := 24) rfl))) Via.refl e139 F_leaves (g := (mkF m 15 #[.val (.ref a1), .val (.double d2), .second, .val (.double (FP.dsub (FP.dmul d2 (FP.l2d (own_t M 1))) (FP.l2d (own_t M 2)))), .second, .val (.int (6 : Int32)), .val (.double (FP.l2d (own_t M 6))), .second] [(.ref a1), (.int (6 : Int32))])) rfl rfl (hb hby d7_15)
        obtain ⟨T144, X144, e144, st144⟩ := getF X143 hx hZ hown (host := "") (Or.inl (hw _ (List.mem_of_getElem? (i := 45) rfl))) Via.refl e143 F_drawnCount (g := (mkF m 81 #[.val (.ref a1), .val (.double d2), .second, .val (.double (FP.dsub (FP.dmul d2 (FP.l2d (own_t M 1))) (FP.l2d (own_t M 2)))), .second, .val (.int (6 : Int32)), .val (.double (FP.l2d (own_t M 6))), .second] [(.ref a1)])) rfl rfl (hb hby d7_81)
        obtain ⟨T145, X145, e145, st145⟩ := getF X144 hx hZ hown (host := "") (Or.inl (hw _ (List.mem_of_getElem? (i := 11) rfl))) Via.refl e144 F_drawn (g := (mkF m 85 #[.val (.ref a1), .val (.double d2), .second, .val (.double (FP.dsub (FP.dmul d2 (FP.l2d (own_t M 1))) (FP.l2d (own_t M 2)))), .second, .val (.int (6 : Int32)), .val (.double (FP.l2d (own_t M 6))), .second] [(.ref a1), (.int cn)])) rfl rfl (hb hby d7_85)
        obtain ⟨cl146, Ar146, S146, H146⟩ := id Vd
        obtain ⟨T147, X147, e147, st147⟩ := getF X145 hx hZ hown (host := "") (Or.inl (hw _ (List.mem_of_getElem? (i := 11) rfl))) Via.refl e145 F_drawn (g := (mkF m 127 #[.val (.ref a1), .val (.double d2), .second, .val (.double (FP.dsub (FP.dmul d2 (FP.l2d (own_t M 1))) (FP.l2d (own_t M 2)))), .second, .val (.int (6 : Int32)), .val (.double (FP.l2d (own_t M 6))), .second] [(.ref a1)])) rfl rfl (hb hby d7_127)
        obtain ⟨T148, X148, e148, st148⟩ := getF X147 hx hZ hown (host := "") (Or.inl (hw _ (List.mem_of_getElem? (i := 45) rfl))) Via.refl e147 F_drawnCount (g := (mkF m 131 #[.val (.ref a1), .val (.double d2), .second, .val (.double (FP.dsub (FP.dmul d2 (FP.l2d (own_t M 1))) (FP.l2d (own_t M 2)))), .second, .val (.int (6 : Int32)), .val (.double (FP.l2d (own_t M 6))), .second] [(.ref a1), (.ref aD)])) rfl rfl (hb hby d7_131)
        obtain ⟨cl149, Ar149, S149, H149⟩ := id Vd
        have hin149 : ¬ (cn < 0 ∨ cl149.slots.size ≤ (cn).toNatClampNeg) := inA S149 hc.1 hc.2.1
        obtain ⟨T149, h149, X149, e149, W149, st149⟩ := stI X148 hx hZ e148 Ar149 (j := cn) hin149 (g := (mkF m 136 #[.val (.ref a1), .val (.double d2), .second, .val (.double (FP.dsub (FP.dmul d2 (FP.l2d (own_t M 1))) (FP.l2d (own_t M 2)))), .second, .val (.int (6 : Int32)), .val (.double (FP.l2d (own_t M 6))), .second] [(.int (6 : Int32)), (.int cn), (.ref aD)])) rfl rfl (hb hby d7_136)
        have Ex_v149 := Ex.wr W149
        have F_leaves_v149 := F_leaves.other W149 (Or.inl n2)
        have F_sums_v149 := F_sums.other W149 (Or.inl n2)
        have F_drawn_v149 := F_drawn.other W149 (Or.inl n2)
        have F_drawnWeights_v149 := F_drawnWeights.other W149 (Or.inl n2)
        have F_drawnCount_v149 := F_drawnCount.other W149 (Or.inl n2)
        have Vs_v149 := Vs.other W149 n4
        have Ve_v149 := Ve.other W149 (Ne.symm n6)
        have Z149 : n0 ≤ h149.size := Nat.le_trans Z0 (Nat.le_of_eq W149.size.symm)
        have K149 := K0.wr W149 (Or.inl (by simp))
        have V149_v149 := ArF.set Ar149 S149 H149 W149 hin149
        have N149 := Fr.snoc X149 N0 gd
        have VN150_v150 : ArF Z h149 aD .int 64 (fun i => .int ((own_upN D cn (6 : Int32)) i)) := V149_v149.congr (fun i hi => own_upV D cn (6 : Int32) i)
        obtain ⟨T151, X151, e151, st151⟩ := getF X149 hx hZ hown (host := "") (Or.inl (hw _ (List.mem_of_getElem? (i := 13) rfl))) Via.refl e149 F_drawnWeights_v149 (g := (mkF m 138 #[.val (.ref a1), .val (.double d2), .second, .val (.double (FP.dsub (FP.dmul d2 (FP.l2d (own_t M 1))) (FP.l2d (own_t M 2)))), .second, .val (.int (6 : Int32)), .val (.double (FP.l2d (own_t M 6))), .second] [(.ref a1)])) rfl rfl (hb hby d7_138)
        obtain ⟨T152, X152, e152, st152⟩ := getF X151 hx hZ hown (host := "") (Or.inl (hw _ (List.mem_of_getElem? (i := 45) rfl))) Via.refl e151 F_drawnCount_v149 (g := (mkF m 142 #[.val (.ref a1), .val (.double d2), .second, .val (.double (FP.dsub (FP.dmul d2 (FP.l2d (own_t M 1))) (FP.l2d (own_t M 2)))), .second, .val (.int (6 : Int32)), .val (.double (FP.l2d (own_t M 6))), .second] [(.ref a1), (.ref aE)])) rfl rfl (hb hby d7_142)
        obtain ⟨T153, X153, e153, st153⟩ := getF X152 hx hZ hown (host := "") (Or.inl (hw _ (List.mem_of_getElem? (i := 26) rfl))) Via.refl e152 F_sums_v149 (g := (mkF m 146 #[.val (.ref a1), .val (.double d2), .second, .val (.double (FP.dsub (FP.dmul d2 (FP.l2d (own_t M 1))) (FP.l2d (own_t M 2)))), .second, .val (.int (6 : Int32)), .val (.double (FP.l2d (own_t M 6))), .second] [(.ref a1), (.int cn), (.ref aE)])) rfl rfl (hb hby d7_146)
        obtain ⟨cl154, Ar154, S154, H154⟩ := id Vs_v149
        have hin154 : ¬ ((6 : Int32) < 0 ∨ cl154.slots.size ≤ ((6 : Int32)).toNatClampNeg) := inA S154 (by decide) (by decide)
        have hat154 : cl154.slots[((6 : Int32)).toNatClampNeg]? = some (.double (FP.l2d (own_t M 6))) := ArF.at S154 H154 hin154 rfl
        obtain ⟨cl155, Ar155, S155, H155⟩ := id Ve_v149
        have hin155 : ¬ (cn < 0 ∨ cl155.slots.size ≤ (cn).toNatClampNeg) := inA S155 hc.1 hc.2.1
        obtain ⟨T155, h155, X155, e155, W155, st155⟩ := stD X153 hx hZ e153 Ar155 (j := cn) hin155 (g := (mkF m 152 #[.val (.ref a1), .val (.double d2), .second, .val (.double (FP.dsub (FP.dmul d2 (FP.l2d (own_t M 1))) (FP.l2d (own_t M 2)))), .second, .val (.int (6 : Int32)), .val (.double (FP.l2d (own_t M 6))), .second] [(.double (FP.l2d (own_t M 6))), (.int cn), (.ref aE)])) rfl rfl (hb hby d7_152)
        have Ex_v155 := Ex_v149.wr W155
        have F_leaves_v155 := F_leaves_v149.other W155 (Or.inl n3)
        have F_sums_v155 := F_sums_v149.other W155 (Or.inl n3)
        have F_drawn_v155 := F_drawn_v149.other W155 (Or.inl n3)
        have F_drawnWeights_v155 := F_drawnWeights_v149.other W155 (Or.inl n3)
        have F_drawnCount_v155 := F_drawnCount_v149.other W155 (Or.inl n3)
        have Vs_v155 := Vs_v149.other W155 n5
        have VN150_v155 := VN150_v150.other W155 n6
        have Z155 : n0 ≤ h155.size := Nat.le_trans Z149 (Nat.le_of_eq W155.size.symm)
        have K155 := K149.wr W155 (Or.inl (by simp))
        have V155_v155 := ArF.set Ar155 S155 H155 W155 hin155
        have N155 := Fr.snoc X155 N149 ge
        have VX156_v156 : ArF Z h155 aE .double 64 (fun i => .double (FP.l2d ((own_upX X cn (own_t M 6)) i))) := V155_v155.congr (fun i hi => own_upW X cn (own_t M 6) i)
        obtain ⟨T157, X157, e157, st157⟩ := getF X155 hx hZ hown (host := "") (Or.inl (hw _ (List.mem_of_getElem? (i := 45) rfl))) Via.refl e155 F_drawnCount_v155 (g := (mkF m 155 #[.val (.ref a1), .val (.double d2), .second, .val (.double (FP.dsub (FP.dmul d2 (FP.l2d (own_t M 1))) (FP.l2d (own_t M 2)))), .second, .val (.int (6 : Int32)), .val (.double (FP.l2d (own_t M 6))), .second] [(.ref a1), (.ref a1)])) rfl rfl (hb hby d7_155)
        obtain ⟨T158, h158, X158, e158, W158, st158⟩ := putF X157 hx hZ hown (host := "") (Or.inl (hw _ (List.mem_of_getElem? (i := 45) rfl))) Via.refl e157 F_drawnCount_v155 Ex_v155 (Or.inl (hw _ (List.mem_of_getElem? (i := 46) rfl))) (hw _ (List.mem_of_getElem? (i := 2) rfl)) (ty := .int) (by decide) rfl rfl (g := (mkF m 160 #[.val (.ref a1), .val (.double d2), .second, .val (.double (FP.dsub (FP.dmul d2 (FP.l2d (own_t M 1))) (FP.l2d (own_t M 2)))), .second, .val (.int (6 : Int32)), .val (.double (FP.l2d (own_t M 6))), .second] [(.int (cn + (1 : Int32))), (.ref a1)])) rfl rfl (hb hby d7_160)
        have Ex_v158 := Ex_v155.wr W158
        have F_leaves_v158 := F_leaves_v155.other W158 (Or.inr (slot_ne (Or.inr (hw _ (List.mem_of_getElem? (i := 25) rfl))) (Or.inl (hw _ (List.mem_of_getElem? (i := 46) rfl))) (by decide) (t := .int) (t' := .int) (by decide) (by decide)))
        have F_sums_v158 := F_sums_v155.other W158 (Or.inr (slot_ne (Or.inr (hw _ (List.mem_of_getElem? (i := 27) rfl))) (Or.inl (hw _ (List.mem_of_getElem? (i := 46) rfl))) (by decide) (t := (.array .double)) (t' := .int) (by decide) (by decide)))
        have F_drawn_v158 := F_drawn_v155.other W158 (Or.inr (slot_ne (Or.inl (hw _ (List.mem_of_getElem? (i := 12) rfl))) (Or.inl (hw _ (List.mem_of_getElem? (i := 46) rfl))) (by decide) (t := (.array .int)) (t' := .int) (by decide) (by decide)))
        have F_drawnWeights_v158 := F_drawnWeights_v155.other W158 (Or.inr (slot_ne (Or.inl (hw _ (List.mem_of_getElem? (i := 14) rfl))) (Or.inl (hw _ (List.mem_of_getElem? (i := 46) rfl))) (by decide) (t := (.array .double)) (t' := .int) (by decide) (by decide)))
        have Vs_v158 := Vs_v155.other W158 (Ne.symm n1)
        have VN150_v158 := VN150_v155.other W158 (Ne.symm n2)
        have VX156_v158 := VX156_v156.other W158 (Ne.symm n3)
        have Z158 : n0 ≤ h158.size := Nat.le_trans Z155 (Nat.le_of_eq W158.size.symm)
        have K158 := K155.wr W158 (Or.inl (by simp))
        have F158_v158 : Fld Z h158 a1 "com/example/velar/velar/WeightedDraws" "drawnCount" "I" (.int (cn + (1 : Int32))) := F_drawnCount_v155.same W158
        have N158 := Fr.snoc X158 N155 ga
        obtain ⟨cq159, qq159, qq159'⟩ := Ex_v158.cell
        obtain ⟨_, _, ⟨T159, L159, k159, n159⟩, -, X159, ⟨Lc159, hQ159, l159, y159, z159⟩, st159⟩ := X158.privateBack hx (y := (⟨"com/example/velar/velar/WeightedDraws", "set", "(ID)V"⟩ : MethodName)) hown (mvT hZ (hw _ (List.mem_of_getElem? (i := 47) rfl))) (mvT hZ (hw _ (List.mem_of_getElem? (i := 48) rfl))) (own_selp (mvT hZ (hw _ (List.mem_of_getElem? (i := 2) rfl))) (Cond.privateMethod_at (mvP hZ (hw _ (List.mem_of_getElem? (i := 49) rfl)) (args := #[]))) (mvT hZ (hw _ (List.mem_of_getElem? (i := 48) rfl))) (by decide)) (Cond.privateMethod_at (mvP hZ (hw _ (List.mem_of_getElem? (i := 49) rfl)) (args := #[]))) (mvT hZ (hw _ (List.mem_of_getElem? (i := 50) rfl))) (by decide) (backOf (W := 0) (rset l Z a0 hw [] a1 (6 : Int32) (0 : Int64) aS M h158 n0 Z158 F_sums_v158 Vs_v158 gs n1 hM own_L0 (by decide)) hZ (hw _ (List.mem_of_getElem? (i := 50) rfl)) (hw _ (List.mem_of_getElem? (i := 3) rfl)) (by decide) (by decide)) (g := (mkF m 167 #[.val (.ref a1), .val (.double d2), .second, .val (.double (FP.dsub (FP.dmul d2 (FP.l2d (own_t M 1))) (FP.l2d (own_t M 2)))), .second, .val (.int (6 : Int32)), .val (.double (FP.l2d (own_t M 6))), .second] [(.double (FP.l2d 0)), (.int (6 : Int32)), (.ref a1)])) rfl (by rw [hml]; rfl) (Steps.refl _) (a := a1) (by rw [e158]; exact qq159) qq159' (argsL := [(.int (6 : Int32)), (.double (FP.l2d 0))]) (rest := []) (lenOf pd_1 rfl) rfl (by show 2 * 0 + _ ≤ _; exact Nat.le_of_eq rfl) (hb hby d7_167) (fun _ _ => ⟨rfl, e158, (by decide : 0 + 0 ≤ _), (by decide : 0 + 0 ≤ _)⟩)
        dsimp only [Pt.U, Pt.locs, Pt.cells, Pt.slots] at X159 l159 y159 z159 st159 hQ159
        subst l159 y159 z159
        obtain ⟨rfl, N159q, Kc159, nf159_v159⟩ := hQ159
        have N159 := Fr.app N158 N159q
        have Ex_v159 := Ex_v158.keep Kc159
        have F_leaves_v159 := F_leaves_v158.keep Kc159 (ninS n1 nin0)
        have F_sums_v159 := F_sums_v158.keep Kc159 (ninS n1 nin0)
        have F_drawn_v159 := F_drawn_v158.keep Kc159 (ninS n1 nin0)
        have F_drawnWeights_v159 := F_drawnWeights_v158.keep Kc159 (ninS n1 nin0)
        have VN150_v159 := VN150_v158.keep Kc159 (ninS (Ne.symm n4) nin0)
        have VX156_v159 := VX156_v158.keep Kc159 (ninS (Ne.symm n5) nin0)
        have F158_v159 := F158_v158.keep Kc159 (ninS n1 nin0)
        have Z159 : n0 ≤ T159.heap.size := Nat.le_trans Z158 Kc159.1
        have KK159 := K158.trans Kc159 (allS (Or.inl (by simp)) all0)
        obtain ⟨T160, X160, e160, st160⟩ := getF X159 hx hZ hown (host := "") (Or.inl (hw _ (List.mem_of_getElem? (i := 24) rfl))) Via.refl rfl F_leaves_v159 (g := (mkF m 173 #[.val (.ref a1), .val (.double d2), .second, .val (.double (FP.dsub (FP.dmul d2 (FP.l2d (own_t M 1))) (FP.l2d (own_t M 2)))), .second, .val (.int (6 : Int32)), .val (.double (FP.l2d (own_t M 6))), .second] [(.ref a1), (.int (6 : Int32))])) rfl rfl (hb hby d7_173)
        obtain ⟨fs, hr, hrun, hended, hW, hsame⟩ := X160.leave (v := some (.int (2 : Int32))) (fun h => by rw [Bd.returns] at h; cases h)
        refine ⟨_, _, pre141 _ ?_, hrun, hended, _, _, rfl, ?_, ⟨_, rfl⟩, hW, hsame.mono (by decide) (by decide)⟩
        · show Steps p.tables e below (T139.setTop (mkF m 36 #[.val (.ref a1), .val (.double d2), .second, .val (.double (FP.dsub (FP.dmul d2 (FP.l2d (own_t M 1))) (FP.l2d (own_t M 2)))), .second, .val (.int (3 : Int32)), .val (.double (FP.l2d (own_t M 6))), .second] [(.int (cmpValue (FP.dcmp (FP.dsub (FP.dmul d2 (FP.l2d (own_t M 1))) (FP.l2d (own_t M 2))) (FP.l2d (own_t M 6))) .g))])) _
          refine XS.ifYes X139.here hx rfl (pc0 := 36) (pc' := 55) rfl (hb hby d7_36) rfl ((if0 _ _).trans (tlt hc36_142).1) (by decide) (by decide) ?_
          show Steps p.tables e below (T139.setTop (mkF m 55 #[.val (.ref a1), .val (.double d2), .second, .val (.double (FP.dsub (FP.dmul d2 (FP.l2d (own_t M 1))) (FP.l2d (own_t M 2)))), .second, .val (.int (3 : Int32)), .val (.double (FP.l2d (own_t M 6))), .second] [])) _
          refine XS.iconst X139.here hx rfl (hb hby d7_55) ?_
          show Steps p.tables e below (T139.setTop (mkF m 56 #[.val (.ref a1), .val (.double d2), .second, .val (.double (FP.dsub (FP.dmul d2 (FP.l2d (own_t M 1))) (FP.l2d (own_t M 2)))), .second, .val (.int (3 : Int32)), .val (.double (FP.l2d (own_t M 6))), .second] [(.int (2 : Int32))])) _
          refine XS.iload X139.here hx rfl (hb hby d7_56) rfl ?_
          show Steps p.tables e below (T139.setTop (mkF m 58 #[.val (.ref a1), .val (.double d2), .second, .val (.double (FP.dsub (FP.dmul d2 (FP.l2d (own_t M 1))) (FP.l2d (own_t M 2)))), .second, .val (.int (3 : Int32)), .val (.double (FP.l2d (own_t M 6))), .second] [(.int (3 : Int32)), (.int (2 : Int32))])) _
          refine XS.imul X139.here hx rfl (hb hby d7_58) rfl ?_
          show Steps p.tables e below (T139.setTop (mkF m 59 #[.val (.ref a1), .val (.double d2), .second, .val (.double (FP.dsub (FP.dmul d2 (FP.l2d (own_t M 1))) (FP.l2d (own_t M 2)))), .second, .val (.int (3 : Int32)), .val (.double (FP.l2d (own_t M 6))), .second] [(.int (6 : Int32))])) _
          refine XS.istore X139.here hx rfl (hb hby d7_59) rfl (l' := #[.val (.ref a1), .val (.double d2), .second, .val (.double (FP.dsub (FP.dmul d2 (FP.l2d (own_t M 1))) (FP.l2d (own_t M 2)))), .second, .val (.int (6 : Int32)), .val (.double (FP.l2d (own_t M 6))), .second]) rfl ?_
          show Steps p.tables e below (T139.setTop (mkF m 61 #[.val (.ref a1), .val (.double d2), .second, .val (.double (FP.dsub (FP.dmul d2 (FP.l2d (own_t M 1))) (FP.l2d (own_t M 2)))), .second, .val (.int (6 : Int32)), .val (.double (FP.l2d (own_t M 6))), .second] [])) _
          refine XS.goto X139.here hx rfl (pc0 := 61) (pc' := 77) rfl (hb hby d7_61) (by decide) (by decide) ?_
          show Steps p.tables e below (T139.setTop (mkF m 77 #[.val (.ref a1), .val (.double d2), .second, .val (.double (FP.dsub (FP.dmul d2 (FP.l2d (own_t M 1))) (FP.l2d (own_t M 2)))), .second, .val (.int (6 : Int32)), .val (.double (FP.l2d (own_t M 6))), .second] [])) _
          refine XS.goto X139.here hx rfl (pc0 := 77) (pc' := 12) rfl (hb hby d7_77) (by decide) (by decide) ?_
          show Steps p.tables e below (T139.setTop (mkF m 12 #[.val (.ref a1), .val (.double d2), .second, .val (.double (FP.dsub (FP.dmul d2 (FP.l2d (own_t M 1))) (FP.l2d (own_t M 2)))), .second, .val (.int (6 : Int32)), .val (.double (FP.l2d (own_t M 6))), .second] [])) _
          refine XS.iload X139.here hx rfl (hb hby d7_12) rfl ?_
          show Steps p.tables e below (T139.setTop (mkF m 14 #[.val (.ref a1), .val (.double d2), .second, .val (.double (FP.dsub (FP.dmul d2 (FP.l2d (own_t M 1))) (FP.l2d (own_t M 2)))), .second, .val (.int (6 : Int32)), .val (.double (FP.l2d (own_t M 6))), .second] [(.int (6 : Int32))])) _
          refine XS.aloadN X139.here hx rfl (hb hby d7_14) rfl rfl ?_
          show Steps p.tables e below (T139.setTop (mkF m 15 #[.val (.ref a1), .val (.double d2), .second, .val (.double (FP.dsub (FP.dmul d2 (FP.l2d (own_t M 1))) (FP.l2d (own_t M 2)))), .second, .val (.int (6 : Int32)), .val (.double (FP.l2d (own_t M 6))), .second] [(.ref a1), (.int (6 : Int32))])) _
          refine st143 _ ?_
          show Steps p.tables e below (T143.setTop (mkF m 18 #[.val (.ref a1), .val (.double d2), .second, .val (.double (FP.dsub (FP.dmul d2 (FP.l2d (own_t M 1))) (FP.l2d (own_t M 2)))), .second, .val (.int (6 : Int32)), .val (.double (FP.l2d (own_t M 6))), .second] [(.int (4 : Int32)), (.int (6 : Int32))])) _
          refine XS.icmpYes X143.here hx rfl (pc0 := 18) (pc' := 80) rfl (hb hby d7_18) rfl (flt (by decide : ¬ ((6 : Int32) < (4 : Int32)))).2.1 (by decide) (by decide) ?_
          show Steps p.tables e below (T143.setTop (mkF m 80 #[.val (.ref a1), .val (.double d2), .second, .val (.double (FP.dsub (FP.dmul d2 (FP.l2d (own_t M 1))) (FP.l2d (own_t M 2)))), .second, .val (.int (6 : Int32)), .val (.double (FP.l2d (own_t M 6))), .second] [])) _
          refine XS.aloadN X143.here hx rfl (hb hby d7_80) rfl rfl ?_
          show Steps p.tables e below (T143.setTop (mkF m 81 #[.val (.ref a1), .val (.double d2), .second, .val (.double (FP.dsub (FP.dmul d2 (FP.l2d (own_t M 1))) (FP.l2d (own_t M 2)))), .second, .val (.int (6 : Int32)), .val (.double (FP.l2d (own_t M 6))), .second] [(.ref a1)])) _
          refine st144 _ ?_
          show Steps p.tables e below (T144.setTop (mkF m 84 #[.val (.ref a1), .val (.double d2), .second, .val (.double (FP.dsub (FP.dmul d2 (FP.l2d (own_t M 1))) (FP.l2d (own_t M 2)))), .second, .val (.int (6 : Int32)), .val (.double (FP.l2d (own_t M 6))), .second] [(.int cn)])) _
          refine XS.aloadN X144.here hx rfl (hb hby d7_84) rfl rfl ?_
          show Steps p.tables e below (T144.setTop (mkF m 85 #[.val (.ref a1), .val (.double d2), .second, .val (.double (FP.dsub (FP.dmul d2 (FP.l2d (own_t M 1))) (FP.l2d (own_t M 2)))), .second, .val (.int (6 : Int32)), .val (.double (FP.l2d (own_t M 6))), .second] [(.ref a1), (.int cn)])) _
          refine st145 _ ?_
          show Steps p.tables e below (T145.setTop (mkF m 88 #[.val (.ref a1), .val (.double d2), .second, .val (.double (FP.dsub (FP.dmul d2 (FP.l2d (own_t M 1))) (FP.l2d (own_t M 2)))), .second, .val (.int (6 : Int32)), .val (.double (FP.l2d (own_t M 6))), .second] [(.ref aD), (.int cn)])) _
          refine X145.arraylength hx (by rw [e145]; exact Ar146.1) (State.isArrayOf_alike hZ.alike Ar146.2.1) (g := (mkF m 88 #[.val (.ref a1), .val (.double d2), .second, .val (.double (FP.dsub (FP.dmul d2 (FP.l2d (own_t M 1))) (FP.l2d (own_t M 2)))), .second, .val (.int (6 : Int32)), .val (.double (FP.l2d (own_t M 6))), .second] [(.ref aD), (.int cn)])) rfl rfl (hb hby d7_88) _ ?_
          rw [show cl146.slots.size.toInt32 = (64 : Int32) from by rw [S146]; rfl]
          show Steps p.tables e below (T145.setTop (mkF m 89 #[.val (.ref a1), .val (.double d2), .second, .val (.double (FP.dsub (FP.dmul d2 (FP.l2d (own_t M 1))) (FP.l2d (own_t M 2)))), .second, .val (.int (6 : Int32)), .val (.double (FP.l2d (own_t M 6))), .second] [(.int (64 : Int32)), (.int cn)])) _
          refine XS.icmpYes X145.here hx rfl (pc0 := 89) (pc' := 126) rfl (hb hby d7_89) rfl (feq (hc.2.2 : ¬ (cn = (64 : Int32)))).2 (by decide) (by decide) ?_
          show Steps p.tables e below (T145.setTop (mkF m 126 #[.val (.ref a1), .val (.double d2), .second, .val (.double (FP.dsub (FP.dmul d2 (FP.l2d (own_t M 1))) (FP.l2d (own_t M 2)))), .second, .val (.int (6 : Int32)), .val (.double (FP.l2d (own_t M 6))), .second] [])) _
          refine XS.aloadN X145.here hx rfl (hb hby d7_126) rfl rfl ?_
          show Steps p.tables e below (T145.setTop (mkF m 127 #[.val (.ref a1), .val (.double d2), .second, .val (.double (FP.dsub (FP.dmul d2 (FP.l2d (own_t M 1))) (FP.l2d (own_t M 2)))), .second, .val (.int (6 : Int32)), .val (.double (FP.l2d (own_t M 6))), .second] [(.ref a1)])) _
          refine st147 _ ?_
          show Steps p.tables e below (T147.setTop (mkF m 130 #[.val (.ref a1), .val (.double d2), .second, .val (.double (FP.dsub (FP.dmul d2 (FP.l2d (own_t M 1))) (FP.l2d (own_t M 2)))), .second, .val (.int (6 : Int32)), .val (.double (FP.l2d (own_t M 6))), .second] [(.ref aD)])) _
          refine XS.aloadN X147.here hx rfl (hb hby d7_130) rfl rfl ?_
          show Steps p.tables e below (T147.setTop (mkF m 131 #[.val (.ref a1), .val (.double d2), .second, .val (.double (FP.dsub (FP.dmul d2 (FP.l2d (own_t M 1))) (FP.l2d (own_t M 2)))), .second, .val (.int (6 : Int32)), .val (.double (FP.l2d (own_t M 6))), .second] [(.ref a1), (.ref aD)])) _
          refine st148 _ ?_
          show Steps p.tables e below (T148.setTop (mkF m 134 #[.val (.ref a1), .val (.double d2), .second, .val (.double (FP.dsub (FP.dmul d2 (FP.l2d (own_t M 1))) (FP.l2d (own_t M 2)))), .second, .val (.int (6 : Int32)), .val (.double (FP.l2d (own_t M 6))), .second] [(.int cn), (.ref aD)])) _
          refine XS.iload X148.here hx rfl (hb hby d7_134) rfl ?_
          show Steps p.tables e below (T148.setTop (mkF m 136 #[.val (.ref a1), .val (.double d2), .second, .val (.double (FP.dsub (FP.dmul d2 (FP.l2d (own_t M 1))) (FP.l2d (own_t M 2)))), .second, .val (.int (6 : Int32)), .val (.double (FP.l2d (own_t M 6))), .second] [(.int (6 : Int32)), (.int cn), (.ref aD)])) _
          refine st149 _ ?_
          show Steps p.tables e below (T149.setTop (mkF m 137 #[.val (.ref a1), .val (.double d2), .second, .val (.double (FP.dsub (FP.dmul d2 (FP.l2d (own_t M 1))) (FP.l2d (own_t M 2)))), .second, .val (.int (6 : Int32)), .val (.double (FP.l2d (own_t M 6))), .second] [])) _
          refine XS.aloadN X149.here hx rfl (hb hby d7_137) rfl rfl ?_
          show Steps p.tables e below (T149.setTop (mkF m 138 #[.val (.ref a1), .val (.double d2), .second, .val (.double (FP.dsub (FP.dmul d2 (FP.l2d (own_t M 1))) (FP.l2d (own_t M 2)))), .second, .val (.int (6 : Int32)), .val (.double (FP.l2d (own_t M 6))), .second] [(.ref a1)])) _
          refine st151 _ ?_
          show Steps p.tables e below (T151.setTop (mkF m 141 #[.val (.ref a1), .val (.double d2), .second, .val (.double (FP.dsub (FP.dmul d2 (FP.l2d (own_t M 1))) (FP.l2d (own_t M 2)))), .second, .val (.int (6 : Int32)), .val (.double (FP.l2d (own_t M 6))), .second] [(.ref aE)])) _
          refine XS.aloadN X151.here hx rfl (hb hby d7_141) rfl rfl ?_
          show Steps p.tables e below (T151.setTop (mkF m 142 #[.val (.ref a1), .val (.double d2), .second, .val (.double (FP.dsub (FP.dmul d2 (FP.l2d (own_t M 1))) (FP.l2d (own_t M 2)))), .second, .val (.int (6 : Int32)), .val (.double (FP.l2d (own_t M 6))), .second] [(.ref a1), (.ref aE)])) _
          refine st152 _ ?_
          show Steps p.tables e below (T152.setTop (mkF m 145 #[.val (.ref a1), .val (.double d2), .second, .val (.double (FP.dsub (FP.dmul d2 (FP.l2d (own_t M 1))) (FP.l2d (own_t M 2)))), .second, .val (.int (6 : Int32)), .val (.double (FP.l2d (own_t M 6))), .second] [(.int cn), (.ref aE)])) _
          refine XS.aloadN X152.here hx rfl (hb hby d7_145) rfl rfl ?_
          show Steps p.tables e below (T152.setTop (mkF m 146 #[.val (.ref a1), .val (.double d2), .second, .val (.double (FP.dsub (FP.dmul d2 (FP.l2d (own_t M 1))) (FP.l2d (own_t M 2)))), .second, .val (.int (6 : Int32)), .val (.double (FP.l2d (own_t M 6))), .second] [(.ref a1), (.int cn), (.ref aE)])) _
          refine st153 _ ?_
          show Steps p.tables e below (T153.setTop (mkF m 149 #[.val (.ref a1), .val (.double d2), .second, .val (.double (FP.dsub (FP.dmul d2 (FP.l2d (own_t M 1))) (FP.l2d (own_t M 2)))), .second, .val (.int (6 : Int32)), .val (.double (FP.l2d (own_t M 6))), .second] [(.ref aS), (.int cn), (.ref aE)])) _
          refine XS.iload X153.here hx rfl (hb hby d7_149) rfl ?_
          show Steps p.tables e below (T153.setTop (mkF m 151 #[.val (.ref a1), .val (.double d2), .second, .val (.double (FP.dsub (FP.dmul d2 (FP.l2d (own_t M 1))) (FP.l2d (own_t M 2)))), .second, .val (.int (6 : Int32)), .val (.double (FP.l2d (own_t M 6))), .second] [(.int (6 : Int32)), (.ref aS), (.int cn), (.ref aE)])) _
          refine X153.daload hx (j := (6 : Int32)) (v := (.double (FP.l2d (own_t M 6)))) (by rw [e153]; exact Ar154.1) (State.isArrayOf_alike hZ.alike Ar154.2.1) Ar154.2.2 hin154 hat154 (g := (mkF m 151 #[.val (.ref a1), .val (.double d2), .second, .val (.double (FP.dsub (FP.dmul d2 (FP.l2d (own_t M 1))) (FP.l2d (own_t M 2)))), .second, .val (.int (6 : Int32)), .val (.double (FP.l2d (own_t M 6))), .second] [(.int (6 : Int32)), (.ref aS), (.int cn), (.ref aE)])) rfl rfl (hb hby d7_151) _ ?_
          show Steps p.tables e below (T153.setTop (mkF m 152 #[.val (.ref a1), .val (.double d2), .second, .val (.double (FP.dsub (FP.dmul d2 (FP.l2d (own_t M 1))) (FP.l2d (own_t M 2)))), .second, .val (.int (6 : Int32)), .val (.double (FP.l2d (own_t M 6))), .second] [(.double (FP.l2d (own_t M 6))), (.int cn), (.ref aE)])) _
          refine st155 _ ?_
          show Steps p.tables e below (T155.setTop (mkF m 153 #[.val (.ref a1), .val (.double d2), .second, .val (.double (FP.dsub (FP.dmul d2 (FP.l2d (own_t M 1))) (FP.l2d (own_t M 2)))), .second, .val (.int (6 : Int32)), .val (.double (FP.l2d (own_t M 6))), .second] [])) _
          refine XS.aloadN X155.here hx rfl (hb hby d7_153) rfl rfl ?_
          show Steps p.tables e below (T155.setTop (mkF m 154 #[.val (.ref a1), .val (.double d2), .second, .val (.double (FP.dsub (FP.dmul d2 (FP.l2d (own_t M 1))) (FP.l2d (own_t M 2)))), .second, .val (.int (6 : Int32)), .val (.double (FP.l2d (own_t M 6))), .second] [(.ref a1)])) _
          refine XS.dup X155.here hx rfl (hb hby d7_154) rfl rfl ?_
          show Steps p.tables e below (T155.setTop (mkF m 155 #[.val (.ref a1), .val (.double d2), .second, .val (.double (FP.dsub (FP.dmul d2 (FP.l2d (own_t M 1))) (FP.l2d (own_t M 2)))), .second, .val (.int (6 : Int32)), .val (.double (FP.l2d (own_t M 6))), .second] [(.ref a1), (.ref a1)])) _
          refine st157 _ ?_
          show Steps p.tables e below (T157.setTop (mkF m 158 #[.val (.ref a1), .val (.double d2), .second, .val (.double (FP.dsub (FP.dmul d2 (FP.l2d (own_t M 1))) (FP.l2d (own_t M 2)))), .second, .val (.int (6 : Int32)), .val (.double (FP.l2d (own_t M 6))), .second] [(.int cn), (.ref a1)])) _
          refine XS.iconst X157.here hx rfl (hb hby d7_158) ?_
          show Steps p.tables e below (T157.setTop (mkF m 159 #[.val (.ref a1), .val (.double d2), .second, .val (.double (FP.dsub (FP.dmul d2 (FP.l2d (own_t M 1))) (FP.l2d (own_t M 2)))), .second, .val (.int (6 : Int32)), .val (.double (FP.l2d (own_t M 6))), .second] [(.int (1 : Int32)), (.int cn), (.ref a1)])) _
          refine XS.iadd X157.here hx rfl (hb hby d7_159) rfl ?_
          show Steps p.tables e below (T157.setTop (mkF m 160 #[.val (.ref a1), .val (.double d2), .second, .val (.double (FP.dsub (FP.dmul d2 (FP.l2d (own_t M 1))) (FP.l2d (own_t M 2)))), .second, .val (.int (6 : Int32)), .val (.double (FP.l2d (own_t M 6))), .second] [(.int (cn + (1 : Int32))), (.ref a1)])) _
          refine st158 _ ?_
          show Steps p.tables e below (T158.setTop (mkF m 163 #[.val (.ref a1), .val (.double d2), .second, .val (.double (FP.dsub (FP.dmul d2 (FP.l2d (own_t M 1))) (FP.l2d (own_t M 2)))), .second, .val (.int (6 : Int32)), .val (.double (FP.l2d (own_t M 6))), .second] [])) _
          refine XS.aloadN X158.here hx rfl (hb hby d7_163) rfl rfl ?_
          show Steps p.tables e below (T158.setTop (mkF m 164 #[.val (.ref a1), .val (.double d2), .second, .val (.double (FP.dsub (FP.dmul d2 (FP.l2d (own_t M 1))) (FP.l2d (own_t M 2)))), .second, .val (.int (6 : Int32)), .val (.double (FP.l2d (own_t M 6))), .second] [(.ref a1)])) _
          refine XS.iload X158.here hx rfl (hb hby d7_164) rfl ?_
          show Steps p.tables e below (T158.setTop (mkF m 166 #[.val (.ref a1), .val (.double d2), .second, .val (.double (FP.dsub (FP.dmul d2 (FP.l2d (own_t M 1))) (FP.l2d (own_t M 2)))), .second, .val (.int (6 : Int32)), .val (.double (FP.l2d (own_t M 6))), .second] [(.int (6 : Int32)), (.ref a1)])) _
          refine XS.dconst0 X158.here hx rfl (hb hby d7_166) (v := (FP.l2d 0)) (by decide +kernel) ?_
          show Steps p.tables e below (T158.setTop (mkF m 167 #[.val (.ref a1), .val (.double d2), .second, .val (.double (FP.dsub (FP.dmul d2 (FP.l2d (own_t M 1))) (FP.l2d (own_t M 2)))), .second, .val (.int (6 : Int32)), .val (.double (FP.l2d (own_t M 6))), .second] [(.double (FP.l2d 0)), (.int (6 : Int32)), (.ref a1)])) _
          refine st159.trans ?_
          show Steps p.tables e below (T159.setTop (mkF m 170 #[.val (.ref a1), .val (.double d2), .second, .val (.double (FP.dsub (FP.dmul d2 (FP.l2d (own_t M 1))) (FP.l2d (own_t M 2)))), .second, .val (.int (6 : Int32)), .val (.double (FP.l2d (own_t M 6))), .second] [])) _
          refine XS.iload X159.here hx rfl (hb hby d7_170) rfl ?_
          show Steps p.tables e below (T159.setTop (mkF m 172 #[.val (.ref a1), .val (.double d2), .second, .val (.double (FP.dsub (FP.dmul d2 (FP.l2d (own_t M 1))) (FP.l2d (own_t M 2)))), .second, .val (.int (6 : Int32)), .val (.double (FP.l2d (own_t M 6))), .second] [(.int (6 : Int32))])) _
          refine XS.aloadN X159.here hx rfl (hb hby d7_172) rfl rfl ?_
          show Steps p.tables e below (T159.setTop (mkF m 173 #[.val (.ref a1), .val (.double d2), .second, .val (.double (FP.dsub (FP.dmul d2 (FP.l2d (own_t M 1))) (FP.l2d (own_t M 2)))), .second, .val (.int (6 : Int32)), .val (.double (FP.l2d (own_t M 6))), .second] [(.ref a1), (.int (6 : Int32))])) _
          refine st160 _ ?_
          show Steps p.tables e below (T160.setTop (mkF m 176 #[.val (.ref a1), .val (.double d2), .second, .val (.double (FP.dsub (FP.dmul d2 (FP.l2d (own_t M 1))) (FP.l2d (own_t M 2)))), .second, .val (.int (6 : Int32)), .val (.double (FP.l2d (own_t M 6))), .second] [(.int (4 : Int32)), (.int (6 : Int32))])) _
          refine XS.isub X160.here hx rfl (hb hby d7_176) rfl ?_
          show Steps p.tables e below (T160.setTop (mkF m 177 #[.val (.ref a1), .val (.double d2), .second, .val (.double (FP.dsub (FP.dmul d2 (FP.l2d (own_t M 1))) (FP.l2d (own_t M 2)))), .second, .val (.int (6 : Int32)), .val (.double (FP.l2d (own_t M 6))), .second] [(.int (2 : Int32))])) _
          exact retI X160 hx Bd.returns (hb hby d7_177) hr
        · show Q_rdr Z a1 d2 aS aD aE cn M D X h0 n0 _ T160.heap _
          rw [e160]
          have hpk : own_pick M d2 = (6 : Int32) := by rw [own_pick, if_neg hc36_7, if_neg hc52_74]
          exact (by rw [Q_rdr, hpk]; exact ⟨rfl, N159, KK159, F_leaves_v159, F_sums_v159, F_drawn_v159, F_drawnWeights_v159, F158_v159, nf159_v159, VN150_v159, VX156_v159⟩)
      · obtain ⟨T161, X161, e161, st161⟩ := getF X139 hx hZ hown (host := "") (Or.inl (hw _ (List.mem_of_getElem? (i := 26) rfl))) Via.refl e139 F_sums (g := (mkF m 40 #[.val (.ref a1), .val (.double d2), .second, .val (.double (FP.dsub (FP.dmul d2 (FP.l2d (own_t M 1))) (FP.l2d (own_t M 2)))), .second, .val (.int (3 : Int32)), .val (.double (FP.l2d (own_t M 6))), .second] [(.ref a1)])) rfl rfl (hb hby d7_40)
        obtain ⟨cl162, Ar162, S162, H162⟩ := id Vs
        have hin162 : ¬ ((7 : Int32) < 0 ∨ cl162.slots.size ≤ ((7 : Int32)).toNatClampNeg) := inA S162 (by decide) (by decide)
        have hat162 : cl162.slots[((7 : Int32)).toNatClampNeg]? = some (.double (FP.l2d (own_t M 7))) := ArF.at S162 H162 hin162 rfl
        obtain ⟨T163, X163, e163, st163⟩ := getF X161 hx hZ hown (host := "") (Or.inl (hw _ (List.mem_of_getElem? (i := 24) rfl))) Via.refl e161 F_leaves (g := (mkF m 15 #[.val (.ref a1), .val (.double d2), .second, .val (.double (FP.dsub (FP.dmul d2 (FP.l2d (own_t M 1))) (FP.l2d (own_t M 2)))), .second, .val (.int (6 : Int32)), .val (.double (FP.l2d (own_t M 6))), .second] [(.ref a1), (.int (6 : Int32))])) rfl rfl (hb hby d7_15)
        obtain ⟨T164, X164, e164, st164⟩ := getF X163 hx hZ hown (host := "") (Or.inl (hw _ (List.mem_of_getElem? (i := 45) rfl))) Via.refl e163 F_drawnCount (g := (mkF m 81 #[.val (.ref a1), .val (.double d2), .second, .val (.double (FP.dsub (FP.dmul d2 (FP.l2d (own_t M 1))) (FP.l2d (own_t M 2)))), .second, .val (.int (6 : Int32)), .val (.double (FP.l2d (own_t M 6))), .second] [(.ref a1)])) rfl rfl (hb hby d7_81)
        obtain ⟨T165, X165, e165, st165⟩ := getF X164 hx hZ hown (host := "") (Or.inl (hw _ (List.mem_of_getElem? (i := 11) rfl))) Via.refl e164 F_drawn (g := (mkF m 85 #[.val (.ref a1), .val (.double d2), .second, .val (.double (FP.dsub (FP.dmul d2 (FP.l2d (own_t M 1))) (FP.l2d (own_t M 2)))), .second, .val (.int (6 : Int32)), .val (.double (FP.l2d (own_t M 6))), .second] [(.ref a1), (.int cn)])) rfl rfl (hb hby d7_85)
        obtain ⟨cl166, Ar166, S166, H166⟩ := id Vd
        obtain ⟨T167, X167, e167, st167⟩ := getF X165 hx hZ hown (host := "") (Or.inl (hw _ (List.mem_of_getElem? (i := 11) rfl))) Via.refl e165 F_drawn (g := (mkF m 127 #[.val (.ref a1), .val (.double d2), .second, .val (.double (FP.dsub (FP.dmul d2 (FP.l2d (own_t M 1))) (FP.l2d (own_t M 2)))), .second, .val (.int (6 : Int32)), .val (.double (FP.l2d (own_t M 6))), .second] [(.ref a1)])) rfl rfl (hb hby d7_127)
        obtain ⟨T168, X168, e168, st168⟩ := getF X167 hx hZ hown (host := "") (Or.inl (hw _ (List.mem_of_getElem? (i := 45) rfl))) Via.refl e167 F_drawnCount (g := (mkF m 131 #[.val (.ref a1), .val (.double d2), .second, .val (.double (FP.dsub (FP.dmul d2 (FP.l2d (own_t M 1))) (FP.l2d (own_t M 2)))), .second, .val (.int (6 : Int32)), .val (.double (FP.l2d (own_t M 6))), .second] [(.ref a1), (.ref aD)])) rfl rfl (hb hby d7_131)
        obtain ⟨cl169, Ar169, S169, H169⟩ := id Vd
        have hin169 : ¬ (cn < 0 ∨ cl169.slots.size ≤ (cn).toNatClampNeg) := inA S169 hc.1 hc.2.1
        obtain ⟨T169, h169, X169, e169, W169, st169⟩ := stI X168 hx hZ e168 Ar169 (j := cn) hin169 (g := (mkF m 136 #[.val (.ref a1), .val (.double d2), .second, .val (.double (FP.dsub (FP.dmul d2 (FP.l2d (own_t M 1))) (FP.l2d (own_t M 2)))), .second, .val (.int (6 : Int32)), .val (.double (FP.l2d (own_t M 6))), .second] [(.int (6 : Int32)), (.int cn), (.ref aD)])) rfl rfl (hb hby d7_136)
        have Ex_v169 := Ex.wr W169
        have F_leaves_v169 := F_leaves.other W169 (Or.inl n2)
        have F_sums_v169 := F_sums.other W169 (Or.inl n2)
        have F_drawn_v169 := F_drawn.other W169 (Or.inl n2)
        have F_drawnWeights_v169 := F_drawnWeights.other W169 (Or.inl n2)
        have F_drawnCount_v169 := F_drawnCount.other W169 (Or.inl n2)
        have Vs_v169 := Vs.other W169 n4
        have Ve_v169 := Ve.other W169 (Ne.symm n6)
        have Z169 : n0 ≤ h169.size := Nat.le_trans Z0 (Nat.le_of_eq W169.size.symm)
        have K169 := K0.wr W169 (Or.inl (by simp))
        have V169_v169 := ArF.set Ar169 S169 H169 W169 hin169
        have N169 := Fr.snoc X169 N0 gd
        have VN170_v170 : ArF Z h169 aD .int 64 (fun i => .int ((own_upN D cn (6 : Int32)) i)) := V169_v169.congr (fun i hi => own_upV D cn (6 : Int32) i)
        obtain ⟨T171, X171, e171, st171⟩ := getF X169 hx hZ hown (host := "") (Or.inl (hw _ (List.mem_of_getElem? (i := 13) rfl))) Via.refl e169 F_drawnWeights_v169 (g := (mkF m 138 #[.val (.ref a1), .val (.double d2), .second, .val (.double (FP.dsub (FP.dmul d2 (FP.l2d (own_t M 1))) (FP.l2d (own_t M 2)))), .second, .val (.int (6 : Int32)), .val (.double (FP.l2d (own_t M 6))), .second] [(.ref a1)])) rfl rfl (hb hby d7_138)
        obtain ⟨T172, X172, e172, st172⟩ := getF X171 hx hZ hown (host := "") (Or.inl (hw _ (List.mem_of_getElem? (i := 45) rfl))) Via.refl e171 F_drawnCount_v169 (g := (mkF m 142 #[.val (.ref a1), .val (.double d2), .second, .val (.double (FP.dsub (FP.dmul d2 (FP.l2d (own_t M 1))) (FP.l2d (own_t M 2)))), .second, .val (.int (6 : Int32)), .val (.double (FP.l2d (own_t M 6))), .second] [(.ref a1), (.ref aE)])) rfl rfl (hb hby d7_142)
        obtain ⟨T173, X173, e173, st173⟩ := getF X172 hx hZ hown (host := "") (Or.inl (hw _ (List.mem_of_getElem? (i := 26) rfl))) Via.refl e172 F_sums_v169 (g := (mkF m 146 #[.val (.ref a1), .val (.double d2), .second, .val (.double (FP.dsub (FP.dmul d2 (FP.l2d (own_t M 1))) (FP.l2d (own_t M 2)))), .second, .val (.int (6 : Int32)), .val (.double (FP.l2d (own_t M 6))), .second] [(.ref a1), (.int cn), (.ref aE)])) rfl rfl (hb hby d7_146)
        obtain ⟨cl174, Ar174, S174, H174⟩ := id Vs_v169
        have hin174 : ¬ ((6 : Int32) < 0 ∨ cl174.slots.size ≤ ((6 : Int32)).toNatClampNeg) := inA S174 (by decide) (by decide)
        have hat174 : cl174.slots[((6 : Int32)).toNatClampNeg]? = some (.double (FP.l2d (own_t M 6))) := ArF.at S174 H174 hin174 rfl
        obtain ⟨cl175, Ar175, S175, H175⟩ := id Ve_v169
        have hin175 : ¬ (cn < 0 ∨ cl175.slots.size ≤ (cn).toNatClampNeg) := inA S175 hc.1 hc.2.1
        obtain ⟨T175, h175, X175, e175, W175, st175⟩ := stD X173 hx hZ e173 Ar175 (j := cn) hin175 (g := (mkF m 152 #[.val (.ref a1), .val (.double d2), .second, .val (.double (FP.dsub (FP.dmul d2 (FP.l2d (own_t M 1))) (FP.l2d (own_t M 2)))), .second, .val (.int (6 : Int32)), .val (.double (FP.l2d (own_t M 6))), .second] [(.double (FP.l2d (own_t M 6))), (.int cn), (.ref aE)])) rfl rfl (hb hby d7_152)
        have Ex_v175 := Ex_v169.wr W175
        have F_leaves_v175 := F_leaves_v169.other W175 (Or.inl n3)
        have F_sums_v175 := F_sums_v169.other W175 (Or.inl n3)
        have F_drawn_v175 := F_drawn_v169.other W175 (Or.inl n3)
        have F_drawnWeights_v175 := F_drawnWeights_v169.other W175 (Or.inl n3)
        have F_drawnCount_v175 := F_drawnCount_v169.other W175 (Or.inl n3)
        have Vs_v175 := Vs_v169.other W175 n5
        have VN170_v175 := VN170_v170.other W175 n6
        have Z175 : n0 ≤ h175.size := Nat.le_trans Z169 (Nat.le_of_eq W175.size.symm)
        have K175 := K169.wr W175 (Or.inl (by simp))
        have V175_v175 := ArF.set Ar175 S175 H175 W175 hin175
        have N175 := Fr.snoc X175 N169 ge
        have VX176_v176 : ArF Z h175 aE .double 64 (fun i => .double (FP.l2d ((own_upX X cn (own_t M 6)) i))) := V175_v175.congr (fun i hi => own_upW X cn (own_t M 6) i)
        obtain ⟨T177, X177, e177, st177⟩ := getF X175 hx hZ hown (host := "") (Or.inl (hw _ (List.mem_of_getElem? (i := 45) rfl))) Via.refl e175 F_drawnCount_v175 (g := (mkF m 155 #[.val (.ref a1), .val (.double d2), .second, .val (.double (FP.dsub (FP.dmul d2 (FP.l2d (own_t M 1))) (FP.l2d (own_t M 2)))), .second, .val (.int (6 : Int32)), .val (.double (FP.l2d (own_t M 6))), .second] [(.ref a1), (.ref a1)])) rfl rfl (hb hby d7_155)
        obtain ⟨T178, h178, X178, e178, W178, st178⟩ := putF X177 hx hZ hown (host := "") (Or.inl (hw _ (List.mem_of_getElem? (i := 45) rfl))) Via.refl e177 F_drawnCount_v175 Ex_v175 (Or.inl (hw _ (List.mem_of_getElem? (i := 46) rfl))) (hw _ (List.mem_of_getElem? (i := 2) rfl)) (ty := .int) (by decide) rfl rfl (g := (mkF m 160 #[.val (.ref a1), .val (.double d2), .second, .val (.double (FP.dsub (FP.dmul d2 (FP.l2d (own_t M 1))) (FP.l2d (own_t M 2)))), .second, .val (.int (6 : Int32)), .val (.double (FP.l2d (own_t M 6))), .second] [(.int (cn + (1 : Int32))), (.ref a1)])) rfl rfl (hb hby d7_160)
        have Ex_v178 := Ex_v175.wr W178
        have F_leaves_v178 := F_leaves_v175.other W178 (Or.inr (slot_ne (Or.inr (hw _ (List.mem_of_getElem? (i := 25) rfl))) (Or.inl (hw _ (List.mem_of_getElem? (i := 46) rfl))) (by decide) (t := .int) (t' := .int) (by decide) (by decide)))
        have F_sums_v178 := F_sums_v175.other W178 (Or.inr (slot_ne (Or.inr (hw _ (List.mem_of_getElem? (i := 27) rfl))) (Or.inl (hw _ (List.mem_of_getElem? (i := 46) rfl))) (by decide) (t := (.array .double)) (t' := .int) (by decide) (by decide)))
        have F_drawn_v178 := F_drawn_v175.other W178 (Or.inr (slot_ne (Or.inl (hw _ (List.mem_of_getElem? (i := 12) rfl))) (Or.inl (hw _ (List.mem_of_getElem? (i := 46) rfl))) (by decide) (t := (.array .int)) (t' := .int) (by decide) (by decide)))
        have F_drawnWeights_v178 := F_drawnWeights_v175.other W178 (Or.inr (slot_ne (Or.inl (hw _ (List.mem_of_getElem? (i := 14) rfl))) (Or.inl (hw _ (List.mem_of_getElem? (i := 46) rfl))) (by decide) (t := (.array .double)) (t' := .int) (by decide) (by decide)))
        have Vs_v178 := Vs_v175.other W178 (Ne.symm n1)
        have VN170_v178 := VN170_v175.other W178 (Ne.symm n2)
        have VX176_v178 := VX176_v176.other W178 (Ne.symm n3)
        have Z178 : n0 ≤ h178.size := Nat.le_trans Z175 (Nat.le_of_eq W178.size.symm)
        have K178 := K175.wr W178 (Or.inl (by simp))
        have F178_v178 : Fld Z h178 a1 "com/example/velar/velar/WeightedDraws" "drawnCount" "I" (.int (cn + (1 : Int32))) := F_drawnCount_v175.same W178
        have N178 := Fr.snoc X178 N175 ga
        obtain ⟨cq179, qq179, qq179'⟩ := Ex_v178.cell
        obtain ⟨_, _, ⟨T179, L179, k179, n179⟩, -, X179, ⟨Lc179, hQ179, l179, y179, z179⟩, st179⟩ := X178.privateBack hx (y := (⟨"com/example/velar/velar/WeightedDraws", "set", "(ID)V"⟩ : MethodName)) hown (mvT hZ (hw _ (List.mem_of_getElem? (i := 47) rfl))) (mvT hZ (hw _ (List.mem_of_getElem? (i := 48) rfl))) (own_selp (mvT hZ (hw _ (List.mem_of_getElem? (i := 2) rfl))) (Cond.privateMethod_at (mvP hZ (hw _ (List.mem_of_getElem? (i := 49) rfl)) (args := #[]))) (mvT hZ (hw _ (List.mem_of_getElem? (i := 48) rfl))) (by decide)) (Cond.privateMethod_at (mvP hZ (hw _ (List.mem_of_getElem? (i := 49) rfl)) (args := #[]))) (mvT hZ (hw _ (List.mem_of_getElem? (i := 50) rfl))) (by decide) (backOf (W := 0) (rset l Z a0 hw [] a1 (6 : Int32) (0 : Int64) aS M h178 n0 Z178 F_sums_v178 Vs_v178 gs n1 hM own_L0 (by decide)) hZ (hw _ (List.mem_of_getElem? (i := 50) rfl)) (hw _ (List.mem_of_getElem? (i := 3) rfl)) (by decide) (by decide)) (g := (mkF m 167 #[.val (.ref a1), .val (.double d2), .second, .val (.double (FP.dsub (FP.dmul d2 (FP.l2d (own_t M 1))) (FP.l2d (own_t M 2)))), .second, .val (.int (6 : Int32)), .val (.double (FP.l2d (own_t M 6))), .second] [(.double (FP.l2d 0)), (.int (6 : Int32)), (.ref a1)])) rfl (by rw [hml]; rfl) (Steps.refl _) (a := a1) (by rw [e178]; exact qq179) qq179' (argsL := [(.int (6 : Int32)), (.double (FP.l2d 0))]) (rest := []) (lenOf pd_1 rfl) rfl (by show 2 * 0 + _ ≤ _; exact Nat.le_of_eq rfl) (hb hby d7_167) (fun _ _ => ⟨rfl, e178, (by decide : 0 + 0 ≤ _), (by decide : 0 + 0 ≤ _)⟩)
        dsimp only [Pt.U, Pt.locs, Pt.cells, Pt.slots] at X179 l179 y179 z179 st179 hQ179
        subst l179 y179 z179
        obtain ⟨rfl, N179q, Kc179, nf179_v179⟩ := hQ179
        have N179 := Fr.app N178 N179q
        have Ex_v179 := Ex_v178.keep Kc179
        have F_leaves_v179 := F_leaves_v178.keep Kc179 (ninS n1 nin0)
        have F_sums_v179 := F_sums_v178.keep Kc179 (ninS n1 nin0)
        have F_drawn_v179 := F_drawn_v178.keep Kc179 (ninS n1 nin0)
        have F_drawnWeights_v179 := F_drawnWeights_v178.keep Kc179 (ninS n1 nin0)
        have VN170_v179 := VN170_v178.keep Kc179 (ninS (Ne.symm n4) nin0)
        have VX176_v179 := VX176_v178.keep Kc179 (ninS (Ne.symm n5) nin0)
        have F178_v179 := F178_v178.keep Kc179 (ninS n1 nin0)
        have Z179 : n0 ≤ T179.heap.size := Nat.le_trans Z178 Kc179.1
        have KK179 := K178.trans Kc179 (allS (Or.inl (by simp)) all0)
        obtain ⟨T180, X180, e180, st180⟩ := getF X179 hx hZ hown (host := "") (Or.inl (hw _ (List.mem_of_getElem? (i := 24) rfl))) Via.refl rfl F_leaves_v179 (g := (mkF m 173 #[.val (.ref a1), .val (.double d2), .second, .val (.double (FP.dsub (FP.dmul d2 (FP.l2d (own_t M 1))) (FP.l2d (own_t M 2)))), .second, .val (.int (6 : Int32)), .val (.double (FP.l2d (own_t M 6))), .second] [(.ref a1), (.int (6 : Int32))])) rfl rfl (hb hby d7_173)
        obtain ⟨fs, hr, hrun, hended, hW, hsame⟩ := X180.leave (v := some (.int (2 : Int32))) (fun h => by rw [Bd.returns] at h; cases h)
        refine ⟨_, _, pre141 _ ?_, hrun, hended, _, _, rfl, ?_, ⟨_, rfl⟩, hW, hsame.mono (by decide) (by decide)⟩
        · show Steps p.tables e below (T139.setTop (mkF m 36 #[.val (.ref a1), .val (.double d2), .second, .val (.double (FP.dsub (FP.dmul d2 (FP.l2d (own_t M 1))) (FP.l2d (own_t M 2)))), .second, .val (.int (3 : Int32)), .val (.double (FP.l2d (own_t M 6))), .second] [(.int (cmpValue (FP.dcmp (FP.dsub (FP.dmul d2 (FP.l2d (own_t M 1))) (FP.l2d (own_t M 2))) (FP.l2d (own_t M 6))) .g))])) _
          refine XS.ifNo X139.here hx rfl (hb hby d7_36) rfl ((if0 _ _).trans (flt hc36_142).1) ?_
          show Steps p.tables e below (T139.setTop (mkF m 39 #[.val (.ref a1), .val (.double d2), .second, .val (.double (FP.dsub (FP.dmul d2 (FP.l2d (own_t M 1))) (FP.l2d (own_t M 2)))), .second, .val (.int (3 : Int32)), .val (.double (FP.l2d (own_t M 6))), .second] [])) _
          refine XS.aloadN X139.here hx rfl (hb hby d7_39) rfl rfl ?_
          show Steps p.tables e below (T139.setTop (mkF m 40 #[.val (.ref a1), .val (.double d2), .second, .val (.double (FP.dsub (FP.dmul d2 (FP.l2d (own_t M 1))) (FP.l2d (own_t M 2)))), .second, .val (.int (3 : Int32)), .val (.double (FP.l2d (own_t M 6))), .second] [(.ref a1)])) _
          refine st161 _ ?_
          show Steps p.tables e below (T161.setTop (mkF m 43 #[.val (.ref a1), .val (.double d2), .second, .val (.double (FP.dsub (FP.dmul d2 (FP.l2d (own_t M 1))) (FP.l2d (own_t M 2)))), .second, .val (.int (3 : Int32)), .val (.double (FP.l2d (own_t M 6))), .second] [(.ref aS)])) _
          refine XS.iconst X161.here hx rfl (hb hby d7_43) ?_
          show Steps p.tables e below (T161.setTop (mkF m 44 #[.val (.ref a1), .val (.double d2), .second, .val (.double (FP.dsub (FP.dmul d2 (FP.l2d (own_t M 1))) (FP.l2d (own_t M 2)))), .second, .val (.int (3 : Int32)), .val (.double (FP.l2d (own_t M 6))), .second] [(.int (2 : Int32)), (.ref aS)])) _
          refine XS.iload X161.here hx rfl (hb hby d7_44) rfl ?_
          show Steps p.tables e below (T161.setTop (mkF m 46 #[.val (.ref a1), .val (.double d2), .second, .val (.double (FP.dsub (FP.dmul d2 (FP.l2d (own_t M 1))) (FP.l2d (own_t M 2)))), .second, .val (.int (3 : Int32)), .val (.double (FP.l2d (own_t M 6))), .second] [(.int (3 : Int32)), (.int (2 : Int32)), (.ref aS)])) _
          refine XS.imul X161.here hx rfl (hb hby d7_46) rfl ?_
          show Steps p.tables e below (T161.setTop (mkF m 47 #[.val (.ref a1), .val (.double d2), .second, .val (.double (FP.dsub (FP.dmul d2 (FP.l2d (own_t M 1))) (FP.l2d (own_t M 2)))), .second, .val (.int (3 : Int32)), .val (.double (FP.l2d (own_t M 6))), .second] [(.int (6 : Int32)), (.ref aS)])) _
          refine XS.iconst X161.here hx rfl (hb hby d7_47) ?_
          show Steps p.tables e below (T161.setTop (mkF m 48 #[.val (.ref a1), .val (.double d2), .second, .val (.double (FP.dsub (FP.dmul d2 (FP.l2d (own_t M 1))) (FP.l2d (own_t M 2)))), .second, .val (.int (3 : Int32)), .val (.double (FP.l2d (own_t M 6))), .second] [(.int (1 : Int32)), (.int (6 : Int32)), (.ref aS)])) _
          refine XS.iadd X161.here hx rfl (hb hby d7_48) rfl ?_
          show Steps p.tables e below (T161.setTop (mkF m 49 #[.val (.ref a1), .val (.double d2), .second, .val (.double (FP.dsub (FP.dmul d2 (FP.l2d (own_t M 1))) (FP.l2d (own_t M 2)))), .second, .val (.int (3 : Int32)), .val (.double (FP.l2d (own_t M 6))), .second] [(.int (7 : Int32)), (.ref aS)])) _
          refine X161.daload hx (j := (7 : Int32)) (v := (.double (FP.l2d (own_t M 7)))) (by rw [e161]; exact Ar162.1) (State.isArrayOf_alike hZ.alike Ar162.2.1) Ar162.2.2 hin162 hat162 (g := (mkF m 49 #[.val (.ref a1), .val (.double d2), .second, .val (.double (FP.dsub (FP.dmul d2 (FP.l2d (own_t M 1))) (FP.l2d (own_t M 2)))), .second, .val (.int (3 : Int32)), .val (.double (FP.l2d (own_t M 6))), .second] [(.int (7 : Int32)), (.ref aS)])) rfl rfl (hb hby d7_49) _ ?_
          show Steps p.tables e below (T161.setTop (mkF m 50 #[.val (.ref a1), .val (.double d2), .second, .val (.double (FP.dsub (FP.dmul d2 (FP.l2d (own_t M 1))) (FP.l2d (own_t M 2)))), .second, .val (.int (3 : Int32)), .val (.double (FP.l2d (own_t M 6))), .second] [(.double (FP.l2d (own_t M 7)))])) _
          refine XS.dconst0 X161.here hx rfl (hb hby d7_50) (v := (FP.l2d 0)) (by decide +kernel) ?_
          show Steps p.tables e below (T161.setTop (mkF m 51 #[.val (.ref a1), .val (.double d2), .second, .val (.double (FP.dsub (FP.dmul d2 (FP.l2d (own_t M 1))) (FP.l2d (own_t M 2)))), .second, .val (.int (3 : Int32)), .val (.double (FP.l2d (own_t M 6))), .second] [(.double (FP.l2d 0)), (.double (FP.l2d (own_t M 7)))])) _
          refine XS.dcmpS X161.here hx rfl (hb hby d7_51) rfl rfl ?_
          show Steps p.tables e below (T161.setTop (mkF m 52 #[.val (.ref a1), .val (.double d2), .second, .val (.double (FP.dsub (FP.dmul d2 (FP.l2d (own_t M 1))) (FP.l2d (own_t M 2)))), .second, .val (.int (3 : Int32)), .val (.double (FP.l2d (own_t M 6))), .second] [(.int (cmpValue (FP.dcmp (FP.l2d (own_t M 7)) (FP.l2d 0)) .l))])) _
          refine XS.ifNo X161.here hx rfl (hb hby d7_52) rfl ((if0 _ _).trans (teq (by decide +kernel : ((cmpValue (FP.dcmp (FP.l2d 0) (FP.l2d 0)) .l) = (0 : Int32)))).2) ?_
          show Steps p.tables e below (T161.setTop (mkF m 55 #[.val (.ref a1), .val (.double d2), .second, .val (.double (FP.dsub (FP.dmul d2 (FP.l2d (own_t M 1))) (FP.l2d (own_t M 2)))), .second, .val (.int (3 : Int32)), .val (.double (FP.l2d (own_t M 6))), .second] [])) _
          refine XS.iconst X161.here hx rfl (hb hby d7_55) ?_
          show Steps p.tables e below (T161.setTop (mkF m 56 #[.val (.ref a1), .val (.double d2), .second, .val (.double (FP.dsub (FP.dmul d2 (FP.l2d (own_t M 1))) (FP.l2d (own_t M 2)))), .second, .val (.int (3 : Int32)), .val (.double (FP.l2d (own_t M 6))), .second] [(.int (2 : Int32))])) _
          refine XS.iload X161.here hx rfl (hb hby d7_56) rfl ?_
          show Steps p.tables e below (T161.setTop (mkF m 58 #[.val (.ref a1), .val (.double d2), .second, .val (.double (FP.dsub (FP.dmul d2 (FP.l2d (own_t M 1))) (FP.l2d (own_t M 2)))), .second, .val (.int (3 : Int32)), .val (.double (FP.l2d (own_t M 6))), .second] [(.int (3 : Int32)), (.int (2 : Int32))])) _
          refine XS.imul X161.here hx rfl (hb hby d7_58) rfl ?_
          show Steps p.tables e below (T161.setTop (mkF m 59 #[.val (.ref a1), .val (.double d2), .second, .val (.double (FP.dsub (FP.dmul d2 (FP.l2d (own_t M 1))) (FP.l2d (own_t M 2)))), .second, .val (.int (3 : Int32)), .val (.double (FP.l2d (own_t M 6))), .second] [(.int (6 : Int32))])) _
          refine XS.istore X161.here hx rfl (hb hby d7_59) rfl (l' := #[.val (.ref a1), .val (.double d2), .second, .val (.double (FP.dsub (FP.dmul d2 (FP.l2d (own_t M 1))) (FP.l2d (own_t M 2)))), .second, .val (.int (6 : Int32)), .val (.double (FP.l2d (own_t M 6))), .second]) rfl ?_
          show Steps p.tables e below (T161.setTop (mkF m 61 #[.val (.ref a1), .val (.double d2), .second, .val (.double (FP.dsub (FP.dmul d2 (FP.l2d (own_t M 1))) (FP.l2d (own_t M 2)))), .second, .val (.int (6 : Int32)), .val (.double (FP.l2d (own_t M 6))), .second] [])) _
          refine XS.goto X161.here hx rfl (pc0 := 61) (pc' := 77) rfl (hb hby d7_61) (by decide) (by decide) ?_
          show Steps p.tables e below (T161.setTop (mkF m 77 #[.val (.ref a1), .val (.double d2), .second, .val (.double (FP.dsub (FP.dmul d2 (FP.l2d (own_t M 1))) (FP.l2d (own_t M 2)))), .second, .val (.int (6 : Int32)), .val (.double (FP.l2d (own_t M 6))), .second] [])) _
          refine XS.goto X161.here hx rfl (pc0 := 77) (pc' := 12) rfl (hb hby d7_77) (by decide) (by decide) ?_
          show Steps p.tables e below (T161.setTop (mkF m 12 #[.val (.ref a1), .val (.double d2), .second, .val (.double (FP.dsub (FP.dmul d2 (FP.l2d (own_t M 1))) (FP.l2d (own_t M 2)))), .second, .val (.int (6 : Int32)), .val (.double (FP.l2d (own_t M 6))), .second] [])) _
          refine XS.iload X161.here hx rfl (hb hby d7_12) rfl ?_
          show Steps p.tables e below (T161.setTop (mkF m 14 #[.val (.ref a1), .val (.double d2), .second, .val (.double (FP.dsub (FP.dmul d2 (FP.l2d (own_t M 1))) (FP.l2d (own_t M 2)))), .second, .val (.int (6 : Int32)), .val (.double (FP.l2d (own_t M 6))), .second] [(.int (6 : Int32))])) _
          refine XS.aloadN X161.here hx rfl (hb hby d7_14) rfl rfl ?_
          show Steps p.tables e below (T161.setTop (mkF m 15 #[.val (.ref a1), .val (.double d2), .second, .val (.double (FP.dsub (FP.dmul d2 (FP.l2d (own_t M 1))) (FP.l2d (own_t M 2)))), .second, .val (.int (6 : Int32)), .val (.double (FP.l2d (own_t M 6))), .second] [(.ref a1), (.int (6 : Int32))])) _
          refine st163 _ ?_
          show Steps p.tables e below (T163.setTop (mkF m 18 #[.val (.ref a1), .val (.double d2), .second, .val (.double (FP.dsub (FP.dmul d2 (FP.l2d (own_t M 1))) (FP.l2d (own_t M 2)))), .second, .val (.int (6 : Int32)), .val (.double (FP.l2d (own_t M 6))), .second] [(.int (4 : Int32)), (.int (6 : Int32))])) _
          refine XS.icmpYes X163.here hx rfl (pc0 := 18) (pc' := 80) rfl (hb hby d7_18) rfl (flt (by decide : ¬ ((6 : Int32) < (4 : Int32)))).2.1 (by decide) (by decide) ?_
          show Steps p.tables e below (T163.setTop (mkF m 80 #[.val (.ref a1), .val (.double d2), .second, .val (.double (FP.dsub (FP.dmul d2 (FP.l2d (own_t M 1))) (FP.l2d (own_t M 2)))), .second, .val (.int (6 : Int32)), .val (.double (FP.l2d (own_t M 6))), .second] [])) _
          refine XS.aloadN X163.here hx rfl (hb hby d7_80) rfl rfl ?_
          show Steps p.tables e below (T163.setTop (mkF m 81 #[.val (.ref a1), .val (.double d2), .second, .val (.double (FP.dsub (FP.dmul d2 (FP.l2d (own_t M 1))) (FP.l2d (own_t M 2)))), .second, .val (.int (6 : Int32)), .val (.double (FP.l2d (own_t M 6))), .second] [(.ref a1)])) _
          refine st164 _ ?_
          show Steps p.tables e below (T164.setTop (mkF m 84 #[.val (.ref a1), .val (.double d2), .second, .val (.double (FP.dsub (FP.dmul d2 (FP.l2d (own_t M 1))) (FP.l2d (own_t M 2)))), .second, .val (.int (6 : Int32)), .val (.double (FP.l2d (own_t M 6))), .second] [(.int cn)])) _
          refine XS.aloadN X164.here hx rfl (hb hby d7_84) rfl rfl ?_
          show Steps p.tables e below (T164.setTop (mkF m 85 #[.val (.ref a1), .val (.double d2), .second, .val (.double (FP.dsub (FP.dmul d2 (FP.l2d (own_t M 1))) (FP.l2d (own_t M 2)))), .second, .val (.int (6 : Int32)), .val (.double (FP.l2d (own_t M 6))), .second] [(.ref a1), (.int cn)])) _
          refine st165 _ ?_
          show Steps p.tables e below (T165.setTop (mkF m 88 #[.val (.ref a1), .val (.double d2), .second, .val (.double (FP.dsub (FP.dmul d2 (FP.l2d (own_t M 1))) (FP.l2d (own_t M 2)))), .second, .val (.int (6 : Int32)), .val (.double (FP.l2d (own_t M 6))), .second] [(.ref aD), (.int cn)])) _
          refine X165.arraylength hx (by rw [e165]; exact Ar166.1) (State.isArrayOf_alike hZ.alike Ar166.2.1) (g := (mkF m 88 #[.val (.ref a1), .val (.double d2), .second, .val (.double (FP.dsub (FP.dmul d2 (FP.l2d (own_t M 1))) (FP.l2d (own_t M 2)))), .second, .val (.int (6 : Int32)), .val (.double (FP.l2d (own_t M 6))), .second] [(.ref aD), (.int cn)])) rfl rfl (hb hby d7_88) _ ?_
          rw [show cl166.slots.size.toInt32 = (64 : Int32) from by rw [S166]; rfl]
          show Steps p.tables e below (T165.setTop (mkF m 89 #[.val (.ref a1), .val (.double d2), .second, .val (.double (FP.dsub (FP.dmul d2 (FP.l2d (own_t M 1))) (FP.l2d (own_t M 2)))), .second, .val (.int (6 : Int32)), .val (.double (FP.l2d (own_t M 6))), .second] [(.int (64 : Int32)), (.int cn)])) _
          refine XS.icmpYes X165.here hx rfl (pc0 := 89) (pc' := 126) rfl (hb hby d7_89) rfl (feq (hc.2.2 : ¬ (cn = (64 : Int32)))).2 (by decide) (by decide) ?_
          show Steps p.tables e below (T165.setTop (mkF m 126 #[.val (.ref a1), .val (.double d2), .second, .val (.double (FP.dsub (FP.dmul d2 (FP.l2d (own_t M 1))) (FP.l2d (own_t M 2)))), .second, .val (.int (6 : Int32)), .val (.double (FP.l2d (own_t M 6))), .second] [])) _
          refine XS.aloadN X165.here hx rfl (hb hby d7_126) rfl rfl ?_
          show Steps p.tables e below (T165.setTop (mkF m 127 #[.val (.ref a1), .val (.double d2), .second, .val (.double (FP.dsub (FP.dmul d2 (FP.l2d (own_t M 1))) (FP.l2d (own_t M 2)))), .second, .val (.int (6 : Int32)), .val (.double (FP.l2d (own_t M 6))), .second] [(.ref a1)])) _
          refine st167 _ ?_
          show Steps p.tables e below (T167.setTop (mkF m 130 #[.val (.ref a1), .val (.double d2), .second, .val (.double (FP.dsub (FP.dmul d2 (FP.l2d (own_t M 1))) (FP.l2d (own_t M 2)))), .second, .val (.int (6 : Int32)), .val (.double (FP.l2d (own_t M 6))), .second] [(.ref aD)])) _
          refine XS.aloadN X167.here hx rfl (hb hby d7_130) rfl rfl ?_
          show Steps p.tables e below (T167.setTop (mkF m 131 #[.val (.ref a1), .val (.double d2), .second, .val (.double (FP.dsub (FP.dmul d2 (FP.l2d (own_t M 1))) (FP.l2d (own_t M 2)))), .second, .val (.int (6 : Int32)), .val (.double (FP.l2d (own_t M 6))), .second] [(.ref a1), (.ref aD)])) _
          refine st168 _ ?_
          show Steps p.tables e below (T168.setTop (mkF m 134 #[.val (.ref a1), .val (.double d2), .second, .val (.double (FP.dsub (FP.dmul d2 (FP.l2d (own_t M 1))) (FP.l2d (own_t M 2)))), .second, .val (.int (6 : Int32)), .val (.double (FP.l2d (own_t M 6))), .second] [(.int cn), (.ref aD)])) _
          refine XS.iload X168.here hx rfl (hb hby d7_134) rfl ?_
          show Steps p.tables e below (T168.setTop (mkF m 136 #[.val (.ref a1), .val (.double d2), .second, .val (.double (FP.dsub (FP.dmul d2 (FP.l2d (own_t M 1))) (FP.l2d (own_t M 2)))), .second, .val (.int (6 : Int32)), .val (.double (FP.l2d (own_t M 6))), .second] [(.int (6 : Int32)), (.int cn), (.ref aD)])) _
          refine st169 _ ?_
          show Steps p.tables e below (T169.setTop (mkF m 137 #[.val (.ref a1), .val (.double d2), .second, .val (.double (FP.dsub (FP.dmul d2 (FP.l2d (own_t M 1))) (FP.l2d (own_t M 2)))), .second, .val (.int (6 : Int32)), .val (.double (FP.l2d (own_t M 6))), .second] [])) _
          refine XS.aloadN X169.here hx rfl (hb hby d7_137) rfl rfl ?_
          show Steps p.tables e below (T169.setTop (mkF m 138 #[.val (.ref a1), .val (.double d2), .second, .val (.double (FP.dsub (FP.dmul d2 (FP.l2d (own_t M 1))) (FP.l2d (own_t M 2)))), .second, .val (.int (6 : Int32)), .val (.double (FP.l2d (own_t M 6))), .second] [(.ref a1)])) _
          refine st171 _ ?_
          show Steps p.tables e below (T171.setTop (mkF m 141 #[.val (.ref a1), .val (.double d2), .second, .val (.double (FP.dsub (FP.dmul d2 (FP.l2d (own_t M 1))) (FP.l2d (own_t M 2)))), .second, .val (.int (6 : Int32)), .val (.double (FP.l2d (own_t M 6))), .second] [(.ref aE)])) _
          refine XS.aloadN X171.here hx rfl (hb hby d7_141) rfl rfl ?_
          show Steps p.tables e below (T171.setTop (mkF m 142 #[.val (.ref a1), .val (.double d2), .second, .val (.double (FP.dsub (FP.dmul d2 (FP.l2d (own_t M 1))) (FP.l2d (own_t M 2)))), .second, .val (.int (6 : Int32)), .val (.double (FP.l2d (own_t M 6))), .second] [(.ref a1), (.ref aE)])) _
          refine st172 _ ?_
          show Steps p.tables e below (T172.setTop (mkF m 145 #[.val (.ref a1), .val (.double d2), .second, .val (.double (FP.dsub (FP.dmul d2 (FP.l2d (own_t M 1))) (FP.l2d (own_t M 2)))), .second, .val (.int (6 : Int32)), .val (.double (FP.l2d (own_t M 6))), .second] [(.int cn), (.ref aE)])) _
          refine XS.aloadN X172.here hx rfl (hb hby d7_145) rfl rfl ?_
          show Steps p.tables e below (T172.setTop (mkF m 146 #[.val (.ref a1), .val (.double d2), .second, .val (.double (FP.dsub (FP.dmul d2 (FP.l2d (own_t M 1))) (FP.l2d (own_t M 2)))), .second, .val (.int (6 : Int32)), .val (.double (FP.l2d (own_t M 6))), .second] [(.ref a1), (.int cn), (.ref aE)])) _
          refine st173 _ ?_
          show Steps p.tables e below (T173.setTop (mkF m 149 #[.val (.ref a1), .val (.double d2), .second, .val (.double (FP.dsub (FP.dmul d2 (FP.l2d (own_t M 1))) (FP.l2d (own_t M 2)))), .second, .val (.int (6 : Int32)), .val (.double (FP.l2d (own_t M 6))), .second] [(.ref aS), (.int cn), (.ref aE)])) _
          refine XS.iload X173.here hx rfl (hb hby d7_149) rfl ?_
          show Steps p.tables e below (T173.setTop (mkF m 151 #[.val (.ref a1), .val (.double d2), .second, .val (.double (FP.dsub (FP.dmul d2 (FP.l2d (own_t M 1))) (FP.l2d (own_t M 2)))), .second, .val (.int (6 : Int32)), .val (.double (FP.l2d (own_t M 6))), .second] [(.int (6 : Int32)), (.ref aS), (.int cn), (.ref aE)])) _
          refine X173.daload hx (j := (6 : Int32)) (v := (.double (FP.l2d (own_t M 6)))) (by rw [e173]; exact Ar174.1) (State.isArrayOf_alike hZ.alike Ar174.2.1) Ar174.2.2 hin174 hat174 (g := (mkF m 151 #[.val (.ref a1), .val (.double d2), .second, .val (.double (FP.dsub (FP.dmul d2 (FP.l2d (own_t M 1))) (FP.l2d (own_t M 2)))), .second, .val (.int (6 : Int32)), .val (.double (FP.l2d (own_t M 6))), .second] [(.int (6 : Int32)), (.ref aS), (.int cn), (.ref aE)])) rfl rfl (hb hby d7_151) _ ?_
          show Steps p.tables e below (T173.setTop (mkF m 152 #[.val (.ref a1), .val (.double d2), .second, .val (.double (FP.dsub (FP.dmul d2 (FP.l2d (own_t M 1))) (FP.l2d (own_t M 2)))), .second, .val (.int (6 : Int32)), .val (.double (FP.l2d (own_t M 6))), .second] [(.double (FP.l2d (own_t M 6))), (.int cn), (.ref aE)])) _
          refine st175 _ ?_
          show Steps p.tables e below (T175.setTop (mkF m 153 #[.val (.ref a1), .val (.double d2), .second, .val (.double (FP.dsub (FP.dmul d2 (FP.l2d (own_t M 1))) (FP.l2d (own_t M 2)))), .second, .val (.int (6 : Int32)), .val (.double (FP.l2d (own_t M 6))), .second] [])) _
          refine XS.aloadN X175.here hx rfl (hb hby d7_153) rfl rfl ?_
          show Steps p.tables e below (T175.setTop (mkF m 154 #[.val (.ref a1), .val (.double d2), .second, .val (.double (FP.dsub (FP.dmul d2 (FP.l2d (own_t M 1))) (FP.l2d (own_t M 2)))), .second, .val (.int (6 : Int32)), .val (.double (FP.l2d (own_t M 6))), .second] [(.ref a1)])) _
          refine XS.dup X175.here hx rfl (hb hby d7_154) rfl rfl ?_
          show Steps p.tables e below (T175.setTop (mkF m 155 #[.val (.ref a1), .val (.double d2), .second, .val (.double (FP.dsub (FP.dmul d2 (FP.l2d (own_t M 1))) (FP.l2d (own_t M 2)))), .second, .val (.int (6 : Int32)), .val (.double (FP.l2d (own_t M 6))), .second] [(.ref a1), (.ref a1)])) _
          refine st177 _ ?_
          show Steps p.tables e below (T177.setTop (mkF m 158 #[.val (.ref a1), .val (.double d2), .second, .val (.double (FP.dsub (FP.dmul d2 (FP.l2d (own_t M 1))) (FP.l2d (own_t M 2)))), .second, .val (.int (6 : Int32)), .val (.double (FP.l2d (own_t M 6))), .second] [(.int cn), (.ref a1)])) _
          refine XS.iconst X177.here hx rfl (hb hby d7_158) ?_
          show Steps p.tables e below (T177.setTop (mkF m 159 #[.val (.ref a1), .val (.double d2), .second, .val (.double (FP.dsub (FP.dmul d2 (FP.l2d (own_t M 1))) (FP.l2d (own_t M 2)))), .second, .val (.int (6 : Int32)), .val (.double (FP.l2d (own_t M 6))), .second] [(.int (1 : Int32)), (.int cn), (.ref a1)])) _
          refine XS.iadd X177.here hx rfl (hb hby d7_159) rfl ?_
          show Steps p.tables e below (T177.setTop (mkF m 160 #[.val (.ref a1), .val (.double d2), .second, .val (.double (FP.dsub (FP.dmul d2 (FP.l2d (own_t M 1))) (FP.l2d (own_t M 2)))), .second, .val (.int (6 : Int32)), .val (.double (FP.l2d (own_t M 6))), .second] [(.int (cn + (1 : Int32))), (.ref a1)])) _
          refine st178 _ ?_
          show Steps p.tables e below (T178.setTop (mkF m 163 #[.val (.ref a1), .val (.double d2), .second, .val (.double (FP.dsub (FP.dmul d2 (FP.l2d (own_t M 1))) (FP.l2d (own_t M 2)))), .second, .val (.int (6 : Int32)), .val (.double (FP.l2d (own_t M 6))), .second] [])) _
          refine XS.aloadN X178.here hx rfl (hb hby d7_163) rfl rfl ?_
          show Steps p.tables e below (T178.setTop (mkF m 164 #[.val (.ref a1), .val (.double d2), .second, .val (.double (FP.dsub (FP.dmul d2 (FP.l2d (own_t M 1))) (FP.l2d (own_t M 2)))), .second, .val (.int (6 : Int32)), .val (.double (FP.l2d (own_t M 6))), .second] [(.ref a1)])) _
          refine XS.iload X178.here hx rfl (hb hby d7_164) rfl ?_
          show Steps p.tables e below (T178.setTop (mkF m 166 #[.val (.ref a1), .val (.double d2), .second, .val (.double (FP.dsub (FP.dmul d2 (FP.l2d (own_t M 1))) (FP.l2d (own_t M 2)))), .second, .val (.int (6 : Int32)), .val (.double (FP.l2d (own_t M 6))), .second] [(.int (6 : Int32)), (.ref a1)])) _
          refine XS.dconst0 X178.here hx rfl (hb hby d7_166) (v := (FP.l2d 0)) (by decide +kernel) ?_
          show Steps p.tables e below (T178.setTop (mkF m 167 #[.val (.ref a1), .val (.double d2), .second, .val (.double (FP.dsub (FP.dmul d2 (FP.l2d (own_t M 1))) (FP.l2d (own_t M 2)))), .second, .val (.int (6 : Int32)), .val (.double (FP.l2d (own_t M 6))), .second] [(.double (FP.l2d 0)), (.int (6 : Int32)), (.ref a1)])) _
          refine st179.trans ?_
          show Steps p.tables e below (T179.setTop (mkF m 170 #[.val (.ref a1), .val (.double d2), .second, .val (.double (FP.dsub (FP.dmul d2 (FP.l2d (own_t M 1))) (FP.l2d (own_t M 2)))), .second, .val (.int (6 : Int32)), .val (.double (FP.l2d (own_t M 6))), .second] [])) _
          refine XS.iload X179.here hx rfl (hb hby d7_170) rfl ?_
          show Steps p.tables e below (T179.setTop (mkF m 172 #[.val (.ref a1), .val (.double d2), .second, .val (.double (FP.dsub (FP.dmul d2 (FP.l2d (own_t M 1))) (FP.l2d (own_t M 2)))), .second, .val (.int (6 : Int32)), .val (.double (FP.l2d (own_t M 6))), .second] [(.int (6 : Int32))])) _
          refine XS.aloadN X179.here hx rfl (hb hby d7_172) rfl rfl ?_
          show Steps p.tables e below (T179.setTop (mkF m 173 #[.val (.ref a1), .val (.double d2), .second, .val (.double (FP.dsub (FP.dmul d2 (FP.l2d (own_t M 1))) (FP.l2d (own_t M 2)))), .second, .val (.int (6 : Int32)), .val (.double (FP.l2d (own_t M 6))), .second] [(.ref a1), (.int (6 : Int32))])) _
          refine st180 _ ?_
          show Steps p.tables e below (T180.setTop (mkF m 176 #[.val (.ref a1), .val (.double d2), .second, .val (.double (FP.dsub (FP.dmul d2 (FP.l2d (own_t M 1))) (FP.l2d (own_t M 2)))), .second, .val (.int (6 : Int32)), .val (.double (FP.l2d (own_t M 6))), .second] [(.int (4 : Int32)), (.int (6 : Int32))])) _
          refine XS.isub X180.here hx rfl (hb hby d7_176) rfl ?_
          show Steps p.tables e below (T180.setTop (mkF m 177 #[.val (.ref a1), .val (.double d2), .second, .val (.double (FP.dsub (FP.dmul d2 (FP.l2d (own_t M 1))) (FP.l2d (own_t M 2)))), .second, .val (.int (6 : Int32)), .val (.double (FP.l2d (own_t M 6))), .second] [(.int (2 : Int32))])) _
          exact retI X180 hx Bd.returns (hb hby d7_177) hr
        · show Q_rdr Z a1 d2 aS aD aE cn M D X h0 n0 _ T180.heap _
          rw [e180]
          have hpk : own_pick M d2 = (6 : Int32) := by rw [own_pick, if_neg hc36_7, if_neg hc52_74]
          exact (by rw [Q_rdr, hpk]; exact ⟨rfl, N179, KK179, F_leaves_v179, F_sums_v179, F_drawn_v179, F_drawnWeights_v179, F178_v179, nf179_v179, VN170_v179, VX176_v179⟩)
def own_pb (c : Int32) (D : Nat → Int32) (X : Nat → Int64) (M : Int32 → Int64) : Int32 → Int64 := if c = 0 then M else if c = 1 then (own_up M (D 0) (X 0)) else if c = 2 then (own_up (own_up M (D 0) (X 0)) (D 1) (X 1)) else (own_up (own_up (own_up M (D 0) (X 0)) (D 1) (X 1)) (D 2) (X 2))
theorem own_pb0 {c : Int32} {D : Nat → Int32} {X : Nat → Int64} {M : Int32 → Int64} (h : c = 0) : own_pb c D X M = M := by subst h; rfl
theorem own_pb1 {c : Int32} {D : Nat → Int32} {X : Nat → Int64} {M : Int32 → Int64} (h : c = 1) : own_pb c D X M = (own_up M (D 0) (X 0)) := by subst h; rfl
theorem own_pb2 {c : Int32} {D : Nat → Int32} {X : Nat → Int64} {M : Int32 → Int64} (h : c = 2) : own_pb c D X M = (own_up (own_up M (D 0) (X 0)) (D 1) (X 1)) := by subst h; rfl
theorem own_pb3 {c : Int32} {D : Nat → Int32} {X : Nat → Int64} {M : Int32 → Int64} (h : c = 3) : own_pb c D X M = (own_up (own_up (own_up M (D 0) (X 0)) (D 1) (X 1)) (D 2) (X 2)) := by subst h; rfl
theorem d9_0 : decode prog_28_method_3_code 0 = .ok (.iconst 0, 1) := by decide +kernel
theorem d9_1 : decode prog_28_method_3_code 1 = .ok (.istore_n 1, 1) := by decide +kernel
theorem d9_2 : decode prog_28_method_3_code 2 = .ok (.iload_n 1, 1) := by decide +kernel
theorem d9_3 : decode prog_28_method_3_code 3 = .ok (.aload_n 0, 1) := by decide +kernel
theorem d9_4 : decode prog_28_method_3_code 4 = .ok (.getfield 36, 3) := by decide +kernel
theorem d9_7 : decode prog_28_method_3_code 7 = .ok (.if_icmp .ge 25, 3) := by decide +kernel
theorem d9_10 : decode prog_28_method_3_code 10 = .ok (.aload_n 0, 1) := by decide +kernel
theorem d9_11 : decode prog_28_method_3_code 11 = .ok (.aload_n 0, 1) := by decide +kernel
theorem d9_12 : decode prog_28_method_3_code 12 = .ok (.getfield 7, 3) := by decide +kernel
theorem d9_15 : decode prog_28_method_3_code 15 = .ok (.iload_n 1, 1) := by decide +kernel
theorem d9_16 : decode prog_28_method_3_code 16 = .ok (.iaload, 1) := by decide +kernel
theorem d9_17 : decode prog_28_method_3_code 17 = .ok (.aload_n 0, 1) := by decide +kernel
theorem d9_18 : decode prog_28_method_3_code 18 = .ok (.getfield 13, 3) := by decide +kernel
theorem d9_21 : decode prog_28_method_3_code 21 = .ok (.iload_n 1, 1) := by decide +kernel
theorem d9_22 : decode prog_28_method_3_code 22 = .ok (.daload, 1) := by decide +kernel
theorem d9_23 : decode prog_28_method_3_code 23 = .ok (.invokevirtual 48, 3) := by decide +kernel
theorem d9_26 : decode prog_28_method_3_code 26 = .ok (.iinc 1 1, 3) := by decide +kernel
theorem d9_29 : decode prog_28_method_3_code 29 = .ok (.goto (-27), 3) := by decide +kernel
theorem d9_32 : decode prog_28_method_3_code 32 = .ok (.aload_n 0, 1) := by decide +kernel
theorem d9_33 : decode prog_28_method_3_code 33 = .ok (.iconst 0, 1) := by decide +kernel
theorem d9_34 : decode prog_28_method_3_code 34 = .ok (.putfield 36, 3) := by decide +kernel
theorem d9_37 : decode prog_28_method_3_code 37 = .ok (.return_, 1) := by decide +kernel
theorem pn_rpb : plainName "com/example/velar/velar/WeightedDraws" = true := by first | (simp [plainName, overriddenIn]; done) | decide +kernel
theorem ef_rpb (m : MethodId) (x0 : Addr) : entryFrame m #[(.ref x0)] 2 = mkF m 0 #[.val (.ref x0), .unset] [] := by first | (simp [entryFrame, mkF, argsToLocals, Value.category]; done) | rfl
def Q_rpb (Z : State) (a1 : Addr) (aS aD aE : Addr) (cn : Int32) (M : Int32 → Int64) (D : Nat → Int32) (X : Nat → Int64) (h0 : Heap) (n0 : Nat) (v : Option Value) (h : Heap) (L : List Loc) : Prop := v = none ∧ Fr n0 L ∧ Keep h0 h [a1, aS] ∧ Fld Z h a1 "com/example/velar/velar/WeightedDraws" "leaves" "I" (.int (4 : Int32)) ∧ Fld Z h a1 "com/example/velar/velar/WeightedDraws" "sums" "[D" (.ref aS) ∧ Fld Z h a1 "com/example/velar/velar/WeightedDraws" "drawn" "[I" (.ref aD) ∧ Fld Z h a1 "com/example/velar/velar/WeightedDraws" "drawnWeights" "[D" (.ref aE) ∧ Fld Z h a1 "com/example/velar/velar/WeightedDraws" "drawnCount" "I" (.int (0 : Int32)) ∧ ArF Z h aS .double 8 (fun i => .double (FP.l2d (own_t (own_pb cn D X M) i)))
set_option maxRecDepth 65536 in
set_option maxHeartbeats 40000000 in
theorem rpb (l : Launch) (Z : State) (a0 : Array Value) (hw : ∀ d ∈ tables_1, d.before a0 Z = true) (ws : List Jvm.Cond) (a1 : Addr) (aS aD aE : Addr) (cn : Int32) (M : Int32 → Int64) (D : Nat → Int32) (X : Nat → Int64) (h0 : Heap) (n0 : Nat) (Z0 : n0 ≤ h0.size) (Ex : Exa Z h0 a1 "com/example/velar/velar/WeightedDraws") (F_leaves : Fld Z h0 a1 "com/example/velar/velar/WeightedDraws" "leaves" "I" (.int (4 : Int32))) (F_sums : Fld Z h0 a1 "com/example/velar/velar/WeightedDraws" "sums" "[D" (.ref aS)) (F_drawn : Fld Z h0 a1 "com/example/velar/velar/WeightedDraws" "drawn" "[I" (.ref aD)) (F_drawnWeights : Fld Z h0 a1 "com/example/velar/velar/WeightedDraws" "drawnWeights" "[D" (.ref aE)) (F_drawnCount : Fld Z h0 a1 "com/example/velar/velar/WeightedDraws" "drawnCount" "I" (.int cn)) (Vs : ArF Z h0 aS .double 8 (fun i => .double (FP.l2d (own_t M i)))) (Vd : ArF Z h0 aD .int 64 (fun i => .int (D i))) (Ve : ArF Z h0 aE .double 64 (fun i => .double (FP.l2d (X i)))) (ga : n0 ≤ a1) (gs : n0 ≤ aS) (gd : n0 ≤ aD) (ge : n0 ≤ aE) (n1 : a1 ≠ aS) (n2 : a1 ≠ aD) (n3 : a1 ≠ aE) (n4 : aS ≠ aD) (n5 : aS ≠ aE) (n6 : aD ≠ aE) (hM : own_bd M) (hcn : cn = 0 ∨ cn = 1 ∨ cn = 2 ∨ cn = 3) (hD : ∀ i, i < cn.toNatClampNeg → D i = 4 ∨ D i = 5 ∨ D i = 6) (hX : ∀ i, own_Lb 16 (X i)) :
    MetFree l (⟨"com/example/velar/velar/WeightedDraws", "putBack", "()V"⟩ : MethodName) (head1 (Jvm.Cond.code (⟨"com/example/velar/velar/WeightedDraws", "putBack", "()V"⟩ : MethodName) prog_28_method_3_code 2 none :: ws) ({ frames := 1, cells := 0, slots := 0, locals := 16 } : Room)) (fun a U => a = #[(.ref a1)] ∧ Z.Warmed39 U.vm ∧ U.heap = h0) (fun _ _ _ _ _ => True) (fun _ U o U' => ∃ v L, o = .returned v ∧ Q_rpb Z a1 aS aD aE cn M D X h0 n0 v U'.heap L ∧ FrameEnd U o U' L ({ frames := 1, cells := 0, slots := 0, locals := 16 } : Room).cells ({ frames := 1, cells := 0, slots := 0, locals := 16 } : Room).slots) := by
  refine MetFree.of_bodySF (plainFor_of_name pn_rpb) hisR ?_
  intro p e s m args below meth c s₁ Bd hml0 hP hK
  obtain ⟨rfl, hZ, hh⟩ := hP
  have hx := Bd.exec
  have hby := Bd.bytes
  have hml : c.maxLocals = 2 := hml0
  have hown : s.vm.findClass "com/example/velar/velar/WeightedDraws" = some m.cls := findClass_of_methodNamed Bd.named
  have hnm := (name_of_methodNamed Bd.named Bd.method).1
  have X0 : Stand p l e ({ frames := 1, cells := 0, slots := 0, locals := 16 } : Room) s m #[(.ref a1)] below meth c s₁ [] 0 0 := Stand.of_body Bd
  have e0 : s₁.heap = h0 := by rw [← hh, Bd.state]; rfl
  have N0 := Fr.nil n0
  have pre0 : ∀ t, Steps p.tables e below (s₁.setTop (mkF m 0 #[.val (.ref a1), .unset] [])) t → Steps p.tables e below (s₁.setTop (entryFrame m #[(.ref a1)] 2)) t := fun t k => castTop (ef_rpb m a1) k
  have K0 := Keep.refl h0 [a1, aS]
  rcases hcn with hk | hk | hk | hk
  · obtain ⟨T1, X1, e1, st1⟩ := getF X0 hx hZ hown (host := "") (Or.inl (hw _ (List.mem_of_getElem? (i := 45) rfl))) Via.refl e0 F_drawnCount (g := (mkF m 4 #[.val (.ref a1), .val (.int (0 : Int32))] [(.ref a1), (.int (0 : Int32))])) rfl rfl (hb hby d9_4)
    obtain ⟨T2, h2, X2, e2, W2, st2⟩ := putF X1 hx hZ hown (host := "") (Or.inl (hw _ (List.mem_of_getElem? (i := 45) rfl))) Via.refl e1 F_drawnCount Ex (Or.inl (hw _ (List.mem_of_getElem? (i := 46) rfl))) (hw _ (List.mem_of_getElem? (i := 2) rfl)) (ty := .int) (by decide) rfl rfl (g := (mkF m 34 #[.val (.ref a1), .val (.int (0 : Int32))] [(.int (0 : Int32)), (.ref a1)])) rfl rfl (hb hby d9_34)
    have Ex_v2 := Ex.wr W2
    have F_leaves_v2 := F_leaves.other W2 (Or.inr (slot_ne (Or.inr (hw _ (List.mem_of_getElem? (i := 25) rfl))) (Or.inl (hw _ (List.mem_of_getElem? (i := 46) rfl))) (by decide) (t := .int) (t' := .int) (by decide) (by decide)))
    have F_sums_v2 := F_sums.other W2 (Or.inr (slot_ne (Or.inr (hw _ (List.mem_of_getElem? (i := 27) rfl))) (Or.inl (hw _ (List.mem_of_getElem? (i := 46) rfl))) (by decide) (t := (.array .double)) (t' := .int) (by decide) (by decide)))
    have F_drawn_v2 := F_drawn.other W2 (Or.inr (slot_ne (Or.inl (hw _ (List.mem_of_getElem? (i := 12) rfl))) (Or.inl (hw _ (List.mem_of_getElem? (i := 46) rfl))) (by decide) (t := (.array .int)) (t' := .int) (by decide) (by decide)))
    have F_drawnWeights_v2 := F_drawnWeights.other W2 (Or.inr (slot_ne (Or.inl (hw _ (List.mem_of_getElem? (i := 14) rfl))) (Or.inl (hw _ (List.mem_of_getElem? (i := 46) rfl))) (by decide) (t := (.array .double)) (t' := .int) (by decide) (by decide)))
    have Vs_v2 := Vs.other W2 (Ne.symm n1)
    have Vd_v2 := Vd.other W2 (Ne.symm n2)
    have Ve_v2 := Ve.other W2 (Ne.symm n3)
    have Z2 : n0 ≤ h2.size := Nat.le_trans Z0 (Nat.le_of_eq W2.size.symm)
    have K2 := K0.wr W2 (Or.inl (by simp))
    have F2_v2 : Fld Z h2 a1 "com/example/velar/velar/WeightedDraws" "drawnCount" "I" (.int (0 : Int32)) := F_drawnCount.same W2
    have N2 := Fr.snoc X2 N0 ga
    obtain ⟨fs, hr, hrun, hended, hW, hsame⟩ := X2.leave (v := none) (fun _ => rfl)
    refine ⟨_, _, pre0 _ ?_, hrun, hended, _, _, rfl, ?_, ⟨_, rfl⟩, hW, hsame.mono (by decide) (by decide)⟩
    · show Steps p.tables e below (s₁.setTop (mkF m 0 #[.val (.ref a1), .unset] [])) _
      refine XS.iconst X0.here hx rfl (hb hby d9_0) ?_
      show Steps p.tables e below (s₁.setTop (mkF m 1 #[.val (.ref a1), .unset] [(.int (0 : Int32))])) _
      refine XS.istoreN X0.here hx rfl (hb hby d9_1) rfl (l' := #[.val (.ref a1), .val (.int (0 : Int32))]) rfl ?_
      show Steps p.tables e below (s₁.setTop (mkF m 2 #[.val (.ref a1), .val (.int (0 : Int32))] [])) _
      refine XS.iloadN X0.here hx rfl (hb hby d9_2) rfl ?_
      show Steps p.tables e below (s₁.setTop (mkF m 3 #[.val (.ref a1), .val (.int (0 : Int32))] [(.int (0 : Int32))])) _
      refine XS.aloadN X0.here hx rfl (hb hby d9_3) rfl rfl ?_
      show Steps p.tables e below (s₁.setTop (mkF m 4 #[.val (.ref a1), .val (.int (0 : Int32))] [(.ref a1), (.int (0 : Int32))])) _
      refine st1 _ ?_
      show Steps p.tables e below (T1.setTop (mkF m 7 #[.val (.ref a1), .val (.int (0 : Int32))] [(.int cn), (.int (0 : Int32))])) _
      refine XS.icmpYes X1.here hx rfl (pc0 := 7) (pc' := 32) rfl (hb hby d9_7) rfl (flt ((by rw [hk]; decide) : ¬ ((0 : Int32) < cn))).2.1 (by decide) (by decide) ?_
      show Steps p.tables e below (T1.setTop (mkF m 32 #[.val (.ref a1), .val (.int (0 : Int32))] [])) _
      refine XS.aloadN X1.here hx rfl (hb hby d9_32) rfl rfl ?_
      show Steps p.tables e below (T1.setTop (mkF m 33 #[.val (.ref a1), .val (.int (0 : Int32))] [(.ref a1)])) _
      refine XS.iconst X1.here hx rfl (hb hby d9_33) ?_
      show Steps p.tables e below (T1.setTop (mkF m 34 #[.val (.ref a1), .val (.int (0 : Int32))] [(.int (0 : Int32)), (.ref a1)])) _
      refine st2 _ ?_
      show Steps p.tables e below (T2.setTop (mkF m 37 #[.val (.ref a1), .val (.int (0 : Int32))] [])) _
      exact X2.returnOut hx Bd.returns (hb hby d9_37) hr
    · show Q_rpb Z a1 aS aD aE cn M D X h0 n0 _ T2.heap _
      rw [e2]
      exact ⟨rfl, N2, K2, F_leaves_v2, F_sums_v2, F_drawn_v2, F_drawnWeights_v2, F2_v2, (by rw [own_pb0 hk]; exact Vs_v2)⟩
  · obtain ⟨T3, X3, e3, st3⟩ := getF X0 hx hZ hown (host := "") (Or.inl (hw _ (List.mem_of_getElem? (i := 45) rfl))) Via.refl e0 F_drawnCount (g := (mkF m 4 #[.val (.ref a1), .val (.int (0 : Int32))] [(.ref a1), (.int (0 : Int32))])) rfl rfl (hb hby d9_4)
    obtain ⟨T4, X4, e4, st4⟩ := getF X3 hx hZ hown (host := "") (Or.inl (hw _ (List.mem_of_getElem? (i := 11) rfl))) Via.refl e3 F_drawn (g := (mkF m 12 #[.val (.ref a1), .val (.int (0 : Int32))] [(.ref a1), (.ref a1)])) rfl rfl (hb hby d9_12)
    obtain ⟨cl5, Ar5, S5, H5⟩ := id Vd
    have hin5 : ¬ ((0 : Int32) < 0 ∨ cl5.slots.size ≤ ((0 : Int32)).toNatClampNeg) := inA S5 (by decide) (by decide)
    have hat5 : cl5.slots[((0 : Int32)).toNatClampNeg]? = some (.int (D 0)) := ArF.at S5 H5 hin5 rfl
    obtain ⟨T6, X6, e6, st6⟩ := getF X4 hx hZ hown (host := "") (Or.inl (hw _ (List.mem_of_getElem? (i := 13) rfl))) Via.refl e4 F_drawnWeights (g := (mkF m 18 #[.val (.ref a1), .val (.int (0 : Int32))] [(.ref a1), (.int (D 0)), (.ref a1)])) rfl rfl (hb hby d9_18)
    obtain ⟨cl7, Ar7, S7, H7⟩ := id Ve
    have hin7 : ¬ ((0 : Int32) < 0 ∨ cl7.slots.size ≤ ((0 : Int32)).toNatClampNeg) := inA S7 (by decide) (by decide)
    have hat7 : cl7.slots[((0 : Int32)).toNatClampNeg]? = some (.double (FP.l2d (X 0))) := ArF.at S7 H7 hin7 rfl
    obtain ⟨cq8, qq8, qq8'⟩ := Ex.cell
    obtain ⟨_, _, ⟨T8, L8, k8, n8⟩, -, X8, ⟨Lc8, hQ8, l8, y8, z8⟩, st8⟩ := X6.privateBack hx (y := (⟨"com/example/velar/velar/WeightedDraws", "set", "(ID)V"⟩ : MethodName)) hown (mvT hZ (hw _ (List.mem_of_getElem? (i := 47) rfl))) (mvT hZ (hw _ (List.mem_of_getElem? (i := 48) rfl))) (own_selp (mvT hZ (hw _ (List.mem_of_getElem? (i := 2) rfl))) (Cond.privateMethod_at (mvP hZ (hw _ (List.mem_of_getElem? (i := 49) rfl)) (args := #[]))) (mvT hZ (hw _ (List.mem_of_getElem? (i := 48) rfl))) (by decide)) (Cond.privateMethod_at (mvP hZ (hw _ (List.mem_of_getElem? (i := 49) rfl)) (args := #[]))) (mvT hZ (hw _ (List.mem_of_getElem? (i := 50) rfl))) (by decide) (backOf (W := 0) (rset l Z a0 hw [] a1 (D 0) (X 0) aS M h0 n0 Z0 F_sums Vs gs n1 hM (hX 0) (hD 0 (by rw [hk]; decide))) hZ (hw _ (List.mem_of_getElem? (i := 50) rfl)) (hw _ (List.mem_of_getElem? (i := 3) rfl)) (by decide) (by decide)) (g := (mkF m 23 #[.val (.ref a1), .val (.int (0 : Int32))] [(.double (FP.l2d (X 0))), (.int (D 0)), (.ref a1)])) rfl (by rw [hml]; rfl) (Steps.refl _) (a := a1) (by rw [e6]; exact qq8) qq8' (argsL := [(.int (D 0)), (.double (FP.l2d (X 0)))]) (rest := []) (lenOf pd_1 rfl) rfl (by show 2 * 0 + _ ≤ _; exact Nat.le_of_eq rfl) (hb hby d9_23) (fun _ _ => ⟨rfl, e6, (by decide : 0 + 0 ≤ _), (by decide : 0 + 0 ≤ _)⟩)
    dsimp only [Pt.U, Pt.locs, Pt.cells, Pt.slots] at X8 l8 y8 z8 st8 hQ8
    subst l8 y8 z8
    obtain ⟨rfl, N8q, Kc8, nf8_v8⟩ := hQ8
    have N8 := Fr.app N0 N8q
    have Ex_v8 := Ex.keep Kc8
    have F_leaves_v8 := F_leaves.keep Kc8 (ninS n1 nin0)
    have F_sums_v8 := F_sums.keep Kc8 (ninS n1 nin0)
    have F_drawn_v8 := F_drawn.keep Kc8 (ninS n1 nin0)
    have F_drawnWeights_v8 := F_drawnWeights.keep Kc8 (ninS n1 nin0)
    have F_drawnCount_v8 := F_drawnCount.keep Kc8 (ninS n1 nin0)
    have Vd_v8 := Vd.keep Kc8 (ninS (Ne.symm n4) nin0)
    have Ve_v8 := Ve.keep Kc8 (ninS (Ne.symm n5) nin0)
    have Z8 : n0 ≤ T8.heap.size := Nat.le_trans Z0 Kc8.1
    have KK8 := K0.trans Kc8 (allS (Or.inl (by simp)) all0)
    obtain ⟨T9, X9, e9, st9⟩ := getF X8 hx hZ hown (host := "") (Or.inl (hw _ (List.mem_of_getElem? (i := 45) rfl))) Via.refl rfl F_drawnCount_v8 (g := (mkF m 4 #[.val (.ref a1), .val (.int (1 : Int32))] [(.ref a1), (.int (1 : Int32))])) rfl rfl (hb hby d9_4)
    obtain ⟨T10, h10, X10, e10, W10, st10⟩ := putF X9 hx hZ hown (host := "") (Or.inl (hw _ (List.mem_of_getElem? (i := 45) rfl))) Via.refl e9 F_drawnCount_v8 Ex_v8 (Or.inl (hw _ (List.mem_of_getElem? (i := 46) rfl))) (hw _ (List.mem_of_getElem? (i := 2) rfl)) (ty := .int) (by decide) rfl rfl (g := (mkF m 34 #[.val (.ref a1), .val (.int (1 : Int32))] [(.int (0 : Int32)), (.ref a1)])) rfl rfl (hb hby d9_34)
    have Ex_v10 := Ex_v8.wr W10
    have F_leaves_v10 := F_leaves_v8.other W10 (Or.inr (slot_ne (Or.inr (hw _ (List.mem_of_getElem? (i := 25) rfl))) (Or.inl (hw _ (List.mem_of_getElem? (i := 46) rfl))) (by decide) (t := .int) (t' := .int) (by decide) (by decide)))
    have F_sums_v10 := F_sums_v8.other W10 (Or.inr (slot_ne (Or.inr (hw _ (List.mem_of_getElem? (i := 27) rfl))) (Or.inl (hw _ (List.mem_of_getElem? (i := 46) rfl))) (by decide) (t := (.array .double)) (t' := .int) (by decide) (by decide)))
    have F_drawn_v10 := F_drawn_v8.other W10 (Or.inr (slot_ne (Or.inl (hw _ (List.mem_of_getElem? (i := 12) rfl))) (Or.inl (hw _ (List.mem_of_getElem? (i := 46) rfl))) (by decide) (t := (.array .int)) (t' := .int) (by decide) (by decide)))
    have F_drawnWeights_v10 := F_drawnWeights_v8.other W10 (Or.inr (slot_ne (Or.inl (hw _ (List.mem_of_getElem? (i := 14) rfl))) (Or.inl (hw _ (List.mem_of_getElem? (i := 46) rfl))) (by decide) (t := (.array .double)) (t' := .int) (by decide) (by decide)))
    have Vd_v10 := Vd_v8.other W10 (Ne.symm n2)
    have Ve_v10 := Ve_v8.other W10 (Ne.symm n3)
    have nf8_v10 := nf8_v8.other W10 (Ne.symm n1)
    have Z10 : n0 ≤ h10.size := Nat.le_trans Z8 (Nat.le_of_eq W10.size.symm)
    have K10 := KK8.wr W10 (Or.inl (by simp))
    have F10_v10 : Fld Z h10 a1 "com/example/velar/velar/WeightedDraws" "drawnCount" "I" (.int (0 : Int32)) := F_drawnCount_v8.same W10
    have N10 := Fr.snoc X10 N8 ga
    obtain ⟨fs, hr, hrun, hended, hW, hsame⟩ := X10.leave (v := none) (fun _ => rfl)
    refine ⟨_, _, pre0 _ ?_, hrun, hended, _, _, rfl, ?_, ⟨_, rfl⟩, hW, hsame.mono (by decide) (by decide)⟩
    · show Steps p.tables e below (s₁.setTop (mkF m 0 #[.val (.ref a1), .unset] [])) _
      refine XS.iconst X0.here hx rfl (hb hby d9_0) ?_
      show Steps p.tables e below (s₁.setTop (mkF m 1 #[.val (.ref a1), .unset] [(.int (0 : Int32))])) _
      refine XS.istoreN X0.here hx rfl (hb hby d9_1) rfl (l' := #[.val (.ref a1), .val (.int (0 : Int32))]) rfl ?_
      show Steps p.tables e below (s₁.setTop (mkF m 2 #[.val (.ref a1), .val (.int (0 : Int32))] [])) _
      refine XS.iloadN X0.here hx rfl (hb hby d9_2) rfl ?_
      show Steps p.tables e below (s₁.setTop (mkF m 3 #[.val (.ref a1), .val (.int (0 : Int32))] [(.int (0 : Int32))])) _
      refine XS.aloadN X0.here hx rfl (hb hby d9_3) rfl rfl ?_
      show Steps p.tables e below (s₁.setTop (mkF m 4 #[.val (.ref a1), .val (.int (0 : Int32))] [(.ref a1), (.int (0 : Int32))])) _
      refine st3 _ ?_
      show Steps p.tables e below (T3.setTop (mkF m 7 #[.val (.ref a1), .val (.int (0 : Int32))] [(.int cn), (.int (0 : Int32))])) _
      refine XS.icmpNo X3.here hx rfl (hb hby d9_7) rfl (tlt ((by rw [hk]; decide) : ((0 : Int32) < cn))).2.1 ?_
      show Steps p.tables e below (T3.setTop (mkF m 10 #[.val (.ref a1), .val (.int (0 : Int32))] [])) _
      refine XS.aloadN X3.here hx rfl (hb hby d9_10) rfl rfl ?_
      show Steps p.tables e below (T3.setTop (mkF m 11 #[.val (.ref a1), .val (.int (0 : Int32))] [(.ref a1)])) _
      refine XS.aloadN X3.here hx rfl (hb hby d9_11) rfl rfl ?_
      show Steps p.tables e below (T3.setTop (mkF m 12 #[.val (.ref a1), .val (.int (0 : Int32))] [(.ref a1), (.ref a1)])) _
      refine st4 _ ?_
      show Steps p.tables e below (T4.setTop (mkF m 15 #[.val (.ref a1), .val (.int (0 : Int32))] [(.ref aD), (.ref a1)])) _
      refine XS.iloadN X4.here hx rfl (hb hby d9_15) rfl ?_
      show Steps p.tables e below (T4.setTop (mkF m 16 #[.val (.ref a1), .val (.int (0 : Int32))] [(.int (0 : Int32)), (.ref aD), (.ref a1)])) _
      refine X4.iaload hx (j := (0 : Int32)) (v := (.int (D 0))) (by rw [e4]; exact Ar5.1) (State.isArrayOf_alike hZ.alike Ar5.2.1) Ar5.2.2 hin5 hat5 (g := (mkF m 16 #[.val (.ref a1), .val (.int (0 : Int32))] [(.int (0 : Int32)), (.ref aD), (.ref a1)])) rfl rfl (hb hby d9_16) _ ?_
      show Steps p.tables e below (T4.setTop (mkF m 17 #[.val (.ref a1), .val (.int (0 : Int32))] [(.int (D 0)), (.ref a1)])) _
      refine XS.aloadN X4.here hx rfl (hb hby d9_17) rfl rfl ?_
      show Steps p.tables e below (T4.setTop (mkF m 18 #[.val (.ref a1), .val (.int (0 : Int32))] [(.ref a1), (.int (D 0)), (.ref a1)])) _
      refine st6 _ ?_
      show Steps p.tables e below (T6.setTop (mkF m 21 #[.val (.ref a1), .val (.int (0 : Int32))] [(.ref aE), (.int (D 0)), (.ref a1)])) _
      refine XS.iloadN X6.here hx rfl (hb hby d9_21) rfl ?_
      show Steps p.tables e below (T6.setTop (mkF m 22 #[.val (.ref a1), .val (.int (0 : Int32))] [(.int (0 : Int32)), (.ref aE), (.int (D 0)), (.ref a1)])) _
      refine X6.daload hx (j := (0 : Int32)) (v := (.double (FP.l2d (X 0)))) (by rw [e6]; exact Ar7.1) (State.isArrayOf_alike hZ.alike Ar7.2.1) Ar7.2.2 hin7 hat7 (g := (mkF m 22 #[.val (.ref a1), .val (.int (0 : Int32))] [(.int (0 : Int32)), (.ref aE), (.int (D 0)), (.ref a1)])) rfl rfl (hb hby d9_22) _ ?_
      show Steps p.tables e below (T6.setTop (mkF m 23 #[.val (.ref a1), .val (.int (0 : Int32))] [(.double (FP.l2d (X 0))), (.int (D 0)), (.ref a1)])) _
      refine st8.trans ?_
      show Steps p.tables e below (T8.setTop (mkF m 26 #[.val (.ref a1), .val (.int (0 : Int32))] [])) _
      refine XS.iinc X8.here hx rfl (hb hby d9_26) rfl (l' := #[.val (.ref a1), .val (.int (1 : Int32))]) rfl ?_
      show Steps p.tables e below (T8.setTop (mkF m 29 #[.val (.ref a1), .val (.int (1 : Int32))] [])) _
      refine XS.goto X8.here hx rfl (pc0 := 29) (pc' := 2) rfl (hb hby d9_29) (by decide) (by decide) ?_
      show Steps p.tables e below (T8.setTop (mkF m 2 #[.val (.ref a1), .val (.int (1 : Int32))] [])) _
      refine XS.iloadN X8.here hx rfl (hb hby d9_2) rfl ?_
      show Steps p.tables e below (T8.setTop (mkF m 3 #[.val (.ref a1), .val (.int (1 : Int32))] [(.int (1 : Int32))])) _
      refine XS.aloadN X8.here hx rfl (hb hby d9_3) rfl rfl ?_
      show Steps p.tables e below (T8.setTop (mkF m 4 #[.val (.ref a1), .val (.int (1 : Int32))] [(.ref a1), (.int (1 : Int32))])) _
      refine st9 _ ?_
      show Steps p.tables e below (T9.setTop (mkF m 7 #[.val (.ref a1), .val (.int (1 : Int32))] [(.int cn), (.int (1 : Int32))])) _
      refine XS.icmpYes X9.here hx rfl (pc0 := 7) (pc' := 32) rfl (hb hby d9_7) rfl (flt ((by rw [hk]; decide) : ¬ ((1 : Int32) < cn))).2.1 (by decide) (by decide) ?_
      show Steps p.tables e below (T9.setTop (mkF m 32 #[.val (.ref a1), .val (.int (1 : Int32))] [])) _
      refine XS.aloadN X9.here hx rfl (hb hby d9_32) rfl rfl ?_
      show Steps p.tables e below (T9.setTop (mkF m 33 #[.val (.ref a1), .val (.int (1 : Int32))] [(.ref a1)])) _
      refine XS.iconst X9.here hx rfl (hb hby d9_33) ?_
      show Steps p.tables e below (T9.setTop (mkF m 34 #[.val (.ref a1), .val (.int (1 : Int32))] [(.int (0 : Int32)), (.ref a1)])) _
      refine st10 _ ?_
      show Steps p.tables e below (T10.setTop (mkF m 37 #[.val (.ref a1), .val (.int (1 : Int32))] [])) _
      exact X10.returnOut hx Bd.returns (hb hby d9_37) hr
    · show Q_rpb Z a1 aS aD aE cn M D X h0 n0 _ T10.heap _
      rw [e10]
      exact ⟨rfl, N10, K10, F_leaves_v10, F_sums_v10, F_drawn_v10, F_drawnWeights_v10, F10_v10, (by rw [own_pb1 hk]; exact nf8_v10)⟩
  · obtain ⟨T11, X11, e11, st11⟩ := getF X0 hx hZ hown (host := "") (Or.inl (hw _ (List.mem_of_getElem? (i := 45) rfl))) Via.refl e0 F_drawnCount (g := (mkF m 4 #[.val (.ref a1), .val (.int (0 : Int32))] [(.ref a1), (.int (0 : Int32))])) rfl rfl (hb hby d9_4)
    obtain ⟨T12, X12, e12, st12⟩ := getF X11 hx hZ hown (host := "") (Or.inl (hw _ (List.mem_of_getElem? (i := 11) rfl))) Via.refl e11 F_drawn (g := (mkF m 12 #[.val (.ref a1), .val (.int (0 : Int32))] [(.ref a1), (.ref a1)])) rfl rfl (hb hby d9_12)
    obtain ⟨cl13, Ar13, S13, H13⟩ := id Vd
    have hin13 : ¬ ((0 : Int32) < 0 ∨ cl13.slots.size ≤ ((0 : Int32)).toNatClampNeg) := inA S13 (by decide) (by decide)
    have hat13 : cl13.slots[((0 : Int32)).toNatClampNeg]? = some (.int (D 0)) := ArF.at S13 H13 hin13 rfl
    obtain ⟨T14, X14, e14, st14⟩ := getF X12 hx hZ hown (host := "") (Or.inl (hw _ (List.mem_of_getElem? (i := 13) rfl))) Via.refl e12 F_drawnWeights (g := (mkF m 18 #[.val (.ref a1), .val (.int (0 : Int32))] [(.ref a1), (.int (D 0)), (.ref a1)])) rfl rfl (hb hby d9_18)
    obtain ⟨cl15, Ar15, S15, H15⟩ := id Ve
    have hin15 : ¬ ((0 : Int32) < 0 ∨ cl15.slots.size ≤ ((0 : Int32)).toNatClampNeg) := inA S15 (by decide) (by decide)
    have hat15 : cl15.slots[((0 : Int32)).toNatClampNeg]? = some (.double (FP.l2d (X 0))) := ArF.at S15 H15 hin15 rfl
    obtain ⟨cq16, qq16, qq16'⟩ := Ex.cell
    obtain ⟨_, _, ⟨T16, L16, k16, n16⟩, -, X16, ⟨Lc16, hQ16, l16, y16, z16⟩, st16⟩ := X14.privateBack hx (y := (⟨"com/example/velar/velar/WeightedDraws", "set", "(ID)V"⟩ : MethodName)) hown (mvT hZ (hw _ (List.mem_of_getElem? (i := 47) rfl))) (mvT hZ (hw _ (List.mem_of_getElem? (i := 48) rfl))) (own_selp (mvT hZ (hw _ (List.mem_of_getElem? (i := 2) rfl))) (Cond.privateMethod_at (mvP hZ (hw _ (List.mem_of_getElem? (i := 49) rfl)) (args := #[]))) (mvT hZ (hw _ (List.mem_of_getElem? (i := 48) rfl))) (by decide)) (Cond.privateMethod_at (mvP hZ (hw _ (List.mem_of_getElem? (i := 49) rfl)) (args := #[]))) (mvT hZ (hw _ (List.mem_of_getElem? (i := 50) rfl))) (by decide) (backOf (W := 0) (rset l Z a0 hw [] a1 (D 0) (X 0) aS M h0 n0 Z0 F_sums Vs gs n1 hM (hX 0) (hD 0 (by rw [hk]; decide))) hZ (hw _ (List.mem_of_getElem? (i := 50) rfl)) (hw _ (List.mem_of_getElem? (i := 3) rfl)) (by decide) (by decide)) (g := (mkF m 23 #[.val (.ref a1), .val (.int (0 : Int32))] [(.double (FP.l2d (X 0))), (.int (D 0)), (.ref a1)])) rfl (by rw [hml]; rfl) (Steps.refl _) (a := a1) (by rw [e14]; exact qq16) qq16' (argsL := [(.int (D 0)), (.double (FP.l2d (X 0)))]) (rest := []) (lenOf pd_1 rfl) rfl (by show 2 * 0 + _ ≤ _; exact Nat.le_of_eq rfl) (hb hby d9_23) (fun _ _ => ⟨rfl, e14, (by decide : 0 + 0 ≤ _), (by decide : 0 + 0 ≤ _)⟩)
    dsimp only [Pt.U, Pt.locs, Pt.cells, Pt.slots] at X16 l16 y16 z16 st16 hQ16
    subst l16 y16 z16
    obtain ⟨rfl, N16q, Kc16, nf16_v16⟩ := hQ16
    have N16 := Fr.app N0 N16q
    have Ex_v16 := Ex.keep Kc16
    have F_leaves_v16 := F_leaves.keep Kc16 (ninS n1 nin0)
    have F_sums_v16 := F_sums.keep Kc16 (ninS n1 nin0)
    have F_drawn_v16 := F_drawn.keep Kc16 (ninS n1 nin0)
    have F_drawnWeights_v16 := F_drawnWeights.keep Kc16 (ninS n1 nin0)
    have F_drawnCount_v16 := F_drawnCount.keep Kc16 (ninS n1 nin0)
    have Vd_v16 := Vd.keep Kc16 (ninS (Ne.symm n4) nin0)
    have Ve_v16 := Ve.keep Kc16 (ninS (Ne.symm n5) nin0)
    have Z16 : n0 ≤ T16.heap.size := Nat.le_trans Z0 Kc16.1
    have KK16 := K0.trans Kc16 (allS (Or.inl (by simp)) all0)
    obtain ⟨T17, X17, e17, st17⟩ := getF X16 hx hZ hown (host := "") (Or.inl (hw _ (List.mem_of_getElem? (i := 45) rfl))) Via.refl rfl F_drawnCount_v16 (g := (mkF m 4 #[.val (.ref a1), .val (.int (1 : Int32))] [(.ref a1), (.int (1 : Int32))])) rfl rfl (hb hby d9_4)
    obtain ⟨T18, X18, e18, st18⟩ := getF X17 hx hZ hown (host := "") (Or.inl (hw _ (List.mem_of_getElem? (i := 11) rfl))) Via.refl e17 F_drawn_v16 (g := (mkF m 12 #[.val (.ref a1), .val (.int (1 : Int32))] [(.ref a1), (.ref a1)])) rfl rfl (hb hby d9_12)
    obtain ⟨cl19, Ar19, S19, H19⟩ := id Vd_v16
    have hin19 : ¬ ((1 : Int32) < 0 ∨ cl19.slots.size ≤ ((1 : Int32)).toNatClampNeg) := inA S19 (by decide) (by decide)
    have hat19 : cl19.slots[((1 : Int32)).toNatClampNeg]? = some (.int (D 1)) := ArF.at S19 H19 hin19 rfl
    obtain ⟨T20, X20, e20, st20⟩ := getF X18 hx hZ hown (host := "") (Or.inl (hw _ (List.mem_of_getElem? (i := 13) rfl))) Via.refl e18 F_drawnWeights_v16 (g := (mkF m 18 #[.val (.ref a1), .val (.int (1 : Int32))] [(.ref a1), (.int (D 1)), (.ref a1)])) rfl rfl (hb hby d9_18)
    obtain ⟨cl21, Ar21, S21, H21⟩ := id Ve_v16
    have hin21 : ¬ ((1 : Int32) < 0 ∨ cl21.slots.size ≤ ((1 : Int32)).toNatClampNeg) := inA S21 (by decide) (by decide)
    have hat21 : cl21.slots[((1 : Int32)).toNatClampNeg]? = some (.double (FP.l2d (X 1))) := ArF.at S21 H21 hin21 rfl
    obtain ⟨cq22, qq22, qq22'⟩ := Ex_v16.cell
    obtain ⟨_, _, ⟨T22, L22, k22, n22⟩, -, X22, ⟨Lc22, hQ22, l22, y22, z22⟩, st22⟩ := X20.privateBack hx (y := (⟨"com/example/velar/velar/WeightedDraws", "set", "(ID)V"⟩ : MethodName)) hown (mvT hZ (hw _ (List.mem_of_getElem? (i := 47) rfl))) (mvT hZ (hw _ (List.mem_of_getElem? (i := 48) rfl))) (own_selp (mvT hZ (hw _ (List.mem_of_getElem? (i := 2) rfl))) (Cond.privateMethod_at (mvP hZ (hw _ (List.mem_of_getElem? (i := 49) rfl)) (args := #[]))) (mvT hZ (hw _ (List.mem_of_getElem? (i := 48) rfl))) (by decide)) (Cond.privateMethod_at (mvP hZ (hw _ (List.mem_of_getElem? (i := 49) rfl)) (args := #[]))) (mvT hZ (hw _ (List.mem_of_getElem? (i := 50) rfl))) (by decide) (backOf (W := 0) (rset l Z a0 hw [] a1 (D 1) (X 1) aS (own_up M (D 0) (X 0)) T16.heap n0 Z16 F_sums_v16 nf16_v16 gs n1 (own_bdup hM (hX 0)) (hX 1) (hD 1 (by rw [hk]; decide))) hZ (hw _ (List.mem_of_getElem? (i := 50) rfl)) (hw _ (List.mem_of_getElem? (i := 3) rfl)) (by decide) (by decide)) (g := (mkF m 23 #[.val (.ref a1), .val (.int (1 : Int32))] [(.double (FP.l2d (X 1))), (.int (D 1)), (.ref a1)])) rfl (by rw [hml]; rfl) (Steps.refl _) (a := a1) (by rw [e20]; exact qq22) qq22' (argsL := [(.int (D 1)), (.double (FP.l2d (X 1)))]) (rest := []) (lenOf pd_1 rfl) rfl (by show 2 * 0 + _ ≤ _; exact Nat.le_of_eq rfl) (hb hby d9_23) (fun _ _ => ⟨rfl, e20, (by decide : 0 + 0 ≤ _), (by decide : 0 + 0 ≤ _)⟩)
    dsimp only [Pt.U, Pt.locs, Pt.cells, Pt.slots] at X22 l22 y22 z22 st22 hQ22
    subst l22 y22 z22
    obtain ⟨rfl, N22q, Kc22, nf22_v22⟩ := hQ22
    have N22 := Fr.app N16 N22q
    have Ex_v22 := Ex_v16.keep Kc22
    have F_leaves_v22 := F_leaves_v16.keep Kc22 (ninS n1 nin0)
    have F_sums_v22 := F_sums_v16.keep Kc22 (ninS n1 nin0)
    have F_drawn_v22 := F_drawn_v16.keep Kc22 (ninS n1 nin0)
    have F_drawnWeights_v22 := F_drawnWeights_v16.keep Kc22 (ninS n1 nin0)
    have F_drawnCount_v22 := F_drawnCount_v16.keep Kc22 (ninS n1 nin0)
    have Vd_v22 := Vd_v16.keep Kc22 (ninS (Ne.symm n4) nin0)
    have Ve_v22 := Ve_v16.keep Kc22 (ninS (Ne.symm n5) nin0)
    have Z22 : n0 ≤ T22.heap.size := Nat.le_trans Z16 Kc22.1
    have KK22 := KK16.trans Kc22 (allS (Or.inl (by simp)) all0)
    obtain ⟨T23, X23, e23, st23⟩ := getF X22 hx hZ hown (host := "") (Or.inl (hw _ (List.mem_of_getElem? (i := 45) rfl))) Via.refl rfl F_drawnCount_v22 (g := (mkF m 4 #[.val (.ref a1), .val (.int (2 : Int32))] [(.ref a1), (.int (2 : Int32))])) rfl rfl (hb hby d9_4)
    obtain ⟨T24, h24, X24, e24, W24, st24⟩ := putF X23 hx hZ hown (host := "") (Or.inl (hw _ (List.mem_of_getElem? (i := 45) rfl))) Via.refl e23 F_drawnCount_v22 Ex_v22 (Or.inl (hw _ (List.mem_of_getElem? (i := 46) rfl))) (hw _ (List.mem_of_getElem? (i := 2) rfl)) (ty := .int) (by decide) rfl rfl (g := (mkF m 34 #[.val (.ref a1), .val (.int (2 : Int32))] [(.int (0 : Int32)), (.ref a1)])) rfl rfl (hb hby d9_34)
    have Ex_v24 := Ex_v22.wr W24
    have F_leaves_v24 := F_leaves_v22.other W24 (Or.inr (slot_ne (Or.inr (hw _ (List.mem_of_getElem? (i := 25) rfl))) (Or.inl (hw _ (List.mem_of_getElem? (i := 46) rfl))) (by decide) (t := .int) (t' := .int) (by decide) (by decide)))
    have F_sums_v24 := F_sums_v22.other W24 (Or.inr (slot_ne (Or.inr (hw _ (List.mem_of_getElem? (i := 27) rfl))) (Or.inl (hw _ (List.mem_of_getElem? (i := 46) rfl))) (by decide) (t := (.array .double)) (t' := .int) (by decide) (by decide)))
    have F_drawn_v24 := F_drawn_v22.other W24 (Or.inr (slot_ne (Or.inl (hw _ (List.mem_of_getElem? (i := 12) rfl))) (Or.inl (hw _ (List.mem_of_getElem? (i := 46) rfl))) (by decide) (t := (.array .int)) (t' := .int) (by decide) (by decide)))
    have F_drawnWeights_v24 := F_drawnWeights_v22.other W24 (Or.inr (slot_ne (Or.inl (hw _ (List.mem_of_getElem? (i := 14) rfl))) (Or.inl (hw _ (List.mem_of_getElem? (i := 46) rfl))) (by decide) (t := (.array .double)) (t' := .int) (by decide) (by decide)))
    have Vd_v24 := Vd_v22.other W24 (Ne.symm n2)
    have Ve_v24 := Ve_v22.other W24 (Ne.symm n3)
    have nf22_v24 := nf22_v22.other W24 (Ne.symm n1)
    have Z24 : n0 ≤ h24.size := Nat.le_trans Z22 (Nat.le_of_eq W24.size.symm)
    have K24 := KK22.wr W24 (Or.inl (by simp))
    have F24_v24 : Fld Z h24 a1 "com/example/velar/velar/WeightedDraws" "drawnCount" "I" (.int (0 : Int32)) := F_drawnCount_v22.same W24
    have N24 := Fr.snoc X24 N22 ga
    obtain ⟨fs, hr, hrun, hended, hW, hsame⟩ := X24.leave (v := none) (fun _ => rfl)
    refine ⟨_, _, pre0 _ ?_, hrun, hended, _, _, rfl, ?_, ⟨_, rfl⟩, hW, hsame.mono (by decide) (by decide)⟩
    · show Steps p.tables e below (s₁.setTop (mkF m 0 #[.val (.ref a1), .unset] [])) _
      refine XS.iconst X0.here hx rfl (hb hby d9_0) ?_
      show Steps p.tables e below (s₁.setTop (mkF m 1 #[.val (.ref a1), .unset] [(.int (0 : Int32))])) _
      refine XS.istoreN X0.here hx rfl (hb hby d9_1) rfl (l' := #[.val (.ref a1), .val (.int (0 : Int32))]) rfl ?_
      show Steps p.tables e below (s₁.setTop (mkF m 2 #[.val (.ref a1), .val (.int (0 : Int32))] [])) _
      refine XS.iloadN X0.here hx rfl (hb hby d9_2) rfl ?_
      show Steps p.tables e below (s₁.setTop (mkF m 3 #[.val (.ref a1), .val (.int (0 : Int32))] [(.int (0 : Int32))])) _
      refine XS.aloadN X0.here hx rfl (hb hby d9_3) rfl rfl ?_
      show Steps p.tables e below (s₁.setTop (mkF m 4 #[.val (.ref a1), .val (.int (0 : Int32))] [(.ref a1), (.int (0 : Int32))])) _
      refine st11 _ ?_
      show Steps p.tables e below (T11.setTop (mkF m 7 #[.val (.ref a1), .val (.int (0 : Int32))] [(.int cn), (.int (0 : Int32))])) _
      refine XS.icmpNo X11.here hx rfl (hb hby d9_7) rfl (tlt ((by rw [hk]; decide) : ((0 : Int32) < cn))).2.1 ?_
      show Steps p.tables e below (T11.setTop (mkF m 10 #[.val (.ref a1), .val (.int (0 : Int32))] [])) _
      refine XS.aloadN X11.here hx rfl (hb hby d9_10) rfl rfl ?_
      show Steps p.tables e below (T11.setTop (mkF m 11 #[.val (.ref a1), .val (.int (0 : Int32))] [(.ref a1)])) _
      refine XS.aloadN X11.here hx rfl (hb hby d9_11) rfl rfl ?_
      show Steps p.tables e below (T11.setTop (mkF m 12 #[.val (.ref a1), .val (.int (0 : Int32))] [(.ref a1), (.ref a1)])) _
      refine st12 _ ?_
      show Steps p.tables e below (T12.setTop (mkF m 15 #[.val (.ref a1), .val (.int (0 : Int32))] [(.ref aD), (.ref a1)])) _
      refine XS.iloadN X12.here hx rfl (hb hby d9_15) rfl ?_
      show Steps p.tables e below (T12.setTop (mkF m 16 #[.val (.ref a1), .val (.int (0 : Int32))] [(.int (0 : Int32)), (.ref aD), (.ref a1)])) _
      refine X12.iaload hx (j := (0 : Int32)) (v := (.int (D 0))) (by rw [e12]; exact Ar13.1) (State.isArrayOf_alike hZ.alike Ar13.2.1) Ar13.2.2 hin13 hat13 (g := (mkF m 16 #[.val (.ref a1), .val (.int (0 : Int32))] [(.int (0 : Int32)), (.ref aD), (.ref a1)])) rfl rfl (hb hby d9_16) _ ?_
      show Steps p.tables e below (T12.setTop (mkF m 17 #[.val (.ref a1), .val (.int (0 : Int32))] [(.int (D 0)), (.ref a1)])) _
      refine XS.aloadN X12.here hx rfl (hb hby d9_17) rfl rfl ?_
      show Steps p.tables e below (T12.setTop (mkF m 18 #[.val (.ref a1), .val (.int (0 : Int32))] [(.ref a1), (.int (D 0)), (.ref a1)])) _
      refine st14 _ ?_
      show Steps p.tables e below (T14.setTop (mkF m 21 #[.val (.ref a1), .val (.int (0 : Int32))] [(.ref aE), (.int (D 0)), (.ref a1)])) _
      refine XS.iloadN X14.here hx rfl (hb hby d9_21) rfl ?_
      show Steps p.tables e below (T14.setTop (mkF m 22 #[.val (.ref a1), .val (.int (0 : Int32))] [(.int (0 : Int32)), (.ref aE), (.int (D 0)), (.ref a1)])) _
      refine X14.daload hx (j := (0 : Int32)) (v := (.double (FP.l2d (X 0)))) (by rw [e14]; exact Ar15.1) (State.isArrayOf_alike hZ.alike Ar15.2.1) Ar15.2.2 hin15 hat15 (g := (mkF m 22 #[.val (.ref a1), .val (.int (0 : Int32))] [(.int (0 : Int32)), (.ref aE), (.int (D 0)), (.ref a1)])) rfl rfl (hb hby d9_22) _ ?_
      show Steps p.tables e below (T14.setTop (mkF m 23 #[.val (.ref a1), .val (.int (0 : Int32))] [(.double (FP.l2d (X 0))), (.int (D 0)), (.ref a1)])) _
      refine st16.trans ?_
      show Steps p.tables e below (T16.setTop (mkF m 26 #[.val (.ref a1), .val (.int (0 : Int32))] [])) _
      refine XS.iinc X16.here hx rfl (hb hby d9_26) rfl (l' := #[.val (.ref a1), .val (.int (1 : Int32))]) rfl ?_
      show Steps p.tables e below (T16.setTop (mkF m 29 #[.val (.ref a1), .val (.int (1 : Int32))] [])) _
      refine XS.goto X16.here hx rfl (pc0 := 29) (pc' := 2) rfl (hb hby d9_29) (by decide) (by decide) ?_
      show Steps p.tables e below (T16.setTop (mkF m 2 #[.val (.ref a1), .val (.int (1 : Int32))] [])) _
      refine XS.iloadN X16.here hx rfl (hb hby d9_2) rfl ?_
      show Steps p.tables e below (T16.setTop (mkF m 3 #[.val (.ref a1), .val (.int (1 : Int32))] [(.int (1 : Int32))])) _
      refine XS.aloadN X16.here hx rfl (hb hby d9_3) rfl rfl ?_
      show Steps p.tables e below (T16.setTop (mkF m 4 #[.val (.ref a1), .val (.int (1 : Int32))] [(.ref a1), (.int (1 : Int32))])) _
      refine st17 _ ?_
      show Steps p.tables e below (T17.setTop (mkF m 7 #[.val (.ref a1), .val (.int (1 : Int32))] [(.int cn), (.int (1 : Int32))])) _
      refine XS.icmpNo X17.here hx rfl (hb hby d9_7) rfl (tlt ((by rw [hk]; decide) : ((1 : Int32) < cn))).2.1 ?_
      show Steps p.tables e below (T17.setTop (mkF m 10 #[.val (.ref a1), .val (.int (1 : Int32))] [])) _
      refine XS.aloadN X17.here hx rfl (hb hby d9_10) rfl rfl ?_
      show Steps p.tables e below (T17.setTop (mkF m 11 #[.val (.ref a1), .val (.int (1 : Int32))] [(.ref a1)])) _
      refine XS.aloadN X17.here hx rfl (hb hby d9_11) rfl rfl ?_
      show Steps p.tables e below (T17.setTop (mkF m 12 #[.val (.ref a1), .val (.int (1 : Int32))] [(.ref a1), (.ref a1)])) _
      refine st18 _ ?_
      show Steps p.tables e below (T18.setTop (mkF m 15 #[.val (.ref a1), .val (.int (1 : Int32))] [(.ref aD), (.ref a1)])) _
      refine XS.iloadN X18.here hx rfl (hb hby d9_15) rfl ?_
      show Steps p.tables e below (T18.setTop (mkF m 16 #[.val (.ref a1), .val (.int (1 : Int32))] [(.int (1 : Int32)), (.ref aD), (.ref a1)])) _
      refine X18.iaload hx (j := (1 : Int32)) (v := (.int (D 1))) (by rw [e18]; exact Ar19.1) (State.isArrayOf_alike hZ.alike Ar19.2.1) Ar19.2.2 hin19 hat19 (g := (mkF m 16 #[.val (.ref a1), .val (.int (1 : Int32))] [(.int (1 : Int32)), (.ref aD), (.ref a1)])) rfl rfl (hb hby d9_16) _ ?_
      show Steps p.tables e below (T18.setTop (mkF m 17 #[.val (.ref a1), .val (.int (1 : Int32))] [(.int (D 1)), (.ref a1)])) _
      refine XS.aloadN X18.here hx rfl (hb hby d9_17) rfl rfl ?_
      show Steps p.tables e below (T18.setTop (mkF m 18 #[.val (.ref a1), .val (.int (1 : Int32))] [(.ref a1), (.int (D 1)), (.ref a1)])) _
      refine st20 _ ?_
      show Steps p.tables e below (T20.setTop (mkF m 21 #[.val (.ref a1), .val (.int (1 : Int32))] [(.ref aE), (.int (D 1)), (.ref a1)])) _
      refine XS.iloadN X20.here hx rfl (hb hby d9_21) rfl ?_
      show Steps p.tables e below (T20.setTop (mkF m 22 #[.val (.ref a1), .val (.int (1 : Int32))] [(.int (1 : Int32)), (.ref aE), (.int (D 1)), (.ref a1)])) _
      refine X20.daload hx (j := (1 : Int32)) (v := (.double (FP.l2d (X 1)))) (by rw [e20]; exact Ar21.1) (State.isArrayOf_alike hZ.alike Ar21.2.1) Ar21.2.2 hin21 hat21 (g := (mkF m 22 #[.val (.ref a1), .val (.int (1 : Int32))] [(.int (1 : Int32)), (.ref aE), (.int (D 1)), (.ref a1)])) rfl rfl (hb hby d9_22) _ ?_
      show Steps p.tables e below (T20.setTop (mkF m 23 #[.val (.ref a1), .val (.int (1 : Int32))] [(.double (FP.l2d (X 1))), (.int (D 1)), (.ref a1)])) _
      refine st22.trans ?_
      show Steps p.tables e below (T22.setTop (mkF m 26 #[.val (.ref a1), .val (.int (1 : Int32))] [])) _
      refine XS.iinc X22.here hx rfl (hb hby d9_26) rfl (l' := #[.val (.ref a1), .val (.int (2 : Int32))]) rfl ?_
      show Steps p.tables e below (T22.setTop (mkF m 29 #[.val (.ref a1), .val (.int (2 : Int32))] [])) _
      refine XS.goto X22.here hx rfl (pc0 := 29) (pc' := 2) rfl (hb hby d9_29) (by decide) (by decide) ?_
      show Steps p.tables e below (T22.setTop (mkF m 2 #[.val (.ref a1), .val (.int (2 : Int32))] [])) _
      refine XS.iloadN X22.here hx rfl (hb hby d9_2) rfl ?_
      show Steps p.tables e below (T22.setTop (mkF m 3 #[.val (.ref a1), .val (.int (2 : Int32))] [(.int (2 : Int32))])) _
      refine XS.aloadN X22.here hx rfl (hb hby d9_3) rfl rfl ?_
      show Steps p.tables e below (T22.setTop (mkF m 4 #[.val (.ref a1), .val (.int (2 : Int32))] [(.ref a1), (.int (2 : Int32))])) _
      refine st23 _ ?_
      show Steps p.tables e below (T23.setTop (mkF m 7 #[.val (.ref a1), .val (.int (2 : Int32))] [(.int cn), (.int (2 : Int32))])) _
      refine XS.icmpYes X23.here hx rfl (pc0 := 7) (pc' := 32) rfl (hb hby d9_7) rfl (flt ((by rw [hk]; decide) : ¬ ((2 : Int32) < cn))).2.1 (by decide) (by decide) ?_
      show Steps p.tables e below (T23.setTop (mkF m 32 #[.val (.ref a1), .val (.int (2 : Int32))] [])) _
      refine XS.aloadN X23.here hx rfl (hb hby d9_32) rfl rfl ?_
      show Steps p.tables e below (T23.setTop (mkF m 33 #[.val (.ref a1), .val (.int (2 : Int32))] [(.ref a1)])) _
      refine XS.iconst X23.here hx rfl (hb hby d9_33) ?_
      show Steps p.tables e below (T23.setTop (mkF m 34 #[.val (.ref a1), .val (.int (2 : Int32))] [(.int (0 : Int32)), (.ref a1)])) _
      refine st24 _ ?_
      show Steps p.tables e below (T24.setTop (mkF m 37 #[.val (.ref a1), .val (.int (2 : Int32))] [])) _
      exact X24.returnOut hx Bd.returns (hb hby d9_37) hr
    · show Q_rpb Z a1 aS aD aE cn M D X h0 n0 _ T24.heap _
      rw [e24]
      exact ⟨rfl, N24, K24, F_leaves_v24, F_sums_v24, F_drawn_v24, F_drawnWeights_v24, F24_v24, (by rw [own_pb2 hk]; exact nf22_v24)⟩
  · obtain ⟨T25, X25, e25, st25⟩ := getF X0 hx hZ hown (host := "") (Or.inl (hw _ (List.mem_of_getElem? (i := 45) rfl))) Via.refl e0 F_drawnCount (g := (mkF m 4 #[.val (.ref a1), .val (.int (0 : Int32))] [(.ref a1), (.int (0 : Int32))])) rfl rfl (hb hby d9_4)
    obtain ⟨T26, X26, e26, st26⟩ := getF X25 hx hZ hown (host := "") (Or.inl (hw _ (List.mem_of_getElem? (i := 11) rfl))) Via.refl e25 F_drawn (g := (mkF m 12 #[.val (.ref a1), .val (.int (0 : Int32))] [(.ref a1), (.ref a1)])) rfl rfl (hb hby d9_12)
    obtain ⟨cl27, Ar27, S27, H27⟩ := id Vd
    have hin27 : ¬ ((0 : Int32) < 0 ∨ cl27.slots.size ≤ ((0 : Int32)).toNatClampNeg) := inA S27 (by decide) (by decide)
    have hat27 : cl27.slots[((0 : Int32)).toNatClampNeg]? = some (.int (D 0)) := ArF.at S27 H27 hin27 rfl
    obtain ⟨T28, X28, e28, st28⟩ := getF X26 hx hZ hown (host := "") (Or.inl (hw _ (List.mem_of_getElem? (i := 13) rfl))) Via.refl e26 F_drawnWeights (g := (mkF m 18 #[.val (.ref a1), .val (.int (0 : Int32))] [(.ref a1), (.int (D 0)), (.ref a1)])) rfl rfl (hb hby d9_18)
    obtain ⟨cl29, Ar29, S29, H29⟩ := id Ve
    have hin29 : ¬ ((0 : Int32) < 0 ∨ cl29.slots.size ≤ ((0 : Int32)).toNatClampNeg) := inA S29 (by decide) (by decide)
    have hat29 : cl29.slots[((0 : Int32)).toNatClampNeg]? = some (.double (FP.l2d (X 0))) := ArF.at S29 H29 hin29 rfl
    obtain ⟨cq30, qq30, qq30'⟩ := Ex.cell
    obtain ⟨_, _, ⟨T30, L30, k30, n30⟩, -, X30, ⟨Lc30, hQ30, l30, y30, z30⟩, st30⟩ := X28.privateBack hx (y := (⟨"com/example/velar/velar/WeightedDraws", "set", "(ID)V"⟩ : MethodName)) hown (mvT hZ (hw _ (List.mem_of_getElem? (i := 47) rfl))) (mvT hZ (hw _ (List.mem_of_getElem? (i := 48) rfl))) (own_selp (mvT hZ (hw _ (List.mem_of_getElem? (i := 2) rfl))) (Cond.privateMethod_at (mvP hZ (hw _ (List.mem_of_getElem? (i := 49) rfl)) (args := #[]))) (mvT hZ (hw _ (List.mem_of_getElem? (i := 48) rfl))) (by decide)) (Cond.privateMethod_at (mvP hZ (hw _ (List.mem_of_getElem? (i := 49) rfl)) (args := #[]))) (mvT hZ (hw _ (List.mem_of_getElem? (i := 50) rfl))) (by decide) (backOf (W := 0) (rset l Z a0 hw [] a1 (D 0) (X 0) aS M h0 n0 Z0 F_sums Vs gs n1 hM (hX 0) (hD 0 (by rw [hk]; decide))) hZ (hw _ (List.mem_of_getElem? (i := 50) rfl)) (hw _ (List.mem_of_getElem? (i := 3) rfl)) (by decide) (by decide)) (g := (mkF m 23 #[.val (.ref a1), .val (.int (0 : Int32))] [(.double (FP.l2d (X 0))), (.int (D 0)), (.ref a1)])) rfl (by rw [hml]; rfl) (Steps.refl _) (a := a1) (by rw [e28]; exact qq30) qq30' (argsL := [(.int (D 0)), (.double (FP.l2d (X 0)))]) (rest := []) (lenOf pd_1 rfl) rfl (by show 2 * 0 + _ ≤ _; exact Nat.le_of_eq rfl) (hb hby d9_23) (fun _ _ => ⟨rfl, e28, (by decide : 0 + 0 ≤ _), (by decide : 0 + 0 ≤ _)⟩)
    dsimp only [Pt.U, Pt.locs, Pt.cells, Pt.slots] at X30 l30 y30 z30 st30 hQ30
    subst l30 y30 z30
    obtain ⟨rfl, N30q, Kc30, nf30_v30⟩ := hQ30
    have N30 := Fr.app N0 N30q
    have Ex_v30 := Ex.keep Kc30
    have F_leaves_v30 := F_leaves.keep Kc30 (ninS n1 nin0)
    have F_sums_v30 := F_sums.keep Kc30 (ninS n1 nin0)
    have F_drawn_v30 := F_drawn.keep Kc30 (ninS n1 nin0)
    have F_drawnWeights_v30 := F_drawnWeights.keep Kc30 (ninS n1 nin0)
    have F_drawnCount_v30 := F_drawnCount.keep Kc30 (ninS n1 nin0)
    have Vd_v30 := Vd.keep Kc30 (ninS (Ne.symm n4) nin0)
    have Ve_v30 := Ve.keep Kc30 (ninS (Ne.symm n5) nin0)
    have Z30 : n0 ≤ T30.heap.size := Nat.le_trans Z0 Kc30.1
    have KK30 := K0.trans Kc30 (allS (Or.inl (by simp)) all0)
    obtain ⟨T31, X31, e31, st31⟩ := getF X30 hx hZ hown (host := "") (Or.inl (hw _ (List.mem_of_getElem? (i := 45) rfl))) Via.refl rfl F_drawnCount_v30 (g := (mkF m 4 #[.val (.ref a1), .val (.int (1 : Int32))] [(.ref a1), (.int (1 : Int32))])) rfl rfl (hb hby d9_4)
    obtain ⟨T32, X32, e32, st32⟩ := getF X31 hx hZ hown (host := "") (Or.inl (hw _ (List.mem_of_getElem? (i := 11) rfl))) Via.refl e31 F_drawn_v30 (g := (mkF m 12 #[.val (.ref a1), .val (.int (1 : Int32))] [(.ref a1), (.ref a1)])) rfl rfl (hb hby d9_12)
    obtain ⟨cl33, Ar33, S33, H33⟩ := id Vd_v30
    have hin33 : ¬ ((1 : Int32) < 0 ∨ cl33.slots.size ≤ ((1 : Int32)).toNatClampNeg) := inA S33 (by decide) (by decide)
    have hat33 : cl33.slots[((1 : Int32)).toNatClampNeg]? = some (.int (D 1)) := ArF.at S33 H33 hin33 rfl
    obtain ⟨T34, X34, e34, st34⟩ := getF X32 hx hZ hown (host := "") (Or.inl (hw _ (List.mem_of_getElem? (i := 13) rfl))) Via.refl e32 F_drawnWeights_v30 (g := (mkF m 18 #[.val (.ref a1), .val (.int (1 : Int32))] [(.ref a1), (.int (D 1)), (.ref a1)])) rfl rfl (hb hby d9_18)
    obtain ⟨cl35, Ar35, S35, H35⟩ := id Ve_v30
    have hin35 : ¬ ((1 : Int32) < 0 ∨ cl35.slots.size ≤ ((1 : Int32)).toNatClampNeg) := inA S35 (by decide) (by decide)
    have hat35 : cl35.slots[((1 : Int32)).toNatClampNeg]? = some (.double (FP.l2d (X 1))) := ArF.at S35 H35 hin35 rfl
    obtain ⟨cq36, qq36, qq36'⟩ := Ex_v30.cell
    obtain ⟨_, _, ⟨T36, L36, k36, n36⟩, -, X36, ⟨Lc36, hQ36, l36, y36, z36⟩, st36⟩ := X34.privateBack hx (y := (⟨"com/example/velar/velar/WeightedDraws", "set", "(ID)V"⟩ : MethodName)) hown (mvT hZ (hw _ (List.mem_of_getElem? (i := 47) rfl))) (mvT hZ (hw _ (List.mem_of_getElem? (i := 48) rfl))) (own_selp (mvT hZ (hw _ (List.mem_of_getElem? (i := 2) rfl))) (Cond.privateMethod_at (mvP hZ (hw _ (List.mem_of_getElem? (i := 49) rfl)) (args := #[]))) (mvT hZ (hw _ (List.mem_of_getElem? (i := 48) rfl))) (by decide)) (Cond.privateMethod_at (mvP hZ (hw _ (List.mem_of_getElem? (i := 49) rfl)) (args := #[]))) (mvT hZ (hw _ (List.mem_of_getElem? (i := 50) rfl))) (by decide) (backOf (W := 0) (rset l Z a0 hw [] a1 (D 1) (X 1) aS (own_up M (D 0) (X 0)) T30.heap n0 Z30 F_sums_v30 nf30_v30 gs n1 (own_bdup hM (hX 0)) (hX 1) (hD 1 (by rw [hk]; decide))) hZ (hw _ (List.mem_of_getElem? (i := 50) rfl)) (hw _ (List.mem_of_getElem? (i := 3) rfl)) (by decide) (by decide)) (g := (mkF m 23 #[.val (.ref a1), .val (.int (1 : Int32))] [(.double (FP.l2d (X 1))), (.int (D 1)), (.ref a1)])) rfl (by rw [hml]; rfl) (Steps.refl _) (a := a1) (by rw [e34]; exact qq36) qq36' (argsL := [(.int (D 1)), (.double (FP.l2d (X 1)))]) (rest := []) (lenOf pd_1 rfl) rfl (by show 2 * 0 + _ ≤ _; exact Nat.le_of_eq rfl) (hb hby d9_23) (fun _ _ => ⟨rfl, e34, (by decide : 0 + 0 ≤ _), (by decide : 0 + 0 ≤ _)⟩)
    dsimp only [Pt.U, Pt.locs, Pt.cells, Pt.slots] at X36 l36 y36 z36 st36 hQ36
    subst l36 y36 z36
    obtain ⟨rfl, N36q, Kc36, nf36_v36⟩ := hQ36
    have N36 := Fr.app N30 N36q
    have Ex_v36 := Ex_v30.keep Kc36
    have F_leaves_v36 := F_leaves_v30.keep Kc36 (ninS n1 nin0)
    have F_sums_v36 := F_sums_v30.keep Kc36 (ninS n1 nin0)
    have F_drawn_v36 := F_drawn_v30.keep Kc36 (ninS n1 nin0)
    have F_drawnWeights_v36 := F_drawnWeights_v30.keep Kc36 (ninS n1 nin0)
    have F_drawnCount_v36 := F_drawnCount_v30.keep Kc36 (ninS n1 nin0)
    have Vd_v36 := Vd_v30.keep Kc36 (ninS (Ne.symm n4) nin0)
    have Ve_v36 := Ve_v30.keep Kc36 (ninS (Ne.symm n5) nin0)
    have Z36 : n0 ≤ T36.heap.size := Nat.le_trans Z30 Kc36.1
    have KK36 := KK30.trans Kc36 (allS (Or.inl (by simp)) all0)
    obtain ⟨T37, X37, e37, st37⟩ := getF X36 hx hZ hown (host := "") (Or.inl (hw _ (List.mem_of_getElem? (i := 45) rfl))) Via.refl rfl F_drawnCount_v36 (g := (mkF m 4 #[.val (.ref a1), .val (.int (2 : Int32))] [(.ref a1), (.int (2 : Int32))])) rfl rfl (hb hby d9_4)
    obtain ⟨T38, X38, e38, st38⟩ := getF X37 hx hZ hown (host := "") (Or.inl (hw _ (List.mem_of_getElem? (i := 11) rfl))) Via.refl e37 F_drawn_v36 (g := (mkF m 12 #[.val (.ref a1), .val (.int (2 : Int32))] [(.ref a1), (.ref a1)])) rfl rfl (hb hby d9_12)
    obtain ⟨cl39, Ar39, S39, H39⟩ := id Vd_v36
    have hin39 : ¬ ((2 : Int32) < 0 ∨ cl39.slots.size ≤ ((2 : Int32)).toNatClampNeg) := inA S39 (by decide) (by decide)
    have hat39 : cl39.slots[((2 : Int32)).toNatClampNeg]? = some (.int (D 2)) := ArF.at S39 H39 hin39 rfl
    obtain ⟨T40, X40, e40, st40⟩ := getF X38 hx hZ hown (host := "") (Or.inl (hw _ (List.mem_of_getElem? (i := 13) rfl))) Via.refl e38 F_drawnWeights_v36 (g := (mkF m 18 #[.val (.ref a1), .val (.int (2 : Int32))] [(.ref a1), (.int (D 2)), (.ref a1)])) rfl rfl (hb hby d9_18)
    obtain ⟨cl41, Ar41, S41, H41⟩ := id Ve_v36
    have hin41 : ¬ ((2 : Int32) < 0 ∨ cl41.slots.size ≤ ((2 : Int32)).toNatClampNeg) := inA S41 (by decide) (by decide)
    have hat41 : cl41.slots[((2 : Int32)).toNatClampNeg]? = some (.double (FP.l2d (X 2))) := ArF.at S41 H41 hin41 rfl
    obtain ⟨cq42, qq42, qq42'⟩ := Ex_v36.cell
    obtain ⟨_, _, ⟨T42, L42, k42, n42⟩, -, X42, ⟨Lc42, hQ42, l42, y42, z42⟩, st42⟩ := X40.privateBack hx (y := (⟨"com/example/velar/velar/WeightedDraws", "set", "(ID)V"⟩ : MethodName)) hown (mvT hZ (hw _ (List.mem_of_getElem? (i := 47) rfl))) (mvT hZ (hw _ (List.mem_of_getElem? (i := 48) rfl))) (own_selp (mvT hZ (hw _ (List.mem_of_getElem? (i := 2) rfl))) (Cond.privateMethod_at (mvP hZ (hw _ (List.mem_of_getElem? (i := 49) rfl)) (args := #[]))) (mvT hZ (hw _ (List.mem_of_getElem? (i := 48) rfl))) (by decide)) (Cond.privateMethod_at (mvP hZ (hw _ (List.mem_of_getElem? (i := 49) rfl)) (args := #[]))) (mvT hZ (hw _ (List.mem_of_getElem? (i := 50) rfl))) (by decide) (backOf (W := 0) (rset l Z a0 hw [] a1 (D 2) (X 2) aS (own_up (own_up M (D 0) (X 0)) (D 1) (X 1)) T36.heap n0 Z36 F_sums_v36 nf36_v36 gs n1 (own_bdup (own_bdup hM (hX 0)) (hX 1)) (hX 2) (hD 2 (by rw [hk]; decide))) hZ (hw _ (List.mem_of_getElem? (i := 50) rfl)) (hw _ (List.mem_of_getElem? (i := 3) rfl)) (by decide) (by decide)) (g := (mkF m 23 #[.val (.ref a1), .val (.int (2 : Int32))] [(.double (FP.l2d (X 2))), (.int (D 2)), (.ref a1)])) rfl (by rw [hml]; rfl) (Steps.refl _) (a := a1) (by rw [e40]; exact qq42) qq42' (argsL := [(.int (D 2)), (.double (FP.l2d (X 2)))]) (rest := []) (lenOf pd_1 rfl) rfl (by show 2 * 0 + _ ≤ _; exact Nat.le_of_eq rfl) (hb hby d9_23) (fun _ _ => ⟨rfl, e40, (by decide : 0 + 0 ≤ _), (by decide : 0 + 0 ≤ _)⟩)
    dsimp only [Pt.U, Pt.locs, Pt.cells, Pt.slots] at X42 l42 y42 z42 st42 hQ42
    subst l42 y42 z42
    obtain ⟨rfl, N42q, Kc42, nf42_v42⟩ := hQ42
    have N42 := Fr.app N36 N42q
    have Ex_v42 := Ex_v36.keep Kc42
    have F_leaves_v42 := F_leaves_v36.keep Kc42 (ninS n1 nin0)
    have F_sums_v42 := F_sums_v36.keep Kc42 (ninS n1 nin0)
    have F_drawn_v42 := F_drawn_v36.keep Kc42 (ninS n1 nin0)
    have F_drawnWeights_v42 := F_drawnWeights_v36.keep Kc42 (ninS n1 nin0)
    have F_drawnCount_v42 := F_drawnCount_v36.keep Kc42 (ninS n1 nin0)
    have Vd_v42 := Vd_v36.keep Kc42 (ninS (Ne.symm n4) nin0)
    have Ve_v42 := Ve_v36.keep Kc42 (ninS (Ne.symm n5) nin0)
    have Z42 : n0 ≤ T42.heap.size := Nat.le_trans Z36 Kc42.1
    have KK42 := KK36.trans Kc42 (allS (Or.inl (by simp)) all0)
    obtain ⟨T43, X43, e43, st43⟩ := getF X42 hx hZ hown (host := "") (Or.inl (hw _ (List.mem_of_getElem? (i := 45) rfl))) Via.refl rfl F_drawnCount_v42 (g := (mkF m 4 #[.val (.ref a1), .val (.int (3 : Int32))] [(.ref a1), (.int (3 : Int32))])) rfl rfl (hb hby d9_4)
    obtain ⟨T44, h44, X44, e44, W44, st44⟩ := putF X43 hx hZ hown (host := "") (Or.inl (hw _ (List.mem_of_getElem? (i := 45) rfl))) Via.refl e43 F_drawnCount_v42 Ex_v42 (Or.inl (hw _ (List.mem_of_getElem? (i := 46) rfl))) (hw _ (List.mem_of_getElem? (i := 2) rfl)) (ty := .int) (by decide) rfl rfl (g := (mkF m 34 #[.val (.ref a1), .val (.int (3 : Int32))] [(.int (0 : Int32)), (.ref a1)])) rfl rfl (hb hby d9_34)
    have Ex_v44 := Ex_v42.wr W44
    have F_leaves_v44 := F_leaves_v42.other W44 (Or.inr (slot_ne (Or.inr (hw _ (List.mem_of_getElem? (i := 25) rfl))) (Or.inl (hw _ (List.mem_of_getElem? (i := 46) rfl))) (by decide) (t := .int) (t' := .int) (by decide) (by decide)))
    have F_sums_v44 := F_sums_v42.other W44 (Or.inr (slot_ne (Or.inr (hw _ (List.mem_of_getElem? (i := 27) rfl))) (Or.inl (hw _ (List.mem_of_getElem? (i := 46) rfl))) (by decide) (t := (.array .double)) (t' := .int) (by decide) (by decide)))
    have F_drawn_v44 := F_drawn_v42.other W44 (Or.inr (slot_ne (Or.inl (hw _ (List.mem_of_getElem? (i := 12) rfl))) (Or.inl (hw _ (List.mem_of_getElem? (i := 46) rfl))) (by decide) (t := (.array .int)) (t' := .int) (by decide) (by decide)))
    have F_drawnWeights_v44 := F_drawnWeights_v42.other W44 (Or.inr (slot_ne (Or.inl (hw _ (List.mem_of_getElem? (i := 14) rfl))) (Or.inl (hw _ (List.mem_of_getElem? (i := 46) rfl))) (by decide) (t := (.array .double)) (t' := .int) (by decide) (by decide)))
    have Vd_v44 := Vd_v42.other W44 (Ne.symm n2)
    have Ve_v44 := Ve_v42.other W44 (Ne.symm n3)
    have nf42_v44 := nf42_v42.other W44 (Ne.symm n1)
    have Z44 : n0 ≤ h44.size := Nat.le_trans Z42 (Nat.le_of_eq W44.size.symm)
    have K44 := KK42.wr W44 (Or.inl (by simp))
    have F44_v44 : Fld Z h44 a1 "com/example/velar/velar/WeightedDraws" "drawnCount" "I" (.int (0 : Int32)) := F_drawnCount_v42.same W44
    have N44 := Fr.snoc X44 N42 ga
    obtain ⟨fs, hr, hrun, hended, hW, hsame⟩ := X44.leave (v := none) (fun _ => rfl)
    refine ⟨_, _, pre0 _ ?_, hrun, hended, _, _, rfl, ?_, ⟨_, rfl⟩, hW, hsame.mono (by decide) (by decide)⟩
    · show Steps p.tables e below (s₁.setTop (mkF m 0 #[.val (.ref a1), .unset] [])) _
      refine XS.iconst X0.here hx rfl (hb hby d9_0) ?_
      show Steps p.tables e below (s₁.setTop (mkF m 1 #[.val (.ref a1), .unset] [(.int (0 : Int32))])) _
      refine XS.istoreN X0.here hx rfl (hb hby d9_1) rfl (l' := #[.val (.ref a1), .val (.int (0 : Int32))]) rfl ?_
      show Steps p.tables e below (s₁.setTop (mkF m 2 #[.val (.ref a1), .val (.int (0 : Int32))] [])) _
      refine XS.iloadN X0.here hx rfl (hb hby d9_2) rfl ?_
      show Steps p.tables e below (s₁.setTop (mkF m 3 #[.val (.ref a1), .val (.int (0 : Int32))] [(.int (0 : Int32))])) _
      refine XS.aloadN X0.here hx rfl (hb hby d9_3) rfl rfl ?_
      show Steps p.tables e below (s₁.setTop (mkF m 4 #[.val (.ref a1), .val (.int (0 : Int32))] [(.ref a1), (.int (0 : Int32))])) _
      refine st25 _ ?_
      show Steps p.tables e below (T25.setTop (mkF m 7 #[.val (.ref a1), .val (.int (0 : Int32))] [(.int cn), (.int (0 : Int32))])) _
      refine XS.icmpNo X25.here hx rfl (hb hby d9_7) rfl (tlt ((by rw [hk]; decide) : ((0 : Int32) < cn))).2.1 ?_
      show Steps p.tables e below (T25.setTop (mkF m 10 #[.val (.ref a1), .val (.int (0 : Int32))] [])) _
      refine XS.aloadN X25.here hx rfl (hb hby d9_10) rfl rfl ?_
      show Steps p.tables e below (T25.setTop (mkF m 11 #[.val (.ref a1), .val (.int (0 : Int32))] [(.ref a1)])) _
      refine XS.aloadN X25.here hx rfl (hb hby d9_11) rfl rfl ?_
      show Steps p.tables e below (T25.setTop (mkF m 12 #[.val (.ref a1), .val (.int (0 : Int32))] [(.ref a1), (.ref a1)])) _
      refine st26 _ ?_
      show Steps p.tables e below (T26.setTop (mkF m 15 #[.val (.ref a1), .val (.int (0 : Int32))] [(.ref aD), (.ref a1)])) _
      refine XS.iloadN X26.here hx rfl (hb hby d9_15) rfl ?_
      show Steps p.tables e below (T26.setTop (mkF m 16 #[.val (.ref a1), .val (.int (0 : Int32))] [(.int (0 : Int32)), (.ref aD), (.ref a1)])) _
      refine X26.iaload hx (j := (0 : Int32)) (v := (.int (D 0))) (by rw [e26]; exact Ar27.1) (State.isArrayOf_alike hZ.alike Ar27.2.1) Ar27.2.2 hin27 hat27 (g := (mkF m 16 #[.val (.ref a1), .val (.int (0 : Int32))] [(.int (0 : Int32)), (.ref aD), (.ref a1)])) rfl rfl (hb hby d9_16) _ ?_
      show Steps p.tables e below (T26.setTop (mkF m 17 #[.val (.ref a1), .val (.int (0 : Int32))] [(.int (D 0)), (.ref a1)])) _
      refine XS.aloadN X26.here hx rfl (hb hby d9_17) rfl rfl ?_
      show Steps p.tables e below (T26.setTop (mkF m 18 #[.val (.ref a1), .val (.int (0 : Int32))] [(.ref a1), (.int (D 0)), (.ref a1)])) _
      refine st28 _ ?_
      show Steps p.tables e below (T28.setTop (mkF m 21 #[.val (.ref a1), .val (.int (0 : Int32))] [(.ref aE), (.int (D 0)), (.ref a1)])) _
      refine XS.iloadN X28.here hx rfl (hb hby d9_21) rfl ?_
      show Steps p.tables e below (T28.setTop (mkF m 22 #[.val (.ref a1), .val (.int (0 : Int32))] [(.int (0 : Int32)), (.ref aE), (.int (D 0)), (.ref a1)])) _
      refine X28.daload hx (j := (0 : Int32)) (v := (.double (FP.l2d (X 0)))) (by rw [e28]; exact Ar29.1) (State.isArrayOf_alike hZ.alike Ar29.2.1) Ar29.2.2 hin29 hat29 (g := (mkF m 22 #[.val (.ref a1), .val (.int (0 : Int32))] [(.int (0 : Int32)), (.ref aE), (.int (D 0)), (.ref a1)])) rfl rfl (hb hby d9_22) _ ?_
      show Steps p.tables e below (T28.setTop (mkF m 23 #[.val (.ref a1), .val (.int (0 : Int32))] [(.double (FP.l2d (X 0))), (.int (D 0)), (.ref a1)])) _
      refine st30.trans ?_
      show Steps p.tables e below (T30.setTop (mkF m 26 #[.val (.ref a1), .val (.int (0 : Int32))] [])) _
      refine XS.iinc X30.here hx rfl (hb hby d9_26) rfl (l' := #[.val (.ref a1), .val (.int (1 : Int32))]) rfl ?_
      show Steps p.tables e below (T30.setTop (mkF m 29 #[.val (.ref a1), .val (.int (1 : Int32))] [])) _
      refine XS.goto X30.here hx rfl (pc0 := 29) (pc' := 2) rfl (hb hby d9_29) (by decide) (by decide) ?_
      show Steps p.tables e below (T30.setTop (mkF m 2 #[.val (.ref a1), .val (.int (1 : Int32))] [])) _
      refine XS.iloadN X30.here hx rfl (hb hby d9_2) rfl ?_
      show Steps p.tables e below (T30.setTop (mkF m 3 #[.val (.ref a1), .val (.int (1 : Int32))] [(.int (1 : Int32))])) _
      refine XS.aloadN X30.here hx rfl (hb hby d9_3) rfl rfl ?_
      show Steps p.tables e below (T30.setTop (mkF m 4 #[.val (.ref a1), .val (.int (1 : Int32))] [(.ref a1), (.int (1 : Int32))])) _
      refine st31 _ ?_
      show Steps p.tables e below (T31.setTop (mkF m 7 #[.val (.ref a1), .val (.int (1 : Int32))] [(.int cn), (.int (1 : Int32))])) _
      refine XS.icmpNo X31.here hx rfl (hb hby d9_7) rfl (tlt ((by rw [hk]; decide) : ((1 : Int32) < cn))).2.1 ?_
      show Steps p.tables e below (T31.setTop (mkF m 10 #[.val (.ref a1), .val (.int (1 : Int32))] [])) _
      refine XS.aloadN X31.here hx rfl (hb hby d9_10) rfl rfl ?_
      show Steps p.tables e below (T31.setTop (mkF m 11 #[.val (.ref a1), .val (.int (1 : Int32))] [(.ref a1)])) _
      refine XS.aloadN X31.here hx rfl (hb hby d9_11) rfl rfl ?_
      show Steps p.tables e below (T31.setTop (mkF m 12 #[.val (.ref a1), .val (.int (1 : Int32))] [(.ref a1), (.ref a1)])) _
      refine st32 _ ?_
      show Steps p.tables e below (T32.setTop (mkF m 15 #[.val (.ref a1), .val (.int (1 : Int32))] [(.ref aD), (.ref a1)])) _
      refine XS.iloadN X32.here hx rfl (hb hby d9_15) rfl ?_
      show Steps p.tables e below (T32.setTop (mkF m 16 #[.val (.ref a1), .val (.int (1 : Int32))] [(.int (1 : Int32)), (.ref aD), (.ref a1)])) _
      refine X32.iaload hx (j := (1 : Int32)) (v := (.int (D 1))) (by rw [e32]; exact Ar33.1) (State.isArrayOf_alike hZ.alike Ar33.2.1) Ar33.2.2 hin33 hat33 (g := (mkF m 16 #[.val (.ref a1), .val (.int (1 : Int32))] [(.int (1 : Int32)), (.ref aD), (.ref a1)])) rfl rfl (hb hby d9_16) _ ?_
      show Steps p.tables e below (T32.setTop (mkF m 17 #[.val (.ref a1), .val (.int (1 : Int32))] [(.int (D 1)), (.ref a1)])) _
      refine XS.aloadN X32.here hx rfl (hb hby d9_17) rfl rfl ?_
      show Steps p.tables e below (T32.setTop (mkF m 18 #[.val (.ref a1), .val (.int (1 : Int32))] [(.ref a1), (.int (D 1)), (.ref a1)])) _
      refine st34 _ ?_
      show Steps p.tables e below (T34.setTop (mkF m 21 #[.val (.ref a1), .val (.int (1 : Int32))] [(.ref aE), (.int (D 1)), (.ref a1)])) _
      refine XS.iloadN X34.here hx rfl (hb hby d9_21) rfl ?_
      show Steps p.tables e below (T34.setTop (mkF m 22 #[.val (.ref a1), .val (.int (1 : Int32))] [(.int (1 : Int32)), (.ref aE), (.int (D 1)), (.ref a1)])) _
      refine X34.daload hx (j := (1 : Int32)) (v := (.double (FP.l2d (X 1)))) (by rw [e34]; exact Ar35.1) (State.isArrayOf_alike hZ.alike Ar35.2.1) Ar35.2.2 hin35 hat35 (g := (mkF m 22 #[.val (.ref a1), .val (.int (1 : Int32))] [(.int (1 : Int32)), (.ref aE), (.int (D 1)), (.ref a1)])) rfl rfl (hb hby d9_22) _ ?_
      show Steps p.tables e below (T34.setTop (mkF m 23 #[.val (.ref a1), .val (.int (1 : Int32))] [(.double (FP.l2d (X 1))), (.int (D 1)), (.ref a1)])) _
      refine st36.trans ?_
      show Steps p.tables e below (T36.setTop (mkF m 26 #[.val (.ref a1), .val (.int (1 : Int32))] [])) _
      refine XS.iinc X36.here hx rfl (hb hby d9_26) rfl (l' := #[.val (.ref a1), .val (.int (2 : Int32))]) rfl ?_
      show Steps p.tables e below (T36.setTop (mkF m 29 #[.val (.ref a1), .val (.int (2 : Int32))] [])) _
      refine XS.goto X36.here hx rfl (pc0 := 29) (pc' := 2) rfl (hb hby d9_29) (by decide) (by decide) ?_
      show Steps p.tables e below (T36.setTop (mkF m 2 #[.val (.ref a1), .val (.int (2 : Int32))] [])) _
      refine XS.iloadN X36.here hx rfl (hb hby d9_2) rfl ?_
      show Steps p.tables e below (T36.setTop (mkF m 3 #[.val (.ref a1), .val (.int (2 : Int32))] [(.int (2 : Int32))])) _
      refine XS.aloadN X36.here hx rfl (hb hby d9_3) rfl rfl ?_
      show Steps p.tables e below (T36.setTop (mkF m 4 #[.val (.ref a1), .val (.int (2 : Int32))] [(.ref a1), (.int (2 : Int32))])) _
      refine st37 _ ?_
      show Steps p.tables e below (T37.setTop (mkF m 7 #[.val (.ref a1), .val (.int (2 : Int32))] [(.int cn), (.int (2 : Int32))])) _
      refine XS.icmpNo X37.here hx rfl (hb hby d9_7) rfl (tlt ((by rw [hk]; decide) : ((2 : Int32) < cn))).2.1 ?_
      show Steps p.tables e below (T37.setTop (mkF m 10 #[.val (.ref a1), .val (.int (2 : Int32))] [])) _
      refine XS.aloadN X37.here hx rfl (hb hby d9_10) rfl rfl ?_
      show Steps p.tables e below (T37.setTop (mkF m 11 #[.val (.ref a1), .val (.int (2 : Int32))] [(.ref a1)])) _
      refine XS.aloadN X37.here hx rfl (hb hby d9_11) rfl rfl ?_
      show Steps p.tables e below (T37.setTop (mkF m 12 #[.val (.ref a1), .val (.int (2 : Int32))] [(.ref a1), (.ref a1)])) _
      refine st38 _ ?_
      show Steps p.tables e below (T38.setTop (mkF m 15 #[.val (.ref a1), .val (.int (2 : Int32))] [(.ref aD), (.ref a1)])) _
      refine XS.iloadN X38.here hx rfl (hb hby d9_15) rfl ?_
      show Steps p.tables e below (T38.setTop (mkF m 16 #[.val (.ref a1), .val (.int (2 : Int32))] [(.int (2 : Int32)), (.ref aD), (.ref a1)])) _
      refine X38.iaload hx (j := (2 : Int32)) (v := (.int (D 2))) (by rw [e38]; exact Ar39.1) (State.isArrayOf_alike hZ.alike Ar39.2.1) Ar39.2.2 hin39 hat39 (g := (mkF m 16 #[.val (.ref a1), .val (.int (2 : Int32))] [(.int (2 : Int32)), (.ref aD), (.ref a1)])) rfl rfl (hb hby d9_16) _ ?_
      show Steps p.tables e below (T38.setTop (mkF m 17 #[.val (.ref a1), .val (.int (2 : Int32))] [(.int (D 2)), (.ref a1)])) _
      refine XS.aloadN X38.here hx rfl (hb hby d9_17) rfl rfl ?_
      show Steps p.tables e below (T38.setTop (mkF m 18 #[.val (.ref a1), .val (.int (2 : Int32))] [(.ref a1), (.int (D 2)), (.ref a1)])) _
      refine st40 _ ?_
      show Steps p.tables e below (T40.setTop (mkF m 21 #[.val (.ref a1), .val (.int (2 : Int32))] [(.ref aE), (.int (D 2)), (.ref a1)])) _
      refine XS.iloadN X40.here hx rfl (hb hby d9_21) rfl ?_
      show Steps p.tables e below (T40.setTop (mkF m 22 #[.val (.ref a1), .val (.int (2 : Int32))] [(.int (2 : Int32)), (.ref aE), (.int (D 2)), (.ref a1)])) _
      refine X40.daload hx (j := (2 : Int32)) (v := (.double (FP.l2d (X 2)))) (by rw [e40]; exact Ar41.1) (State.isArrayOf_alike hZ.alike Ar41.2.1) Ar41.2.2 hin41 hat41 (g := (mkF m 22 #[.val (.ref a1), .val (.int (2 : Int32))] [(.int (2 : Int32)), (.ref aE), (.int (D 2)), (.ref a1)])) rfl rfl (hb hby d9_22) _ ?_
      show Steps p.tables e below (T40.setTop (mkF m 23 #[.val (.ref a1), .val (.int (2 : Int32))] [(.double (FP.l2d (X 2))), (.int (D 2)), (.ref a1)])) _
      refine st42.trans ?_
      show Steps p.tables e below (T42.setTop (mkF m 26 #[.val (.ref a1), .val (.int (2 : Int32))] [])) _
      refine XS.iinc X42.here hx rfl (hb hby d9_26) rfl (l' := #[.val (.ref a1), .val (.int (3 : Int32))]) rfl ?_
      show Steps p.tables e below (T42.setTop (mkF m 29 #[.val (.ref a1), .val (.int (3 : Int32))] [])) _
      refine XS.goto X42.here hx rfl (pc0 := 29) (pc' := 2) rfl (hb hby d9_29) (by decide) (by decide) ?_
      show Steps p.tables e below (T42.setTop (mkF m 2 #[.val (.ref a1), .val (.int (3 : Int32))] [])) _
      refine XS.iloadN X42.here hx rfl (hb hby d9_2) rfl ?_
      show Steps p.tables e below (T42.setTop (mkF m 3 #[.val (.ref a1), .val (.int (3 : Int32))] [(.int (3 : Int32))])) _
      refine XS.aloadN X42.here hx rfl (hb hby d9_3) rfl rfl ?_
      show Steps p.tables e below (T42.setTop (mkF m 4 #[.val (.ref a1), .val (.int (3 : Int32))] [(.ref a1), (.int (3 : Int32))])) _
      refine st43 _ ?_
      show Steps p.tables e below (T43.setTop (mkF m 7 #[.val (.ref a1), .val (.int (3 : Int32))] [(.int cn), (.int (3 : Int32))])) _
      refine XS.icmpYes X43.here hx rfl (pc0 := 7) (pc' := 32) rfl (hb hby d9_7) rfl (flt ((by rw [hk]; decide) : ¬ ((3 : Int32) < cn))).2.1 (by decide) (by decide) ?_
      show Steps p.tables e below (T43.setTop (mkF m 32 #[.val (.ref a1), .val (.int (3 : Int32))] [])) _
      refine XS.aloadN X43.here hx rfl (hb hby d9_32) rfl rfl ?_
      show Steps p.tables e below (T43.setTop (mkF m 33 #[.val (.ref a1), .val (.int (3 : Int32))] [(.ref a1)])) _
      refine XS.iconst X43.here hx rfl (hb hby d9_33) ?_
      show Steps p.tables e below (T43.setTop (mkF m 34 #[.val (.ref a1), .val (.int (3 : Int32))] [(.int (0 : Int32)), (.ref a1)])) _
      refine st44 _ ?_
      show Steps p.tables e below (T44.setTop (mkF m 37 #[.val (.ref a1), .val (.int (3 : Int32))] [])) _
      exact X44.returnOut hx Bd.returns (hb hby d9_37) hr
    · show Q_rpb Z a1 aS aD aE cn M D X h0 n0 _ T44.heap _
      rw [e44]
      exact ⟨rfl, N44, K44, F_leaves_v44, F_sums_v44, F_drawn_v44, F_drawnWeights_v44, F44_v44, (by rw [own_pb3 hk]; exact nf42_v44)⟩
def own_back (c : Int32) (M' : Int32 → Int64) (D' : Nat → Int32) (X' : Nat → Int64) (M : Int32 → Int64) : Prop := own_bd M' ∧ (c = 0 ∨ c = 1 ∨ c = 2 ∨ c = 3) ∧ (∀ i, i < c.toNatClampNeg → D' i = 4 ∨ D' i = 5 ∨ D' i = 6) ∧ (∀ i, own_Lb 16 (X' i)) ∧ own_t (own_pb c D' X' M') = own_t M
theorem own_Xup {X : Nat → Int64} {c : Int32} {x : Int64} (h : ∀ i, own_Lb 16 (X i)) (hx : own_Lb 16 x) : ∀ i, own_Lb 16 (own_upX X c x i) := fun i => by
  unfold own_upX; split
  · exact hx
  · exact h i
theorem own_dis {M : Int32 → Int64} {k j : Int32} (h : own_up M k 0 j ≠ 0) : j ≠ k := fun q => h (by rw [q]; exact if_pos rfl)
theorem own_upne {M : Int32 → Int64} {k j : Int32} {x : Int64} (h : j ≠ k) : own_up M k x j = M j := if_neg h
theorem own_oth1 {M : Int32 → Int64} (hp : M 4 ≠ 0 ∧ M 5 ≠ 0 ∧ M 6 ≠ 0) {k : Int32} (hk : k = 4 ∨ k = 5 ∨ k = 6) : own_up M k 0 4 ≠ 0 ∨ own_up M k 0 5 ≠ 0 ∨ own_up M k 0 6 ≠ 0 := by
  rcases hk with rfl | rfl | rfl
  · exact Or.inr (Or.inl hp.2.1)
  · exact Or.inl hp.1
  · exact Or.inl hp.1
theorem own_oth2 {M : Int32 → Int64} (hp : M 4 ≠ 0 ∧ M 5 ≠ 0 ∧ M 6 ≠ 0) {k j : Int32} (hk : k = 4 ∨ k = 5 ∨ k = 6) (hj : j = 4 ∨ j = 5 ∨ j = 6) : own_up (own_up M k 0) j 0 4 ≠ 0 ∨ own_up (own_up M k 0) j 0 5 ≠ 0 ∨ own_up (own_up M k 0) j 0 6 ≠ 0 := by
  rcases hk with rfl | rfl | rfl <;> rcases hj with rfl | rfl | rfl
  · exact Or.inr (Or.inl hp.2.1)
  · exact Or.inr (Or.inr hp.2.2)
  · exact Or.inr (Or.inl hp.2.1)
  · exact Or.inr (Or.inr hp.2.2)
  · exact Or.inl hp.1
  · exact Or.inl hp.1
  · exact Or.inr (Or.inl hp.2.1)
  · exact Or.inl hp.1
  · exact Or.inl hp.1
theorem own_f1 (M : Int32 → Int64) (k : Int32) : own_up (own_up M k 0) k (M k) = M := by
  funext j; unfold own_up
  by_cases h : j = k
  · rw [if_pos h, h]
  · rw [if_neg h, if_neg h]
theorem own_f2 (M : Int32 → Int64) (k j : Int32) (h : j ≠ k) : own_up (own_up (own_up (own_up M k 0) j 0) k (M k)) j (own_up M k 0 j) = M := by
  funext i
  rw [own_upne h]
  unfold own_up
  by_cases h1 : i = j
  · rw [if_pos h1, h1]
  · rw [if_neg h1]
    by_cases h2 : i = k
    · rw [if_pos h2, h2]
    · rw [if_neg h2, if_neg h1, if_neg h2]
theorem own_f3 (M : Int32 → Int64) (k j g : Int32) (h : j ≠ k) (hg : g ≠ j) (hg2 : g ≠ k) : own_up (own_up (own_up (own_up (own_up (own_up M k 0) j 0) g 0) k (M k)) j (own_up M k 0 j)) g (own_up (own_up M k 0) j 0 g) = M := by
  funext i
  rw [own_upne h, own_upne hg, own_upne hg2]
  unfold own_up
  by_cases h0 : i = g
  · rw [if_pos h0, h0]
  · rw [if_neg h0]
    by_cases h1 : i = j
    · rw [if_pos h1, h1]
    · rw [if_neg h1]
      by_cases h2 : i = k
      · rw [if_pos h2, h2]
      · rw [if_neg h2, if_neg h0, if_neg h1, if_neg h2]
theorem own_r0 (M : Int32 → Int64) (D : Nat → Int32) (X : Nat → Int64) (p3 : Int32) (hM : own_bd M) (hp : M 4 ≠ 0 ∧ M 5 ≠ 0 ∧ M 6 ≠ 0) (hX : ∀ i, own_Lb 16 (X i)) : own_back (0 : Int32) M D X M := by
  exact ⟨hM, Or.inl rfl, fun i hi => absurd hi (Nat.not_lt_zero i), hX, rfl⟩
theorem own_r1 (M : Int32 → Int64) (D : Nat → Int32) (X : Nat → Int64) (p3 : Int32) (hM : own_bd M) (hp : M 4 ≠ 0 ∧ M 5 ≠ 0 ∧ M 6 ≠ 0) (hX : ∀ i, own_Lb 16 (X i)) : own_back (1 : Int32) (own_up M (own_pick M (own_fr p3)) 0) (own_upN D (0 : Int32) (own_pick M (own_fr p3))) (own_upX X (0 : Int32) (M (own_pick M (own_fr p3)))) M := by
  have hM0 : own_bd M := hM
  have hk0 := own_pk3 M (own_fr p3)
  refine ⟨(own_bdup hM own_L0), Or.inr (Or.inl rfl), fun i hi => ?_, own_Xup hX (hM0 _), congrArg own_t ?_⟩
  · have ej : ((1 : Int32)).toNatClampNeg = 1 := by decide
    have hj : i = 0 := by omega
    rcases hj with rfl
    · exact hk0
  · rw [own_pb1 rfl]
    exact own_f1 M _
theorem own_r2 (M : Int32 → Int64) (D : Nat → Int32) (X : Nat → Int64) (p3 : Int32) (hM : own_bd M) (hp : M 4 ≠ 0 ∧ M 5 ≠ 0 ∧ M 6 ≠ 0) (hX : ∀ i, own_Lb 16 (X i)) : own_back (2 : Int32) (own_up (own_up M (own_pick M (own_fr p3)) 0) (own_pick (own_up M (own_pick M (own_fr p3)) 0) (own_fr ((p3.toUInt32 >>> ((3 : Int32) &&& 31).toUInt32).toInt32))) 0) (own_upN (own_upN D (0 : Int32) (own_pick M (own_fr p3))) (1 : Int32) (own_pick (own_up M (own_pick M (own_fr p3)) 0) (own_fr ((p3.toUInt32 >>> ((3 : Int32) &&& 31).toUInt32).toInt32)))) (own_upX (own_upX X (0 : Int32) (M (own_pick M (own_fr p3)))) (1 : Int32) ((own_up M (own_pick M (own_fr p3)) 0) (own_pick (own_up M (own_pick M (own_fr p3)) 0) (own_fr ((p3.toUInt32 >>> ((3 : Int32) &&& 31).toUInt32).toInt32))))) M := by
  have hM0 : own_bd M := hM
  have hM1 : own_bd (own_up M (own_pick M (own_fr p3)) 0) := own_bdup hM0 own_L0
  have hk0 := own_pk3 M (own_fr p3)
  have hk1 := own_pk3 (own_up M (own_pick M (own_fr p3)) 0) (own_fr ((p3.toUInt32 >>> ((3 : Int32) &&& 31).toUInt32).toInt32))
  have n1 := own_dis (own_nz _ ((p3.toUInt32 >>> ((3 : Int32) &&& 31).toUInt32).toInt32) hM1 (own_oth1 hp hk0))
  refine ⟨(own_bdup (own_bdup hM own_L0) own_L0), Or.inr (Or.inr (Or.inl rfl)), fun i hi => ?_, own_Xup (own_Xup hX (hM0 _)) (hM1 _), congrArg own_t ?_⟩
  · have ej : ((2 : Int32)).toNatClampNeg = 2 := by decide
    have hj : i = 0 ∨ i = 1 := by omega
    rcases hj with rfl | rfl
    · exact hk0
    · exact hk1
  · rw [own_pb2 rfl]
    exact own_f2 M _ _ n1
theorem own_r3 (M : Int32 → Int64) (D : Nat → Int32) (X : Nat → Int64) (p3 : Int32) (hM : own_bd M) (hp : M 4 ≠ 0 ∧ M 5 ≠ 0 ∧ M 6 ≠ 0) (hX : ∀ i, own_Lb 16 (X i)) : own_back (3 : Int32) (own_up (own_up (own_up M (own_pick M (own_fr p3)) 0) (own_pick (own_up M (own_pick M (own_fr p3)) 0) (own_fr ((p3.toUInt32 >>> ((3 : Int32) &&& 31).toUInt32).toInt32))) 0) (own_pick (own_up (own_up M (own_pick M (own_fr p3)) 0) (own_pick (own_up M (own_pick M (own_fr p3)) 0) (own_fr ((p3.toUInt32 >>> ((3 : Int32) &&& 31).toUInt32).toInt32))) 0) (own_fr ((p3.toUInt32 >>> ((6 : Int32) &&& 31).toUInt32).toInt32))) 0) (own_upN (own_upN (own_upN D (0 : Int32) (own_pick M (own_fr p3))) (1 : Int32) (own_pick (own_up M (own_pick M (own_fr p3)) 0) (own_fr ((p3.toUInt32 >>> ((3 : Int32) &&& 31).toUInt32).toInt32)))) (2 : Int32) (own_pick (own_up (own_up M (own_pick M (own_fr p3)) 0) (own_pick (own_up M (own_pick M (own_fr p3)) 0) (own_fr ((p3.toUInt32 >>> ((3 : Int32) &&& 31).toUInt32).toInt32))) 0) (own_fr ((p3.toUInt32 >>> ((6 : Int32) &&& 31).toUInt32).toInt32)))) (own_upX (own_upX (own_upX X (0 : Int32) (M (own_pick M (own_fr p3)))) (1 : Int32) ((own_up M (own_pick M (own_fr p3)) 0) (own_pick (own_up M (own_pick M (own_fr p3)) 0) (own_fr ((p3.toUInt32 >>> ((3 : Int32) &&& 31).toUInt32).toInt32))))) (2 : Int32) ((own_up (own_up M (own_pick M (own_fr p3)) 0) (own_pick (own_up M (own_pick M (own_fr p3)) 0) (own_fr ((p3.toUInt32 >>> ((3 : Int32) &&& 31).toUInt32).toInt32))) 0) (own_pick (own_up (own_up M (own_pick M (own_fr p3)) 0) (own_pick (own_up M (own_pick M (own_fr p3)) 0) (own_fr ((p3.toUInt32 >>> ((3 : Int32) &&& 31).toUInt32).toInt32))) 0) (own_fr ((p3.toUInt32 >>> ((6 : Int32) &&& 31).toUInt32).toInt32))))) M := by
  have hM0 : own_bd M := hM
  have hM1 : own_bd (own_up M (own_pick M (own_fr p3)) 0) := own_bdup hM0 own_L0
  have hM2 : own_bd (own_up (own_up M (own_pick M (own_fr p3)) 0) (own_pick (own_up M (own_pick M (own_fr p3)) 0) (own_fr ((p3.toUInt32 >>> ((3 : Int32) &&& 31).toUInt32).toInt32))) 0) := own_bdup hM1 own_L0
  have hk0 := own_pk3 M (own_fr p3)
  have hk1 := own_pk3 (own_up M (own_pick M (own_fr p3)) 0) (own_fr ((p3.toUInt32 >>> ((3 : Int32) &&& 31).toUInt32).toInt32))
  have hk2 := own_pk3 (own_up (own_up M (own_pick M (own_fr p3)) 0) (own_pick (own_up M (own_pick M (own_fr p3)) 0) (own_fr ((p3.toUInt32 >>> ((3 : Int32) &&& 31).toUInt32).toInt32))) 0) (own_fr ((p3.toUInt32 >>> ((6 : Int32) &&& 31).toUInt32).toInt32))
  have n1 := own_dis (own_nz _ ((p3.toUInt32 >>> ((3 : Int32) &&& 31).toUInt32).toInt32) hM1 (own_oth1 hp hk0))
  have z2 := own_nz _ ((p3.toUInt32 >>> ((6 : Int32) &&& 31).toUInt32).toInt32) hM2 (own_oth2 hp hk0 hk1)
  have n2 := own_dis z2
  rw [own_upne n2] at z2
  have n3 := own_dis z2
  refine ⟨(own_bdup (own_bdup (own_bdup hM own_L0) own_L0) own_L0), Or.inr (Or.inr (Or.inr rfl)), fun i hi => ?_, own_Xup (own_Xup (own_Xup hX (hM0 _)) (hM1 _)) (hM2 _), congrArg own_t ?_⟩
  · have ej : ((3 : Int32)).toNatClampNeg = 3 := by decide
    have hj : i = 0 ∨ i = 1 ∨ i = 2 := by omega
    rcases hj with rfl | rfl | rfl
    · exact hk0
    · exact hk1
    · exact hk2
  · rw [own_pb3 rfl]
    exact own_f3 M _ _ _ n1 n2 n3
theorem d5_0 : decode method_3_code 0 = .ok (.iload_n 1, 1) := by decide +kernel
theorem d5_1 : decode method_3_code 1 = .ok (.iconst 1, 1) := by decide +kernel
theorem d5_2 : decode method_3_code 2 = .ok (.if_icmp .lt 12, 3) := by decide +kernel
theorem d5_5 : decode method_3_code 5 = .ok (.aload_n 0, 1) := by decide +kernel
theorem d5_6 : decode method_3_code 6 = .ok (.iload_n 2, 1) := by decide +kernel
theorem d5_7 : decode method_3_code 7 = .ok (.invokestatic 9, 3) := by decide +kernel
theorem d5_10 : decode method_3_code 10 = .ok (.invokevirtual 15, 3) := by decide +kernel
theorem d5_13 : decode method_3_code 13 = .ok (.pop, 1) := by decide +kernel
theorem d5_14 : decode method_3_code 14 = .ok (.iload_n 1, 1) := by decide +kernel
theorem d5_15 : decode method_3_code 15 = .ok (.iconst 2, 1) := by decide +kernel
theorem d5_16 : decode method_3_code 16 = .ok (.if_icmp .lt 14, 3) := by decide +kernel
theorem d5_19 : decode method_3_code 19 = .ok (.aload_n 0, 1) := by decide +kernel
theorem d5_20 : decode method_3_code 20 = .ok (.iload_n 2, 1) := by decide +kernel
theorem d5_21 : decode method_3_code 21 = .ok (.iconst 3, 1) := by decide +kernel
theorem d5_22 : decode method_3_code 22 = .ok (.iushr, 1) := by decide +kernel
theorem d5_23 : decode method_3_code 23 = .ok (.invokestatic 9, 3) := by decide +kernel
theorem d5_26 : decode method_3_code 26 = .ok (.invokevirtual 15, 3) := by decide +kernel
theorem d5_29 : decode method_3_code 29 = .ok (.pop, 1) := by decide +kernel
theorem d5_30 : decode method_3_code 30 = .ok (.iload_n 1, 1) := by decide +kernel
theorem d5_31 : decode method_3_code 31 = .ok (.iconst 3, 1) := by decide +kernel
theorem d5_32 : decode method_3_code 32 = .ok (.if_icmp .lt 15, 3) := by decide +kernel
theorem d5_35 : decode method_3_code 35 = .ok (.aload_n 0, 1) := by decide +kernel
theorem d5_36 : decode method_3_code 36 = .ok (.iload_n 2, 1) := by decide +kernel
theorem d5_37 : decode method_3_code 37 = .ok (.bipush 6, 2) := by decide +kernel
theorem d5_39 : decode method_3_code 39 = .ok (.iushr, 1) := by decide +kernel
theorem d5_40 : decode method_3_code 40 = .ok (.invokestatic 9, 3) := by decide +kernel
theorem d5_43 : decode method_3_code 43 = .ok (.invokevirtual 15, 3) := by decide +kernel
theorem d5_46 : decode method_3_code 46 = .ok (.pop, 1) := by decide +kernel
theorem d5_47 : decode method_3_code 47 = .ok (.return_, 1) := by decide +kernel
theorem pn_rds : plainName "com/example/velar/velar/WeightedDrawsPutBackPinLaw" = true := by first | (simp [plainName, overriddenIn]; done) | decide +kernel
theorem ef_rds (m : MethodId) (x0 : Addr) (x1 : Int32) (x2 : Int32) : entryFrame m #[(.ref x0), (.int x1), (.int x2)] 3 = mkF m 0 #[.val (.ref x0), .val (.int x1), .val (.int x2)] [] := by first | (simp [entryFrame, mkF, argsToLocals, Value.category]; done) | rfl
def Q_rds (Z : State) (a1 : Addr) (p2 : Int32) (p3 : Int32) (aS aD aE : Addr) (M : Int32 → Int64) (D : Nat → Int32) (X : Nat → Int64) (h0 : Heap) (n0 : Nat) (v : Option Value) (h : Heap) (L : List Loc) : Prop := ∃ (cn : Int32) (M' : Int32 → Int64) (D' : Nat → Int32) (X' : Nat → Int64), v = none ∧ Fr n0 L ∧ Keep h0 h [a1, aS, aD, aE] ∧ Fld Z h a1 "com/example/velar/velar/WeightedDraws" "leaves" "I" (.int (4 : Int32)) ∧ Fld Z h a1 "com/example/velar/velar/WeightedDraws" "sums" "[D" (.ref aS) ∧ Fld Z h a1 "com/example/velar/velar/WeightedDraws" "drawn" "[I" (.ref aD) ∧ Fld Z h a1 "com/example/velar/velar/WeightedDraws" "drawnWeights" "[D" (.ref aE) ∧ Fld Z h a1 "com/example/velar/velar/WeightedDraws" "drawnCount" "I" (.int cn) ∧ ArF Z h aS .double 8 (fun i => .double (FP.l2d (own_t M' i))) ∧ ArF Z h aD .int 64 (fun i => .int (D' i)) ∧ ArF Z h aE .double 64 (fun i => .double (FP.l2d (X' i))) ∧ own_back cn M' D' X' M
set_option maxRecDepth 65536 in
set_option maxHeartbeats 40000000 in
theorem rds (l : Launch) (Z : State) (a0 : Array Value) (hw : ∀ d ∈ tables_1, d.before a0 Z = true) (ws : List Jvm.Cond) (a1 : Addr) (p2 : Int32) (p3 : Int32) (aS aD aE : Addr) (M : Int32 → Int64) (D : Nat → Int32) (X : Nat → Int64) (h0 : Heap) (n0 : Nat) (Z0 : n0 ≤ h0.size) (Ex : Exa Z h0 a1 "com/example/velar/velar/WeightedDraws") (F_leaves : Fld Z h0 a1 "com/example/velar/velar/WeightedDraws" "leaves" "I" (.int (4 : Int32))) (F_sums : Fld Z h0 a1 "com/example/velar/velar/WeightedDraws" "sums" "[D" (.ref aS)) (F_drawn : Fld Z h0 a1 "com/example/velar/velar/WeightedDraws" "drawn" "[I" (.ref aD)) (F_drawnWeights : Fld Z h0 a1 "com/example/velar/velar/WeightedDraws" "drawnWeights" "[D" (.ref aE)) (F_drawnCount : Fld Z h0 a1 "com/example/velar/velar/WeightedDraws" "drawnCount" "I" (.int (0 : Int32))) (Vs : ArF Z h0 aS .double 8 (fun i => .double (FP.l2d (own_t M i)))) (Vd : ArF Z h0 aD .int 64 (fun i => .int (D i))) (Ve : ArF Z h0 aE .double 64 (fun i => .double (FP.l2d (X i)))) (ga : n0 ≤ a1) (gs : n0 ≤ aS) (gd : n0 ≤ aD) (ge : n0 ≤ aE) (n1 : a1 ≠ aS) (n2 : a1 ≠ aD) (n3 : a1 ≠ aE) (n4 : aS ≠ aD) (n5 : aS ≠ aE) (n6 : aD ≠ aE) (hM : own_bd M) (hp : M 4 ≠ 0 ∧ M 5 ≠ 0 ∧ M 6 ≠ 0) (hX : ∀ i, own_Lb 16 (X i)) :
    MetFree l (⟨"com/example/velar/velar/WeightedDrawsPutBackPinLaw", "drawSome", "(Lcom/example/velar/velar/WeightedDraws;II)V"⟩ : MethodName) (head1 (Jvm.Cond.code (⟨"com/example/velar/velar/WeightedDrawsPutBackPinLaw", "drawSome", "(Lcom/example/velar/velar/WeightedDraws;II)V"⟩ : MethodName) method_3_code 3 none :: ws) ({ frames := 2, cells := 0, slots := 0, locals := 35 } : Room)) (fun a U => a = #[(.ref a1), (.int p2), (.int p3)] ∧ Z.Warmed39 U.vm ∧ U.heap = h0) (fun _ _ _ _ _ => True) (fun _ U o U' => ∃ v L, o = .returned v ∧ Q_rds Z a1 p2 p3 aS aD aE M D X h0 n0 v U'.heap L ∧ FrameEnd U o U' L ({ frames := 2, cells := 0, slots := 0, locals := 35 } : Room).cells ({ frames := 2, cells := 0, slots := 0, locals := 35 } : Room).slots) := by
  refine MetFree.of_bodySF (plainFor_of_name pn_rds) hisR ?_
  intro p e s m args below meth c s₁ Bd hml0 hP hK
  obtain ⟨rfl, hZ, hh⟩ := hP
  have hx := Bd.exec
  have hby := Bd.bytes
  have hml : c.maxLocals = 3 := hml0
  have hown : s.vm.findClass "com/example/velar/velar/WeightedDrawsPutBackPinLaw" = some m.cls := findClass_of_methodNamed Bd.named
  have hnm := (name_of_methodNamed Bd.named Bd.method).1
  have X0 : Stand p l e ({ frames := 2, cells := 0, slots := 0, locals := 35 } : Room) s m #[(.ref a1), (.int p2), (.int p3)] below meth c s₁ [] 0 0 := Stand.of_body Bd
  have e0 : s₁.heap = h0 := by rw [← hh, Bd.state]; rfl
  have N0 := Fr.nil n0
  have pre0 : ∀ t, Steps p.tables e below (s₁.setTop (mkF m 0 #[.val (.ref a1), .val (.int p2), .val (.int p3)] [])) t → Steps p.tables e below (s₁.setTop (entryFrame m #[(.ref a1), (.int p2), (.int p3)] 3)) t := fun t k => castTop (ef_rds m a1 p2 p3) k
  have K0 := Keep.refl h0 [a1, aS, aD, aE]
  have pre1 : ∀ t, Steps p.tables e below (s₁.setTop (mkF m 2 #[.val (.ref a1), .val (.int p2), .val (.int p3)] [(.int (1 : Int32)), (.int p2)])) t → Steps p.tables e below (s₁.setTop (entryFrame m #[(.ref a1), (.int p2), (.int p3)] 3)) t := by
    intro t k
    refine pre0 t ?_
    show Steps p.tables e below (s₁.setTop (mkF m 0 #[.val (.ref a1), .val (.int p2), .val (.int p3)] [])) _
    refine XS.iloadN X0.here hx rfl (hb hby d5_0) rfl ?_
    show Steps p.tables e below (s₁.setTop (mkF m 1 #[.val (.ref a1), .val (.int p2), .val (.int p3)] [(.int p2)])) _
    refine XS.iconst X0.here hx rfl (hb hby d5_1) ?_
    exact k
  by_cases hc2_2 : p2 < (1 : Int32)
  · obtain ⟨fs, hr, hrun, hended, hW, hsame⟩ := X0.leave (v := none) (fun _ => rfl)
    refine ⟨_, _, pre1 _ ?_, hrun, hended, _, _, rfl, ?_, ⟨_, rfl⟩, hW, hsame.mono (by decide) (by decide)⟩
    · show Steps p.tables e below (s₁.setTop (mkF m 2 #[.val (.ref a1), .val (.int p2), .val (.int p3)] [(.int (1 : Int32)), (.int p2)])) _
      refine XS.icmpYes X0.here hx rfl (pc0 := 2) (pc' := 14) rfl (hb hby d5_2) rfl (tlt hc2_2).1 (by decide) (by decide) ?_
      show Steps p.tables e below (s₁.setTop (mkF m 14 #[.val (.ref a1), .val (.int p2), .val (.int p3)] [])) _
      refine XS.iloadN X0.here hx rfl (hb hby d5_14) rfl ?_
      show Steps p.tables e below (s₁.setTop (mkF m 15 #[.val (.ref a1), .val (.int p2), .val (.int p3)] [(.int p2)])) _
      refine XS.iconst X0.here hx rfl (hb hby d5_15) ?_
      show Steps p.tables e below (s₁.setTop (mkF m 16 #[.val (.ref a1), .val (.int p2), .val (.int p3)] [(.int (2 : Int32)), (.int p2)])) _
      refine XS.icmpYes X0.here hx rfl (pc0 := 16) (pc' := 30) rfl (hb hby d5_16) rfl (tlt (Int32.lt_trans hc2_2 (by decide : (1 : Int32) < (2 : Int32)))).1 (by decide) (by decide) ?_
      show Steps p.tables e below (s₁.setTop (mkF m 30 #[.val (.ref a1), .val (.int p2), .val (.int p3)] [])) _
      refine XS.iloadN X0.here hx rfl (hb hby d5_30) rfl ?_
      show Steps p.tables e below (s₁.setTop (mkF m 31 #[.val (.ref a1), .val (.int p2), .val (.int p3)] [(.int p2)])) _
      refine XS.iconst X0.here hx rfl (hb hby d5_31) ?_
      show Steps p.tables e below (s₁.setTop (mkF m 32 #[.val (.ref a1), .val (.int p2), .val (.int p3)] [(.int (3 : Int32)), (.int p2)])) _
      refine XS.icmpYes X0.here hx rfl (pc0 := 32) (pc' := 47) rfl (hb hby d5_32) rfl (tlt (Int32.lt_trans hc2_2 (by decide : (1 : Int32) < (3 : Int32)))).1 (by decide) (by decide) ?_
      show Steps p.tables e below (s₁.setTop (mkF m 47 #[.val (.ref a1), .val (.int p2), .val (.int p3)] [])) _
      exact X0.returnOut hx Bd.returns (hb hby d5_47) hr
    · show Q_rds Z a1 p2 p3 aS aD aE M D X h0 n0 _ s₁.heap _
      rw [e0]
      exact ⟨(0 : Int32), M, D, X, rfl, N0, K0, F_leaves, F_sums, F_drawn, F_drawnWeights, F_drawnCount, Vs, Vd, Ve, own_r0 M D X p3 hM hp hX⟩
  · obtain ⟨_, _, ⟨T3, L3, k3, n3⟩, -, X3, ⟨Lc3, hQ3, l3, y3, z3⟩, st3⟩ := Jvm.LawKit.callS X0 hx (y := (⟨"com/example/velar/velar/WeightedDrawsPutBackPinLaw", "frac", "(I)D"⟩ : MethodName)) hown (mvT hZ (hw _ (List.mem_of_getElem? (i := 36) rfl))) (mvT hZ (hw _ (List.mem_of_getElem? (i := 37) rfl))) (mvT hZ (hw _ (List.mem_of_getElem? (i := 34) rfl))) (mvT hZ (hw _ (List.mem_of_getElem? (i := 38) rfl))) (by decide) (backOf (W := 1) (rfr l Z a0 hw [] p3 h0 n0 Z0) hZ (hw _ (List.mem_of_getElem? (i := 38) rfl)) (hw _ (List.mem_of_getElem? (i := 34) rfl)) (by decide) (by decide)) (g := (mkF m 7 #[.val (.ref a1), .val (.int p2), .val (.int p3)] [(.int p3), (.ref a1)])) rfl (by rw [hml]; rfl) (argsL := [(.int p3)]) (rest := [(.ref a1)]) (lenOf pd_2 rfl) rfl (by show 2 * 0 + _ ≤ _; exact Nat.le_of_eq rfl) (hb hby d5_7) (fun _ _ => ⟨rfl, e0, (by decide : 0 + 0 ≤ _), (by decide : 0 + 0 ≤ _)⟩)
    dsimp only [Pt.U, Pt.locs, Pt.cells, Pt.slots] at X3 l3 y3 z3 st3 hQ3
    subst l3 y3 z3
    obtain ⟨rfl, N3q, e3⟩ := hQ3
    have N3 := Fr.app N0 N3q
    obtain ⟨cq4, kq4, q4a, q4b, q4c⟩ := isOf hZ e3 Ex
    obtain ⟨_, _, ⟨T4, L4, k4, n4⟩, -, X4, ⟨Lc4, hQ4, l4, y4, z4⟩, st4⟩ := X3.virtualBack hx (y := (⟨"com/example/velar/velar/WeightedDraws", "draw", "(D)I"⟩ : MethodName)) (z := (⟨"com/example/velar/velar/WeightedDraws", "draw", "(D)I"⟩ : MethodName)) hown (mvT hZ (hw _ (List.mem_of_getElem? (i := 40) rfl))) (mvT hZ (hw _ (List.mem_of_getElem? (i := 41) rfl))) (notFace_of_selects (args := #[]) (mvT hZ (hw _ (List.mem_of_getElem? (i := 43) rfl)))) (mvT hZ (hw _ (List.mem_of_getElem? (i := 43) rfl))) (mvT hZ (hw _ (List.mem_of_getElem? (i := 42) rfl))) (by decide) (backOf (W := 0) (rdr l Z a0 hw [] a1 (own_fr p3) aS aD aE (0 : Int32) M D X h0 n0 Z0 Ex F_leaves F_sums F_drawn F_drawnWeights F_drawnCount Vs Vd Ve ga gs gd ge n1 n2 n3 n4 n5 n6 hM (own_frf _) (by decide) ) hZ (hw _ (List.mem_of_getElem? (i := 44) rfl)) (hw _ (List.mem_of_getElem? (i := 3) rfl)) (by decide) (by decide)) q4a q4c (g := (mkF m 10 #[.val (.ref a1), .val (.int p2), .val (.int p3)] [(.double (own_fr p3)), (.ref a1)])) rfl (by rw [hml]; rfl) (Steps.refl _) (argsL := [(.double (own_fr p3))]) (rest := []) (lenOf pd_3 rfl) rfl (by show 2 * 0 + _ ≤ _; exact Nat.le_of_eq rfl) (hb hby d5_10) (fun _ _ => ⟨rfl, e3, (by decide : 0 + 0 ≤ _), (by decide : 0 + 0 ≤ _)⟩)
    dsimp only [Pt.U, Pt.locs, Pt.cells, Pt.slots] at X4 l4 y4 z4 st4 hQ4
    subst l4 y4 z4
    obtain ⟨rfl, N4q, Kc4, nf4_0_v4, nf4_1_v4, nf4_2_v4, nf4_3_v4, nf4_4_v4, nf4_5_v4, nf4_6_v4, nf4_7_v4⟩ := hQ4
    have N4 := Fr.app N3 N4q
    have Ex_v4 := Ex.keep Kc4
    have Z4 : n0 ≤ T4.heap.size := Nat.le_trans Z0 Kc4.1
    have KK4 := K0.trans Kc4 (allS (Or.inl (by simp)) (allS (Or.inl (by simp)) (allS (Or.inl (by simp)) (allS (Or.inl (by simp)) all0))))
    have pre5 : ∀ t, Steps p.tables e below (T4.setTop (mkF m 16 #[.val (.ref a1), .val (.int p2), .val (.int p3)] [(.int (2 : Int32)), (.int p2)])) t → Steps p.tables e below (s₁.setTop (entryFrame m #[(.ref a1), (.int p2), (.int p3)] 3)) t := by
      intro t k
      refine pre1 t ?_
      show Steps p.tables e below (s₁.setTop (mkF m 2 #[.val (.ref a1), .val (.int p2), .val (.int p3)] [(.int (1 : Int32)), (.int p2)])) _
      refine XS.icmpNo X0.here hx rfl (hb hby d5_2) rfl (flt hc2_2).1 ?_
      show Steps p.tables e below (s₁.setTop (mkF m 5 #[.val (.ref a1), .val (.int p2), .val (.int p3)] [])) _
      refine XS.aloadN X0.here hx rfl (hb hby d5_5) rfl rfl ?_
      show Steps p.tables e below (s₁.setTop (mkF m 6 #[.val (.ref a1), .val (.int p2), .val (.int p3)] [(.ref a1)])) _
      refine XS.iloadN X0.here hx rfl (hb hby d5_6) rfl ?_
      show Steps p.tables e below (s₁.setTop (mkF m 7 #[.val (.ref a1), .val (.int p2), .val (.int p3)] [(.int p3), (.ref a1)])) _
      refine st3 _ ?_
      show Steps p.tables e below (T3.setTop (mkF m 10 #[.val (.ref a1), .val (.int p2), .val (.int p3)] [(.double (own_fr p3)), (.ref a1)])) _
      refine st4.trans ?_
      show Steps p.tables e below (T4.setTop (mkF m 13 #[.val (.ref a1), .val (.int p2), .val (.int p3)] [(.int ((own_pick M (own_fr p3)) - (4 : Int32)))])) _
      refine XS.pop X4.here hx rfl (hb hby d5_13) rfl rfl ?_
      show Steps p.tables e below (T4.setTop (mkF m 14 #[.val (.ref a1), .val (.int p2), .val (.int p3)] [])) _
      refine XS.iloadN X4.here hx rfl (hb hby d5_14) rfl ?_
      show Steps p.tables e below (T4.setTop (mkF m 15 #[.val (.ref a1), .val (.int p2), .val (.int p3)] [(.int p2)])) _
      refine XS.iconst X4.here hx rfl (hb hby d5_15) ?_
      exact k
    by_cases hc16_6 : p2 < (2 : Int32)
    · obtain ⟨fs, hr, hrun, hended, hW, hsame⟩ := X4.leave (v := none) (fun _ => rfl)
      refine ⟨_, _, pre5 _ ?_, hrun, hended, _, _, rfl, ?_, ⟨_, rfl⟩, hW, hsame.mono (by decide) (by decide)⟩
      · show Steps p.tables e below (T4.setTop (mkF m 16 #[.val (.ref a1), .val (.int p2), .val (.int p3)] [(.int (2 : Int32)), (.int p2)])) _
        refine XS.icmpYes X4.here hx rfl (pc0 := 16) (pc' := 30) rfl (hb hby d5_16) rfl (tlt hc16_6).1 (by decide) (by decide) ?_
        show Steps p.tables e below (T4.setTop (mkF m 30 #[.val (.ref a1), .val (.int p2), .val (.int p3)] [])) _
        refine XS.iloadN X4.here hx rfl (hb hby d5_30) rfl ?_
        show Steps p.tables e below (T4.setTop (mkF m 31 #[.val (.ref a1), .val (.int p2), .val (.int p3)] [(.int p2)])) _
        refine XS.iconst X4.here hx rfl (hb hby d5_31) ?_
        show Steps p.tables e below (T4.setTop (mkF m 32 #[.val (.ref a1), .val (.int p2), .val (.int p3)] [(.int (3 : Int32)), (.int p2)])) _
        refine XS.icmpYes X4.here hx rfl (pc0 := 32) (pc' := 47) rfl (hb hby d5_32) rfl (tlt (Int32.lt_trans hc16_6 (by decide : (2 : Int32) < (3 : Int32)))).1 (by decide) (by decide) ?_
        show Steps p.tables e below (T4.setTop (mkF m 47 #[.val (.ref a1), .val (.int p2), .val (.int p3)] [])) _
        exact X4.returnOut hx Bd.returns (hb hby d5_47) hr
      · show Q_rds Z a1 p2 p3 aS aD aE M D X h0 n0 _ T4.heap _
        exact ⟨(1 : Int32), (own_up M (own_pick M (own_fr p3)) 0), (own_upN D (0 : Int32) (own_pick M (own_fr p3))), (own_upX X (0 : Int32) (M (own_pick M (own_fr p3)))), rfl, N4, KK4, nf4_0_v4, nf4_1_v4, nf4_2_v4, nf4_3_v4, nf4_4_v4, nf4_5_v4, nf4_6_v4, nf4_7_v4, own_r1 M D X p3 hM hp hX⟩
    · obtain ⟨_, _, ⟨T7, L7, k7, n7⟩, -, X7, ⟨Lc7, hQ7, l7, y7, z7⟩, st7⟩ := Jvm.LawKit.callS X4 hx (y := (⟨"com/example/velar/velar/WeightedDrawsPutBackPinLaw", "frac", "(I)D"⟩ : MethodName)) hown (mvT hZ (hw _ (List.mem_of_getElem? (i := 36) rfl))) (mvT hZ (hw _ (List.mem_of_getElem? (i := 37) rfl))) (mvT hZ (hw _ (List.mem_of_getElem? (i := 34) rfl))) (mvT hZ (hw _ (List.mem_of_getElem? (i := 38) rfl))) (by decide) (backOf (W := 1) (rfr l Z a0 hw [] ((p3.toUInt32 >>> ((3 : Int32) &&& 31).toUInt32).toInt32) T4.heap n0 Z4) hZ (hw _ (List.mem_of_getElem? (i := 38) rfl)) (hw _ (List.mem_of_getElem? (i := 34) rfl)) (by decide) (by decide)) (g := (mkF m 23 #[.val (.ref a1), .val (.int p2), .val (.int p3)] [(.int ((p3.toUInt32 >>> ((3 : Int32) &&& 31).toUInt32).toInt32)), (.ref a1)])) rfl (by rw [hml]; rfl) (argsL := [(.int ((p3.toUInt32 >>> ((3 : Int32) &&& 31).toUInt32).toInt32))]) (rest := [(.ref a1)]) (lenOf pd_2 rfl) rfl (by show 2 * 0 + _ ≤ _; exact Nat.le_of_eq rfl) (hb hby d5_23) (fun _ _ => ⟨rfl, rfl, (by decide : 0 + 0 ≤ _), (by decide : 0 + 0 ≤ _)⟩)
      dsimp only [Pt.U, Pt.locs, Pt.cells, Pt.slots] at X7 l7 y7 z7 st7 hQ7
      subst l7 y7 z7
      obtain ⟨rfl, N7q, e7⟩ := hQ7
      have N7 := Fr.app N4 N7q
      obtain ⟨cq8, kq8, q8a, q8b, q8c⟩ := isOf hZ e7 Ex_v4
      obtain ⟨_, _, ⟨T8, L8, k8, n8⟩, -, X8, ⟨Lc8, hQ8, l8, y8, z8⟩, st8⟩ := X7.virtualBack hx (y := (⟨"com/example/velar/velar/WeightedDraws", "draw", "(D)I"⟩ : MethodName)) (z := (⟨"com/example/velar/velar/WeightedDraws", "draw", "(D)I"⟩ : MethodName)) hown (mvT hZ (hw _ (List.mem_of_getElem? (i := 40) rfl))) (mvT hZ (hw _ (List.mem_of_getElem? (i := 41) rfl))) (notFace_of_selects (args := #[]) (mvT hZ (hw _ (List.mem_of_getElem? (i := 43) rfl)))) (mvT hZ (hw _ (List.mem_of_getElem? (i := 43) rfl))) (mvT hZ (hw _ (List.mem_of_getElem? (i := 42) rfl))) (by decide) (backOf (W := 0) (rdr l Z a0 hw [] a1 (own_fr ((p3.toUInt32 >>> ((3 : Int32) &&& 31).toUInt32).toInt32)) aS aD aE (1 : Int32) (own_up M (own_pick M (own_fr p3)) 0) (own_upN D (0 : Int32) (own_pick M (own_fr p3))) (own_upX X (0 : Int32) (M (own_pick M (own_fr p3)))) T4.heap n0 Z4 Ex_v4 nf4_0_v4 nf4_1_v4 nf4_2_v4 nf4_3_v4 nf4_4_v4 nf4_5_v4 nf4_6_v4 nf4_7_v4 ga gs gd ge n1 n2 n3 n4 n5 n6 (own_bdup hM own_L0) (own_frf _) (by decide) ) hZ (hw _ (List.mem_of_getElem? (i := 44) rfl)) (hw _ (List.mem_of_getElem? (i := 3) rfl)) (by decide) (by decide)) q8a q8c (g := (mkF m 26 #[.val (.ref a1), .val (.int p2), .val (.int p3)] [(.double (own_fr ((p3.toUInt32 >>> ((3 : Int32) &&& 31).toUInt32).toInt32))), (.ref a1)])) rfl (by rw [hml]; rfl) (Steps.refl _) (argsL := [(.double (own_fr ((p3.toUInt32 >>> ((3 : Int32) &&& 31).toUInt32).toInt32)))]) (rest := []) (lenOf pd_3 rfl) rfl (by show 2 * 0 + _ ≤ _; exact Nat.le_of_eq rfl) (hb hby d5_26) (fun _ _ => ⟨rfl, e7, (by decide : 0 + 0 ≤ _), (by decide : 0 + 0 ≤ _)⟩)
      dsimp only [Pt.U, Pt.locs, Pt.cells, Pt.slots] at X8 l8 y8 z8 st8 hQ8
      subst l8 y8 z8
      obtain ⟨rfl, N8q, Kc8, nf8_0_v8, nf8_1_v8, nf8_2_v8, nf8_3_v8, nf8_4_v8, nf8_5_v8, nf8_6_v8, nf8_7_v8⟩ := hQ8
      have N8 := Fr.app N7 N8q
      have Ex_v8 := Ex_v4.keep Kc8
      have Z8 : n0 ≤ T8.heap.size := Nat.le_trans Z4 Kc8.1
      have KK8 := KK4.trans Kc8 (allS (Or.inl (by simp)) (allS (Or.inl (by simp)) (allS (Or.inl (by simp)) (allS (Or.inl (by simp)) all0))))
      have pre9 : ∀ t, Steps p.tables e below (T8.setTop (mkF m 32 #[.val (.ref a1), .val (.int p2), .val (.int p3)] [(.int (3 : Int32)), (.int p2)])) t → Steps p.tables e below (s₁.setTop (entryFrame m #[(.ref a1), (.int p2), (.int p3)] 3)) t := by
        intro t k
        refine pre5 t ?_
        show Steps p.tables e below (T4.setTop (mkF m 16 #[.val (.ref a1), .val (.int p2), .val (.int p3)] [(.int (2 : Int32)), (.int p2)])) _
        refine XS.icmpNo X4.here hx rfl (hb hby d5_16) rfl (flt hc16_6).1 ?_
        show Steps p.tables e below (T4.setTop (mkF m 19 #[.val (.ref a1), .val (.int p2), .val (.int p3)] [])) _
        refine XS.aloadN X4.here hx rfl (hb hby d5_19) rfl rfl ?_
        show Steps p.tables e below (T4.setTop (mkF m 20 #[.val (.ref a1), .val (.int p2), .val (.int p3)] [(.ref a1)])) _
        refine XS.iloadN X4.here hx rfl (hb hby d5_20) rfl ?_
        show Steps p.tables e below (T4.setTop (mkF m 21 #[.val (.ref a1), .val (.int p2), .val (.int p3)] [(.int p3), (.ref a1)])) _
        refine XS.iconst X4.here hx rfl (hb hby d5_21) ?_
        show Steps p.tables e below (T4.setTop (mkF m 22 #[.val (.ref a1), .val (.int p2), .val (.int p3)] [(.int (3 : Int32)), (.int p3), (.ref a1)])) _
        refine XS.iushr X4.here hx rfl (hb hby d5_22) rfl ?_
        show Steps p.tables e below (T4.setTop (mkF m 23 #[.val (.ref a1), .val (.int p2), .val (.int p3)] [(.int ((p3.toUInt32 >>> ((3 : Int32) &&& 31).toUInt32).toInt32)), (.ref a1)])) _
        refine st7 _ ?_
        show Steps p.tables e below (T7.setTop (mkF m 26 #[.val (.ref a1), .val (.int p2), .val (.int p3)] [(.double (own_fr ((p3.toUInt32 >>> ((3 : Int32) &&& 31).toUInt32).toInt32))), (.ref a1)])) _
        refine st8.trans ?_
        show Steps p.tables e below (T8.setTop (mkF m 29 #[.val (.ref a1), .val (.int p2), .val (.int p3)] [(.int ((own_pick (own_up M (own_pick M (own_fr p3)) 0) (own_fr ((p3.toUInt32 >>> ((3 : Int32) &&& 31).toUInt32).toInt32))) - (4 : Int32)))])) _
        refine XS.pop X8.here hx rfl (hb hby d5_29) rfl rfl ?_
        show Steps p.tables e below (T8.setTop (mkF m 30 #[.val (.ref a1), .val (.int p2), .val (.int p3)] [])) _
        refine XS.iloadN X8.here hx rfl (hb hby d5_30) rfl ?_
        show Steps p.tables e below (T8.setTop (mkF m 31 #[.val (.ref a1), .val (.int p2), .val (.int p3)] [(.int p2)])) _
        refine XS.iconst X8.here hx rfl (hb hby d5_31) ?_
        exact k
      by_cases hc32_10 : p2 < (3 : Int32)
      · obtain ⟨fs, hr, hrun, hended, hW, hsame⟩ := X8.leave (v := none) (fun _ => rfl)
        refine ⟨_, _, pre9 _ ?_, hrun, hended, _, _, rfl, ?_, ⟨_, rfl⟩, hW, hsame.mono (by decide) (by decide)⟩
        · show Steps p.tables e below (T8.setTop (mkF m 32 #[.val (.ref a1), .val (.int p2), .val (.int p3)] [(.int (3 : Int32)), (.int p2)])) _
          refine XS.icmpYes X8.here hx rfl (pc0 := 32) (pc' := 47) rfl (hb hby d5_32) rfl (tlt hc32_10).1 (by decide) (by decide) ?_
          show Steps p.tables e below (T8.setTop (mkF m 47 #[.val (.ref a1), .val (.int p2), .val (.int p3)] [])) _
          exact X8.returnOut hx Bd.returns (hb hby d5_47) hr
        · show Q_rds Z a1 p2 p3 aS aD aE M D X h0 n0 _ T8.heap _
          exact ⟨(2 : Int32), (own_up (own_up M (own_pick M (own_fr p3)) 0) (own_pick (own_up M (own_pick M (own_fr p3)) 0) (own_fr ((p3.toUInt32 >>> ((3 : Int32) &&& 31).toUInt32).toInt32))) 0), (own_upN (own_upN D (0 : Int32) (own_pick M (own_fr p3))) (1 : Int32) (own_pick (own_up M (own_pick M (own_fr p3)) 0) (own_fr ((p3.toUInt32 >>> ((3 : Int32) &&& 31).toUInt32).toInt32)))), (own_upX (own_upX X (0 : Int32) (M (own_pick M (own_fr p3)))) (1 : Int32) ((own_up M (own_pick M (own_fr p3)) 0) (own_pick (own_up M (own_pick M (own_fr p3)) 0) (own_fr ((p3.toUInt32 >>> ((3 : Int32) &&& 31).toUInt32).toInt32))))), rfl, N8, KK8, nf8_0_v8, nf8_1_v8, nf8_2_v8, nf8_3_v8, nf8_4_v8, nf8_5_v8, nf8_6_v8, nf8_7_v8, own_r2 M D X p3 hM hp hX⟩
      · obtain ⟨_, _, ⟨T11, L11, k11, n11⟩, -, X11, ⟨Lc11, hQ11, l11, y11, z11⟩, st11⟩ := Jvm.LawKit.callS X8 hx (y := (⟨"com/example/velar/velar/WeightedDrawsPutBackPinLaw", "frac", "(I)D"⟩ : MethodName)) hown (mvT hZ (hw _ (List.mem_of_getElem? (i := 36) rfl))) (mvT hZ (hw _ (List.mem_of_getElem? (i := 37) rfl))) (mvT hZ (hw _ (List.mem_of_getElem? (i := 34) rfl))) (mvT hZ (hw _ (List.mem_of_getElem? (i := 38) rfl))) (by decide) (backOf (W := 1) (rfr l Z a0 hw [] ((p3.toUInt32 >>> ((6 : Int32) &&& 31).toUInt32).toInt32) T8.heap n0 Z8) hZ (hw _ (List.mem_of_getElem? (i := 38) rfl)) (hw _ (List.mem_of_getElem? (i := 34) rfl)) (by decide) (by decide)) (g := (mkF m 40 #[.val (.ref a1), .val (.int p2), .val (.int p3)] [(.int ((p3.toUInt32 >>> ((6 : Int32) &&& 31).toUInt32).toInt32)), (.ref a1)])) rfl (by rw [hml]; rfl) (argsL := [(.int ((p3.toUInt32 >>> ((6 : Int32) &&& 31).toUInt32).toInt32))]) (rest := [(.ref a1)]) (lenOf pd_2 rfl) rfl (by show 2 * 0 + _ ≤ _; exact Nat.le_of_eq rfl) (hb hby d5_40) (fun _ _ => ⟨rfl, rfl, (by decide : 0 + 0 ≤ _), (by decide : 0 + 0 ≤ _)⟩)
        dsimp only [Pt.U, Pt.locs, Pt.cells, Pt.slots] at X11 l11 y11 z11 st11 hQ11
        subst l11 y11 z11
        obtain ⟨rfl, N11q, e11⟩ := hQ11
        have N11 := Fr.app N8 N11q
        obtain ⟨cq12, kq12, q12a, q12b, q12c⟩ := isOf hZ e11 Ex_v8
        obtain ⟨_, _, ⟨T12, L12, k12, n12⟩, -, X12, ⟨Lc12, hQ12, l12, y12, z12⟩, st12⟩ := X11.virtualBack hx (y := (⟨"com/example/velar/velar/WeightedDraws", "draw", "(D)I"⟩ : MethodName)) (z := (⟨"com/example/velar/velar/WeightedDraws", "draw", "(D)I"⟩ : MethodName)) hown (mvT hZ (hw _ (List.mem_of_getElem? (i := 40) rfl))) (mvT hZ (hw _ (List.mem_of_getElem? (i := 41) rfl))) (notFace_of_selects (args := #[]) (mvT hZ (hw _ (List.mem_of_getElem? (i := 43) rfl)))) (mvT hZ (hw _ (List.mem_of_getElem? (i := 43) rfl))) (mvT hZ (hw _ (List.mem_of_getElem? (i := 42) rfl))) (by decide) (backOf (W := 0) (rdr l Z a0 hw [] a1 (own_fr ((p3.toUInt32 >>> ((6 : Int32) &&& 31).toUInt32).toInt32)) aS aD aE (2 : Int32) (own_up (own_up M (own_pick M (own_fr p3)) 0) (own_pick (own_up M (own_pick M (own_fr p3)) 0) (own_fr ((p3.toUInt32 >>> ((3 : Int32) &&& 31).toUInt32).toInt32))) 0) (own_upN (own_upN D (0 : Int32) (own_pick M (own_fr p3))) (1 : Int32) (own_pick (own_up M (own_pick M (own_fr p3)) 0) (own_fr ((p3.toUInt32 >>> ((3 : Int32) &&& 31).toUInt32).toInt32)))) (own_upX (own_upX X (0 : Int32) (M (own_pick M (own_fr p3)))) (1 : Int32) ((own_up M (own_pick M (own_fr p3)) 0) (own_pick (own_up M (own_pick M (own_fr p3)) 0) (own_fr ((p3.toUInt32 >>> ((3 : Int32) &&& 31).toUInt32).toInt32))))) T8.heap n0 Z8 Ex_v8 nf8_0_v8 nf8_1_v8 nf8_2_v8 nf8_3_v8 nf8_4_v8 nf8_5_v8 nf8_6_v8 nf8_7_v8 ga gs gd ge n1 n2 n3 n4 n5 n6 (own_bdup (own_bdup hM own_L0) own_L0) (own_frf _) (by decide) ) hZ (hw _ (List.mem_of_getElem? (i := 44) rfl)) (hw _ (List.mem_of_getElem? (i := 3) rfl)) (by decide) (by decide)) q12a q12c (g := (mkF m 43 #[.val (.ref a1), .val (.int p2), .val (.int p3)] [(.double (own_fr ((p3.toUInt32 >>> ((6 : Int32) &&& 31).toUInt32).toInt32))), (.ref a1)])) rfl (by rw [hml]; rfl) (Steps.refl _) (argsL := [(.double (own_fr ((p3.toUInt32 >>> ((6 : Int32) &&& 31).toUInt32).toInt32)))]) (rest := []) (lenOf pd_3 rfl) rfl (by show 2 * 0 + _ ≤ _; exact Nat.le_of_eq rfl) (hb hby d5_43) (fun _ _ => ⟨rfl, e11, (by decide : 0 + 0 ≤ _), (by decide : 0 + 0 ≤ _)⟩)
        dsimp only [Pt.U, Pt.locs, Pt.cells, Pt.slots] at X12 l12 y12 z12 st12 hQ12
        subst l12 y12 z12
        obtain ⟨rfl, N12q, Kc12, nf12_0_v12, nf12_1_v12, nf12_2_v12, nf12_3_v12, nf12_4_v12, nf12_5_v12, nf12_6_v12, nf12_7_v12⟩ := hQ12
        have N12 := Fr.app N11 N12q
        have Ex_v12 := Ex_v8.keep Kc12
        have Z12 : n0 ≤ T12.heap.size := Nat.le_trans Z8 Kc12.1
        have KK12 := KK8.trans Kc12 (allS (Or.inl (by simp)) (allS (Or.inl (by simp)) (allS (Or.inl (by simp)) (allS (Or.inl (by simp)) all0))))
        obtain ⟨fs, hr, hrun, hended, hW, hsame⟩ := X12.leave (v := none) (fun _ => rfl)
        refine ⟨_, _, pre9 _ ?_, hrun, hended, _, _, rfl, ?_, ⟨_, rfl⟩, hW, hsame.mono (by decide) (by decide)⟩
        · show Steps p.tables e below (T8.setTop (mkF m 32 #[.val (.ref a1), .val (.int p2), .val (.int p3)] [(.int (3 : Int32)), (.int p2)])) _
          refine XS.icmpNo X8.here hx rfl (hb hby d5_32) rfl (flt hc32_10).1 ?_
          show Steps p.tables e below (T8.setTop (mkF m 35 #[.val (.ref a1), .val (.int p2), .val (.int p3)] [])) _
          refine XS.aloadN X8.here hx rfl (hb hby d5_35) rfl rfl ?_
          show Steps p.tables e below (T8.setTop (mkF m 36 #[.val (.ref a1), .val (.int p2), .val (.int p3)] [(.ref a1)])) _
          refine XS.iloadN X8.here hx rfl (hb hby d5_36) rfl ?_
          show Steps p.tables e below (T8.setTop (mkF m 37 #[.val (.ref a1), .val (.int p2), .val (.int p3)] [(.int p3), (.ref a1)])) _
          refine XS.bipush X8.here hx rfl (hb hby d5_37) ?_
          show Steps p.tables e below (T8.setTop (mkF m 39 #[.val (.ref a1), .val (.int p2), .val (.int p3)] [(.int (6 : Int32)), (.int p3), (.ref a1)])) _
          refine XS.iushr X8.here hx rfl (hb hby d5_39) rfl ?_
          show Steps p.tables e below (T8.setTop (mkF m 40 #[.val (.ref a1), .val (.int p2), .val (.int p3)] [(.int ((p3.toUInt32 >>> ((6 : Int32) &&& 31).toUInt32).toInt32)), (.ref a1)])) _
          refine st11 _ ?_
          show Steps p.tables e below (T11.setTop (mkF m 43 #[.val (.ref a1), .val (.int p2), .val (.int p3)] [(.double (own_fr ((p3.toUInt32 >>> ((6 : Int32) &&& 31).toUInt32).toInt32))), (.ref a1)])) _
          refine st12.trans ?_
          show Steps p.tables e below (T12.setTop (mkF m 46 #[.val (.ref a1), .val (.int p2), .val (.int p3)] [(.int ((own_pick (own_up (own_up M (own_pick M (own_fr p3)) 0) (own_pick (own_up M (own_pick M (own_fr p3)) 0) (own_fr ((p3.toUInt32 >>> ((3 : Int32) &&& 31).toUInt32).toInt32))) 0) (own_fr ((p3.toUInt32 >>> ((6 : Int32) &&& 31).toUInt32).toInt32))) - (4 : Int32)))])) _
          refine XS.pop X12.here hx rfl (hb hby d5_46) rfl rfl ?_
          show Steps p.tables e below (T12.setTop (mkF m 47 #[.val (.ref a1), .val (.int p2), .val (.int p3)] [])) _
          exact X12.returnOut hx Bd.returns (hb hby d5_47) hr
        · show Q_rds Z a1 p2 p3 aS aD aE M D X h0 n0 _ T12.heap _
          exact ⟨(3 : Int32), (own_up (own_up (own_up M (own_pick M (own_fr p3)) 0) (own_pick (own_up M (own_pick M (own_fr p3)) 0) (own_fr ((p3.toUInt32 >>> ((3 : Int32) &&& 31).toUInt32).toInt32))) 0) (own_pick (own_up (own_up M (own_pick M (own_fr p3)) 0) (own_pick (own_up M (own_pick M (own_fr p3)) 0) (own_fr ((p3.toUInt32 >>> ((3 : Int32) &&& 31).toUInt32).toInt32))) 0) (own_fr ((p3.toUInt32 >>> ((6 : Int32) &&& 31).toUInt32).toInt32))) 0), (own_upN (own_upN (own_upN D (0 : Int32) (own_pick M (own_fr p3))) (1 : Int32) (own_pick (own_up M (own_pick M (own_fr p3)) 0) (own_fr ((p3.toUInt32 >>> ((3 : Int32) &&& 31).toUInt32).toInt32)))) (2 : Int32) (own_pick (own_up (own_up M (own_pick M (own_fr p3)) 0) (own_pick (own_up M (own_pick M (own_fr p3)) 0) (own_fr ((p3.toUInt32 >>> ((3 : Int32) &&& 31).toUInt32).toInt32))) 0) (own_fr ((p3.toUInt32 >>> ((6 : Int32) &&& 31).toUInt32).toInt32)))), (own_upX (own_upX (own_upX X (0 : Int32) (M (own_pick M (own_fr p3)))) (1 : Int32) ((own_up M (own_pick M (own_fr p3)) 0) (own_pick (own_up M (own_pick M (own_fr p3)) 0) (own_fr ((p3.toUInt32 >>> ((3 : Int32) &&& 31).toUInt32).toInt32))))) (2 : Int32) ((own_up (own_up M (own_pick M (own_fr p3)) 0) (own_pick (own_up M (own_pick M (own_fr p3)) 0) (own_fr ((p3.toUInt32 >>> ((3 : Int32) &&& 31).toUInt32).toInt32))) 0) (own_pick (own_up (own_up M (own_pick M (own_fr p3)) 0) (own_pick (own_up M (own_pick M (own_fr p3)) 0) (own_fr ((p3.toUInt32 >>> ((3 : Int32) &&& 31).toUInt32).toInt32))) 0) (own_fr ((p3.toUInt32 >>> ((6 : Int32) &&& 31).toUInt32).toInt32))))), rfl, N12, KK12, nf12_0_v12, nf12_1_v12, nf12_2_v12, nf12_3_v12, nf12_4_v12, nf12_5_v12, nf12_6_v12, nf12_7_v12, own_r3 M D X p3 hM hp hX⟩
def own_M (x y z : Int64) (k : Int32) : Int64 := if k = 4 then x else if k = 5 then y else if k = 6 then z else 0
def own_w (x y z : Int64) (i : Nat) : Int64 := if i = 0 then x else if i = 1 then y else z
def own_i (x y z : Int64) (i : Nat) : Int64 := if i = 4 then x else if i = 5 then y else if i = 6 then z else 0
def own_zD (i : Nat) : Int32 := 0
def own_zX (i : Nat) : Int64 := 0
theorem ArF.arv {Z : State} {h : Heap} {a : Addr} {ty : FieldType} {z : Int32} {f : Nat → Value} (F : ArF Z h a ty z.toNatClampNeg f) (hz : ¬ z < 0) (hf : ∀ i, fits ty (f i) = true) (d : Value) : ∃ k, Arv Z h a k ty z ((List.range z.toNatClampNeg).map f) d := by
  obtain ⟨c, A, S, H⟩ := F
  have gd : ∀ i, i < z.toNatClampNeg → ((List.range z.toNatClampNeg).map f).getD i d = f i := fun i hi => by
    rw [List.getD_eq_getElem?_getD, List.getElem?_map, List.getElem?_range hi]; rfl
  exact ⟨c.cls, c, A, rfl, S, hz, fun i hi => by rw [gd i (S ▸ hi)]; exact H i (S ▸ hi), fun i hi => by rw [gd i (S ▸ hi)]; exact hf i⟩
theorem Arv.arF {Z : State} {h : Heap} {a : Addr} {k : ClassId} {ty : FieldType} {z : Int32} {vs : List Value} {d : Value} (F : Arv Z h a k ty z vs d) : ArF Z h a ty z.toNatClampNeg (fun i => vs.getD i d) := by
  obtain ⟨c, A, -, S, -, H, -⟩ := F
  exact ⟨c, A, S, fun i hi => H i (S.symm ▸ hi)⟩
theorem own_wb {x : Int32} {w : Int64} (h : w = ((1 : Int32) + (x &&& (15 : Int32))).toInt64) : own_Lb 16 w ∧ w ≠ 0 := by
  have hm := c_and x 15 (by decide)
  rw [show (15 : Int32).toInt = 15 from by decide] at hm
  have ha := c_iadd 1 (x &&& (15 : Int32))
  have r := rng32 ((1 : Int32) + (x &&& (15 : Int32)))
  rw [show (1 : Int32).toInt = 1 from by decide] at ha
  have e : w.toInt = ((1 : Int32) + (x &&& (15 : Int32))).toInt := by rw [h, c_i2l]
  refine ⟨⟨by omega, by omega⟩, fun q => ?_⟩
  rw [q, show (0 : Int64).toInt = 0 from by decide] at e
  omega
theorem own_Mb {x y z : Int64} (hx : own_Lb 16 x) (hy : own_Lb 16 y) (hz : own_Lb 16 z) : own_bd (own_M x y z) := fun k => by
  unfold own_M
  repeat' split
  · exact hx
  · exact hy
  · exact hz
  · exact own_L0
theorem d1_0 : decode prog_28_method_1_code 0 = .ok (.aload_n 0, 1) := by decide +kernel
theorem d1_1 : decode prog_28_method_1_code 1 = .ok (.invokespecial 1, 3) := by decide +kernel
theorem d1_4 : decode prog_28_method_1_code 4 = .ok (.aload_n 0, 1) := by decide +kernel
theorem d1_5 : decode prog_28_method_1_code 5 = .ok (.bipush 64, 2) := by decide +kernel
theorem d1_7 : decode prog_28_method_1_code 7 = .ok (.newarray .int, 2) := by decide +kernel
theorem d1_9 : decode prog_28_method_1_code 9 = .ok (.putfield 7, 3) := by decide +kernel
theorem d1_12 : decode prog_28_method_1_code 12 = .ok (.aload_n 0, 1) := by decide +kernel
theorem d1_13 : decode prog_28_method_1_code 13 = .ok (.bipush 64, 2) := by decide +kernel
theorem d1_15 : decode prog_28_method_1_code 15 = .ok (.newarray .double, 2) := by decide +kernel
theorem d1_17 : decode prog_28_method_1_code 17 = .ok (.putfield 13, 3) := by decide +kernel
theorem d1_20 : decode prog_28_method_1_code 20 = .ok (.aload_n 1, 1) := by decide +kernel
theorem d1_21 : decode prog_28_method_1_code 21 = .ok (.arraylength, 1) := by decide +kernel
theorem d1_22 : decode prog_28_method_1_code 22 = .ok (.invokestatic 17, 3) := by decide +kernel
theorem d1_25 : decode prog_28_method_1_code 25 = .ok (.istore_n 2, 1) := by decide +kernel
theorem d1_26 : decode prog_28_method_1_code 26 = .ok (.iload_n 2, 1) := by decide +kernel
theorem d1_27 : decode prog_28_method_1_code 27 = .ok (.aload_n 1, 1) := by decide +kernel
theorem d1_28 : decode prog_28_method_1_code 28 = .ok (.arraylength, 1) := by decide +kernel
theorem d1_29 : decode prog_28_method_1_code 29 = .ok (.if_icmp .ge 7, 3) := by decide +kernel
theorem d1_32 : decode prog_28_method_1_code 32 = .ok (.iload_n 2, 1) := by decide +kernel
theorem d1_33 : decode prog_28_method_1_code 33 = .ok (.iconst 2, 1) := by decide +kernel
theorem d1_34 : decode prog_28_method_1_code 34 = .ok (.imul, 1) := by decide +kernel
theorem d1_35 : decode prog_28_method_1_code 35 = .ok (.istore_n 2, 1) := by decide +kernel
theorem d1_36 : decode prog_28_method_1_code 36 = .ok (.aload_n 0, 1) := by decide +kernel
theorem d1_37 : decode prog_28_method_1_code 37 = .ok (.iload_n 2, 1) := by decide +kernel
theorem d1_38 : decode prog_28_method_1_code 38 = .ok (.putfield 23, 3) := by decide +kernel
theorem d1_41 : decode prog_28_method_1_code 41 = .ok (.aload_n 0, 1) := by decide +kernel
theorem d1_42 : decode prog_28_method_1_code 42 = .ok (.iconst 2, 1) := by decide +kernel
theorem d1_43 : decode prog_28_method_1_code 43 = .ok (.iload_n 2, 1) := by decide +kernel
theorem d1_44 : decode prog_28_method_1_code 44 = .ok (.imul, 1) := by decide +kernel
theorem d1_45 : decode prog_28_method_1_code 45 = .ok (.newarray .double, 2) := by decide +kernel
theorem d1_47 : decode prog_28_method_1_code 47 = .ok (.putfield 27, 3) := by decide +kernel
theorem d1_50 : decode prog_28_method_1_code 50 = .ok (.aload_n 1, 1) := by decide +kernel
theorem d1_51 : decode prog_28_method_1_code 51 = .ok (.iconst 0, 1) := by decide +kernel
theorem d1_52 : decode prog_28_method_1_code 52 = .ok (.aload_n 0, 1) := by decide +kernel
theorem d1_53 : decode prog_28_method_1_code 53 = .ok (.getfield 27, 3) := by decide +kernel
theorem d1_56 : decode prog_28_method_1_code 56 = .ok (.iload_n 2, 1) := by decide +kernel
theorem d1_57 : decode prog_28_method_1_code 57 = .ok (.aload_n 1, 1) := by decide +kernel
theorem d1_58 : decode prog_28_method_1_code 58 = .ok (.arraylength, 1) := by decide +kernel
theorem d1_59 : decode prog_28_method_1_code 59 = .ok (.invokestatic 30, 3) := by decide +kernel
theorem d1_62 : decode prog_28_method_1_code 62 = .ok (.iload_n 2, 1) := by decide +kernel
theorem d1_63 : decode prog_28_method_1_code 63 = .ok (.iconst 1, 1) := by decide +kernel
theorem d1_64 : decode prog_28_method_1_code 64 = .ok (.isub, 1) := by decide +kernel
theorem d1_65 : decode prog_28_method_1_code 65 = .ok (.istore_n 3, 1) := by decide +kernel
theorem d1_66 : decode prog_28_method_1_code 66 = .ok (.iload_n 3, 1) := by decide +kernel
theorem d1_67 : decode prog_28_method_1_code 67 = .ok (.iconst 1, 1) := by decide +kernel
theorem d1_68 : decode prog_28_method_1_code 68 = .ok (.if_icmp .lt 34, 3) := by decide +kernel
theorem d1_71 : decode prog_28_method_1_code 71 = .ok (.aload_n 0, 1) := by decide +kernel
theorem d1_72 : decode prog_28_method_1_code 72 = .ok (.getfield 27, 3) := by decide +kernel
theorem d1_75 : decode prog_28_method_1_code 75 = .ok (.iload_n 3, 1) := by decide +kernel
theorem d1_76 : decode prog_28_method_1_code 76 = .ok (.aload_n 0, 1) := by decide +kernel
theorem d1_77 : decode prog_28_method_1_code 77 = .ok (.getfield 27, 3) := by decide +kernel
theorem d1_80 : decode prog_28_method_1_code 80 = .ok (.iconst 2, 1) := by decide +kernel
theorem d1_81 : decode prog_28_method_1_code 81 = .ok (.iload_n 3, 1) := by decide +kernel
theorem d1_82 : decode prog_28_method_1_code 82 = .ok (.imul, 1) := by decide +kernel
theorem d1_83 : decode prog_28_method_1_code 83 = .ok (.daload, 1) := by decide +kernel
theorem d1_84 : decode prog_28_method_1_code 84 = .ok (.aload_n 0, 1) := by decide +kernel
theorem d1_85 : decode prog_28_method_1_code 85 = .ok (.getfield 27, 3) := by decide +kernel
theorem d1_88 : decode prog_28_method_1_code 88 = .ok (.iconst 2, 1) := by decide +kernel
theorem d1_89 : decode prog_28_method_1_code 89 = .ok (.iload_n 3, 1) := by decide +kernel
theorem d1_90 : decode prog_28_method_1_code 90 = .ok (.imul, 1) := by decide +kernel
theorem d1_91 : decode prog_28_method_1_code 91 = .ok (.iconst 1, 1) := by decide +kernel
theorem d1_92 : decode prog_28_method_1_code 92 = .ok (.iadd, 1) := by decide +kernel
theorem d1_93 : decode prog_28_method_1_code 93 = .ok (.daload, 1) := by decide +kernel
theorem d1_94 : decode prog_28_method_1_code 94 = .ok (.dadd, 1) := by decide +kernel
theorem d1_95 : decode prog_28_method_1_code 95 = .ok (.dastore, 1) := by decide +kernel
theorem d1_96 : decode prog_28_method_1_code 96 = .ok (.iinc 3 (-1), 3) := by decide +kernel
theorem d1_99 : decode prog_28_method_1_code 99 = .ok (.goto (-33), 3) := by decide +kernel
theorem d1_102 : decode prog_28_method_1_code 102 = .ok (.return_, 1) := by decide +kernel
theorem pn_rin : plainName "com/example/velar/velar/WeightedDraws" = true := by first | (simp [plainName, overriddenIn]; done) | decide +kernel
theorem ef_rin (m : MethodId) (x0 : Addr) (x1 : Addr) : entryFrame m #[(.ref x0), (.ref x1)] 4 = mkF m 0 #[.val (.ref x0), .val (.ref x1), .unset, .unset] [] := by first | (simp [entryFrame, mkF, argsToLocals, Value.category]; done) | rfl
def Q_rin (Z : State) (a1 : Addr) (a2 : Addr) (w0 w1 w2 : Int64) (h0 : Heap) (n0 : Nat) (v : Option Value) (h : Heap) (L : List Loc) : Prop := ∃ aS aD aE : Addr, v = none ∧ Fr n0 L ∧ Keep h0 h [a1] ∧ h0.size ≤ aS ∧ h0.size ≤ aD ∧ h0.size ≤ aE ∧ aS ≠ aD ∧ aS ≠ aE ∧ aD ≠ aE ∧ Fld Z h a1 "com/example/velar/velar/WeightedDraws" "leaves" "I" (.int (4 : Int32)) ∧ Fld Z h a1 "com/example/velar/velar/WeightedDraws" "sums" "[D" (.ref aS) ∧ Fld Z h a1 "com/example/velar/velar/WeightedDraws" "drawn" "[I" (.ref aD) ∧ Fld Z h a1 "com/example/velar/velar/WeightedDraws" "drawnWeights" "[D" (.ref aE) ∧ Fld Z h a1 "com/example/velar/velar/WeightedDraws" "drawnCount" "I" (.int (0 : Int32)) ∧ ArF Z h aS .double 8 (fun i => .double (FP.l2d (own_t (own_M w0 w1 w2) i))) ∧ ArF Z h aD .int 64 (fun i => .int (own_zD i)) ∧ ArF Z h aE .double 64 (fun i => .double (FP.l2d (own_zX i)))
set_option maxRecDepth 65536 in
set_option maxHeartbeats 40000000 in
theorem rin (l : Launch) (Z : State) (a0 : Array Value) (hw : ∀ d ∈ tables_1, d.before a0 Z = true) (ws : List Jvm.Cond) (a1 : Addr) (a2 : Addr) (w0 w1 w2 : Int64) (h0 : Heap) (n0 : Nat) (Z0 : n0 ≤ h0.size) (Ex : Exa Z h0 a1 "com/example/velar/velar/WeightedDraws") (F_leaves : Fld Z h0 a1 "com/example/velar/velar/WeightedDraws" "leaves" "I" (.int (0 : Int32))) (F_sums : Fld Z h0 a1 "com/example/velar/velar/WeightedDraws" "sums" "[D" .null) (F_drawn : Fld Z h0 a1 "com/example/velar/velar/WeightedDraws" "drawn" "[I" .null) (F_drawnWeights : Fld Z h0 a1 "com/example/velar/velar/WeightedDraws" "drawnWeights" "[D" .null) (F_drawnCount : Fld Z h0 a1 "com/example/velar/velar/WeightedDraws" "drawnCount" "I" (.int (0 : Int32))) (Vw : ArF Z h0 a2 .double 3 (fun i => .double (FP.l2d (own_w w0 w1 w2 i)))) (ga : n0 ≤ a1) (hne : a1 ≠ a2) (hw0 : own_Lb 16 w0) (hw1 : own_Lb 16 w1) (hw2 : own_Lb 16 w2) :
    MetFree l (⟨"com/example/velar/velar/WeightedDraws", "<init>", "([D)V"⟩ : MethodName) (head1 (Jvm.Cond.code (⟨"com/example/velar/velar/WeightedDraws", "<init>", "([D)V"⟩ : MethodName) prog_28_method_1_code 4 none :: ws) ({ frames := 2, cells := 3, slots := 136, locals := 64 } : Room)) (fun a U => a = #[(.ref a1), (.ref a2)] ∧ Z.Warmed39 U.vm ∧ U.heap = h0) (fun _ _ _ _ _ => True) (fun _ U o U' => ∃ v L, o = .returned v ∧ Q_rin Z a1 a2 w0 w1 w2 h0 n0 v U'.heap L ∧ FrameEnd U o U' L ({ frames := 2, cells := 3, slots := 136, locals := 64 } : Room).cells ({ frames := 2, cells := 3, slots := 136, locals := 64 } : Room).slots) := by
  refine MetFree.of_bodySF (plainFor_of_name pn_rin) hisR ?_
  intro p e s m args below meth c s₁ Bd hml0 hP hK
  obtain ⟨rfl, hZ, hh⟩ := hP
  have hx := Bd.exec
  have hby := Bd.bytes
  have hml : c.maxLocals = 4 := hml0
  have hown : s.vm.findClass "com/example/velar/velar/WeightedDraws" = some m.cls := findClass_of_methodNamed Bd.named
  have hnm := (name_of_methodNamed Bd.named Bd.method).1
  have X0 : Stand p l e ({ frames := 2, cells := 3, slots := 136, locals := 64 } : Room) s m #[(.ref a1), (.ref a2)] below meth c s₁ [] 0 0 := Stand.of_body Bd
  have e0 : s₁.heap = h0 := by rw [← hh, Bd.state]; rfl
  have N0 := Fr.nil n0
  have pre0 : ∀ t, Steps p.tables e below (s₁.setTop (mkF m 0 #[.val (.ref a1), .val (.ref a2), .unset, .unset] [])) t → Steps p.tables e below (s₁.setTop (entryFrame m #[(.ref a1), (.ref a2)] 4)) t := fun t k => castTop (ef_rin m a1 a2) k
  have K0 := Keep.refl h0 [a1]
  obtain ⟨T1, X1, e1, st1⟩ := initO X0 hx hZ hown (hw _ (List.mem_of_getElem? (i := 7) rfl)) (hw _ (List.mem_of_getElem? (i := 8) rfl)) (hw _ (List.mem_of_getElem? (i := 9) rfl)) e0 (g := (mkF m 1 #[.val (.ref a1), .val (.ref a2), .unset, .unset] [(.ref a1)])) rfl (by rw [hml]; rfl) rfl (hb hby d1_1) (by decide) (W := 0) (by show 2 * 0 + _ ≤ _; exact Nat.le_of_eq rfl) (by decide)
  obtain ⟨T2, h2, k2, X2, e2, E2, A2, st2⟩ := newP X1 hx hZ (hw _ (List.mem_of_getElem? (i := 10) rfl)) e1 (g := (mkF m 7 #[.val (.ref a1), .val (.ref a2), .unset, .unset] [(.int (64 : Int32)), (.ref a1)])) rfl (hb hby d1_7) rfl (by decide) (cap := 64) (by decide) (by decide) (by decide) (by decide)
  obtain ⟨b2, g2⟩ : ∃ z, z = h0.size := ⟨_, rfl⟩
  rw [← g2] at A2 st2
  have ne_a1_b2 : a1 ≠ b2 := Nat.ne_of_lt (Nat.lt_of_lt_of_le Ex.lt (Nat.le_of_eq g2.symm))
  have ne_a2_b2 : a2 ≠ b2 := Nat.ne_of_lt (Nat.lt_of_lt_of_le Vw.lt (Nat.le_of_eq g2.symm))
  have g_b2 : n0 ≤ b2 := Nat.le_trans Z0 (Nat.le_of_eq g2.symm)
  have sz_b2 : h0.size ≤ b2 := Nat.le_trans K0.1 (Nat.le_of_eq g2.symm)
  have Ex_v2 := Ex.ext E2
  have F_leaves_v2 := F_leaves.ext E2
  have F_sums_v2 := F_sums.ext E2
  have F_drawn_v2 := F_drawn.ext E2
  have F_drawnWeights_v2 := F_drawnWeights.ext E2
  have F_drawnCount_v2 := F_drawnCount.ext E2
  have Vw_v2 := Vw.ext E2
  have Z2 : n0 ≤ h2.size := Nat.le_trans Z0 E2.1
  have K2 := K0.ext E2
  have V2_v2 : ArF Z h2 b2 .int 64 (fun _ => (.int 0)) := ArF.mk0 A2 rfl rfl
  obtain ⟨T3, h3, X3, e3, W3, st3⟩ := putF X2 hx hZ hown (host := "") (Or.inl (hw _ (List.mem_of_getElem? (i := 11) rfl))) Via.refl e2 F_drawn_v2 Ex_v2 (Or.inl (hw _ (List.mem_of_getElem? (i := 12) rfl))) (hw _ (List.mem_of_getElem? (i := 2) rfl)) (ty := (.array .int)) (by decide) rfl rfl (g := (mkF m 9 #[.val (.ref a1), .val (.ref a2), .unset, .unset] [(.ref b2), (.ref a1)])) rfl rfl (hb hby d1_9)
  have Ex_v3 := Ex_v2.wr W3
  have F_leaves_v3 := F_leaves_v2.other W3 (Or.inr (slot_ne (Or.inr (hw _ (List.mem_of_getElem? (i := 25) rfl))) (Or.inl (hw _ (List.mem_of_getElem? (i := 12) rfl))) (by decide) (t := .int) (t' := (.array .int)) (by decide) (by decide)))
  have F_sums_v3 := F_sums_v2.other W3 (Or.inr (slot_ne (Or.inr (hw _ (List.mem_of_getElem? (i := 27) rfl))) (Or.inl (hw _ (List.mem_of_getElem? (i := 12) rfl))) (by decide) (t := (.array .double)) (t' := (.array .int)) (by decide) (by decide)))
  have F_drawnWeights_v3 := F_drawnWeights_v2.other W3 (Or.inr (slot_ne (Or.inl (hw _ (List.mem_of_getElem? (i := 14) rfl))) (Or.inl (hw _ (List.mem_of_getElem? (i := 12) rfl))) (by decide) (t := (.array .double)) (t' := (.array .int)) (by decide) (by decide)))
  have F_drawnCount_v3 := F_drawnCount_v2.other W3 (Or.inr (slot_ne (Or.inl (hw _ (List.mem_of_getElem? (i := 46) rfl))) (Or.inl (hw _ (List.mem_of_getElem? (i := 12) rfl))) (by decide) (t := .int) (t' := (.array .int)) (by decide) (by decide)))
  have Vw_v3 := Vw_v2.other W3 (Ne.symm hne)
  have V2_v3 := V2_v2.other W3 (Ne.symm ne_a1_b2)
  have Z3 : n0 ≤ h3.size := Nat.le_trans Z2 (Nat.le_of_eq W3.size.symm)
  have K3 := K2.wr W3 (Or.inl (by simp))
  have F3_v3 : Fld Z h3 a1 "com/example/velar/velar/WeightedDraws" "drawn" "[I" (.ref b2) := F_drawn_v2.same W3
  have N3 := Fr.snoc X3 N0 ga
  obtain ⟨T4, h4, k4, X4, e4, E4, A4, st4⟩ := newP X3 hx hZ (hw _ (List.mem_of_getElem? (i := 0) rfl)) e3 (g := (mkF m 15 #[.val (.ref a1), .val (.ref a2), .unset, .unset] [(.int (64 : Int32)), (.ref a1)])) rfl (hb hby d1_15) rfl (by decide) (cap := 64) (by decide) (by decide) (by decide) (by decide)
  obtain ⟨b4, g4⟩ : ∃ z, z = h3.size := ⟨_, rfl⟩
  rw [← g4] at A4 st4
  have ne_a1_b4 : a1 ≠ b4 := Nat.ne_of_lt (Nat.lt_of_lt_of_le Ex_v3.lt (Nat.le_of_eq g4.symm))
  have ne_a2_b4 : a2 ≠ b4 := Nat.ne_of_lt (Nat.lt_of_lt_of_le Vw_v3.lt (Nat.le_of_eq g4.symm))
  have ne_b2_b4 : b2 ≠ b4 := Nat.ne_of_lt (Nat.lt_of_lt_of_le V2_v3.lt (Nat.le_of_eq g4.symm))
  have g_b4 : n0 ≤ b4 := Nat.le_trans Z3 (Nat.le_of_eq g4.symm)
  have sz_b4 : h0.size ≤ b4 := Nat.le_trans K3.1 (Nat.le_of_eq g4.symm)
  have Ex_v4 := Ex_v3.ext E4
  have F_leaves_v4 := F_leaves_v3.ext E4
  have F_sums_v4 := F_sums_v3.ext E4
  have F_drawnWeights_v4 := F_drawnWeights_v3.ext E4
  have F_drawnCount_v4 := F_drawnCount_v3.ext E4
  have Vw_v4 := Vw_v3.ext E4
  have V2_v4 := V2_v3.ext E4
  have F3_v4 := F3_v3.ext E4
  have Z4 : n0 ≤ h4.size := Nat.le_trans Z3 E4.1
  have K4 := K3.ext E4
  have V4_v4 : ArF Z h4 b4 .double 64 (fun _ => (.double 0)) := ArF.mk0 A4 rfl rfl
  obtain ⟨T5, h5, X5, e5, W5, st5⟩ := putF X4 hx hZ hown (host := "") (Or.inl (hw _ (List.mem_of_getElem? (i := 13) rfl))) Via.refl e4 F_drawnWeights_v4 Ex_v4 (Or.inl (hw _ (List.mem_of_getElem? (i := 14) rfl))) (hw _ (List.mem_of_getElem? (i := 2) rfl)) (ty := (.array .double)) (by decide) rfl rfl (g := (mkF m 17 #[.val (.ref a1), .val (.ref a2), .unset, .unset] [(.ref b4), (.ref a1)])) rfl rfl (hb hby d1_17)
  have Ex_v5 := Ex_v4.wr W5
  have F_leaves_v5 := F_leaves_v4.other W5 (Or.inr (slot_ne (Or.inr (hw _ (List.mem_of_getElem? (i := 25) rfl))) (Or.inl (hw _ (List.mem_of_getElem? (i := 14) rfl))) (by decide) (t := .int) (t' := (.array .double)) (by decide) (by decide)))
  have F_sums_v5 := F_sums_v4.other W5 (Or.inr (slot_ne (Or.inr (hw _ (List.mem_of_getElem? (i := 27) rfl))) (Or.inl (hw _ (List.mem_of_getElem? (i := 14) rfl))) (by decide) (t := (.array .double)) (t' := (.array .double)) (by decide) (by decide)))
  have F_drawnCount_v5 := F_drawnCount_v4.other W5 (Or.inr (slot_ne (Or.inl (hw _ (List.mem_of_getElem? (i := 46) rfl))) (Or.inl (hw _ (List.mem_of_getElem? (i := 14) rfl))) (by decide) (t := .int) (t' := (.array .double)) (by decide) (by decide)))
  have Vw_v5 := Vw_v4.other W5 (Ne.symm hne)
  have V2_v5 := V2_v4.other W5 (Ne.symm ne_a1_b2)
  have F3_v5 := F3_v4.other W5 (Or.inr (slot_ne (Or.inl (hw _ (List.mem_of_getElem? (i := 12) rfl))) (Or.inl (hw _ (List.mem_of_getElem? (i := 14) rfl))) (by decide) (t := (.array .int)) (t' := (.array .double)) (by decide) (by decide)))
  have V4_v5 := V4_v4.other W5 (Ne.symm ne_a1_b4)
  have Z5 : n0 ≤ h5.size := Nat.le_trans Z4 (Nat.le_of_eq W5.size.symm)
  have K5 := K4.wr W5 (Or.inl (by simp))
  have F5_v5 : Fld Z h5 a1 "com/example/velar/velar/WeightedDraws" "drawnWeights" "[D" (.ref b4) := F_drawnWeights_v4.same W5
  have N5 := Fr.snoc X5 N3 ga
  obtain ⟨cl6, Ar6, S6, H6⟩ := id Vw_v5
  obtain ⟨_, _, ⟨T7, L7, k7, n7⟩, -, X7, ⟨Lc7, hQ7, l7, y7, z7⟩, st7⟩ := Jvm.LawKit.callS X5 hx (y := (⟨"java/lang/Integer", "highestOneBit", "(I)I"⟩ : MethodName)) hown (mvT hZ (hw _ (List.mem_of_getElem? (i := 15) rfl))) (mvT hZ (hw _ (List.mem_of_getElem? (i := 16) rfl))) (mvT hZ (hw _ (List.mem_of_getElem? (i := 17) rfl))) (mvT hZ (hw _ (List.mem_of_getElem? (i := 18) rfl))) (by decide) (backOf (W := 0) (rmh l Z a0 hw [] (3 : Int32) h5 n0 Z5) hZ (hw _ (List.mem_of_getElem? (i := 18) rfl)) (hw _ (List.mem_of_getElem? (i := 17) rfl)) (by decide) (by decide)) (g := (mkF m 22 #[.val (.ref a1), .val (.ref a2), .unset, .unset] [(.int (3 : Int32))])) rfl (by rw [hml]; rfl) (argsL := [(.int (3 : Int32))]) (rest := []) (lenOf pd_0 rfl) rfl (by show 2 * 0 + _ ≤ _; exact Nat.le_of_eq rfl) (hb hby d1_22) (fun _ _ => ⟨rfl, e5, (by decide : 2 + 0 ≤ _), (by decide : 128 + 0 ≤ _)⟩)
  dsimp only [Pt.U, Pt.locs, Pt.cells, Pt.slots] at X7 l7 y7 z7 st7 hQ7
  subst l7 y7 z7
  obtain ⟨rfl, N7q, e7⟩ := hQ7
  have N7 := Fr.app N5 N7q
  obtain ⟨cl8, Ar8, S8, H8⟩ := id Vw_v5
  obtain ⟨T9, h9, X9, e9, W9, st9⟩ := putF X7 hx hZ hown (host := "") (Or.inl (hw _ (List.mem_of_getElem? (i := 24) rfl))) Via.refl e7 F_leaves_v5 Ex_v5 (Or.inr ⟨(hw _ (List.mem_of_getElem? (i := 25) rfl)), rfl, hnm⟩) (hw _ (List.mem_of_getElem? (i := 2) rfl)) (ty := .int) (by decide) rfl rfl (g := (mkF m 38 #[.val (.ref a1), .val (.ref a2), .val (.int (4 : Int32)), .unset] [(.int (4 : Int32)), (.ref a1)])) rfl rfl (hb hby d1_38)
  have Ex_v9 := Ex_v5.wr W9
  have F_sums_v9 := F_sums_v5.other W9 (Or.inr (slot_ne (Or.inr (hw _ (List.mem_of_getElem? (i := 27) rfl))) (Or.inr (hw _ (List.mem_of_getElem? (i := 25) rfl))) (by decide) (t := (.array .double)) (t' := .int) (by decide) (by decide)))
  have F_drawnCount_v9 := F_drawnCount_v5.other W9 (Or.inr (slot_ne (Or.inl (hw _ (List.mem_of_getElem? (i := 46) rfl))) (Or.inr (hw _ (List.mem_of_getElem? (i := 25) rfl))) (by decide) (t := .int) (t' := .int) (by decide) (by decide)))
  have Vw_v9 := Vw_v5.other W9 (Ne.symm hne)
  have V2_v9 := V2_v5.other W9 (Ne.symm ne_a1_b2)
  have F3_v9 := F3_v5.other W9 (Or.inr (slot_ne (Or.inl (hw _ (List.mem_of_getElem? (i := 12) rfl))) (Or.inr (hw _ (List.mem_of_getElem? (i := 25) rfl))) (by decide) (t := (.array .int)) (t' := .int) (by decide) (by decide)))
  have V4_v9 := V4_v5.other W9 (Ne.symm ne_a1_b4)
  have F5_v9 := F5_v5.other W9 (Or.inr (slot_ne (Or.inl (hw _ (List.mem_of_getElem? (i := 14) rfl))) (Or.inr (hw _ (List.mem_of_getElem? (i := 25) rfl))) (by decide) (t := (.array .double)) (t' := .int) (by decide) (by decide)))
  have Z9 : n0 ≤ h9.size := Nat.le_trans Z5 (Nat.le_of_eq W9.size.symm)
  have K9 := K5.wr W9 (Or.inl (by simp))
  have F9_v9 : Fld Z h9 a1 "com/example/velar/velar/WeightedDraws" "leaves" "I" (.int (4 : Int32)) := F_leaves_v5.same W9
  have N9 := Fr.snoc X9 N7 ga
  obtain ⟨T10, h10, k10, X10, e10, E10, A10, st10⟩ := newP X9 hx hZ (hw _ (List.mem_of_getElem? (i := 0) rfl)) e9 (g := (mkF m 45 #[.val (.ref a1), .val (.ref a2), .val (.int (4 : Int32)), .unset] [(.int (8 : Int32)), (.ref a1)])) rfl (hb hby d1_45) rfl (by decide) (cap := 8) (by decide) (by decide) (by decide) (by decide)
  obtain ⟨b10, g10⟩ : ∃ z, z = h9.size := ⟨_, rfl⟩
  rw [← g10] at A10 st10
  have ne_a1_b10 : a1 ≠ b10 := Nat.ne_of_lt (Nat.lt_of_lt_of_le Ex_v9.lt (Nat.le_of_eq g10.symm))
  have ne_a2_b10 : a2 ≠ b10 := Nat.ne_of_lt (Nat.lt_of_lt_of_le Vw_v9.lt (Nat.le_of_eq g10.symm))
  have ne_b2_b10 : b2 ≠ b10 := Nat.ne_of_lt (Nat.lt_of_lt_of_le V2_v9.lt (Nat.le_of_eq g10.symm))
  have ne_b4_b10 : b4 ≠ b10 := Nat.ne_of_lt (Nat.lt_of_lt_of_le V4_v9.lt (Nat.le_of_eq g10.symm))
  have g_b10 : n0 ≤ b10 := Nat.le_trans Z9 (Nat.le_of_eq g10.symm)
  have sz_b10 : h0.size ≤ b10 := Nat.le_trans K9.1 (Nat.le_of_eq g10.symm)
  have Ex_v10 := Ex_v9.ext E10
  have F_sums_v10 := F_sums_v9.ext E10
  have F_drawnCount_v10 := F_drawnCount_v9.ext E10
  have Vw_v10 := Vw_v9.ext E10
  have V2_v10 := V2_v9.ext E10
  have F3_v10 := F3_v9.ext E10
  have V4_v10 := V4_v9.ext E10
  have F5_v10 := F5_v9.ext E10
  have F9_v10 := F9_v9.ext E10
  have Z10 : n0 ≤ h10.size := Nat.le_trans Z9 E10.1
  have K10 := K9.ext E10
  have V10_v10 : ArF Z h10 b10 .double 8 (fun _ => (.double 0)) := ArF.mk0 A10 rfl rfl
  obtain ⟨T11, h11, X11, e11, W11, st11⟩ := putF X10 hx hZ hown (host := "") (Or.inl (hw _ (List.mem_of_getElem? (i := 26) rfl))) Via.refl e10 F_sums_v10 Ex_v10 (Or.inr ⟨(hw _ (List.mem_of_getElem? (i := 27) rfl)), rfl, hnm⟩) (hw _ (List.mem_of_getElem? (i := 2) rfl)) (ty := (.array .double)) (by decide) rfl rfl (g := (mkF m 47 #[.val (.ref a1), .val (.ref a2), .val (.int (4 : Int32)), .unset] [(.ref b10), (.ref a1)])) rfl rfl (hb hby d1_47)
  have Ex_v11 := Ex_v10.wr W11
  have F_drawnCount_v11 := F_drawnCount_v10.other W11 (Or.inr (slot_ne (Or.inl (hw _ (List.mem_of_getElem? (i := 46) rfl))) (Or.inr (hw _ (List.mem_of_getElem? (i := 27) rfl))) (by decide) (t := .int) (t' := (.array .double)) (by decide) (by decide)))
  have Vw_v11 := Vw_v10.other W11 (Ne.symm hne)
  have V2_v11 := V2_v10.other W11 (Ne.symm ne_a1_b2)
  have F3_v11 := F3_v10.other W11 (Or.inr (slot_ne (Or.inl (hw _ (List.mem_of_getElem? (i := 12) rfl))) (Or.inr (hw _ (List.mem_of_getElem? (i := 27) rfl))) (by decide) (t := (.array .int)) (t' := (.array .double)) (by decide) (by decide)))
  have V4_v11 := V4_v10.other W11 (Ne.symm ne_a1_b4)
  have F5_v11 := F5_v10.other W11 (Or.inr (slot_ne (Or.inl (hw _ (List.mem_of_getElem? (i := 14) rfl))) (Or.inr (hw _ (List.mem_of_getElem? (i := 27) rfl))) (by decide) (t := (.array .double)) (t' := (.array .double)) (by decide) (by decide)))
  have F9_v11 := F9_v10.other W11 (Or.inr (slot_ne (Or.inr (hw _ (List.mem_of_getElem? (i := 25) rfl))) (Or.inr (hw _ (List.mem_of_getElem? (i := 27) rfl))) (by decide) (t := .int) (t' := (.array .double)) (by decide) (by decide)))
  have V10_v11 := V10_v10.other W11 (Ne.symm ne_a1_b10)
  have Z11 : n0 ≤ h11.size := Nat.le_trans Z10 (Nat.le_of_eq W11.size.symm)
  have K11 := K10.wr W11 (Or.inl (by simp))
  have F11_v11 : Fld Z h11 a1 "com/example/velar/velar/WeightedDraws" "sums" "[D" (.ref b10) := F_sums_v10.same W11
  have N11 := Fr.snoc X11 N9 ga
  obtain ⟨T12, X12, e12, st12⟩ := getF X11 hx hZ hown (host := "") (Or.inl (hw _ (List.mem_of_getElem? (i := 26) rfl))) Via.refl e11 F11_v11 (g := (mkF m 53 #[.val (.ref a1), .val (.ref a2), .val (.int (4 : Int32)), .unset] [(.ref a1), (.int (0 : Int32)), (.ref a2)])) rfl rfl (hb hby d1_53)
  obtain ⟨cl13, Ar13, S13, H13⟩ := id Vw_v11
  obtain ⟨ka14, VA14⟩ := ArF.arv (z := (3 : Int32)) Vw_v11 (by decide) (fun i => rfl) .null
  obtain ⟨kb14, VB14⟩ := ArF.arv (z := (8 : Int32)) V10_v11 (by decide) (fun _ => rfl) .null
  obtain ⟨T14, h14, L14, X14, e14, N14, Kc14, VC14, st14⟩ := cpA X12 hx hZ hown (hw _ (List.mem_of_getElem? (i := 28) rfl)) (hw _ (List.mem_of_getElem? (i := 31) rfl)) (hw _ (List.mem_of_getElem? (i := 29) rfl)) (hw _ (List.mem_of_getElem? (i := 30) rfl)) e12 VA14 VB14 (Or.inl ⟨rfl, rfl⟩) (sp := (0 : Int32)) (dp := (4 : Int32)) (nn := (3 : Int32)) (by decide) (by decide) (by decide) (by decide) (by decide) rfl (by decide) N11 g_b10 (g := (mkF m 59 #[.val (.ref a1), .val (.ref a2), .val (.int (4 : Int32)), .unset] [(.int (3 : Int32)), (.int (4 : Int32)), (.ref b10), (.int (0 : Int32)), (.ref a2)])) rfl (by rw [hml]; rfl) rfl (hb hby d1_59) (by decide) (W := 0) (by show 2 * 0 + _ ≤ _; exact Nat.le_of_eq rfl) (by decide)
  have Ex_v14 := Ex_v11.keep Kc14
  have F_drawnCount_v14 := F_drawnCount_v11.keep Kc14 (ninS ne_a1_b10 nin0)
  have Vw_v14 := Vw_v11.keep Kc14 (ninS ne_a2_b10 nin0)
  have V2_v14 := V2_v11.keep Kc14 (ninS ne_b2_b10 nin0)
  have F3_v14 := F3_v11.keep Kc14 (ninS ne_a1_b10 nin0)
  have V4_v14 := V4_v11.keep Kc14 (ninS ne_b4_b10 nin0)
  have F5_v14 := F5_v11.keep Kc14 (ninS ne_a1_b10 nin0)
  have F9_v14 := F9_v11.keep Kc14 (ninS ne_a1_b10 nin0)
  have F11_v14 := F11_v11.keep Kc14 (ninS ne_a1_b10 nin0)
  have Z14 : n0 ≤ h14.size := Nat.le_trans Z11 Kc14.1
  have KK14 := K11.trans Kc14 (allS (Or.inr sz_b10) all0)
  have VF14_v14 : ArF Z h14 b10 .double 8 (fun i => .double (FP.l2d (own_i w0 w1 w2 i))) := (Arv.arF VC14).congr (fun i hi => by
    match i, hi with
    | 0, _ => exact congrArg Value.double (by exact l2d_zero.symm)
    | 1, _ => exact congrArg Value.double (by exact l2d_zero.symm)
    | 2, _ => exact congrArg Value.double (by exact l2d_zero.symm)
    | 3, _ => exact congrArg Value.double (by exact l2d_zero.symm)
    | 4, _ => exact congrArg Value.double (by rfl)
    | 5, _ => exact congrArg Value.double (by rfl)
    | 6, _ => exact congrArg Value.double (by rfl)
    | 7, _ => exact congrArg Value.double (by exact l2d_zero.symm))
  obtain ⟨T15, X15, e15, st15⟩ := getF X14 hx hZ hown (host := "") (Or.inl (hw _ (List.mem_of_getElem? (i := 26) rfl))) Via.refl e14 F11_v14 (g := (mkF m 72 #[.val (.ref a1), .val (.ref a2), .val (.int (4 : Int32)), .val (.int (3 : Int32))] [(.ref a1)])) rfl rfl (hb hby d1_72)
  obtain ⟨T16, X16, e16, st16⟩ := getF X15 hx hZ hown (host := "") (Or.inl (hw _ (List.mem_of_getElem? (i := 26) rfl))) Via.refl e15 F11_v14 (g := (mkF m 77 #[.val (.ref a1), .val (.ref a2), .val (.int (4 : Int32)), .val (.int (3 : Int32))] [(.ref a1), (.int (3 : Int32)), (.ref b10)])) rfl rfl (hb hby d1_77)
  obtain ⟨cl17, Ar17, S17, H17⟩ := id VF14_v14
  have hin17 : ¬ ((6 : Int32) < 0 ∨ cl17.slots.size ≤ ((6 : Int32)).toNatClampNeg) := inA S17 (by decide) (by decide)
  have hat17 : cl17.slots[((6 : Int32)).toNatClampNeg]? = some (.double (FP.l2d w2)) := ArF.at S17 H17 hin17 rfl
  obtain ⟨T18, X18, e18, st18⟩ := getF X16 hx hZ hown (host := "") (Or.inl (hw _ (List.mem_of_getElem? (i := 26) rfl))) Via.refl e16 F11_v14 (g := (mkF m 85 #[.val (.ref a1), .val (.ref a2), .val (.int (4 : Int32)), .val (.int (3 : Int32))] [(.ref a1), (.double (FP.l2d w2)), (.int (3 : Int32)), (.ref b10)])) rfl rfl (hb hby d1_85)
  obtain ⟨cl19, Ar19, S19, H19⟩ := id VF14_v14
  have hin19 : ¬ ((7 : Int32) < 0 ∨ cl19.slots.size ≤ ((7 : Int32)).toNatClampNeg) := inA S19 (by decide) (by decide)
  have hat19 : cl19.slots[((7 : Int32)).toNatClampNeg]? = some (.double (FP.l2d (0 : Int64))) := ArF.at S19 H19 hin19 rfl
  obtain ⟨cl20, Ar20, S20, H20⟩ := id VF14_v14
  have hin20 : ¬ ((3 : Int32) < 0 ∨ cl20.slots.size ≤ ((3 : Int32)).toNatClampNeg) := inA S20 (by decide) (by decide)
  obtain ⟨T20, h20, X20, e20, W20, st20⟩ := stD X18 hx hZ e18 Ar20 (j := (3 : Int32)) hin20 (g := (mkF m 95 #[.val (.ref a1), .val (.ref a2), .val (.int (4 : Int32)), .val (.int (3 : Int32))] [(.double (FP.l2d (w2 + (0 : Int64)))), (.int (3 : Int32)), (.ref b10)])) rfl rfl (hb hby d1_95)
  have Ex_v20 := Ex_v14.wr W20
  have F_drawnCount_v20 := F_drawnCount_v14.other W20 (Or.inl ne_a1_b10)
  have Vw_v20 := Vw_v14.other W20 ne_a2_b10
  have V2_v20 := V2_v14.other W20 ne_b2_b10
  have F3_v20 := F3_v14.other W20 (Or.inl ne_a1_b10)
  have V4_v20 := V4_v14.other W20 ne_b4_b10
  have F5_v20 := F5_v14.other W20 (Or.inl ne_a1_b10)
  have F9_v20 := F9_v14.other W20 (Or.inl ne_a1_b10)
  have F11_v20 := F11_v14.other W20 (Or.inl ne_a1_b10)
  have Z20 : n0 ≤ h20.size := Nat.le_trans Z14 (Nat.le_of_eq W20.size.symm)
  have K20 := KK14.wr W20 (Or.inr sz_b10)
  have V20_v20 := ArF.set Ar20 S20 H20 W20 hin20
  have N20 := Fr.snoc X20 N14 g_b10
  obtain ⟨T21, X21, e21, st21⟩ := getF X20 hx hZ hown (host := "") (Or.inl (hw _ (List.mem_of_getElem? (i := 26) rfl))) Via.refl e20 F11_v20 (g := (mkF m 72 #[.val (.ref a1), .val (.ref a2), .val (.int (4 : Int32)), .val (.int (2 : Int32))] [(.ref a1)])) rfl rfl (hb hby d1_72)
  obtain ⟨T22, X22, e22, st22⟩ := getF X21 hx hZ hown (host := "") (Or.inl (hw _ (List.mem_of_getElem? (i := 26) rfl))) Via.refl e21 F11_v20 (g := (mkF m 77 #[.val (.ref a1), .val (.ref a2), .val (.int (4 : Int32)), .val (.int (2 : Int32))] [(.ref a1), (.int (2 : Int32)), (.ref b10)])) rfl rfl (hb hby d1_77)
  obtain ⟨cl23, Ar23, S23, H23⟩ := id V20_v20
  have hin23 : ¬ ((4 : Int32) < 0 ∨ cl23.slots.size ≤ ((4 : Int32)).toNatClampNeg) := inA S23 (by decide) (by decide)
  have hat23 : cl23.slots[((4 : Int32)).toNatClampNeg]? = some (.double (FP.l2d w0)) := ArF.at S23 H23 hin23 rfl
  obtain ⟨T24, X24, e24, st24⟩ := getF X22 hx hZ hown (host := "") (Or.inl (hw _ (List.mem_of_getElem? (i := 26) rfl))) Via.refl e22 F11_v20 (g := (mkF m 85 #[.val (.ref a1), .val (.ref a2), .val (.int (4 : Int32)), .val (.int (2 : Int32))] [(.ref a1), (.double (FP.l2d w0)), (.int (2 : Int32)), (.ref b10)])) rfl rfl (hb hby d1_85)
  obtain ⟨cl25, Ar25, S25, H25⟩ := id V20_v20
  have hin25 : ¬ ((5 : Int32) < 0 ∨ cl25.slots.size ≤ ((5 : Int32)).toNatClampNeg) := inA S25 (by decide) (by decide)
  have hat25 : cl25.slots[((5 : Int32)).toNatClampNeg]? = some (.double (FP.l2d w1)) := ArF.at S25 H25 hin25 rfl
  obtain ⟨cl26, Ar26, S26, H26⟩ := id V20_v20
  have hin26 : ¬ ((2 : Int32) < 0 ∨ cl26.slots.size ≤ ((2 : Int32)).toNatClampNeg) := inA S26 (by decide) (by decide)
  obtain ⟨T26, h26, X26, e26, W26, st26⟩ := stD X24 hx hZ e24 Ar26 (j := (2 : Int32)) hin26 (g := (mkF m 95 #[.val (.ref a1), .val (.ref a2), .val (.int (4 : Int32)), .val (.int (2 : Int32))] [(.double (FP.l2d (w0 + w1))), (.int (2 : Int32)), (.ref b10)])) rfl rfl (hb hby d1_95)
  have Ex_v26 := Ex_v20.wr W26
  have F_drawnCount_v26 := F_drawnCount_v20.other W26 (Or.inl ne_a1_b10)
  have Vw_v26 := Vw_v20.other W26 ne_a2_b10
  have V2_v26 := V2_v20.other W26 ne_b2_b10
  have F3_v26 := F3_v20.other W26 (Or.inl ne_a1_b10)
  have V4_v26 := V4_v20.other W26 ne_b4_b10
  have F5_v26 := F5_v20.other W26 (Or.inl ne_a1_b10)
  have F9_v26 := F9_v20.other W26 (Or.inl ne_a1_b10)
  have F11_v26 := F11_v20.other W26 (Or.inl ne_a1_b10)
  have Z26 : n0 ≤ h26.size := Nat.le_trans Z20 (Nat.le_of_eq W26.size.symm)
  have K26 := K20.wr W26 (Or.inr sz_b10)
  have V26_v26 := ArF.set Ar26 S26 H26 W26 hin26
  have N26 := Fr.snoc X26 N20 g_b10
  obtain ⟨T27, X27, e27, st27⟩ := getF X26 hx hZ hown (host := "") (Or.inl (hw _ (List.mem_of_getElem? (i := 26) rfl))) Via.refl e26 F11_v26 (g := (mkF m 72 #[.val (.ref a1), .val (.ref a2), .val (.int (4 : Int32)), .val (.int (1 : Int32))] [(.ref a1)])) rfl rfl (hb hby d1_72)
  obtain ⟨T28, X28, e28, st28⟩ := getF X27 hx hZ hown (host := "") (Or.inl (hw _ (List.mem_of_getElem? (i := 26) rfl))) Via.refl e27 F11_v26 (g := (mkF m 77 #[.val (.ref a1), .val (.ref a2), .val (.int (4 : Int32)), .val (.int (1 : Int32))] [(.ref a1), (.int (1 : Int32)), (.ref b10)])) rfl rfl (hb hby d1_77)
  obtain ⟨cl29, Ar29, S29, H29⟩ := id V26_v26
  have hin29 : ¬ ((2 : Int32) < 0 ∨ cl29.slots.size ≤ ((2 : Int32)).toNatClampNeg) := inA S29 (by decide) (by decide)
  have hat29 : cl29.slots[((2 : Int32)).toNatClampNeg]? = some (.double (FP.l2d (w0 + w1))) := ArF.at S29 H29 hin29 rfl
  obtain ⟨T30, X30, e30, st30⟩ := getF X28 hx hZ hown (host := "") (Or.inl (hw _ (List.mem_of_getElem? (i := 26) rfl))) Via.refl e28 F11_v26 (g := (mkF m 85 #[.val (.ref a1), .val (.ref a2), .val (.int (4 : Int32)), .val (.int (1 : Int32))] [(.ref a1), (.double (FP.l2d (w0 + w1))), (.int (1 : Int32)), (.ref b10)])) rfl rfl (hb hby d1_85)
  obtain ⟨cl31, Ar31, S31, H31⟩ := id V26_v26
  have hin31 : ¬ ((3 : Int32) < 0 ∨ cl31.slots.size ≤ ((3 : Int32)).toNatClampNeg) := inA S31 (by decide) (by decide)
  have hat31 : cl31.slots[((3 : Int32)).toNatClampNeg]? = some (.double (FP.l2d (w2 + (0 : Int64)))) := ArF.at S31 H31 hin31 rfl
  obtain ⟨cl32, Ar32, S32, H32⟩ := id V26_v26
  have hin32 : ¬ ((1 : Int32) < 0 ∨ cl32.slots.size ≤ ((1 : Int32)).toNatClampNeg) := inA S32 (by decide) (by decide)
  obtain ⟨T32, h32, X32, e32, W32, st32⟩ := stD X30 hx hZ e30 Ar32 (j := (1 : Int32)) hin32 (g := (mkF m 95 #[.val (.ref a1), .val (.ref a2), .val (.int (4 : Int32)), .val (.int (1 : Int32))] [(.double (FP.l2d ((w0 + w1) + (w2 + (0 : Int64))))), (.int (1 : Int32)), (.ref b10)])) rfl rfl (hb hby d1_95)
  have Ex_v32 := Ex_v26.wr W32
  have F_drawnCount_v32 := F_drawnCount_v26.other W32 (Or.inl ne_a1_b10)
  have Vw_v32 := Vw_v26.other W32 ne_a2_b10
  have V2_v32 := V2_v26.other W32 ne_b2_b10
  have F3_v32 := F3_v26.other W32 (Or.inl ne_a1_b10)
  have V4_v32 := V4_v26.other W32 ne_b4_b10
  have F5_v32 := F5_v26.other W32 (Or.inl ne_a1_b10)
  have F9_v32 := F9_v26.other W32 (Or.inl ne_a1_b10)
  have F11_v32 := F11_v26.other W32 (Or.inl ne_a1_b10)
  have Z32 : n0 ≤ h32.size := Nat.le_trans Z26 (Nat.le_of_eq W32.size.symm)
  have K32 := K26.wr W32 (Or.inr sz_b10)
  have V32_v32 := ArF.set Ar32 S32 H32 W32 hin32
  have N32 := Fr.snoc X32 N26 g_b10
  obtain ⟨fs, hr, hrun, hended, hW, hsame⟩ := X32.leave (v := none) (fun _ => rfl)
  refine ⟨_, _, pre0 _ ?_, hrun, hended, _, _, rfl, ?_, ⟨_, rfl⟩, hW, hsame.mono (by decide) (by decide)⟩
  · show Steps p.tables e below (s₁.setTop (mkF m 0 #[.val (.ref a1), .val (.ref a2), .unset, .unset] [])) _
    refine XS.aloadN X0.here hx rfl (hb hby d1_0) rfl rfl ?_
    show Steps p.tables e below (s₁.setTop (mkF m 1 #[.val (.ref a1), .val (.ref a2), .unset, .unset] [(.ref a1)])) _
    refine st1 _ ?_
    show Steps p.tables e below (T1.setTop (mkF m 4 #[.val (.ref a1), .val (.ref a2), .unset, .unset] [])) _
    refine XS.aloadN X1.here hx rfl (hb hby d1_4) rfl rfl ?_
    show Steps p.tables e below (T1.setTop (mkF m 5 #[.val (.ref a1), .val (.ref a2), .unset, .unset] [(.ref a1)])) _
    refine XS.bipush X1.here hx rfl (hb hby d1_5) ?_
    show Steps p.tables e below (T1.setTop (mkF m 7 #[.val (.ref a1), .val (.ref a2), .unset, .unset] [(.int (64 : Int32)), (.ref a1)])) _
    refine st2 _ ?_
    show Steps p.tables e below (T2.setTop (mkF m 9 #[.val (.ref a1), .val (.ref a2), .unset, .unset] [(.ref b2), (.ref a1)])) _
    refine st3 _ ?_
    show Steps p.tables e below (T3.setTop (mkF m 12 #[.val (.ref a1), .val (.ref a2), .unset, .unset] [])) _
    refine XS.aloadN X3.here hx rfl (hb hby d1_12) rfl rfl ?_
    show Steps p.tables e below (T3.setTop (mkF m 13 #[.val (.ref a1), .val (.ref a2), .unset, .unset] [(.ref a1)])) _
    refine XS.bipush X3.here hx rfl (hb hby d1_13) ?_
    show Steps p.tables e below (T3.setTop (mkF m 15 #[.val (.ref a1), .val (.ref a2), .unset, .unset] [(.int (64 : Int32)), (.ref a1)])) _
    refine st4 _ ?_
    show Steps p.tables e below (T4.setTop (mkF m 17 #[.val (.ref a1), .val (.ref a2), .unset, .unset] [(.ref b4), (.ref a1)])) _
    refine st5 _ ?_
    show Steps p.tables e below (T5.setTop (mkF m 20 #[.val (.ref a1), .val (.ref a2), .unset, .unset] [])) _
    refine XS.aloadN X5.here hx rfl (hb hby d1_20) rfl rfl ?_
    show Steps p.tables e below (T5.setTop (mkF m 21 #[.val (.ref a1), .val (.ref a2), .unset, .unset] [(.ref a2)])) _
    refine X5.arraylength hx (by rw [e5]; exact Ar6.1) (State.isArrayOf_alike hZ.alike Ar6.2.1) (g := (mkF m 21 #[.val (.ref a1), .val (.ref a2), .unset, .unset] [(.ref a2)])) rfl rfl (hb hby d1_21) _ ?_
    rw [show cl6.slots.size.toInt32 = (3 : Int32) from by rw [S6]; rfl]
    show Steps p.tables e below (T5.setTop (mkF m 22 #[.val (.ref a1), .val (.ref a2), .unset, .unset] [(.int (3 : Int32))])) _
    refine st7 _ ?_
    show Steps p.tables e below (T7.setTop (mkF m 25 #[.val (.ref a1), .val (.ref a2), .unset, .unset] [(.int (own_hob (3 : Int32)))])) _
    rw [show own_hob (3 : Int32) = (2 : Int32) from by decide +kernel]
    show Steps p.tables e below (T7.setTop (mkF m 25 #[.val (.ref a1), .val (.ref a2), .unset, .unset] [(.int (2 : Int32))])) _
    refine XS.istoreN X7.here hx rfl (hb hby d1_25) rfl (l' := #[.val (.ref a1), .val (.ref a2), .val (.int (2 : Int32)), .unset]) rfl ?_
    show Steps p.tables e below (T7.setTop (mkF m 26 #[.val (.ref a1), .val (.ref a2), .val (.int (2 : Int32)), .unset] [])) _
    refine XS.iloadN X7.here hx rfl (hb hby d1_26) rfl ?_
    show Steps p.tables e below (T7.setTop (mkF m 27 #[.val (.ref a1), .val (.ref a2), .val (.int (2 : Int32)), .unset] [(.int (2 : Int32))])) _
    refine XS.aloadN X7.here hx rfl (hb hby d1_27) rfl rfl ?_
    show Steps p.tables e below (T7.setTop (mkF m 28 #[.val (.ref a1), .val (.ref a2), .val (.int (2 : Int32)), .unset] [(.ref a2), (.int (2 : Int32))])) _
    refine X7.arraylength hx (by rw [e7]; exact Ar8.1) (State.isArrayOf_alike hZ.alike Ar8.2.1) (g := (mkF m 28 #[.val (.ref a1), .val (.ref a2), .val (.int (2 : Int32)), .unset] [(.ref a2), (.int (2 : Int32))])) rfl rfl (hb hby d1_28) _ ?_
    rw [show cl8.slots.size.toInt32 = (3 : Int32) from by rw [S8]; rfl]
    show Steps p.tables e below (T7.setTop (mkF m 29 #[.val (.ref a1), .val (.ref a2), .val (.int (2 : Int32)), .unset] [(.int (3 : Int32)), (.int (2 : Int32))])) _
    refine XS.icmpNo X7.here hx rfl (hb hby d1_29) rfl (tlt (by decide : ((2 : Int32) < (3 : Int32)))).2.1 ?_
    show Steps p.tables e below (T7.setTop (mkF m 32 #[.val (.ref a1), .val (.ref a2), .val (.int (2 : Int32)), .unset] [])) _
    refine XS.iloadN X7.here hx rfl (hb hby d1_32) rfl ?_
    show Steps p.tables e below (T7.setTop (mkF m 33 #[.val (.ref a1), .val (.ref a2), .val (.int (2 : Int32)), .unset] [(.int (2 : Int32))])) _
    refine XS.iconst X7.here hx rfl (hb hby d1_33) ?_
    show Steps p.tables e below (T7.setTop (mkF m 34 #[.val (.ref a1), .val (.ref a2), .val (.int (2 : Int32)), .unset] [(.int (2 : Int32)), (.int (2 : Int32))])) _
    refine XS.imul X7.here hx rfl (hb hby d1_34) rfl ?_
    show Steps p.tables e below (T7.setTop (mkF m 35 #[.val (.ref a1), .val (.ref a2), .val (.int (2 : Int32)), .unset] [(.int (4 : Int32))])) _
    refine XS.istoreN X7.here hx rfl (hb hby d1_35) rfl (l' := #[.val (.ref a1), .val (.ref a2), .val (.int (4 : Int32)), .unset]) rfl ?_
    show Steps p.tables e below (T7.setTop (mkF m 36 #[.val (.ref a1), .val (.ref a2), .val (.int (4 : Int32)), .unset] [])) _
    refine XS.aloadN X7.here hx rfl (hb hby d1_36) rfl rfl ?_
    show Steps p.tables e below (T7.setTop (mkF m 37 #[.val (.ref a1), .val (.ref a2), .val (.int (4 : Int32)), .unset] [(.ref a1)])) _
    refine XS.iloadN X7.here hx rfl (hb hby d1_37) rfl ?_
    show Steps p.tables e below (T7.setTop (mkF m 38 #[.val (.ref a1), .val (.ref a2), .val (.int (4 : Int32)), .unset] [(.int (4 : Int32)), (.ref a1)])) _
    refine st9 _ ?_
    show Steps p.tables e below (T9.setTop (mkF m 41 #[.val (.ref a1), .val (.ref a2), .val (.int (4 : Int32)), .unset] [])) _
    refine XS.aloadN X9.here hx rfl (hb hby d1_41) rfl rfl ?_
    show Steps p.tables e below (T9.setTop (mkF m 42 #[.val (.ref a1), .val (.ref a2), .val (.int (4 : Int32)), .unset] [(.ref a1)])) _
    refine XS.iconst X9.here hx rfl (hb hby d1_42) ?_
    show Steps p.tables e below (T9.setTop (mkF m 43 #[.val (.ref a1), .val (.ref a2), .val (.int (4 : Int32)), .unset] [(.int (2 : Int32)), (.ref a1)])) _
    refine XS.iloadN X9.here hx rfl (hb hby d1_43) rfl ?_
    show Steps p.tables e below (T9.setTop (mkF m 44 #[.val (.ref a1), .val (.ref a2), .val (.int (4 : Int32)), .unset] [(.int (4 : Int32)), (.int (2 : Int32)), (.ref a1)])) _
    refine XS.imul X9.here hx rfl (hb hby d1_44) rfl ?_
    show Steps p.tables e below (T9.setTop (mkF m 45 #[.val (.ref a1), .val (.ref a2), .val (.int (4 : Int32)), .unset] [(.int (8 : Int32)), (.ref a1)])) _
    refine st10 _ ?_
    show Steps p.tables e below (T10.setTop (mkF m 47 #[.val (.ref a1), .val (.ref a2), .val (.int (4 : Int32)), .unset] [(.ref b10), (.ref a1)])) _
    refine st11 _ ?_
    show Steps p.tables e below (T11.setTop (mkF m 50 #[.val (.ref a1), .val (.ref a2), .val (.int (4 : Int32)), .unset] [])) _
    refine XS.aloadN X11.here hx rfl (hb hby d1_50) rfl rfl ?_
    show Steps p.tables e below (T11.setTop (mkF m 51 #[.val (.ref a1), .val (.ref a2), .val (.int (4 : Int32)), .unset] [(.ref a2)])) _
    refine XS.iconst X11.here hx rfl (hb hby d1_51) ?_
    show Steps p.tables e below (T11.setTop (mkF m 52 #[.val (.ref a1), .val (.ref a2), .val (.int (4 : Int32)), .unset] [(.int (0 : Int32)), (.ref a2)])) _
    refine XS.aloadN X11.here hx rfl (hb hby d1_52) rfl rfl ?_
    show Steps p.tables e below (T11.setTop (mkF m 53 #[.val (.ref a1), .val (.ref a2), .val (.int (4 : Int32)), .unset] [(.ref a1), (.int (0 : Int32)), (.ref a2)])) _
    refine st12 _ ?_
    show Steps p.tables e below (T12.setTop (mkF m 56 #[.val (.ref a1), .val (.ref a2), .val (.int (4 : Int32)), .unset] [(.ref b10), (.int (0 : Int32)), (.ref a2)])) _
    refine XS.iloadN X12.here hx rfl (hb hby d1_56) rfl ?_
    show Steps p.tables e below (T12.setTop (mkF m 57 #[.val (.ref a1), .val (.ref a2), .val (.int (4 : Int32)), .unset] [(.int (4 : Int32)), (.ref b10), (.int (0 : Int32)), (.ref a2)])) _
    refine XS.aloadN X12.here hx rfl (hb hby d1_57) rfl rfl ?_
    show Steps p.tables e below (T12.setTop (mkF m 58 #[.val (.ref a1), .val (.ref a2), .val (.int (4 : Int32)), .unset] [(.ref a2), (.int (4 : Int32)), (.ref b10), (.int (0 : Int32)), (.ref a2)])) _
    refine X12.arraylength hx (by rw [e12]; exact Ar13.1) (State.isArrayOf_alike hZ.alike Ar13.2.1) (g := (mkF m 58 #[.val (.ref a1), .val (.ref a2), .val (.int (4 : Int32)), .unset] [(.ref a2), (.int (4 : Int32)), (.ref b10), (.int (0 : Int32)), (.ref a2)])) rfl rfl (hb hby d1_58) _ ?_
    rw [show cl13.slots.size.toInt32 = (3 : Int32) from by rw [S13]; rfl]
    show Steps p.tables e below (T12.setTop (mkF m 59 #[.val (.ref a1), .val (.ref a2), .val (.int (4 : Int32)), .unset] [(.int (3 : Int32)), (.int (4 : Int32)), (.ref b10), (.int (0 : Int32)), (.ref a2)])) _
    refine st14 _ ?_
    show Steps p.tables e below (T14.setTop (mkF m 62 #[.val (.ref a1), .val (.ref a2), .val (.int (4 : Int32)), .unset] [])) _
    refine XS.iloadN X14.here hx rfl (hb hby d1_62) rfl ?_
    show Steps p.tables e below (T14.setTop (mkF m 63 #[.val (.ref a1), .val (.ref a2), .val (.int (4 : Int32)), .unset] [(.int (4 : Int32))])) _
    refine XS.iconst X14.here hx rfl (hb hby d1_63) ?_
    show Steps p.tables e below (T14.setTop (mkF m 64 #[.val (.ref a1), .val (.ref a2), .val (.int (4 : Int32)), .unset] [(.int (1 : Int32)), (.int (4 : Int32))])) _
    refine XS.isub X14.here hx rfl (hb hby d1_64) rfl ?_
    show Steps p.tables e below (T14.setTop (mkF m 65 #[.val (.ref a1), .val (.ref a2), .val (.int (4 : Int32)), .unset] [(.int (3 : Int32))])) _
    refine XS.istoreN X14.here hx rfl (hb hby d1_65) rfl (l' := #[.val (.ref a1), .val (.ref a2), .val (.int (4 : Int32)), .val (.int (3 : Int32))]) rfl ?_
    show Steps p.tables e below (T14.setTop (mkF m 66 #[.val (.ref a1), .val (.ref a2), .val (.int (4 : Int32)), .val (.int (3 : Int32))] [])) _
    refine XS.iloadN X14.here hx rfl (hb hby d1_66) rfl ?_
    show Steps p.tables e below (T14.setTop (mkF m 67 #[.val (.ref a1), .val (.ref a2), .val (.int (4 : Int32)), .val (.int (3 : Int32))] [(.int (3 : Int32))])) _
    refine XS.iconst X14.here hx rfl (hb hby d1_67) ?_
    show Steps p.tables e below (T14.setTop (mkF m 68 #[.val (.ref a1), .val (.ref a2), .val (.int (4 : Int32)), .val (.int (3 : Int32))] [(.int (1 : Int32)), (.int (3 : Int32))])) _
    refine XS.icmpNo X14.here hx rfl (hb hby d1_68) rfl (flt (by decide : ¬ ((3 : Int32) < (1 : Int32)))).1 ?_
    show Steps p.tables e below (T14.setTop (mkF m 71 #[.val (.ref a1), .val (.ref a2), .val (.int (4 : Int32)), .val (.int (3 : Int32))] [])) _
    refine XS.aloadN X14.here hx rfl (hb hby d1_71) rfl rfl ?_
    show Steps p.tables e below (T14.setTop (mkF m 72 #[.val (.ref a1), .val (.ref a2), .val (.int (4 : Int32)), .val (.int (3 : Int32))] [(.ref a1)])) _
    refine st15 _ ?_
    show Steps p.tables e below (T15.setTop (mkF m 75 #[.val (.ref a1), .val (.ref a2), .val (.int (4 : Int32)), .val (.int (3 : Int32))] [(.ref b10)])) _
    refine XS.iloadN X15.here hx rfl (hb hby d1_75) rfl ?_
    show Steps p.tables e below (T15.setTop (mkF m 76 #[.val (.ref a1), .val (.ref a2), .val (.int (4 : Int32)), .val (.int (3 : Int32))] [(.int (3 : Int32)), (.ref b10)])) _
    refine XS.aloadN X15.here hx rfl (hb hby d1_76) rfl rfl ?_
    show Steps p.tables e below (T15.setTop (mkF m 77 #[.val (.ref a1), .val (.ref a2), .val (.int (4 : Int32)), .val (.int (3 : Int32))] [(.ref a1), (.int (3 : Int32)), (.ref b10)])) _
    refine st16 _ ?_
    show Steps p.tables e below (T16.setTop (mkF m 80 #[.val (.ref a1), .val (.ref a2), .val (.int (4 : Int32)), .val (.int (3 : Int32))] [(.ref b10), (.int (3 : Int32)), (.ref b10)])) _
    refine XS.iconst X16.here hx rfl (hb hby d1_80) ?_
    show Steps p.tables e below (T16.setTop (mkF m 81 #[.val (.ref a1), .val (.ref a2), .val (.int (4 : Int32)), .val (.int (3 : Int32))] [(.int (2 : Int32)), (.ref b10), (.int (3 : Int32)), (.ref b10)])) _
    refine XS.iloadN X16.here hx rfl (hb hby d1_81) rfl ?_
    show Steps p.tables e below (T16.setTop (mkF m 82 #[.val (.ref a1), .val (.ref a2), .val (.int (4 : Int32)), .val (.int (3 : Int32))] [(.int (3 : Int32)), (.int (2 : Int32)), (.ref b10), (.int (3 : Int32)), (.ref b10)])) _
    refine XS.imul X16.here hx rfl (hb hby d1_82) rfl ?_
    show Steps p.tables e below (T16.setTop (mkF m 83 #[.val (.ref a1), .val (.ref a2), .val (.int (4 : Int32)), .val (.int (3 : Int32))] [(.int (6 : Int32)), (.ref b10), (.int (3 : Int32)), (.ref b10)])) _
    refine X16.daload hx (j := (6 : Int32)) (v := (.double (FP.l2d w2))) (by rw [e16]; exact Ar17.1) (State.isArrayOf_alike hZ.alike Ar17.2.1) Ar17.2.2 hin17 hat17 (g := (mkF m 83 #[.val (.ref a1), .val (.ref a2), .val (.int (4 : Int32)), .val (.int (3 : Int32))] [(.int (6 : Int32)), (.ref b10), (.int (3 : Int32)), (.ref b10)])) rfl rfl (hb hby d1_83) _ ?_
    show Steps p.tables e below (T16.setTop (mkF m 84 #[.val (.ref a1), .val (.ref a2), .val (.int (4 : Int32)), .val (.int (3 : Int32))] [(.double (FP.l2d w2)), (.int (3 : Int32)), (.ref b10)])) _
    refine XS.aloadN X16.here hx rfl (hb hby d1_84) rfl rfl ?_
    show Steps p.tables e below (T16.setTop (mkF m 85 #[.val (.ref a1), .val (.ref a2), .val (.int (4 : Int32)), .val (.int (3 : Int32))] [(.ref a1), (.double (FP.l2d w2)), (.int (3 : Int32)), (.ref b10)])) _
    refine st18 _ ?_
    show Steps p.tables e below (T18.setTop (mkF m 88 #[.val (.ref a1), .val (.ref a2), .val (.int (4 : Int32)), .val (.int (3 : Int32))] [(.ref b10), (.double (FP.l2d w2)), (.int (3 : Int32)), (.ref b10)])) _
    refine XS.iconst X18.here hx rfl (hb hby d1_88) ?_
    show Steps p.tables e below (T18.setTop (mkF m 89 #[.val (.ref a1), .val (.ref a2), .val (.int (4 : Int32)), .val (.int (3 : Int32))] [(.int (2 : Int32)), (.ref b10), (.double (FP.l2d w2)), (.int (3 : Int32)), (.ref b10)])) _
    refine XS.iloadN X18.here hx rfl (hb hby d1_89) rfl ?_
    show Steps p.tables e below (T18.setTop (mkF m 90 #[.val (.ref a1), .val (.ref a2), .val (.int (4 : Int32)), .val (.int (3 : Int32))] [(.int (3 : Int32)), (.int (2 : Int32)), (.ref b10), (.double (FP.l2d w2)), (.int (3 : Int32)), (.ref b10)])) _
    refine XS.imul X18.here hx rfl (hb hby d1_90) rfl ?_
    show Steps p.tables e below (T18.setTop (mkF m 91 #[.val (.ref a1), .val (.ref a2), .val (.int (4 : Int32)), .val (.int (3 : Int32))] [(.int (6 : Int32)), (.ref b10), (.double (FP.l2d w2)), (.int (3 : Int32)), (.ref b10)])) _
    refine XS.iconst X18.here hx rfl (hb hby d1_91) ?_
    show Steps p.tables e below (T18.setTop (mkF m 92 #[.val (.ref a1), .val (.ref a2), .val (.int (4 : Int32)), .val (.int (3 : Int32))] [(.int (1 : Int32)), (.int (6 : Int32)), (.ref b10), (.double (FP.l2d w2)), (.int (3 : Int32)), (.ref b10)])) _
    refine XS.iadd X18.here hx rfl (hb hby d1_92) rfl ?_
    show Steps p.tables e below (T18.setTop (mkF m 93 #[.val (.ref a1), .val (.ref a2), .val (.int (4 : Int32)), .val (.int (3 : Int32))] [(.int (7 : Int32)), (.ref b10), (.double (FP.l2d w2)), (.int (3 : Int32)), (.ref b10)])) _
    refine X18.daload hx (j := (7 : Int32)) (v := (.double (FP.l2d (0 : Int64)))) (by rw [e18]; exact Ar19.1) (State.isArrayOf_alike hZ.alike Ar19.2.1) Ar19.2.2 hin19 hat19 (g := (mkF m 93 #[.val (.ref a1), .val (.ref a2), .val (.int (4 : Int32)), .val (.int (3 : Int32))] [(.int (7 : Int32)), (.ref b10), (.double (FP.l2d w2)), (.int (3 : Int32)), (.ref b10)])) rfl rfl (hb hby d1_93) _ ?_
    show Steps p.tables e below (T18.setTop (mkF m 94 #[.val (.ref a1), .val (.ref a2), .val (.int (4 : Int32)), .val (.int (3 : Int32))] [(.double (FP.l2d (0 : Int64))), (.double (FP.l2d w2)), (.int (3 : Int32)), (.ref b10)])) _
    refine XS.daddS X18.here hx rfl (hb hby d1_94) rfl (nn_w (dadd_w (own_Lb53 hw2 (by decide)) (own_Lb53 own_L0 (by decide)))) (v := (FP.l2d (w2 + (0 : Int64)))) (dadd_w (own_Lb53 hw2 (by decide)) (own_Lb53 own_L0 (by decide))) ?_
    show Steps p.tables e below (T18.setTop (mkF m 95 #[.val (.ref a1), .val (.ref a2), .val (.int (4 : Int32)), .val (.int (3 : Int32))] [(.double (FP.l2d (w2 + (0 : Int64)))), (.int (3 : Int32)), (.ref b10)])) _
    refine st20 _ ?_
    show Steps p.tables e below (T20.setTop (mkF m 96 #[.val (.ref a1), .val (.ref a2), .val (.int (4 : Int32)), .val (.int (3 : Int32))] [])) _
    refine XS.iinc X20.here hx rfl (hb hby d1_96) rfl (l' := #[.val (.ref a1), .val (.ref a2), .val (.int (4 : Int32)), .val (.int (2 : Int32))]) rfl ?_
    show Steps p.tables e below (T20.setTop (mkF m 99 #[.val (.ref a1), .val (.ref a2), .val (.int (4 : Int32)), .val (.int (2 : Int32))] [])) _
    refine XS.goto X20.here hx rfl (pc0 := 99) (pc' := 66) rfl (hb hby d1_99) (by decide) (by decide) ?_
    show Steps p.tables e below (T20.setTop (mkF m 66 #[.val (.ref a1), .val (.ref a2), .val (.int (4 : Int32)), .val (.int (2 : Int32))] [])) _
    refine XS.iloadN X20.here hx rfl (hb hby d1_66) rfl ?_
    show Steps p.tables e below (T20.setTop (mkF m 67 #[.val (.ref a1), .val (.ref a2), .val (.int (4 : Int32)), .val (.int (2 : Int32))] [(.int (2 : Int32))])) _
    refine XS.iconst X20.here hx rfl (hb hby d1_67) ?_
    show Steps p.tables e below (T20.setTop (mkF m 68 #[.val (.ref a1), .val (.ref a2), .val (.int (4 : Int32)), .val (.int (2 : Int32))] [(.int (1 : Int32)), (.int (2 : Int32))])) _
    refine XS.icmpNo X20.here hx rfl (hb hby d1_68) rfl (flt (by decide : ¬ ((2 : Int32) < (1 : Int32)))).1 ?_
    show Steps p.tables e below (T20.setTop (mkF m 71 #[.val (.ref a1), .val (.ref a2), .val (.int (4 : Int32)), .val (.int (2 : Int32))] [])) _
    refine XS.aloadN X20.here hx rfl (hb hby d1_71) rfl rfl ?_
    show Steps p.tables e below (T20.setTop (mkF m 72 #[.val (.ref a1), .val (.ref a2), .val (.int (4 : Int32)), .val (.int (2 : Int32))] [(.ref a1)])) _
    refine st21 _ ?_
    show Steps p.tables e below (T21.setTop (mkF m 75 #[.val (.ref a1), .val (.ref a2), .val (.int (4 : Int32)), .val (.int (2 : Int32))] [(.ref b10)])) _
    refine XS.iloadN X21.here hx rfl (hb hby d1_75) rfl ?_
    show Steps p.tables e below (T21.setTop (mkF m 76 #[.val (.ref a1), .val (.ref a2), .val (.int (4 : Int32)), .val (.int (2 : Int32))] [(.int (2 : Int32)), (.ref b10)])) _
    refine XS.aloadN X21.here hx rfl (hb hby d1_76) rfl rfl ?_
    show Steps p.tables e below (T21.setTop (mkF m 77 #[.val (.ref a1), .val (.ref a2), .val (.int (4 : Int32)), .val (.int (2 : Int32))] [(.ref a1), (.int (2 : Int32)), (.ref b10)])) _
    refine st22 _ ?_
    show Steps p.tables e below (T22.setTop (mkF m 80 #[.val (.ref a1), .val (.ref a2), .val (.int (4 : Int32)), .val (.int (2 : Int32))] [(.ref b10), (.int (2 : Int32)), (.ref b10)])) _
    refine XS.iconst X22.here hx rfl (hb hby d1_80) ?_
    show Steps p.tables e below (T22.setTop (mkF m 81 #[.val (.ref a1), .val (.ref a2), .val (.int (4 : Int32)), .val (.int (2 : Int32))] [(.int (2 : Int32)), (.ref b10), (.int (2 : Int32)), (.ref b10)])) _
    refine XS.iloadN X22.here hx rfl (hb hby d1_81) rfl ?_
    show Steps p.tables e below (T22.setTop (mkF m 82 #[.val (.ref a1), .val (.ref a2), .val (.int (4 : Int32)), .val (.int (2 : Int32))] [(.int (2 : Int32)), (.int (2 : Int32)), (.ref b10), (.int (2 : Int32)), (.ref b10)])) _
    refine XS.imul X22.here hx rfl (hb hby d1_82) rfl ?_
    show Steps p.tables e below (T22.setTop (mkF m 83 #[.val (.ref a1), .val (.ref a2), .val (.int (4 : Int32)), .val (.int (2 : Int32))] [(.int (4 : Int32)), (.ref b10), (.int (2 : Int32)), (.ref b10)])) _
    refine X22.daload hx (j := (4 : Int32)) (v := (.double (FP.l2d w0))) (by rw [e22]; exact Ar23.1) (State.isArrayOf_alike hZ.alike Ar23.2.1) Ar23.2.2 hin23 hat23 (g := (mkF m 83 #[.val (.ref a1), .val (.ref a2), .val (.int (4 : Int32)), .val (.int (2 : Int32))] [(.int (4 : Int32)), (.ref b10), (.int (2 : Int32)), (.ref b10)])) rfl rfl (hb hby d1_83) _ ?_
    show Steps p.tables e below (T22.setTop (mkF m 84 #[.val (.ref a1), .val (.ref a2), .val (.int (4 : Int32)), .val (.int (2 : Int32))] [(.double (FP.l2d w0)), (.int (2 : Int32)), (.ref b10)])) _
    refine XS.aloadN X22.here hx rfl (hb hby d1_84) rfl rfl ?_
    show Steps p.tables e below (T22.setTop (mkF m 85 #[.val (.ref a1), .val (.ref a2), .val (.int (4 : Int32)), .val (.int (2 : Int32))] [(.ref a1), (.double (FP.l2d w0)), (.int (2 : Int32)), (.ref b10)])) _
    refine st24 _ ?_
    show Steps p.tables e below (T24.setTop (mkF m 88 #[.val (.ref a1), .val (.ref a2), .val (.int (4 : Int32)), .val (.int (2 : Int32))] [(.ref b10), (.double (FP.l2d w0)), (.int (2 : Int32)), (.ref b10)])) _
    refine XS.iconst X24.here hx rfl (hb hby d1_88) ?_
    show Steps p.tables e below (T24.setTop (mkF m 89 #[.val (.ref a1), .val (.ref a2), .val (.int (4 : Int32)), .val (.int (2 : Int32))] [(.int (2 : Int32)), (.ref b10), (.double (FP.l2d w0)), (.int (2 : Int32)), (.ref b10)])) _
    refine XS.iloadN X24.here hx rfl (hb hby d1_89) rfl ?_
    show Steps p.tables e below (T24.setTop (mkF m 90 #[.val (.ref a1), .val (.ref a2), .val (.int (4 : Int32)), .val (.int (2 : Int32))] [(.int (2 : Int32)), (.int (2 : Int32)), (.ref b10), (.double (FP.l2d w0)), (.int (2 : Int32)), (.ref b10)])) _
    refine XS.imul X24.here hx rfl (hb hby d1_90) rfl ?_
    show Steps p.tables e below (T24.setTop (mkF m 91 #[.val (.ref a1), .val (.ref a2), .val (.int (4 : Int32)), .val (.int (2 : Int32))] [(.int (4 : Int32)), (.ref b10), (.double (FP.l2d w0)), (.int (2 : Int32)), (.ref b10)])) _
    refine XS.iconst X24.here hx rfl (hb hby d1_91) ?_
    show Steps p.tables e below (T24.setTop (mkF m 92 #[.val (.ref a1), .val (.ref a2), .val (.int (4 : Int32)), .val (.int (2 : Int32))] [(.int (1 : Int32)), (.int (4 : Int32)), (.ref b10), (.double (FP.l2d w0)), (.int (2 : Int32)), (.ref b10)])) _
    refine XS.iadd X24.here hx rfl (hb hby d1_92) rfl ?_
    show Steps p.tables e below (T24.setTop (mkF m 93 #[.val (.ref a1), .val (.ref a2), .val (.int (4 : Int32)), .val (.int (2 : Int32))] [(.int (5 : Int32)), (.ref b10), (.double (FP.l2d w0)), (.int (2 : Int32)), (.ref b10)])) _
    refine X24.daload hx (j := (5 : Int32)) (v := (.double (FP.l2d w1))) (by rw [e24]; exact Ar25.1) (State.isArrayOf_alike hZ.alike Ar25.2.1) Ar25.2.2 hin25 hat25 (g := (mkF m 93 #[.val (.ref a1), .val (.ref a2), .val (.int (4 : Int32)), .val (.int (2 : Int32))] [(.int (5 : Int32)), (.ref b10), (.double (FP.l2d w0)), (.int (2 : Int32)), (.ref b10)])) rfl rfl (hb hby d1_93) _ ?_
    show Steps p.tables e below (T24.setTop (mkF m 94 #[.val (.ref a1), .val (.ref a2), .val (.int (4 : Int32)), .val (.int (2 : Int32))] [(.double (FP.l2d w1)), (.double (FP.l2d w0)), (.int (2 : Int32)), (.ref b10)])) _
    refine XS.daddS X24.here hx rfl (hb hby d1_94) rfl (nn_w (dadd_w (own_Lb53 hw0 (by decide)) (own_Lb53 hw1 (by decide)))) (v := (FP.l2d (w0 + w1))) (dadd_w (own_Lb53 hw0 (by decide)) (own_Lb53 hw1 (by decide))) ?_
    show Steps p.tables e below (T24.setTop (mkF m 95 #[.val (.ref a1), .val (.ref a2), .val (.int (4 : Int32)), .val (.int (2 : Int32))] [(.double (FP.l2d (w0 + w1))), (.int (2 : Int32)), (.ref b10)])) _
    refine st26 _ ?_
    show Steps p.tables e below (T26.setTop (mkF m 96 #[.val (.ref a1), .val (.ref a2), .val (.int (4 : Int32)), .val (.int (2 : Int32))] [])) _
    refine XS.iinc X26.here hx rfl (hb hby d1_96) rfl (l' := #[.val (.ref a1), .val (.ref a2), .val (.int (4 : Int32)), .val (.int (1 : Int32))]) rfl ?_
    show Steps p.tables e below (T26.setTop (mkF m 99 #[.val (.ref a1), .val (.ref a2), .val (.int (4 : Int32)), .val (.int (1 : Int32))] [])) _
    refine XS.goto X26.here hx rfl (pc0 := 99) (pc' := 66) rfl (hb hby d1_99) (by decide) (by decide) ?_
    show Steps p.tables e below (T26.setTop (mkF m 66 #[.val (.ref a1), .val (.ref a2), .val (.int (4 : Int32)), .val (.int (1 : Int32))] [])) _
    refine XS.iloadN X26.here hx rfl (hb hby d1_66) rfl ?_
    show Steps p.tables e below (T26.setTop (mkF m 67 #[.val (.ref a1), .val (.ref a2), .val (.int (4 : Int32)), .val (.int (1 : Int32))] [(.int (1 : Int32))])) _
    refine XS.iconst X26.here hx rfl (hb hby d1_67) ?_
    show Steps p.tables e below (T26.setTop (mkF m 68 #[.val (.ref a1), .val (.ref a2), .val (.int (4 : Int32)), .val (.int (1 : Int32))] [(.int (1 : Int32)), (.int (1 : Int32))])) _
    refine XS.icmpNo X26.here hx rfl (hb hby d1_68) rfl (flt (by decide : ¬ ((1 : Int32) < (1 : Int32)))).1 ?_
    show Steps p.tables e below (T26.setTop (mkF m 71 #[.val (.ref a1), .val (.ref a2), .val (.int (4 : Int32)), .val (.int (1 : Int32))] [])) _
    refine XS.aloadN X26.here hx rfl (hb hby d1_71) rfl rfl ?_
    show Steps p.tables e below (T26.setTop (mkF m 72 #[.val (.ref a1), .val (.ref a2), .val (.int (4 : Int32)), .val (.int (1 : Int32))] [(.ref a1)])) _
    refine st27 _ ?_
    show Steps p.tables e below (T27.setTop (mkF m 75 #[.val (.ref a1), .val (.ref a2), .val (.int (4 : Int32)), .val (.int (1 : Int32))] [(.ref b10)])) _
    refine XS.iloadN X27.here hx rfl (hb hby d1_75) rfl ?_
    show Steps p.tables e below (T27.setTop (mkF m 76 #[.val (.ref a1), .val (.ref a2), .val (.int (4 : Int32)), .val (.int (1 : Int32))] [(.int (1 : Int32)), (.ref b10)])) _
    refine XS.aloadN X27.here hx rfl (hb hby d1_76) rfl rfl ?_
    show Steps p.tables e below (T27.setTop (mkF m 77 #[.val (.ref a1), .val (.ref a2), .val (.int (4 : Int32)), .val (.int (1 : Int32))] [(.ref a1), (.int (1 : Int32)), (.ref b10)])) _
    refine st28 _ ?_
    show Steps p.tables e below (T28.setTop (mkF m 80 #[.val (.ref a1), .val (.ref a2), .val (.int (4 : Int32)), .val (.int (1 : Int32))] [(.ref b10), (.int (1 : Int32)), (.ref b10)])) _
    refine XS.iconst X28.here hx rfl (hb hby d1_80) ?_
    show Steps p.tables e below (T28.setTop (mkF m 81 #[.val (.ref a1), .val (.ref a2), .val (.int (4 : Int32)), .val (.int (1 : Int32))] [(.int (2 : Int32)), (.ref b10), (.int (1 : Int32)), (.ref b10)])) _
    refine XS.iloadN X28.here hx rfl (hb hby d1_81) rfl ?_
    show Steps p.tables e below (T28.setTop (mkF m 82 #[.val (.ref a1), .val (.ref a2), .val (.int (4 : Int32)), .val (.int (1 : Int32))] [(.int (1 : Int32)), (.int (2 : Int32)), (.ref b10), (.int (1 : Int32)), (.ref b10)])) _
    refine XS.imul X28.here hx rfl (hb hby d1_82) rfl ?_
    show Steps p.tables e below (T28.setTop (mkF m 83 #[.val (.ref a1), .val (.ref a2), .val (.int (4 : Int32)), .val (.int (1 : Int32))] [(.int (2 : Int32)), (.ref b10), (.int (1 : Int32)), (.ref b10)])) _
    refine X28.daload hx (j := (2 : Int32)) (v := (.double (FP.l2d (w0 + w1)))) (by rw [e28]; exact Ar29.1) (State.isArrayOf_alike hZ.alike Ar29.2.1) Ar29.2.2 hin29 hat29 (g := (mkF m 83 #[.val (.ref a1), .val (.ref a2), .val (.int (4 : Int32)), .val (.int (1 : Int32))] [(.int (2 : Int32)), (.ref b10), (.int (1 : Int32)), (.ref b10)])) rfl rfl (hb hby d1_83) _ ?_
    show Steps p.tables e below (T28.setTop (mkF m 84 #[.val (.ref a1), .val (.ref a2), .val (.int (4 : Int32)), .val (.int (1 : Int32))] [(.double (FP.l2d (w0 + w1))), (.int (1 : Int32)), (.ref b10)])) _
    refine XS.aloadN X28.here hx rfl (hb hby d1_84) rfl rfl ?_
    show Steps p.tables e below (T28.setTop (mkF m 85 #[.val (.ref a1), .val (.ref a2), .val (.int (4 : Int32)), .val (.int (1 : Int32))] [(.ref a1), (.double (FP.l2d (w0 + w1))), (.int (1 : Int32)), (.ref b10)])) _
    refine st30 _ ?_
    show Steps p.tables e below (T30.setTop (mkF m 88 #[.val (.ref a1), .val (.ref a2), .val (.int (4 : Int32)), .val (.int (1 : Int32))] [(.ref b10), (.double (FP.l2d (w0 + w1))), (.int (1 : Int32)), (.ref b10)])) _
    refine XS.iconst X30.here hx rfl (hb hby d1_88) ?_
    show Steps p.tables e below (T30.setTop (mkF m 89 #[.val (.ref a1), .val (.ref a2), .val (.int (4 : Int32)), .val (.int (1 : Int32))] [(.int (2 : Int32)), (.ref b10), (.double (FP.l2d (w0 + w1))), (.int (1 : Int32)), (.ref b10)])) _
    refine XS.iloadN X30.here hx rfl (hb hby d1_89) rfl ?_
    show Steps p.tables e below (T30.setTop (mkF m 90 #[.val (.ref a1), .val (.ref a2), .val (.int (4 : Int32)), .val (.int (1 : Int32))] [(.int (1 : Int32)), (.int (2 : Int32)), (.ref b10), (.double (FP.l2d (w0 + w1))), (.int (1 : Int32)), (.ref b10)])) _
    refine XS.imul X30.here hx rfl (hb hby d1_90) rfl ?_
    show Steps p.tables e below (T30.setTop (mkF m 91 #[.val (.ref a1), .val (.ref a2), .val (.int (4 : Int32)), .val (.int (1 : Int32))] [(.int (2 : Int32)), (.ref b10), (.double (FP.l2d (w0 + w1))), (.int (1 : Int32)), (.ref b10)])) _
    refine XS.iconst X30.here hx rfl (hb hby d1_91) ?_
    show Steps p.tables e below (T30.setTop (mkF m 92 #[.val (.ref a1), .val (.ref a2), .val (.int (4 : Int32)), .val (.int (1 : Int32))] [(.int (1 : Int32)), (.int (2 : Int32)), (.ref b10), (.double (FP.l2d (w0 + w1))), (.int (1 : Int32)), (.ref b10)])) _
    refine XS.iadd X30.here hx rfl (hb hby d1_92) rfl ?_
    show Steps p.tables e below (T30.setTop (mkF m 93 #[.val (.ref a1), .val (.ref a2), .val (.int (4 : Int32)), .val (.int (1 : Int32))] [(.int (3 : Int32)), (.ref b10), (.double (FP.l2d (w0 + w1))), (.int (1 : Int32)), (.ref b10)])) _
    refine X30.daload hx (j := (3 : Int32)) (v := (.double (FP.l2d (w2 + (0 : Int64))))) (by rw [e30]; exact Ar31.1) (State.isArrayOf_alike hZ.alike Ar31.2.1) Ar31.2.2 hin31 hat31 (g := (mkF m 93 #[.val (.ref a1), .val (.ref a2), .val (.int (4 : Int32)), .val (.int (1 : Int32))] [(.int (3 : Int32)), (.ref b10), (.double (FP.l2d (w0 + w1))), (.int (1 : Int32)), (.ref b10)])) rfl rfl (hb hby d1_93) _ ?_
    show Steps p.tables e below (T30.setTop (mkF m 94 #[.val (.ref a1), .val (.ref a2), .val (.int (4 : Int32)), .val (.int (1 : Int32))] [(.double (FP.l2d (w2 + (0 : Int64)))), (.double (FP.l2d (w0 + w1))), (.int (1 : Int32)), (.ref b10)])) _
    refine XS.daddS X30.here hx rfl (hb hby d1_94) rfl (nn_w (dadd_w (own_Lb53 (own_La hw0 hw1 (by decide)) (by decide)) (own_Lb53 (own_La hw2 own_L0 (by decide)) (by decide)))) (v := (FP.l2d ((w0 + w1) + (w2 + (0 : Int64))))) (dadd_w (own_Lb53 (own_La hw0 hw1 (by decide)) (by decide)) (own_Lb53 (own_La hw2 own_L0 (by decide)) (by decide))) ?_
    show Steps p.tables e below (T30.setTop (mkF m 95 #[.val (.ref a1), .val (.ref a2), .val (.int (4 : Int32)), .val (.int (1 : Int32))] [(.double (FP.l2d ((w0 + w1) + (w2 + (0 : Int64))))), (.int (1 : Int32)), (.ref b10)])) _
    refine st32 _ ?_
    show Steps p.tables e below (T32.setTop (mkF m 96 #[.val (.ref a1), .val (.ref a2), .val (.int (4 : Int32)), .val (.int (1 : Int32))] [])) _
    refine XS.iinc X32.here hx rfl (hb hby d1_96) rfl (l' := #[.val (.ref a1), .val (.ref a2), .val (.int (4 : Int32)), .val (.int (0 : Int32))]) rfl ?_
    show Steps p.tables e below (T32.setTop (mkF m 99 #[.val (.ref a1), .val (.ref a2), .val (.int (4 : Int32)), .val (.int (0 : Int32))] [])) _
    refine XS.goto X32.here hx rfl (pc0 := 99) (pc' := 66) rfl (hb hby d1_99) (by decide) (by decide) ?_
    show Steps p.tables e below (T32.setTop (mkF m 66 #[.val (.ref a1), .val (.ref a2), .val (.int (4 : Int32)), .val (.int (0 : Int32))] [])) _
    refine XS.iloadN X32.here hx rfl (hb hby d1_66) rfl ?_
    show Steps p.tables e below (T32.setTop (mkF m 67 #[.val (.ref a1), .val (.ref a2), .val (.int (4 : Int32)), .val (.int (0 : Int32))] [(.int (0 : Int32))])) _
    refine XS.iconst X32.here hx rfl (hb hby d1_67) ?_
    show Steps p.tables e below (T32.setTop (mkF m 68 #[.val (.ref a1), .val (.ref a2), .val (.int (4 : Int32)), .val (.int (0 : Int32))] [(.int (1 : Int32)), (.int (0 : Int32))])) _
    refine XS.icmpYes X32.here hx rfl (pc0 := 68) (pc' := 102) rfl (hb hby d1_68) rfl (tlt (by decide : ((0 : Int32) < (1 : Int32)))).1 (by decide) (by decide) ?_
    show Steps p.tables e below (T32.setTop (mkF m 102 #[.val (.ref a1), .val (.ref a2), .val (.int (4 : Int32)), .val (.int (0 : Int32))] [])) _
    exact X32.returnOut hx Bd.returns (hb hby d1_102) hr
  · show Q_rin Z a1 a2 w0 w1 w2 h0 n0 _ T32.heap _
    rw [e32]
    have VVs : ArF Z h32 b10 .double 8 (fun i => .double (FP.l2d (own_t (own_M w0 w1 w2) i))) := V32_v32.congr (fun i hi => by match i, hi with | 0, _ => rfl | 1, _ => rfl | 2, _ => rfl | 3, _ => rfl | 4, _ => rfl | 5, _ => rfl | 6, _ => rfl | 7, _ => rfl)
    have VVe : ArF Z h32 b4 .double 64 (fun i => .double (FP.l2d (own_zX i))) := V4_v32.congr (fun i hi => congrArg Value.double l2d_zero.symm)
    exact ⟨b10, b2, b4, rfl, N32, K32, sz_b10, sz_b2, sz_b4, (Ne.symm ne_b2_b10), (Ne.symm ne_b4_b10), ne_b2_b4, F9_v32, F11_v32, F3_v32, F5_v32, F_drawnCount_v32, VVs, V2_v32, VVe⟩
theorem pn_rm0 : plainName "com/example/velar/velar/WeightedDrawsPutBackPinLaw" = true := by first | (simp [plainName, overriddenIn]; done) | decide +kernel
theorem ef_rm0 (m : MethodId) (x0 : Int32) (x1 : Int32) (x2 : Int32) (x3 : Int32) : entryFrame m #[(.int x0), (.int x1), (.int x2), (.int x3)] maxLocals = mkF m 0 #[.val (.int x0), .val (.int x1), .val (.int x2), .val (.int x3), .unset, .unset, .unset, .unset, .unset, .unset, .unset, .unset, .unset, .unset] [] := by first | (simp [entryFrame, mkF, argsToLocals, Value.category, maxLocals]; done) | rfl
def Q_rm0 (Z : State) (p1 : Int32) (p2 : Int32) (p3 : Int32) (p4 : Int32) (h0 : Heap) (n0 : Nat) (v : Option Value) (h : Heap) (L : List Loc) : Prop := v = some (.int 1) ∧ Fr n0 L
set_option maxRecDepth 65536 in
set_option maxHeartbeats 40000000 in
theorem rm0 (l : Launch) (Z : State) (a0 : Array Value) (hw : ∀ d ∈ tables_1, d.before a0 Z = true) (ws : List Jvm.Cond) (p1 : Int32) (p2 : Int32) (p3 : Int32) (p4 : Int32) (h0 : Heap) (n0 : Nat) (Z0 : n0 ≤ h0.size) :
    MetFree l x (head1 (Jvm.Cond.code x code maxLocals ret :: ws) room_1) (fun a U => a = #[(.int p1), (.int p2), (.int p3), (.int p4)] ∧ Z.Warmed39 U.vm ∧ U.heap = h0) (fun _ _ _ _ _ => True) (fun _ U o U' => ∃ v L, o = .returned v ∧ Q_rm0 Z p1 p2 p3 p4 h0 n0 v U'.heap L ∧ FrameEnd U o U' L room_1.cells room_1.slots) := by
  refine MetFree.of_bodySF (plainFor_of_name pn_rm0) hisR ?_
  intro p e s m args below meth c s₁ Bd hml0 hP hK
  obtain ⟨rfl, hZ, hh⟩ := hP
  have hx := Bd.exec
  have hby := Bd.bytes
  have hml : c.maxLocals = 14 := hml0
  have hown : s.vm.findClass "com/example/velar/velar/WeightedDrawsPutBackPinLaw" = some m.cls := findClass_of_methodNamed Bd.named
  have hnm := (name_of_methodNamed Bd.named Bd.method).1
  have X0 : Stand p l e room_1 s m #[(.int p1), (.int p2), (.int p3), (.int p4)] below meth c s₁ [] 0 0 := Stand.of_body Bd
  have e0 : s₁.heap = h0 := by rw [← hh, Bd.state]; rfl
  have N0 := Fr.nil n0
  have pre0 : ∀ t, Steps p.tables e below (s₁.setTop (mkF m 0 #[.val (.int p1), .val (.int p2), .val (.int p3), .val (.int p4), .unset, .unset, .unset, .unset, .unset, .unset, .unset, .unset, .unset, .unset] [])) t → Steps p.tables e below (s₁.setTop (entryFrame m #[(.int p1), (.int p2), (.int p3), (.int p4)] maxLocals)) t := fun t k => castTop (ef_rm0 m p1 p2 p3 p4) k
  obtain ⟨T1, h1, k1, X1, e1, E1, A1, st1⟩ := newP X0 hx hZ (hw _ (List.mem_of_getElem? (i := 0) rfl)) e0 (g := (mkF m 1 #[.val (.int p1), .val (.int p2), .val (.int p3), .val (.int p4), .unset, .unset, .unset, .unset, .unset, .unset, .unset, .unset, .unset, .unset] [(.int (3 : Int32))])) rfl (hb hby at_1) rfl (by decide) (cap := 3) (by decide) (by decide) (by decide) (by decide)
  obtain ⟨b1, g1⟩ : ∃ z, z = h0.size := ⟨_, rfl⟩
  rw [← g1] at A1 st1
  have g_b1 : n0 ≤ b1 := Nat.le_trans Z0 (Nat.le_of_eq g1.symm)
  have Z1 : n0 ≤ h1.size := Nat.le_trans Z0 E1.1
  have V1_v1 : ArF Z h1 b1 .double 3 (fun _ => (.double 0)) := ArF.mk0 A1 rfl rfl
  obtain ⟨cl2, Ar2, S2, H2⟩ := id V1_v1
  have hin2 : ¬ ((0 : Int32) < 0 ∨ cl2.slots.size ≤ ((0 : Int32)).toNatClampNeg) := inA S2 (by decide) (by decide)
  obtain ⟨T2, h2, X2, e2, W2, st2⟩ := stD X1 hx hZ e1 Ar2 (j := (0 : Int32)) hin2 (g := (mkF m 15 #[.val (.int p1), .val (.int p2), .val (.int p3), .val (.int p4), .val (.ref b1), .unset, .unset, .unset, .unset, .unset, .unset, .unset, .unset, .unset] [(.double (FP.l2d (((1 : Int32) + (p1 &&& (15 : Int32))).toInt64))), (.int (0 : Int32)), (.ref b1)])) rfl rfl (hb hby at_15)
  have Z2 : n0 ≤ h2.size := Nat.le_trans Z1 (Nat.le_of_eq W2.size.symm)
  have V2_v2 := ArF.set Ar2 S2 H2 W2 hin2
  have N2 := Fr.snoc X2 N0 g_b1
  obtain ⟨cl3, Ar3, S3, H3⟩ := id V2_v2
  have hin3 : ¬ ((1 : Int32) < 0 ∨ cl3.slots.size ≤ ((1 : Int32)).toNatClampNeg) := inA S3 (by decide) (by decide)
  obtain ⟨T3, h3, X3, e3, W3, st3⟩ := stD X2 hx hZ e2 Ar3 (j := (1 : Int32)) hin3 (g := (mkF m 28 #[.val (.int p1), .val (.int p2), .val (.int p3), .val (.int p4), .val (.ref b1), .unset, .unset, .unset, .unset, .unset, .unset, .unset, .unset, .unset] [(.double (FP.l2d (((1 : Int32) + (((p1.toUInt32 >>> ((4 : Int32) &&& 31).toUInt32).toInt32) &&& (15 : Int32))).toInt64))), (.int (1 : Int32)), (.ref b1)])) rfl rfl (hb hby at_28)
  have Z3 : n0 ≤ h3.size := Nat.le_trans Z2 (Nat.le_of_eq W3.size.symm)
  have V3_v3 := ArF.set Ar3 S3 H3 W3 hin3
  have N3 := Fr.snoc X3 N2 g_b1
  obtain ⟨cl4, Ar4, S4, H4⟩ := id V3_v3
  have hin4 : ¬ ((2 : Int32) < 0 ∨ cl4.slots.size ≤ ((2 : Int32)).toNatClampNeg) := inA S4 (by decide) (by decide)
  obtain ⟨T4, h4, X4, e4, W4, st4⟩ := stD X3 hx hZ e3 Ar4 (j := (2 : Int32)) hin4 (g := (mkF m 42 #[.val (.int p1), .val (.int p2), .val (.int p3), .val (.int p4), .val (.ref b1), .unset, .unset, .unset, .unset, .unset, .unset, .unset, .unset, .unset] [(.double (FP.l2d (((1 : Int32) + (((p1.toUInt32 >>> ((8 : Int32) &&& 31).toUInt32).toInt32) &&& (15 : Int32))).toInt64))), (.int (2 : Int32)), (.ref b1)])) rfl rfl (hb hby at_42)
  have Z4 : n0 ≤ h4.size := Nat.le_trans Z3 (Nat.le_of_eq W4.size.symm)
  have V4_v4 := ArF.set Ar4 S4 H4 W4 hin4
  have N4 := Fr.snoc X4 N3 g_b1
  obtain ⟨w0, hw0⟩ : ∃ z : Int64, z = ((1 : Int32) + (p1 &&& (15 : Int32))).toInt64 := ⟨_, rfl⟩
  obtain ⟨bw0, nw0⟩ := own_wb hw0
  obtain ⟨w1, hw1⟩ : ∃ z : Int64, z = ((1 : Int32) + (((p1.toUInt32 >>> ((4 : Int32) &&& 31).toUInt32).toInt32) &&& (15 : Int32))).toInt64 := ⟨_, rfl⟩
  obtain ⟨bw1, nw1⟩ := own_wb hw1
  obtain ⟨w2, hw2⟩ : ∃ z : Int64, z = ((1 : Int32) + (((p1.toUInt32 >>> ((8 : Int32) &&& 31).toUInt32).toInt32) &&& (15 : Int32))).toInt64 := ⟨_, rfl⟩
  obtain ⟨bw2, nw2⟩ := own_wb hw2
  have VW_v0 : ArF Z h4 b1 .double 3 (fun i => .double (FP.l2d (own_w w0 w1 w2 i))) := V4_v4.congr (fun i hi => by
    match i, hi with
    | 0, _ => exact congrArg (fun z => Value.double (FP.l2d z)) hw0.symm
    | 1, _ => exact congrArg (fun z => Value.double (FP.l2d z)) hw1.symm
    | 2, _ => exact congrArg (fun z => Value.double (FP.l2d z)) hw2.symm)
  have hM0 := own_Mb bw0 bw1 bw2
  obtain ⟨T5, h5, X5, e5, E5, A5, D5, -, st5⟩ := newO X4 hx hZ hown (hw _ (List.mem_of_getElem? (i := 1) rfl)) (hw _ (List.mem_of_getElem? (i := 2) rfl)) (hw _ (List.mem_of_getElem? (i := 3) rfl)) e4 (g := (mkF m 43 #[.val (.int p1), .val (.int p2), .val (.int p3), .val (.int p4), .val (.ref b1), .unset, .unset, .unset, .unset, .unset, .unset, .unset, .unset, .unset] [])) rfl (hb hby at_43) (by decide) (by decide)
  obtain ⟨b5, g5⟩ : ∃ z, z = h4.size := ⟨_, rfl⟩
  rw [← g5] at A5 D5 st5
  have ne_b1_b5 : b1 ≠ b5 := Nat.ne_of_lt (Nat.lt_of_lt_of_le VW_v0.lt (Nat.le_of_eq g5.symm))
  have g_b5 : n0 ≤ b5 := Nat.le_trans Z4 (Nat.le_of_eq g5.symm)
  have VW_v5 := VW_v0.ext E5
  have Z5 : n0 ≤ h5.size := Nat.le_trans Z4 E5.1
  have Ex5_v5 : Exa Z h5 b5 "com/example/velar/velar/WeightedDraws" := A5
  have F5drawn_v5 : Fld Z h5 b5 "com/example/velar/velar/WeightedDraws" "drawn" "[I" .null := D5 (Or.inl (hw _ (List.mem_of_getElem? (i := 12) rfl))) (ty := (.array .int)) (by decide)
  have F5drawnWeights_v5 : Fld Z h5 b5 "com/example/velar/velar/WeightedDraws" "drawnWeights" "[D" .null := D5 (Or.inl (hw _ (List.mem_of_getElem? (i := 14) rfl))) (ty := (.array .double)) (by decide)
  have F5leaves_v5 : Fld Z h5 b5 "com/example/velar/velar/WeightedDraws" "leaves" "I" (.int (0 : Int32)) := D5 (Or.inr (hw _ (List.mem_of_getElem? (i := 25) rfl))) (ty := .int) (by decide)
  have F5sums_v5 : Fld Z h5 b5 "com/example/velar/velar/WeightedDraws" "sums" "[D" .null := D5 (Or.inr (hw _ (List.mem_of_getElem? (i := 27) rfl))) (ty := (.array .double)) (by decide)
  have F5drawnCount_v5 : Fld Z h5 b5 "com/example/velar/velar/WeightedDraws" "drawnCount" "I" (.int (0 : Int32)) := D5 (Or.inl (hw _ (List.mem_of_getElem? (i := 46) rfl))) (ty := .int) (by decide)
  obtain ⟨_, _, ⟨T6, L6, k6, n6⟩, -, X6, ⟨Lc6, hQ6, l6, y6, z6⟩, st6⟩ := X5.specialBack hx (y := (⟨"com/example/velar/velar/WeightedDraws", "<init>", "([D)V"⟩ : MethodName)) rfl hown (mvT hZ (hw _ (List.mem_of_getElem? (i := 4) rfl))) (mvT hZ (hw _ (List.mem_of_getElem? (i := 5) rfl))) (mvT hZ (hw _ (List.mem_of_getElem? (i := 6) rfl))) (by decide) (backOf (W := 1) (rin l Z a0 hw [] b5 b1 w0 w1 w2 h5 n0 Z5 Ex5_v5 F5leaves_v5 F5sums_v5 F5drawn_v5 F5drawnWeights_v5 F5drawnCount_v5 VW_v5 g_b5 (Ne.symm ne_b1_b5) bw0 bw1 bw2) hZ (hw _ (List.mem_of_getElem? (i := 6) rfl)) (hw _ (List.mem_of_getElem? (i := 3) rfl)) (by decide) (by decide)) (g := (mkF m 49 #[.val (.int p1), .val (.int p2), .val (.int p3), .val (.int p4), .val (.ref b1), .unset, .unset, .unset, .unset, .unset, .unset, .unset, .unset, .unset] [(.ref b1), (.ref b5), (.ref b5)])) rfl (by rw [hml]; rfl) (Steps.refl _) (a := b5) (argsL := [(.ref b1)]) (rest := [(.ref b5)]) (lenOf pd_4 rfl) rfl (by show 2 * 0 + _ ≤ _; exact Nat.le_of_eq rfl) (hb hby at_49) (fun _ _ => ⟨rfl, e5, (by decide : 2 + 3 ≤ _), (by decide : 8 + 136 ≤ _)⟩)
  dsimp only [Pt.U, Pt.locs, Pt.cells, Pt.slots] at X6 l6 y6 z6 st6 hQ6
  subst l6 y6 z6
  obtain ⟨aS6, aD6, aE6, rfl, N6q, Kc6, zs6, zd6, ze6, ne_aS6_aD6, ne_aS6_aE6, ne_aD6_aE6, nf6_0_v6, nf6_1_v6, nf6_2_v6, nf6_3_v6, nf6_4_v6, nf6_5_v6, nf6_6_v6, nf6_7_v6⟩ := hQ6
  have N6 := Fr.app N4 N6q
  have ne_b1_aS6 : b1 ≠ aS6 := Nat.ne_of_lt (Nat.lt_of_lt_of_le VW_v5.lt zs6)
  have ne_b5_aS6 : b5 ≠ aS6 := Nat.ne_of_lt (Nat.lt_of_lt_of_le Ex5_v5.lt zs6)
  have g_aS6 : n0 ≤ aS6 := Nat.le_trans Z5 zs6
  have ne_b1_aD6 : b1 ≠ aD6 := Nat.ne_of_lt (Nat.lt_of_lt_of_le VW_v5.lt zd6)
  have ne_b5_aD6 : b5 ≠ aD6 := Nat.ne_of_lt (Nat.lt_of_lt_of_le Ex5_v5.lt zd6)
  have g_aD6 : n0 ≤ aD6 := Nat.le_trans Z5 zd6
  have ne_b1_aE6 : b1 ≠ aE6 := Nat.ne_of_lt (Nat.lt_of_lt_of_le VW_v5.lt ze6)
  have ne_b5_aE6 : b5 ≠ aE6 := Nat.ne_of_lt (Nat.lt_of_lt_of_le Ex5_v5.lt ze6)
  have g_aE6 : n0 ≤ aE6 := Nat.le_trans Z5 ze6
  have VW_v6 := VW_v5.keep Kc6 (ninS ne_b1_b5 nin0)
  have Ex5_v6 := Ex5_v5.keep Kc6
  have Z6 : n0 ≤ T6.heap.size := Nat.le_trans Z5 Kc6.1
  obtain ⟨T7, h7, X7, e7, E7, A7, D7, -, st7⟩ := newO X6 hx hZ hown (hw _ (List.mem_of_getElem? (i := 1) rfl)) (hw _ (List.mem_of_getElem? (i := 2) rfl)) (hw _ (List.mem_of_getElem? (i := 3) rfl)) rfl (g := (mkF m 54 #[.val (.int p1), .val (.int p2), .val (.int p3), .val (.int p4), .val (.ref b1), .val (.ref b5), .unset, .unset, .unset, .unset, .unset, .unset, .unset, .unset] [])) rfl (hb hby at_54) (by decide) (by decide)
  obtain ⟨b7, g7⟩ : ∃ z, z = T6.heap.size := ⟨_, rfl⟩
  rw [← g7] at A7 D7 st7
  have ne_b1_b7 : b1 ≠ b7 := Nat.ne_of_lt (Nat.lt_of_lt_of_le VW_v6.lt (Nat.le_of_eq g7.symm))
  have ne_b5_b7 : b5 ≠ b7 := Nat.ne_of_lt (Nat.lt_of_lt_of_le Ex5_v6.lt (Nat.le_of_eq g7.symm))
  have ne_aS6_b7 : aS6 ≠ b7 := Nat.ne_of_lt (Nat.lt_of_lt_of_le nf6_5_v6.lt (Nat.le_of_eq g7.symm))
  have ne_aD6_b7 : aD6 ≠ b7 := Nat.ne_of_lt (Nat.lt_of_lt_of_le nf6_6_v6.lt (Nat.le_of_eq g7.symm))
  have ne_aE6_b7 : aE6 ≠ b7 := Nat.ne_of_lt (Nat.lt_of_lt_of_le nf6_7_v6.lt (Nat.le_of_eq g7.symm))
  have g_b7 : n0 ≤ b7 := Nat.le_trans Z6 (Nat.le_of_eq g7.symm)
  have VW_v7 := VW_v6.ext E7
  have Ex5_v7 := Ex5_v6.ext E7
  have nf6_0_v7 := nf6_0_v6.ext E7
  have nf6_1_v7 := nf6_1_v6.ext E7
  have nf6_2_v7 := nf6_2_v6.ext E7
  have nf6_3_v7 := nf6_3_v6.ext E7
  have nf6_4_v7 := nf6_4_v6.ext E7
  have nf6_5_v7 := nf6_5_v6.ext E7
  have nf6_6_v7 := nf6_6_v6.ext E7
  have nf6_7_v7 := nf6_7_v6.ext E7
  have Z7 : n0 ≤ h7.size := Nat.le_trans Z6 E7.1
  have Ex7_v7 : Exa Z h7 b7 "com/example/velar/velar/WeightedDraws" := A7
  have F7drawn_v7 : Fld Z h7 b7 "com/example/velar/velar/WeightedDraws" "drawn" "[I" .null := D7 (Or.inl (hw _ (List.mem_of_getElem? (i := 12) rfl))) (ty := (.array .int)) (by decide)
  have F7drawnWeights_v7 : Fld Z h7 b7 "com/example/velar/velar/WeightedDraws" "drawnWeights" "[D" .null := D7 (Or.inl (hw _ (List.mem_of_getElem? (i := 14) rfl))) (ty := (.array .double)) (by decide)
  have F7leaves_v7 : Fld Z h7 b7 "com/example/velar/velar/WeightedDraws" "leaves" "I" (.int (0 : Int32)) := D7 (Or.inr (hw _ (List.mem_of_getElem? (i := 25) rfl))) (ty := .int) (by decide)
  have F7sums_v7 : Fld Z h7 b7 "com/example/velar/velar/WeightedDraws" "sums" "[D" .null := D7 (Or.inr (hw _ (List.mem_of_getElem? (i := 27) rfl))) (ty := (.array .double)) (by decide)
  have F7drawnCount_v7 : Fld Z h7 b7 "com/example/velar/velar/WeightedDraws" "drawnCount" "I" (.int (0 : Int32)) := D7 (Or.inl (hw _ (List.mem_of_getElem? (i := 46) rfl))) (ty := .int) (by decide)
  obtain ⟨_, _, ⟨T8, L8, k8, n8⟩, -, X8, ⟨Lc8, hQ8, l8, y8, z8⟩, st8⟩ := X7.specialBack hx (y := (⟨"com/example/velar/velar/WeightedDraws", "<init>", "([D)V"⟩ : MethodName)) rfl hown (mvT hZ (hw _ (List.mem_of_getElem? (i := 4) rfl))) (mvT hZ (hw _ (List.mem_of_getElem? (i := 5) rfl))) (mvT hZ (hw _ (List.mem_of_getElem? (i := 6) rfl))) (by decide) (backOf (W := 1) (rin l Z a0 hw [] b7 b1 w0 w1 w2 h7 n0 Z7 Ex7_v7 F7leaves_v7 F7sums_v7 F7drawn_v7 F7drawnWeights_v7 F7drawnCount_v7 VW_v7 g_b7 (Ne.symm ne_b1_b7) bw0 bw1 bw2) hZ (hw _ (List.mem_of_getElem? (i := 6) rfl)) (hw _ (List.mem_of_getElem? (i := 3) rfl)) (by decide) (by decide)) (g := (mkF m 60 #[.val (.int p1), .val (.int p2), .val (.int p3), .val (.int p4), .val (.ref b1), .val (.ref b5), .unset, .unset, .unset, .unset, .unset, .unset, .unset, .unset] [(.ref b1), (.ref b7), (.ref b7)])) rfl (by rw [hml]; rfl) (Steps.refl _) (a := b7) (argsL := [(.ref b1)]) (rest := [(.ref b7)]) (lenOf pd_4 rfl) rfl (by show 2 * 0 + _ ≤ _; exact Nat.le_of_eq rfl) (hb hby at_60) (fun _ _ => ⟨rfl, e7, (by decide : 6 + 3 ≤ _), (by decide : 149 + 136 ≤ _)⟩)
  dsimp only [Pt.U, Pt.locs, Pt.cells, Pt.slots] at X8 l8 y8 z8 st8 hQ8
  subst l8 y8 z8
  obtain ⟨aS8, aD8, aE8, rfl, N8q, Kc8, zs8, zd8, ze8, ne_aS8_aD8, ne_aS8_aE8, ne_aD8_aE8, nf8_0_v8, nf8_1_v8, nf8_2_v8, nf8_3_v8, nf8_4_v8, nf8_5_v8, nf8_6_v8, nf8_7_v8⟩ := hQ8
  have N8 := Fr.app N6 N8q
  have ne_b1_aS8 : b1 ≠ aS8 := Nat.ne_of_lt (Nat.lt_of_lt_of_le VW_v7.lt zs8)
  have ne_b5_aS8 : b5 ≠ aS8 := Nat.ne_of_lt (Nat.lt_of_lt_of_le Ex5_v7.lt zs8)
  have ne_aS6_aS8 : aS6 ≠ aS8 := Nat.ne_of_lt (Nat.lt_of_lt_of_le nf6_5_v7.lt zs8)
  have ne_aD6_aS8 : aD6 ≠ aS8 := Nat.ne_of_lt (Nat.lt_of_lt_of_le nf6_6_v7.lt zs8)
  have ne_aE6_aS8 : aE6 ≠ aS8 := Nat.ne_of_lt (Nat.lt_of_lt_of_le nf6_7_v7.lt zs8)
  have ne_b7_aS8 : b7 ≠ aS8 := Nat.ne_of_lt (Nat.lt_of_lt_of_le Ex7_v7.lt zs8)
  have g_aS8 : n0 ≤ aS8 := Nat.le_trans Z7 zs8
  have ne_b1_aD8 : b1 ≠ aD8 := Nat.ne_of_lt (Nat.lt_of_lt_of_le VW_v7.lt zd8)
  have ne_b5_aD8 : b5 ≠ aD8 := Nat.ne_of_lt (Nat.lt_of_lt_of_le Ex5_v7.lt zd8)
  have ne_aS6_aD8 : aS6 ≠ aD8 := Nat.ne_of_lt (Nat.lt_of_lt_of_le nf6_5_v7.lt zd8)
  have ne_aD6_aD8 : aD6 ≠ aD8 := Nat.ne_of_lt (Nat.lt_of_lt_of_le nf6_6_v7.lt zd8)
  have ne_aE6_aD8 : aE6 ≠ aD8 := Nat.ne_of_lt (Nat.lt_of_lt_of_le nf6_7_v7.lt zd8)
  have ne_b7_aD8 : b7 ≠ aD8 := Nat.ne_of_lt (Nat.lt_of_lt_of_le Ex7_v7.lt zd8)
  have g_aD8 : n0 ≤ aD8 := Nat.le_trans Z7 zd8
  have ne_b1_aE8 : b1 ≠ aE8 := Nat.ne_of_lt (Nat.lt_of_lt_of_le VW_v7.lt ze8)
  have ne_b5_aE8 : b5 ≠ aE8 := Nat.ne_of_lt (Nat.lt_of_lt_of_le Ex5_v7.lt ze8)
  have ne_aS6_aE8 : aS6 ≠ aE8 := Nat.ne_of_lt (Nat.lt_of_lt_of_le nf6_5_v7.lt ze8)
  have ne_aD6_aE8 : aD6 ≠ aE8 := Nat.ne_of_lt (Nat.lt_of_lt_of_le nf6_6_v7.lt ze8)
  have ne_aE6_aE8 : aE6 ≠ aE8 := Nat.ne_of_lt (Nat.lt_of_lt_of_le nf6_7_v7.lt ze8)
  have ne_b7_aE8 : b7 ≠ aE8 := Nat.ne_of_lt (Nat.lt_of_lt_of_le Ex7_v7.lt ze8)
  have g_aE8 : n0 ≤ aE8 := Nat.le_trans Z7 ze8
  have VW_v8 := VW_v7.keep Kc8 (ninS ne_b1_b7 nin0)
  have Ex5_v8 := Ex5_v7.keep Kc8
  have nf6_0_v8 := nf6_0_v7.keep Kc8 (ninS ne_b5_b7 nin0)
  have nf6_1_v8 := nf6_1_v7.keep Kc8 (ninS ne_b5_b7 nin0)
  have nf6_2_v8 := nf6_2_v7.keep Kc8 (ninS ne_b5_b7 nin0)
  have nf6_3_v8 := nf6_3_v7.keep Kc8 (ninS ne_b5_b7 nin0)
  have nf6_4_v8 := nf6_4_v7.keep Kc8 (ninS ne_b5_b7 nin0)
  have nf6_5_v8 := nf6_5_v7.keep Kc8 (ninS ne_aS6_b7 nin0)
  have nf6_6_v8 := nf6_6_v7.keep Kc8 (ninS ne_aD6_b7 nin0)
  have nf6_7_v8 := nf6_7_v7.keep Kc8 (ninS ne_aE6_b7 nin0)
  have Ex7_v8 := Ex7_v7.keep Kc8
  have Z8 : n0 ≤ T8.heap.size := Nat.le_trans Z7 Kc8.1
  obtain ⟨_, _, ⟨T9, L9, k9, n9⟩, -, X9, ⟨Lc9, hQ9, l9, y9, z9⟩, st9⟩ := Jvm.LawKit.callS X8 hx (y := (⟨"com/example/velar/velar/WeightedDrawsPutBackPinLaw", "drawSome", "(Lcom/example/velar/velar/WeightedDraws;II)V"⟩ : MethodName)) hown (mvT hZ (hw _ (List.mem_of_getElem? (i := 32) rfl))) (mvT hZ (hw _ (List.mem_of_getElem? (i := 33) rfl))) (mvT hZ (hw _ (List.mem_of_getElem? (i := 34) rfl))) (mvT hZ (hw _ (List.mem_of_getElem? (i := 35) rfl))) (by decide) (backOf (W := 0) (rds l Z a0 hw [] b5 (p2 &&& (3 : Int32)) p3 aS6 aD6 aE6 (own_M w0 w1 w2) own_zD own_zX T8.heap n0 Z8 Ex5_v8 nf6_0_v8 nf6_1_v8 nf6_2_v8 nf6_3_v8 nf6_4_v8 nf6_5_v8 nf6_6_v8 nf6_7_v8 g_b5 g_aS6 g_aD6 g_aE6 ne_b5_aS6 ne_b5_aD6 ne_b5_aE6 ne_aS6_aD6 ne_aS6_aE6 ne_aD6_aE6 hM0 ⟨nw0, nw1, nw2⟩ (fun _ => own_L0)) hZ (hw _ (List.mem_of_getElem? (i := 35) rfl)) (hw _ (List.mem_of_getElem? (i := 34) rfl)) (by decide) (by decide)) (g := (mkF m 75 #[.val (.int p1), .val (.int p2), .val (.int p3), .val (.int p4), .val (.ref b1), .val (.ref b5), .val (.ref b7), .val (.int (p2 &&& (3 : Int32))), .unset, .unset, .unset, .unset, .unset, .unset] [(.int p3), (.int (p2 &&& (3 : Int32))), (.ref b5)])) rfl (by rw [hml]; rfl) (argsL := [(.ref b5), (.int (p2 &&& (3 : Int32))), (.int p3)]) (rest := []) (lenOf pd_5 rfl) rfl (by show 2 * 0 + _ ≤ _; exact Nat.le_of_eq rfl) (hb hby at_75) (fun _ _ => ⟨rfl, rfl, (by decide : 9 + 0 ≤ _), (by decide : 285 + 0 ≤ _)⟩)
  dsimp only [Pt.U, Pt.locs, Pt.cells, Pt.slots] at X9 l9 y9 z9 st9 hQ9
  subst l9 y9 z9
  obtain ⟨c9, M9, D9, X9s, rfl, N9q, Kc9, nf9_0_v9, nf9_1_v9, nf9_2_v9, nf9_3_v9, nf9_4_v9, nf9_5_v9, nf9_6_v9, nf9_7_v9, hb9⟩ := hQ9
  have N9 := Fr.app N8 N9q
  have VW_v9 := VW_v8.keep Kc9 (ninS ne_b1_b5 (ninS ne_b1_aS6 (ninS ne_b1_aD6 (ninS ne_b1_aE6 nin0))))
  have Ex5_v9 := Ex5_v8.keep Kc9
  have Ex7_v9 := Ex7_v8.keep Kc9
  have nf8_0_v9 := nf8_0_v8.keep Kc9 (ninS (Ne.symm ne_b5_b7) (ninS (Ne.symm ne_aS6_b7) (ninS (Ne.symm ne_aD6_b7) (ninS (Ne.symm ne_aE6_b7) nin0))))
  have nf8_1_v9 := nf8_1_v8.keep Kc9 (ninS (Ne.symm ne_b5_b7) (ninS (Ne.symm ne_aS6_b7) (ninS (Ne.symm ne_aD6_b7) (ninS (Ne.symm ne_aE6_b7) nin0))))
  have nf8_2_v9 := nf8_2_v8.keep Kc9 (ninS (Ne.symm ne_b5_b7) (ninS (Ne.symm ne_aS6_b7) (ninS (Ne.symm ne_aD6_b7) (ninS (Ne.symm ne_aE6_b7) nin0))))
  have nf8_3_v9 := nf8_3_v8.keep Kc9 (ninS (Ne.symm ne_b5_b7) (ninS (Ne.symm ne_aS6_b7) (ninS (Ne.symm ne_aD6_b7) (ninS (Ne.symm ne_aE6_b7) nin0))))
  have nf8_4_v9 := nf8_4_v8.keep Kc9 (ninS (Ne.symm ne_b5_b7) (ninS (Ne.symm ne_aS6_b7) (ninS (Ne.symm ne_aD6_b7) (ninS (Ne.symm ne_aE6_b7) nin0))))
  have nf8_5_v9 := nf8_5_v8.keep Kc9 (ninS (Ne.symm ne_b5_aS8) (ninS (Ne.symm ne_aS6_aS8) (ninS (Ne.symm ne_aD6_aS8) (ninS (Ne.symm ne_aE6_aS8) nin0))))
  have nf8_6_v9 := nf8_6_v8.keep Kc9 (ninS (Ne.symm ne_b5_aD8) (ninS (Ne.symm ne_aS6_aD8) (ninS (Ne.symm ne_aD6_aD8) (ninS (Ne.symm ne_aE6_aD8) nin0))))
  have nf8_7_v9 := nf8_7_v8.keep Kc9 (ninS (Ne.symm ne_b5_aE8) (ninS (Ne.symm ne_aS6_aE8) (ninS (Ne.symm ne_aD6_aE8) (ninS (Ne.symm ne_aE6_aE8) nin0))))
  have Z9 : n0 ≤ T9.heap.size := Nat.le_trans Z8 Kc9.1
  obtain ⟨cq10, kq10, q10a, q10b, q10c⟩ := isOf hZ rfl Ex5_v9
  obtain ⟨_, _, ⟨T10, L10, k10, n10⟩, -, X10, ⟨Lc10, hQ10, l10, y10, z10⟩, st10⟩ := X9.virtualBack hx (y := (⟨"com/example/velar/velar/WeightedDraws", "putBack", "()V"⟩ : MethodName)) (z := (⟨"com/example/velar/velar/WeightedDraws", "putBack", "()V"⟩ : MethodName)) hown (mvT hZ (hw _ (List.mem_of_getElem? (i := 51) rfl))) (mvT hZ (hw _ (List.mem_of_getElem? (i := 52) rfl))) (notFace_of_selects (args := #[]) (mvT hZ (hw _ (List.mem_of_getElem? (i := 54) rfl)))) (mvT hZ (hw _ (List.mem_of_getElem? (i := 54) rfl))) (mvT hZ (hw _ (List.mem_of_getElem? (i := 53) rfl))) (by decide) (backOf (W := 0) (rpb l Z a0 hw [] b5 aS6 aD6 aE6 c9 M9 D9 X9s T9.heap n0 Z9 Ex5_v9 nf9_0_v9 nf9_1_v9 nf9_2_v9 nf9_3_v9 nf9_4_v9 nf9_5_v9 nf9_6_v9 nf9_7_v9 g_b5 g_aS6 g_aD6 g_aE6 ne_b5_aS6 ne_b5_aD6 ne_b5_aE6 ne_aS6_aD6 ne_aS6_aE6 ne_aD6_aE6 hb9.1 hb9.2.1 hb9.2.2.1 hb9.2.2.2.1) hZ (hw _ (List.mem_of_getElem? (i := 55) rfl)) (hw _ (List.mem_of_getElem? (i := 3) rfl)) (by decide) (by decide)) q10a q10c (g := (mkF m 80 #[.val (.int p1), .val (.int p2), .val (.int p3), .val (.int p4), .val (.ref b1), .val (.ref b5), .val (.ref b7), .val (.int (p2 &&& (3 : Int32))), .unset, .unset, .unset, .unset, .unset, .unset] [(.ref b5)])) rfl (by rw [hml]; rfl) (Steps.refl _) (argsL := []) (rest := []) (lenOf pd_6 rfl) rfl (by show 2 * 0 + _ ≤ _; exact Nat.le_of_eq rfl) (hb hby at_80) (fun _ _ => ⟨rfl, rfl, (by decide : 9 + 0 ≤ _), (by decide : 285 + 0 ≤ _)⟩)
  dsimp only [Pt.U, Pt.locs, Pt.cells, Pt.slots] at X10 l10 y10 z10 st10 hQ10
  subst l10 y10 z10
  obtain ⟨rfl, N10q, Kc10, nf10_0_v10, nf10_1_v10, nf10_2_v10, nf10_3_v10, nf10_4_v10, nf10_5_v10⟩ := hQ10
  have N10 := Fr.app N9 N10q
  have VW_v10 := VW_v9.keep Kc10 (ninS ne_b1_b5 (ninS ne_b1_aS6 nin0))
  have Ex5_v10 := Ex5_v9.keep Kc10
  have Ex7_v10 := Ex7_v9.keep Kc10
  have nf8_0_v10 := nf8_0_v9.keep Kc10 (ninS (Ne.symm ne_b5_b7) (ninS (Ne.symm ne_aS6_b7) nin0))
  have nf8_1_v10 := nf8_1_v9.keep Kc10 (ninS (Ne.symm ne_b5_b7) (ninS (Ne.symm ne_aS6_b7) nin0))
  have nf8_2_v10 := nf8_2_v9.keep Kc10 (ninS (Ne.symm ne_b5_b7) (ninS (Ne.symm ne_aS6_b7) nin0))
  have nf8_3_v10 := nf8_3_v9.keep Kc10 (ninS (Ne.symm ne_b5_b7) (ninS (Ne.symm ne_aS6_b7) nin0))
  have nf8_4_v10 := nf8_4_v9.keep Kc10 (ninS (Ne.symm ne_b5_b7) (ninS (Ne.symm ne_aS6_b7) nin0))
  have nf8_5_v10 := nf8_5_v9.keep Kc10 (ninS (Ne.symm ne_b5_aS8) (ninS (Ne.symm ne_aS6_aS8) nin0))
  have nf8_6_v10 := nf8_6_v9.keep Kc10 (ninS (Ne.symm ne_b5_aD8) (ninS (Ne.symm ne_aS6_aD8) nin0))
  have nf8_7_v10 := nf8_7_v9.keep Kc10 (ninS (Ne.symm ne_b5_aE8) (ninS (Ne.symm ne_aS6_aE8) nin0))
  have nf9_6_v10 := nf9_6_v9.keep Kc10 (ninS (Ne.symm ne_b5_aD6) (ninS (Ne.symm ne_aS6_aD6) nin0))
  have nf9_7_v10 := nf9_7_v9.keep Kc10 (ninS (Ne.symm ne_b5_aE6) (ninS (Ne.symm ne_aS6_aE6) nin0))
  have Z10 : n0 ≤ T10.heap.size := Nat.le_trans Z9 Kc10.1
  rw [hb9.2.2.2.2] at nf10_5_v10
  obtain ⟨_, _, ⟨T11, L11, k11, n11⟩, -, X11, ⟨Lc11, hQ11, l11, y11, z11⟩, st11⟩ := Jvm.LawKit.callS X10 hx (y := (⟨"com/example/velar/velar/WeightedDrawsPutBackPinLaw", "frac", "(I)D"⟩ : MethodName)) hown (mvT hZ (hw _ (List.mem_of_getElem? (i := 36) rfl))) (mvT hZ (hw _ (List.mem_of_getElem? (i := 37) rfl))) (mvT hZ (hw _ (List.mem_of_getElem? (i := 34) rfl))) (mvT hZ (hw _ (List.mem_of_getElem? (i := 38) rfl))) (by decide) (backOf (W := 1) (rfr l Z a0 hw [] p4 T10.heap n0 Z10) hZ (hw _ (List.mem_of_getElem? (i := 38) rfl)) (hw _ (List.mem_of_getElem? (i := 34) rfl)) (by decide) (by decide)) (g := (mkF m 86 #[.val (.int p1), .val (.int p2), .val (.int p3), .val (.int p4), .val (.ref b1), .val (.ref b5), .val (.ref b7), .val (.int (p2 &&& (3 : Int32))), .unset, .unset, .unset, .unset, .unset, .unset] [(.int p4), (.ref b5)])) rfl (by rw [hml]; rfl) (argsL := [(.int p4)]) (rest := [(.ref b5)]) (lenOf pd_2 rfl) rfl (by show 2 * 0 + _ ≤ _; exact Nat.le_of_eq rfl) (hb hby at_86) (fun _ _ => ⟨rfl, rfl, (by decide : 9 + 0 ≤ _), (by decide : 285 + 0 ≤ _)⟩)
  dsimp only [Pt.U, Pt.locs, Pt.cells, Pt.slots] at X11 l11 y11 z11 st11 hQ11
  subst l11 y11 z11
  obtain ⟨rfl, N11q, e11⟩ := hQ11
  have N11 := Fr.app N10 N11q
  obtain ⟨cq12, kq12, q12a, q12b, q12c⟩ := isOf hZ e11 Ex5_v10
  obtain ⟨_, _, ⟨T12, L12, k12, n12⟩, -, X12, ⟨Lc12, hQ12, l12, y12, z12⟩, st12⟩ := X11.virtualBack hx (y := (⟨"com/example/velar/velar/WeightedDraws", "draw", "(D)I"⟩ : MethodName)) (z := (⟨"com/example/velar/velar/WeightedDraws", "draw", "(D)I"⟩ : MethodName)) hown (mvT hZ (hw _ (List.mem_of_getElem? (i := 40) rfl))) (mvT hZ (hw _ (List.mem_of_getElem? (i := 41) rfl))) (notFace_of_selects (args := #[]) (mvT hZ (hw _ (List.mem_of_getElem? (i := 43) rfl)))) (mvT hZ (hw _ (List.mem_of_getElem? (i := 43) rfl))) (mvT hZ (hw _ (List.mem_of_getElem? (i := 42) rfl))) (by decide) (backOf (W := 0) (rdr l Z a0 hw [] b5 (own_fr p4) aS6 aD6 aE6 (0 : Int32) (own_M w0 w1 w2) D9 X9s T10.heap n0 Z10 Ex5_v10 nf10_0_v10 nf10_1_v10 nf10_2_v10 nf10_3_v10 nf10_4_v10 nf10_5_v10 nf9_6_v10 nf9_7_v10 g_b5 g_aS6 g_aD6 g_aE6 ne_b5_aS6 ne_b5_aD6 ne_b5_aE6 ne_aS6_aD6 ne_aS6_aE6 ne_aD6_aE6 hM0 (own_frf _) (by decide) ) hZ (hw _ (List.mem_of_getElem? (i := 44) rfl)) (hw _ (List.mem_of_getElem? (i := 3) rfl)) (by decide) (by decide)) q12a q12c (g := (mkF m 89 #[.val (.int p1), .val (.int p2), .val (.int p3), .val (.int p4), .val (.ref b1), .val (.ref b5), .val (.ref b7), .val (.int (p2 &&& (3 : Int32))), .unset, .unset, .unset, .unset, .unset, .unset] [(.double (own_fr p4)), (.ref b5)])) rfl (by rw [hml]; rfl) (Steps.refl _) (argsL := [(.double (own_fr p4))]) (rest := []) (lenOf pd_3 rfl) rfl (by show 2 * 0 + _ ≤ _; exact Nat.le_of_eq rfl) (hb hby at_89) (fun _ _ => ⟨rfl, e11, (by decide : 9 + 0 ≤ _), (by decide : 285 + 0 ≤ _)⟩)
  dsimp only [Pt.U, Pt.locs, Pt.cells, Pt.slots] at X12 l12 y12 z12 st12 hQ12
  subst l12 y12 z12
  obtain ⟨rfl, N12q, Kc12, nf12_0_v12, nf12_1_v12, nf12_2_v12, nf12_3_v12, nf12_4_v12, nf12_5_v12, nf12_6_v12, nf12_7_v12⟩ := hQ12
  have N12 := Fr.app N11 N12q
  have VW_v12 := VW_v10.keep Kc12 (ninS ne_b1_b5 (ninS ne_b1_aS6 (ninS ne_b1_aD6 (ninS ne_b1_aE6 nin0))))
  have Ex5_v12 := Ex5_v10.keep Kc12
  have Ex7_v12 := Ex7_v10.keep Kc12
  have nf8_0_v12 := nf8_0_v10.keep Kc12 (ninS (Ne.symm ne_b5_b7) (ninS (Ne.symm ne_aS6_b7) (ninS (Ne.symm ne_aD6_b7) (ninS (Ne.symm ne_aE6_b7) nin0))))
  have nf8_1_v12 := nf8_1_v10.keep Kc12 (ninS (Ne.symm ne_b5_b7) (ninS (Ne.symm ne_aS6_b7) (ninS (Ne.symm ne_aD6_b7) (ninS (Ne.symm ne_aE6_b7) nin0))))
  have nf8_2_v12 := nf8_2_v10.keep Kc12 (ninS (Ne.symm ne_b5_b7) (ninS (Ne.symm ne_aS6_b7) (ninS (Ne.symm ne_aD6_b7) (ninS (Ne.symm ne_aE6_b7) nin0))))
  have nf8_3_v12 := nf8_3_v10.keep Kc12 (ninS (Ne.symm ne_b5_b7) (ninS (Ne.symm ne_aS6_b7) (ninS (Ne.symm ne_aD6_b7) (ninS (Ne.symm ne_aE6_b7) nin0))))
  have nf8_4_v12 := nf8_4_v10.keep Kc12 (ninS (Ne.symm ne_b5_b7) (ninS (Ne.symm ne_aS6_b7) (ninS (Ne.symm ne_aD6_b7) (ninS (Ne.symm ne_aE6_b7) nin0))))
  have nf8_5_v12 := nf8_5_v10.keep Kc12 (ninS (Ne.symm ne_b5_aS8) (ninS (Ne.symm ne_aS6_aS8) (ninS (Ne.symm ne_aD6_aS8) (ninS (Ne.symm ne_aE6_aS8) nin0))))
  have nf8_6_v12 := nf8_6_v10.keep Kc12 (ninS (Ne.symm ne_b5_aD8) (ninS (Ne.symm ne_aS6_aD8) (ninS (Ne.symm ne_aD6_aD8) (ninS (Ne.symm ne_aE6_aD8) nin0))))
  have nf8_7_v12 := nf8_7_v10.keep Kc12 (ninS (Ne.symm ne_b5_aE8) (ninS (Ne.symm ne_aS6_aE8) (ninS (Ne.symm ne_aD6_aE8) (ninS (Ne.symm ne_aE6_aE8) nin0))))
  have Z12 : n0 ≤ T12.heap.size := Nat.le_trans Z10 Kc12.1
  obtain ⟨_, _, ⟨T13, L13, k13, n13⟩, -, X13, ⟨Lc13, hQ13, l13, y13, z13⟩, st13⟩ := Jvm.LawKit.callS X12 hx (y := (⟨"com/example/velar/velar/WeightedDrawsPutBackPinLaw", "frac", "(I)D"⟩ : MethodName)) hown (mvT hZ (hw _ (List.mem_of_getElem? (i := 36) rfl))) (mvT hZ (hw _ (List.mem_of_getElem? (i := 37) rfl))) (mvT hZ (hw _ (List.mem_of_getElem? (i := 34) rfl))) (mvT hZ (hw _ (List.mem_of_getElem? (i := 38) rfl))) (by decide) (backOf (W := 1) (rfr l Z a0 hw [] p4 T12.heap n0 Z12) hZ (hw _ (List.mem_of_getElem? (i := 38) rfl)) (hw _ (List.mem_of_getElem? (i := 34) rfl)) (by decide) (by decide)) (g := (mkF m 97 #[.val (.int p1), .val (.int p2), .val (.int p3), .val (.int p4), .val (.ref b1), .val (.ref b5), .val (.ref b7), .val (.int (p2 &&& (3 : Int32))), .val (.int ((own_pick (own_M w0 w1 w2) (own_fr p4)) - (4 : Int32))), .unset, .unset, .unset, .unset, .unset] [(.int p4), (.ref b7)])) rfl (by rw [hml]; rfl) (argsL := [(.int p4)]) (rest := [(.ref b7)]) (lenOf pd_2 rfl) rfl (by show 2 * 0 + _ ≤ _; exact Nat.le_of_eq rfl) (hb hby at_97) (fun _ _ => ⟨rfl, rfl, (by decide : 9 + 0 ≤ _), (by decide : 285 + 0 ≤ _)⟩)
  dsimp only [Pt.U, Pt.locs, Pt.cells, Pt.slots] at X13 l13 y13 z13 st13 hQ13
  subst l13 y13 z13
  obtain ⟨rfl, N13q, e13⟩ := hQ13
  have N13 := Fr.app N12 N13q
  obtain ⟨cq14, kq14, q14a, q14b, q14c⟩ := isOf hZ e13 Ex7_v12
  obtain ⟨_, _, ⟨T14, L14, k14, n14⟩, -, X14, ⟨Lc14, hQ14, l14, y14, z14⟩, st14⟩ := X13.virtualBack hx (y := (⟨"com/example/velar/velar/WeightedDraws", "draw", "(D)I"⟩ : MethodName)) (z := (⟨"com/example/velar/velar/WeightedDraws", "draw", "(D)I"⟩ : MethodName)) hown (mvT hZ (hw _ (List.mem_of_getElem? (i := 40) rfl))) (mvT hZ (hw _ (List.mem_of_getElem? (i := 41) rfl))) (notFace_of_selects (args := #[]) (mvT hZ (hw _ (List.mem_of_getElem? (i := 43) rfl)))) (mvT hZ (hw _ (List.mem_of_getElem? (i := 43) rfl))) (mvT hZ (hw _ (List.mem_of_getElem? (i := 42) rfl))) (by decide) (backOf (W := 0) (rdr l Z a0 hw [] b7 (own_fr p4) aS8 aD8 aE8 (0 : Int32) (own_M w0 w1 w2) own_zD own_zX T12.heap n0 Z12 Ex7_v12 nf8_0_v12 nf8_1_v12 nf8_2_v12 nf8_3_v12 nf8_4_v12 nf8_5_v12 nf8_6_v12 nf8_7_v12 g_b7 g_aS8 g_aD8 g_aE8 ne_b7_aS8 ne_b7_aD8 ne_b7_aE8 ne_aS8_aD8 ne_aS8_aE8 ne_aD8_aE8 hM0 (own_frf _) (by decide) ) hZ (hw _ (List.mem_of_getElem? (i := 44) rfl)) (hw _ (List.mem_of_getElem? (i := 3) rfl)) (by decide) (by decide)) q14a q14c (g := (mkF m 100 #[.val (.int p1), .val (.int p2), .val (.int p3), .val (.int p4), .val (.ref b1), .val (.ref b5), .val (.ref b7), .val (.int (p2 &&& (3 : Int32))), .val (.int ((own_pick (own_M w0 w1 w2) (own_fr p4)) - (4 : Int32))), .unset, .unset, .unset, .unset, .unset] [(.double (own_fr p4)), (.ref b7)])) rfl (by rw [hml]; rfl) (Steps.refl _) (argsL := [(.double (own_fr p4))]) (rest := []) (lenOf pd_3 rfl) rfl (by show 2 * 0 + _ ≤ _; exact Nat.le_of_eq rfl) (hb hby at_100) (fun _ _ => ⟨rfl, e13, (by decide : 9 + 0 ≤ _), (by decide : 285 + 0 ≤ _)⟩)
  dsimp only [Pt.U, Pt.locs, Pt.cells, Pt.slots] at X14 l14 y14 z14 st14 hQ14
  subst l14 y14 z14
  obtain ⟨rfl, N14q, Kc14, nf14_0_v14, nf14_1_v14, nf14_2_v14, nf14_3_v14, nf14_4_v14, nf14_5_v14, nf14_6_v14, nf14_7_v14⟩ := hQ14
  have N14 := Fr.app N13 N14q
  have VW_v14 := VW_v12.keep Kc14 (ninS ne_b1_b7 (ninS ne_b1_aS8 (ninS ne_b1_aD8 (ninS ne_b1_aE8 nin0))))
  have Ex5_v14 := Ex5_v12.keep Kc14
  have Ex7_v14 := Ex7_v12.keep Kc14
  have nf12_0_v14 := nf12_0_v12.keep Kc14 (ninS ne_b5_b7 (ninS ne_b5_aS8 (ninS ne_b5_aD8 (ninS ne_b5_aE8 nin0))))
  have nf12_1_v14 := nf12_1_v12.keep Kc14 (ninS ne_b5_b7 (ninS ne_b5_aS8 (ninS ne_b5_aD8 (ninS ne_b5_aE8 nin0))))
  have nf12_2_v14 := nf12_2_v12.keep Kc14 (ninS ne_b5_b7 (ninS ne_b5_aS8 (ninS ne_b5_aD8 (ninS ne_b5_aE8 nin0))))
  have nf12_3_v14 := nf12_3_v12.keep Kc14 (ninS ne_b5_b7 (ninS ne_b5_aS8 (ninS ne_b5_aD8 (ninS ne_b5_aE8 nin0))))
  have nf12_4_v14 := nf12_4_v12.keep Kc14 (ninS ne_b5_b7 (ninS ne_b5_aS8 (ninS ne_b5_aD8 (ninS ne_b5_aE8 nin0))))
  have nf12_5_v14 := nf12_5_v12.keep Kc14 (ninS ne_aS6_b7 (ninS ne_aS6_aS8 (ninS ne_aS6_aD8 (ninS ne_aS6_aE8 nin0))))
  have nf12_6_v14 := nf12_6_v12.keep Kc14 (ninS ne_aD6_b7 (ninS ne_aD6_aS8 (ninS ne_aD6_aD8 (ninS ne_aD6_aE8 nin0))))
  have nf12_7_v14 := nf12_7_v12.keep Kc14 (ninS ne_aE6_b7 (ninS ne_aE6_aS8 (ninS ne_aE6_aD8 (ninS ne_aE6_aE8 nin0))))
  have Z14 : n0 ≤ T14.heap.size := Nat.le_trans Z12 Kc14.1
  obtain ⟨_, _, ⟨T15, L15, k15, n15⟩, -, X15, ⟨Lc15, hQ15, l15, y15, z15⟩, st15⟩ := Jvm.LawKit.callS X14 hx (y := (⟨"com/example/velar/velar/WeightedDrawsPutBackPinLaw", "frac", "(I)D"⟩ : MethodName)) hown (mvT hZ (hw _ (List.mem_of_getElem? (i := 36) rfl))) (mvT hZ (hw _ (List.mem_of_getElem? (i := 37) rfl))) (mvT hZ (hw _ (List.mem_of_getElem? (i := 34) rfl))) (mvT hZ (hw _ (List.mem_of_getElem? (i := 38) rfl))) (by decide) (backOf (W := 1) (rfr l Z a0 hw [] ((p4.toUInt32 >>> ((3 : Int32) &&& 31).toUInt32).toInt32) T14.heap n0 Z14) hZ (hw _ (List.mem_of_getElem? (i := 38) rfl)) (hw _ (List.mem_of_getElem? (i := 34) rfl)) (by decide) (by decide)) (g := (mkF m 110 #[.val (.int p1), .val (.int p2), .val (.int p3), .val (.int p4), .val (.ref b1), .val (.ref b5), .val (.ref b7), .val (.int (p2 &&& (3 : Int32))), .val (.int ((own_pick (own_M w0 w1 w2) (own_fr p4)) - (4 : Int32))), .val (.int ((own_pick (own_M w0 w1 w2) (own_fr p4)) - (4 : Int32))), .unset, .unset, .unset, .unset] [(.int ((p4.toUInt32 >>> ((3 : Int32) &&& 31).toUInt32).toInt32)), (.ref b5)])) rfl (by rw [hml]; rfl) (argsL := [(.int ((p4.toUInt32 >>> ((3 : Int32) &&& 31).toUInt32).toInt32))]) (rest := [(.ref b5)]) (lenOf pd_2 rfl) rfl (by show 2 * 0 + _ ≤ _; exact Nat.le_of_eq rfl) (hb hby at_110) (fun _ _ => ⟨rfl, rfl, (by decide : 9 + 0 ≤ _), (by decide : 285 + 0 ≤ _)⟩)
  dsimp only [Pt.U, Pt.locs, Pt.cells, Pt.slots] at X15 l15 y15 z15 st15 hQ15
  subst l15 y15 z15
  obtain ⟨rfl, N15q, e15⟩ := hQ15
  have N15 := Fr.app N14 N15q
  obtain ⟨cq16, kq16, q16a, q16b, q16c⟩ := isOf hZ e15 Ex5_v14
  obtain ⟨_, _, ⟨T16, L16, k16, n16⟩, -, X16, ⟨Lc16, hQ16, l16, y16, z16⟩, st16⟩ := X15.virtualBack hx (y := (⟨"com/example/velar/velar/WeightedDraws", "draw", "(D)I"⟩ : MethodName)) (z := (⟨"com/example/velar/velar/WeightedDraws", "draw", "(D)I"⟩ : MethodName)) hown (mvT hZ (hw _ (List.mem_of_getElem? (i := 40) rfl))) (mvT hZ (hw _ (List.mem_of_getElem? (i := 41) rfl))) (notFace_of_selects (args := #[]) (mvT hZ (hw _ (List.mem_of_getElem? (i := 43) rfl)))) (mvT hZ (hw _ (List.mem_of_getElem? (i := 43) rfl))) (mvT hZ (hw _ (List.mem_of_getElem? (i := 42) rfl))) (by decide) (backOf (W := 0) (rdr l Z a0 hw [] b5 (own_fr ((p4.toUInt32 >>> ((3 : Int32) &&& 31).toUInt32).toInt32)) aS6 aD6 aE6 (1 : Int32) (own_up (own_M w0 w1 w2) (own_pick (own_M w0 w1 w2) (own_fr p4)) 0) (own_upN D9 (0 : Int32) (own_pick (own_M w0 w1 w2) (own_fr p4))) (own_upX X9s (0 : Int32) ((own_M w0 w1 w2) (own_pick (own_M w0 w1 w2) (own_fr p4)))) T14.heap n0 Z14 Ex5_v14 nf12_0_v14 nf12_1_v14 nf12_2_v14 nf12_3_v14 nf12_4_v14 nf12_5_v14 nf12_6_v14 nf12_7_v14 g_b5 g_aS6 g_aD6 g_aE6 ne_b5_aS6 ne_b5_aD6 ne_b5_aE6 ne_aS6_aD6 ne_aS6_aE6 ne_aD6_aE6 (own_bdup hM0 own_L0) (own_frf _) (by decide) ) hZ (hw _ (List.mem_of_getElem? (i := 44) rfl)) (hw _ (List.mem_of_getElem? (i := 3) rfl)) (by decide) (by decide)) q16a q16c (g := (mkF m 113 #[.val (.int p1), .val (.int p2), .val (.int p3), .val (.int p4), .val (.ref b1), .val (.ref b5), .val (.ref b7), .val (.int (p2 &&& (3 : Int32))), .val (.int ((own_pick (own_M w0 w1 w2) (own_fr p4)) - (4 : Int32))), .val (.int ((own_pick (own_M w0 w1 w2) (own_fr p4)) - (4 : Int32))), .unset, .unset, .unset, .unset] [(.double (own_fr ((p4.toUInt32 >>> ((3 : Int32) &&& 31).toUInt32).toInt32))), (.ref b5)])) rfl (by rw [hml]; rfl) (Steps.refl _) (argsL := [(.double (own_fr ((p4.toUInt32 >>> ((3 : Int32) &&& 31).toUInt32).toInt32)))]) (rest := []) (lenOf pd_3 rfl) rfl (by show 2 * 0 + _ ≤ _; exact Nat.le_of_eq rfl) (hb hby at_113) (fun _ _ => ⟨rfl, e15, (by decide : 9 + 0 ≤ _), (by decide : 285 + 0 ≤ _)⟩)
  dsimp only [Pt.U, Pt.locs, Pt.cells, Pt.slots] at X16 l16 y16 z16 st16 hQ16
  subst l16 y16 z16
  obtain ⟨rfl, N16q, Kc16, nf16_0_v16, nf16_1_v16, nf16_2_v16, nf16_3_v16, nf16_4_v16, nf16_5_v16, nf16_6_v16, nf16_7_v16⟩ := hQ16
  have N16 := Fr.app N15 N16q
  have VW_v16 := VW_v14.keep Kc16 (ninS ne_b1_b5 (ninS ne_b1_aS6 (ninS ne_b1_aD6 (ninS ne_b1_aE6 nin0))))
  have Ex5_v16 := Ex5_v14.keep Kc16
  have Ex7_v16 := Ex7_v14.keep Kc16
  have nf14_0_v16 := nf14_0_v14.keep Kc16 (ninS (Ne.symm ne_b5_b7) (ninS (Ne.symm ne_aS6_b7) (ninS (Ne.symm ne_aD6_b7) (ninS (Ne.symm ne_aE6_b7) nin0))))
  have nf14_1_v16 := nf14_1_v14.keep Kc16 (ninS (Ne.symm ne_b5_b7) (ninS (Ne.symm ne_aS6_b7) (ninS (Ne.symm ne_aD6_b7) (ninS (Ne.symm ne_aE6_b7) nin0))))
  have nf14_2_v16 := nf14_2_v14.keep Kc16 (ninS (Ne.symm ne_b5_b7) (ninS (Ne.symm ne_aS6_b7) (ninS (Ne.symm ne_aD6_b7) (ninS (Ne.symm ne_aE6_b7) nin0))))
  have nf14_3_v16 := nf14_3_v14.keep Kc16 (ninS (Ne.symm ne_b5_b7) (ninS (Ne.symm ne_aS6_b7) (ninS (Ne.symm ne_aD6_b7) (ninS (Ne.symm ne_aE6_b7) nin0))))
  have nf14_4_v16 := nf14_4_v14.keep Kc16 (ninS (Ne.symm ne_b5_b7) (ninS (Ne.symm ne_aS6_b7) (ninS (Ne.symm ne_aD6_b7) (ninS (Ne.symm ne_aE6_b7) nin0))))
  have nf14_5_v16 := nf14_5_v14.keep Kc16 (ninS (Ne.symm ne_b5_aS8) (ninS (Ne.symm ne_aS6_aS8) (ninS (Ne.symm ne_aD6_aS8) (ninS (Ne.symm ne_aE6_aS8) nin0))))
  have nf14_6_v16 := nf14_6_v14.keep Kc16 (ninS (Ne.symm ne_b5_aD8) (ninS (Ne.symm ne_aS6_aD8) (ninS (Ne.symm ne_aD6_aD8) (ninS (Ne.symm ne_aE6_aD8) nin0))))
  have nf14_7_v16 := nf14_7_v14.keep Kc16 (ninS (Ne.symm ne_b5_aE8) (ninS (Ne.symm ne_aS6_aE8) (ninS (Ne.symm ne_aD6_aE8) (ninS (Ne.symm ne_aE6_aE8) nin0))))
  have Z16 : n0 ≤ T16.heap.size := Nat.le_trans Z14 Kc16.1
  obtain ⟨_, _, ⟨T17, L17, k17, n17⟩, -, X17, ⟨Lc17, hQ17, l17, y17, z17⟩, st17⟩ := Jvm.LawKit.callS X16 hx (y := (⟨"com/example/velar/velar/WeightedDrawsPutBackPinLaw", "frac", "(I)D"⟩ : MethodName)) hown (mvT hZ (hw _ (List.mem_of_getElem? (i := 36) rfl))) (mvT hZ (hw _ (List.mem_of_getElem? (i := 37) rfl))) (mvT hZ (hw _ (List.mem_of_getElem? (i := 34) rfl))) (mvT hZ (hw _ (List.mem_of_getElem? (i := 38) rfl))) (by decide) (backOf (W := 1) (rfr l Z a0 hw [] ((p4.toUInt32 >>> ((3 : Int32) &&& 31).toUInt32).toInt32) T16.heap n0 Z16) hZ (hw _ (List.mem_of_getElem? (i := 38) rfl)) (hw _ (List.mem_of_getElem? (i := 34) rfl)) (by decide) (by decide)) (g := (mkF m 123 #[.val (.int p1), .val (.int p2), .val (.int p3), .val (.int p4), .val (.ref b1), .val (.ref b5), .val (.ref b7), .val (.int (p2 &&& (3 : Int32))), .val (.int ((own_pick (own_M w0 w1 w2) (own_fr p4)) - (4 : Int32))), .val (.int ((own_pick (own_M w0 w1 w2) (own_fr p4)) - (4 : Int32))), .val (.int ((own_pick (own_up (own_M w0 w1 w2) (own_pick (own_M w0 w1 w2) (own_fr p4)) 0) (own_fr ((p4.toUInt32 >>> ((3 : Int32) &&& 31).toUInt32).toInt32))) - (4 : Int32))), .unset, .unset, .unset] [(.int ((p4.toUInt32 >>> ((3 : Int32) &&& 31).toUInt32).toInt32)), (.ref b7)])) rfl (by rw [hml]; rfl) (argsL := [(.int ((p4.toUInt32 >>> ((3 : Int32) &&& 31).toUInt32).toInt32))]) (rest := [(.ref b7)]) (lenOf pd_2 rfl) rfl (by show 2 * 0 + _ ≤ _; exact Nat.le_of_eq rfl) (hb hby at_123) (fun _ _ => ⟨rfl, rfl, (by decide : 9 + 0 ≤ _), (by decide : 285 + 0 ≤ _)⟩)
  dsimp only [Pt.U, Pt.locs, Pt.cells, Pt.slots] at X17 l17 y17 z17 st17 hQ17
  subst l17 y17 z17
  obtain ⟨rfl, N17q, e17⟩ := hQ17
  have N17 := Fr.app N16 N17q
  obtain ⟨cq18, kq18, q18a, q18b, q18c⟩ := isOf hZ e17 Ex7_v16
  obtain ⟨_, _, ⟨T18, L18, k18, n18⟩, -, X18, ⟨Lc18, hQ18, l18, y18, z18⟩, st18⟩ := X17.virtualBack hx (y := (⟨"com/example/velar/velar/WeightedDraws", "draw", "(D)I"⟩ : MethodName)) (z := (⟨"com/example/velar/velar/WeightedDraws", "draw", "(D)I"⟩ : MethodName)) hown (mvT hZ (hw _ (List.mem_of_getElem? (i := 40) rfl))) (mvT hZ (hw _ (List.mem_of_getElem? (i := 41) rfl))) (notFace_of_selects (args := #[]) (mvT hZ (hw _ (List.mem_of_getElem? (i := 43) rfl)))) (mvT hZ (hw _ (List.mem_of_getElem? (i := 43) rfl))) (mvT hZ (hw _ (List.mem_of_getElem? (i := 42) rfl))) (by decide) (backOf (W := 0) (rdr l Z a0 hw [] b7 (own_fr ((p4.toUInt32 >>> ((3 : Int32) &&& 31).toUInt32).toInt32)) aS8 aD8 aE8 (1 : Int32) (own_up (own_M w0 w1 w2) (own_pick (own_M w0 w1 w2) (own_fr p4)) 0) (own_upN own_zD (0 : Int32) (own_pick (own_M w0 w1 w2) (own_fr p4))) (own_upX own_zX (0 : Int32) ((own_M w0 w1 w2) (own_pick (own_M w0 w1 w2) (own_fr p4)))) T16.heap n0 Z16 Ex7_v16 nf14_0_v16 nf14_1_v16 nf14_2_v16 nf14_3_v16 nf14_4_v16 nf14_5_v16 nf14_6_v16 nf14_7_v16 g_b7 g_aS8 g_aD8 g_aE8 ne_b7_aS8 ne_b7_aD8 ne_b7_aE8 ne_aS8_aD8 ne_aS8_aE8 ne_aD8_aE8 (own_bdup hM0 own_L0) (own_frf _) (by decide) ) hZ (hw _ (List.mem_of_getElem? (i := 44) rfl)) (hw _ (List.mem_of_getElem? (i := 3) rfl)) (by decide) (by decide)) q18a q18c (g := (mkF m 126 #[.val (.int p1), .val (.int p2), .val (.int p3), .val (.int p4), .val (.ref b1), .val (.ref b5), .val (.ref b7), .val (.int (p2 &&& (3 : Int32))), .val (.int ((own_pick (own_M w0 w1 w2) (own_fr p4)) - (4 : Int32))), .val (.int ((own_pick (own_M w0 w1 w2) (own_fr p4)) - (4 : Int32))), .val (.int ((own_pick (own_up (own_M w0 w1 w2) (own_pick (own_M w0 w1 w2) (own_fr p4)) 0) (own_fr ((p4.toUInt32 >>> ((3 : Int32) &&& 31).toUInt32).toInt32))) - (4 : Int32))), .unset, .unset, .unset] [(.double (own_fr ((p4.toUInt32 >>> ((3 : Int32) &&& 31).toUInt32).toInt32))), (.ref b7)])) rfl (by rw [hml]; rfl) (Steps.refl _) (argsL := [(.double (own_fr ((p4.toUInt32 >>> ((3 : Int32) &&& 31).toUInt32).toInt32)))]) (rest := []) (lenOf pd_3 rfl) rfl (by show 2 * 0 + _ ≤ _; exact Nat.le_of_eq rfl) (hb hby at_126) (fun _ _ => ⟨rfl, e17, (by decide : 9 + 0 ≤ _), (by decide : 285 + 0 ≤ _)⟩)
  dsimp only [Pt.U, Pt.locs, Pt.cells, Pt.slots] at X18 l18 y18 z18 st18 hQ18
  subst l18 y18 z18
  obtain ⟨rfl, N18q, Kc18, nf18_0_v18, nf18_1_v18, nf18_2_v18, nf18_3_v18, nf18_4_v18, nf18_5_v18, nf18_6_v18, nf18_7_v18⟩ := hQ18
  have N18 := Fr.app N17 N18q
  have VW_v18 := VW_v16.keep Kc18 (ninS ne_b1_b7 (ninS ne_b1_aS8 (ninS ne_b1_aD8 (ninS ne_b1_aE8 nin0))))
  have Ex5_v18 := Ex5_v16.keep Kc18
  have Ex7_v18 := Ex7_v16.keep Kc18
  have nf16_0_v18 := nf16_0_v16.keep Kc18 (ninS ne_b5_b7 (ninS ne_b5_aS8 (ninS ne_b5_aD8 (ninS ne_b5_aE8 nin0))))
  have nf16_1_v18 := nf16_1_v16.keep Kc18 (ninS ne_b5_b7 (ninS ne_b5_aS8 (ninS ne_b5_aD8 (ninS ne_b5_aE8 nin0))))
  have nf16_2_v18 := nf16_2_v16.keep Kc18 (ninS ne_b5_b7 (ninS ne_b5_aS8 (ninS ne_b5_aD8 (ninS ne_b5_aE8 nin0))))
  have nf16_3_v18 := nf16_3_v16.keep Kc18 (ninS ne_b5_b7 (ninS ne_b5_aS8 (ninS ne_b5_aD8 (ninS ne_b5_aE8 nin0))))
  have nf16_4_v18 := nf16_4_v16.keep Kc18 (ninS ne_b5_b7 (ninS ne_b5_aS8 (ninS ne_b5_aD8 (ninS ne_b5_aE8 nin0))))
  have nf16_5_v18 := nf16_5_v16.keep Kc18 (ninS ne_aS6_b7 (ninS ne_aS6_aS8 (ninS ne_aS6_aD8 (ninS ne_aS6_aE8 nin0))))
  have nf16_6_v18 := nf16_6_v16.keep Kc18 (ninS ne_aD6_b7 (ninS ne_aD6_aS8 (ninS ne_aD6_aD8 (ninS ne_aD6_aE8 nin0))))
  have nf16_7_v18 := nf16_7_v16.keep Kc18 (ninS ne_aE6_b7 (ninS ne_aE6_aS8 (ninS ne_aE6_aD8 (ninS ne_aE6_aE8 nin0))))
  have Z18 : n0 ≤ T18.heap.size := Nat.le_trans Z16 Kc18.1
  obtain ⟨_, _, ⟨T19, L19, k19, n19⟩, -, X19, ⟨Lc19, hQ19, l19, y19, z19⟩, st19⟩ := Jvm.LawKit.callS X18 hx (y := (⟨"com/example/velar/velar/WeightedDrawsPutBackPinLaw", "frac", "(I)D"⟩ : MethodName)) hown (mvT hZ (hw _ (List.mem_of_getElem? (i := 36) rfl))) (mvT hZ (hw _ (List.mem_of_getElem? (i := 37) rfl))) (mvT hZ (hw _ (List.mem_of_getElem? (i := 34) rfl))) (mvT hZ (hw _ (List.mem_of_getElem? (i := 38) rfl))) (by decide) (backOf (W := 1) (rfr l Z a0 hw [] ((p4.toUInt32 >>> ((6 : Int32) &&& 31).toUInt32).toInt32) T18.heap n0 Z18) hZ (hw _ (List.mem_of_getElem? (i := 38) rfl)) (hw _ (List.mem_of_getElem? (i := 34) rfl)) (by decide) (by decide)) (g := (mkF m 137 #[.val (.int p1), .val (.int p2), .val (.int p3), .val (.int p4), .val (.ref b1), .val (.ref b5), .val (.ref b7), .val (.int (p2 &&& (3 : Int32))), .val (.int ((own_pick (own_M w0 w1 w2) (own_fr p4)) - (4 : Int32))), .val (.int ((own_pick (own_M w0 w1 w2) (own_fr p4)) - (4 : Int32))), .val (.int ((own_pick (own_up (own_M w0 w1 w2) (own_pick (own_M w0 w1 w2) (own_fr p4)) 0) (own_fr ((p4.toUInt32 >>> ((3 : Int32) &&& 31).toUInt32).toInt32))) - (4 : Int32))), .val (.int ((own_pick (own_up (own_M w0 w1 w2) (own_pick (own_M w0 w1 w2) (own_fr p4)) 0) (own_fr ((p4.toUInt32 >>> ((3 : Int32) &&& 31).toUInt32).toInt32))) - (4 : Int32))), .unset, .unset] [(.int ((p4.toUInt32 >>> ((6 : Int32) &&& 31).toUInt32).toInt32)), (.ref b5)])) rfl (by rw [hml]; rfl) (argsL := [(.int ((p4.toUInt32 >>> ((6 : Int32) &&& 31).toUInt32).toInt32))]) (rest := [(.ref b5)]) (lenOf pd_2 rfl) rfl (by show 2 * 0 + _ ≤ _; exact Nat.le_of_eq rfl) (hb hby at_137) (fun _ _ => ⟨rfl, rfl, (by decide : 9 + 0 ≤ _), (by decide : 285 + 0 ≤ _)⟩)
  dsimp only [Pt.U, Pt.locs, Pt.cells, Pt.slots] at X19 l19 y19 z19 st19 hQ19
  subst l19 y19 z19
  obtain ⟨rfl, N19q, e19⟩ := hQ19
  have N19 := Fr.app N18 N19q
  obtain ⟨cq20, kq20, q20a, q20b, q20c⟩ := isOf hZ e19 Ex5_v18
  obtain ⟨_, _, ⟨T20, L20, k20, n20⟩, -, X20, ⟨Lc20, hQ20, l20, y20, z20⟩, st20⟩ := X19.virtualBack hx (y := (⟨"com/example/velar/velar/WeightedDraws", "draw", "(D)I"⟩ : MethodName)) (z := (⟨"com/example/velar/velar/WeightedDraws", "draw", "(D)I"⟩ : MethodName)) hown (mvT hZ (hw _ (List.mem_of_getElem? (i := 40) rfl))) (mvT hZ (hw _ (List.mem_of_getElem? (i := 41) rfl))) (notFace_of_selects (args := #[]) (mvT hZ (hw _ (List.mem_of_getElem? (i := 43) rfl)))) (mvT hZ (hw _ (List.mem_of_getElem? (i := 43) rfl))) (mvT hZ (hw _ (List.mem_of_getElem? (i := 42) rfl))) (by decide) (backOf (W := 0) (rdr l Z a0 hw [] b5 (own_fr ((p4.toUInt32 >>> ((6 : Int32) &&& 31).toUInt32).toInt32)) aS6 aD6 aE6 (2 : Int32) (own_up (own_up (own_M w0 w1 w2) (own_pick (own_M w0 w1 w2) (own_fr p4)) 0) (own_pick (own_up (own_M w0 w1 w2) (own_pick (own_M w0 w1 w2) (own_fr p4)) 0) (own_fr ((p4.toUInt32 >>> ((3 : Int32) &&& 31).toUInt32).toInt32))) 0) (own_upN (own_upN D9 (0 : Int32) (own_pick (own_M w0 w1 w2) (own_fr p4))) (1 : Int32) (own_pick (own_up (own_M w0 w1 w2) (own_pick (own_M w0 w1 w2) (own_fr p4)) 0) (own_fr ((p4.toUInt32 >>> ((3 : Int32) &&& 31).toUInt32).toInt32)))) (own_upX (own_upX X9s (0 : Int32) ((own_M w0 w1 w2) (own_pick (own_M w0 w1 w2) (own_fr p4)))) (1 : Int32) ((own_up (own_M w0 w1 w2) (own_pick (own_M w0 w1 w2) (own_fr p4)) 0) (own_pick (own_up (own_M w0 w1 w2) (own_pick (own_M w0 w1 w2) (own_fr p4)) 0) (own_fr ((p4.toUInt32 >>> ((3 : Int32) &&& 31).toUInt32).toInt32))))) T18.heap n0 Z18 Ex5_v18 nf16_0_v18 nf16_1_v18 nf16_2_v18 nf16_3_v18 nf16_4_v18 nf16_5_v18 nf16_6_v18 nf16_7_v18 g_b5 g_aS6 g_aD6 g_aE6 ne_b5_aS6 ne_b5_aD6 ne_b5_aE6 ne_aS6_aD6 ne_aS6_aE6 ne_aD6_aE6 (own_bdup (own_bdup hM0 own_L0) own_L0) (own_frf _) (by decide) ) hZ (hw _ (List.mem_of_getElem? (i := 44) rfl)) (hw _ (List.mem_of_getElem? (i := 3) rfl)) (by decide) (by decide)) q20a q20c (g := (mkF m 140 #[.val (.int p1), .val (.int p2), .val (.int p3), .val (.int p4), .val (.ref b1), .val (.ref b5), .val (.ref b7), .val (.int (p2 &&& (3 : Int32))), .val (.int ((own_pick (own_M w0 w1 w2) (own_fr p4)) - (4 : Int32))), .val (.int ((own_pick (own_M w0 w1 w2) (own_fr p4)) - (4 : Int32))), .val (.int ((own_pick (own_up (own_M w0 w1 w2) (own_pick (own_M w0 w1 w2) (own_fr p4)) 0) (own_fr ((p4.toUInt32 >>> ((3 : Int32) &&& 31).toUInt32).toInt32))) - (4 : Int32))), .val (.int ((own_pick (own_up (own_M w0 w1 w2) (own_pick (own_M w0 w1 w2) (own_fr p4)) 0) (own_fr ((p4.toUInt32 >>> ((3 : Int32) &&& 31).toUInt32).toInt32))) - (4 : Int32))), .unset, .unset] [(.double (own_fr ((p4.toUInt32 >>> ((6 : Int32) &&& 31).toUInt32).toInt32))), (.ref b5)])) rfl (by rw [hml]; rfl) (Steps.refl _) (argsL := [(.double (own_fr ((p4.toUInt32 >>> ((6 : Int32) &&& 31).toUInt32).toInt32)))]) (rest := []) (lenOf pd_3 rfl) rfl (by show 2 * 0 + _ ≤ _; exact Nat.le_of_eq rfl) (hb hby at_140) (fun _ _ => ⟨rfl, e19, (by decide : 9 + 0 ≤ _), (by decide : 285 + 0 ≤ _)⟩)
  dsimp only [Pt.U, Pt.locs, Pt.cells, Pt.slots] at X20 l20 y20 z20 st20 hQ20
  subst l20 y20 z20
  obtain ⟨rfl, N20q, Kc20, nf20_0_v20, nf20_1_v20, nf20_2_v20, nf20_3_v20, nf20_4_v20, nf20_5_v20, nf20_6_v20, nf20_7_v20⟩ := hQ20
  have N20 := Fr.app N19 N20q
  have VW_v20 := VW_v18.keep Kc20 (ninS ne_b1_b5 (ninS ne_b1_aS6 (ninS ne_b1_aD6 (ninS ne_b1_aE6 nin0))))
  have Ex5_v20 := Ex5_v18.keep Kc20
  have Ex7_v20 := Ex7_v18.keep Kc20
  have nf18_0_v20 := nf18_0_v18.keep Kc20 (ninS (Ne.symm ne_b5_b7) (ninS (Ne.symm ne_aS6_b7) (ninS (Ne.symm ne_aD6_b7) (ninS (Ne.symm ne_aE6_b7) nin0))))
  have nf18_1_v20 := nf18_1_v18.keep Kc20 (ninS (Ne.symm ne_b5_b7) (ninS (Ne.symm ne_aS6_b7) (ninS (Ne.symm ne_aD6_b7) (ninS (Ne.symm ne_aE6_b7) nin0))))
  have nf18_2_v20 := nf18_2_v18.keep Kc20 (ninS (Ne.symm ne_b5_b7) (ninS (Ne.symm ne_aS6_b7) (ninS (Ne.symm ne_aD6_b7) (ninS (Ne.symm ne_aE6_b7) nin0))))
  have nf18_3_v20 := nf18_3_v18.keep Kc20 (ninS (Ne.symm ne_b5_b7) (ninS (Ne.symm ne_aS6_b7) (ninS (Ne.symm ne_aD6_b7) (ninS (Ne.symm ne_aE6_b7) nin0))))
  have nf18_4_v20 := nf18_4_v18.keep Kc20 (ninS (Ne.symm ne_b5_b7) (ninS (Ne.symm ne_aS6_b7) (ninS (Ne.symm ne_aD6_b7) (ninS (Ne.symm ne_aE6_b7) nin0))))
  have nf18_5_v20 := nf18_5_v18.keep Kc20 (ninS (Ne.symm ne_b5_aS8) (ninS (Ne.symm ne_aS6_aS8) (ninS (Ne.symm ne_aD6_aS8) (ninS (Ne.symm ne_aE6_aS8) nin0))))
  have nf18_6_v20 := nf18_6_v18.keep Kc20 (ninS (Ne.symm ne_b5_aD8) (ninS (Ne.symm ne_aS6_aD8) (ninS (Ne.symm ne_aD6_aD8) (ninS (Ne.symm ne_aE6_aD8) nin0))))
  have nf18_7_v20 := nf18_7_v18.keep Kc20 (ninS (Ne.symm ne_b5_aE8) (ninS (Ne.symm ne_aS6_aE8) (ninS (Ne.symm ne_aD6_aE8) (ninS (Ne.symm ne_aE6_aE8) nin0))))
  have Z20 : n0 ≤ T20.heap.size := Nat.le_trans Z18 Kc20.1
  obtain ⟨_, _, ⟨T21, L21, k21, n21⟩, -, X21, ⟨Lc21, hQ21, l21, y21, z21⟩, st21⟩ := Jvm.LawKit.callS X20 hx (y := (⟨"com/example/velar/velar/WeightedDrawsPutBackPinLaw", "frac", "(I)D"⟩ : MethodName)) hown (mvT hZ (hw _ (List.mem_of_getElem? (i := 36) rfl))) (mvT hZ (hw _ (List.mem_of_getElem? (i := 37) rfl))) (mvT hZ (hw _ (List.mem_of_getElem? (i := 34) rfl))) (mvT hZ (hw _ (List.mem_of_getElem? (i := 38) rfl))) (by decide) (backOf (W := 1) (rfr l Z a0 hw [] ((p4.toUInt32 >>> ((6 : Int32) &&& 31).toUInt32).toInt32) T20.heap n0 Z20) hZ (hw _ (List.mem_of_getElem? (i := 38) rfl)) (hw _ (List.mem_of_getElem? (i := 34) rfl)) (by decide) (by decide)) (g := (mkF m 151 #[.val (.int p1), .val (.int p2), .val (.int p3), .val (.int p4), .val (.ref b1), .val (.ref b5), .val (.ref b7), .val (.int (p2 &&& (3 : Int32))), .val (.int ((own_pick (own_M w0 w1 w2) (own_fr p4)) - (4 : Int32))), .val (.int ((own_pick (own_M w0 w1 w2) (own_fr p4)) - (4 : Int32))), .val (.int ((own_pick (own_up (own_M w0 w1 w2) (own_pick (own_M w0 w1 w2) (own_fr p4)) 0) (own_fr ((p4.toUInt32 >>> ((3 : Int32) &&& 31).toUInt32).toInt32))) - (4 : Int32))), .val (.int ((own_pick (own_up (own_M w0 w1 w2) (own_pick (own_M w0 w1 w2) (own_fr p4)) 0) (own_fr ((p4.toUInt32 >>> ((3 : Int32) &&& 31).toUInt32).toInt32))) - (4 : Int32))), .val (.int ((own_pick (own_up (own_up (own_M w0 w1 w2) (own_pick (own_M w0 w1 w2) (own_fr p4)) 0) (own_pick (own_up (own_M w0 w1 w2) (own_pick (own_M w0 w1 w2) (own_fr p4)) 0) (own_fr ((p4.toUInt32 >>> ((3 : Int32) &&& 31).toUInt32).toInt32))) 0) (own_fr ((p4.toUInt32 >>> ((6 : Int32) &&& 31).toUInt32).toInt32))) - (4 : Int32))), .unset] [(.int ((p4.toUInt32 >>> ((6 : Int32) &&& 31).toUInt32).toInt32)), (.ref b7)])) rfl (by rw [hml]; rfl) (argsL := [(.int ((p4.toUInt32 >>> ((6 : Int32) &&& 31).toUInt32).toInt32))]) (rest := [(.ref b7)]) (lenOf pd_2 rfl) rfl (by show 2 * 0 + _ ≤ _; exact Nat.le_of_eq rfl) (hb hby at_151) (fun _ _ => ⟨rfl, rfl, (by decide : 9 + 0 ≤ _), (by decide : 285 + 0 ≤ _)⟩)
  dsimp only [Pt.U, Pt.locs, Pt.cells, Pt.slots] at X21 l21 y21 z21 st21 hQ21
  subst l21 y21 z21
  obtain ⟨rfl, N21q, e21⟩ := hQ21
  have N21 := Fr.app N20 N21q
  obtain ⟨cq22, kq22, q22a, q22b, q22c⟩ := isOf hZ e21 Ex7_v20
  obtain ⟨_, _, ⟨T22, L22, k22, n22⟩, -, X22, ⟨Lc22, hQ22, l22, y22, z22⟩, st22⟩ := X21.virtualBack hx (y := (⟨"com/example/velar/velar/WeightedDraws", "draw", "(D)I"⟩ : MethodName)) (z := (⟨"com/example/velar/velar/WeightedDraws", "draw", "(D)I"⟩ : MethodName)) hown (mvT hZ (hw _ (List.mem_of_getElem? (i := 40) rfl))) (mvT hZ (hw _ (List.mem_of_getElem? (i := 41) rfl))) (notFace_of_selects (args := #[]) (mvT hZ (hw _ (List.mem_of_getElem? (i := 43) rfl)))) (mvT hZ (hw _ (List.mem_of_getElem? (i := 43) rfl))) (mvT hZ (hw _ (List.mem_of_getElem? (i := 42) rfl))) (by decide) (backOf (W := 0) (rdr l Z a0 hw [] b7 (own_fr ((p4.toUInt32 >>> ((6 : Int32) &&& 31).toUInt32).toInt32)) aS8 aD8 aE8 (2 : Int32) (own_up (own_up (own_M w0 w1 w2) (own_pick (own_M w0 w1 w2) (own_fr p4)) 0) (own_pick (own_up (own_M w0 w1 w2) (own_pick (own_M w0 w1 w2) (own_fr p4)) 0) (own_fr ((p4.toUInt32 >>> ((3 : Int32) &&& 31).toUInt32).toInt32))) 0) (own_upN (own_upN own_zD (0 : Int32) (own_pick (own_M w0 w1 w2) (own_fr p4))) (1 : Int32) (own_pick (own_up (own_M w0 w1 w2) (own_pick (own_M w0 w1 w2) (own_fr p4)) 0) (own_fr ((p4.toUInt32 >>> ((3 : Int32) &&& 31).toUInt32).toInt32)))) (own_upX (own_upX own_zX (0 : Int32) ((own_M w0 w1 w2) (own_pick (own_M w0 w1 w2) (own_fr p4)))) (1 : Int32) ((own_up (own_M w0 w1 w2) (own_pick (own_M w0 w1 w2) (own_fr p4)) 0) (own_pick (own_up (own_M w0 w1 w2) (own_pick (own_M w0 w1 w2) (own_fr p4)) 0) (own_fr ((p4.toUInt32 >>> ((3 : Int32) &&& 31).toUInt32).toInt32))))) T20.heap n0 Z20 Ex7_v20 nf18_0_v20 nf18_1_v20 nf18_2_v20 nf18_3_v20 nf18_4_v20 nf18_5_v20 nf18_6_v20 nf18_7_v20 g_b7 g_aS8 g_aD8 g_aE8 ne_b7_aS8 ne_b7_aD8 ne_b7_aE8 ne_aS8_aD8 ne_aS8_aE8 ne_aD8_aE8 (own_bdup (own_bdup hM0 own_L0) own_L0) (own_frf _) (by decide) ) hZ (hw _ (List.mem_of_getElem? (i := 44) rfl)) (hw _ (List.mem_of_getElem? (i := 3) rfl)) (by decide) (by decide)) q22a q22c (g := (mkF m 154 #[.val (.int p1), .val (.int p2), .val (.int p3), .val (.int p4), .val (.ref b1), .val (.ref b5), .val (.ref b7), .val (.int (p2 &&& (3 : Int32))), .val (.int ((own_pick (own_M w0 w1 w2) (own_fr p4)) - (4 : Int32))), .val (.int ((own_pick (own_M w0 w1 w2) (own_fr p4)) - (4 : Int32))), .val (.int ((own_pick (own_up (own_M w0 w1 w2) (own_pick (own_M w0 w1 w2) (own_fr p4)) 0) (own_fr ((p4.toUInt32 >>> ((3 : Int32) &&& 31).toUInt32).toInt32))) - (4 : Int32))), .val (.int ((own_pick (own_up (own_M w0 w1 w2) (own_pick (own_M w0 w1 w2) (own_fr p4)) 0) (own_fr ((p4.toUInt32 >>> ((3 : Int32) &&& 31).toUInt32).toInt32))) - (4 : Int32))), .val (.int ((own_pick (own_up (own_up (own_M w0 w1 w2) (own_pick (own_M w0 w1 w2) (own_fr p4)) 0) (own_pick (own_up (own_M w0 w1 w2) (own_pick (own_M w0 w1 w2) (own_fr p4)) 0) (own_fr ((p4.toUInt32 >>> ((3 : Int32) &&& 31).toUInt32).toInt32))) 0) (own_fr ((p4.toUInt32 >>> ((6 : Int32) &&& 31).toUInt32).toInt32))) - (4 : Int32))), .unset] [(.double (own_fr ((p4.toUInt32 >>> ((6 : Int32) &&& 31).toUInt32).toInt32))), (.ref b7)])) rfl (by rw [hml]; rfl) (Steps.refl _) (argsL := [(.double (own_fr ((p4.toUInt32 >>> ((6 : Int32) &&& 31).toUInt32).toInt32)))]) (rest := []) (lenOf pd_3 rfl) rfl (by show 2 * 0 + _ ≤ _; exact Nat.le_of_eq rfl) (hb hby at_154) (fun _ _ => ⟨rfl, e21, (by decide : 9 + 0 ≤ _), (by decide : 285 + 0 ≤ _)⟩)
  dsimp only [Pt.U, Pt.locs, Pt.cells, Pt.slots] at X22 l22 y22 z22 st22 hQ22
  subst l22 y22 z22
  obtain ⟨rfl, N22q, Kc22, nf22_0_v22, nf22_1_v22, nf22_2_v22, nf22_3_v22, nf22_4_v22, nf22_5_v22, nf22_6_v22, nf22_7_v22⟩ := hQ22
  have N22 := Fr.app N21 N22q
  have VW_v22 := VW_v20.keep Kc22 (ninS ne_b1_b7 (ninS ne_b1_aS8 (ninS ne_b1_aD8 (ninS ne_b1_aE8 nin0))))
  have Ex5_v22 := Ex5_v20.keep Kc22
  have Ex7_v22 := Ex7_v20.keep Kc22
  have nf20_0_v22 := nf20_0_v20.keep Kc22 (ninS ne_b5_b7 (ninS ne_b5_aS8 (ninS ne_b5_aD8 (ninS ne_b5_aE8 nin0))))
  have nf20_1_v22 := nf20_1_v20.keep Kc22 (ninS ne_b5_b7 (ninS ne_b5_aS8 (ninS ne_b5_aD8 (ninS ne_b5_aE8 nin0))))
  have nf20_2_v22 := nf20_2_v20.keep Kc22 (ninS ne_b5_b7 (ninS ne_b5_aS8 (ninS ne_b5_aD8 (ninS ne_b5_aE8 nin0))))
  have nf20_3_v22 := nf20_3_v20.keep Kc22 (ninS ne_b5_b7 (ninS ne_b5_aS8 (ninS ne_b5_aD8 (ninS ne_b5_aE8 nin0))))
  have nf20_4_v22 := nf20_4_v20.keep Kc22 (ninS ne_b5_b7 (ninS ne_b5_aS8 (ninS ne_b5_aD8 (ninS ne_b5_aE8 nin0))))
  have nf20_5_v22 := nf20_5_v20.keep Kc22 (ninS ne_aS6_b7 (ninS ne_aS6_aS8 (ninS ne_aS6_aD8 (ninS ne_aS6_aE8 nin0))))
  have nf20_6_v22 := nf20_6_v20.keep Kc22 (ninS ne_aD6_b7 (ninS ne_aD6_aS8 (ninS ne_aD6_aD8 (ninS ne_aD6_aE8 nin0))))
  have nf20_7_v22 := nf20_7_v20.keep Kc22 (ninS ne_aE6_b7 (ninS ne_aE6_aS8 (ninS ne_aE6_aD8 (ninS ne_aE6_aE8 nin0))))
  have Z22 : n0 ≤ T22.heap.size := Nat.le_trans Z20 Kc22.1
  obtain ⟨fs, hr, hrun, hended, hW, hsame⟩ := X22.leave (v := some (.int (1 : Int32))) (fun h => by rw [Bd.returns] at h; cases h)
  refine ⟨_, _, pre0 _ ?_, hrun, hended, _, _, rfl, ?_, ⟨_, rfl⟩, hW, hsame.mono (by decide) (by decide)⟩
  · show Steps p.tables e below (s₁.setTop (mkF m 0 #[.val (.int p1), .val (.int p2), .val (.int p3), .val (.int p4), .unset, .unset, .unset, .unset, .unset, .unset, .unset, .unset, .unset, .unset] [])) _
    refine XS.iconst X0.here hx rfl (hb hby at_0) ?_
    show Steps p.tables e below (s₁.setTop (mkF m 1 #[.val (.int p1), .val (.int p2), .val (.int p3), .val (.int p4), .unset, .unset, .unset, .unset, .unset, .unset, .unset, .unset, .unset, .unset] [(.int (3 : Int32))])) _
    refine st1 _ ?_
    show Steps p.tables e below (T1.setTop (mkF m 3 #[.val (.int p1), .val (.int p2), .val (.int p3), .val (.int p4), .unset, .unset, .unset, .unset, .unset, .unset, .unset, .unset, .unset, .unset] [(.ref b1)])) _
    refine XS.astore X1.here hx rfl (hb hby at_3) rfl rfl (l' := #[.val (.int p1), .val (.int p2), .val (.int p3), .val (.int p4), .val (.ref b1), .unset, .unset, .unset, .unset, .unset, .unset, .unset, .unset, .unset]) rfl ?_
    show Steps p.tables e below (T1.setTop (mkF m 5 #[.val (.int p1), .val (.int p2), .val (.int p3), .val (.int p4), .val (.ref b1), .unset, .unset, .unset, .unset, .unset, .unset, .unset, .unset, .unset] [])) _
    refine XS.aload X1.here hx rfl (hb hby at_5) rfl rfl ?_
    show Steps p.tables e below (T1.setTop (mkF m 7 #[.val (.int p1), .val (.int p2), .val (.int p3), .val (.int p4), .val (.ref b1), .unset, .unset, .unset, .unset, .unset, .unset, .unset, .unset, .unset] [(.ref b1)])) _
    refine XS.iconst X1.here hx rfl (hb hby at_7) ?_
    show Steps p.tables e below (T1.setTop (mkF m 8 #[.val (.int p1), .val (.int p2), .val (.int p3), .val (.int p4), .val (.ref b1), .unset, .unset, .unset, .unset, .unset, .unset, .unset, .unset, .unset] [(.int (0 : Int32)), (.ref b1)])) _
    refine XS.iconst X1.here hx rfl (hb hby at_8) ?_
    show Steps p.tables e below (T1.setTop (mkF m 9 #[.val (.int p1), .val (.int p2), .val (.int p3), .val (.int p4), .val (.ref b1), .unset, .unset, .unset, .unset, .unset, .unset, .unset, .unset, .unset] [(.int (1 : Int32)), (.int (0 : Int32)), (.ref b1)])) _
    refine XS.iloadN X1.here hx rfl (hb hby at_9) rfl ?_
    show Steps p.tables e below (T1.setTop (mkF m 10 #[.val (.int p1), .val (.int p2), .val (.int p3), .val (.int p4), .val (.ref b1), .unset, .unset, .unset, .unset, .unset, .unset, .unset, .unset, .unset] [(.int p1), (.int (1 : Int32)), (.int (0 : Int32)), (.ref b1)])) _
    refine XS.bipush X1.here hx rfl (hb hby at_10) ?_
    show Steps p.tables e below (T1.setTop (mkF m 12 #[.val (.int p1), .val (.int p2), .val (.int p3), .val (.int p4), .val (.ref b1), .unset, .unset, .unset, .unset, .unset, .unset, .unset, .unset, .unset] [(.int (15 : Int32)), (.int p1), (.int (1 : Int32)), (.int (0 : Int32)), (.ref b1)])) _
    refine XS.iand X1.here hx rfl (hb hby at_12) rfl ?_
    show Steps p.tables e below (T1.setTop (mkF m 13 #[.val (.int p1), .val (.int p2), .val (.int p3), .val (.int p4), .val (.ref b1), .unset, .unset, .unset, .unset, .unset, .unset, .unset, .unset, .unset] [(.int (p1 &&& (15 : Int32))), (.int (1 : Int32)), (.int (0 : Int32)), (.ref b1)])) _
    refine XS.iadd X1.here hx rfl (hb hby at_13) rfl ?_
    show Steps p.tables e below (T1.setTop (mkF m 14 #[.val (.int p1), .val (.int p2), .val (.int p3), .val (.int p4), .val (.ref b1), .unset, .unset, .unset, .unset, .unset, .unset, .unset, .unset, .unset] [(.int ((1 : Int32) + (p1 &&& (15 : Int32)))), (.int (0 : Int32)), (.ref b1)])) _
    refine XS.i2dS X1.here hx rfl (hb hby at_14) rfl (v := (FP.l2d (((1 : Int32) + (p1 &&& (15 : Int32))).toInt64))) (i2d_w _) ?_
    show Steps p.tables e below (T1.setTop (mkF m 15 #[.val (.int p1), .val (.int p2), .val (.int p3), .val (.int p4), .val (.ref b1), .unset, .unset, .unset, .unset, .unset, .unset, .unset, .unset, .unset] [(.double (FP.l2d (((1 : Int32) + (p1 &&& (15 : Int32))).toInt64))), (.int (0 : Int32)), (.ref b1)])) _
    refine st2 _ ?_
    show Steps p.tables e below (T2.setTop (mkF m 16 #[.val (.int p1), .val (.int p2), .val (.int p3), .val (.int p4), .val (.ref b1), .unset, .unset, .unset, .unset, .unset, .unset, .unset, .unset, .unset] [])) _
    refine XS.aload X2.here hx rfl (hb hby at_16) rfl rfl ?_
    show Steps p.tables e below (T2.setTop (mkF m 18 #[.val (.int p1), .val (.int p2), .val (.int p3), .val (.int p4), .val (.ref b1), .unset, .unset, .unset, .unset, .unset, .unset, .unset, .unset, .unset] [(.ref b1)])) _
    refine XS.iconst X2.here hx rfl (hb hby at_18) ?_
    show Steps p.tables e below (T2.setTop (mkF m 19 #[.val (.int p1), .val (.int p2), .val (.int p3), .val (.int p4), .val (.ref b1), .unset, .unset, .unset, .unset, .unset, .unset, .unset, .unset, .unset] [(.int (1 : Int32)), (.ref b1)])) _
    refine XS.iconst X2.here hx rfl (hb hby at_19) ?_
    show Steps p.tables e below (T2.setTop (mkF m 20 #[.val (.int p1), .val (.int p2), .val (.int p3), .val (.int p4), .val (.ref b1), .unset, .unset, .unset, .unset, .unset, .unset, .unset, .unset, .unset] [(.int (1 : Int32)), (.int (1 : Int32)), (.ref b1)])) _
    refine XS.iloadN X2.here hx rfl (hb hby at_20) rfl ?_
    show Steps p.tables e below (T2.setTop (mkF m 21 #[.val (.int p1), .val (.int p2), .val (.int p3), .val (.int p4), .val (.ref b1), .unset, .unset, .unset, .unset, .unset, .unset, .unset, .unset, .unset] [(.int p1), (.int (1 : Int32)), (.int (1 : Int32)), (.ref b1)])) _
    refine XS.iconst X2.here hx rfl (hb hby at_21) ?_
    show Steps p.tables e below (T2.setTop (mkF m 22 #[.val (.int p1), .val (.int p2), .val (.int p3), .val (.int p4), .val (.ref b1), .unset, .unset, .unset, .unset, .unset, .unset, .unset, .unset, .unset] [(.int (4 : Int32)), (.int p1), (.int (1 : Int32)), (.int (1 : Int32)), (.ref b1)])) _
    refine XS.iushr X2.here hx rfl (hb hby at_22) rfl ?_
    show Steps p.tables e below (T2.setTop (mkF m 23 #[.val (.int p1), .val (.int p2), .val (.int p3), .val (.int p4), .val (.ref b1), .unset, .unset, .unset, .unset, .unset, .unset, .unset, .unset, .unset] [(.int ((p1.toUInt32 >>> ((4 : Int32) &&& 31).toUInt32).toInt32)), (.int (1 : Int32)), (.int (1 : Int32)), (.ref b1)])) _
    refine XS.bipush X2.here hx rfl (hb hby at_23) ?_
    show Steps p.tables e below (T2.setTop (mkF m 25 #[.val (.int p1), .val (.int p2), .val (.int p3), .val (.int p4), .val (.ref b1), .unset, .unset, .unset, .unset, .unset, .unset, .unset, .unset, .unset] [(.int (15 : Int32)), (.int ((p1.toUInt32 >>> ((4 : Int32) &&& 31).toUInt32).toInt32)), (.int (1 : Int32)), (.int (1 : Int32)), (.ref b1)])) _
    refine XS.iand X2.here hx rfl (hb hby at_25) rfl ?_
    show Steps p.tables e below (T2.setTop (mkF m 26 #[.val (.int p1), .val (.int p2), .val (.int p3), .val (.int p4), .val (.ref b1), .unset, .unset, .unset, .unset, .unset, .unset, .unset, .unset, .unset] [(.int (((p1.toUInt32 >>> ((4 : Int32) &&& 31).toUInt32).toInt32) &&& (15 : Int32))), (.int (1 : Int32)), (.int (1 : Int32)), (.ref b1)])) _
    refine XS.iadd X2.here hx rfl (hb hby at_26) rfl ?_
    show Steps p.tables e below (T2.setTop (mkF m 27 #[.val (.int p1), .val (.int p2), .val (.int p3), .val (.int p4), .val (.ref b1), .unset, .unset, .unset, .unset, .unset, .unset, .unset, .unset, .unset] [(.int ((1 : Int32) + (((p1.toUInt32 >>> ((4 : Int32) &&& 31).toUInt32).toInt32) &&& (15 : Int32)))), (.int (1 : Int32)), (.ref b1)])) _
    refine XS.i2dS X2.here hx rfl (hb hby at_27) rfl (v := (FP.l2d (((1 : Int32) + (((p1.toUInt32 >>> ((4 : Int32) &&& 31).toUInt32).toInt32) &&& (15 : Int32))).toInt64))) (i2d_w _) ?_
    show Steps p.tables e below (T2.setTop (mkF m 28 #[.val (.int p1), .val (.int p2), .val (.int p3), .val (.int p4), .val (.ref b1), .unset, .unset, .unset, .unset, .unset, .unset, .unset, .unset, .unset] [(.double (FP.l2d (((1 : Int32) + (((p1.toUInt32 >>> ((4 : Int32) &&& 31).toUInt32).toInt32) &&& (15 : Int32))).toInt64))), (.int (1 : Int32)), (.ref b1)])) _
    refine st3 _ ?_
    show Steps p.tables e below (T3.setTop (mkF m 29 #[.val (.int p1), .val (.int p2), .val (.int p3), .val (.int p4), .val (.ref b1), .unset, .unset, .unset, .unset, .unset, .unset, .unset, .unset, .unset] [])) _
    refine XS.aload X3.here hx rfl (hb hby at_29) rfl rfl ?_
    show Steps p.tables e below (T3.setTop (mkF m 31 #[.val (.int p1), .val (.int p2), .val (.int p3), .val (.int p4), .val (.ref b1), .unset, .unset, .unset, .unset, .unset, .unset, .unset, .unset, .unset] [(.ref b1)])) _
    refine XS.iconst X3.here hx rfl (hb hby at_31) ?_
    show Steps p.tables e below (T3.setTop (mkF m 32 #[.val (.int p1), .val (.int p2), .val (.int p3), .val (.int p4), .val (.ref b1), .unset, .unset, .unset, .unset, .unset, .unset, .unset, .unset, .unset] [(.int (2 : Int32)), (.ref b1)])) _
    refine XS.iconst X3.here hx rfl (hb hby at_32) ?_
    show Steps p.tables e below (T3.setTop (mkF m 33 #[.val (.int p1), .val (.int p2), .val (.int p3), .val (.int p4), .val (.ref b1), .unset, .unset, .unset, .unset, .unset, .unset, .unset, .unset, .unset] [(.int (1 : Int32)), (.int (2 : Int32)), (.ref b1)])) _
    refine XS.iloadN X3.here hx rfl (hb hby at_33) rfl ?_
    show Steps p.tables e below (T3.setTop (mkF m 34 #[.val (.int p1), .val (.int p2), .val (.int p3), .val (.int p4), .val (.ref b1), .unset, .unset, .unset, .unset, .unset, .unset, .unset, .unset, .unset] [(.int p1), (.int (1 : Int32)), (.int (2 : Int32)), (.ref b1)])) _
    refine XS.bipush X3.here hx rfl (hb hby at_34) ?_
    show Steps p.tables e below (T3.setTop (mkF m 36 #[.val (.int p1), .val (.int p2), .val (.int p3), .val (.int p4), .val (.ref b1), .unset, .unset, .unset, .unset, .unset, .unset, .unset, .unset, .unset] [(.int (8 : Int32)), (.int p1), (.int (1 : Int32)), (.int (2 : Int32)), (.ref b1)])) _
    refine XS.iushr X3.here hx rfl (hb hby at_36) rfl ?_
    show Steps p.tables e below (T3.setTop (mkF m 37 #[.val (.int p1), .val (.int p2), .val (.int p3), .val (.int p4), .val (.ref b1), .unset, .unset, .unset, .unset, .unset, .unset, .unset, .unset, .unset] [(.int ((p1.toUInt32 >>> ((8 : Int32) &&& 31).toUInt32).toInt32)), (.int (1 : Int32)), (.int (2 : Int32)), (.ref b1)])) _
    refine XS.bipush X3.here hx rfl (hb hby at_37) ?_
    show Steps p.tables e below (T3.setTop (mkF m 39 #[.val (.int p1), .val (.int p2), .val (.int p3), .val (.int p4), .val (.ref b1), .unset, .unset, .unset, .unset, .unset, .unset, .unset, .unset, .unset] [(.int (15 : Int32)), (.int ((p1.toUInt32 >>> ((8 : Int32) &&& 31).toUInt32).toInt32)), (.int (1 : Int32)), (.int (2 : Int32)), (.ref b1)])) _
    refine XS.iand X3.here hx rfl (hb hby at_39) rfl ?_
    show Steps p.tables e below (T3.setTop (mkF m 40 #[.val (.int p1), .val (.int p2), .val (.int p3), .val (.int p4), .val (.ref b1), .unset, .unset, .unset, .unset, .unset, .unset, .unset, .unset, .unset] [(.int (((p1.toUInt32 >>> ((8 : Int32) &&& 31).toUInt32).toInt32) &&& (15 : Int32))), (.int (1 : Int32)), (.int (2 : Int32)), (.ref b1)])) _
    refine XS.iadd X3.here hx rfl (hb hby at_40) rfl ?_
    show Steps p.tables e below (T3.setTop (mkF m 41 #[.val (.int p1), .val (.int p2), .val (.int p3), .val (.int p4), .val (.ref b1), .unset, .unset, .unset, .unset, .unset, .unset, .unset, .unset, .unset] [(.int ((1 : Int32) + (((p1.toUInt32 >>> ((8 : Int32) &&& 31).toUInt32).toInt32) &&& (15 : Int32)))), (.int (2 : Int32)), (.ref b1)])) _
    refine XS.i2dS X3.here hx rfl (hb hby at_41) rfl (v := (FP.l2d (((1 : Int32) + (((p1.toUInt32 >>> ((8 : Int32) &&& 31).toUInt32).toInt32) &&& (15 : Int32))).toInt64))) (i2d_w _) ?_
    show Steps p.tables e below (T3.setTop (mkF m 42 #[.val (.int p1), .val (.int p2), .val (.int p3), .val (.int p4), .val (.ref b1), .unset, .unset, .unset, .unset, .unset, .unset, .unset, .unset, .unset] [(.double (FP.l2d (((1 : Int32) + (((p1.toUInt32 >>> ((8 : Int32) &&& 31).toUInt32).toInt32) &&& (15 : Int32))).toInt64))), (.int (2 : Int32)), (.ref b1)])) _
    refine st4 _ ?_
    show Steps p.tables e below (T4.setTop (mkF m 43 #[.val (.int p1), .val (.int p2), .val (.int p3), .val (.int p4), .val (.ref b1), .unset, .unset, .unset, .unset, .unset, .unset, .unset, .unset, .unset] [])) _
    refine st5 _ ?_
    show Steps p.tables e below (T5.setTop (mkF m 46 #[.val (.int p1), .val (.int p2), .val (.int p3), .val (.int p4), .val (.ref b1), .unset, .unset, .unset, .unset, .unset, .unset, .unset, .unset, .unset] [(.ref b5)])) _
    refine XS.dup X5.here hx rfl (hb hby at_46) rfl rfl ?_
    show Steps p.tables e below (T5.setTop (mkF m 47 #[.val (.int p1), .val (.int p2), .val (.int p3), .val (.int p4), .val (.ref b1), .unset, .unset, .unset, .unset, .unset, .unset, .unset, .unset, .unset] [(.ref b5), (.ref b5)])) _
    refine XS.aload X5.here hx rfl (hb hby at_47) rfl rfl ?_
    show Steps p.tables e below (T5.setTop (mkF m 49 #[.val (.int p1), .val (.int p2), .val (.int p3), .val (.int p4), .val (.ref b1), .unset, .unset, .unset, .unset, .unset, .unset, .unset, .unset, .unset] [(.ref b1), (.ref b5), (.ref b5)])) _
    refine st6.trans ?_
    show Steps p.tables e below (T6.setTop (mkF m 52 #[.val (.int p1), .val (.int p2), .val (.int p3), .val (.int p4), .val (.ref b1), .unset, .unset, .unset, .unset, .unset, .unset, .unset, .unset, .unset] [(.ref b5)])) _
    refine XS.astore X6.here hx rfl (hb hby at_52) rfl rfl (l' := #[.val (.int p1), .val (.int p2), .val (.int p3), .val (.int p4), .val (.ref b1), .val (.ref b5), .unset, .unset, .unset, .unset, .unset, .unset, .unset, .unset]) rfl ?_
    show Steps p.tables e below (T6.setTop (mkF m 54 #[.val (.int p1), .val (.int p2), .val (.int p3), .val (.int p4), .val (.ref b1), .val (.ref b5), .unset, .unset, .unset, .unset, .unset, .unset, .unset, .unset] [])) _
    refine st7 _ ?_
    show Steps p.tables e below (T7.setTop (mkF m 57 #[.val (.int p1), .val (.int p2), .val (.int p3), .val (.int p4), .val (.ref b1), .val (.ref b5), .unset, .unset, .unset, .unset, .unset, .unset, .unset, .unset] [(.ref b7)])) _
    refine XS.dup X7.here hx rfl (hb hby at_57) rfl rfl ?_
    show Steps p.tables e below (T7.setTop (mkF m 58 #[.val (.int p1), .val (.int p2), .val (.int p3), .val (.int p4), .val (.ref b1), .val (.ref b5), .unset, .unset, .unset, .unset, .unset, .unset, .unset, .unset] [(.ref b7), (.ref b7)])) _
    refine XS.aload X7.here hx rfl (hb hby at_58) rfl rfl ?_
    show Steps p.tables e below (T7.setTop (mkF m 60 #[.val (.int p1), .val (.int p2), .val (.int p3), .val (.int p4), .val (.ref b1), .val (.ref b5), .unset, .unset, .unset, .unset, .unset, .unset, .unset, .unset] [(.ref b1), (.ref b7), (.ref b7)])) _
    refine st8.trans ?_
    show Steps p.tables e below (T8.setTop (mkF m 63 #[.val (.int p1), .val (.int p2), .val (.int p3), .val (.int p4), .val (.ref b1), .val (.ref b5), .unset, .unset, .unset, .unset, .unset, .unset, .unset, .unset] [(.ref b7)])) _
    refine XS.astore X8.here hx rfl (hb hby at_63) rfl rfl (l' := #[.val (.int p1), .val (.int p2), .val (.int p3), .val (.int p4), .val (.ref b1), .val (.ref b5), .val (.ref b7), .unset, .unset, .unset, .unset, .unset, .unset, .unset]) rfl ?_
    show Steps p.tables e below (T8.setTop (mkF m 65 #[.val (.int p1), .val (.int p2), .val (.int p3), .val (.int p4), .val (.ref b1), .val (.ref b5), .val (.ref b7), .unset, .unset, .unset, .unset, .unset, .unset, .unset] [])) _
    refine XS.iloadN X8.here hx rfl (hb hby at_65) rfl ?_
    show Steps p.tables e below (T8.setTop (mkF m 66 #[.val (.int p1), .val (.int p2), .val (.int p3), .val (.int p4), .val (.ref b1), .val (.ref b5), .val (.ref b7), .unset, .unset, .unset, .unset, .unset, .unset, .unset] [(.int p2)])) _
    refine XS.iconst X8.here hx rfl (hb hby at_66) ?_
    show Steps p.tables e below (T8.setTop (mkF m 67 #[.val (.int p1), .val (.int p2), .val (.int p3), .val (.int p4), .val (.ref b1), .val (.ref b5), .val (.ref b7), .unset, .unset, .unset, .unset, .unset, .unset, .unset] [(.int (3 : Int32)), (.int p2)])) _
    refine XS.iand X8.here hx rfl (hb hby at_67) rfl ?_
    show Steps p.tables e below (T8.setTop (mkF m 68 #[.val (.int p1), .val (.int p2), .val (.int p3), .val (.int p4), .val (.ref b1), .val (.ref b5), .val (.ref b7), .unset, .unset, .unset, .unset, .unset, .unset, .unset] [(.int (p2 &&& (3 : Int32)))])) _
    refine XS.istore X8.here hx rfl (hb hby at_68) rfl (l' := #[.val (.int p1), .val (.int p2), .val (.int p3), .val (.int p4), .val (.ref b1), .val (.ref b5), .val (.ref b7), .val (.int (p2 &&& (3 : Int32))), .unset, .unset, .unset, .unset, .unset, .unset]) rfl ?_
    show Steps p.tables e below (T8.setTop (mkF m 70 #[.val (.int p1), .val (.int p2), .val (.int p3), .val (.int p4), .val (.ref b1), .val (.ref b5), .val (.ref b7), .val (.int (p2 &&& (3 : Int32))), .unset, .unset, .unset, .unset, .unset, .unset] [])) _
    refine XS.aload X8.here hx rfl (hb hby at_70) rfl rfl ?_
    show Steps p.tables e below (T8.setTop (mkF m 72 #[.val (.int p1), .val (.int p2), .val (.int p3), .val (.int p4), .val (.ref b1), .val (.ref b5), .val (.ref b7), .val (.int (p2 &&& (3 : Int32))), .unset, .unset, .unset, .unset, .unset, .unset] [(.ref b5)])) _
    refine XS.iload X8.here hx rfl (hb hby at_72) rfl ?_
    show Steps p.tables e below (T8.setTop (mkF m 74 #[.val (.int p1), .val (.int p2), .val (.int p3), .val (.int p4), .val (.ref b1), .val (.ref b5), .val (.ref b7), .val (.int (p2 &&& (3 : Int32))), .unset, .unset, .unset, .unset, .unset, .unset] [(.int (p2 &&& (3 : Int32))), (.ref b5)])) _
    refine XS.iloadN X8.here hx rfl (hb hby at_74) rfl ?_
    show Steps p.tables e below (T8.setTop (mkF m 75 #[.val (.int p1), .val (.int p2), .val (.int p3), .val (.int p4), .val (.ref b1), .val (.ref b5), .val (.ref b7), .val (.int (p2 &&& (3 : Int32))), .unset, .unset, .unset, .unset, .unset, .unset] [(.int p3), (.int (p2 &&& (3 : Int32))), (.ref b5)])) _
    refine st9 _ ?_
    show Steps p.tables e below (T9.setTop (mkF m 78 #[.val (.int p1), .val (.int p2), .val (.int p3), .val (.int p4), .val (.ref b1), .val (.ref b5), .val (.ref b7), .val (.int (p2 &&& (3 : Int32))), .unset, .unset, .unset, .unset, .unset, .unset] [])) _
    refine XS.aload X9.here hx rfl (hb hby at_78) rfl rfl ?_
    show Steps p.tables e below (T9.setTop (mkF m 80 #[.val (.int p1), .val (.int p2), .val (.int p3), .val (.int p4), .val (.ref b1), .val (.ref b5), .val (.ref b7), .val (.int (p2 &&& (3 : Int32))), .unset, .unset, .unset, .unset, .unset, .unset] [(.ref b5)])) _
    refine st10.trans ?_
    show Steps p.tables e below (T10.setTop (mkF m 83 #[.val (.int p1), .val (.int p2), .val (.int p3), .val (.int p4), .val (.ref b1), .val (.ref b5), .val (.ref b7), .val (.int (p2 &&& (3 : Int32))), .unset, .unset, .unset, .unset, .unset, .unset] [])) _
    refine XS.aload X10.here hx rfl (hb hby at_83) rfl rfl ?_
    show Steps p.tables e below (T10.setTop (mkF m 85 #[.val (.int p1), .val (.int p2), .val (.int p3), .val (.int p4), .val (.ref b1), .val (.ref b5), .val (.ref b7), .val (.int (p2 &&& (3 : Int32))), .unset, .unset, .unset, .unset, .unset, .unset] [(.ref b5)])) _
    refine XS.iloadN X10.here hx rfl (hb hby at_85) rfl ?_
    show Steps p.tables e below (T10.setTop (mkF m 86 #[.val (.int p1), .val (.int p2), .val (.int p3), .val (.int p4), .val (.ref b1), .val (.ref b5), .val (.ref b7), .val (.int (p2 &&& (3 : Int32))), .unset, .unset, .unset, .unset, .unset, .unset] [(.int p4), (.ref b5)])) _
    refine st11 _ ?_
    show Steps p.tables e below (T11.setTop (mkF m 89 #[.val (.int p1), .val (.int p2), .val (.int p3), .val (.int p4), .val (.ref b1), .val (.ref b5), .val (.ref b7), .val (.int (p2 &&& (3 : Int32))), .unset, .unset, .unset, .unset, .unset, .unset] [(.double (own_fr p4)), (.ref b5)])) _
    refine st12.trans ?_
    show Steps p.tables e below (T12.setTop (mkF m 92 #[.val (.int p1), .val (.int p2), .val (.int p3), .val (.int p4), .val (.ref b1), .val (.ref b5), .val (.ref b7), .val (.int (p2 &&& (3 : Int32))), .unset, .unset, .unset, .unset, .unset, .unset] [(.int ((own_pick (own_M w0 w1 w2) (own_fr p4)) - (4 : Int32)))])) _
    refine XS.istore X12.here hx rfl (hb hby at_92) rfl (l' := #[.val (.int p1), .val (.int p2), .val (.int p3), .val (.int p4), .val (.ref b1), .val (.ref b5), .val (.ref b7), .val (.int (p2 &&& (3 : Int32))), .val (.int ((own_pick (own_M w0 w1 w2) (own_fr p4)) - (4 : Int32))), .unset, .unset, .unset, .unset, .unset]) rfl ?_
    show Steps p.tables e below (T12.setTop (mkF m 94 #[.val (.int p1), .val (.int p2), .val (.int p3), .val (.int p4), .val (.ref b1), .val (.ref b5), .val (.ref b7), .val (.int (p2 &&& (3 : Int32))), .val (.int ((own_pick (own_M w0 w1 w2) (own_fr p4)) - (4 : Int32))), .unset, .unset, .unset, .unset, .unset] [])) _
    refine XS.aload X12.here hx rfl (hb hby at_94) rfl rfl ?_
    show Steps p.tables e below (T12.setTop (mkF m 96 #[.val (.int p1), .val (.int p2), .val (.int p3), .val (.int p4), .val (.ref b1), .val (.ref b5), .val (.ref b7), .val (.int (p2 &&& (3 : Int32))), .val (.int ((own_pick (own_M w0 w1 w2) (own_fr p4)) - (4 : Int32))), .unset, .unset, .unset, .unset, .unset] [(.ref b7)])) _
    refine XS.iloadN X12.here hx rfl (hb hby at_96) rfl ?_
    show Steps p.tables e below (T12.setTop (mkF m 97 #[.val (.int p1), .val (.int p2), .val (.int p3), .val (.int p4), .val (.ref b1), .val (.ref b5), .val (.ref b7), .val (.int (p2 &&& (3 : Int32))), .val (.int ((own_pick (own_M w0 w1 w2) (own_fr p4)) - (4 : Int32))), .unset, .unset, .unset, .unset, .unset] [(.int p4), (.ref b7)])) _
    refine st13 _ ?_
    show Steps p.tables e below (T13.setTop (mkF m 100 #[.val (.int p1), .val (.int p2), .val (.int p3), .val (.int p4), .val (.ref b1), .val (.ref b5), .val (.ref b7), .val (.int (p2 &&& (3 : Int32))), .val (.int ((own_pick (own_M w0 w1 w2) (own_fr p4)) - (4 : Int32))), .unset, .unset, .unset, .unset, .unset] [(.double (own_fr p4)), (.ref b7)])) _
    refine st14.trans ?_
    show Steps p.tables e below (T14.setTop (mkF m 103 #[.val (.int p1), .val (.int p2), .val (.int p3), .val (.int p4), .val (.ref b1), .val (.ref b5), .val (.ref b7), .val (.int (p2 &&& (3 : Int32))), .val (.int ((own_pick (own_M w0 w1 w2) (own_fr p4)) - (4 : Int32))), .unset, .unset, .unset, .unset, .unset] [(.int ((own_pick (own_M w0 w1 w2) (own_fr p4)) - (4 : Int32)))])) _
    refine XS.istore X14.here hx rfl (hb hby at_103) rfl (l' := #[.val (.int p1), .val (.int p2), .val (.int p3), .val (.int p4), .val (.ref b1), .val (.ref b5), .val (.ref b7), .val (.int (p2 &&& (3 : Int32))), .val (.int ((own_pick (own_M w0 w1 w2) (own_fr p4)) - (4 : Int32))), .val (.int ((own_pick (own_M w0 w1 w2) (own_fr p4)) - (4 : Int32))), .unset, .unset, .unset, .unset]) rfl ?_
    show Steps p.tables e below (T14.setTop (mkF m 105 #[.val (.int p1), .val (.int p2), .val (.int p3), .val (.int p4), .val (.ref b1), .val (.ref b5), .val (.ref b7), .val (.int (p2 &&& (3 : Int32))), .val (.int ((own_pick (own_M w0 w1 w2) (own_fr p4)) - (4 : Int32))), .val (.int ((own_pick (own_M w0 w1 w2) (own_fr p4)) - (4 : Int32))), .unset, .unset, .unset, .unset] [])) _
    refine XS.aload X14.here hx rfl (hb hby at_105) rfl rfl ?_
    show Steps p.tables e below (T14.setTop (mkF m 107 #[.val (.int p1), .val (.int p2), .val (.int p3), .val (.int p4), .val (.ref b1), .val (.ref b5), .val (.ref b7), .val (.int (p2 &&& (3 : Int32))), .val (.int ((own_pick (own_M w0 w1 w2) (own_fr p4)) - (4 : Int32))), .val (.int ((own_pick (own_M w0 w1 w2) (own_fr p4)) - (4 : Int32))), .unset, .unset, .unset, .unset] [(.ref b5)])) _
    refine XS.iloadN X14.here hx rfl (hb hby at_107) rfl ?_
    show Steps p.tables e below (T14.setTop (mkF m 108 #[.val (.int p1), .val (.int p2), .val (.int p3), .val (.int p4), .val (.ref b1), .val (.ref b5), .val (.ref b7), .val (.int (p2 &&& (3 : Int32))), .val (.int ((own_pick (own_M w0 w1 w2) (own_fr p4)) - (4 : Int32))), .val (.int ((own_pick (own_M w0 w1 w2) (own_fr p4)) - (4 : Int32))), .unset, .unset, .unset, .unset] [(.int p4), (.ref b5)])) _
    refine XS.iconst X14.here hx rfl (hb hby at_108) ?_
    show Steps p.tables e below (T14.setTop (mkF m 109 #[.val (.int p1), .val (.int p2), .val (.int p3), .val (.int p4), .val (.ref b1), .val (.ref b5), .val (.ref b7), .val (.int (p2 &&& (3 : Int32))), .val (.int ((own_pick (own_M w0 w1 w2) (own_fr p4)) - (4 : Int32))), .val (.int ((own_pick (own_M w0 w1 w2) (own_fr p4)) - (4 : Int32))), .unset, .unset, .unset, .unset] [(.int (3 : Int32)), (.int p4), (.ref b5)])) _
    refine XS.iushr X14.here hx rfl (hb hby at_109) rfl ?_
    show Steps p.tables e below (T14.setTop (mkF m 110 #[.val (.int p1), .val (.int p2), .val (.int p3), .val (.int p4), .val (.ref b1), .val (.ref b5), .val (.ref b7), .val (.int (p2 &&& (3 : Int32))), .val (.int ((own_pick (own_M w0 w1 w2) (own_fr p4)) - (4 : Int32))), .val (.int ((own_pick (own_M w0 w1 w2) (own_fr p4)) - (4 : Int32))), .unset, .unset, .unset, .unset] [(.int ((p4.toUInt32 >>> ((3 : Int32) &&& 31).toUInt32).toInt32)), (.ref b5)])) _
    refine st15 _ ?_
    show Steps p.tables e below (T15.setTop (mkF m 113 #[.val (.int p1), .val (.int p2), .val (.int p3), .val (.int p4), .val (.ref b1), .val (.ref b5), .val (.ref b7), .val (.int (p2 &&& (3 : Int32))), .val (.int ((own_pick (own_M w0 w1 w2) (own_fr p4)) - (4 : Int32))), .val (.int ((own_pick (own_M w0 w1 w2) (own_fr p4)) - (4 : Int32))), .unset, .unset, .unset, .unset] [(.double (own_fr ((p4.toUInt32 >>> ((3 : Int32) &&& 31).toUInt32).toInt32))), (.ref b5)])) _
    refine st16.trans ?_
    show Steps p.tables e below (T16.setTop (mkF m 116 #[.val (.int p1), .val (.int p2), .val (.int p3), .val (.int p4), .val (.ref b1), .val (.ref b5), .val (.ref b7), .val (.int (p2 &&& (3 : Int32))), .val (.int ((own_pick (own_M w0 w1 w2) (own_fr p4)) - (4 : Int32))), .val (.int ((own_pick (own_M w0 w1 w2) (own_fr p4)) - (4 : Int32))), .unset, .unset, .unset, .unset] [(.int ((own_pick (own_up (own_M w0 w1 w2) (own_pick (own_M w0 w1 w2) (own_fr p4)) 0) (own_fr ((p4.toUInt32 >>> ((3 : Int32) &&& 31).toUInt32).toInt32))) - (4 : Int32)))])) _
    refine XS.istore X16.here hx rfl (hb hby at_116) rfl (l' := #[.val (.int p1), .val (.int p2), .val (.int p3), .val (.int p4), .val (.ref b1), .val (.ref b5), .val (.ref b7), .val (.int (p2 &&& (3 : Int32))), .val (.int ((own_pick (own_M w0 w1 w2) (own_fr p4)) - (4 : Int32))), .val (.int ((own_pick (own_M w0 w1 w2) (own_fr p4)) - (4 : Int32))), .val (.int ((own_pick (own_up (own_M w0 w1 w2) (own_pick (own_M w0 w1 w2) (own_fr p4)) 0) (own_fr ((p4.toUInt32 >>> ((3 : Int32) &&& 31).toUInt32).toInt32))) - (4 : Int32))), .unset, .unset, .unset]) rfl ?_
    show Steps p.tables e below (T16.setTop (mkF m 118 #[.val (.int p1), .val (.int p2), .val (.int p3), .val (.int p4), .val (.ref b1), .val (.ref b5), .val (.ref b7), .val (.int (p2 &&& (3 : Int32))), .val (.int ((own_pick (own_M w0 w1 w2) (own_fr p4)) - (4 : Int32))), .val (.int ((own_pick (own_M w0 w1 w2) (own_fr p4)) - (4 : Int32))), .val (.int ((own_pick (own_up (own_M w0 w1 w2) (own_pick (own_M w0 w1 w2) (own_fr p4)) 0) (own_fr ((p4.toUInt32 >>> ((3 : Int32) &&& 31).toUInt32).toInt32))) - (4 : Int32))), .unset, .unset, .unset] [])) _
    refine XS.aload X16.here hx rfl (hb hby at_118) rfl rfl ?_
    show Steps p.tables e below (T16.setTop (mkF m 120 #[.val (.int p1), .val (.int p2), .val (.int p3), .val (.int p4), .val (.ref b1), .val (.ref b5), .val (.ref b7), .val (.int (p2 &&& (3 : Int32))), .val (.int ((own_pick (own_M w0 w1 w2) (own_fr p4)) - (4 : Int32))), .val (.int ((own_pick (own_M w0 w1 w2) (own_fr p4)) - (4 : Int32))), .val (.int ((own_pick (own_up (own_M w0 w1 w2) (own_pick (own_M w0 w1 w2) (own_fr p4)) 0) (own_fr ((p4.toUInt32 >>> ((3 : Int32) &&& 31).toUInt32).toInt32))) - (4 : Int32))), .unset, .unset, .unset] [(.ref b7)])) _
    refine XS.iloadN X16.here hx rfl (hb hby at_120) rfl ?_
    show Steps p.tables e below (T16.setTop (mkF m 121 #[.val (.int p1), .val (.int p2), .val (.int p3), .val (.int p4), .val (.ref b1), .val (.ref b5), .val (.ref b7), .val (.int (p2 &&& (3 : Int32))), .val (.int ((own_pick (own_M w0 w1 w2) (own_fr p4)) - (4 : Int32))), .val (.int ((own_pick (own_M w0 w1 w2) (own_fr p4)) - (4 : Int32))), .val (.int ((own_pick (own_up (own_M w0 w1 w2) (own_pick (own_M w0 w1 w2) (own_fr p4)) 0) (own_fr ((p4.toUInt32 >>> ((3 : Int32) &&& 31).toUInt32).toInt32))) - (4 : Int32))), .unset, .unset, .unset] [(.int p4), (.ref b7)])) _
    refine XS.iconst X16.here hx rfl (hb hby at_121) ?_
    show Steps p.tables e below (T16.setTop (mkF m 122 #[.val (.int p1), .val (.int p2), .val (.int p3), .val (.int p4), .val (.ref b1), .val (.ref b5), .val (.ref b7), .val (.int (p2 &&& (3 : Int32))), .val (.int ((own_pick (own_M w0 w1 w2) (own_fr p4)) - (4 : Int32))), .val (.int ((own_pick (own_M w0 w1 w2) (own_fr p4)) - (4 : Int32))), .val (.int ((own_pick (own_up (own_M w0 w1 w2) (own_pick (own_M w0 w1 w2) (own_fr p4)) 0) (own_fr ((p4.toUInt32 >>> ((3 : Int32) &&& 31).toUInt32).toInt32))) - (4 : Int32))), .unset, .unset, .unset] [(.int (3 : Int32)), (.int p4), (.ref b7)])) _
    refine XS.iushr X16.here hx rfl (hb hby at_122) rfl ?_
    show Steps p.tables e below (T16.setTop (mkF m 123 #[.val (.int p1), .val (.int p2), .val (.int p3), .val (.int p4), .val (.ref b1), .val (.ref b5), .val (.ref b7), .val (.int (p2 &&& (3 : Int32))), .val (.int ((own_pick (own_M w0 w1 w2) (own_fr p4)) - (4 : Int32))), .val (.int ((own_pick (own_M w0 w1 w2) (own_fr p4)) - (4 : Int32))), .val (.int ((own_pick (own_up (own_M w0 w1 w2) (own_pick (own_M w0 w1 w2) (own_fr p4)) 0) (own_fr ((p4.toUInt32 >>> ((3 : Int32) &&& 31).toUInt32).toInt32))) - (4 : Int32))), .unset, .unset, .unset] [(.int ((p4.toUInt32 >>> ((3 : Int32) &&& 31).toUInt32).toInt32)), (.ref b7)])) _
    refine st17 _ ?_
    show Steps p.tables e below (T17.setTop (mkF m 126 #[.val (.int p1), .val (.int p2), .val (.int p3), .val (.int p4), .val (.ref b1), .val (.ref b5), .val (.ref b7), .val (.int (p2 &&& (3 : Int32))), .val (.int ((own_pick (own_M w0 w1 w2) (own_fr p4)) - (4 : Int32))), .val (.int ((own_pick (own_M w0 w1 w2) (own_fr p4)) - (4 : Int32))), .val (.int ((own_pick (own_up (own_M w0 w1 w2) (own_pick (own_M w0 w1 w2) (own_fr p4)) 0) (own_fr ((p4.toUInt32 >>> ((3 : Int32) &&& 31).toUInt32).toInt32))) - (4 : Int32))), .unset, .unset, .unset] [(.double (own_fr ((p4.toUInt32 >>> ((3 : Int32) &&& 31).toUInt32).toInt32))), (.ref b7)])) _
    refine st18.trans ?_
    show Steps p.tables e below (T18.setTop (mkF m 129 #[.val (.int p1), .val (.int p2), .val (.int p3), .val (.int p4), .val (.ref b1), .val (.ref b5), .val (.ref b7), .val (.int (p2 &&& (3 : Int32))), .val (.int ((own_pick (own_M w0 w1 w2) (own_fr p4)) - (4 : Int32))), .val (.int ((own_pick (own_M w0 w1 w2) (own_fr p4)) - (4 : Int32))), .val (.int ((own_pick (own_up (own_M w0 w1 w2) (own_pick (own_M w0 w1 w2) (own_fr p4)) 0) (own_fr ((p4.toUInt32 >>> ((3 : Int32) &&& 31).toUInt32).toInt32))) - (4 : Int32))), .unset, .unset, .unset] [(.int ((own_pick (own_up (own_M w0 w1 w2) (own_pick (own_M w0 w1 w2) (own_fr p4)) 0) (own_fr ((p4.toUInt32 >>> ((3 : Int32) &&& 31).toUInt32).toInt32))) - (4 : Int32)))])) _
    refine XS.istore X18.here hx rfl (hb hby at_129) rfl (l' := #[.val (.int p1), .val (.int p2), .val (.int p3), .val (.int p4), .val (.ref b1), .val (.ref b5), .val (.ref b7), .val (.int (p2 &&& (3 : Int32))), .val (.int ((own_pick (own_M w0 w1 w2) (own_fr p4)) - (4 : Int32))), .val (.int ((own_pick (own_M w0 w1 w2) (own_fr p4)) - (4 : Int32))), .val (.int ((own_pick (own_up (own_M w0 w1 w2) (own_pick (own_M w0 w1 w2) (own_fr p4)) 0) (own_fr ((p4.toUInt32 >>> ((3 : Int32) &&& 31).toUInt32).toInt32))) - (4 : Int32))), .val (.int ((own_pick (own_up (own_M w0 w1 w2) (own_pick (own_M w0 w1 w2) (own_fr p4)) 0) (own_fr ((p4.toUInt32 >>> ((3 : Int32) &&& 31).toUInt32).toInt32))) - (4 : Int32))), .unset, .unset]) rfl ?_
    show Steps p.tables e below (T18.setTop (mkF m 131 #[.val (.int p1), .val (.int p2), .val (.int p3), .val (.int p4), .val (.ref b1), .val (.ref b5), .val (.ref b7), .val (.int (p2 &&& (3 : Int32))), .val (.int ((own_pick (own_M w0 w1 w2) (own_fr p4)) - (4 : Int32))), .val (.int ((own_pick (own_M w0 w1 w2) (own_fr p4)) - (4 : Int32))), .val (.int ((own_pick (own_up (own_M w0 w1 w2) (own_pick (own_M w0 w1 w2) (own_fr p4)) 0) (own_fr ((p4.toUInt32 >>> ((3 : Int32) &&& 31).toUInt32).toInt32))) - (4 : Int32))), .val (.int ((own_pick (own_up (own_M w0 w1 w2) (own_pick (own_M w0 w1 w2) (own_fr p4)) 0) (own_fr ((p4.toUInt32 >>> ((3 : Int32) &&& 31).toUInt32).toInt32))) - (4 : Int32))), .unset, .unset] [])) _
    refine XS.aload X18.here hx rfl (hb hby at_131) rfl rfl ?_
    show Steps p.tables e below (T18.setTop (mkF m 133 #[.val (.int p1), .val (.int p2), .val (.int p3), .val (.int p4), .val (.ref b1), .val (.ref b5), .val (.ref b7), .val (.int (p2 &&& (3 : Int32))), .val (.int ((own_pick (own_M w0 w1 w2) (own_fr p4)) - (4 : Int32))), .val (.int ((own_pick (own_M w0 w1 w2) (own_fr p4)) - (4 : Int32))), .val (.int ((own_pick (own_up (own_M w0 w1 w2) (own_pick (own_M w0 w1 w2) (own_fr p4)) 0) (own_fr ((p4.toUInt32 >>> ((3 : Int32) &&& 31).toUInt32).toInt32))) - (4 : Int32))), .val (.int ((own_pick (own_up (own_M w0 w1 w2) (own_pick (own_M w0 w1 w2) (own_fr p4)) 0) (own_fr ((p4.toUInt32 >>> ((3 : Int32) &&& 31).toUInt32).toInt32))) - (4 : Int32))), .unset, .unset] [(.ref b5)])) _
    refine XS.iloadN X18.here hx rfl (hb hby at_133) rfl ?_
    show Steps p.tables e below (T18.setTop (mkF m 134 #[.val (.int p1), .val (.int p2), .val (.int p3), .val (.int p4), .val (.ref b1), .val (.ref b5), .val (.ref b7), .val (.int (p2 &&& (3 : Int32))), .val (.int ((own_pick (own_M w0 w1 w2) (own_fr p4)) - (4 : Int32))), .val (.int ((own_pick (own_M w0 w1 w2) (own_fr p4)) - (4 : Int32))), .val (.int ((own_pick (own_up (own_M w0 w1 w2) (own_pick (own_M w0 w1 w2) (own_fr p4)) 0) (own_fr ((p4.toUInt32 >>> ((3 : Int32) &&& 31).toUInt32).toInt32))) - (4 : Int32))), .val (.int ((own_pick (own_up (own_M w0 w1 w2) (own_pick (own_M w0 w1 w2) (own_fr p4)) 0) (own_fr ((p4.toUInt32 >>> ((3 : Int32) &&& 31).toUInt32).toInt32))) - (4 : Int32))), .unset, .unset] [(.int p4), (.ref b5)])) _
    refine XS.bipush X18.here hx rfl (hb hby at_134) ?_
    show Steps p.tables e below (T18.setTop (mkF m 136 #[.val (.int p1), .val (.int p2), .val (.int p3), .val (.int p4), .val (.ref b1), .val (.ref b5), .val (.ref b7), .val (.int (p2 &&& (3 : Int32))), .val (.int ((own_pick (own_M w0 w1 w2) (own_fr p4)) - (4 : Int32))), .val (.int ((own_pick (own_M w0 w1 w2) (own_fr p4)) - (4 : Int32))), .val (.int ((own_pick (own_up (own_M w0 w1 w2) (own_pick (own_M w0 w1 w2) (own_fr p4)) 0) (own_fr ((p4.toUInt32 >>> ((3 : Int32) &&& 31).toUInt32).toInt32))) - (4 : Int32))), .val (.int ((own_pick (own_up (own_M w0 w1 w2) (own_pick (own_M w0 w1 w2) (own_fr p4)) 0) (own_fr ((p4.toUInt32 >>> ((3 : Int32) &&& 31).toUInt32).toInt32))) - (4 : Int32))), .unset, .unset] [(.int (6 : Int32)), (.int p4), (.ref b5)])) _
    refine XS.iushr X18.here hx rfl (hb hby at_136) rfl ?_
    show Steps p.tables e below (T18.setTop (mkF m 137 #[.val (.int p1), .val (.int p2), .val (.int p3), .val (.int p4), .val (.ref b1), .val (.ref b5), .val (.ref b7), .val (.int (p2 &&& (3 : Int32))), .val (.int ((own_pick (own_M w0 w1 w2) (own_fr p4)) - (4 : Int32))), .val (.int ((own_pick (own_M w0 w1 w2) (own_fr p4)) - (4 : Int32))), .val (.int ((own_pick (own_up (own_M w0 w1 w2) (own_pick (own_M w0 w1 w2) (own_fr p4)) 0) (own_fr ((p4.toUInt32 >>> ((3 : Int32) &&& 31).toUInt32).toInt32))) - (4 : Int32))), .val (.int ((own_pick (own_up (own_M w0 w1 w2) (own_pick (own_M w0 w1 w2) (own_fr p4)) 0) (own_fr ((p4.toUInt32 >>> ((3 : Int32) &&& 31).toUInt32).toInt32))) - (4 : Int32))), .unset, .unset] [(.int ((p4.toUInt32 >>> ((6 : Int32) &&& 31).toUInt32).toInt32)), (.ref b5)])) _
    refine st19 _ ?_
    show Steps p.tables e below (T19.setTop (mkF m 140 #[.val (.int p1), .val (.int p2), .val (.int p3), .val (.int p4), .val (.ref b1), .val (.ref b5), .val (.ref b7), .val (.int (p2 &&& (3 : Int32))), .val (.int ((own_pick (own_M w0 w1 w2) (own_fr p4)) - (4 : Int32))), .val (.int ((own_pick (own_M w0 w1 w2) (own_fr p4)) - (4 : Int32))), .val (.int ((own_pick (own_up (own_M w0 w1 w2) (own_pick (own_M w0 w1 w2) (own_fr p4)) 0) (own_fr ((p4.toUInt32 >>> ((3 : Int32) &&& 31).toUInt32).toInt32))) - (4 : Int32))), .val (.int ((own_pick (own_up (own_M w0 w1 w2) (own_pick (own_M w0 w1 w2) (own_fr p4)) 0) (own_fr ((p4.toUInt32 >>> ((3 : Int32) &&& 31).toUInt32).toInt32))) - (4 : Int32))), .unset, .unset] [(.double (own_fr ((p4.toUInt32 >>> ((6 : Int32) &&& 31).toUInt32).toInt32))), (.ref b5)])) _
    refine st20.trans ?_
    show Steps p.tables e below (T20.setTop (mkF m 143 #[.val (.int p1), .val (.int p2), .val (.int p3), .val (.int p4), .val (.ref b1), .val (.ref b5), .val (.ref b7), .val (.int (p2 &&& (3 : Int32))), .val (.int ((own_pick (own_M w0 w1 w2) (own_fr p4)) - (4 : Int32))), .val (.int ((own_pick (own_M w0 w1 w2) (own_fr p4)) - (4 : Int32))), .val (.int ((own_pick (own_up (own_M w0 w1 w2) (own_pick (own_M w0 w1 w2) (own_fr p4)) 0) (own_fr ((p4.toUInt32 >>> ((3 : Int32) &&& 31).toUInt32).toInt32))) - (4 : Int32))), .val (.int ((own_pick (own_up (own_M w0 w1 w2) (own_pick (own_M w0 w1 w2) (own_fr p4)) 0) (own_fr ((p4.toUInt32 >>> ((3 : Int32) &&& 31).toUInt32).toInt32))) - (4 : Int32))), .unset, .unset] [(.int ((own_pick (own_up (own_up (own_M w0 w1 w2) (own_pick (own_M w0 w1 w2) (own_fr p4)) 0) (own_pick (own_up (own_M w0 w1 w2) (own_pick (own_M w0 w1 w2) (own_fr p4)) 0) (own_fr ((p4.toUInt32 >>> ((3 : Int32) &&& 31).toUInt32).toInt32))) 0) (own_fr ((p4.toUInt32 >>> ((6 : Int32) &&& 31).toUInt32).toInt32))) - (4 : Int32)))])) _
    refine XS.istore X20.here hx rfl (hb hby at_143) rfl (l' := #[.val (.int p1), .val (.int p2), .val (.int p3), .val (.int p4), .val (.ref b1), .val (.ref b5), .val (.ref b7), .val (.int (p2 &&& (3 : Int32))), .val (.int ((own_pick (own_M w0 w1 w2) (own_fr p4)) - (4 : Int32))), .val (.int ((own_pick (own_M w0 w1 w2) (own_fr p4)) - (4 : Int32))), .val (.int ((own_pick (own_up (own_M w0 w1 w2) (own_pick (own_M w0 w1 w2) (own_fr p4)) 0) (own_fr ((p4.toUInt32 >>> ((3 : Int32) &&& 31).toUInt32).toInt32))) - (4 : Int32))), .val (.int ((own_pick (own_up (own_M w0 w1 w2) (own_pick (own_M w0 w1 w2) (own_fr p4)) 0) (own_fr ((p4.toUInt32 >>> ((3 : Int32) &&& 31).toUInt32).toInt32))) - (4 : Int32))), .val (.int ((own_pick (own_up (own_up (own_M w0 w1 w2) (own_pick (own_M w0 w1 w2) (own_fr p4)) 0) (own_pick (own_up (own_M w0 w1 w2) (own_pick (own_M w0 w1 w2) (own_fr p4)) 0) (own_fr ((p4.toUInt32 >>> ((3 : Int32) &&& 31).toUInt32).toInt32))) 0) (own_fr ((p4.toUInt32 >>> ((6 : Int32) &&& 31).toUInt32).toInt32))) - (4 : Int32))), .unset]) rfl ?_
    show Steps p.tables e below (T20.setTop (mkF m 145 #[.val (.int p1), .val (.int p2), .val (.int p3), .val (.int p4), .val (.ref b1), .val (.ref b5), .val (.ref b7), .val (.int (p2 &&& (3 : Int32))), .val (.int ((own_pick (own_M w0 w1 w2) (own_fr p4)) - (4 : Int32))), .val (.int ((own_pick (own_M w0 w1 w2) (own_fr p4)) - (4 : Int32))), .val (.int ((own_pick (own_up (own_M w0 w1 w2) (own_pick (own_M w0 w1 w2) (own_fr p4)) 0) (own_fr ((p4.toUInt32 >>> ((3 : Int32) &&& 31).toUInt32).toInt32))) - (4 : Int32))), .val (.int ((own_pick (own_up (own_M w0 w1 w2) (own_pick (own_M w0 w1 w2) (own_fr p4)) 0) (own_fr ((p4.toUInt32 >>> ((3 : Int32) &&& 31).toUInt32).toInt32))) - (4 : Int32))), .val (.int ((own_pick (own_up (own_up (own_M w0 w1 w2) (own_pick (own_M w0 w1 w2) (own_fr p4)) 0) (own_pick (own_up (own_M w0 w1 w2) (own_pick (own_M w0 w1 w2) (own_fr p4)) 0) (own_fr ((p4.toUInt32 >>> ((3 : Int32) &&& 31).toUInt32).toInt32))) 0) (own_fr ((p4.toUInt32 >>> ((6 : Int32) &&& 31).toUInt32).toInt32))) - (4 : Int32))), .unset] [])) _
    refine XS.aload X20.here hx rfl (hb hby at_145) rfl rfl ?_
    show Steps p.tables e below (T20.setTop (mkF m 147 #[.val (.int p1), .val (.int p2), .val (.int p3), .val (.int p4), .val (.ref b1), .val (.ref b5), .val (.ref b7), .val (.int (p2 &&& (3 : Int32))), .val (.int ((own_pick (own_M w0 w1 w2) (own_fr p4)) - (4 : Int32))), .val (.int ((own_pick (own_M w0 w1 w2) (own_fr p4)) - (4 : Int32))), .val (.int ((own_pick (own_up (own_M w0 w1 w2) (own_pick (own_M w0 w1 w2) (own_fr p4)) 0) (own_fr ((p4.toUInt32 >>> ((3 : Int32) &&& 31).toUInt32).toInt32))) - (4 : Int32))), .val (.int ((own_pick (own_up (own_M w0 w1 w2) (own_pick (own_M w0 w1 w2) (own_fr p4)) 0) (own_fr ((p4.toUInt32 >>> ((3 : Int32) &&& 31).toUInt32).toInt32))) - (4 : Int32))), .val (.int ((own_pick (own_up (own_up (own_M w0 w1 w2) (own_pick (own_M w0 w1 w2) (own_fr p4)) 0) (own_pick (own_up (own_M w0 w1 w2) (own_pick (own_M w0 w1 w2) (own_fr p4)) 0) (own_fr ((p4.toUInt32 >>> ((3 : Int32) &&& 31).toUInt32).toInt32))) 0) (own_fr ((p4.toUInt32 >>> ((6 : Int32) &&& 31).toUInt32).toInt32))) - (4 : Int32))), .unset] [(.ref b7)])) _
    refine XS.iloadN X20.here hx rfl (hb hby at_147) rfl ?_
    show Steps p.tables e below (T20.setTop (mkF m 148 #[.val (.int p1), .val (.int p2), .val (.int p3), .val (.int p4), .val (.ref b1), .val (.ref b5), .val (.ref b7), .val (.int (p2 &&& (3 : Int32))), .val (.int ((own_pick (own_M w0 w1 w2) (own_fr p4)) - (4 : Int32))), .val (.int ((own_pick (own_M w0 w1 w2) (own_fr p4)) - (4 : Int32))), .val (.int ((own_pick (own_up (own_M w0 w1 w2) (own_pick (own_M w0 w1 w2) (own_fr p4)) 0) (own_fr ((p4.toUInt32 >>> ((3 : Int32) &&& 31).toUInt32).toInt32))) - (4 : Int32))), .val (.int ((own_pick (own_up (own_M w0 w1 w2) (own_pick (own_M w0 w1 w2) (own_fr p4)) 0) (own_fr ((p4.toUInt32 >>> ((3 : Int32) &&& 31).toUInt32).toInt32))) - (4 : Int32))), .val (.int ((own_pick (own_up (own_up (own_M w0 w1 w2) (own_pick (own_M w0 w1 w2) (own_fr p4)) 0) (own_pick (own_up (own_M w0 w1 w2) (own_pick (own_M w0 w1 w2) (own_fr p4)) 0) (own_fr ((p4.toUInt32 >>> ((3 : Int32) &&& 31).toUInt32).toInt32))) 0) (own_fr ((p4.toUInt32 >>> ((6 : Int32) &&& 31).toUInt32).toInt32))) - (4 : Int32))), .unset] [(.int p4), (.ref b7)])) _
    refine XS.bipush X20.here hx rfl (hb hby at_148) ?_
    show Steps p.tables e below (T20.setTop (mkF m 150 #[.val (.int p1), .val (.int p2), .val (.int p3), .val (.int p4), .val (.ref b1), .val (.ref b5), .val (.ref b7), .val (.int (p2 &&& (3 : Int32))), .val (.int ((own_pick (own_M w0 w1 w2) (own_fr p4)) - (4 : Int32))), .val (.int ((own_pick (own_M w0 w1 w2) (own_fr p4)) - (4 : Int32))), .val (.int ((own_pick (own_up (own_M w0 w1 w2) (own_pick (own_M w0 w1 w2) (own_fr p4)) 0) (own_fr ((p4.toUInt32 >>> ((3 : Int32) &&& 31).toUInt32).toInt32))) - (4 : Int32))), .val (.int ((own_pick (own_up (own_M w0 w1 w2) (own_pick (own_M w0 w1 w2) (own_fr p4)) 0) (own_fr ((p4.toUInt32 >>> ((3 : Int32) &&& 31).toUInt32).toInt32))) - (4 : Int32))), .val (.int ((own_pick (own_up (own_up (own_M w0 w1 w2) (own_pick (own_M w0 w1 w2) (own_fr p4)) 0) (own_pick (own_up (own_M w0 w1 w2) (own_pick (own_M w0 w1 w2) (own_fr p4)) 0) (own_fr ((p4.toUInt32 >>> ((3 : Int32) &&& 31).toUInt32).toInt32))) 0) (own_fr ((p4.toUInt32 >>> ((6 : Int32) &&& 31).toUInt32).toInt32))) - (4 : Int32))), .unset] [(.int (6 : Int32)), (.int p4), (.ref b7)])) _
    refine XS.iushr X20.here hx rfl (hb hby at_150) rfl ?_
    show Steps p.tables e below (T20.setTop (mkF m 151 #[.val (.int p1), .val (.int p2), .val (.int p3), .val (.int p4), .val (.ref b1), .val (.ref b5), .val (.ref b7), .val (.int (p2 &&& (3 : Int32))), .val (.int ((own_pick (own_M w0 w1 w2) (own_fr p4)) - (4 : Int32))), .val (.int ((own_pick (own_M w0 w1 w2) (own_fr p4)) - (4 : Int32))), .val (.int ((own_pick (own_up (own_M w0 w1 w2) (own_pick (own_M w0 w1 w2) (own_fr p4)) 0) (own_fr ((p4.toUInt32 >>> ((3 : Int32) &&& 31).toUInt32).toInt32))) - (4 : Int32))), .val (.int ((own_pick (own_up (own_M w0 w1 w2) (own_pick (own_M w0 w1 w2) (own_fr p4)) 0) (own_fr ((p4.toUInt32 >>> ((3 : Int32) &&& 31).toUInt32).toInt32))) - (4 : Int32))), .val (.int ((own_pick (own_up (own_up (own_M w0 w1 w2) (own_pick (own_M w0 w1 w2) (own_fr p4)) 0) (own_pick (own_up (own_M w0 w1 w2) (own_pick (own_M w0 w1 w2) (own_fr p4)) 0) (own_fr ((p4.toUInt32 >>> ((3 : Int32) &&& 31).toUInt32).toInt32))) 0) (own_fr ((p4.toUInt32 >>> ((6 : Int32) &&& 31).toUInt32).toInt32))) - (4 : Int32))), .unset] [(.int ((p4.toUInt32 >>> ((6 : Int32) &&& 31).toUInt32).toInt32)), (.ref b7)])) _
    refine st21 _ ?_
    show Steps p.tables e below (T21.setTop (mkF m 154 #[.val (.int p1), .val (.int p2), .val (.int p3), .val (.int p4), .val (.ref b1), .val (.ref b5), .val (.ref b7), .val (.int (p2 &&& (3 : Int32))), .val (.int ((own_pick (own_M w0 w1 w2) (own_fr p4)) - (4 : Int32))), .val (.int ((own_pick (own_M w0 w1 w2) (own_fr p4)) - (4 : Int32))), .val (.int ((own_pick (own_up (own_M w0 w1 w2) (own_pick (own_M w0 w1 w2) (own_fr p4)) 0) (own_fr ((p4.toUInt32 >>> ((3 : Int32) &&& 31).toUInt32).toInt32))) - (4 : Int32))), .val (.int ((own_pick (own_up (own_M w0 w1 w2) (own_pick (own_M w0 w1 w2) (own_fr p4)) 0) (own_fr ((p4.toUInt32 >>> ((3 : Int32) &&& 31).toUInt32).toInt32))) - (4 : Int32))), .val (.int ((own_pick (own_up (own_up (own_M w0 w1 w2) (own_pick (own_M w0 w1 w2) (own_fr p4)) 0) (own_pick (own_up (own_M w0 w1 w2) (own_pick (own_M w0 w1 w2) (own_fr p4)) 0) (own_fr ((p4.toUInt32 >>> ((3 : Int32) &&& 31).toUInt32).toInt32))) 0) (own_fr ((p4.toUInt32 >>> ((6 : Int32) &&& 31).toUInt32).toInt32))) - (4 : Int32))), .unset] [(.double (own_fr ((p4.toUInt32 >>> ((6 : Int32) &&& 31).toUInt32).toInt32))), (.ref b7)])) _
    refine st22.trans ?_
    show Steps p.tables e below (T22.setTop (mkF m 157 #[.val (.int p1), .val (.int p2), .val (.int p3), .val (.int p4), .val (.ref b1), .val (.ref b5), .val (.ref b7), .val (.int (p2 &&& (3 : Int32))), .val (.int ((own_pick (own_M w0 w1 w2) (own_fr p4)) - (4 : Int32))), .val (.int ((own_pick (own_M w0 w1 w2) (own_fr p4)) - (4 : Int32))), .val (.int ((own_pick (own_up (own_M w0 w1 w2) (own_pick (own_M w0 w1 w2) (own_fr p4)) 0) (own_fr ((p4.toUInt32 >>> ((3 : Int32) &&& 31).toUInt32).toInt32))) - (4 : Int32))), .val (.int ((own_pick (own_up (own_M w0 w1 w2) (own_pick (own_M w0 w1 w2) (own_fr p4)) 0) (own_fr ((p4.toUInt32 >>> ((3 : Int32) &&& 31).toUInt32).toInt32))) - (4 : Int32))), .val (.int ((own_pick (own_up (own_up (own_M w0 w1 w2) (own_pick (own_M w0 w1 w2) (own_fr p4)) 0) (own_pick (own_up (own_M w0 w1 w2) (own_pick (own_M w0 w1 w2) (own_fr p4)) 0) (own_fr ((p4.toUInt32 >>> ((3 : Int32) &&& 31).toUInt32).toInt32))) 0) (own_fr ((p4.toUInt32 >>> ((6 : Int32) &&& 31).toUInt32).toInt32))) - (4 : Int32))), .unset] [(.int ((own_pick (own_up (own_up (own_M w0 w1 w2) (own_pick (own_M w0 w1 w2) (own_fr p4)) 0) (own_pick (own_up (own_M w0 w1 w2) (own_pick (own_M w0 w1 w2) (own_fr p4)) 0) (own_fr ((p4.toUInt32 >>> ((3 : Int32) &&& 31).toUInt32).toInt32))) 0) (own_fr ((p4.toUInt32 >>> ((6 : Int32) &&& 31).toUInt32).toInt32))) - (4 : Int32)))])) _
    refine XS.istore X22.here hx rfl (hb hby at_157) rfl (l' := #[.val (.int p1), .val (.int p2), .val (.int p3), .val (.int p4), .val (.ref b1), .val (.ref b5), .val (.ref b7), .val (.int (p2 &&& (3 : Int32))), .val (.int ((own_pick (own_M w0 w1 w2) (own_fr p4)) - (4 : Int32))), .val (.int ((own_pick (own_M w0 w1 w2) (own_fr p4)) - (4 : Int32))), .val (.int ((own_pick (own_up (own_M w0 w1 w2) (own_pick (own_M w0 w1 w2) (own_fr p4)) 0) (own_fr ((p4.toUInt32 >>> ((3 : Int32) &&& 31).toUInt32).toInt32))) - (4 : Int32))), .val (.int ((own_pick (own_up (own_M w0 w1 w2) (own_pick (own_M w0 w1 w2) (own_fr p4)) 0) (own_fr ((p4.toUInt32 >>> ((3 : Int32) &&& 31).toUInt32).toInt32))) - (4 : Int32))), .val (.int ((own_pick (own_up (own_up (own_M w0 w1 w2) (own_pick (own_M w0 w1 w2) (own_fr p4)) 0) (own_pick (own_up (own_M w0 w1 w2) (own_pick (own_M w0 w1 w2) (own_fr p4)) 0) (own_fr ((p4.toUInt32 >>> ((3 : Int32) &&& 31).toUInt32).toInt32))) 0) (own_fr ((p4.toUInt32 >>> ((6 : Int32) &&& 31).toUInt32).toInt32))) - (4 : Int32))), .val (.int ((own_pick (own_up (own_up (own_M w0 w1 w2) (own_pick (own_M w0 w1 w2) (own_fr p4)) 0) (own_pick (own_up (own_M w0 w1 w2) (own_pick (own_M w0 w1 w2) (own_fr p4)) 0) (own_fr ((p4.toUInt32 >>> ((3 : Int32) &&& 31).toUInt32).toInt32))) 0) (own_fr ((p4.toUInt32 >>> ((6 : Int32) &&& 31).toUInt32).toInt32))) - (4 : Int32)))]) rfl ?_
    show Steps p.tables e below (T22.setTop (mkF m 159 #[.val (.int p1), .val (.int p2), .val (.int p3), .val (.int p4), .val (.ref b1), .val (.ref b5), .val (.ref b7), .val (.int (p2 &&& (3 : Int32))), .val (.int ((own_pick (own_M w0 w1 w2) (own_fr p4)) - (4 : Int32))), .val (.int ((own_pick (own_M w0 w1 w2) (own_fr p4)) - (4 : Int32))), .val (.int ((own_pick (own_up (own_M w0 w1 w2) (own_pick (own_M w0 w1 w2) (own_fr p4)) 0) (own_fr ((p4.toUInt32 >>> ((3 : Int32) &&& 31).toUInt32).toInt32))) - (4 : Int32))), .val (.int ((own_pick (own_up (own_M w0 w1 w2) (own_pick (own_M w0 w1 w2) (own_fr p4)) 0) (own_fr ((p4.toUInt32 >>> ((3 : Int32) &&& 31).toUInt32).toInt32))) - (4 : Int32))), .val (.int ((own_pick (own_up (own_up (own_M w0 w1 w2) (own_pick (own_M w0 w1 w2) (own_fr p4)) 0) (own_pick (own_up (own_M w0 w1 w2) (own_pick (own_M w0 w1 w2) (own_fr p4)) 0) (own_fr ((p4.toUInt32 >>> ((3 : Int32) &&& 31).toUInt32).toInt32))) 0) (own_fr ((p4.toUInt32 >>> ((6 : Int32) &&& 31).toUInt32).toInt32))) - (4 : Int32))), .val (.int ((own_pick (own_up (own_up (own_M w0 w1 w2) (own_pick (own_M w0 w1 w2) (own_fr p4)) 0) (own_pick (own_up (own_M w0 w1 w2) (own_pick (own_M w0 w1 w2) (own_fr p4)) 0) (own_fr ((p4.toUInt32 >>> ((3 : Int32) &&& 31).toUInt32).toInt32))) 0) (own_fr ((p4.toUInt32 >>> ((6 : Int32) &&& 31).toUInt32).toInt32))) - (4 : Int32)))] [])) _
    refine XS.iload X22.here hx rfl (hb hby at_159) rfl ?_
    show Steps p.tables e below (T22.setTop (mkF m 161 #[.val (.int p1), .val (.int p2), .val (.int p3), .val (.int p4), .val (.ref b1), .val (.ref b5), .val (.ref b7), .val (.int (p2 &&& (3 : Int32))), .val (.int ((own_pick (own_M w0 w1 w2) (own_fr p4)) - (4 : Int32))), .val (.int ((own_pick (own_M w0 w1 w2) (own_fr p4)) - (4 : Int32))), .val (.int ((own_pick (own_up (own_M w0 w1 w2) (own_pick (own_M w0 w1 w2) (own_fr p4)) 0) (own_fr ((p4.toUInt32 >>> ((3 : Int32) &&& 31).toUInt32).toInt32))) - (4 : Int32))), .val (.int ((own_pick (own_up (own_M w0 w1 w2) (own_pick (own_M w0 w1 w2) (own_fr p4)) 0) (own_fr ((p4.toUInt32 >>> ((3 : Int32) &&& 31).toUInt32).toInt32))) - (4 : Int32))), .val (.int ((own_pick (own_up (own_up (own_M w0 w1 w2) (own_pick (own_M w0 w1 w2) (own_fr p4)) 0) (own_pick (own_up (own_M w0 w1 w2) (own_pick (own_M w0 w1 w2) (own_fr p4)) 0) (own_fr ((p4.toUInt32 >>> ((3 : Int32) &&& 31).toUInt32).toInt32))) 0) (own_fr ((p4.toUInt32 >>> ((6 : Int32) &&& 31).toUInt32).toInt32))) - (4 : Int32))), .val (.int ((own_pick (own_up (own_up (own_M w0 w1 w2) (own_pick (own_M w0 w1 w2) (own_fr p4)) 0) (own_pick (own_up (own_M w0 w1 w2) (own_pick (own_M w0 w1 w2) (own_fr p4)) 0) (own_fr ((p4.toUInt32 >>> ((3 : Int32) &&& 31).toUInt32).toInt32))) 0) (own_fr ((p4.toUInt32 >>> ((6 : Int32) &&& 31).toUInt32).toInt32))) - (4 : Int32)))] [(.int ((own_pick (own_M w0 w1 w2) (own_fr p4)) - (4 : Int32)))])) _
    refine XS.iload X22.here hx rfl (hb hby at_161) rfl ?_
    show Steps p.tables e below (T22.setTop (mkF m 163 #[.val (.int p1), .val (.int p2), .val (.int p3), .val (.int p4), .val (.ref b1), .val (.ref b5), .val (.ref b7), .val (.int (p2 &&& (3 : Int32))), .val (.int ((own_pick (own_M w0 w1 w2) (own_fr p4)) - (4 : Int32))), .val (.int ((own_pick (own_M w0 w1 w2) (own_fr p4)) - (4 : Int32))), .val (.int ((own_pick (own_up (own_M w0 w1 w2) (own_pick (own_M w0 w1 w2) (own_fr p4)) 0) (own_fr ((p4.toUInt32 >>> ((3 : Int32) &&& 31).toUInt32).toInt32))) - (4 : Int32))), .val (.int ((own_pick (own_up (own_M w0 w1 w2) (own_pick (own_M w0 w1 w2) (own_fr p4)) 0) (own_fr ((p4.toUInt32 >>> ((3 : Int32) &&& 31).toUInt32).toInt32))) - (4 : Int32))), .val (.int ((own_pick (own_up (own_up (own_M w0 w1 w2) (own_pick (own_M w0 w1 w2) (own_fr p4)) 0) (own_pick (own_up (own_M w0 w1 w2) (own_pick (own_M w0 w1 w2) (own_fr p4)) 0) (own_fr ((p4.toUInt32 >>> ((3 : Int32) &&& 31).toUInt32).toInt32))) 0) (own_fr ((p4.toUInt32 >>> ((6 : Int32) &&& 31).toUInt32).toInt32))) - (4 : Int32))), .val (.int ((own_pick (own_up (own_up (own_M w0 w1 w2) (own_pick (own_M w0 w1 w2) (own_fr p4)) 0) (own_pick (own_up (own_M w0 w1 w2) (own_pick (own_M w0 w1 w2) (own_fr p4)) 0) (own_fr ((p4.toUInt32 >>> ((3 : Int32) &&& 31).toUInt32).toInt32))) 0) (own_fr ((p4.toUInt32 >>> ((6 : Int32) &&& 31).toUInt32).toInt32))) - (4 : Int32)))] [(.int ((own_pick (own_M w0 w1 w2) (own_fr p4)) - (4 : Int32))), (.int ((own_pick (own_M w0 w1 w2) (own_fr p4)) - (4 : Int32)))])) _
    refine XS.icmpNo X22.here hx rfl (hb hby at_163) rfl (teq (rfl : (((own_pick (own_M w0 w1 w2) (own_fr p4)) - (4 : Int32)) = ((own_pick (own_M w0 w1 w2) (own_fr p4)) - (4 : Int32))))).2 ?_
    show Steps p.tables e below (T22.setTop (mkF m 166 #[.val (.int p1), .val (.int p2), .val (.int p3), .val (.int p4), .val (.ref b1), .val (.ref b5), .val (.ref b7), .val (.int (p2 &&& (3 : Int32))), .val (.int ((own_pick (own_M w0 w1 w2) (own_fr p4)) - (4 : Int32))), .val (.int ((own_pick (own_M w0 w1 w2) (own_fr p4)) - (4 : Int32))), .val (.int ((own_pick (own_up (own_M w0 w1 w2) (own_pick (own_M w0 w1 w2) (own_fr p4)) 0) (own_fr ((p4.toUInt32 >>> ((3 : Int32) &&& 31).toUInt32).toInt32))) - (4 : Int32))), .val (.int ((own_pick (own_up (own_M w0 w1 w2) (own_pick (own_M w0 w1 w2) (own_fr p4)) 0) (own_fr ((p4.toUInt32 >>> ((3 : Int32) &&& 31).toUInt32).toInt32))) - (4 : Int32))), .val (.int ((own_pick (own_up (own_up (own_M w0 w1 w2) (own_pick (own_M w0 w1 w2) (own_fr p4)) 0) (own_pick (own_up (own_M w0 w1 w2) (own_pick (own_M w0 w1 w2) (own_fr p4)) 0) (own_fr ((p4.toUInt32 >>> ((3 : Int32) &&& 31).toUInt32).toInt32))) 0) (own_fr ((p4.toUInt32 >>> ((6 : Int32) &&& 31).toUInt32).toInt32))) - (4 : Int32))), .val (.int ((own_pick (own_up (own_up (own_M w0 w1 w2) (own_pick (own_M w0 w1 w2) (own_fr p4)) 0) (own_pick (own_up (own_M w0 w1 w2) (own_pick (own_M w0 w1 w2) (own_fr p4)) 0) (own_fr ((p4.toUInt32 >>> ((3 : Int32) &&& 31).toUInt32).toInt32))) 0) (own_fr ((p4.toUInt32 >>> ((6 : Int32) &&& 31).toUInt32).toInt32))) - (4 : Int32)))] [])) _
    refine XS.iload X22.here hx rfl (hb hby at_166) rfl ?_
    show Steps p.tables e below (T22.setTop (mkF m 168 #[.val (.int p1), .val (.int p2), .val (.int p3), .val (.int p4), .val (.ref b1), .val (.ref b5), .val (.ref b7), .val (.int (p2 &&& (3 : Int32))), .val (.int ((own_pick (own_M w0 w1 w2) (own_fr p4)) - (4 : Int32))), .val (.int ((own_pick (own_M w0 w1 w2) (own_fr p4)) - (4 : Int32))), .val (.int ((own_pick (own_up (own_M w0 w1 w2) (own_pick (own_M w0 w1 w2) (own_fr p4)) 0) (own_fr ((p4.toUInt32 >>> ((3 : Int32) &&& 31).toUInt32).toInt32))) - (4 : Int32))), .val (.int ((own_pick (own_up (own_M w0 w1 w2) (own_pick (own_M w0 w1 w2) (own_fr p4)) 0) (own_fr ((p4.toUInt32 >>> ((3 : Int32) &&& 31).toUInt32).toInt32))) - (4 : Int32))), .val (.int ((own_pick (own_up (own_up (own_M w0 w1 w2) (own_pick (own_M w0 w1 w2) (own_fr p4)) 0) (own_pick (own_up (own_M w0 w1 w2) (own_pick (own_M w0 w1 w2) (own_fr p4)) 0) (own_fr ((p4.toUInt32 >>> ((3 : Int32) &&& 31).toUInt32).toInt32))) 0) (own_fr ((p4.toUInt32 >>> ((6 : Int32) &&& 31).toUInt32).toInt32))) - (4 : Int32))), .val (.int ((own_pick (own_up (own_up (own_M w0 w1 w2) (own_pick (own_M w0 w1 w2) (own_fr p4)) 0) (own_pick (own_up (own_M w0 w1 w2) (own_pick (own_M w0 w1 w2) (own_fr p4)) 0) (own_fr ((p4.toUInt32 >>> ((3 : Int32) &&& 31).toUInt32).toInt32))) 0) (own_fr ((p4.toUInt32 >>> ((6 : Int32) &&& 31).toUInt32).toInt32))) - (4 : Int32)))] [(.int ((own_pick (own_up (own_M w0 w1 w2) (own_pick (own_M w0 w1 w2) (own_fr p4)) 0) (own_fr ((p4.toUInt32 >>> ((3 : Int32) &&& 31).toUInt32).toInt32))) - (4 : Int32)))])) _
    refine XS.iload X22.here hx rfl (hb hby at_168) rfl ?_
    show Steps p.tables e below (T22.setTop (mkF m 170 #[.val (.int p1), .val (.int p2), .val (.int p3), .val (.int p4), .val (.ref b1), .val (.ref b5), .val (.ref b7), .val (.int (p2 &&& (3 : Int32))), .val (.int ((own_pick (own_M w0 w1 w2) (own_fr p4)) - (4 : Int32))), .val (.int ((own_pick (own_M w0 w1 w2) (own_fr p4)) - (4 : Int32))), .val (.int ((own_pick (own_up (own_M w0 w1 w2) (own_pick (own_M w0 w1 w2) (own_fr p4)) 0) (own_fr ((p4.toUInt32 >>> ((3 : Int32) &&& 31).toUInt32).toInt32))) - (4 : Int32))), .val (.int ((own_pick (own_up (own_M w0 w1 w2) (own_pick (own_M w0 w1 w2) (own_fr p4)) 0) (own_fr ((p4.toUInt32 >>> ((3 : Int32) &&& 31).toUInt32).toInt32))) - (4 : Int32))), .val (.int ((own_pick (own_up (own_up (own_M w0 w1 w2) (own_pick (own_M w0 w1 w2) (own_fr p4)) 0) (own_pick (own_up (own_M w0 w1 w2) (own_pick (own_M w0 w1 w2) (own_fr p4)) 0) (own_fr ((p4.toUInt32 >>> ((3 : Int32) &&& 31).toUInt32).toInt32))) 0) (own_fr ((p4.toUInt32 >>> ((6 : Int32) &&& 31).toUInt32).toInt32))) - (4 : Int32))), .val (.int ((own_pick (own_up (own_up (own_M w0 w1 w2) (own_pick (own_M w0 w1 w2) (own_fr p4)) 0) (own_pick (own_up (own_M w0 w1 w2) (own_pick (own_M w0 w1 w2) (own_fr p4)) 0) (own_fr ((p4.toUInt32 >>> ((3 : Int32) &&& 31).toUInt32).toInt32))) 0) (own_fr ((p4.toUInt32 >>> ((6 : Int32) &&& 31).toUInt32).toInt32))) - (4 : Int32)))] [(.int ((own_pick (own_up (own_M w0 w1 w2) (own_pick (own_M w0 w1 w2) (own_fr p4)) 0) (own_fr ((p4.toUInt32 >>> ((3 : Int32) &&& 31).toUInt32).toInt32))) - (4 : Int32))), (.int ((own_pick (own_up (own_M w0 w1 w2) (own_pick (own_M w0 w1 w2) (own_fr p4)) 0) (own_fr ((p4.toUInt32 >>> ((3 : Int32) &&& 31).toUInt32).toInt32))) - (4 : Int32)))])) _
    refine XS.icmpNo X22.here hx rfl (hb hby at_170) rfl (teq (rfl : (((own_pick (own_up (own_M w0 w1 w2) (own_pick (own_M w0 w1 w2) (own_fr p4)) 0) (own_fr ((p4.toUInt32 >>> ((3 : Int32) &&& 31).toUInt32).toInt32))) - (4 : Int32)) = ((own_pick (own_up (own_M w0 w1 w2) (own_pick (own_M w0 w1 w2) (own_fr p4)) 0) (own_fr ((p4.toUInt32 >>> ((3 : Int32) &&& 31).toUInt32).toInt32))) - (4 : Int32))))).2 ?_
    show Steps p.tables e below (T22.setTop (mkF m 173 #[.val (.int p1), .val (.int p2), .val (.int p3), .val (.int p4), .val (.ref b1), .val (.ref b5), .val (.ref b7), .val (.int (p2 &&& (3 : Int32))), .val (.int ((own_pick (own_M w0 w1 w2) (own_fr p4)) - (4 : Int32))), .val (.int ((own_pick (own_M w0 w1 w2) (own_fr p4)) - (4 : Int32))), .val (.int ((own_pick (own_up (own_M w0 w1 w2) (own_pick (own_M w0 w1 w2) (own_fr p4)) 0) (own_fr ((p4.toUInt32 >>> ((3 : Int32) &&& 31).toUInt32).toInt32))) - (4 : Int32))), .val (.int ((own_pick (own_up (own_M w0 w1 w2) (own_pick (own_M w0 w1 w2) (own_fr p4)) 0) (own_fr ((p4.toUInt32 >>> ((3 : Int32) &&& 31).toUInt32).toInt32))) - (4 : Int32))), .val (.int ((own_pick (own_up (own_up (own_M w0 w1 w2) (own_pick (own_M w0 w1 w2) (own_fr p4)) 0) (own_pick (own_up (own_M w0 w1 w2) (own_pick (own_M w0 w1 w2) (own_fr p4)) 0) (own_fr ((p4.toUInt32 >>> ((3 : Int32) &&& 31).toUInt32).toInt32))) 0) (own_fr ((p4.toUInt32 >>> ((6 : Int32) &&& 31).toUInt32).toInt32))) - (4 : Int32))), .val (.int ((own_pick (own_up (own_up (own_M w0 w1 w2) (own_pick (own_M w0 w1 w2) (own_fr p4)) 0) (own_pick (own_up (own_M w0 w1 w2) (own_pick (own_M w0 w1 w2) (own_fr p4)) 0) (own_fr ((p4.toUInt32 >>> ((3 : Int32) &&& 31).toUInt32).toInt32))) 0) (own_fr ((p4.toUInt32 >>> ((6 : Int32) &&& 31).toUInt32).toInt32))) - (4 : Int32)))] [])) _
    refine XS.iload X22.here hx rfl (hb hby at_173) rfl ?_
    show Steps p.tables e below (T22.setTop (mkF m 175 #[.val (.int p1), .val (.int p2), .val (.int p3), .val (.int p4), .val (.ref b1), .val (.ref b5), .val (.ref b7), .val (.int (p2 &&& (3 : Int32))), .val (.int ((own_pick (own_M w0 w1 w2) (own_fr p4)) - (4 : Int32))), .val (.int ((own_pick (own_M w0 w1 w2) (own_fr p4)) - (4 : Int32))), .val (.int ((own_pick (own_up (own_M w0 w1 w2) (own_pick (own_M w0 w1 w2) (own_fr p4)) 0) (own_fr ((p4.toUInt32 >>> ((3 : Int32) &&& 31).toUInt32).toInt32))) - (4 : Int32))), .val (.int ((own_pick (own_up (own_M w0 w1 w2) (own_pick (own_M w0 w1 w2) (own_fr p4)) 0) (own_fr ((p4.toUInt32 >>> ((3 : Int32) &&& 31).toUInt32).toInt32))) - (4 : Int32))), .val (.int ((own_pick (own_up (own_up (own_M w0 w1 w2) (own_pick (own_M w0 w1 w2) (own_fr p4)) 0) (own_pick (own_up (own_M w0 w1 w2) (own_pick (own_M w0 w1 w2) (own_fr p4)) 0) (own_fr ((p4.toUInt32 >>> ((3 : Int32) &&& 31).toUInt32).toInt32))) 0) (own_fr ((p4.toUInt32 >>> ((6 : Int32) &&& 31).toUInt32).toInt32))) - (4 : Int32))), .val (.int ((own_pick (own_up (own_up (own_M w0 w1 w2) (own_pick (own_M w0 w1 w2) (own_fr p4)) 0) (own_pick (own_up (own_M w0 w1 w2) (own_pick (own_M w0 w1 w2) (own_fr p4)) 0) (own_fr ((p4.toUInt32 >>> ((3 : Int32) &&& 31).toUInt32).toInt32))) 0) (own_fr ((p4.toUInt32 >>> ((6 : Int32) &&& 31).toUInt32).toInt32))) - (4 : Int32)))] [(.int ((own_pick (own_up (own_up (own_M w0 w1 w2) (own_pick (own_M w0 w1 w2) (own_fr p4)) 0) (own_pick (own_up (own_M w0 w1 w2) (own_pick (own_M w0 w1 w2) (own_fr p4)) 0) (own_fr ((p4.toUInt32 >>> ((3 : Int32) &&& 31).toUInt32).toInt32))) 0) (own_fr ((p4.toUInt32 >>> ((6 : Int32) &&& 31).toUInt32).toInt32))) - (4 : Int32)))])) _
    refine XS.iload X22.here hx rfl (hb hby at_175) rfl ?_
    show Steps p.tables e below (T22.setTop (mkF m 177 #[.val (.int p1), .val (.int p2), .val (.int p3), .val (.int p4), .val (.ref b1), .val (.ref b5), .val (.ref b7), .val (.int (p2 &&& (3 : Int32))), .val (.int ((own_pick (own_M w0 w1 w2) (own_fr p4)) - (4 : Int32))), .val (.int ((own_pick (own_M w0 w1 w2) (own_fr p4)) - (4 : Int32))), .val (.int ((own_pick (own_up (own_M w0 w1 w2) (own_pick (own_M w0 w1 w2) (own_fr p4)) 0) (own_fr ((p4.toUInt32 >>> ((3 : Int32) &&& 31).toUInt32).toInt32))) - (4 : Int32))), .val (.int ((own_pick (own_up (own_M w0 w1 w2) (own_pick (own_M w0 w1 w2) (own_fr p4)) 0) (own_fr ((p4.toUInt32 >>> ((3 : Int32) &&& 31).toUInt32).toInt32))) - (4 : Int32))), .val (.int ((own_pick (own_up (own_up (own_M w0 w1 w2) (own_pick (own_M w0 w1 w2) (own_fr p4)) 0) (own_pick (own_up (own_M w0 w1 w2) (own_pick (own_M w0 w1 w2) (own_fr p4)) 0) (own_fr ((p4.toUInt32 >>> ((3 : Int32) &&& 31).toUInt32).toInt32))) 0) (own_fr ((p4.toUInt32 >>> ((6 : Int32) &&& 31).toUInt32).toInt32))) - (4 : Int32))), .val (.int ((own_pick (own_up (own_up (own_M w0 w1 w2) (own_pick (own_M w0 w1 w2) (own_fr p4)) 0) (own_pick (own_up (own_M w0 w1 w2) (own_pick (own_M w0 w1 w2) (own_fr p4)) 0) (own_fr ((p4.toUInt32 >>> ((3 : Int32) &&& 31).toUInt32).toInt32))) 0) (own_fr ((p4.toUInt32 >>> ((6 : Int32) &&& 31).toUInt32).toInt32))) - (4 : Int32)))] [(.int ((own_pick (own_up (own_up (own_M w0 w1 w2) (own_pick (own_M w0 w1 w2) (own_fr p4)) 0) (own_pick (own_up (own_M w0 w1 w2) (own_pick (own_M w0 w1 w2) (own_fr p4)) 0) (own_fr ((p4.toUInt32 >>> ((3 : Int32) &&& 31).toUInt32).toInt32))) 0) (own_fr ((p4.toUInt32 >>> ((6 : Int32) &&& 31).toUInt32).toInt32))) - (4 : Int32))), (.int ((own_pick (own_up (own_up (own_M w0 w1 w2) (own_pick (own_M w0 w1 w2) (own_fr p4)) 0) (own_pick (own_up (own_M w0 w1 w2) (own_pick (own_M w0 w1 w2) (own_fr p4)) 0) (own_fr ((p4.toUInt32 >>> ((3 : Int32) &&& 31).toUInt32).toInt32))) 0) (own_fr ((p4.toUInt32 >>> ((6 : Int32) &&& 31).toUInt32).toInt32))) - (4 : Int32)))])) _
    refine XS.icmpNo X22.here hx rfl (hb hby at_177) rfl (teq (rfl : (((own_pick (own_up (own_up (own_M w0 w1 w2) (own_pick (own_M w0 w1 w2) (own_fr p4)) 0) (own_pick (own_up (own_M w0 w1 w2) (own_pick (own_M w0 w1 w2) (own_fr p4)) 0) (own_fr ((p4.toUInt32 >>> ((3 : Int32) &&& 31).toUInt32).toInt32))) 0) (own_fr ((p4.toUInt32 >>> ((6 : Int32) &&& 31).toUInt32).toInt32))) - (4 : Int32)) = ((own_pick (own_up (own_up (own_M w0 w1 w2) (own_pick (own_M w0 w1 w2) (own_fr p4)) 0) (own_pick (own_up (own_M w0 w1 w2) (own_pick (own_M w0 w1 w2) (own_fr p4)) 0) (own_fr ((p4.toUInt32 >>> ((3 : Int32) &&& 31).toUInt32).toInt32))) 0) (own_fr ((p4.toUInt32 >>> ((6 : Int32) &&& 31).toUInt32).toInt32))) - (4 : Int32))))).2 ?_
    show Steps p.tables e below (T22.setTop (mkF m 180 #[.val (.int p1), .val (.int p2), .val (.int p3), .val (.int p4), .val (.ref b1), .val (.ref b5), .val (.ref b7), .val (.int (p2 &&& (3 : Int32))), .val (.int ((own_pick (own_M w0 w1 w2) (own_fr p4)) - (4 : Int32))), .val (.int ((own_pick (own_M w0 w1 w2) (own_fr p4)) - (4 : Int32))), .val (.int ((own_pick (own_up (own_M w0 w1 w2) (own_pick (own_M w0 w1 w2) (own_fr p4)) 0) (own_fr ((p4.toUInt32 >>> ((3 : Int32) &&& 31).toUInt32).toInt32))) - (4 : Int32))), .val (.int ((own_pick (own_up (own_M w0 w1 w2) (own_pick (own_M w0 w1 w2) (own_fr p4)) 0) (own_fr ((p4.toUInt32 >>> ((3 : Int32) &&& 31).toUInt32).toInt32))) - (4 : Int32))), .val (.int ((own_pick (own_up (own_up (own_M w0 w1 w2) (own_pick (own_M w0 w1 w2) (own_fr p4)) 0) (own_pick (own_up (own_M w0 w1 w2) (own_pick (own_M w0 w1 w2) (own_fr p4)) 0) (own_fr ((p4.toUInt32 >>> ((3 : Int32) &&& 31).toUInt32).toInt32))) 0) (own_fr ((p4.toUInt32 >>> ((6 : Int32) &&& 31).toUInt32).toInt32))) - (4 : Int32))), .val (.int ((own_pick (own_up (own_up (own_M w0 w1 w2) (own_pick (own_M w0 w1 w2) (own_fr p4)) 0) (own_pick (own_up (own_M w0 w1 w2) (own_pick (own_M w0 w1 w2) (own_fr p4)) 0) (own_fr ((p4.toUInt32 >>> ((3 : Int32) &&& 31).toUInt32).toInt32))) 0) (own_fr ((p4.toUInt32 >>> ((6 : Int32) &&& 31).toUInt32).toInt32))) - (4 : Int32)))] [])) _
    refine XS.iconst X22.here hx rfl (hb hby at_180) ?_
    show Steps p.tables e below (T22.setTop (mkF m 181 #[.val (.int p1), .val (.int p2), .val (.int p3), .val (.int p4), .val (.ref b1), .val (.ref b5), .val (.ref b7), .val (.int (p2 &&& (3 : Int32))), .val (.int ((own_pick (own_M w0 w1 w2) (own_fr p4)) - (4 : Int32))), .val (.int ((own_pick (own_M w0 w1 w2) (own_fr p4)) - (4 : Int32))), .val (.int ((own_pick (own_up (own_M w0 w1 w2) (own_pick (own_M w0 w1 w2) (own_fr p4)) 0) (own_fr ((p4.toUInt32 >>> ((3 : Int32) &&& 31).toUInt32).toInt32))) - (4 : Int32))), .val (.int ((own_pick (own_up (own_M w0 w1 w2) (own_pick (own_M w0 w1 w2) (own_fr p4)) 0) (own_fr ((p4.toUInt32 >>> ((3 : Int32) &&& 31).toUInt32).toInt32))) - (4 : Int32))), .val (.int ((own_pick (own_up (own_up (own_M w0 w1 w2) (own_pick (own_M w0 w1 w2) (own_fr p4)) 0) (own_pick (own_up (own_M w0 w1 w2) (own_pick (own_M w0 w1 w2) (own_fr p4)) 0) (own_fr ((p4.toUInt32 >>> ((3 : Int32) &&& 31).toUInt32).toInt32))) 0) (own_fr ((p4.toUInt32 >>> ((6 : Int32) &&& 31).toUInt32).toInt32))) - (4 : Int32))), .val (.int ((own_pick (own_up (own_up (own_M w0 w1 w2) (own_pick (own_M w0 w1 w2) (own_fr p4)) 0) (own_pick (own_up (own_M w0 w1 w2) (own_pick (own_M w0 w1 w2) (own_fr p4)) 0) (own_fr ((p4.toUInt32 >>> ((3 : Int32) &&& 31).toUInt32).toInt32))) 0) (own_fr ((p4.toUInt32 >>> ((6 : Int32) &&& 31).toUInt32).toInt32))) - (4 : Int32)))] [(.int (1 : Int32))])) _
    refine XS.goto X22.here hx rfl (pc0 := 181) (pc' := 185) rfl (hb hby at_181) (by decide) (by decide) ?_
    show Steps p.tables e below (T22.setTop (mkF m 185 #[.val (.int p1), .val (.int p2), .val (.int p3), .val (.int p4), .val (.ref b1), .val (.ref b5), .val (.ref b7), .val (.int (p2 &&& (3 : Int32))), .val (.int ((own_pick (own_M w0 w1 w2) (own_fr p4)) - (4 : Int32))), .val (.int ((own_pick (own_M w0 w1 w2) (own_fr p4)) - (4 : Int32))), .val (.int ((own_pick (own_up (own_M w0 w1 w2) (own_pick (own_M w0 w1 w2) (own_fr p4)) 0) (own_fr ((p4.toUInt32 >>> ((3 : Int32) &&& 31).toUInt32).toInt32))) - (4 : Int32))), .val (.int ((own_pick (own_up (own_M w0 w1 w2) (own_pick (own_M w0 w1 w2) (own_fr p4)) 0) (own_fr ((p4.toUInt32 >>> ((3 : Int32) &&& 31).toUInt32).toInt32))) - (4 : Int32))), .val (.int ((own_pick (own_up (own_up (own_M w0 w1 w2) (own_pick (own_M w0 w1 w2) (own_fr p4)) 0) (own_pick (own_up (own_M w0 w1 w2) (own_pick (own_M w0 w1 w2) (own_fr p4)) 0) (own_fr ((p4.toUInt32 >>> ((3 : Int32) &&& 31).toUInt32).toInt32))) 0) (own_fr ((p4.toUInt32 >>> ((6 : Int32) &&& 31).toUInt32).toInt32))) - (4 : Int32))), .val (.int ((own_pick (own_up (own_up (own_M w0 w1 w2) (own_pick (own_M w0 w1 w2) (own_fr p4)) 0) (own_pick (own_up (own_M w0 w1 w2) (own_pick (own_M w0 w1 w2) (own_fr p4)) 0) (own_fr ((p4.toUInt32 >>> ((3 : Int32) &&& 31).toUInt32).toInt32))) 0) (own_fr ((p4.toUInt32 >>> ((6 : Int32) &&& 31).toUInt32).toInt32))) - (4 : Int32)))] [(.int (1 : Int32))])) _
    exact retN X22 hx (t := .boolean) Bd.returns (by simp) (hb hby at_185) hr
  · show Q_rm0 Z p1 p2 p3 p4 h0 n0 _ T22.heap _
    exact ⟨rfl, N22⟩
set_option maxRecDepth 65536 in
set_option maxHeartbeats 40000000 in
theorem comes_1 {Post : Tables → Env → Array Value → State → Outcome → State → Prop} (hpost : ∀ tb e args s v u, (limb_1_1.after args s (.returned v) u = true ∧ limb_1_2.after args s (.returned v) u = true ∧ True) → FrameEnd s (.returned v) u (Jvm.fieldLocs frame_1_writes args s ++ Jvm.arrayLocs frame_1_arrays args s ++ Jvm.staticLocs frame_1_statics s) 32 640 → Post tb e args s (.returned v) u) :
    ArmFor flags0 classFile x code maxLocals ret World_1 tables_1 room_1 Calls_1 rest_1 Pre_1 Post := by
  intro l hfl _ _ p e ha hc hk s m args below hf hA hF happ hP
  obtain ⟨hcalls, hrest, hpre⟩ := hP
  obtain ⟨-, -, -, hnamed, -, -, -, hat⟩ := (Spec.applies_iff hf).mp happ
  obtain ⟨hg, hn⟩ := and_e (Cond.before_iff.mp (show (Jvm.Cond.and given_1 narrow_1).before args s = true from hpre))
  obtain ⟨g0, gr0⟩ := and_e hg
  obtain ⟨ga0, gr1⟩ := and_e gr0
  obtain ⟨ga1, gr2⟩ := and_e gr1
  obtain ⟨ga2, gr3⟩ := and_e gr2
  obtain ⟨w0, w1, w2, w3, rfl⟩ : ∃ w0 w1 w2 w3 : Value, args = #[w0, w1, w2, w3] := by
    have hs : args.size = 4 := by simpa [Cond.value, given_1] using g0
    obtain ⟨L⟩ := args
    match L, hs with
    | [w0, w1, w2, w3], _ => exact ⟨w0, w1, w2, w3, rfl⟩
  have hw := fun d (hd : d ∈ tables_1) => atoms_spec (ws := Jvm.Cond.code x code maxLocals ret :: tables_1) hat d (List.mem_cons_of_mem _ hd)
  have hfit : Fit s := fun {y c} hc i hi => by
    obtain ⟨ha, rfl⟩ := Array.getElem?_eq_some_iff.mp hc
    have q := List.all_eq_true.mp ((Array.all_eq_true_iff_forall_mem.mp hF) _ (Array.getElem_mem ha)) i (List.mem_range.mpr hi)
    simpa [Array.getElem?_eq_getElem hi] using q
  obtain ⟨i0, ei0⟩ := is_v ga0
  obtain rfl : w0 = (.int i0) := Option.some.inj ei0
  obtain ⟨i1, ei1⟩ := is_v ga1
  obtain rfl : w1 = (.int i1) := Option.some.inj ei1
  obtain ⟨i2, ei2⟩ := is_v ga2
  obtain rfl : w2 = (.int i2) := Option.some.inj ei2
  obtain ⟨i3, ei3⟩ := is_v gr3
  obtain rfl : w3 = (.int i3) := Option.some.inj ei3
  obtain ⟨n, o, h1, h2, h3, _, L, rfl, ⟨rfl, N⟩, hq⟩ := rm0 l s _ hw tables_1 i0 i1 i2 i3 s.heap s.heap.size (Nat.le_refl _) p e ha hc hk s m _ below hf ((Spec.applies_iff_loose hf).mp happ).1 ⟨rfl, State.Warmed39.refl s, rfl⟩ trivial
  refine ⟨n, _, h1, h2, h3, hpost _ _ _ _ _ _ ⟨Cond.after_iff.mpr rfl, Cond.after_iff.mpr (eq_i res_at (Term.int_eval (1)) rfl), trivial⟩ ⟨hq.1, hq.2.1, (hq.2.2.sift fun y hy => Or.inr (N y hy)).mono (by decide) (by decide)⟩⟩
theorem main_1_1 : Claimed_1_1 := comes_1 fun _ _ _ _ _ _ h hF => ⟨h.1, hF⟩
theorem main_1_2 : Claimed_1_2 := comes_1 fun _ _ _ _ _ _ h hF => ⟨h.2.1, hF⟩
end Jvm.Pilot.@@N@@
namespace Jvm.Pilot.@@N@@
open Jvm Jvm.ClassFile Sem Op Lib Jvm.Free Jvm.Stand Jvm.Pilot.@@N@@.Jvm.D
/-! MADE BY PROGRAM (witnessworld.py) out of the Statement's table words and the real class files: 17 classes; the members and pool entries that the words name. The judged class is class 1, her method 3. -/
namespace start1
open Jvm.ClassFile
def u (s : String) : CpInfo := .utf8 (stringToUtf16 s)
/-- a pool by its gaps: so many unusable entries, then the entry; so many at the end -/
def gap : Nat → List CpInfo → List CpInfo
  | 0, r => r
  | n + 1, r => .unusable :: gap n r
def poolList (es : List (Nat × CpInfo)) (last : Nat) : List CpInfo := es.foldr (fun e r => gap e.1 (e.2 :: r)) (gap last [])
def pool (es : List (Nat × CpInfo)) (last : Nat) : Array CpInfo := ⟨poolList es last⟩
def fileOf (pool : Array CpInfo) (this : Nat) (attrs : Array Attribute := #[]) (ms : Array MethodInfo := #[]) (fl : Nat := 33) (sup : Nat := 0) (ifs : Array Nat := #[]) (fds : Array FieldInfo := #[]) : ClassFile where
  minorVersion := 0
  majorVersion := 65
  constantPool := pool
  accessFlags := fl
  thisClass := this
  superClass := sup
  interfaces := ifs
  fields := fds
  methods := ms
  attributes := attrs
def plain (name : String) (sup : Option ClassId) : Class where
  name := name
  kind := .ordinary
  loader := none
  accessFlags := 33
  super := sup
  interfaces := #[]
  cf := none
  fields := #[]
  methods := #[]
  instanceTypes := #[]
  staticTypes := #[]
  resolved := #[]
  callSites := []
  init := .initialized
  statics := none
  mirror := none

def pool0 : Array CpInfo := pool [(5, u "<init>"), (0, u "()V"), (1, .class_ 10), (1, u "java/lang/Object")] 113

def k0c0 : Code := { maxStack := 0, maxLocals := 1, code := object_method_1_code, exceptionTable := #[], attributes := #[] }
def k0m0 : Method := { name := "<init>", desc := "()V", sig := { parameters := [], returnType := none }, accessFlags := 1, code := some k0c0 }
/-- java/lang/Object -/
def k0 : Class := { plain "java/lang/Object" none with
  accessFlags := 33
  interfaces := #[]
  cf := some (fileOf pool0 8 #[] #[{ accessFlags := 1, nameIndex := 5, descriptorIndex := 6, attributes := #[] }] 33 0 #[] #[])
  fields := #[]
  methods := #[k0m0]
  instanceTypes := #[]
  staticTypes := #[]
  resolved := Array.replicate 124 none
  statics := none }

def pool1 : Array CpInfo := pool [(2, .class_ 4), (1, u "java/lang/Object"), (0, u "<init>"), (0, u "()V"), (0, .double 4620693217682128896), (1, .methodref 10 11), (0, .class_ 12), (0, .nameAndType 13 14), (0, u "com/example/velar/velar/WeightedDrawsPutBackPinLaw"), (0, u "frac"), (0, u "(I)D"), (0, .methodref 16 17), (0, .class_ 18), (0, .nameAndType 19 20), (0, u "com/example/velar/velar/WeightedDraws"), (0, u "draw"), (0, u "(D)I"), (0, .methodref 16 22), (0, .nameAndType 5 23), (0, u "([D)V"), (0, .methodref 10 25), (0, .nameAndType 26 27), (0, u "drawSome"), (0, u "(Lcom/example/velar/velar/WeightedDraws;II)V"), (0, .methodref 16 29), (0, .nameAndType 30 6), (0, u "putBack"), (3, u "law"), (0, u "(IIII)Z")] 4

def k1m0 : Method := { name := "<init>", desc := "()V", sig := { parameters := [], returnType := none }, accessFlags := 1, code := none }
def k1c1 : Code := { maxStack := 4, maxLocals := 1, code := method_2_code, exceptionTable := #[], attributes := #[] }
def k1m1 : Method := { name := "frac", desc := "(I)D", sig := { parameters := [.int], returnType := some .double }, accessFlags := 10, code := some k1c1 }
def k1c2 : Code := { maxStack := 3, maxLocals := 3, code := method_3_code, exceptionTable := #[], attributes := #[] }
def k1m2 : Method := { name := "drawSome", desc := "(Lcom/example/velar/velar/WeightedDraws;II)V", sig := { parameters := [(.object "com/example/velar/velar/WeightedDraws"), .int, .int], returnType := none }, accessFlags := 10, code := some k1c2 }
def k1c3 : Code := { maxStack := 5, maxLocals := 14, code := code, exceptionTable := #[], attributes := #[] }
def k1m3 : Method := { name := "law", desc := "(IIII)Z", sig := { parameters := [.int, .int, .int, .int], returnType := some .boolean }, accessFlags := 9, code := some k1c3 }
/-- com/example/velar/velar/WeightedDrawsPutBackPinLaw -/
def k1 : Class := { plain "com/example/velar/velar/WeightedDrawsPutBackPinLaw" (some 0) with
  accessFlags := 49
  interfaces := #[]
  cf := some (fileOf pool1 10 #[] #[{ accessFlags := 1, nameIndex := 5, descriptorIndex := 6, attributes := #[] }, { accessFlags := 10, nameIndex := 13, descriptorIndex := 14, attributes := #[] }, { accessFlags := 10, nameIndex := 26, descriptorIndex := 27, attributes := #[] }, { accessFlags := 9, nameIndex := 34, descriptorIndex := 35, attributes := #[] }] 49 2 #[] #[])
  fields := #[]
  methods := #[k1m0, k1m1, k1m2, k1m3]
  instanceTypes := #[]
  staticTypes := #[]
  resolved := Array.replicate 40 none
  statics := none }

def pool2 : Array CpInfo := pool [(1, .methodref 2 3), (0, .class_ 4), (0, .nameAndType 5 6), (0, u "java/lang/Object"), (0, u "<init>"), (0, u "()V"), (0, .fieldref 8 9), (0, .class_ 10), (0, .nameAndType 11 12), (0, u "com/example/velar/velar/WeightedDraws"), (0, u "drawn"), (0, u "[I"), (0, .fieldref 8 14), (0, .nameAndType 15 16), (0, u "drawnWeights"), (0, u "[D"), (0, .methodref 18 19), (0, .class_ 20), (0, .nameAndType 21 22), (0, u "java/lang/Integer"), (0, u "highestOneBit"), (0, u "(I)I"), (0, .fieldref 8 24), (0, .nameAndType 25 26), (0, u "leaves"), (0, u "I"), (0, .fieldref 8 28), (0, .nameAndType 29 16), (0, u "sums"), (0, .methodref 31 32), (0, .class_ 33), (0, .nameAndType 34 35), (0, u "java/lang/System"), (0, u "arraycopy"), (0, u "(Ljava/lang/Object;ILjava/lang/Object;II)V"), (0, .fieldref 8 37), (0, .nameAndType 38 26), (0, u "drawnCount"), (9, .methodref 8 49), (0, .nameAndType 50 51), (0, u "set"), (0, u "(ID)V"), (0, u "([D)V"), (4, u "draw"), (0, u "(D)I"), (0, u "putBack")] 2

def k2c0 : Code := { maxStack := 7, maxLocals := 4, code := prog_28_method_1_code, exceptionTable := #[], attributes := #[] }
def k2m0 : Method := { name := "<init>", desc := "([D)V", sig := { parameters := [(.array .double)], returnType := none }, accessFlags := 0, code := some k2c0 }
def k2c1 : Code := { maxStack := 4, maxLocals := 8, code := prog_28_method_2_code, exceptionTable := #[], attributes := #[] }
def k2m1 : Method := { name := "draw", desc := "(D)I", sig := { parameters := [.double], returnType := some .int }, accessFlags := 0, code := some k2c1 }
def k2c2 : Code := { maxStack := 4, maxLocals := 2, code := prog_28_method_3_code, exceptionTable := #[], attributes := #[] }
def k2m2 : Method := { name := "putBack", desc := "()V", sig := { parameters := [], returnType := none }, accessFlags := 0, code := some k2c2 }
def k2c3 : Code := { maxStack := 7, maxLocals := 5, code := prog_28_method_4_code, exceptionTable := #[], attributes := #[] }
def k2m3 : Method := { name := "set", desc := "(ID)V", sig := { parameters := [.int, .double], returnType := none }, accessFlags := 2, code := some k2c3 }
/-- com/example/velar/velar/WeightedDraws -/
def k2 : Class := { plain "com/example/velar/velar/WeightedDraws" (some 0) with
  accessFlags := 48
  interfaces := #[]
  cf := some (fileOf pool2 8 #[] #[{ accessFlags := 0, nameIndex := 5, descriptorIndex := 52, attributes := #[] }, { accessFlags := 0, nameIndex := 57, descriptorIndex := 58, attributes := #[] }, { accessFlags := 0, nameIndex := 59, descriptorIndex := 6, attributes := #[] }, { accessFlags := 2, nameIndex := 50, descriptorIndex := 51, attributes := #[] }] 48 2 #[] #[{ accessFlags := 18, nameIndex := 25, descriptorIndex := 26, attributes := #[] }, { accessFlags := 18, nameIndex := 29, descriptorIndex := 16, attributes := #[] }, { accessFlags := 2, nameIndex := 11, descriptorIndex := 12, attributes := #[] }, { accessFlags := 2, nameIndex := 15, descriptorIndex := 16, attributes := #[] }, { accessFlags := 2, nameIndex := 38, descriptorIndex := 26, attributes := #[] }])
  fields := #[{ name := "leaves", type := .int, accessFlags := 18, slot := 0, constantValue := 0 }, { name := "sums", type := (.array .double), accessFlags := 18, slot := 1, constantValue := 0 }, { name := "drawn", type := (.array .int), accessFlags := 2, slot := 2, constantValue := 0 }, { name := "drawnWeights", type := (.array .double), accessFlags := 2, slot := 3, constantValue := 0 }, { name := "drawnCount", type := .int, accessFlags := 2, slot := 4, constantValue := 0 }]
  methods := #[k2m0, k2m1, k2m2, k2m3]
  instanceTypes := #[.int, (.array .double), (.array .int), (.array .double), .int]
  staticTypes := #[]
  resolved := Array.replicate 62 none
  statics := none }

def pool3 : Array CpInfo := pool [(1, .class_ 2), (0, u "java/io/Serializable"), (0, .class_ 4), (0, u "java/lang/Object")] 2

/-- java/io/Serializable -/
def k3 : Class := { plain "java/io/Serializable" (some 0) with
  accessFlags := 1537
  interfaces := #[]
  cf := some (fileOf pool3 1 #[] #[] 1537 3 #[] #[])
  fields := #[]
  methods := #[]
  instanceTypes := #[]
  staticTypes := #[]
  resolved := Array.replicate 7 none
  statics := none }

def pool4 : Array CpInfo := pool [(2, .class_ 4), (1, u "java/lang/Object"), (0, u "<init>"), (0, u "()V"), (1, .class_ 10), (1, u "java/lang/Number"), (2, .class_ 14), (0, u "java/io/Serializable"), (0, u "serialVersionUID"), (0, u "J")] 20

def k4m0 : Method := { name := "<init>", desc := "()V", sig := { parameters := [], returnType := none }, accessFlags := 1, code := none }
/-- java/lang/Number -/
def k4 : Class := { plain "java/lang/Number" (some 0) with
  accessFlags := 1057
  interfaces := #[3]
  cf := some (fileOf pool4 8 #[] #[{ accessFlags := 1, nameIndex := 5, descriptorIndex := 6, attributes := #[] }] 1057 2 #[13] #[{ accessFlags := 26, nameIndex := 15, descriptorIndex := 16, attributes := #[] }])
  fields := #[{ name := "serialVersionUID", type := .long, accessFlags := 26, slot := 0, constantValue := 0 }]
  methods := #[k4m0]
  instanceTypes := #[]
  staticTypes := #[.long]
  resolved := Array.replicate 37 none
  statics := none }

def pool5 : Array CpInfo := pool [(1, .class_ 2), (0, u "java/lang/Comparable"), (0, .class_ 4), (0, u "java/lang/Object")] 7

/-- java/lang/Comparable -/
def k5 : Class := { plain "java/lang/Comparable" (some 0) with
  accessFlags := 1537
  interfaces := #[]
  cf := some (fileOf pool5 1 #[] #[] 1537 3 #[] #[])
  fields := #[]
  methods := #[]
  instanceTypes := #[]
  staticTypes := #[]
  resolved := Array.replicate 12 none
  statics := none }

def pool6 : Array CpInfo := pool [(1, .class_ 2), (0, u "java/lang/constant/Constable"), (0, .class_ 4), (0, u "java/lang/Object")] 6

/-- java/lang/constant/Constable -/
def k6 : Class := { plain "java/lang/constant/Constable" (some 0) with
  accessFlags := 1537
  interfaces := #[]
  cf := some (fileOf pool6 1 #[] #[] 1537 3 #[] #[])
  fields := #[]
  methods := #[]
  instanceTypes := #[]
  staticTypes := #[]
  resolved := Array.replicate 11 none
  statics := none }

def pool7 : Array CpInfo := pool [(1, .class_ 2), (0, u "java/lang/constant/ConstantDesc"), (0, .class_ 4), (0, u "java/lang/Object")] 32

/-- java/lang/constant/ConstantDesc -/
def k7 : Class := { plain "java/lang/constant/ConstantDesc" (some 0) with
  accessFlags := 1537
  interfaces := #[]
  cf := some (fileOf pool7 1 #[] #[] 1537 3 #[] #[])
  fields := #[]
  methods := #[]
  instanceTypes := #[]
  staticTypes := #[]
  resolved := Array.replicate 37 none
  statics := none }

def pool8 : Array CpInfo := pool [(1, .class_ 2), (0, u "java/lang/Integer"), (16, u "digits"), (0, u "[C"), (30, .methodref 1 52), (0, .nameAndType 53 54), (0, u "numberOfLeadingZeros"), (0, u "(I)I"), (30, u "DigitOnes"), (0, u "[B"), (2, u "DigitTens"), (37, .integer 2147483648), (61, .class_ 190), (0, u "java/lang/Integer$IntegerCache"), (3, u "I"), (8, .class_ 204), (0, u "java/lang/Number"), (2, u "value"), (56, .integer 65536), (37, u "TYPE"), (0, u "Ljava/lang/Class;"), (0, .class_ 305), (0, u "java/lang/Comparable"), (0, .class_ 307), (0, u "java/lang/constant/Constable"), (0, .class_ 309), (0, u "java/lang/constant/ConstantDesc"), (0, u "MIN_VALUE"), (1, u "MAX_VALUE"), (3, u "SIZE"), (1, u "BYTES"), (1, u "serialVersionUID"), (0, u "J"), (81, u "highestOneBit")] 49

def k8c0 : Code := { maxStack := 3, maxLocals := 1, code := jdk_33_method_45_code, exceptionTable := #[], attributes := #[] }
def k8m0 : Method := { name := "highestOneBit", desc := "(I)I", sig := { parameters := [.int], returnType := some .int }, accessFlags := 9, code := some k8c0 }
def k8c1 : Code := { maxStack := 3, maxLocals := 2, code := jdk_33_method_47_code, exceptionTable := #[], attributes := #[] }
def k8m1 : Method := { name := "numberOfLeadingZeros", desc := "(I)I", sig := { parameters := [.int], returnType := some .int }, accessFlags := 9, code := some k8c1 }
/-- java/lang/Integer -/
def k8 : Class := { plain "java/lang/Integer" (some 4) with
  accessFlags := 49
  interfaces := #[5, 6, 7]
  cf := some (fileOf pool8 1 #[.nestMembers #[189]] #[{ accessFlags := 9, nameIndex := 403, descriptorIndex := 54, attributes := #[] }, { accessFlags := 9, nameIndex := 53, descriptorIndex := 54, attributes := #[] }] 49 203 #[304, 306, 308] #[{ accessFlags := 25, nameIndex := 310, descriptorIndex := 194, attributes := #[] }, { accessFlags := 25, nameIndex := 312, descriptorIndex := 194, attributes := #[] }, { accessFlags := 25, nameIndex := 302, descriptorIndex := 303, attributes := #[] }, { accessFlags := 24, nameIndex := 19, descriptorIndex := 20, attributes := #[] }, { accessFlags := 24, nameIndex := 89, descriptorIndex := 86, attributes := #[] }, { accessFlags := 24, nameIndex := 85, descriptorIndex := 86, attributes := #[] }, { accessFlags := 18, nameIndex := 207, descriptorIndex := 194, attributes := #[] }, { accessFlags := 25, nameIndex := 316, descriptorIndex := 194, attributes := #[] }, { accessFlags := 25, nameIndex := 318, descriptorIndex := 194, attributes := #[] }, { accessFlags := 26, nameIndex := 320, descriptorIndex := 321, attributes := #[] }])
  fields := #[{ name := "MIN_VALUE", type := .int, accessFlags := 25, slot := 0, constantValue := 0 }, { name := "MAX_VALUE", type := .int, accessFlags := 25, slot := 1, constantValue := 0 }, { name := "TYPE", type := (.object "java/lang/Class"), accessFlags := 25, slot := 2, constantValue := 0 }, { name := "digits", type := (.array .char), accessFlags := 24, slot := 3, constantValue := 0 }, { name := "DigitTens", type := (.array .byte), accessFlags := 24, slot := 4, constantValue := 0 }, { name := "DigitOnes", type := (.array .byte), accessFlags := 24, slot := 5, constantValue := 0 }, { name := "value", type := .int, accessFlags := 18, slot := 0, constantValue := 0 }, { name := "SIZE", type := .int, accessFlags := 25, slot := 6, constantValue := 0 }, { name := "BYTES", type := .int, accessFlags := 25, slot := 7, constantValue := 0 }, { name := "serialVersionUID", type := .long, accessFlags := 26, slot := 8, constantValue := 0 }]
  methods := #[k8m0, k8m1]
  instanceTypes := #[.int]
  staticTypes := #[.int, .int, (.object "java/lang/Class"), (.array .char), (.array .byte), (.array .byte), .int, .int, .long]
  resolved := Array.replicate 453 none
  statics := none }

def pool9 : Array CpInfo := pool [(2, .class_ 4), (1, u "java/lang/Object"), (0, u "<init>"), (0, u "()V"), (1, .class_ 10), (1, u "java/lang/System"), (0, u "allowSecurityManager"), (0, u "I"), (16, u "cons"), (0, u "Ljava/io/Console;"), (77, .class_ 110), (1, u "java/lang/System$CallersHolder"), (43, u "initialErrStream"), (0, u "Ljava/io/PrintStream;"), (19, u "security"), (0, u "Ljava/lang/SecurityManager;"), (31, .class_ 209), (0, u "java/lang/System$1"), (7, u "props"), (0, u "Ljava/util/Properties;"), (2, u "lineSeparator"), (0, u "Ljava/lang/String;"), (96, .class_ 321), (1, u "java/lang/System$LoggerFinder"), (5, .class_ 328), (0, u "java/lang/System$Logger"), (67, u "err"), (2, u "out"), (91, u "notSupportedJnuEncoding"), (15, u "in"), (17, u "initialIn"), (0, u "Ljava/io/InputStream;"), (35, u "bootLayer"), (0, u "Ljava/lang/ModuleLayer;"), (99, .class_ 664), (0, u "java/lang/System$2"), (9, u "NEVER"), (2, u "MAYBE"), (49, u "arraycopy"), (0, u "(Ljava/lang/Object;ILjava/lang/Object;II)V"), (72, .class_ 802), (0, u "java/lang/System$Logger$Level")] 31

def k9m0 : Method := { name := "<init>", desc := "()V", sig := { parameters := [], returnType := none }, accessFlags := 2, code := none }
def k9m1 : Method := { name := "arraycopy", desc := "(Ljava/lang/Object;ILjava/lang/Object;II)V", sig := { parameters := [(.object "java/lang/Object"), .int, (.object "java/lang/Object"), .int, .int], returnType := none }, accessFlags := 265, code := none }
/-- java/lang/System -/
def k9 : Class := { plain "java/lang/System" (some 0) with
  accessFlags := 49
  interfaces := #[]
  cf := some (fileOf pool9 8 #[.nestMembers #[319, 327, 801, 108, 663, 208]] #[{ accessFlags := 2, nameIndex := 5, descriptorIndex := 6, attributes := #[] }, { accessFlags := 265, nameIndex := 727, descriptorIndex := 728, attributes := #[] }] 49 2 #[] #[{ accessFlags := 25, nameIndex := 507, descriptorIndex := 526, attributes := #[] }, { accessFlags := 25, nameIndex := 399, descriptorIndex := 155, attributes := #[] }, { accessFlags := 25, nameIndex := 396, descriptorIndex := 155, attributes := #[] }, { accessFlags := 10, nameIndex := 525, descriptorIndex := 526, attributes := #[] }, { accessFlags := 26, nameIndex := 674, descriptorIndex := 12, attributes := #[] }, { accessFlags := 26, nameIndex := 677, descriptorIndex := 12, attributes := #[] }, { accessFlags := 10, nameIndex := 11, descriptorIndex := 12, attributes := #[] }, { accessFlags := 74, nameIndex := 175, descriptorIndex := 176, attributes := #[] }, { accessFlags := 10, nameIndex := 491, descriptorIndex := 222, attributes := #[] }, { accessFlags := 74, nameIndex := 29, descriptorIndex := 30, attributes := #[] }, { accessFlags := 74, nameIndex := 154, descriptorIndex := 155, attributes := #[] }, { accessFlags := 10, nameIndex := 217, descriptorIndex := 218, attributes := #[] }, { accessFlags := 10, nameIndex := 221, descriptorIndex := 222, attributes := #[] }, { accessFlags := 8, nameIndex := 562, descriptorIndex := 563, attributes := #[] }])
  fields := #[{ name := "in", type := (.object "java/io/InputStream"), accessFlags := 25, slot := 0, constantValue := 0 }, { name := "out", type := (.object "java/io/PrintStream"), accessFlags := 25, slot := 1, constantValue := 0 }, { name := "err", type := (.object "java/io/PrintStream"), accessFlags := 25, slot := 2, constantValue := 0 }, { name := "initialIn", type := (.object "java/io/InputStream"), accessFlags := 10, slot := 3, constantValue := 0 }, { name := "NEVER", type := .int, accessFlags := 26, slot := 4, constantValue := 0 }, { name := "MAYBE", type := .int, accessFlags := 26, slot := 5, constantValue := 0 }, { name := "allowSecurityManager", type := .int, accessFlags := 10, slot := 6, constantValue := 0 }, { name := "security", type := (.object "java/lang/SecurityManager"), accessFlags := 74, slot := 7, constantValue := 0 }, { name := "notSupportedJnuEncoding", type := (.object "java/lang/String"), accessFlags := 10, slot := 8, constantValue := 0 }, { name := "cons", type := (.object "java/io/Console"), accessFlags := 74, slot := 9, constantValue := 0 }, { name := "initialErrStream", type := (.object "java/io/PrintStream"), accessFlags := 74, slot := 10, constantValue := 0 }, { name := "props", type := (.object "java/util/Properties"), accessFlags := 10, slot := 11, constantValue := 0 }, { name := "lineSeparator", type := (.object "java/lang/String"), accessFlags := 10, slot := 12, constantValue := 0 }, { name := "bootLayer", type := (.object "java/lang/ModuleLayer"), accessFlags := 8, slot := 13, constantValue := 0 }]
  methods := #[k9m0, k9m1]
  instanceTypes := #[]
  staticTypes := #[(.object "java/io/InputStream"), (.object "java/io/PrintStream"), (.object "java/io/PrintStream"), (.object "java/io/InputStream"), .int, .int, .int, (.object "java/lang/SecurityManager"), (.object "java/lang/String"), (.object "java/io/Console"), (.object "java/io/PrintStream"), (.object "java/util/Properties"), (.object "java/lang/String"), (.object "java/lang/ModuleLayer")]
  resolved := Array.replicate 834 none
  statics := none }

def pool10 : Array CpInfo := pool [(1, u "java/lang/Cloneable"), (0, .class_ 1), (0, u "java/lang/Object"), (0, .class_ 3)] 3

/-- java/lang/Cloneable -/
def k10 : Class := { plain "java/lang/Cloneable" (some 0) with
  accessFlags := 1537
  interfaces := #[]
  cf := some (fileOf pool10 2 #[] #[] 1537 4 #[] #[])
  fields := #[]
  methods := #[]
  instanceTypes := #[]
  staticTypes := #[]
  resolved := Array.replicate 8 none
  statics := none }

/-- the primitive byte -/
def k11 : Class := { plain "byte" none with kind := .primitive 'B', accessFlags := 0x411 }
/-- [B -/
def k12 : Class := { plain "[B" (some 0) with kind := .array 11 .byte, interfaces := #[10, 3], accessFlags := 1041 }

/-- the primitive double -/
def k13 : Class := { plain "double" none with kind := .primitive 'D', accessFlags := 0x411 }
/-- [D -/
def k14 : Class := { plain "[D" (some 0) with kind := .array 13 .double, interfaces := #[10, 3], accessFlags := 1041 }

/-- the primitive int -/
def k15 : Class := { plain "int" none with kind := .primitive 'I', accessFlags := 0x411 }
/-- [I -/
def k16 : Class := { plain "[I" (some 0) with kind := .array 15 .int, interfaces := #[10, 3], accessFlags := 1041 }

def heap : Heap := #[]
def classes : Array Class := #[k0, k1, k2, k3, k4, k5, k6, k7, k8, k9, k10, k11, k12, k13, k14, k15, k16]
def interned : List (Array UInt16 × Addr) := []
def slotsUsed : Nat := 0
def theMethod : MethodId := ⟨1, 3⟩
def args0 : Array Value := #[.int 5, .int 7, .int 5, .int 3]
def aboutOver (below : List Frame) : State where
  vm := { classes := classes, interned := interned.toArray }
  heap := heap
  slotsUsed := slotsUsed
  threads := #[{ frames := .invoking theMethod args0 :: below }]
def below0 : List Frame := [.native { method := ⟨0, 0⟩, args := #[] }]
def about1 : State := aboutOver below0
def p0 : Program := .bare "" "" ""
def e0 : Env := launch0.env 0 0 0
theorem w_frames : about1.frames = Frame.invoking theMethod args0 :: below0 := rfl
set_option maxRecDepth 65536 in
theorem w_args : argsFit about1.vm theMethod args0 = true := by decide +kernel
set_option maxRecDepth 65536 in
theorem w_heap : heapFits about1 = true := by decide +kernel
set_option maxRecDepth 65536 in
theorem w_runnable : about1.curStatus? = some .runnable := by decide +kernel
set_option maxRecDepth 65536 in
theorem w_alone : about1.alone = true := by decide +kernel
set_option maxRecDepth 65536 in
theorem w_named : about1.methodNamed? x = some theMethod := by decide +kernel
set_option maxRecDepth 65536 in
theorem w_hears : about1.hears theMethod below0 = true := by decide +kernel
set_option maxRecDepth 65536 in
theorem w_ripe : about1.ripe theMethod args0 below0 = true := by decide +kernel
theorem w_running : about1.status = .running := rfl
set_option maxRecDepth 65536 in
theorem w_room : about1.hasRoom e0.platform room_1 = true :=
  launch0.hasRoom_least _ room_1 (by decide +kernel) (by decide +kernel) (by decide +kernel) (by decide +kernel) (by decide +kernel) (by decide +kernel)
theorem allAtoms_all (ts : List Jvm.Cond) (a : Array Jvm.Value) (st : Jvm.State) : (allAtoms ts).before a st = ts.all (fun c => c.before a st) := by
  induction ts with
  | nil => rfl
  | cons c t ih =>
    show (Jvm.Cond.and c (allAtoms t)).before a st = _
    rw [Jvm.Cond.before_and, ih, List.all_cons]
def words1 : List Jvm.Cond := Jvm.Cond.code x code maxLocals ret :: tables_1
/-- a 'code' word, met by the world's own term for the bytes: nothing is compared byte by byte -/
theorem code_word {y : MethodName} {bytes : ByteArray} {mx : Nat} {rt : Option FieldType} {a : Array Value} {s : State} {m : MethodId} {meth : Method} {c : Code} (h1 : s.methodNamed? y = some m) (h2 : s.vm.method? m = some meth) (h3 : meth.code = some c) (h4 : c.code = bytes)
    (h5 : (c.maxLocals == mx && c.exceptionTable.isEmpty && decide (c.maxStack ≤ mostOperands) && decide (meth.sig.returnType = rt) && !meth.locks && decide (parseMethodDescriptor y.desc = some meth.sig)) = true) : (Jvm.Cond.code y bytes mx rt).before a s = true := by
  simp only [Bool.and_eq_true, beq_iff_eq, Bool.not_eq_true', decide_eq_true_eq] at h5
  obtain ⟨⟨⟨⟨⟨g1, g2⟩, g3⟩, g4⟩, g5⟩, g6⟩ := h5
  simp [Cond.before, Cond.holds, Cond.value, h1, h2, h3, h4, g1, g2, g3, g4, g5, g6]
def isCode : Jvm.Cond → Bool
  | .code _ _ _ _ => true
  | _ => false
theorem all_split {L : List Jvm.Cond} {P : Jvm.Cond → Bool} (h1 : L.all (fun c => isCode c || P c) = true) (h2 : ∀ c ∈ L.filter isCode, P c = true) : L.all P = true := by
  refine List.all_eq_true.mpr fun c hc => ?_
  have h := List.all_eq_true.mp h1 c hc
  rcases Bool.eq_false_or_eq_true (isCode c) with hi | hi
  · exact h2 c (List.mem_filter.mpr ⟨hc, hi⟩)
  · simpa [hi] using h
set_option maxRecDepth 65536 in
theorem w_c0 : (Jvm.Cond.code x code maxLocals ret).before args0 about1 = true := code_word (m := ⟨1, 3⟩) (meth := k1m3) (c := k1c3) (by decide +kernel) rfl rfl rfl (by decide +kernel)
set_option maxRecDepth 65536 in
theorem w_c1 : (Jvm.Cond.code ({ cls := "com/example/velar/velar/WeightedDraws", name := "<init>", desc := "([D)V" } : Jvm.MethodName) prog_28_method_1_code (4 : Nat) (Option.none : Option Jvm.ClassFile.FieldType)).before args0 about1 = true := code_word (m := ⟨2, 0⟩) (meth := k2m0) (c := k2c0) (by decide +kernel) rfl rfl rfl (by decide +kernel)
set_option maxRecDepth 65536 in
theorem w_c2 : (Jvm.Cond.code ({ cls := "java/lang/Object", name := "<init>", desc := "()V" } : Jvm.MethodName) object_method_1_code (1 : Nat) (Option.none : Option Jvm.ClassFile.FieldType)).before args0 about1 = true := code_word (m := ⟨0, 0⟩) (meth := k0m0) (c := k0c0) (by decide +kernel) rfl rfl rfl (by decide +kernel)
set_option maxRecDepth 65536 in
theorem w_c3 : (Jvm.Cond.code ({ cls := "java/lang/Integer", name := "highestOneBit", desc := "(I)I" } : Jvm.MethodName) jdk_33_method_45_code (1 : Nat) (Option.some Jvm.ClassFile.FieldType.int)).before args0 about1 = true := code_word (m := ⟨8, 0⟩) (meth := k8m0) (c := k8c0) (by decide +kernel) rfl rfl rfl (by decide +kernel)
set_option maxRecDepth 65536 in
theorem w_c4 : (Jvm.Cond.code ({ cls := "java/lang/Integer", name := "numberOfLeadingZeros", desc := "(I)I" } : Jvm.MethodName) jdk_33_method_47_code (2 : Nat) (Option.some Jvm.ClassFile.FieldType.int)).before args0 about1 = true := code_word (m := ⟨8, 1⟩) (meth := k8m1) (c := k8c1) (by decide +kernel) rfl rfl rfl (by decide +kernel)
set_option maxRecDepth 65536 in
theorem w_c5 : (Jvm.Cond.code ({ cls := "com/example/velar/velar/WeightedDrawsPutBackPinLaw", name := "drawSome", desc := "(Lcom/example/velar/velar/WeightedDraws;II)V" } : Jvm.MethodName) method_3_code (3 : Nat) (Option.none : Option Jvm.ClassFile.FieldType)).before args0 about1 = true := code_word (m := ⟨1, 2⟩) (meth := k1m2) (c := k1c2) (by decide +kernel) rfl rfl rfl (by decide +kernel)
set_option maxRecDepth 65536 in
theorem w_c6 : (Jvm.Cond.code ({ cls := "com/example/velar/velar/WeightedDrawsPutBackPinLaw", name := "frac", desc := "(I)D" } : Jvm.MethodName) method_2_code (1 : Nat) (Option.some Jvm.ClassFile.FieldType.double)).before args0 about1 = true := code_word (m := ⟨1, 1⟩) (meth := k1m1) (c := k1c1) (by decide +kernel) rfl rfl rfl (by decide +kernel)
set_option maxRecDepth 65536 in
theorem w_c7 : (Jvm.Cond.code ({ cls := "com/example/velar/velar/WeightedDraws", name := "draw", desc := "(D)I" } : Jvm.MethodName) prog_28_method_2_code (8 : Nat) (Option.some Jvm.ClassFile.FieldType.int)).before args0 about1 = true := code_word (m := ⟨2, 1⟩) (meth := k2m1) (c := k2c1) (by decide +kernel) rfl rfl rfl (by decide +kernel)
set_option maxRecDepth 65536 in
theorem w_c8 : (Jvm.Cond.code ({ cls := "com/example/velar/velar/WeightedDraws", name := "set", desc := "(ID)V" } : Jvm.MethodName) prog_28_method_4_code (5 : Nat) (Option.none : Option Jvm.ClassFile.FieldType)).before args0 about1 = true := code_word (m := ⟨2, 3⟩) (meth := k2m3) (c := k2c3) (by decide +kernel) rfl rfl rfl (by decide +kernel)
set_option maxRecDepth 65536 in
theorem w_c9 : (Jvm.Cond.code ({ cls := "com/example/velar/velar/WeightedDraws", name := "putBack", desc := "()V" } : Jvm.MethodName) prog_28_method_3_code (2 : Nat) (Option.none : Option Jvm.ClassFile.FieldType)).before args0 about1 = true := code_word (m := ⟨2, 2⟩) (meth := k2m2) (c := k2c2) (by decide +kernel) rfl rfl rfl (by decide +kernel)
def codes1 : List Jvm.Cond := [Jvm.Cond.code x code maxLocals ret, Jvm.Cond.code ({ cls := "com/example/velar/velar/WeightedDraws", name := "<init>", desc := "([D)V" } : Jvm.MethodName) prog_28_method_1_code (4 : Nat) (Option.none : Option Jvm.ClassFile.FieldType), Jvm.Cond.code ({ cls := "java/lang/Object", name := "<init>", desc := "()V" } : Jvm.MethodName) object_method_1_code (1 : Nat) (Option.none : Option Jvm.ClassFile.FieldType), Jvm.Cond.code ({ cls := "java/lang/Integer", name := "highestOneBit", desc := "(I)I" } : Jvm.MethodName) jdk_33_method_45_code (1 : Nat) (Option.some Jvm.ClassFile.FieldType.int), Jvm.Cond.code ({ cls := "java/lang/Integer", name := "numberOfLeadingZeros", desc := "(I)I" } : Jvm.MethodName) jdk_33_method_47_code (2 : Nat) (Option.some Jvm.ClassFile.FieldType.int), Jvm.Cond.code ({ cls := "com/example/velar/velar/WeightedDrawsPutBackPinLaw", name := "drawSome", desc := "(Lcom/example/velar/velar/WeightedDraws;II)V" } : Jvm.MethodName) method_3_code (3 : Nat) (Option.none : Option Jvm.ClassFile.FieldType), Jvm.Cond.code ({ cls := "com/example/velar/velar/WeightedDrawsPutBackPinLaw", name := "frac", desc := "(I)D" } : Jvm.MethodName) method_2_code (1 : Nat) (Option.some Jvm.ClassFile.FieldType.double), Jvm.Cond.code ({ cls := "com/example/velar/velar/WeightedDraws", name := "draw", desc := "(D)I" } : Jvm.MethodName) prog_28_method_2_code (8 : Nat) (Option.some Jvm.ClassFile.FieldType.int), Jvm.Cond.code ({ cls := "com/example/velar/velar/WeightedDraws", name := "set", desc := "(ID)V" } : Jvm.MethodName) prog_28_method_4_code (5 : Nat) (Option.none : Option Jvm.ClassFile.FieldType), Jvm.Cond.code ({ cls := "com/example/velar/velar/WeightedDraws", name := "putBack", desc := "()V" } : Jvm.MethodName) prog_28_method_3_code (2 : Nat) (Option.none : Option Jvm.ClassFile.FieldType)]
set_option maxRecDepth 65536 in
theorem codes_eq : words1.filter isCode = codes1 := rfl
theorem w_codes : ∀ c ∈ words1.filter isCode, c.before args0 about1 = true := by
  rw [codes_eq]
  intro c hc
  simp only [codes1, List.mem_cons, List.not_mem_nil, or_false] at hc
  rcases hc with rfl | rfl | rfl | rfl | rfl | rfl | rfl | rfl | rfl | rfl
  · exact w_c0
  · exact w_c1
  · exact w_c2
  · exact w_c3
  · exact w_c4
  · exact w_c5
  · exact w_c6
  · exact w_c7
  · exact w_c8
  · exact w_c9
set_option maxRecDepth 65536 in
theorem w_t1 : (words1.take 24).all (fun c => isCode c || c.before args0 about1) = true := by decide +kernel
set_option maxRecDepth 65536 in
theorem w_t2 : ((words1.drop 24).take 24).all (fun c => isCode c || c.before args0 about1) = true := by decide +kernel
set_option maxRecDepth 65536 in
theorem w_t3 : ((words1.drop 24).drop 24).all (fun c => isCode c || c.before args0 about1) = true := by decide +kernel
theorem w_tables : (allAtoms (Jvm.Cond.code x code maxLocals ret :: tables_1)).before args0 about1 = true := by
  rw [allAtoms_all]
  show words1.all (fun c => c.before args0 about1) = true
  refine all_split ?_ w_codes
  rw [← List.take_append_drop 24 words1, List.all_append, w_t1, ← List.take_append_drop 24 (words1.drop 24), List.all_append, w_t2, w_t3]
  rfl
set_option maxRecDepth 65536 in
theorem w_case : (Jvm.Cond.and given_1 narrow_1).before args0 about1 = true := by decide +kernel
theorem w_applies : (headSpec (Jvm.Cond.code x code maxLocals ret :: tables_1) room_1).applies x e0.platform about1 = true :=
  (Spec.applies_iff w_frames).mpr ⟨w_running, w_runnable, w_alone, w_named, w_hears, w_ripe, w_room, w_tables⟩
theorem atStart : AtStart classFile x code maxLocals ret World_1 tables_1 room_1 Calls_1 rest_1 Pre_1 launch0 p0 e0 about1 theMethod args0 below0 :=
  ⟨lists_1, trivial, launch0.admits_env _ _ _, launch0.least_env, fairChoices_fair.cas, fairChoices_fair.clock, w_frames, w_args, w_heap, w_applies, trivial, trivial, w_case⟩
end start1
theorem witness_1 : WitnessClaimed_1 := ⟨start1.p0, start1.e0, start1.about1, start1.theMethod, start1.args0, start1.below0, start1.atStart⟩
end Jvm.Pilot.@@N@@
