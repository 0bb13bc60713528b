import JvmDerived
import JvmDerived.Pilot.@@N@@Statement
import JvmDerived.Pilot.@@N@@Code
set_option linter.unusedVariables false
set_option linter.unusedSimpArgs false
namespace Jvm.RoadKit
open Sem ClassFile Op Lib Jvm.Stand Jvm.Free Jvm.LawKit
section New
variable {p : Program} {l : Launch} {e : Env} {R : Room} {s : State} {m : MethodId} {args : Array Value} {below : List Frame} {meth : Method} {c : Code} {T : State} {locs : List Loc} {cells slots : Nat}
theorem retI (X : Stand p l e R s m args below meth c T locs cells slots) (hx : p.tables.exec = Jvm.exec) {pc : Nat} {Ls : Array Slot} {z : Int32} {rest : List Value} (hret : meth.sig.returnType = some .int) (hd : decode c.code pc = .ok (.ireturn, 1)) {fs : List Frame}
    (hl : ∀ (f : JFrame) (acts : List Action), f.method = m → f.locked = none → f.entered = [] → (doReturn e (T.setTop f) acts (some (.int z))).1 = T.setFrames fs) : Steps p.tables e below (T.setTop (mkF m pc Ls (.int z :: rest))) (T.setFrames fs) := by
  have hm' : T.vm.method? m = some meth := X.method'
  have hn : narrow .int (.int z) = .int z := rfl
  show Steps p.tables e below (T.setTop { method := m, pc := pc, locals := Ls, stack := _ :: rest, locked := none }) _
  jvm_step X.here [X.here.top, hx, hd, hm', hret, hn]
  first | (intro acts; rw [hl _ acts rfl rfl rfl]) | rw [hl _ _ rfl rfl rfl]
  exact Steps.refl _
theorem retJ (X : Stand p l e R s m args below meth c T locs cells slots) (hx : p.tables.exec = Jvm.exec) {pc : Nat} {Ls : Array Slot} {z : Int64} {rest : List Value} (hret : meth.sig.returnType = some .long) (hd : decode c.code pc = .ok (.lreturn, 1)) {fs : List Frame}
    (hl : ∀ (f : JFrame) (acts : List Action), f.method = m → f.locked = none → f.entered = [] → (doReturn e (T.setTop f) acts (some (.long z))).1 = T.setFrames fs) : Steps p.tables e below (T.setTop (mkF m pc Ls (.long z :: rest))) (T.setFrames fs) := by
  have hm' : T.vm.method? m = some meth := X.method'
  have hn : narrow .long (.long z) = .long z := rfl
  show Steps p.tables e below (T.setTop { method := m, pc := pc, locals := Ls, stack := _ :: rest, locked := none }) _
  jvm_step X.here [X.here.top, hx, hd, hm', hret, hn]
  first | (intro acts; rw [hl _ acts rfl rfl rfl]) | rw [hl _ _ rfl rfl rfl]
  exact Steps.refl _
end New
end Jvm.RoadKit
namespace Jvm.Pilot.@@N@@
open Jvm Jvm.ClassFile Sem Op Lib Jvm.Free Jvm.Stand Jvm.LawKit Jvm.RoadKit Bundle Jvm.Pilot.@@N@@.Jvm.D
def ArF (Z : State) (h : Heap) (a : Addr) (ty : FieldType) (n : Nat) (f : Nat → Value) : Prop := ∃ c : Cell, Arr Z h a c ty ∧ c.slots.size = n ∧ ∀ i, i < n → c.slots[i]? = some (f i)
theorem ArF.lt {Z : State} {h : Heap} {a : Addr} {ty : FieldType} {n : Nat} {f : Nat → Value} (F : ArF Z h a ty n f) : a < h.size := by obtain ⟨c, A, -⟩ := F; exact A.lt
theorem ArF.ext {Z : State} {h h' : Heap} {a : Addr} {ty : FieldType} {n : Nat} {f : Nat → Value} (F : ArF Z h a ty n f) (E : Ext h h') : ArF Z h' a ty n f := by obtain ⟨c, A, r⟩ := F; exact ⟨c, A.ext E, r⟩
theorem ArF.other {Z : State} {h h' : Heap} {a b : Addr} {ty : FieldType} {n sl : Nat} {f : Nat → Value} {v : Value} (F : ArF Z h b ty n f) (W : Wr h h' a sl v) (q : b ≠ a) : ArF Z h' b ty n f := by obtain ⟨c, A, r⟩ := F; exact ⟨c, A.other W q, r⟩
theorem ArF.keep {Z : State} {h h' : Heap} {a : Addr} {ty : FieldType} {n : Nat} {f : Nat → Value} {ws : List Addr} (F : ArF Z h a ty n f) (K : Keep h h' ws) (q : a ∉ ws) : ArF Z h' a ty n f := by obtain ⟨c, A, r⟩ := F; exact ⟨c, ⟨K.2.1 a c A.1 q, A.2⟩, r⟩
theorem ArF.mk0 {Z : State} {h : Heap} {a : Addr} {ty : FieldType} {k : ClassId} {z : Int32} {n : Nat} {v : Value} (A : Arr Z h a (newA k ty z) ty) (hn : z.toNatClampNeg = n) (hv : defaultValue ty = v) : ArF Z h a ty n (fun _ => v) := by
  subst hn hv
  refine ⟨_, A, sz_new _ _ _, fun i hi => ?_⟩
  show (Array.replicate _ _)[i]? = _
  rw [Array.getElem?_replicate, if_pos hi]
theorem ArF.set {Z : State} {h h' : Heap} {a : Addr} {ty : FieldType} {n : Nat} {f : Nat → Value} {c : Cell} {j : Int32} {v : Value} (A : Arr Z h a c ty) (S : c.slots.size = n) (H : ∀ i, i < n → c.slots[i]? = some (f i)) (W : Wr h h' a j.toNatClampNeg v) (hj : ¬ (j < 0 ∨ c.slots.size ≤ j.toNatClampNeg)) : ArF Z h' a ty n (fun i => if i = j.toNatClampNeg then v else f i) := by
  refine ⟨_, A.same W, by rw [sz_set]; exact S, fun i hi => ?_⟩
  have hjl : j.toNatClampNeg < c.slots.size := Nat.lt_of_not_le fun y => hj (Or.inr y)
  show (c.slots.setIfInBounds j.toNatClampNeg v)[i]? = some (if i = j.toNatClampNeg then v else f i)
  rw [Array.getElem?_setIfInBounds]
  by_cases e : j.toNatClampNeg = i
  · rw [if_pos e, if_pos hjl, if_pos e.symm]
  · rw [if_neg e, if_neg (Ne.symm e)]; exact H i hi
theorem ArF.at {n : Nat} {f : Nat → Value} {c : Cell} {j : Int32} {v : Value} (S : c.slots.size = n) (H : ∀ i, i < n → c.slots[i]? = some (f i)) (hj : ¬ (j < 0 ∨ c.slots.size ≤ j.toNatClampNeg)) (e : f j.toNatClampNeg = v) : c.slots[j.toNatClampNeg]? = some v := by
  rw [← e]; exact H _ (S ▸ Nat.lt_of_not_le fun y => hj (Or.inr y))
theorem inA {n : Nat} {c : Cell} {j : Int32} (S : c.slots.size = n) (h0 : ¬ j < 0) (h1 : j.toNatClampNeg < n) : ¬ (j < 0 ∨ c.slots.size ≤ j.toNatClampNeg) := fun q => q.elim h0 fun r => Nat.not_lt.mpr (S ▸ r) h1
theorem ArF.congr {Z : State} {h : Heap} {a : Addr} {ty : FieldType} {n : Nat} {f g : Nat → Value} (F : ArF Z h a ty n f) (q : ∀ i, i < n → f i = g i) : ArF Z h a ty n g := by obtain ⟨c, A, S, H⟩ := F; exact ⟨c, A, S, fun i hi => (H i hi).trans (congrArg some (q i hi))⟩
theorem Sta.keep0 {Z : State} {h h' : Heap} {C n d : String} {v : Value} (F : Sta Z h C n d v) (K : Keep h h' []) : Sta Z h' C n d v := by obtain ⟨cf, i, k, f, st, cell, h1, h2, h3, h4, h5, r⟩ := F; exact ⟨cf, i, k, f, st, cell, h1, h2, h3, h4, K.2.1 _ _ h5 nin0, r⟩
theorem pd_0 : parseMethodDescriptor "(II)I" = some ⟨[.int, .int], some .int⟩ := by decide +kernel
theorem pd_1 : parseMethodDescriptor "([II)I" = some ⟨[(.array .int), .int], some .int⟩ := by decide +kernel
def own_bit (p1 : Int32) (p2 : Int32) : Int32 := (((p1.toUInt32 >>> (p2 &&& 31).toUInt32).toInt32) &&& (1 : Int32))
theorem d1_0 : decode method_2_code 0 = .ok (.iload_n 0, 1) := by decide +kernel
theorem d1_1 : decode method_2_code 1 = .ok (.iload_n 1, 1) := by decide +kernel
theorem d1_2 : decode method_2_code 2 = .ok (.iushr, 1) := by decide +kernel
theorem d1_3 : decode method_2_code 3 = .ok (.iconst 1, 1) := by decide +kernel
theorem d1_4 : decode method_2_code 4 = .ok (.iand, 1) := by decide +kernel
theorem d1_5 : decode method_2_code 5 = .ok (.ireturn, 1) := by decide +kernel
theorem pn_rm1 : plainName "com/example/even_roster/evenroster/scim/HoldersRenumberedPinLaw" = true := by first | (simp [plainName, overriddenIn]; done) | decide +kernel
theorem ef_rm1 (m : MethodId) (x0 : Int32) (x1 : Int32) : entryFrame m #[(.int x0), (.int x1)] 2 = mkF m 0 #[.val (.int x0), .val (.int x1)] [] := by first | (simp [entryFrame, mkF, argsToLocals, Value.category]; done) | rfl
def Q_rm1 (Z : State) (p1 : Int32) (p2 : Int32) (h0 : Heap) (n0 : Nat) (v : Option Value) (h : Heap) (L : List Loc) : Prop := v = some (.int (own_bit p1 p2)) ∧ Fr n0 L ∧ h = h0
set_option maxRecDepth 65536 in
set_option maxHeartbeats 40000000 in
theorem rm1 (l : Launch) (Z : State) (a0 : Array Value) (hw : ∀ d ∈ tables_1, d.before a0 Z = true) (ws : List Jvm.Cond) (p1 : Int32) (p2 : Int32) (h0 : Heap) (n0 : Nat) (Z0 : n0 ≤ h0.size) :
    MetFree l (⟨"com/example/even_roster/evenroster/scim/HoldersRenumberedPinLaw", "bit", "(II)I"⟩ : MethodName) (head1 (Jvm.Cond.code (⟨"com/example/even_roster/evenroster/scim/HoldersRenumberedPinLaw", "bit", "(II)I"⟩ : MethodName) method_2_code 2 (some .int) :: ws) ({ frames := 0, cells := 0, slots := 0, locals := 0 } : Room)) (fun a U => a = #[(.int p1), (.int p2)] ∧ Z.Warmed39 U.vm ∧ U.heap = h0) (fun _ _ _ _ _ => True) (fun _ U o U' => ∃ v L, o = .returned v ∧ Q_rm1 Z p1 p2 h0 n0 v U'.heap L ∧ FrameEnd U o U' L ({ frames := 0, cells := 0, slots := 0, locals := 0 } : Room).cells ({ frames := 0, cells := 0, slots := 0, locals := 0 } : Room).slots) := by
  refine MetFree.of_bodySF (plainFor_of_name pn_rm1) hisR ?_
  intro p e s m args below meth c s₁ Bd hml0 hP hK
  obtain ⟨rfl, hZ, hh⟩ := hP
  have hx := Bd.exec
  have hby := Bd.bytes
  have hml : c.maxLocals = 2 := hml0
  have hown : s.vm.findClass "com/example/even_roster/evenroster/scim/HoldersRenumberedPinLaw" = some m.cls := findClass_of_methodNamed Bd.named
  have hnm := (name_of_methodNamed Bd.named Bd.method).1
  have X0 : Stand p l e ({ frames := 0, cells := 0, slots := 0, locals := 0 } : Room) s m #[(.int p1), (.int p2)] below meth c s₁ [] 0 0 := Stand.of_body Bd
  have e0 : s₁.heap = h0 := by rw [← hh, Bd.state]; rfl
  have N0 := Fr.nil n0
  have pre0 : ∀ t, Steps p.tables e below (s₁.setTop (mkF m 0 #[.val (.int p1), .val (.int p2)] [])) t → Steps p.tables e below (s₁.setTop (entryFrame m #[(.int p1), (.int p2)] 2)) t := fun t k => castTop (ef_rm1 m p1 p2) k
  obtain ⟨fs, hr, hrun, hended, hW, hsame⟩ := X0.leave (v := some (.int (((p1.toUInt32 >>> (p2 &&& 31).toUInt32).toInt32) &&& (1 : Int32)))) (fun h => by rw [Bd.returns] at h; cases h)
  refine ⟨_, _, pre0 _ ?_, hrun, hended, _, _, rfl, ?_, ⟨_, rfl⟩, hW, hsame.mono (by decide) (by decide)⟩
  · show Steps p.tables e below (s₁.setTop (mkF m 0 #[.val (.int p1), .val (.int p2)] [])) _
    refine XS.iloadN X0.here hx rfl (hb hby d1_0) rfl ?_
    show Steps p.tables e below (s₁.setTop (mkF m 1 #[.val (.int p1), .val (.int p2)] [(.int p1)])) _
    refine XS.iloadN X0.here hx rfl (hb hby d1_1) rfl ?_
    show Steps p.tables e below (s₁.setTop (mkF m 2 #[.val (.int p1), .val (.int p2)] [(.int p2), (.int p1)])) _
    refine XS.iushr X0.here hx rfl (hb hby d1_2) rfl ?_
    show Steps p.tables e below (s₁.setTop (mkF m 3 #[.val (.int p1), .val (.int p2)] [(.int ((p1.toUInt32 >>> (p2 &&& 31).toUInt32).toInt32))])) _
    refine XS.iconst X0.here hx rfl (hb hby d1_3) ?_
    show Steps p.tables e below (s₁.setTop (mkF m 4 #[.val (.int p1), .val (.int p2)] [(.int (1 : Int32)), (.int ((p1.toUInt32 >>> (p2 &&& 31).toUInt32).toInt32))])) _
    refine XS.iand X0.here hx rfl (hb hby d1_4) rfl ?_
    show Steps p.tables e below (s₁.setTop (mkF m 5 #[.val (.int p1), .val (.int p2)] [(.int (((p1.toUInt32 >>> (p2 &&& 31).toUInt32).toInt32) &&& (1 : Int32)))])) _
    exact retI X0 hx Bd.returns (hb hby d1_5) hr
  · show Q_rm1 Z p1 p2 h0 n0 _ s₁.heap _
    rw [e0]
    exact ⟨by rw [own_bit], N0, rfl⟩
def own_cb (p1 : Int32) (p2 : Int32) : Int32 := if (0 : Int32) < p2 then if (1 : Int32) < p2 then if (2 : Int32) < p2 then if (3 : Int32) < p2 then if (4 : Int32) < p2 then ((((((0 : Int32) + (own_bit p1 (0 : Int32))) + (own_bit p1 (1 : Int32))) + (own_bit p1 (2 : Int32))) + (own_bit p1 (3 : Int32))) + (own_bit p1 (4 : Int32))) else (((((0 : Int32) + (own_bit p1 (0 : Int32))) + (own_bit p1 (1 : Int32))) + (own_bit p1 (2 : Int32))) + (own_bit p1 (3 : Int32))) else ((((0 : Int32) + (own_bit p1 (0 : Int32))) + (own_bit p1 (1 : Int32))) + (own_bit p1 (2 : Int32))) else (((0 : Int32) + (own_bit p1 (0 : Int32))) + (own_bit p1 (1 : Int32))) else ((0 : Int32) + (own_bit p1 (0 : Int32))) else (0 : Int32)
theorem d3_0 : decode method_3_code 0 = .ok (.iconst 0, 1) := by decide +kernel
theorem d3_1 : decode method_3_code 1 = .ok (.istore_n 2, 1) := by decide +kernel
theorem d3_2 : decode method_3_code 2 = .ok (.iload_n 1, 1) := by decide +kernel
theorem d3_3 : decode method_3_code 3 = .ok (.ifCond .le 11, 3) := by decide +kernel
theorem d3_6 : decode method_3_code 6 = .ok (.iload_n 2, 1) := by decide +kernel
theorem d3_7 : decode method_3_code 7 = .ok (.iload_n 0, 1) := by decide +kernel
theorem d3_8 : decode method_3_code 8 = .ok (.iconst 0, 1) := by decide +kernel
theorem d3_9 : decode method_3_code 9 = .ok (.invokestatic 7, 3) := by decide +kernel
theorem d3_12 : decode method_3_code 12 = .ok (.iadd, 1) := by decide +kernel
theorem d3_13 : decode method_3_code 13 = .ok (.istore_n 2, 1) := by decide +kernel
theorem d3_14 : decode method_3_code 14 = .ok (.iload_n 1, 1) := by decide +kernel
theorem d3_15 : decode method_3_code 15 = .ok (.iconst 1, 1) := by decide +kernel
theorem d3_16 : decode method_3_code 16 = .ok (.if_icmp .le 11, 3) := by decide +kernel
theorem d3_19 : decode method_3_code 19 = .ok (.iload_n 2, 1) := by decide +kernel
theorem d3_20 : decode method_3_code 20 = .ok (.iload_n 0, 1) := by decide +kernel
theorem d3_21 : decode method_3_code 21 = .ok (.iconst 1, 1) := by decide +kernel
theorem d3_22 : decode method_3_code 22 = .ok (.invokestatic 7, 3) := by decide +kernel
theorem d3_25 : decode method_3_code 25 = .ok (.iadd, 1) := by decide +kernel
theorem d3_26 : decode method_3_code 26 = .ok (.istore_n 2, 1) := by decide +kernel
theorem d3_27 : decode method_3_code 27 = .ok (.iload_n 1, 1) := by decide +kernel
theorem d3_28 : decode method_3_code 28 = .ok (.iconst 2, 1) := by decide +kernel
theorem d3_29 : decode method_3_code 29 = .ok (.if_icmp .le 11, 3) := by decide +kernel
theorem d3_32 : decode method_3_code 32 = .ok (.iload_n 2, 1) := by decide +kernel
theorem d3_33 : decode method_3_code 33 = .ok (.iload_n 0, 1) := by decide +kernel
theorem d3_34 : decode method_3_code 34 = .ok (.iconst 2, 1) := by decide +kernel
theorem d3_35 : decode method_3_code 35 = .ok (.invokestatic 7, 3) := by decide +kernel
theorem d3_38 : decode method_3_code 38 = .ok (.iadd, 1) := by decide +kernel
theorem d3_39 : decode method_3_code 39 = .ok (.istore_n 2, 1) := by decide +kernel
theorem d3_40 : decode method_3_code 40 = .ok (.iload_n 1, 1) := by decide +kernel
theorem d3_41 : decode method_3_code 41 = .ok (.iconst 3, 1) := by decide +kernel
theorem d3_42 : decode method_3_code 42 = .ok (.if_icmp .le 11, 3) := by decide +kernel
theorem d3_45 : decode method_3_code 45 = .ok (.iload_n 2, 1) := by decide +kernel
theorem d3_46 : decode method_3_code 46 = .ok (.iload_n 0, 1) := by decide +kernel
theorem d3_47 : decode method_3_code 47 = .ok (.iconst 3, 1) := by decide +kernel
theorem d3_48 : decode method_3_code 48 = .ok (.invokestatic 7, 3) := by decide +kernel
theorem d3_51 : decode method_3_code 51 = .ok (.iadd, 1) := by decide +kernel
theorem d3_52 : decode method_3_code 52 = .ok (.istore_n 2, 1) := by decide +kernel
theorem d3_53 : decode method_3_code 53 = .ok (.iload_n 1, 1) := by decide +kernel
theorem d3_54 : decode method_3_code 54 = .ok (.iconst 4, 1) := by decide +kernel
theorem d3_55 : decode method_3_code 55 = .ok (.if_icmp .le 11, 3) := by decide +kernel
theorem d3_58 : decode method_3_code 58 = .ok (.iload_n 2, 1) := by decide +kernel
theorem d3_59 : decode method_3_code 59 = .ok (.iload_n 0, 1) := by decide +kernel
theorem d3_60 : decode method_3_code 60 = .ok (.iconst 4, 1) := by decide +kernel
theorem d3_61 : decode method_3_code 61 = .ok (.invokestatic 7, 3) := by decide +kernel
theorem d3_64 : decode method_3_code 64 = .ok (.iadd, 1) := by decide +kernel
theorem d3_65 : decode method_3_code 65 = .ok (.istore_n 2, 1) := by decide +kernel
theorem d3_66 : decode method_3_code 66 = .ok (.iload_n 2, 1) := by decide +kernel
theorem d3_67 : decode method_3_code 67 = .ok (.ireturn, 1) := by decide +kernel
theorem pn_rm3 : plainName "com/example/even_roster/evenroster/scim/HoldersRenumberedPinLaw" = true := by first | (simp [plainName, overriddenIn]; done) | decide +kernel
theorem ef_rm3 (m : MethodId) (x0 : Int32) (x1 : Int32) : entryFrame m #[(.int x0), (.int x1)] 3 = mkF m 0 #[.val (.int x0), .val (.int x1), .unset] [] := by first | (simp [entryFrame, mkF, argsToLocals, Value.category]; done) | rfl
def Q_rm3 (Z : State) (p1 : Int32) (p2 : Int32) (h0 : Heap) (n0 : Nat) (v : Option Value) (h : Heap) (L : List Loc) : Prop := v = some (.int (own_cb p1 p2)) ∧ Fr n0 L ∧ h = h0
set_option maxRecDepth 65536 in
set_option maxHeartbeats 40000000 in
theorem rm3 (l : Launch) (Z : State) (a0 : Array Value) (hw : ∀ d ∈ tables_1, d.before a0 Z = true) (ws : List Jvm.Cond) (p1 : Int32) (p2 : Int32) (h0 : Heap) (n0 : Nat) (Z0 : n0 ≤ h0.size) :
    MetFree l (⟨"com/example/even_roster/evenroster/scim/HoldersRenumberedPinLaw", "countBelow", "(II)I"⟩ : MethodName) (head1 (Jvm.Cond.code (⟨"com/example/even_roster/evenroster/scim/HoldersRenumberedPinLaw", "countBelow", "(II)I"⟩ : MethodName) method_3_code 3 (some .int) :: ws) ({ frames := 1, cells := 0, slots := 0, locals := 14 } : Room)) (fun a U => a = #[(.int p1), (.int p2)] ∧ Z.Warmed39 U.vm ∧ U.heap = h0) (fun _ _ _ _ _ => True) (fun _ U o U' => ∃ v L, o = .returned v ∧ Q_rm3 Z p1 p2 h0 n0 v U'.heap L ∧ FrameEnd U o U' L ({ frames := 1, cells := 0, slots := 0, locals := 14 } : Room).cells ({ frames := 1, cells := 0, slots := 0, locals := 14 } : Room).slots) := by
  refine MetFree.of_bodySF (plainFor_of_name pn_rm3) hisR ?_
  intro p e s m args below meth c s₁ Bd hml0 hP hK
  obtain ⟨rfl, hZ, hh⟩ := hP
  have hx := Bd.exec
  have hby := Bd.bytes
  have hml : c.maxLocals = 3 := hml0
  have hown : s.vm.findClass "com/example/even_roster/evenroster/scim/HoldersRenumberedPinLaw" = some m.cls := findClass_of_methodNamed Bd.named
  have hnm := (name_of_methodNamed Bd.named Bd.method).1
  have X0 : Stand p l e ({ frames := 1, cells := 0, slots := 0, locals := 14 } : Room) s m #[(.int p1), (.int p2)] below meth c s₁ [] 0 0 := Stand.of_body Bd
  have e0 : s₁.heap = h0 := by rw [← hh, Bd.state]; rfl
  have N0 := Fr.nil n0
  have pre0 : ∀ t, Steps p.tables e below (s₁.setTop (mkF m 0 #[.val (.int p1), .val (.int p2), .unset] [])) t → Steps p.tables e below (s₁.setTop (entryFrame m #[(.int p1), (.int p2)] 3)) t := fun t k => castTop (ef_rm3 m p1 p2) k
  have pre1 : ∀ t, Steps p.tables e below (s₁.setTop (mkF m 3 #[.val (.int p1), .val (.int p2), .val (.int (0 : Int32))] [(.int p2)])) t → Steps p.tables e below (s₁.setTop (entryFrame m #[(.int p1), (.int p2)] 3)) t := by
    intro t k
    refine pre0 t ?_
    show Steps p.tables e below (s₁.setTop (mkF m 0 #[.val (.int p1), .val (.int p2), .unset] [])) _
    refine XS.iconst X0.here hx rfl (hb hby d3_0) ?_
    show Steps p.tables e below (s₁.setTop (mkF m 1 #[.val (.int p1), .val (.int p2), .unset] [(.int (0 : Int32))])) _
    refine XS.istoreN X0.here hx rfl (hb hby d3_1) rfl (l' := #[.val (.int p1), .val (.int p2), .val (.int (0 : Int32))]) rfl ?_
    show Steps p.tables e below (s₁.setTop (mkF m 2 #[.val (.int p1), .val (.int p2), .val (.int (0 : Int32))] [])) _
    refine XS.iloadN X0.here hx rfl (hb hby d3_2) rfl ?_
    exact k
  by_cases hc3_2 : (0 : Int32) < p2
  · obtain ⟨_, _, ⟨T3, L3, k3, n3⟩, -, X3, ⟨Lc3, hQ3, l3, y3, z3⟩, st3⟩ := Jvm.LawKit.callS X0 hx (y := (⟨"com/example/even_roster/evenroster/scim/HoldersRenumberedPinLaw", "bit", "(II)I"⟩ : MethodName)) hown (mvT hZ (hw _ (List.mem_of_getElem? (i := 2) rfl))) (mvT hZ (hw _ (List.mem_of_getElem? (i := 3) rfl))) (mvT hZ (hw _ (List.mem_of_getElem? (i := 4) rfl))) (mvT hZ (hw _ (List.mem_of_getElem? (i := 5) rfl))) (by decide) (backOf (W := 1) (rm1 l Z a0 hw [] p1 (0 : Int32) h0 n0 Z0) hZ (hw _ (List.mem_of_getElem? (i := 5) rfl)) (hw _ (List.mem_of_getElem? (i := 4) rfl)) (by decide) (by decide)) (g := (mkF m 9 #[.val (.int p1), .val (.int p2), .val (.int (0 : Int32))] [(.int (0 : Int32)), (.int p1), (.int (0 : Int32))])) rfl (by rw [hml]; rfl) (argsL := [(.int p1), (.int (0 : Int32))]) (rest := [(.int (0 : Int32))]) (lenOf pd_0 rfl) rfl (by show 2 * 0 + _ ≤ _; exact Nat.le_of_eq rfl) (hb hby d3_9) (fun _ _ => ⟨rfl, e0, (by decide : 0 + 0 ≤ _), (by decide : 0 + 0 ≤ _)⟩)
    dsimp only [Pt.U, Pt.locs, Pt.cells, Pt.slots] at X3 l3 y3 z3 st3 hQ3
    subst l3 y3 z3
    obtain ⟨rfl, N3q, e3⟩ := hQ3
    have N3 := Fr.app N0 N3q
    have pre4 : ∀ t, Steps p.tables e below (T3.setTop (mkF m 16 #[.val (.int p1), .val (.int p2), .val (.int ((0 : Int32) + (own_bit p1 (0 : Int32))))] [(.int (1 : Int32)), (.int p2)])) t → Steps p.tables e below (s₁.setTop (entryFrame m #[(.int p1), (.int p2)] 3)) t := by
      intro t k
      refine pre1 t ?_
      show Steps p.tables e below (s₁.setTop (mkF m 3 #[.val (.int p1), .val (.int p2), .val (.int (0 : Int32))] [(.int p2)])) _
      refine XS.ifNo X0.here hx rfl (hb hby d3_3) rfl ((if0 _ _).trans (tlt hc3_2).2.2.2) ?_
      show Steps p.tables e below (s₁.setTop (mkF m 6 #[.val (.int p1), .val (.int p2), .val (.int (0 : Int32))] [])) _
      refine XS.iloadN X0.here hx rfl (hb hby d3_6) rfl ?_
      show Steps p.tables e below (s₁.setTop (mkF m 7 #[.val (.int p1), .val (.int p2), .val (.int (0 : Int32))] [(.int (0 : Int32))])) _
      refine XS.iloadN X0.here hx rfl (hb hby d3_7) rfl ?_
      show Steps p.tables e below (s₁.setTop (mkF m 8 #[.val (.int p1), .val (.int p2), .val (.int (0 : Int32))] [(.int p1), (.int (0 : Int32))])) _
      refine XS.iconst X0.here hx rfl (hb hby d3_8) ?_
      show Steps p.tables e below (s₁.setTop (mkF m 9 #[.val (.int p1), .val (.int p2), .val (.int (0 : Int32))] [(.int (0 : Int32)), (.int p1), (.int (0 : Int32))])) _
      refine st3 _ ?_
      show Steps p.tables e below (T3.setTop (mkF m 12 #[.val (.int p1), .val (.int p2), .val (.int (0 : Int32))] [(.int (own_bit p1 (0 : Int32))), (.int (0 : Int32))])) _
      refine XS.iadd X3.here hx rfl (hb hby d3_12) rfl ?_
      show Steps p.tables e below (T3.setTop (mkF m 13 #[.val (.int p1), .val (.int p2), .val (.int (0 : Int32))] [(.int ((0 : Int32) + (own_bit p1 (0 : Int32))))])) _
      refine XS.istoreN X3.here hx rfl (hb hby d3_13) rfl (l' := #[.val (.int p1), .val (.int p2), .val (.int ((0 : Int32) + (own_bit p1 (0 : Int32))))]) rfl ?_
      show Steps p.tables e below (T3.setTop (mkF m 14 #[.val (.int p1), .val (.int p2), .val (.int ((0 : Int32) + (own_bit p1 (0 : Int32))))] [])) _
      refine XS.iloadN X3.here hx rfl (hb hby d3_14) rfl ?_
      show Steps p.tables e below (T3.setTop (mkF m 15 #[.val (.int p1), .val (.int p2), .val (.int ((0 : Int32) + (own_bit p1 (0 : Int32))))] [(.int p2)])) _
      refine XS.iconst X3.here hx rfl (hb hby d3_15) ?_
      exact k
    by_cases hc16_5 : (1 : Int32) < p2
    · obtain ⟨_, _, ⟨T6, L6, k6, n6⟩, -, X6, ⟨Lc6, hQ6, l6, y6, z6⟩, st6⟩ := Jvm.LawKit.callS X3 hx (y := (⟨"com/example/even_roster/evenroster/scim/HoldersRenumberedPinLaw", "bit", "(II)I"⟩ : MethodName)) hown (mvT hZ (hw _ (List.mem_of_getElem? (i := 2) rfl))) (mvT hZ (hw _ (List.mem_of_getElem? (i := 3) rfl))) (mvT hZ (hw _ (List.mem_of_getElem? (i := 4) rfl))) (mvT hZ (hw _ (List.mem_of_getElem? (i := 5) rfl))) (by decide) (backOf (W := 1) (rm1 l Z a0 hw [] p1 (1 : Int32) h0 n0 Z0) hZ (hw _ (List.mem_of_getElem? (i := 5) rfl)) (hw _ (List.mem_of_getElem? (i := 4) rfl)) (by decide) (by decide)) (g := (mkF m 22 #[.val (.int p1), .val (.int p2), .val (.int ((0 : Int32) + (own_bit p1 (0 : Int32))))] [(.int (1 : Int32)), (.int p1), (.int ((0 : Int32) + (own_bit p1 (0 : Int32))))])) rfl (by rw [hml]; rfl) (argsL := [(.int p1), (.int (1 : Int32))]) (rest := [(.int ((0 : Int32) + (own_bit p1 (0 : Int32))))]) (lenOf pd_0 rfl) rfl (by show 2 * 0 + _ ≤ _; exact Nat.le_of_eq rfl) (hb hby d3_22) (fun _ _ => ⟨rfl, e3, (by decide : 0 + 0 ≤ _), (by decide : 0 + 0 ≤ _)⟩)
      dsimp only [Pt.U, Pt.locs, Pt.cells, Pt.slots] at X6 l6 y6 z6 st6 hQ6
      subst l6 y6 z6
      obtain ⟨rfl, N6q, e6⟩ := hQ6
      have N6 := Fr.app N3 N6q
      have pre7 : ∀ t, Steps p.tables e below (T6.setTop (mkF m 29 #[.val (.int p1), .val (.int p2), .val (.int (((0 : Int32) + (own_bit p1 (0 : Int32))) + (own_bit p1 (1 : Int32))))] [(.int (2 : Int32)), (.int p2)])) t → Steps p.tables e below (s₁.setTop (entryFrame m #[(.int p1), (.int p2)] 3)) t := by
        intro t k
        refine pre4 t ?_
        show Steps p.tables e below (T3.setTop (mkF m 16 #[.val (.int p1), .val (.int p2), .val (.int ((0 : Int32) + (own_bit p1 (0 : Int32))))] [(.int (1 : Int32)), (.int p2)])) _
        refine XS.icmpNo X3.here hx rfl (hb hby d3_16) rfl (tlt hc16_5).2.2.2 ?_
        show Steps p.tables e below (T3.setTop (mkF m 19 #[.val (.int p1), .val (.int p2), .val (.int ((0 : Int32) + (own_bit p1 (0 : Int32))))] [])) _
        refine XS.iloadN X3.here hx rfl (hb hby d3_19) rfl ?_
        show Steps p.tables e below (T3.setTop (mkF m 20 #[.val (.int p1), .val (.int p2), .val (.int ((0 : Int32) + (own_bit p1 (0 : Int32))))] [(.int ((0 : Int32) + (own_bit p1 (0 : Int32))))])) _
        refine XS.iloadN X3.here hx rfl (hb hby d3_20) rfl ?_
        show Steps p.tables e below (T3.setTop (mkF m 21 #[.val (.int p1), .val (.int p2), .val (.int ((0 : Int32) + (own_bit p1 (0 : Int32))))] [(.int p1), (.int ((0 : Int32) + (own_bit p1 (0 : Int32))))])) _
        refine XS.iconst X3.here hx rfl (hb hby d3_21) ?_
        show Steps p.tables e below (T3.setTop (mkF m 22 #[.val (.int p1), .val (.int p2), .val (.int ((0 : Int32) + (own_bit p1 (0 : Int32))))] [(.int (1 : Int32)), (.int p1), (.int ((0 : Int32) + (own_bit p1 (0 : Int32))))])) _
        refine st6 _ ?_
        show Steps p.tables e below (T6.setTop (mkF m 25 #[.val (.int p1), .val (.int p2), .val (.int ((0 : Int32) + (own_bit p1 (0 : Int32))))] [(.int (own_bit p1 (1 : Int32))), (.int ((0 : Int32) + (own_bit p1 (0 : Int32))))])) _
        refine XS.iadd X6.here hx rfl (hb hby d3_25) rfl ?_
        show Steps p.tables e below (T6.setTop (mkF m 26 #[.val (.int p1), .val (.int p2), .val (.int ((0 : Int32) + (own_bit p1 (0 : Int32))))] [(.int (((0 : Int32) + (own_bit p1 (0 : Int32))) + (own_bit p1 (1 : Int32))))])) _
        refine XS.istoreN X6.here hx rfl (hb hby d3_26) rfl (l' := #[.val (.int p1), .val (.int p2), .val (.int (((0 : Int32) + (own_bit p1 (0 : Int32))) + (own_bit p1 (1 : Int32))))]) rfl ?_
        show Steps p.tables e below (T6.setTop (mkF m 27 #[.val (.int p1), .val (.int p2), .val (.int (((0 : Int32) + (own_bit p1 (0 : Int32))) + (own_bit p1 (1 : Int32))))] [])) _
        refine XS.iloadN X6.here hx rfl (hb hby d3_27) rfl ?_
        show Steps p.tables e below (T6.setTop (mkF m 28 #[.val (.int p1), .val (.int p2), .val (.int (((0 : Int32) + (own_bit p1 (0 : Int32))) + (own_bit p1 (1 : Int32))))] [(.int p2)])) _
        refine XS.iconst X6.here hx rfl (hb hby d3_28) ?_
        exact k
      by_cases hc29_8 : (2 : Int32) < p2
      · obtain ⟨_, _, ⟨T9, L9, k9, n9⟩, -, X9, ⟨Lc9, hQ9, l9, y9, z9⟩, st9⟩ := Jvm.LawKit.callS X6 hx (y := (⟨"com/example/even_roster/evenroster/scim/HoldersRenumberedPinLaw", "bit", "(II)I"⟩ : MethodName)) hown (mvT hZ (hw _ (List.mem_of_getElem? (i := 2) rfl))) (mvT hZ (hw _ (List.mem_of_getElem? (i := 3) rfl))) (mvT hZ (hw _ (List.mem_of_getElem? (i := 4) rfl))) (mvT hZ (hw _ (List.mem_of_getElem? (i := 5) rfl))) (by decide) (backOf (W := 1) (rm1 l Z a0 hw [] p1 (2 : Int32) h0 n0 Z0) hZ (hw _ (List.mem_of_getElem? (i := 5) rfl)) (hw _ (List.mem_of_getElem? (i := 4) rfl)) (by decide) (by decide)) (g := (mkF m 35 #[.val (.int p1), .val (.int p2), .val (.int (((0 : Int32) + (own_bit p1 (0 : Int32))) + (own_bit p1 (1 : Int32))))] [(.int (2 : Int32)), (.int p1), (.int (((0 : Int32) + (own_bit p1 (0 : Int32))) + (own_bit p1 (1 : Int32))))])) rfl (by rw [hml]; rfl) (argsL := [(.int p1), (.int (2 : Int32))]) (rest := [(.int (((0 : Int32) + (own_bit p1 (0 : Int32))) + (own_bit p1 (1 : Int32))))]) (lenOf pd_0 rfl) rfl (by show 2 * 0 + _ ≤ _; exact Nat.le_of_eq rfl) (hb hby d3_35) (fun _ _ => ⟨rfl, e6, (by decide : 0 + 0 ≤ _), (by decide : 0 + 0 ≤ _)⟩)
        dsimp only [Pt.U, Pt.locs, Pt.cells, Pt.slots] at X9 l9 y9 z9 st9 hQ9
        subst l9 y9 z9
        obtain ⟨rfl, N9q, e9⟩ := hQ9
        have N9 := Fr.app N6 N9q
        have pre10 : ∀ t, Steps p.tables e below (T9.setTop (mkF m 42 #[.val (.int p1), .val (.int p2), .val (.int ((((0 : Int32) + (own_bit p1 (0 : Int32))) + (own_bit p1 (1 : Int32))) + (own_bit p1 (2 : Int32))))] [(.int (3 : Int32)), (.int p2)])) t → Steps p.tables e below (s₁.setTop (entryFrame m #[(.int p1), (.int p2)] 3)) t := by
          intro t k
          refine pre7 t ?_
          show Steps p.tables e below (T6.setTop (mkF m 29 #[.val (.int p1), .val (.int p2), .val (.int (((0 : Int32) + (own_bit p1 (0 : Int32))) + (own_bit p1 (1 : Int32))))] [(.int (2 : Int32)), (.int p2)])) _
          refine XS.icmpNo X6.here hx rfl (hb hby d3_29) rfl (tlt hc29_8).2.2.2 ?_
          show Steps p.tables e below (T6.setTop (mkF m 32 #[.val (.int p1), .val (.int p2), .val (.int (((0 : Int32) + (own_bit p1 (0 : Int32))) + (own_bit p1 (1 : Int32))))] [])) _
          refine XS.iloadN X6.here hx rfl (hb hby d3_32) rfl ?_
          show Steps p.tables e below (T6.setTop (mkF m 33 #[.val (.int p1), .val (.int p2), .val (.int (((0 : Int32) + (own_bit p1 (0 : Int32))) + (own_bit p1 (1 : Int32))))] [(.int (((0 : Int32) + (own_bit p1 (0 : Int32))) + (own_bit p1 (1 : Int32))))])) _
          refine XS.iloadN X6.here hx rfl (hb hby d3_33) rfl ?_
          show Steps p.tables e below (T6.setTop (mkF m 34 #[.val (.int p1), .val (.int p2), .val (.int (((0 : Int32) + (own_bit p1 (0 : Int32))) + (own_bit p1 (1 : Int32))))] [(.int p1), (.int (((0 : Int32) + (own_bit p1 (0 : Int32))) + (own_bit p1 (1 : Int32))))])) _
          refine XS.iconst X6.here hx rfl (hb hby d3_34) ?_
          show Steps p.tables e below (T6.setTop (mkF m 35 #[.val (.int p1), .val (.int p2), .val (.int (((0 : Int32) + (own_bit p1 (0 : Int32))) + (own_bit p1 (1 : Int32))))] [(.int (2 : Int32)), (.int p1), (.int (((0 : Int32) + (own_bit p1 (0 : Int32))) + (own_bit p1 (1 : Int32))))])) _
          refine st9 _ ?_
          show Steps p.tables e below (T9.setTop (mkF m 38 #[.val (.int p1), .val (.int p2), .val (.int (((0 : Int32) + (own_bit p1 (0 : Int32))) + (own_bit p1 (1 : Int32))))] [(.int (own_bit p1 (2 : Int32))), (.int (((0 : Int32) + (own_bit p1 (0 : Int32))) + (own_bit p1 (1 : Int32))))])) _
          refine XS.iadd X9.here hx rfl (hb hby d3_38) rfl ?_
          show Steps p.tables e below (T9.setTop (mkF m 39 #[.val (.int p1), .val (.int p2), .val (.int (((0 : Int32) + (own_bit p1 (0 : Int32))) + (own_bit p1 (1 : Int32))))] [(.int ((((0 : Int32) + (own_bit p1 (0 : Int32))) + (own_bit p1 (1 : Int32))) + (own_bit p1 (2 : Int32))))])) _
          refine XS.istoreN X9.here hx rfl (hb hby d3_39) rfl (l' := #[.val (.int p1), .val (.int p2), .val (.int ((((0 : Int32) + (own_bit p1 (0 : Int32))) + (own_bit p1 (1 : Int32))) + (own_bit p1 (2 : Int32))))]) rfl ?_
          show Steps p.tables e below (T9.setTop (mkF m 40 #[.val (.int p1), .val (.int p2), .val (.int ((((0 : Int32) + (own_bit p1 (0 : Int32))) + (own_bit p1 (1 : Int32))) + (own_bit p1 (2 : Int32))))] [])) _
          refine XS.iloadN X9.here hx rfl (hb hby d3_40) rfl ?_
          show Steps p.tables e below (T9.setTop (mkF m 41 #[.val (.int p1), .val (.int p2), .val (.int ((((0 : Int32) + (own_bit p1 (0 : Int32))) + (own_bit p1 (1 : Int32))) + (own_bit p1 (2 : Int32))))] [(.int p2)])) _
          refine XS.iconst X9.here hx rfl (hb hby d3_41) ?_
          exact k
        by_cases hc42_11 : (3 : Int32) < p2
        · obtain ⟨_, _, ⟨T12, L12, k12, n12⟩, -, X12, ⟨Lc12, hQ12, l12, y12, z12⟩, st12⟩ := Jvm.LawKit.callS X9 hx (y := (⟨"com/example/even_roster/evenroster/scim/HoldersRenumberedPinLaw", "bit", "(II)I"⟩ : MethodName)) hown (mvT hZ (hw _ (List.mem_of_getElem? (i := 2) rfl))) (mvT hZ (hw _ (List.mem_of_getElem? (i := 3) rfl))) (mvT hZ (hw _ (List.mem_of_getElem? (i := 4) rfl))) (mvT hZ (hw _ (List.mem_of_getElem? (i := 5) rfl))) (by decide) (backOf (W := 1) (rm1 l Z a0 hw [] p1 (3 : Int32) h0 n0 Z0) hZ (hw _ (List.mem_of_getElem? (i := 5) rfl)) (hw _ (List.mem_of_getElem? (i := 4) rfl)) (by decide) (by decide)) (g := (mkF m 48 #[.val (.int p1), .val (.int p2), .val (.int ((((0 : Int32) + (own_bit p1 (0 : Int32))) + (own_bit p1 (1 : Int32))) + (own_bit p1 (2 : Int32))))] [(.int (3 : Int32)), (.int p1), (.int ((((0 : Int32) + (own_bit p1 (0 : Int32))) + (own_bit p1 (1 : Int32))) + (own_bit p1 (2 : Int32))))])) rfl (by rw [hml]; rfl) (argsL := [(.int p1), (.int (3 : Int32))]) (rest := [(.int ((((0 : Int32) + (own_bit p1 (0 : Int32))) + (own_bit p1 (1 : Int32))) + (own_bit p1 (2 : Int32))))]) (lenOf pd_0 rfl) rfl (by show 2 * 0 + _ ≤ _; exact Nat.le_of_eq rfl) (hb hby d3_48) (fun _ _ => ⟨rfl, e9, (by decide : 0 + 0 ≤ _), (by decide : 0 + 0 ≤ _)⟩)
          dsimp only [Pt.U, Pt.locs, Pt.cells, Pt.slots] at X12 l12 y12 z12 st12 hQ12
          subst l12 y12 z12
          obtain ⟨rfl, N12q, e12⟩ := hQ12
          have N12 := Fr.app N9 N12q
          have pre13 : ∀ t, Steps p.tables e below (T12.setTop (mkF m 55 #[.val (.int p1), .val (.int p2), .val (.int (((((0 : Int32) + (own_bit p1 (0 : Int32))) + (own_bit p1 (1 : Int32))) + (own_bit p1 (2 : Int32))) + (own_bit p1 (3 : Int32))))] [(.int (4 : Int32)), (.int p2)])) t → Steps p.tables e below (s₁.setTop (entryFrame m #[(.int p1), (.int p2)] 3)) t := by
            intro t k
            refine pre10 t ?_
            show Steps p.tables e below (T9.setTop (mkF m 42 #[.val (.int p1), .val (.int p2), .val (.int ((((0 : Int32) + (own_bit p1 (0 : Int32))) + (own_bit p1 (1 : Int32))) + (own_bit p1 (2 : Int32))))] [(.int (3 : Int32)), (.int p2)])) _
            refine XS.icmpNo X9.here hx rfl (hb hby d3_42) rfl (tlt hc42_11).2.2.2 ?_
            show Steps p.tables e below (T9.setTop (mkF m 45 #[.val (.int p1), .val (.int p2), .val (.int ((((0 : Int32) + (own_bit p1 (0 : Int32))) + (own_bit p1 (1 : Int32))) + (own_bit p1 (2 : Int32))))] [])) _
            refine XS.iloadN X9.here hx rfl (hb hby d3_45) rfl ?_
            show Steps p.tables e below (T9.setTop (mkF m 46 #[.val (.int p1), .val (.int p2), .val (.int ((((0 : Int32) + (own_bit p1 (0 : Int32))) + (own_bit p1 (1 : Int32))) + (own_bit p1 (2 : Int32))))] [(.int ((((0 : Int32) + (own_bit p1 (0 : Int32))) + (own_bit p1 (1 : Int32))) + (own_bit p1 (2 : Int32))))])) _
            refine XS.iloadN X9.here hx rfl (hb hby d3_46) rfl ?_
            show Steps p.tables e below (T9.setTop (mkF m 47 #[.val (.int p1), .val (.int p2), .val (.int ((((0 : Int32) + (own_bit p1 (0 : Int32))) + (own_bit p1 (1 : Int32))) + (own_bit p1 (2 : Int32))))] [(.int p1), (.int ((((0 : Int32) + (own_bit p1 (0 : Int32))) + (own_bit p1 (1 : Int32))) + (own_bit p1 (2 : Int32))))])) _
            refine XS.iconst X9.here hx rfl (hb hby d3_47) ?_
            show Steps p.tables e below (T9.setTop (mkF m 48 #[.val (.int p1), .val (.int p2), .val (.int ((((0 : Int32) + (own_bit p1 (0 : Int32))) + (own_bit p1 (1 : Int32))) + (own_bit p1 (2 : Int32))))] [(.int (3 : Int32)), (.int p1), (.int ((((0 : Int32) + (own_bit p1 (0 : Int32))) + (own_bit p1 (1 : Int32))) + (own_bit p1 (2 : Int32))))])) _
            refine st12 _ ?_
            show Steps p.tables e below (T12.setTop (mkF m 51 #[.val (.int p1), .val (.int p2), .val (.int ((((0 : Int32) + (own_bit p1 (0 : Int32))) + (own_bit p1 (1 : Int32))) + (own_bit p1 (2 : Int32))))] [(.int (own_bit p1 (3 : Int32))), (.int ((((0 : Int32) + (own_bit p1 (0 : Int32))) + (own_bit p1 (1 : Int32))) + (own_bit p1 (2 : Int32))))])) _
            refine XS.iadd X12.here hx rfl (hb hby d3_51) rfl ?_
            show Steps p.tables e below (T12.setTop (mkF m 52 #[.val (.int p1), .val (.int p2), .val (.int ((((0 : Int32) + (own_bit p1 (0 : Int32))) + (own_bit p1 (1 : Int32))) + (own_bit p1 (2 : Int32))))] [(.int (((((0 : Int32) + (own_bit p1 (0 : Int32))) + (own_bit p1 (1 : Int32))) + (own_bit p1 (2 : Int32))) + (own_bit p1 (3 : Int32))))])) _
            refine XS.istoreN X12.here hx rfl (hb hby d3_52) rfl (l' := #[.val (.int p1), .val (.int p2), .val (.int (((((0 : Int32) + (own_bit p1 (0 : Int32))) + (own_bit p1 (1 : Int32))) + (own_bit p1 (2 : Int32))) + (own_bit p1 (3 : Int32))))]) rfl ?_
            show Steps p.tables e below (T12.setTop (mkF m 53 #[.val (.int p1), .val (.int p2), .val (.int (((((0 : Int32) + (own_bit p1 (0 : Int32))) + (own_bit p1 (1 : Int32))) + (own_bit p1 (2 : Int32))) + (own_bit p1 (3 : Int32))))] [])) _
            refine XS.iloadN X12.here hx rfl (hb hby d3_53) rfl ?_
            show Steps p.tables e below (T12.setTop (mkF m 54 #[.val (.int p1), .val (.int p2), .val (.int (((((0 : Int32) + (own_bit p1 (0 : Int32))) + (own_bit p1 (1 : Int32))) + (own_bit p1 (2 : Int32))) + (own_bit p1 (3 : Int32))))] [(.int p2)])) _
            refine XS.iconst X12.here hx rfl (hb hby d3_54) ?_
            exact k
          by_cases hc55_14 : (4 : Int32) < p2
          · obtain ⟨_, _, ⟨T15, L15, k15, n15⟩, -, X15, ⟨Lc15, hQ15, l15, y15, z15⟩, st15⟩ := Jvm.LawKit.callS X12 hx (y := (⟨"com/example/even_roster/evenroster/scim/HoldersRenumberedPinLaw", "bit", "(II)I"⟩ : MethodName)) hown (mvT hZ (hw _ (List.mem_of_getElem? (i := 2) rfl))) (mvT hZ (hw _ (List.mem_of_getElem? (i := 3) rfl))) (mvT hZ (hw _ (List.mem_of_getElem? (i := 4) rfl))) (mvT hZ (hw _ (List.mem_of_getElem? (i := 5) rfl))) (by decide) (backOf (W := 1) (rm1 l Z a0 hw [] p1 (4 : Int32) h0 n0 Z0) hZ (hw _ (List.mem_of_getElem? (i := 5) rfl)) (hw _ (List.mem_of_getElem? (i := 4) rfl)) (by decide) (by decide)) (g := (mkF m 61 #[.val (.int p1), .val (.int p2), .val (.int (((((0 : Int32) + (own_bit p1 (0 : Int32))) + (own_bit p1 (1 : Int32))) + (own_bit p1 (2 : Int32))) + (own_bit p1 (3 : Int32))))] [(.int (4 : Int32)), (.int p1), (.int (((((0 : Int32) + (own_bit p1 (0 : Int32))) + (own_bit p1 (1 : Int32))) + (own_bit p1 (2 : Int32))) + (own_bit p1 (3 : Int32))))])) rfl (by rw [hml]; rfl) (argsL := [(.int p1), (.int (4 : Int32))]) (rest := [(.int (((((0 : Int32) + (own_bit p1 (0 : Int32))) + (own_bit p1 (1 : Int32))) + (own_bit p1 (2 : Int32))) + (own_bit p1 (3 : Int32))))]) (lenOf pd_0 rfl) rfl (by show 2 * 0 + _ ≤ _; exact Nat.le_of_eq rfl) (hb hby d3_61) (fun _ _ => ⟨rfl, e12, (by decide : 0 + 0 ≤ _), (by decide : 0 + 0 ≤ _)⟩)
            dsimp only [Pt.U, Pt.locs, Pt.cells, Pt.slots] at X15 l15 y15 z15 st15 hQ15
            subst l15 y15 z15
            obtain ⟨rfl, N15q, e15⟩ := hQ15
            have N15 := Fr.app N12 N15q
            obtain ⟨fs, hr, hrun, hended, hW, hsame⟩ := X15.leave (v := some (.int ((((((0 : Int32) + (own_bit p1 (0 : Int32))) + (own_bit p1 (1 : Int32))) + (own_bit p1 (2 : Int32))) + (own_bit p1 (3 : Int32))) + (own_bit p1 (4 : Int32))))) (fun h => by rw [Bd.returns] at h; cases h)
            refine ⟨_, _, pre13 _ ?_, hrun, hended, _, _, rfl, ?_, ⟨_, rfl⟩, hW, hsame.mono (by decide) (by decide)⟩
            · show Steps p.tables e below (T12.setTop (mkF m 55 #[.val (.int p1), .val (.int p2), .val (.int (((((0 : Int32) + (own_bit p1 (0 : Int32))) + (own_bit p1 (1 : Int32))) + (own_bit p1 (2 : Int32))) + (own_bit p1 (3 : Int32))))] [(.int (4 : Int32)), (.int p2)])) _
              refine XS.icmpNo X12.here hx rfl (hb hby d3_55) rfl (tlt hc55_14).2.2.2 ?_
              show Steps p.tables e below (T12.setTop (mkF m 58 #[.val (.int p1), .val (.int p2), .val (.int (((((0 : Int32) + (own_bit p1 (0 : Int32))) + (own_bit p1 (1 : Int32))) + (own_bit p1 (2 : Int32))) + (own_bit p1 (3 : Int32))))] [])) _
              refine XS.iloadN X12.here hx rfl (hb hby d3_58) rfl ?_
              show Steps p.tables e below (T12.setTop (mkF m 59 #[.val (.int p1), .val (.int p2), .val (.int (((((0 : Int32) + (own_bit p1 (0 : Int32))) + (own_bit p1 (1 : Int32))) + (own_bit p1 (2 : Int32))) + (own_bit p1 (3 : Int32))))] [(.int (((((0 : Int32) + (own_bit p1 (0 : Int32))) + (own_bit p1 (1 : Int32))) + (own_bit p1 (2 : Int32))) + (own_bit p1 (3 : Int32))))])) _
              refine XS.iloadN X12.here hx rfl (hb hby d3_59) rfl ?_
              show Steps p.tables e below (T12.setTop (mkF m 60 #[.val (.int p1), .val (.int p2), .val (.int (((((0 : Int32) + (own_bit p1 (0 : Int32))) + (own_bit p1 (1 : Int32))) + (own_bit p1 (2 : Int32))) + (own_bit p1 (3 : Int32))))] [(.int p1), (.int (((((0 : Int32) + (own_bit p1 (0 : Int32))) + (own_bit p1 (1 : Int32))) + (own_bit p1 (2 : Int32))) + (own_bit p1 (3 : Int32))))])) _
              refine XS.iconst X12.here hx rfl (hb hby d3_60) ?_
              show Steps p.tables e below (T12.setTop (mkF m 61 #[.val (.int p1), .val (.int p2), .val (.int (((((0 : Int32) + (own_bit p1 (0 : Int32))) + (own_bit p1 (1 : Int32))) + (own_bit p1 (2 : Int32))) + (own_bit p1 (3 : Int32))))] [(.int (4 : Int32)), (.int p1), (.int (((((0 : Int32) + (own_bit p1 (0 : Int32))) + (own_bit p1 (1 : Int32))) + (own_bit p1 (2 : Int32))) + (own_bit p1 (3 : Int32))))])) _
              refine st15 _ ?_
              show Steps p.tables e below (T15.setTop (mkF m 64 #[.val (.int p1), .val (.int p2), .val (.int (((((0 : Int32) + (own_bit p1 (0 : Int32))) + (own_bit p1 (1 : Int32))) + (own_bit p1 (2 : Int32))) + (own_bit p1 (3 : Int32))))] [(.int (own_bit p1 (4 : Int32))), (.int (((((0 : Int32) + (own_bit p1 (0 : Int32))) + (own_bit p1 (1 : Int32))) + (own_bit p1 (2 : Int32))) + (own_bit p1 (3 : Int32))))])) _
              refine XS.iadd X15.here hx rfl (hb hby d3_64) rfl ?_
              show Steps p.tables e below (T15.setTop (mkF m 65 #[.val (.int p1), .val (.int p2), .val (.int (((((0 : Int32) + (own_bit p1 (0 : Int32))) + (own_bit p1 (1 : Int32))) + (own_bit p1 (2 : Int32))) + (own_bit p1 (3 : Int32))))] [(.int ((((((0 : Int32) + (own_bit p1 (0 : Int32))) + (own_bit p1 (1 : Int32))) + (own_bit p1 (2 : Int32))) + (own_bit p1 (3 : Int32))) + (own_bit p1 (4 : Int32))))])) _
              refine XS.istoreN X15.here hx rfl (hb hby d3_65) rfl (l' := #[.val (.int p1), .val (.int p2), .val (.int ((((((0 : Int32) + (own_bit p1 (0 : Int32))) + (own_bit p1 (1 : Int32))) + (own_bit p1 (2 : Int32))) + (own_bit p1 (3 : Int32))) + (own_bit p1 (4 : Int32))))]) rfl ?_
              show Steps p.tables e below (T15.setTop (mkF m 66 #[.val (.int p1), .val (.int p2), .val (.int ((((((0 : Int32) + (own_bit p1 (0 : Int32))) + (own_bit p1 (1 : Int32))) + (own_bit p1 (2 : Int32))) + (own_bit p1 (3 : Int32))) + (own_bit p1 (4 : Int32))))] [])) _
              refine XS.iloadN X15.here hx rfl (hb hby d3_66) rfl ?_
              show Steps p.tables e below (T15.setTop (mkF m 67 #[.val (.int p1), .val (.int p2), .val (.int ((((((0 : Int32) + (own_bit p1 (0 : Int32))) + (own_bit p1 (1 : Int32))) + (own_bit p1 (2 : Int32))) + (own_bit p1 (3 : Int32))) + (own_bit p1 (4 : Int32))))] [(.int ((((((0 : Int32) + (own_bit p1 (0 : Int32))) + (own_bit p1 (1 : Int32))) + (own_bit p1 (2 : Int32))) + (own_bit p1 (3 : Int32))) + (own_bit p1 (4 : Int32))))])) _
              exact retI X15 hx Bd.returns (hb hby d3_67) hr
            · show Q_rm3 Z p1 p2 h0 n0 _ T15.heap _
              rw [e15]
              exact ⟨by rw [own_cb, if_pos hc3_2, if_pos hc16_5, if_pos hc29_8, if_pos hc42_11, if_pos hc55_14], N15, rfl⟩
          · obtain ⟨fs, hr, hrun, hended, hW, hsame⟩ := X12.leave (v := some (.int (((((0 : Int32) + (own_bit p1 (0 : Int32))) + (own_bit p1 (1 : Int32))) + (own_bit p1 (2 : Int32))) + (own_bit p1 (3 : Int32))))) (fun h => by rw [Bd.returns] at h; cases h)
            refine ⟨_, _, pre13 _ ?_, hrun, hended, _, _, rfl, ?_, ⟨_, rfl⟩, hW, hsame.mono (by decide) (by decide)⟩
            · show Steps p.tables e below (T12.setTop (mkF m 55 #[.val (.int p1), .val (.int p2), .val (.int (((((0 : Int32) + (own_bit p1 (0 : Int32))) + (own_bit p1 (1 : Int32))) + (own_bit p1 (2 : Int32))) + (own_bit p1 (3 : Int32))))] [(.int (4 : Int32)), (.int p2)])) _
              refine XS.icmpYes X12.here hx rfl (pc0 := 55) (pc' := 66) rfl (hb hby d3_55) rfl (flt hc55_14).2.2.2 (by decide) (by decide) ?_
              show Steps p.tables e below (T12.setTop (mkF m 66 #[.val (.int p1), .val (.int p2), .val (.int (((((0 : Int32) + (own_bit p1 (0 : Int32))) + (own_bit p1 (1 : Int32))) + (own_bit p1 (2 : Int32))) + (own_bit p1 (3 : Int32))))] [])) _
              refine XS.iloadN X12.here hx rfl (hb hby d3_66) rfl ?_
              show Steps p.tables e below (T12.setTop (mkF m 67 #[.val (.int p1), .val (.int p2), .val (.int (((((0 : Int32) + (own_bit p1 (0 : Int32))) + (own_bit p1 (1 : Int32))) + (own_bit p1 (2 : Int32))) + (own_bit p1 (3 : Int32))))] [(.int (((((0 : Int32) + (own_bit p1 (0 : Int32))) + (own_bit p1 (1 : Int32))) + (own_bit p1 (2 : Int32))) + (own_bit p1 (3 : Int32))))])) _
              exact retI X12 hx Bd.returns (hb hby d3_67) hr
            · show Q_rm3 Z p1 p2 h0 n0 _ T12.heap _
              rw [e12]
              exact ⟨by rw [own_cb, if_pos hc3_2, if_pos hc16_5, if_pos hc29_8, if_pos hc42_11, if_neg hc55_14], N12, rfl⟩
        · obtain ⟨fs, hr, hrun, hended, hW, hsame⟩ := X9.leave (v := some (.int ((((0 : Int32) + (own_bit p1 (0 : Int32))) + (own_bit p1 (1 : Int32))) + (own_bit p1 (2 : Int32))))) (fun h => by rw [Bd.returns] at h; cases h)
          refine ⟨_, _, pre10 _ ?_, hrun, hended, _, _, rfl, ?_, ⟨_, rfl⟩, hW, hsame.mono (by decide) (by decide)⟩
          · show Steps p.tables e below (T9.setTop (mkF m 42 #[.val (.int p1), .val (.int p2), .val (.int ((((0 : Int32) + (own_bit p1 (0 : Int32))) + (own_bit p1 (1 : Int32))) + (own_bit p1 (2 : Int32))))] [(.int (3 : Int32)), (.int p2)])) _
            refine XS.icmpYes X9.here hx rfl (pc0 := 42) (pc' := 53) rfl (hb hby d3_42) rfl (flt hc42_11).2.2.2 (by decide) (by decide) ?_
            show Steps p.tables e below (T9.setTop (mkF m 53 #[.val (.int p1), .val (.int p2), .val (.int ((((0 : Int32) + (own_bit p1 (0 : Int32))) + (own_bit p1 (1 : Int32))) + (own_bit p1 (2 : Int32))))] [])) _
            refine XS.iloadN X9.here hx rfl (hb hby d3_53) rfl ?_
            show Steps p.tables e below (T9.setTop (mkF m 54 #[.val (.int p1), .val (.int p2), .val (.int ((((0 : Int32) + (own_bit p1 (0 : Int32))) + (own_bit p1 (1 : Int32))) + (own_bit p1 (2 : Int32))))] [(.int p2)])) _
            refine XS.iconst X9.here hx rfl (hb hby d3_54) ?_
            show Steps p.tables e below (T9.setTop (mkF m 55 #[.val (.int p1), .val (.int p2), .val (.int ((((0 : Int32) + (own_bit p1 (0 : Int32))) + (own_bit p1 (1 : Int32))) + (own_bit p1 (2 : Int32))))] [(.int (4 : Int32)), (.int p2)])) _
            refine XS.icmpYes X9.here hx rfl (pc0 := 55) (pc' := 66) rfl (hb hby d3_55) rfl (flt (fun q => hc42_11 (Int32.lt_trans (by decide : (3 : Int32) < (4 : Int32)) q))).2.2.2 (by decide) (by decide) ?_
            show Steps p.tables e below (T9.setTop (mkF m 66 #[.val (.int p1), .val (.int p2), .val (.int ((((0 : Int32) + (own_bit p1 (0 : Int32))) + (own_bit p1 (1 : Int32))) + (own_bit p1 (2 : Int32))))] [])) _
            refine XS.iloadN X9.here hx rfl (hb hby d3_66) rfl ?_
            show Steps p.tables e below (T9.setTop (mkF m 67 #[.val (.int p1), .val (.int p2), .val (.int ((((0 : Int32) + (own_bit p1 (0 : Int32))) + (own_bit p1 (1 : Int32))) + (own_bit p1 (2 : Int32))))] [(.int ((((0 : Int32) + (own_bit p1 (0 : Int32))) + (own_bit p1 (1 : Int32))) + (own_bit p1 (2 : Int32))))])) _
            exact retI X9 hx Bd.returns (hb hby d3_67) hr
          · show Q_rm3 Z p1 p2 h0 n0 _ T9.heap _
            rw [e9]
            exact ⟨by rw [own_cb, if_pos hc3_2, if_pos hc16_5, if_pos hc29_8, if_neg hc42_11], N9, rfl⟩
      · obtain ⟨fs, hr, hrun, hended, hW, hsame⟩ := X6.leave (v := some (.int (((0 : Int32) + (own_bit p1 (0 : Int32))) + (own_bit p1 (1 : Int32))))) (fun h => by rw [Bd.returns] at h; cases h)
        refine ⟨_, _, pre7 _ ?_, hrun, hended, _, _, rfl, ?_, ⟨_, rfl⟩, hW, hsame.mono (by decide) (by decide)⟩
        · show Steps p.tables e below (T6.setTop (mkF m 29 #[.val (.int p1), .val (.int p2), .val (.int (((0 : Int32) + (own_bit p1 (0 : Int32))) + (own_bit p1 (1 : Int32))))] [(.int (2 : Int32)), (.int p2)])) _
          refine XS.icmpYes X6.here hx rfl (pc0 := 29) (pc' := 40) rfl (hb hby d3_29) rfl (flt hc29_8).2.2.2 (by decide) (by decide) ?_
          show Steps p.tables e below (T6.setTop (mkF m 40 #[.val (.int p1), .val (.int p2), .val (.int (((0 : Int32) + (own_bit p1 (0 : Int32))) + (own_bit p1 (1 : Int32))))] [])) _
          refine XS.iloadN X6.here hx rfl (hb hby d3_40) rfl ?_
          show Steps p.tables e below (T6.setTop (mkF m 41 #[.val (.int p1), .val (.int p2), .val (.int (((0 : Int32) + (own_bit p1 (0 : Int32))) + (own_bit p1 (1 : Int32))))] [(.int p2)])) _
          refine XS.iconst X6.here hx rfl (hb hby d3_41) ?_
          show Steps p.tables e below (T6.setTop (mkF m 42 #[.val (.int p1), .val (.int p2), .val (.int (((0 : Int32) + (own_bit p1 (0 : Int32))) + (own_bit p1 (1 : Int32))))] [(.int (3 : Int32)), (.int p2)])) _
          refine XS.icmpYes X6.here hx rfl (pc0 := 42) (pc' := 53) rfl (hb hby d3_42) rfl (flt (fun q => hc29_8 (Int32.lt_trans (by decide : (2 : Int32) < (3 : Int32)) q))).2.2.2 (by decide) (by decide) ?_
          show Steps p.tables e below (T6.setTop (mkF m 53 #[.val (.int p1), .val (.int p2), .val (.int (((0 : Int32) + (own_bit p1 (0 : Int32))) + (own_bit p1 (1 : Int32))))] [])) _
          refine XS.iloadN X6.here hx rfl (hb hby d3_53) rfl ?_
          show Steps p.tables e below (T6.setTop (mkF m 54 #[.val (.int p1), .val (.int p2), .val (.int (((0 : Int32) + (own_bit p1 (0 : Int32))) + (own_bit p1 (1 : Int32))))] [(.int p2)])) _
          refine XS.iconst X6.here hx rfl (hb hby d3_54) ?_
          show Steps p.tables e below (T6.setTop (mkF m 55 #[.val (.int p1), .val (.int p2), .val (.int (((0 : Int32) + (own_bit p1 (0 : Int32))) + (own_bit p1 (1 : Int32))))] [(.int (4 : Int32)), (.int p2)])) _
          refine XS.icmpYes X6.here hx rfl (pc0 := 55) (pc' := 66) rfl (hb hby d3_55) rfl (flt (fun q => hc29_8 (Int32.lt_trans (by decide : (2 : Int32) < (4 : Int32)) q))).2.2.2 (by decide) (by decide) ?_
          show Steps p.tables e below (T6.setTop (mkF m 66 #[.val (.int p1), .val (.int p2), .val (.int (((0 : Int32) + (own_bit p1 (0 : Int32))) + (own_bit p1 (1 : Int32))))] [])) _
          refine XS.iloadN X6.here hx rfl (hb hby d3_66) rfl ?_
          show Steps p.tables e below (T6.setTop (mkF m 67 #[.val (.int p1), .val (.int p2), .val (.int (((0 : Int32) + (own_bit p1 (0 : Int32))) + (own_bit p1 (1 : Int32))))] [(.int (((0 : Int32) + (own_bit p1 (0 : Int32))) + (own_bit p1 (1 : Int32))))])) _
          exact retI X6 hx Bd.returns (hb hby d3_67) hr
        · show Q_rm3 Z p1 p2 h0 n0 _ T6.heap _
          rw [e6]
          exact ⟨by rw [own_cb, if_pos hc3_2, if_pos hc16_5, if_neg hc29_8], N6, rfl⟩
    · obtain ⟨fs, hr, hrun, hended, hW, hsame⟩ := X3.leave (v := some (.int ((0 : Int32) + (own_bit p1 (0 : Int32))))) (fun h => by rw [Bd.returns] at h; cases h)
      refine ⟨_, _, pre4 _ ?_, hrun, hended, _, _, rfl, ?_, ⟨_, rfl⟩, hW, hsame.mono (by decide) (by decide)⟩
      · show Steps p.tables e below (T3.setTop (mkF m 16 #[.val (.int p1), .val (.int p2), .val (.int ((0 : Int32) + (own_bit p1 (0 : Int32))))] [(.int (1 : Int32)), (.int p2)])) _
        refine XS.icmpYes X3.here hx rfl (pc0 := 16) (pc' := 27) rfl (hb hby d3_16) rfl (flt hc16_5).2.2.2 (by decide) (by decide) ?_
        show Steps p.tables e below (T3.setTop (mkF m 27 #[.val (.int p1), .val (.int p2), .val (.int ((0 : Int32) + (own_bit p1 (0 : Int32))))] [])) _
        refine XS.iloadN X3.here hx rfl (hb hby d3_27) rfl ?_
        show Steps p.tables e below (T3.setTop (mkF m 28 #[.val (.int p1), .val (.int p2), .val (.int ((0 : Int32) + (own_bit p1 (0 : Int32))))] [(.int p2)])) _
        refine XS.iconst X3.here hx rfl (hb hby d3_28) ?_
        show Steps p.tables e below (T3.setTop (mkF m 29 #[.val (.int p1), .val (.int p2), .val (.int ((0 : Int32) + (own_bit p1 (0 : Int32))))] [(.int (2 : Int32)), (.int p2)])) _
        refine XS.icmpYes X3.here hx rfl (pc0 := 29) (pc' := 40) rfl (hb hby d3_29) rfl (flt (fun q => hc16_5 (Int32.lt_trans (by decide : (1 : Int32) < (2 : Int32)) q))).2.2.2 (by decide) (by decide) ?_
        show Steps p.tables e below (T3.setTop (mkF m 40 #[.val (.int p1), .val (.int p2), .val (.int ((0 : Int32) + (own_bit p1 (0 : Int32))))] [])) _
        refine XS.iloadN X3.here hx rfl (hb hby d3_40) rfl ?_
        show Steps p.tables e below (T3.setTop (mkF m 41 #[.val (.int p1), .val (.int p2), .val (.int ((0 : Int32) + (own_bit p1 (0 : Int32))))] [(.int p2)])) _
        refine XS.iconst X3.here hx rfl (hb hby d3_41) ?_
        show Steps p.tables e below (T3.setTop (mkF m 42 #[.val (.int p1), .val (.int p2), .val (.int ((0 : Int32) + (own_bit p1 (0 : Int32))))] [(.int (3 : Int32)), (.int p2)])) _
        refine XS.icmpYes X3.here hx rfl (pc0 := 42) (pc' := 53) rfl (hb hby d3_42) rfl (flt (fun q => hc16_5 (Int32.lt_trans (by decide : (1 : Int32) < (3 : Int32)) q))).2.2.2 (by decide) (by decide) ?_
        show Steps p.tables e below (T3.setTop (mkF m 53 #[.val (.int p1), .val (.int p2), .val (.int ((0 : Int32) + (own_bit p1 (0 : Int32))))] [])) _
        refine XS.iloadN X3.here hx rfl (hb hby d3_53) rfl ?_
        show Steps p.tables e below (T3.setTop (mkF m 54 #[.val (.int p1), .val (.int p2), .val (.int ((0 : Int32) + (own_bit p1 (0 : Int32))))] [(.int p2)])) _
        refine XS.iconst X3.here hx rfl (hb hby d3_54) ?_
        show Steps p.tables e below (T3.setTop (mkF m 55 #[.val (.int p1), .val (.int p2), .val (.int ((0 : Int32) + (own_bit p1 (0 : Int32))))] [(.int (4 : Int32)), (.int p2)])) _
        refine XS.icmpYes X3.here hx rfl (pc0 := 55) (pc' := 66) rfl (hb hby d3_55) rfl (flt (fun q => hc16_5 (Int32.lt_trans (by decide : (1 : Int32) < (4 : Int32)) q))).2.2.2 (by decide) (by decide) ?_
        show Steps p.tables e below (T3.setTop (mkF m 66 #[.val (.int p1), .val (.int p2), .val (.int ((0 : Int32) + (own_bit p1 (0 : Int32))))] [])) _
        refine XS.iloadN X3.here hx rfl (hb hby d3_66) rfl ?_
        show Steps p.tables e below (T3.setTop (mkF m 67 #[.val (.int p1), .val (.int p2), .val (.int ((0 : Int32) + (own_bit p1 (0 : Int32))))] [(.int ((0 : Int32) + (own_bit p1 (0 : Int32))))])) _
        exact retI X3 hx Bd.returns (hb hby d3_67) hr
      · show Q_rm3 Z p1 p2 h0 n0 _ T3.heap _
        rw [e3]
        exact ⟨by rw [own_cb, if_pos hc3_2, if_neg hc16_5], N3, rfl⟩
  · obtain ⟨fs, hr, hrun, hended, hW, hsame⟩ := X0.leave (v := some (.int (0 : Int32))) (fun h => by rw [Bd.returns] at h; cases h)
    refine ⟨_, _, pre1 _ ?_, hrun, hended, _, _, rfl, ?_, ⟨_, rfl⟩, hW, hsame.mono (by decide) (by decide)⟩
    · show Steps p.tables e below (s₁.setTop (mkF m 3 #[.val (.int p1), .val (.int p2), .val (.int (0 : Int32))] [(.int p2)])) _
      refine XS.ifYes X0.here hx rfl (pc0 := 3) (pc' := 14) rfl (hb hby d3_3) rfl ((if0 _ _).trans (flt hc3_2).2.2.2) (by decide) (by decide) ?_
      show Steps p.tables e below (s₁.setTop (mkF m 14 #[.val (.int p1), .val (.int p2), .val (.int (0 : Int32))] [])) _
      refine XS.iloadN X0.here hx rfl (hb hby d3_14) rfl ?_
      show Steps p.tables e below (s₁.setTop (mkF m 15 #[.val (.int p1), .val (.int p2), .val (.int (0 : Int32))] [(.int p2)])) _
      refine XS.iconst X0.here hx rfl (hb hby d3_15) ?_
      show Steps p.tables e below (s₁.setTop (mkF m 16 #[.val (.int p1), .val (.int p2), .val (.int (0 : Int32))] [(.int (1 : Int32)), (.int p2)])) _
      refine XS.icmpYes X0.here hx rfl (pc0 := 16) (pc' := 27) rfl (hb hby d3_16) rfl (flt (fun q => hc3_2 (Int32.lt_trans (by decide : (0 : Int32) < (1 : Int32)) q))).2.2.2 (by decide) (by decide) ?_
      show Steps p.tables e below (s₁.setTop (mkF m 27 #[.val (.int p1), .val (.int p2), .val (.int (0 : Int32))] [])) _
      refine XS.iloadN X0.here hx rfl (hb hby d3_27) rfl ?_
      show Steps p.tables e below (s₁.setTop (mkF m 28 #[.val (.int p1), .val (.int p2), .val (.int (0 : Int32))] [(.int p2)])) _
      refine XS.iconst X0.here hx rfl (hb hby d3_28) ?_
      show Steps p.tables e below (s₁.setTop (mkF m 29 #[.val (.int p1), .val (.int p2), .val (.int (0 : Int32))] [(.int (2 : Int32)), (.int p2)])) _
      refine XS.icmpYes X0.here hx rfl (pc0 := 29) (pc' := 40) rfl (hb hby d3_29) rfl (flt (fun q => hc3_2 (Int32.lt_trans (by decide : (0 : Int32) < (2 : Int32)) q))).2.2.2 (by decide) (by decide) ?_
      show Steps p.tables e below (s₁.setTop (mkF m 40 #[.val (.int p1), .val (.int p2), .val (.int (0 : Int32))] [])) _
      refine XS.iloadN X0.here hx rfl (hb hby d3_40) rfl ?_
      show Steps p.tables e below (s₁.setTop (mkF m 41 #[.val (.int p1), .val (.int p2), .val (.int (0 : Int32))] [(.int p2)])) _
      refine XS.iconst X0.here hx rfl (hb hby d3_41) ?_
      show Steps p.tables e below (s₁.setTop (mkF m 42 #[.val (.int p1), .val (.int p2), .val (.int (0 : Int32))] [(.int (3 : Int32)), (.int p2)])) _
      refine XS.icmpYes X0.here hx rfl (pc0 := 42) (pc' := 53) rfl (hb hby d3_42) rfl (flt (fun q => hc3_2 (Int32.lt_trans (by decide : (0 : Int32) < (3 : Int32)) q))).2.2.2 (by decide) (by decide) ?_
      show Steps p.tables e below (s₁.setTop (mkF m 53 #[.val (.int p1), .val (.int p2), .val (.int (0 : Int32))] [])) _
      refine XS.iloadN X0.here hx rfl (hb hby d3_53) rfl ?_
      show Steps p.tables e below (s₁.setTop (mkF m 54 #[.val (.int p1), .val (.int p2), .val (.int (0 : Int32))] [(.int p2)])) _
      refine XS.iconst X0.here hx rfl (hb hby d3_54) ?_
      show Steps p.tables e below (s₁.setTop (mkF m 55 #[.val (.int p1), .val (.int p2), .val (.int (0 : Int32))] [(.int (4 : Int32)), (.int p2)])) _
      refine XS.icmpYes X0.here hx rfl (pc0 := 55) (pc' := 66) rfl (hb hby d3_55) rfl (flt (fun q => hc3_2 (Int32.lt_trans (by decide : (0 : Int32) < (4 : Int32)) q))).2.2.2 (by decide) (by decide) ?_
      show Steps p.tables e below (s₁.setTop (mkF m 66 #[.val (.int p1), .val (.int p2), .val (.int (0 : Int32))] [])) _
      refine XS.iloadN X0.here hx rfl (hb hby d3_66) rfl ?_
      show Steps p.tables e below (s₁.setTop (mkF m 67 #[.val (.int p1), .val (.int p2), .val (.int (0 : Int32))] [(.int (0 : Int32))])) _
      exact retI X0 hx Bd.returns (hb hby d3_67) hr
    · show Q_rm3 Z p1 p2 h0 n0 _ s₁.heap _
      rw [e0]
      exact ⟨by rw [own_cb, if_neg hc3_2], N0, rfl⟩
def own_r0 (m : Int32) : Int32 := (0 : Int32)
def own_r1 (m : Int32) : Int32 := own_r0 m + own_bit m (0 : Int32)
def own_r2 (m : Int32) : Int32 := own_r1 m + own_bit m (1 : Int32)
def own_r3 (m : Int32) : Int32 := own_r2 m + own_bit m (2 : Int32)
def own_r4 (m : Int32) : Int32 := own_r3 m + own_bit m (3 : Int32)
def own_r5 (m : Int32) : Int32 := own_r4 m + own_bit m (4 : Int32)
def own_r6 (m : Int32) : Int32 := own_r5 m + own_bit m (5 : Int32)
def own_f (m : Int32) (i : Nat) : Int32 := if i = 0 then own_r0 m else if i = 1 then own_r1 m else if i = 2 then own_r2 m else if i = 3 then own_r3 m else if i = 4 then own_r4 m else if i = 5 then own_r5 m else own_r6 m
def own_ren (f : Nat → Int32) (p : Int32) : Int32 := if p = (-1 : Int32) then (-1 : Int32) else if f p.toNatClampNeg < f (p + (1 : Int32)).toNatClampNeg then f p.toNatClampNeg else (-1 : Int32)
def own_exp (m p : Int32) : Int32 := if p = (-1 : Int32) then (-1 : Int32) else if own_bit m p = (0 : Int32) then (-1 : Int32) else own_cb m p
theorem own_fin : ∀ a : Fin 64, ∀ k : Fin 7, own_ren (own_f (Int32.ofInt (a.val : Int))) (Int32.ofInt ((k.val : Int) - 1)) = own_exp (Int32.ofInt (a.val : Int)) (Int32.ofInt ((k.val : Int) - 1)) := by decide +kernel
theorem own_main (p1 n : Int32) (h0 : -1 ≤ n.toInt) (h1 : n.toInt ≤ 5) : own_ren (own_f (p1 &&& (63 : Int32))) n = own_exp (p1 &&& (63 : Int32)) n := by
  have hm := c_mask p1 63 6 (by decide) (by decide)
  rw [show ((2 ^ 6 : Nat) : Int) = 64 from by decide] at hm
  generalize p1 &&& (63 : Int32) = m at hm ⊢
  have h := own_fin ⟨m.toInt.toNat, by omega⟩ ⟨(n.toInt + 1).toNat, by omega⟩
  have e1 : Int32.ofInt ((m.toInt.toNat : Nat) : Int) = m := by rw [Int.toNat_of_nonneg (by omega)]; exact Int32.ofInt_toInt m
  have e2 : Int32.ofInt ((((n.toInt + 1).toNat : Nat) : Int) - 1) = n := by rw [Int.toNat_of_nonneg (by omega), Int.add_sub_cancel]; exact Int32.ofInt_toInt n
  dsimp only at h
  rw [e1, e2] at h
  exact h
theorem own_num {p n : Int32} (h : n = (((p &&& (2147483647 : Int32)) - ((p &&& (2147483647 : Int32)) / (7 : Int32)) * (7 : Int32)) - (1 : Int32))) : -1 ≤ n.toInt ∧ n.toInt ≤ 5 := by
  have hm := c_and p 2147483647 (by decide)
  rw [irem_eq_mod] at h
  generalize p &&& (2147483647 : Int32) = q at hm h
  have hr := (c_irem q 7 7 (by decide)).1 hm.1
  have hs := c_isub (q % 7) 1
  have rr := rng32 (q % 7 - 1)
  rw [show (1 : Int32).toInt = 1 from by decide] at hs
  subst h
  omega
theorem own_ix {p : Int32} (h0 : -1 ≤ p.toInt) (h1 : p.toInt ≤ 5) (hne : ¬ p = (-1 : Int32)) : (¬ p < 0 ∧ p.toNatClampNeg < 7) ∧ (¬ (p + (1 : Int32)) < 0 ∧ (p + (1 : Int32)).toNatClampNeg < 7) := by
  have h2 : ¬ p.toInt = -1 := fun q => hne (Int32.toInt_inj.mp (q.trans (by decide)))
  have hs := c_iadd p 1
  rw [show (1 : Int32).toInt = 1 from by decide] at hs
  have rr := rng32 (p + 1)
  have k0 : (0 : Int32).toInt = 0 := by decide
  have a1 : ¬ p < 0 := by rw [Int32.lt_iff_toInt_lt, k0]; omega
  have a2 : ¬ (p + 1) < 0 := by rw [Int32.lt_iff_toInt_lt, k0]; omega
  have n1 := nat_of a1
  have n2 := nat_of a2
  exact ⟨⟨a1, by omega⟩, a2, by omega⟩
theorem d2_0 : decode prog_7_method_9_code 0 = .ok (.iload_n 1, 1) := by decide +kernel
theorem d2_1 : decode prog_7_method_9_code 1 = .ok (.iconst (-1), 1) := by decide +kernel
theorem d2_2 : decode prog_7_method_9_code 2 = .ok (.if_icmp .eq 20, 3) := by decide +kernel
theorem d2_5 : decode prog_7_method_9_code 5 = .ok (.aload_n 0, 1) := by decide +kernel
theorem d2_6 : decode prog_7_method_9_code 6 = .ok (.iload_n 1, 1) := by decide +kernel
theorem d2_7 : decode prog_7_method_9_code 7 = .ok (.iconst 1, 1) := by decide +kernel
theorem d2_8 : decode prog_7_method_9_code 8 = .ok (.iadd, 1) := by decide +kernel
theorem d2_9 : decode prog_7_method_9_code 9 = .ok (.iaload, 1) := by decide +kernel
theorem d2_10 : decode prog_7_method_9_code 10 = .ok (.aload_n 0, 1) := by decide +kernel
theorem d2_11 : decode prog_7_method_9_code 11 = .ok (.iload_n 1, 1) := by decide +kernel
theorem d2_12 : decode prog_7_method_9_code 12 = .ok (.iaload, 1) := by decide +kernel
theorem d2_13 : decode prog_7_method_9_code 13 = .ok (.if_icmp .le 9, 3) := by decide +kernel
theorem d2_16 : decode prog_7_method_9_code 16 = .ok (.aload_n 0, 1) := by decide +kernel
theorem d2_17 : decode prog_7_method_9_code 17 = .ok (.iload_n 1, 1) := by decide +kernel
theorem d2_18 : decode prog_7_method_9_code 18 = .ok (.iaload, 1) := by decide +kernel
theorem d2_19 : decode prog_7_method_9_code 19 = .ok (.goto 4, 3) := by decide +kernel
theorem d2_22 : decode prog_7_method_9_code 22 = .ok (.iconst (-1), 1) := by decide +kernel
theorem d2_23 : decode prog_7_method_9_code 23 = .ok (.ireturn, 1) := by decide +kernel
theorem pn_rm2 : plainName "com/example/even_roster/evenroster/scim/Holders" = true := by first | (simp [plainName, overriddenIn]; done) | decide +kernel
theorem ef_rm2 (m : MethodId) (x0 : Addr) (x1 : Int32) : entryFrame m #[(.ref x0), (.int x1)] 2 = mkF m 0 #[.val (.ref x0), .val (.int x1)] [] := by first | (simp [entryFrame, mkF, argsToLocals, Value.category]; done) | rfl
def Q_rm2 (Z : State) (a1 : Addr) (p2 : Int32) (f : Nat → Int32) (h0 : Heap) (n0 : Nat) (v : Option Value) (h : Heap) (L : List Loc) : Prop := v = some (.int (own_ren f p2)) ∧ Fr n0 L ∧ h = h0
set_option maxRecDepth 65536 in
set_option maxHeartbeats 40000000 in
theorem rm2 (l : Launch) (Z : State) (a0 : Array Value) (hw : ∀ d ∈ tables_1, d.before a0 Z = true) (ws : List Jvm.Cond) (a1 : Addr) (p2 : Int32) (f : Nat → Int32) (h0 : Heap) (n0 : Nat) (Z0 : n0 ≤ h0.size) (V0 : ArF Z h0 a1 .int 7 (fun i => .int (f i))) (q0 : -1 ≤ p2.toInt) (q1 : p2.toInt ≤ 5) :
    MetFree l (⟨"com/example/even_roster/evenroster/scim/Holders", "renumbered", "([II)I"⟩ : MethodName) (head1 (Jvm.Cond.code (⟨"com/example/even_roster/evenroster/scim/Holders", "renumbered", "([II)I"⟩ : MethodName) prog_7_method_9_code 2 (some .int) :: ws) ({ frames := 0, cells := 0, slots := 0, locals := 0 } : Room)) (fun a U => a = #[(.ref a1), (.int p2)] ∧ Z.Warmed39 U.vm ∧ U.heap = h0) (fun _ _ _ _ _ => True) (fun _ U o U' => ∃ v L, o = .returned v ∧ Q_rm2 Z a1 p2 f h0 n0 v U'.heap L ∧ FrameEnd U o U' L ({ frames := 0, cells := 0, slots := 0, locals := 0 } : Room).cells ({ frames := 0, cells := 0, slots := 0, locals := 0 } : Room).slots) := by
  refine MetFree.of_bodySF (plainFor_of_name pn_rm2) hisR ?_
  intro p e s m args below meth c s₁ Bd hml0 hP hK
  obtain ⟨rfl, hZ, hh⟩ := hP
  have hx := Bd.exec
  have hby := Bd.bytes
  have hml : c.maxLocals = 2 := hml0
  have hown : s.vm.findClass "com/example/even_roster/evenroster/scim/Holders" = some m.cls := findClass_of_methodNamed Bd.named
  have hnm := (name_of_methodNamed Bd.named Bd.method).1
  have X0 : Stand p l e ({ frames := 0, cells := 0, slots := 0, locals := 0 } : Room) s m #[(.ref a1), (.int p2)] below meth c s₁ [] 0 0 := Stand.of_body Bd
  have e0 : s₁.heap = h0 := by rw [← hh, Bd.state]; rfl
  have N0 := Fr.nil n0
  have pre0 : ∀ t, Steps p.tables e below (s₁.setTop (mkF m 0 #[.val (.ref a1), .val (.int p2)] [])) t → Steps p.tables e below (s₁.setTop (entryFrame m #[(.ref a1), (.int p2)] 2)) t := fun t k => castTop (ef_rm2 m a1 p2) k
  have pre1 : ∀ t, Steps p.tables e below (s₁.setTop (mkF m 2 #[.val (.ref a1), .val (.int p2)] [(.int (-1 : Int32)), (.int p2)])) t → Steps p.tables e below (s₁.setTop (entryFrame m #[(.ref a1), (.int p2)] 2)) t := by
    intro t k
    refine pre0 t ?_
    show Steps p.tables e below (s₁.setTop (mkF m 0 #[.val (.ref a1), .val (.int p2)] [])) _
    refine XS.iloadN X0.here hx rfl (hb hby d2_0) rfl ?_
    show Steps p.tables e below (s₁.setTop (mkF m 1 #[.val (.ref a1), .val (.int p2)] [(.int p2)])) _
    refine XS.iconst X0.here hx rfl (hb hby d2_1) ?_
    exact k
  by_cases hc2_2 : p2 = (-1 : Int32)
  · obtain ⟨fs, hr, hrun, hended, hW, hsame⟩ := X0.leave (v := some (.int (-1 : Int32))) (fun h => by rw [Bd.returns] at h; cases h)
    refine ⟨_, _, pre1 _ ?_, hrun, hended, _, _, rfl, ?_, ⟨_, rfl⟩, hW, hsame.mono (by decide) (by decide)⟩
    · show Steps p.tables e below (s₁.setTop (mkF m 2 #[.val (.ref a1), .val (.int p2)] [(.int (-1 : Int32)), (.int p2)])) _
      refine XS.icmpYes X0.here hx rfl (pc0 := 2) (pc' := 22) rfl (hb hby d2_2) rfl (teq hc2_2).1 (by decide) (by decide) ?_
      show Steps p.tables e below (s₁.setTop (mkF m 22 #[.val (.ref a1), .val (.int p2)] [])) _
      refine XS.iconst X0.here hx rfl (hb hby d2_22) ?_
      show Steps p.tables e below (s₁.setTop (mkF m 23 #[.val (.ref a1), .val (.int p2)] [(.int (-1 : Int32))])) _
      exact retI X0 hx Bd.returns (hb hby d2_23) hr
    · show Q_rm2 Z a1 p2 f h0 n0 _ s₁.heap _
      rw [e0]
      exact ⟨by rw [own_ren, if_pos hc2_2], N0, rfl⟩
  · obtain ⟨cl3, Ar3, S3, H3⟩ := id V0
    have hin3 : ¬ ((p2 + (1 : Int32)) < 0 ∨ cl3.slots.size ≤ ((p2 + (1 : Int32))).toNatClampNeg) := inA S3 (own_ix q0 q1 hc2_2).2.1 (own_ix q0 q1 hc2_2).2.2
    have hat3 : cl3.slots[((p2 + (1 : Int32))).toNatClampNeg]? = some (.int (f ((p2 + (1 : Int32))).toNatClampNeg)) := ArF.at S3 H3 hin3 rfl
    obtain ⟨cl4, Ar4, S4, H4⟩ := id V0
    have hin4 : ¬ (p2 < 0 ∨ cl4.slots.size ≤ (p2).toNatClampNeg) := inA S4 (own_ix q0 q1 hc2_2).1.1 (own_ix q0 q1 hc2_2).1.2
    have hat4 : cl4.slots[(p2).toNatClampNeg]? = some (.int (f (p2).toNatClampNeg)) := ArF.at S4 H4 hin4 rfl
    have pre5 : ∀ t, Steps p.tables e below (s₁.setTop (mkF m 13 #[.val (.ref a1), .val (.int p2)] [(.int (f (p2).toNatClampNeg)), (.int (f ((p2 + (1 : Int32))).toNatClampNeg))])) t → Steps p.tables e below (s₁.setTop (entryFrame m #[(.ref a1), (.int p2)] 2)) t := by
      intro t k
      refine pre1 t ?_
      show Steps p.tables e below (s₁.setTop (mkF m 2 #[.val (.ref a1), .val (.int p2)] [(.int (-1 : Int32)), (.int p2)])) _
      refine XS.icmpNo X0.here hx rfl (hb hby d2_2) rfl (feq hc2_2).1 ?_
      show Steps p.tables e below (s₁.setTop (mkF m 5 #[.val (.ref a1), .val (.int p2)] [])) _
      refine XS.aloadN X0.here hx rfl (hb hby d2_5) rfl rfl ?_
      show Steps p.tables e below (s₁.setTop (mkF m 6 #[.val (.ref a1), .val (.int p2)] [(.ref a1)])) _
      refine XS.iloadN X0.here hx rfl (hb hby d2_6) rfl ?_
      show Steps p.tables e below (s₁.setTop (mkF m 7 #[.val (.ref a1), .val (.int p2)] [(.int p2), (.ref a1)])) _
      refine XS.iconst X0.here hx rfl (hb hby d2_7) ?_
      show Steps p.tables e below (s₁.setTop (mkF m 8 #[.val (.ref a1), .val (.int p2)] [(.int (1 : Int32)), (.int p2), (.ref a1)])) _
      refine XS.iadd X0.here hx rfl (hb hby d2_8) rfl ?_
      show Steps p.tables e below (s₁.setTop (mkF m 9 #[.val (.ref a1), .val (.int p2)] [(.int (p2 + (1 : Int32))), (.ref a1)])) _
      refine X0.iaload hx (j := (p2 + (1 : Int32))) (v := (.int (f ((p2 + (1 : Int32))).toNatClampNeg))) (by rw [e0]; exact Ar3.1) (State.isArrayOf_alike hZ.alike Ar3.2.1) Ar3.2.2 hin3 hat3 (g := (mkF m 9 #[.val (.ref a1), .val (.int p2)] [(.int (p2 + (1 : Int32))), (.ref a1)])) rfl rfl (hb hby d2_9) _ ?_
      show Steps p.tables e below (s₁.setTop (mkF m 10 #[.val (.ref a1), .val (.int p2)] [(.int (f ((p2 + (1 : Int32))).toNatClampNeg))])) _
      refine XS.aloadN X0.here hx rfl (hb hby d2_10) rfl rfl ?_
      show Steps p.tables e below (s₁.setTop (mkF m 11 #[.val (.ref a1), .val (.int p2)] [(.ref a1), (.int (f ((p2 + (1 : Int32))).toNatClampNeg))])) _
      refine XS.iloadN X0.here hx rfl (hb hby d2_11) rfl ?_
      show Steps p.tables e below (s₁.setTop (mkF m 12 #[.val (.ref a1), .val (.int p2)] [(.int p2), (.ref a1), (.int (f ((p2 + (1 : Int32))).toNatClampNeg))])) _
      refine X0.iaload hx (j := p2) (v := (.int (f (p2).toNatClampNeg))) (by rw [e0]; exact Ar4.1) (State.isArrayOf_alike hZ.alike Ar4.2.1) Ar4.2.2 hin4 hat4 (g := (mkF m 12 #[.val (.ref a1), .val (.int p2)] [(.int p2), (.ref a1), (.int (f ((p2 + (1 : Int32))).toNatClampNeg))])) rfl rfl (hb hby d2_12) _ ?_
      exact k
    by_cases hc13_6 : (f (p2).toNatClampNeg) < (f ((p2 + (1 : Int32))).toNatClampNeg)
    · obtain ⟨cl7, Ar7, S7, H7⟩ := id V0
      have hin7 : ¬ (p2 < 0 ∨ cl7.slots.size ≤ (p2).toNatClampNeg) := inA S7 (own_ix q0 q1 hc2_2).1.1 (own_ix q0 q1 hc2_2).1.2
      have hat7 : cl7.slots[(p2).toNatClampNeg]? = some (.int (f (p2).toNatClampNeg)) := ArF.at S7 H7 hin7 rfl
      obtain ⟨fs, hr, hrun, hended, hW, hsame⟩ := X0.leave (v := some (.int (f (p2).toNatClampNeg))) (fun h => by rw [Bd.returns] at h; cases h)
      refine ⟨_, _, pre5 _ ?_, hrun, hended, _, _, rfl, ?_, ⟨_, rfl⟩, hW, hsame.mono (by decide) (by decide)⟩
      · show Steps p.tables e below (s₁.setTop (mkF m 13 #[.val (.ref a1), .val (.int p2)] [(.int (f (p2).toNatClampNeg)), (.int (f ((p2 + (1 : Int32))).toNatClampNeg))])) _
        refine XS.icmpNo X0.here hx rfl (hb hby d2_13) rfl (tlt hc13_6).2.2.2 ?_
        show Steps p.tables e below (s₁.setTop (mkF m 16 #[.val (.ref a1), .val (.int p2)] [])) _
        refine XS.aloadN X0.here hx rfl (hb hby d2_16) rfl rfl ?_
        show Steps p.tables e below (s₁.setTop (mkF m 17 #[.val (.ref a1), .val (.int p2)] [(.ref a1)])) _
        refine XS.iloadN X0.here hx rfl (hb hby d2_17) rfl ?_
        show Steps p.tables e below (s₁.setTop (mkF m 18 #[.val (.ref a1), .val (.int p2)] [(.int p2), (.ref a1)])) _
        refine X0.iaload hx (j := p2) (v := (.int (f (p2).toNatClampNeg))) (by rw [e0]; exact Ar7.1) (State.isArrayOf_alike hZ.alike Ar7.2.1) Ar7.2.2 hin7 hat7 (g := (mkF m 18 #[.val (.ref a1), .val (.int p2)] [(.int p2), (.ref a1)])) rfl rfl (hb hby d2_18) _ ?_
        show Steps p.tables e below (s₁.setTop (mkF m 19 #[.val (.ref a1), .val (.int p2)] [(.int (f (p2).toNatClampNeg))])) _
        refine XS.goto X0.here hx rfl (pc0 := 19) (pc' := 23) rfl (hb hby d2_19) (by decide) (by decide) ?_
        show Steps p.tables e below (s₁.setTop (mkF m 23 #[.val (.ref a1), .val (.int p2)] [(.int (f (p2).toNatClampNeg))])) _
        exact retI X0 hx Bd.returns (hb hby d2_23) hr
      · show Q_rm2 Z a1 p2 f h0 n0 _ s₁.heap _
        rw [e0]
        exact ⟨by rw [own_ren, if_neg hc2_2, if_pos hc13_6], N0, rfl⟩
    · obtain ⟨fs, hr, hrun, hended, hW, hsame⟩ := X0.leave (v := some (.int (-1 : Int32))) (fun h => by rw [Bd.returns] at h; cases h)
      refine ⟨_, _, pre5 _ ?_, hrun, hended, _, _, rfl, ?_, ⟨_, rfl⟩, hW, hsame.mono (by decide) (by decide)⟩
      · show Steps p.tables e below (s₁.setTop (mkF m 13 #[.val (.ref a1), .val (.int p2)] [(.int (f (p2).toNatClampNeg)), (.int (f ((p2 + (1 : Int32))).toNatClampNeg))])) _
        refine XS.icmpYes X0.here hx rfl (pc0 := 13) (pc' := 22) rfl (hb hby d2_13) rfl (flt hc13_6).2.2.2 (by decide) (by decide) ?_
        show Steps p.tables e below (s₁.setTop (mkF m 22 #[.val (.ref a1), .val (.int p2)] [])) _
        refine XS.iconst X0.here hx rfl (hb hby d2_22) ?_
        show Steps p.tables e below (s₁.setTop (mkF m 23 #[.val (.ref a1), .val (.int p2)] [(.int (-1 : Int32))])) _
        exact retI X0 hx Bd.returns (hb hby d2_23) hr
      · show Q_rm2 Z a1 p2 f h0 n0 _ s₁.heap _
        rw [e0]
        exact ⟨by rw [own_ren, if_neg hc2_2, if_neg hc13_6], N0, rfl⟩
theorem pn_rm0 : plainName "com/example/even_roster/evenroster/scim/HoldersRenumberedPinLaw" = true := by first | (simp [plainName, overriddenIn]; done) | decide +kernel
theorem ef_rm0 (m : MethodId) (x0 : Int32) (x1 : Int32) : entryFrame m #[(.int x0), (.int x1)] maxLocals = mkF m 0 #[.val (.int x0), .val (.int x1), .unset, .unset, .unset, .unset, .unset] [] := by first | (simp [entryFrame, mkF, argsToLocals, Value.category, maxLocals]; done) | rfl
def Q_rm0 (Z : State) (p1 : Int32) (p2 : Int32) (h0 : Heap) (n0 : Nat) (v : Option Value) (h : Heap) (L : List Loc) : Prop := v = some (.int 1) ∧ Fr n0 L
set_option maxRecDepth 65536 in
set_option maxHeartbeats 40000000 in
theorem rm0 (l : Launch) (Z : State) (a0 : Array Value) (hw : ∀ d ∈ tables_1, d.before a0 Z = true) (ws : List Jvm.Cond) (p1 : Int32) (p2 : Int32) (h0 : Heap) (n0 : Nat) (Z0 : n0 ≤ h0.size) :
    MetFree l x (head1 (Jvm.Cond.code x code maxLocals ret :: ws) room_1) (fun a U => a = #[(.int p1), (.int p2)] ∧ Z.Warmed39 U.vm ∧ U.heap = h0) (fun _ _ _ _ _ => True) (fun _ U o U' => ∃ v L, o = .returned v ∧ Q_rm0 Z p1 p2 h0 n0 v U'.heap L ∧ FrameEnd U o U' L room_1.cells room_1.slots) := by
  refine MetFree.of_bodySF (plainFor_of_name pn_rm0) hisR ?_
  intro p e s m args below meth c s₁ Bd hml0 hP hK
  obtain ⟨rfl, hZ, hh⟩ := hP
  have hx := Bd.exec
  have hby := Bd.bytes
  have hml : c.maxLocals = 7 := hml0
  have hown : s.vm.findClass "com/example/even_roster/evenroster/scim/HoldersRenumberedPinLaw" = some m.cls := findClass_of_methodNamed Bd.named
  have hnm := (name_of_methodNamed Bd.named Bd.method).1
  have X0 : Stand p l e room_1 s m #[(.int p1), (.int p2)] below meth c s₁ [] 0 0 := Stand.of_body Bd
  have e0 : s₁.heap = h0 := by rw [← hh, Bd.state]; rfl
  have N0 := Fr.nil n0
  have pre0 : ∀ t, Steps p.tables e below (s₁.setTop (mkF m 0 #[.val (.int p1), .val (.int p2), .unset, .unset, .unset, .unset, .unset] [])) t → Steps p.tables e below (s₁.setTop (entryFrame m #[(.int p1), (.int p2)] maxLocals)) t := fun t k => castTop (ef_rm0 m p1 p2) k
  obtain ⟨y1, hy1⟩ : ∃ z : Int32, z = (((p2 &&& (2147483647 : Int32)) - ((p2 &&& (2147483647 : Int32)) / (7 : Int32)) * (7 : Int32)) - (1 : Int32)) := ⟨_, rfl⟩
  obtain ⟨T2, h2, k2, X2, e2, E2, A2, st2⟩ := newP X0 hx hZ (hw _ (List.mem_of_getElem? (i := 1) rfl)) e0 (g := (mkF m 17 #[.val (.int p1), .val (.int p2), .val (.int (p1 &&& (63 : Int32))), .val (.int y1), .unset, .unset, .unset] [(.int (7 : Int32))])) rfl (hb hby at_17) rfl (by decide) (cap := 7) (by decide) (by decide) (by decide) (by decide)
  obtain ⟨b2, g2⟩ : ∃ z, z = h0.size := ⟨_, rfl⟩
  rw [← g2] at A2 st2
  have g_b2 : n0 ≤ b2 := Nat.le_trans Z0 (Nat.le_of_eq g2.symm)
  have Z2 : n0 ≤ h2.size := Nat.le_trans Z0 E2.1
  have V2_v2 : ArF Z h2 b2 .int 7 (fun _ => (.int 0)) := ArF.mk0 A2 rfl rfl
  obtain ⟨cl3, Ar3, S3, H3⟩ := id V2_v2
  have hin3 : ¬ ((0 : Int32) < 0 ∨ cl3.slots.size ≤ ((0 : Int32)).toNatClampNeg) := inA S3 (by decide) (by decide)
  obtain ⟨T3, h3, X3, e3, W3, st3⟩ := stI X2 hx hZ e2 Ar3 (j := (0 : Int32)) hin3 (g := (mkF m 25 #[.val (.int p1), .val (.int p2), .val (.int (p1 &&& (63 : Int32))), .val (.int y1), .val (.ref b2), .unset, .unset] [(.int (own_r0 (p1 &&& (63 : Int32)))), (.int (0 : Int32)), (.ref b2)])) rfl rfl (hb hby at_25)
  have Z3 : n0 ≤ h3.size := Nat.le_trans Z2 (Nat.le_of_eq W3.size.symm)
  have V3_v3 := ArF.set Ar3 S3 H3 W3 hin3
  have N3 := Fr.snoc X3 N0 g_b2
  obtain ⟨cl4, Ar4, S4, H4⟩ := id V3_v3
  have hin4 : ¬ ((0 : Int32) < 0 ∨ cl4.slots.size ≤ ((0 : Int32)).toNatClampNeg) := inA S4 (by decide) (by decide)
  have hat4 : cl4.slots[((0 : Int32)).toNatClampNeg]? = some (.int (own_r0 (p1 &&& (63 : Int32)))) := ArF.at S4 H4 hin4 rfl
  obtain ⟨_, _, ⟨T5, L5, k5, n5⟩, -, X5, ⟨Lc5, hQ5, l5, y5, z5⟩, st5⟩ := Jvm.LawKit.callS X3 hx (y := (⟨"com/example/even_roster/evenroster/scim/HoldersRenumberedPinLaw", "bit", "(II)I"⟩ : MethodName)) hown (mvT hZ (hw _ (List.mem_of_getElem? (i := 2) rfl))) (mvT hZ (hw _ (List.mem_of_getElem? (i := 3) rfl))) (mvT hZ (hw _ (List.mem_of_getElem? (i := 4) rfl))) (mvT hZ (hw _ (List.mem_of_getElem? (i := 5) rfl))) (by decide) (backOf (W := 3) (rm1 l Z a0 hw [] (p1 &&& (63 : Int32)) (0 : Int32) h3 n0 Z3) hZ (hw _ (List.mem_of_getElem? (i := 5) rfl)) (hw _ (List.mem_of_getElem? (i := 4) rfl)) (by decide) (by decide)) (g := (mkF m 35 #[.val (.int p1), .val (.int p2), .val (.int (p1 &&& (63 : Int32))), .val (.int y1), .val (.ref b2), .unset, .unset] [(.int (0 : Int32)), (.int (p1 &&& (63 : Int32))), (.int (own_r0 (p1 &&& (63 : Int32)))), (.int (1 : Int32)), (.ref b2)])) rfl (by rw [hml]; rfl) (argsL := [(.int (p1 &&& (63 : Int32))), (.int (0 : Int32))]) (rest := [(.int (own_r0 (p1 &&& (63 : Int32)))), (.int (1 : Int32)), (.ref b2)]) (lenOf pd_0 rfl) rfl (by show 2 * 0 + _ ≤ _; exact Nat.le_of_eq rfl) (hb hby at_35) (fun _ _ => ⟨rfl, e3, (by decide : 1 + 0 ≤ _), (by decide : 7 + 0 ≤ _)⟩)
  dsimp only [Pt.U, Pt.locs, Pt.cells, Pt.slots] at X5 l5 y5 z5 st5 hQ5
  subst l5 y5 z5
  obtain ⟨rfl, N5q, e5⟩ := hQ5
  have N5 := Fr.app N3 N5q
  obtain ⟨cl6, Ar6, S6, H6⟩ := id V3_v3
  have hin6 : ¬ ((1 : Int32) < 0 ∨ cl6.slots.size ≤ ((1 : Int32)).toNatClampNeg) := inA S6 (by decide) (by decide)
  obtain ⟨T6, h6, X6, e6, W6, st6⟩ := stI X5 hx hZ e5 Ar6 (j := (1 : Int32)) hin6 (g := (mkF m 39 #[.val (.int p1), .val (.int p2), .val (.int (p1 &&& (63 : Int32))), .val (.int y1), .val (.ref b2), .unset, .unset] [(.int (own_r1 (p1 &&& (63 : Int32)))), (.int (1 : Int32)), (.ref b2)])) rfl rfl (hb hby at_39)
  have Z6 : n0 ≤ h6.size := Nat.le_trans Z3 (Nat.le_of_eq W6.size.symm)
  have V6_v6 := ArF.set Ar6 S6 H6 W6 hin6
  have N6 := Fr.snoc X6 N5 g_b2
  obtain ⟨cl7, Ar7, S7, H7⟩ := id V6_v6
  have hin7 : ¬ ((1 : Int32) < 0 ∨ cl7.slots.size ≤ ((1 : Int32)).toNatClampNeg) := inA S7 (by decide) (by decide)
  have hat7 : cl7.slots[((1 : Int32)).toNatClampNeg]? = some (.int (own_r1 (p1 &&& (63 : Int32)))) := ArF.at S7 H7 hin7 rfl
  obtain ⟨_, _, ⟨T8, L8, k8, n8⟩, -, X8, ⟨Lc8, hQ8, l8, y8, z8⟩, st8⟩ := Jvm.LawKit.callS X6 hx (y := (⟨"com/example/even_roster/evenroster/scim/HoldersRenumberedPinLaw", "bit", "(II)I"⟩ : MethodName)) hown (mvT hZ (hw _ (List.mem_of_getElem? (i := 2) rfl))) (mvT hZ (hw _ (List.mem_of_getElem? (i := 3) rfl))) (mvT hZ (hw _ (List.mem_of_getElem? (i := 4) rfl))) (mvT hZ (hw _ (List.mem_of_getElem? (i := 5) rfl))) (by decide) (backOf (W := 3) (rm1 l Z a0 hw [] (p1 &&& (63 : Int32)) (1 : Int32) h6 n0 Z6) hZ (hw _ (List.mem_of_getElem? (i := 5) rfl)) (hw _ (List.mem_of_getElem? (i := 4) rfl)) (by decide) (by decide)) (g := (mkF m 49 #[.val (.int p1), .val (.int p2), .val (.int (p1 &&& (63 : Int32))), .val (.int y1), .val (.ref b2), .unset, .unset] [(.int (1 : Int32)), (.int (p1 &&& (63 : Int32))), (.int (own_r1 (p1 &&& (63 : Int32)))), (.int (2 : Int32)), (.ref b2)])) rfl (by rw [hml]; rfl) (argsL := [(.int (p1 &&& (63 : Int32))), (.int (1 : Int32))]) (rest := [(.int (own_r1 (p1 &&& (63 : Int32)))), (.int (2 : Int32)), (.ref b2)]) (lenOf pd_0 rfl) rfl (by show 2 * 0 + _ ≤ _; exact Nat.le_of_eq rfl) (hb hby at_49) (fun _ _ => ⟨rfl, e6, (by decide : 1 + 0 ≤ _), (by decide : 7 + 0 ≤ _)⟩)
  dsimp only [Pt.U, Pt.locs, Pt.cells, Pt.slots] at X8 l8 y8 z8 st8 hQ8
  subst l8 y8 z8
  obtain ⟨rfl, N8q, e8⟩ := hQ8
  have N8 := Fr.app N6 N8q
  obtain ⟨cl9, Ar9, S9, H9⟩ := id V6_v6
  have hin9 : ¬ ((2 : Int32) < 0 ∨ cl9.slots.size ≤ ((2 : Int32)).toNatClampNeg) := inA S9 (by decide) (by decide)
  obtain ⟨T9, h9, X9, e9, W9, st9⟩ := stI X8 hx hZ e8 Ar9 (j := (2 : Int32)) hin9 (g := (mkF m 53 #[.val (.int p1), .val (.int p2), .val (.int (p1 &&& (63 : Int32))), .val (.int y1), .val (.ref b2), .unset, .unset] [(.int (own_r2 (p1 &&& (63 : Int32)))), (.int (2 : Int32)), (.ref b2)])) rfl rfl (hb hby at_53)
  have Z9 : n0 ≤ h9.size := Nat.le_trans Z6 (Nat.le_of_eq W9.size.symm)
  have V9_v9 := ArF.set Ar9 S9 H9 W9 hin9
  have N9 := Fr.snoc X9 N8 g_b2
  obtain ⟨cl10, Ar10, S10, H10⟩ := id V9_v9
  have hin10 : ¬ ((2 : Int32) < 0 ∨ cl10.slots.size ≤ ((2 : Int32)).toNatClampNeg) := inA S10 (by decide) (by decide)
  have hat10 : cl10.slots[((2 : Int32)).toNatClampNeg]? = some (.int (own_r2 (p1 &&& (63 : Int32)))) := ArF.at S10 H10 hin10 rfl
  obtain ⟨_, _, ⟨T11, L11, k11, n11⟩, -, X11, ⟨Lc11, hQ11, l11, y11, z11⟩, st11⟩ := Jvm.LawKit.callS X9 hx (y := (⟨"com/example/even_roster/evenroster/scim/HoldersRenumberedPinLaw", "bit", "(II)I"⟩ : MethodName)) hown (mvT hZ (hw _ (List.mem_of_getElem? (i := 2) rfl))) (mvT hZ (hw _ (List.mem_of_getElem? (i := 3) rfl))) (mvT hZ (hw _ (List.mem_of_getElem? (i := 4) rfl))) (mvT hZ (hw _ (List.mem_of_getElem? (i := 5) rfl))) (by decide) (backOf (W := 3) (rm1 l Z a0 hw [] (p1 &&& (63 : Int32)) (2 : Int32) h9 n0 Z9) hZ (hw _ (List.mem_of_getElem? (i := 5) rfl)) (hw _ (List.mem_of_getElem? (i := 4) rfl)) (by decide) (by decide)) (g := (mkF m 63 #[.val (.int p1), .val (.int p2), .val (.int (p1 &&& (63 : Int32))), .val (.int y1), .val (.ref b2), .unset, .unset] [(.int (2 : Int32)), (.int (p1 &&& (63 : Int32))), (.int (own_r2 (p1 &&& (63 : Int32)))), (.int (3 : Int32)), (.ref b2)])) rfl (by rw [hml]; rfl) (argsL := [(.int (p1 &&& (63 : Int32))), (.int (2 : Int32))]) (rest := [(.int (own_r2 (p1 &&& (63 : Int32)))), (.int (3 : Int32)), (.ref b2)]) (lenOf pd_0 rfl) rfl (by show 2 * 0 + _ ≤ _; exact Nat.le_of_eq rfl) (hb hby at_63) (fun _ _ => ⟨rfl, e9, (by decide : 1 + 0 ≤ _), (by decide : 7 + 0 ≤ _)⟩)
  dsimp only [Pt.U, Pt.locs, Pt.cells, Pt.slots] at X11 l11 y11 z11 st11 hQ11
  subst l11 y11 z11
  obtain ⟨rfl, N11q, e11⟩ := hQ11
  have N11 := Fr.app N9 N11q
  obtain ⟨cl12, Ar12, S12, H12⟩ := id V9_v9
  have hin12 : ¬ ((3 : Int32) < 0 ∨ cl12.slots.size ≤ ((3 : Int32)).toNatClampNeg) := inA S12 (by decide) (by decide)
  obtain ⟨T12, h12, X12, e12, W12, st12⟩ := stI X11 hx hZ e11 Ar12 (j := (3 : Int32)) hin12 (g := (mkF m 67 #[.val (.int p1), .val (.int p2), .val (.int (p1 &&& (63 : Int32))), .val (.int y1), .val (.ref b2), .unset, .unset] [(.int (own_r3 (p1 &&& (63 : Int32)))), (.int (3 : Int32)), (.ref b2)])) rfl rfl (hb hby at_67)
  have Z12 : n0 ≤ h12.size := Nat.le_trans Z9 (Nat.le_of_eq W12.size.symm)
  have V12_v12 := ArF.set Ar12 S12 H12 W12 hin12
  have N12 := Fr.snoc X12 N11 g_b2
  obtain ⟨cl13, Ar13, S13, H13⟩ := id V12_v12
  have hin13 : ¬ ((3 : Int32) < 0 ∨ cl13.slots.size ≤ ((3 : Int32)).toNatClampNeg) := inA S13 (by decide) (by decide)
  have hat13 : cl13.slots[((3 : Int32)).toNatClampNeg]? = some (.int (own_r3 (p1 &&& (63 : Int32)))) := ArF.at S13 H13 hin13 rfl
  obtain ⟨_, _, ⟨T14, L14, k14, n14⟩, -, X14, ⟨Lc14, hQ14, l14, y14, z14⟩, st14⟩ := Jvm.LawKit.callS X12 hx (y := (⟨"com/example/even_roster/evenroster/scim/HoldersRenumberedPinLaw", "bit", "(II)I"⟩ : MethodName)) hown (mvT hZ (hw _ (List.mem_of_getElem? (i := 2) rfl))) (mvT hZ (hw _ (List.mem_of_getElem? (i := 3) rfl))) (mvT hZ (hw _ (List.mem_of_getElem? (i := 4) rfl))) (mvT hZ (hw _ (List.mem_of_getElem? (i := 5) rfl))) (by decide) (backOf (W := 3) (rm1 l Z a0 hw [] (p1 &&& (63 : Int32)) (3 : Int32) h12 n0 Z12) hZ (hw _ (List.mem_of_getElem? (i := 5) rfl)) (hw _ (List.mem_of_getElem? (i := 4) rfl)) (by decide) (by decide)) (g := (mkF m 77 #[.val (.int p1), .val (.int p2), .val (.int (p1 &&& (63 : Int32))), .val (.int y1), .val (.ref b2), .unset, .unset] [(.int (3 : Int32)), (.int (p1 &&& (63 : Int32))), (.int (own_r3 (p1 &&& (63 : Int32)))), (.int (4 : Int32)), (.ref b2)])) rfl (by rw [hml]; rfl) (argsL := [(.int (p1 &&& (63 : Int32))), (.int (3 : Int32))]) (rest := [(.int (own_r3 (p1 &&& (63 : Int32)))), (.int (4 : Int32)), (.ref b2)]) (lenOf pd_0 rfl) rfl (by show 2 * 0 + _ ≤ _; exact Nat.le_of_eq rfl) (hb hby at_77) (fun _ _ => ⟨rfl, e12, (by decide : 1 + 0 ≤ _), (by decide : 7 + 0 ≤ _)⟩)
  dsimp only [Pt.U, Pt.locs, Pt.cells, Pt.slots] at X14 l14 y14 z14 st14 hQ14
  subst l14 y14 z14
  obtain ⟨rfl, N14q, e14⟩ := hQ14
  have N14 := Fr.app N12 N14q
  obtain ⟨cl15, Ar15, S15, H15⟩ := id V12_v12
  have hin15 : ¬ ((4 : Int32) < 0 ∨ cl15.slots.size ≤ ((4 : Int32)).toNatClampNeg) := inA S15 (by decide) (by decide)
  obtain ⟨T15, h15, X15, e15, W15, st15⟩ := stI X14 hx hZ e14 Ar15 (j := (4 : Int32)) hin15 (g := (mkF m 81 #[.val (.int p1), .val (.int p2), .val (.int (p1 &&& (63 : Int32))), .val (.int y1), .val (.ref b2), .unset, .unset] [(.int (own_r4 (p1 &&& (63 : Int32)))), (.int (4 : Int32)), (.ref b2)])) rfl rfl (hb hby at_81)
  have Z15 : n0 ≤ h15.size := Nat.le_trans Z12 (Nat.le_of_eq W15.size.symm)
  have V15_v15 := ArF.set Ar15 S15 H15 W15 hin15
  have N15 := Fr.snoc X15 N14 g_b2
  obtain ⟨cl16, Ar16, S16, H16⟩ := id V15_v15
  have hin16 : ¬ ((4 : Int32) < 0 ∨ cl16.slots.size ≤ ((4 : Int32)).toNatClampNeg) := inA S16 (by decide) (by decide)
  have hat16 : cl16.slots[((4 : Int32)).toNatClampNeg]? = some (.int (own_r4 (p1 &&& (63 : Int32)))) := ArF.at S16 H16 hin16 rfl
  obtain ⟨_, _, ⟨T17, L17, k17, n17⟩, -, X17, ⟨Lc17, hQ17, l17, y17, z17⟩, st17⟩ := Jvm.LawKit.callS X15 hx (y := (⟨"com/example/even_roster/evenroster/scim/HoldersRenumberedPinLaw", "bit", "(II)I"⟩ : MethodName)) hown (mvT hZ (hw _ (List.mem_of_getElem? (i := 2) rfl))) (mvT hZ (hw _ (List.mem_of_getElem? (i := 3) rfl))) (mvT hZ (hw _ (List.mem_of_getElem? (i := 4) rfl))) (mvT hZ (hw _ (List.mem_of_getElem? (i := 5) rfl))) (by decide) (backOf (W := 3) (rm1 l Z a0 hw [] (p1 &&& (63 : Int32)) (4 : Int32) h15 n0 Z15) hZ (hw _ (List.mem_of_getElem? (i := 5) rfl)) (hw _ (List.mem_of_getElem? (i := 4) rfl)) (by decide) (by decide)) (g := (mkF m 91 #[.val (.int p1), .val (.int p2), .val (.int (p1 &&& (63 : Int32))), .val (.int y1), .val (.ref b2), .unset, .unset] [(.int (4 : Int32)), (.int (p1 &&& (63 : Int32))), (.int (own_r4 (p1 &&& (63 : Int32)))), (.int (5 : Int32)), (.ref b2)])) rfl (by rw [hml]; rfl) (argsL := [(.int (p1 &&& (63 : Int32))), (.int (4 : Int32))]) (rest := [(.int (own_r4 (p1 &&& (63 : Int32)))), (.int (5 : Int32)), (.ref b2)]) (lenOf pd_0 rfl) rfl (by show 2 * 0 + _ ≤ _; exact Nat.le_of_eq rfl) (hb hby at_91) (fun _ _ => ⟨rfl, e15, (by decide : 1 + 0 ≤ _), (by decide : 7 + 0 ≤ _)⟩)
  dsimp only [Pt.U, Pt.locs, Pt.cells, Pt.slots] at X17 l17 y17 z17 st17 hQ17
  subst l17 y17 z17
  obtain ⟨rfl, N17q, e17⟩ := hQ17
  have N17 := Fr.app N15 N17q
  obtain ⟨cl18, Ar18, S18, H18⟩ := id V15_v15
  have hin18 : ¬ ((5 : Int32) < 0 ∨ cl18.slots.size ≤ ((5 : Int32)).toNatClampNeg) := inA S18 (by decide) (by decide)
  obtain ⟨T18, h18, X18, e18, W18, st18⟩ := stI X17 hx hZ e17 Ar18 (j := (5 : Int32)) hin18 (g := (mkF m 95 #[.val (.int p1), .val (.int p2), .val (.int (p1 &&& (63 : Int32))), .val (.int y1), .val (.ref b2), .unset, .unset] [(.int (own_r5 (p1 &&& (63 : Int32)))), (.int (5 : Int32)), (.ref b2)])) rfl rfl (hb hby at_95)
  have Z18 : n0 ≤ h18.size := Nat.le_trans Z15 (Nat.le_of_eq W18.size.symm)
  have V18_v18 := ArF.set Ar18 S18 H18 W18 hin18
  have N18 := Fr.snoc X18 N17 g_b2
  obtain ⟨cl19, Ar19, S19, H19⟩ := id V18_v18
  have hin19 : ¬ ((5 : Int32) < 0 ∨ cl19.slots.size ≤ ((5 : Int32)).toNatClampNeg) := inA S19 (by decide) (by decide)
  have hat19 : cl19.slots[((5 : Int32)).toNatClampNeg]? = some (.int (own_r5 (p1 &&& (63 : Int32)))) := ArF.at S19 H19 hin19 rfl
  obtain ⟨_, _, ⟨T20, L20, k20, n20⟩, -, X20, ⟨Lc20, hQ20, l20, y20, z20⟩, st20⟩ := Jvm.LawKit.callS X18 hx (y := (⟨"com/example/even_roster/evenroster/scim/HoldersRenumberedPinLaw", "bit", "(II)I"⟩ : MethodName)) hown (mvT hZ (hw _ (List.mem_of_getElem? (i := 2) rfl))) (mvT hZ (hw _ (List.mem_of_getElem? (i := 3) rfl))) (mvT hZ (hw _ (List.mem_of_getElem? (i := 4) rfl))) (mvT hZ (hw _ (List.mem_of_getElem? (i := 5) rfl))) (by decide) (backOf (W := 3) (rm1 l Z a0 hw [] (p1 &&& (63 : Int32)) (5 : Int32) h18 n0 Z18) hZ (hw _ (List.mem_of_getElem? (i := 5) rfl)) (hw _ (List.mem_of_getElem? (i := 4) rfl)) (by decide) (by decide)) (g := (mkF m 106 #[.val (.int p1), .val (.int p2), .val (.int (p1 &&& (63 : Int32))), .val (.int y1), .val (.ref b2), .unset, .unset] [(.int (5 : Int32)), (.int (p1 &&& (63 : Int32))), (.int (own_r5 (p1 &&& (63 : Int32)))), (.int (6 : Int32)), (.ref b2)])) rfl (by rw [hml]; rfl) (argsL := [(.int (p1 &&& (63 : Int32))), (.int (5 : Int32))]) (rest := [(.int (own_r5 (p1 &&& (63 : Int32)))), (.int (6 : Int32)), (.ref b2)]) (lenOf pd_0 rfl) rfl (by show 2 * 0 + _ ≤ _; exact Nat.le_of_eq rfl) (hb hby at_106) (fun _ _ => ⟨rfl, e18, (by decide : 1 + 0 ≤ _), (by decide : 7 + 0 ≤ _)⟩)
  dsimp only [Pt.U, Pt.locs, Pt.cells, Pt.slots] at X20 l20 y20 z20 st20 hQ20
  subst l20 y20 z20
  obtain ⟨rfl, N20q, e20⟩ := hQ20
  have N20 := Fr.app N18 N20q
  obtain ⟨cl21, Ar21, S21, H21⟩ := id V18_v18
  have hin21 : ¬ ((6 : Int32) < 0 ∨ cl21.slots.size ≤ ((6 : Int32)).toNatClampNeg) := inA S21 (by decide) (by decide)
  obtain ⟨T21, h21, X21, e21, W21, st21⟩ := stI X20 hx hZ e20 Ar21 (j := (6 : Int32)) hin21 (g := (mkF m 110 #[.val (.int p1), .val (.int p2), .val (.int (p1 &&& (63 : Int32))), .val (.int y1), .val (.ref b2), .unset, .unset] [(.int (own_r6 (p1 &&& (63 : Int32)))), (.int (6 : Int32)), (.ref b2)])) rfl rfl (hb hby at_110)
  have Z21 : n0 ≤ h21.size := Nat.le_trans Z18 (Nat.le_of_eq W21.size.symm)
  have V21_v21 := ArF.set Ar21 S21 H21 W21 hin21
  have N21 := Fr.snoc X21 N20 g_b2
  obtain ⟨q0, q1⟩ := own_num hy1
  have VF : ArF Z h21 b2 .int 7 (fun i => .int (own_f (p1 &&& (63 : Int32)) i)) := V21_v21.congr (fun i hi => by
    match i, hi with
    | 0, _ => rfl
    | 1, _ => rfl
    | 2, _ => rfl
    | 3, _ => rfl
    | 4, _ => rfl
    | 5, _ => rfl
    | 6, _ => rfl)
  obtain ⟨_, _, ⟨T22, L22, k22, n22⟩, -, X22, ⟨Lc22, hQ22, l22, y22, z22⟩, st22⟩ := Jvm.LawKit.callS X21 hx (y := (⟨"com/example/even_roster/evenroster/scim/Holders", "renumbered", "([II)I"⟩ : MethodName)) hown (mvT hZ (hw _ (List.mem_of_getElem? (i := 6) rfl))) (mvT hZ (hw _ (List.mem_of_getElem? (i := 7) rfl))) (mvT hZ (hw _ (List.mem_of_getElem? (i := 8) rfl))) (mvT hZ (hw _ (List.mem_of_getElem? (i := 9) rfl))) (by decide) (backOf (W := 0) (rm2 l Z a0 hw [] b2 y1 (own_f (p1 &&& (63 : Int32))) h21 n0 Z21 VF q0 q1) hZ (hw _ (List.mem_of_getElem? (i := 9) rfl)) (hw _ (List.mem_of_getElem? (i := 8) rfl)) (by decide) (by decide)) (g := (mkF m 114 #[.val (.int p1), .val (.int p2), .val (.int (p1 &&& (63 : Int32))), .val (.int y1), .val (.ref b2), .unset, .unset] [(.int y1), (.ref b2)])) rfl (by rw [hml]; rfl) (argsL := [(.ref b2), (.int y1)]) (rest := []) (lenOf pd_1 rfl) rfl (by show 2 * 0 + _ ≤ _; exact Nat.le_of_eq rfl) (hb hby at_114) (fun _ _ => ⟨rfl, e21, (by decide : 1 + 0 ≤ _), (by decide : 7 + 0 ≤ _)⟩)
  dsimp only [Pt.U, Pt.locs, Pt.cells, Pt.slots] at X22 l22 y22 z22 st22 hQ22
  subst l22 y22 z22
  obtain ⟨rfl, N22q, e22⟩ := hQ22
  have N22 := Fr.app N21 N22q
  have pre23 : ∀ t, Steps p.tables e below (T22.setTop (mkF m 121 #[.val (.int p1), .val (.int p2), .val (.int (p1 &&& (63 : Int32))), .val (.int y1), .val (.ref b2), .val (.int (own_ren (own_f (p1 &&& (63 : Int32))) y1)), .unset] [(.int (-1 : Int32)), (.int y1)])) t → Steps p.tables e below (s₁.setTop (entryFrame m #[(.int p1), (.int p2)] maxLocals)) t := by
    intro t k
    refine pre0 t ?_
    show Steps p.tables e below (s₁.setTop (mkF m 0 #[.val (.int p1), .val (.int p2), .unset, .unset, .unset, .unset, .unset] [])) _
    refine XS.iloadN X0.here hx rfl (hb hby at_0) rfl ?_
    show Steps p.tables e below (s₁.setTop (mkF m 1 #[.val (.int p1), .val (.int p2), .unset, .unset, .unset, .unset, .unset] [(.int p1)])) _
    refine XS.bipush X0.here hx rfl (hb hby at_1) ?_
    show Steps p.tables e below (s₁.setTop (mkF m 3 #[.val (.int p1), .val (.int p2), .unset, .unset, .unset, .unset, .unset] [(.int (63 : Int32)), (.int p1)])) _
    refine XS.iand X0.here hx rfl (hb hby at_3) rfl ?_
    show Steps p.tables e below (s₁.setTop (mkF m 4 #[.val (.int p1), .val (.int p2), .unset, .unset, .unset, .unset, .unset] [(.int (p1 &&& (63 : Int32)))])) _
    refine XS.istoreN X0.here hx rfl (hb hby at_4) rfl (l' := #[.val (.int p1), .val (.int p2), .val (.int (p1 &&& (63 : Int32))), .unset, .unset, .unset, .unset]) rfl ?_
    show Steps p.tables e below (s₁.setTop (mkF m 5 #[.val (.int p1), .val (.int p2), .val (.int (p1 &&& (63 : Int32))), .unset, .unset, .unset, .unset] [])) _
    refine XS.iloadN X0.here hx rfl (hb hby at_5) rfl ?_
    show Steps p.tables e below (s₁.setTop (mkF m 6 #[.val (.int p1), .val (.int p2), .val (.int (p1 &&& (63 : Int32))), .unset, .unset, .unset, .unset] [(.int p2)])) _
    refine X0.ldcInt hx hown (mvT hZ (hw _ (List.mem_of_getElem? (i := 0) rfl))) (g := (mkF m 6 #[.val (.int p1), .val (.int p2), .val (.int (p1 &&& (63 : Int32))), .unset, .unset, .unset, .unset] [(.int p2)])) rfl (hb hby at_6) _ ?_
    show Steps p.tables e below (s₁.setTop (mkF m 8 #[.val (.int p1), .val (.int p2), .val (.int (p1 &&& (63 : Int32))), .unset, .unset, .unset, .unset] [(.int (2147483647 : Int32)), (.int p2)])) _
    refine XS.iand X0.here hx rfl (hb hby at_8) rfl ?_
    show Steps p.tables e below (s₁.setTop (mkF m 9 #[.val (.int p1), .val (.int p2), .val (.int (p1 &&& (63 : Int32))), .unset, .unset, .unset, .unset] [(.int (p2 &&& (2147483647 : Int32)))])) _
    refine XS.bipush X0.here hx rfl (hb hby at_9) ?_
    show Steps p.tables e below (s₁.setTop (mkF m 11 #[.val (.int p1), .val (.int p2), .val (.int (p1 &&& (63 : Int32))), .unset, .unset, .unset, .unset] [(.int (7 : Int32)), (.int (p2 &&& (2147483647 : Int32)))])) _
    refine XS.irem X0.here hx rfl (hb hby at_11) rfl (by decide) ?_
    show Steps p.tables e below (s₁.setTop (mkF m 12 #[.val (.int p1), .val (.int p2), .val (.int (p1 &&& (63 : Int32))), .unset, .unset, .unset, .unset] [(.int ((p2 &&& (2147483647 : Int32)) - ((p2 &&& (2147483647 : Int32)) / (7 : Int32)) * (7 : Int32)))])) _
    refine XS.iconst X0.here hx rfl (hb hby at_12) ?_
    show Steps p.tables e below (s₁.setTop (mkF m 13 #[.val (.int p1), .val (.int p2), .val (.int (p1 &&& (63 : Int32))), .unset, .unset, .unset, .unset] [(.int (1 : Int32)), (.int ((p2 &&& (2147483647 : Int32)) - ((p2 &&& (2147483647 : Int32)) / (7 : Int32)) * (7 : Int32)))])) _
    refine XS.isub X0.here hx rfl (hb hby at_13) rfl ?_
    show Steps p.tables e below (s₁.setTop (mkF m 14 #[.val (.int p1), .val (.int p2), .val (.int (p1 &&& (63 : Int32))), .unset, .unset, .unset, .unset] [(.int (((p2 &&& (2147483647 : Int32)) - ((p2 &&& (2147483647 : Int32)) / (7 : Int32)) * (7 : Int32)) - (1 : Int32)))])) _
    rw [← hy1]
    refine XS.istoreN X0.here hx rfl (hb hby at_14) rfl (l' := #[.val (.int p1), .val (.int p2), .val (.int (p1 &&& (63 : Int32))), .val (.int y1), .unset, .unset, .unset]) rfl ?_
    show Steps p.tables e below (s₁.setTop (mkF m 15 #[.val (.int p1), .val (.int p2), .val (.int (p1 &&& (63 : Int32))), .val (.int y1), .unset, .unset, .unset] [])) _
    refine XS.bipush X0.here hx rfl (hb hby at_15) ?_
    show Steps p.tables e below (s₁.setTop (mkF m 17 #[.val (.int p1), .val (.int p2), .val (.int (p1 &&& (63 : Int32))), .val (.int y1), .unset, .unset, .unset] [(.int (7 : Int32))])) _
    refine st2 _ ?_
    show Steps p.tables e below (T2.setTop (mkF m 19 #[.val (.int p1), .val (.int p2), .val (.int (p1 &&& (63 : Int32))), .val (.int y1), .unset, .unset, .unset] [(.ref b2)])) _
    refine XS.astore X2.here hx rfl (hb hby at_19) rfl rfl (l' := #[.val (.int p1), .val (.int p2), .val (.int (p1 &&& (63 : Int32))), .val (.int y1), .val (.ref b2), .unset, .unset]) rfl ?_
    show Steps p.tables e below (T2.setTop (mkF m 21 #[.val (.int p1), .val (.int p2), .val (.int (p1 &&& (63 : Int32))), .val (.int y1), .val (.ref b2), .unset, .unset] [])) _
    refine XS.aload X2.here hx rfl (hb hby at_21) rfl rfl ?_
    show Steps p.tables e below (T2.setTop (mkF m 23 #[.val (.int p1), .val (.int p2), .val (.int (p1 &&& (63 : Int32))), .val (.int y1), .val (.ref b2), .unset, .unset] [(.ref b2)])) _
    refine XS.iconst X2.here hx rfl (hb hby at_23) ?_
    show Steps p.tables e below (T2.setTop (mkF m 24 #[.val (.int p1), .val (.int p2), .val (.int (p1 &&& (63 : Int32))), .val (.int y1), .val (.ref b2), .unset, .unset] [(.int (0 : Int32)), (.ref b2)])) _
    refine XS.iconst X2.here hx rfl (hb hby at_24) ?_
    show Steps p.tables e below (T2.setTop (mkF m 25 #[.val (.int p1), .val (.int p2), .val (.int (p1 &&& (63 : Int32))), .val (.int y1), .val (.ref b2), .unset, .unset] [(.int (own_r0 (p1 &&& (63 : Int32)))), (.int (0 : Int32)), (.ref b2)])) _
    refine st3 _ ?_
    show Steps p.tables e below (T3.setTop (mkF m 26 #[.val (.int p1), .val (.int p2), .val (.int (p1 &&& (63 : Int32))), .val (.int y1), .val (.ref b2), .unset, .unset] [])) _
    refine XS.aload X3.here hx rfl (hb hby at_26) rfl rfl ?_
    show Steps p.tables e below (T3.setTop (mkF m 28 #[.val (.int p1), .val (.int p2), .val (.int (p1 &&& (63 : Int32))), .val (.int y1), .val (.ref b2), .unset, .unset] [(.ref b2)])) _
    refine XS.iconst X3.here hx rfl (hb hby at_28) ?_
    show Steps p.tables e below (T3.setTop (mkF m 29 #[.val (.int p1), .val (.int p2), .val (.int (p1 &&& (63 : Int32))), .val (.int y1), .val (.ref b2), .unset, .unset] [(.int (1 : Int32)), (.ref b2)])) _
    refine XS.aload X3.here hx rfl (hb hby at_29) rfl rfl ?_
    show Steps p.tables e below (T3.setTop (mkF m 31 #[.val (.int p1), .val (.int p2), .val (.int (p1 &&& (63 : Int32))), .val (.int y1), .val (.ref b2), .unset, .unset] [(.ref b2), (.int (1 : Int32)), (.ref b2)])) _
    refine XS.iconst X3.here hx rfl (hb hby at_31) ?_
    show Steps p.tables e below (T3.setTop (mkF m 32 #[.val (.int p1), .val (.int p2), .val (.int (p1 &&& (63 : Int32))), .val (.int y1), .val (.ref b2), .unset, .unset] [(.int (0 : Int32)), (.ref b2), (.int (1 : Int32)), (.ref b2)])) _
    refine X3.iaload hx (j := (0 : Int32)) (v := (.int (own_r0 (p1 &&& (63 : Int32))))) (by rw [e3]; exact Ar4.1) (State.isArrayOf_alike hZ.alike Ar4.2.1) Ar4.2.2 hin4 hat4 (g := (mkF m 32 #[.val (.int p1), .val (.int p2), .val (.int (p1 &&& (63 : Int32))), .val (.int y1), .val (.ref b2), .unset, .unset] [(.int (0 : Int32)), (.ref b2), (.int (1 : Int32)), (.ref b2)])) rfl rfl (hb hby at_32) _ ?_
    show Steps p.tables e below (T3.setTop (mkF m 33 #[.val (.int p1), .val (.int p2), .val (.int (p1 &&& (63 : Int32))), .val (.int y1), .val (.ref b2), .unset, .unset] [(.int (own_r0 (p1 &&& (63 : Int32)))), (.int (1 : Int32)), (.ref b2)])) _
    refine XS.iloadN X3.here hx rfl (hb hby at_33) rfl ?_
    show Steps p.tables e below (T3.setTop (mkF m 34 #[.val (.int p1), .val (.int p2), .val (.int (p1 &&& (63 : Int32))), .val (.int y1), .val (.ref b2), .unset, .unset] [(.int (p1 &&& (63 : Int32))), (.int (own_r0 (p1 &&& (63 : Int32)))), (.int (1 : Int32)), (.ref b2)])) _
    refine XS.iconst X3.here hx rfl (hb hby at_34) ?_
    show Steps p.tables e below (T3.setTop (mkF m 35 #[.val (.int p1), .val (.int p2), .val (.int (p1 &&& (63 : Int32))), .val (.int y1), .val (.ref b2), .unset, .unset] [(.int (0 : Int32)), (.int (p1 &&& (63 : Int32))), (.int (own_r0 (p1 &&& (63 : Int32)))), (.int (1 : Int32)), (.ref b2)])) _
    refine st5 _ ?_
    show Steps p.tables e below (T5.setTop (mkF m 38 #[.val (.int p1), .val (.int p2), .val (.int (p1 &&& (63 : Int32))), .val (.int y1), .val (.ref b2), .unset, .unset] [(.int (own_bit (p1 &&& (63 : Int32)) (0 : Int32))), (.int (own_r0 (p1 &&& (63 : Int32)))), (.int (1 : Int32)), (.ref b2)])) _
    refine XS.iadd X5.here hx rfl (hb hby at_38) rfl ?_
    show Steps p.tables e below (T5.setTop (mkF m 39 #[.val (.int p1), .val (.int p2), .val (.int (p1 &&& (63 : Int32))), .val (.int y1), .val (.ref b2), .unset, .unset] [(.int (own_r1 (p1 &&& (63 : Int32)))), (.int (1 : Int32)), (.ref b2)])) _
    refine st6 _ ?_
    show Steps p.tables e below (T6.setTop (mkF m 40 #[.val (.int p1), .val (.int p2), .val (.int (p1 &&& (63 : Int32))), .val (.int y1), .val (.ref b2), .unset, .unset] [])) _
    refine XS.aload X6.here hx rfl (hb hby at_40) rfl rfl ?_
    show Steps p.tables e below (T6.setTop (mkF m 42 #[.val (.int p1), .val (.int p2), .val (.int (p1 &&& (63 : Int32))), .val (.int y1), .val (.ref b2), .unset, .unset] [(.ref b2)])) _
    refine XS.iconst X6.here hx rfl (hb hby at_42) ?_
    show Steps p.tables e below (T6.setTop (mkF m 43 #[.val (.int p1), .val (.int p2), .val (.int (p1 &&& (63 : Int32))), .val (.int y1), .val (.ref b2), .unset, .unset] [(.int (2 : Int32)), (.ref b2)])) _
    refine XS.aload X6.here hx rfl (hb hby at_43) rfl rfl ?_
    show Steps p.tables e below (T6.setTop (mkF m 45 #[.val (.int p1), .val (.int p2), .val (.int (p1 &&& (63 : Int32))), .val (.int y1), .val (.ref b2), .unset, .unset] [(.ref b2), (.int (2 : Int32)), (.ref b2)])) _
    refine XS.iconst X6.here hx rfl (hb hby at_45) ?_
    show Steps p.tables e below (T6.setTop (mkF m 46 #[.val (.int p1), .val (.int p2), .val (.int (p1 &&& (63 : Int32))), .val (.int y1), .val (.ref b2), .unset, .unset] [(.int (1 : Int32)), (.ref b2), (.int (2 : Int32)), (.ref b2)])) _
    refine X6.iaload hx (j := (1 : Int32)) (v := (.int (own_r1 (p1 &&& (63 : Int32))))) (by rw [e6]; exact Ar7.1) (State.isArrayOf_alike hZ.alike Ar7.2.1) Ar7.2.2 hin7 hat7 (g := (mkF m 46 #[.val (.int p1), .val (.int p2), .val (.int (p1 &&& (63 : Int32))), .val (.int y1), .val (.ref b2), .unset, .unset] [(.int (1 : Int32)), (.ref b2), (.int (2 : Int32)), (.ref b2)])) rfl rfl (hb hby at_46) _ ?_
    show Steps p.tables e below (T6.setTop (mkF m 47 #[.val (.int p1), .val (.int p2), .val (.int (p1 &&& (63 : Int32))), .val (.int y1), .val (.ref b2), .unset, .unset] [(.int (own_r1 (p1 &&& (63 : Int32)))), (.int (2 : Int32)), (.ref b2)])) _
    refine XS.iloadN X6.here hx rfl (hb hby at_47) rfl ?_
    show Steps p.tables e below (T6.setTop (mkF m 48 #[.val (.int p1), .val (.int p2), .val (.int (p1 &&& (63 : Int32))), .val (.int y1), .val (.ref b2), .unset, .unset] [(.int (p1 &&& (63 : Int32))), (.int (own_r1 (p1 &&& (63 : Int32)))), (.int (2 : Int32)), (.ref b2)])) _
    refine XS.iconst X6.here hx rfl (hb hby at_48) ?_
    show Steps p.tables e below (T6.setTop (mkF m 49 #[.val (.int p1), .val (.int p2), .val (.int (p1 &&& (63 : Int32))), .val (.int y1), .val (.ref b2), .unset, .unset] [(.int (1 : Int32)), (.int (p1 &&& (63 : Int32))), (.int (own_r1 (p1 &&& (63 : Int32)))), (.int (2 : Int32)), (.ref b2)])) _
    refine st8 _ ?_
    show Steps p.tables e below (T8.setTop (mkF m 52 #[.val (.int p1), .val (.int p2), .val (.int (p1 &&& (63 : Int32))), .val (.int y1), .val (.ref b2), .unset, .unset] [(.int (own_bit (p1 &&& (63 : Int32)) (1 : Int32))), (.int (own_r1 (p1 &&& (63 : Int32)))), (.int (2 : Int32)), (.ref b2)])) _
    refine XS.iadd X8.here hx rfl (hb hby at_52) rfl ?_
    show Steps p.tables e below (T8.setTop (mkF m 53 #[.val (.int p1), .val (.int p2), .val (.int (p1 &&& (63 : Int32))), .val (.int y1), .val (.ref b2), .unset, .unset] [(.int (own_r2 (p1 &&& (63 : Int32)))), (.int (2 : Int32)), (.ref b2)])) _
    refine st9 _ ?_
    show Steps p.tables e below (T9.setTop (mkF m 54 #[.val (.int p1), .val (.int p2), .val (.int (p1 &&& (63 : Int32))), .val (.int y1), .val (.ref b2), .unset, .unset] [])) _
    refine XS.aload X9.here hx rfl (hb hby at_54) rfl rfl ?_
    show Steps p.tables e below (T9.setTop (mkF m 56 #[.val (.int p1), .val (.int p2), .val (.int (p1 &&& (63 : Int32))), .val (.int y1), .val (.ref b2), .unset, .unset] [(.ref b2)])) _
    refine XS.iconst X9.here hx rfl (hb hby at_56) ?_
    show Steps p.tables e below (T9.setTop (mkF m 57 #[.val (.int p1), .val (.int p2), .val (.int (p1 &&& (63 : Int32))), .val (.int y1), .val (.ref b2), .unset, .unset] [(.int (3 : Int32)), (.ref b2)])) _
    refine XS.aload X9.here hx rfl (hb hby at_57) rfl rfl ?_
    show Steps p.tables e below (T9.setTop (mkF m 59 #[.val (.int p1), .val (.int p2), .val (.int (p1 &&& (63 : Int32))), .val (.int y1), .val (.ref b2), .unset, .unset] [(.ref b2), (.int (3 : Int32)), (.ref b2)])) _
    refine XS.iconst X9.here hx rfl (hb hby at_59) ?_
    show Steps p.tables e below (T9.setTop (mkF m 60 #[.val (.int p1), .val (.int p2), .val (.int (p1 &&& (63 : Int32))), .val (.int y1), .val (.ref b2), .unset, .unset] [(.int (2 : Int32)), (.ref b2), (.int (3 : Int32)), (.ref b2)])) _
    refine X9.iaload hx (j := (2 : Int32)) (v := (.int (own_r2 (p1 &&& (63 : Int32))))) (by rw [e9]; exact Ar10.1) (State.isArrayOf_alike hZ.alike Ar10.2.1) Ar10.2.2 hin10 hat10 (g := (mkF m 60 #[.val (.int p1), .val (.int p2), .val (.int (p1 &&& (63 : Int32))), .val (.int y1), .val (.ref b2), .unset, .unset] [(.int (2 : Int32)), (.ref b2), (.int (3 : Int32)), (.ref b2)])) rfl rfl (hb hby at_60) _ ?_
    show Steps p.tables e below (T9.setTop (mkF m 61 #[.val (.int p1), .val (.int p2), .val (.int (p1 &&& (63 : Int32))), .val (.int y1), .val (.ref b2), .unset, .unset] [(.int (own_r2 (p1 &&& (63 : Int32)))), (.int (3 : Int32)), (.ref b2)])) _
    refine XS.iloadN X9.here hx rfl (hb hby at_61) rfl ?_
    show Steps p.tables e below (T9.setTop (mkF m 62 #[.val (.int p1), .val (.int p2), .val (.int (p1 &&& (63 : Int32))), .val (.int y1), .val (.ref b2), .unset, .unset] [(.int (p1 &&& (63 : Int32))), (.int (own_r2 (p1 &&& (63 : Int32)))), (.int (3 : Int32)), (.ref b2)])) _
    refine XS.iconst X9.here hx rfl (hb hby at_62) ?_
    show Steps p.tables e below (T9.setTop (mkF m 63 #[.val (.int p1), .val (.int p2), .val (.int (p1 &&& (63 : Int32))), .val (.int y1), .val (.ref b2), .unset, .unset] [(.int (2 : Int32)), (.int (p1 &&& (63 : Int32))), (.int (own_r2 (p1 &&& (63 : Int32)))), (.int (3 : Int32)), (.ref b2)])) _
    refine st11 _ ?_
    show Steps p.tables e below (T11.setTop (mkF m 66 #[.val (.int p1), .val (.int p2), .val (.int (p1 &&& (63 : Int32))), .val (.int y1), .val (.ref b2), .unset, .unset] [(.int (own_bit (p1 &&& (63 : Int32)) (2 : Int32))), (.int (own_r2 (p1 &&& (63 : Int32)))), (.int (3 : Int32)), (.ref b2)])) _
    refine XS.iadd X11.here hx rfl (hb hby at_66) rfl ?_
    show Steps p.tables e below (T11.setTop (mkF m 67 #[.val (.int p1), .val (.int p2), .val (.int (p1 &&& (63 : Int32))), .val (.int y1), .val (.ref b2), .unset, .unset] [(.int (own_r3 (p1 &&& (63 : Int32)))), (.int (3 : Int32)), (.ref b2)])) _
    refine st12 _ ?_
    show Steps p.tables e below (T12.setTop (mkF m 68 #[.val (.int p1), .val (.int p2), .val (.int (p1 &&& (63 : Int32))), .val (.int y1), .val (.ref b2), .unset, .unset] [])) _
    refine XS.aload X12.here hx rfl (hb hby at_68) rfl rfl ?_
    show Steps p.tables e below (T12.setTop (mkF m 70 #[.val (.int p1), .val (.int p2), .val (.int (p1 &&& (63 : Int32))), .val (.int y1), .val (.ref b2), .unset, .unset] [(.ref b2)])) _
    refine XS.iconst X12.here hx rfl (hb hby at_70) ?_
    show Steps p.tables e below (T12.setTop (mkF m 71 #[.val (.int p1), .val (.int p2), .val (.int (p1 &&& (63 : Int32))), .val (.int y1), .val (.ref b2), .unset, .unset] [(.int (4 : Int32)), (.ref b2)])) _
    refine XS.aload X12.here hx rfl (hb hby at_71) rfl rfl ?_
    show Steps p.tables e below (T12.setTop (mkF m 73 #[.val (.int p1), .val (.int p2), .val (.int (p1 &&& (63 : Int32))), .val (.int y1), .val (.ref b2), .unset, .unset] [(.ref b2), (.int (4 : Int32)), (.ref b2)])) _
    refine XS.iconst X12.here hx rfl (hb hby at_73) ?_
    show Steps p.tables e below (T12.setTop (mkF m 74 #[.val (.int p1), .val (.int p2), .val (.int (p1 &&& (63 : Int32))), .val (.int y1), .val (.ref b2), .unset, .unset] [(.int (3 : Int32)), (.ref b2), (.int (4 : Int32)), (.ref b2)])) _
    refine X12.iaload hx (j := (3 : Int32)) (v := (.int (own_r3 (p1 &&& (63 : Int32))))) (by rw [e12]; exact Ar13.1) (State.isArrayOf_alike hZ.alike Ar13.2.1) Ar13.2.2 hin13 hat13 (g := (mkF m 74 #[.val (.int p1), .val (.int p2), .val (.int (p1 &&& (63 : Int32))), .val (.int y1), .val (.ref b2), .unset, .unset] [(.int (3 : Int32)), (.ref b2), (.int (4 : Int32)), (.ref b2)])) rfl rfl (hb hby at_74) _ ?_
    show Steps p.tables e below (T12.setTop (mkF m 75 #[.val (.int p1), .val (.int p2), .val (.int (p1 &&& (63 : Int32))), .val (.int y1), .val (.ref b2), .unset, .unset] [(.int (own_r3 (p1 &&& (63 : Int32)))), (.int (4 : Int32)), (.ref b2)])) _
    refine XS.iloadN X12.here hx rfl (hb hby at_75) rfl ?_
    show Steps p.tables e below (T12.setTop (mkF m 76 #[.val (.int p1), .val (.int p2), .val (.int (p1 &&& (63 : Int32))), .val (.int y1), .val (.ref b2), .unset, .unset] [(.int (p1 &&& (63 : Int32))), (.int (own_r3 (p1 &&& (63 : Int32)))), (.int (4 : Int32)), (.ref b2)])) _
    refine XS.iconst X12.here hx rfl (hb hby at_76) ?_
    show Steps p.tables e below (T12.setTop (mkF m 77 #[.val (.int p1), .val (.int p2), .val (.int (p1 &&& (63 : Int32))), .val (.int y1), .val (.ref b2), .unset, .unset] [(.int (3 : Int32)), (.int (p1 &&& (63 : Int32))), (.int (own_r3 (p1 &&& (63 : Int32)))), (.int (4 : Int32)), (.ref b2)])) _
    refine st14 _ ?_
    show Steps p.tables e below (T14.setTop (mkF m 80 #[.val (.int p1), .val (.int p2), .val (.int (p1 &&& (63 : Int32))), .val (.int y1), .val (.ref b2), .unset, .unset] [(.int (own_bit (p1 &&& (63 : Int32)) (3 : Int32))), (.int (own_r3 (p1 &&& (63 : Int32)))), (.int (4 : Int32)), (.ref b2)])) _
    refine XS.iadd X14.here hx rfl (hb hby at_80) rfl ?_
    show Steps p.tables e below (T14.setTop (mkF m 81 #[.val (.int p1), .val (.int p2), .val (.int (p1 &&& (63 : Int32))), .val (.int y1), .val (.ref b2), .unset, .unset] [(.int (own_r4 (p1 &&& (63 : Int32)))), (.int (4 : Int32)), (.ref b2)])) _
    refine st15 _ ?_
    show Steps p.tables e below (T15.setTop (mkF m 82 #[.val (.int p1), .val (.int p2), .val (.int (p1 &&& (63 : Int32))), .val (.int y1), .val (.ref b2), .unset, .unset] [])) _
    refine XS.aload X15.here hx rfl (hb hby at_82) rfl rfl ?_
    show Steps p.tables e below (T15.setTop (mkF m 84 #[.val (.int p1), .val (.int p2), .val (.int (p1 &&& (63 : Int32))), .val (.int y1), .val (.ref b2), .unset, .unset] [(.ref b2)])) _
    refine XS.iconst X15.here hx rfl (hb hby at_84) ?_
    show Steps p.tables e below (T15.setTop (mkF m 85 #[.val (.int p1), .val (.int p2), .val (.int (p1 &&& (63 : Int32))), .val (.int y1), .val (.ref b2), .unset, .unset] [(.int (5 : Int32)), (.ref b2)])) _
    refine XS.aload X15.here hx rfl (hb hby at_85) rfl rfl ?_
    show Steps p.tables e below (T15.setTop (mkF m 87 #[.val (.int p1), .val (.int p2), .val (.int (p1 &&& (63 : Int32))), .val (.int y1), .val (.ref b2), .unset, .unset] [(.ref b2), (.int (5 : Int32)), (.ref b2)])) _
    refine XS.iconst X15.here hx rfl (hb hby at_87) ?_
    show Steps p.tables e below (T15.setTop (mkF m 88 #[.val (.int p1), .val (.int p2), .val (.int (p1 &&& (63 : Int32))), .val (.int y1), .val (.ref b2), .unset, .unset] [(.int (4 : Int32)), (.ref b2), (.int (5 : Int32)), (.ref b2)])) _
    refine X15.iaload hx (j := (4 : Int32)) (v := (.int (own_r4 (p1 &&& (63 : Int32))))) (by rw [e15]; exact Ar16.1) (State.isArrayOf_alike hZ.alike Ar16.2.1) Ar16.2.2 hin16 hat16 (g := (mkF m 88 #[.val (.int p1), .val (.int p2), .val (.int (p1 &&& (63 : Int32))), .val (.int y1), .val (.ref b2), .unset, .unset] [(.int (4 : Int32)), (.ref b2), (.int (5 : Int32)), (.ref b2)])) rfl rfl (hb hby at_88) _ ?_
    show Steps p.tables e below (T15.setTop (mkF m 89 #[.val (.int p1), .val (.int p2), .val (.int (p1 &&& (63 : Int32))), .val (.int y1), .val (.ref b2), .unset, .unset] [(.int (own_r4 (p1 &&& (63 : Int32)))), (.int (5 : Int32)), (.ref b2)])) _
    refine XS.iloadN X15.here hx rfl (hb hby at_89) rfl ?_
    show Steps p.tables e below (T15.setTop (mkF m 90 #[.val (.int p1), .val (.int p2), .val (.int (p1 &&& (63 : Int32))), .val (.int y1), .val (.ref b2), .unset, .unset] [(.int (p1 &&& (63 : Int32))), (.int (own_r4 (p1 &&& (63 : Int32)))), (.int (5 : Int32)), (.ref b2)])) _
    refine XS.iconst X15.here hx rfl (hb hby at_90) ?_
    show Steps p.tables e below (T15.setTop (mkF m 91 #[.val (.int p1), .val (.int p2), .val (.int (p1 &&& (63 : Int32))), .val (.int y1), .val (.ref b2), .unset, .unset] [(.int (4 : Int32)), (.int (p1 &&& (63 : Int32))), (.int (own_r4 (p1 &&& (63 : Int32)))), (.int (5 : Int32)), (.ref b2)])) _
    refine st17 _ ?_
    show Steps p.tables e below (T17.setTop (mkF m 94 #[.val (.int p1), .val (.int p2), .val (.int (p1 &&& (63 : Int32))), .val (.int y1), .val (.ref b2), .unset, .unset] [(.int (own_bit (p1 &&& (63 : Int32)) (4 : Int32))), (.int (own_r4 (p1 &&& (63 : Int32)))), (.int (5 : Int32)), (.ref b2)])) _
    refine XS.iadd X17.here hx rfl (hb hby at_94) rfl ?_
    show Steps p.tables e below (T17.setTop (mkF m 95 #[.val (.int p1), .val (.int p2), .val (.int (p1 &&& (63 : Int32))), .val (.int y1), .val (.ref b2), .unset, .unset] [(.int (own_r5 (p1 &&& (63 : Int32)))), (.int (5 : Int32)), (.ref b2)])) _
    refine st18 _ ?_
    show Steps p.tables e below (T18.setTop (mkF m 96 #[.val (.int p1), .val (.int p2), .val (.int (p1 &&& (63 : Int32))), .val (.int y1), .val (.ref b2), .unset, .unset] [])) _
    refine XS.aload X18.here hx rfl (hb hby at_96) rfl rfl ?_
    show Steps p.tables e below (T18.setTop (mkF m 98 #[.val (.int p1), .val (.int p2), .val (.int (p1 &&& (63 : Int32))), .val (.int y1), .val (.ref b2), .unset, .unset] [(.ref b2)])) _
    refine XS.bipush X18.here hx rfl (hb hby at_98) ?_
    show Steps p.tables e below (T18.setTop (mkF m 100 #[.val (.int p1), .val (.int p2), .val (.int (p1 &&& (63 : Int32))), .val (.int y1), .val (.ref b2), .unset, .unset] [(.int (6 : Int32)), (.ref b2)])) _
    refine XS.aload X18.here hx rfl (hb hby at_100) rfl rfl ?_
    show Steps p.tables e below (T18.setTop (mkF m 102 #[.val (.int p1), .val (.int p2), .val (.int (p1 &&& (63 : Int32))), .val (.int y1), .val (.ref b2), .unset, .unset] [(.ref b2), (.int (6 : Int32)), (.ref b2)])) _
    refine XS.iconst X18.here hx rfl (hb hby at_102) ?_
    show Steps p.tables e below (T18.setTop (mkF m 103 #[.val (.int p1), .val (.int p2), .val (.int (p1 &&& (63 : Int32))), .val (.int y1), .val (.ref b2), .unset, .unset] [(.int (5 : Int32)), (.ref b2), (.int (6 : Int32)), (.ref b2)])) _
    refine X18.iaload hx (j := (5 : Int32)) (v := (.int (own_r5 (p1 &&& (63 : Int32))))) (by rw [e18]; exact Ar19.1) (State.isArrayOf_alike hZ.alike Ar19.2.1) Ar19.2.2 hin19 hat19 (g := (mkF m 103 #[.val (.int p1), .val (.int p2), .val (.int (p1 &&& (63 : Int32))), .val (.int y1), .val (.ref b2), .unset, .unset] [(.int (5 : Int32)), (.ref b2), (.int (6 : Int32)), (.ref b2)])) rfl rfl (hb hby at_103) _ ?_
    show Steps p.tables e below (T18.setTop (mkF m 104 #[.val (.int p1), .val (.int p2), .val (.int (p1 &&& (63 : Int32))), .val (.int y1), .val (.ref b2), .unset, .unset] [(.int (own_r5 (p1 &&& (63 : Int32)))), (.int (6 : Int32)), (.ref b2)])) _
    refine XS.iloadN X18.here hx rfl (hb hby at_104) rfl ?_
    show Steps p.tables e below (T18.setTop (mkF m 105 #[.val (.int p1), .val (.int p2), .val (.int (p1 &&& (63 : Int32))), .val (.int y1), .val (.ref b2), .unset, .unset] [(.int (p1 &&& (63 : Int32))), (.int (own_r5 (p1 &&& (63 : Int32)))), (.int (6 : Int32)), (.ref b2)])) _
    refine XS.iconst X18.here hx rfl (hb hby at_105) ?_
    show Steps p.tables e below (T18.setTop (mkF m 106 #[.val (.int p1), .val (.int p2), .val (.int (p1 &&& (63 : Int32))), .val (.int y1), .val (.ref b2), .unset, .unset] [(.int (5 : Int32)), (.int (p1 &&& (63 : Int32))), (.int (own_r5 (p1 &&& (63 : Int32)))), (.int (6 : Int32)), (.ref b2)])) _
    refine st20 _ ?_
    show Steps p.tables e below (T20.setTop (mkF m 109 #[.val (.int p1), .val (.int p2), .val (.int (p1 &&& (63 : Int32))), .val (.int y1), .val (.ref b2), .unset, .unset] [(.int (own_bit (p1 &&& (63 : Int32)) (5 : Int32))), (.int (own_r5 (p1 &&& (63 : Int32)))), (.int (6 : Int32)), (.ref b2)])) _
    refine XS.iadd X20.here hx rfl (hb hby at_109) rfl ?_
    show Steps p.tables e below (T20.setTop (mkF m 110 #[.val (.int p1), .val (.int p2), .val (.int (p1 &&& (63 : Int32))), .val (.int y1), .val (.ref b2), .unset, .unset] [(.int (own_r6 (p1 &&& (63 : Int32)))), (.int (6 : Int32)), (.ref b2)])) _
    refine st21 _ ?_
    show Steps p.tables e below (T21.setTop (mkF m 111 #[.val (.int p1), .val (.int p2), .val (.int (p1 &&& (63 : Int32))), .val (.int y1), .val (.ref b2), .unset, .unset] [])) _
    refine XS.aload X21.here hx rfl (hb hby at_111) rfl rfl ?_
    show Steps p.tables e below (T21.setTop (mkF m 113 #[.val (.int p1), .val (.int p2), .val (.int (p1 &&& (63 : Int32))), .val (.int y1), .val (.ref b2), .unset, .unset] [(.ref b2)])) _
    refine XS.iloadN X21.here hx rfl (hb hby at_113) rfl ?_
    show Steps p.tables e below (T21.setTop (mkF m 114 #[.val (.int p1), .val (.int p2), .val (.int (p1 &&& (63 : Int32))), .val (.int y1), .val (.ref b2), .unset, .unset] [(.int y1), (.ref b2)])) _
    refine st22 _ ?_
    show Steps p.tables e below (T22.setTop (mkF m 117 #[.val (.int p1), .val (.int p2), .val (.int (p1 &&& (63 : Int32))), .val (.int y1), .val (.ref b2), .unset, .unset] [(.int (own_ren (own_f (p1 &&& (63 : Int32))) y1))])) _
    refine XS.istore X22.here hx rfl (hb hby at_117) rfl (l' := #[.val (.int p1), .val (.int p2), .val (.int (p1 &&& (63 : Int32))), .val (.int y1), .val (.ref b2), .val (.int (own_ren (own_f (p1 &&& (63 : Int32))) y1)), .unset]) rfl ?_
    show Steps p.tables e below (T22.setTop (mkF m 119 #[.val (.int p1), .val (.int p2), .val (.int (p1 &&& (63 : Int32))), .val (.int y1), .val (.ref b2), .val (.int (own_ren (own_f (p1 &&& (63 : Int32))) y1)), .unset] [])) _
    refine XS.iloadN X22.here hx rfl (hb hby at_119) rfl ?_
    show Steps p.tables e below (T22.setTop (mkF m 120 #[.val (.int p1), .val (.int p2), .val (.int (p1 &&& (63 : Int32))), .val (.int y1), .val (.ref b2), .val (.int (own_ren (own_f (p1 &&& (63 : Int32))) y1)), .unset] [(.int y1)])) _
    refine XS.iconst X22.here hx rfl (hb hby at_120) ?_
    exact k
  by_cases hc121_24 : y1 = (-1 : Int32)
  · obtain ⟨fs, hr, hrun, hended, hW, hsame⟩ := X22.leave (v := some (.int (1 : Int32))) (fun h => by rw [Bd.returns] at h; cases h)
    refine ⟨_, _, pre23 _ ?_, hrun, hended, _, _, rfl, ?_, ⟨_, rfl⟩, hW, hsame.mono (by decide) (by decide)⟩
    · show Steps p.tables e below (T22.setTop (mkF m 121 #[.val (.int p1), .val (.int p2), .val (.int (p1 &&& (63 : Int32))), .val (.int y1), .val (.ref b2), .val (.int (own_ren (own_f (p1 &&& (63 : Int32))) y1)), .unset] [(.int (-1 : Int32)), (.int y1)])) _
      refine XS.icmpNo X22.here hx rfl (hb hby at_121) rfl (teq hc121_24).2 ?_
      show Steps p.tables e below (T22.setTop (mkF m 124 #[.val (.int p1), .val (.int p2), .val (.int (p1 &&& (63 : Int32))), .val (.int y1), .val (.ref b2), .val (.int (own_ren (own_f (p1 &&& (63 : Int32))) y1)), .unset] [])) _
      refine XS.iconst X22.here hx rfl (hb hby at_124) ?_
      show Steps p.tables e below (T22.setTop (mkF m 125 #[.val (.int p1), .val (.int p2), .val (.int (p1 &&& (63 : Int32))), .val (.int y1), .val (.ref b2), .val (.int (own_ren (own_f (p1 &&& (63 : Int32))) y1)), .unset] [(.int (-1 : Int32))])) _
      refine XS.istore X22.here hx rfl (hb hby at_125) rfl (l' := #[.val (.int p1), .val (.int p2), .val (.int (p1 &&& (63 : Int32))), .val (.int y1), .val (.ref b2), .val (.int (own_ren (own_f (p1 &&& (63 : Int32))) y1)), .val (.int (-1 : Int32))]) rfl ?_
      show Steps p.tables e below (T22.setTop (mkF m 127 #[.val (.int p1), .val (.int p2), .val (.int (p1 &&& (63 : Int32))), .val (.int y1), .val (.ref b2), .val (.int (own_ren (own_f (p1 &&& (63 : Int32))) y1)), .val (.int (-1 : Int32))] [])) _
      refine XS.goto X22.here hx rfl (pc0 := 127) (pc' := 151) rfl (hb hby at_127) (by decide) (by decide) ?_
      show Steps p.tables e below (T22.setTop (mkF m 151 #[.val (.int p1), .val (.int p2), .val (.int (p1 &&& (63 : Int32))), .val (.int y1), .val (.ref b2), .val (.int (own_ren (own_f (p1 &&& (63 : Int32))) y1)), .val (.int (-1 : Int32))] [])) _
      refine XS.iload X22.here hx rfl (hb hby at_151) rfl ?_
      show Steps p.tables e below (T22.setTop (mkF m 153 #[.val (.int p1), .val (.int p2), .val (.int (p1 &&& (63 : Int32))), .val (.int y1), .val (.ref b2), .val (.int (own_ren (own_f (p1 &&& (63 : Int32))) y1)), .val (.int (-1 : Int32))] [(.int (own_ren (own_f (p1 &&& (63 : Int32))) y1))])) _
      refine XS.iload X22.here hx rfl (hb hby at_153) rfl ?_
      show Steps p.tables e below (T22.setTop (mkF m 155 #[.val (.int p1), .val (.int p2), .val (.int (p1 &&& (63 : Int32))), .val (.int y1), .val (.ref b2), .val (.int (own_ren (own_f (p1 &&& (63 : Int32))) y1)), .val (.int (-1 : Int32))] [(.int (-1 : Int32)), (.int (own_ren (own_f (p1 &&& (63 : Int32))) y1))])) _
      refine XS.icmpNo X22.here hx rfl (hb hby at_155) rfl (teq (((own_main p1 y1 q0 q1).trans (by rw [own_exp, if_pos hc121_24])) : ((own_ren (own_f (p1 &&& (63 : Int32))) y1) = (-1 : Int32)))).2 ?_
      show Steps p.tables e below (T22.setTop (mkF m 158 #[.val (.int p1), .val (.int p2), .val (.int (p1 &&& (63 : Int32))), .val (.int y1), .val (.ref b2), .val (.int (own_ren (own_f (p1 &&& (63 : Int32))) y1)), .val (.int (-1 : Int32))] [])) _
      refine XS.iconst X22.here hx rfl (hb hby at_158) ?_
      show Steps p.tables e below (T22.setTop (mkF m 159 #[.val (.int p1), .val (.int p2), .val (.int (p1 &&& (63 : Int32))), .val (.int y1), .val (.ref b2), .val (.int (own_ren (own_f (p1 &&& (63 : Int32))) y1)), .val (.int (-1 : Int32))] [(.int (1 : Int32))])) _
      refine XS.goto X22.here hx rfl (pc0 := 159) (pc' := 163) rfl (hb hby at_159) (by decide) (by decide) ?_
      show Steps p.tables e below (T22.setTop (mkF m 163 #[.val (.int p1), .val (.int p2), .val (.int (p1 &&& (63 : Int32))), .val (.int y1), .val (.ref b2), .val (.int (own_ren (own_f (p1 &&& (63 : Int32))) y1)), .val (.int (-1 : Int32))] [(.int (1 : Int32))])) _
      exact retN X22 hx (t := .boolean) Bd.returns (by simp) (hb hby at_163) hr
    · show Q_rm0 Z p1 p2 h0 n0 _ T22.heap _
      rw [e22]
      exact ⟨rfl, N22⟩
  · obtain ⟨_, _, ⟨T25, L25, k25, n25⟩, -, X25, ⟨Lc25, hQ25, l25, y25, z25⟩, st25⟩ := Jvm.LawKit.callS X22 hx (y := (⟨"com/example/even_roster/evenroster/scim/HoldersRenumberedPinLaw", "bit", "(II)I"⟩ : MethodName)) hown (mvT hZ (hw _ (List.mem_of_getElem? (i := 2) rfl))) (mvT hZ (hw _ (List.mem_of_getElem? (i := 3) rfl))) (mvT hZ (hw _ (List.mem_of_getElem? (i := 4) rfl))) (mvT hZ (hw _ (List.mem_of_getElem? (i := 5) rfl))) (by decide) (backOf (W := 0) (rm1 l Z a0 hw [] (p1 &&& (63 : Int32)) y1 h21 n0 Z21) hZ (hw _ (List.mem_of_getElem? (i := 5) rfl)) (hw _ (List.mem_of_getElem? (i := 4) rfl)) (by decide) (by decide)) (g := (mkF m 132 #[.val (.int p1), .val (.int p2), .val (.int (p1 &&& (63 : Int32))), .val (.int y1), .val (.ref b2), .val (.int (own_ren (own_f (p1 &&& (63 : Int32))) y1)), .unset] [(.int y1), (.int (p1 &&& (63 : Int32)))])) rfl (by rw [hml]; rfl) (argsL := [(.int (p1 &&& (63 : Int32))), (.int y1)]) (rest := []) (lenOf pd_0 rfl) rfl (by show 2 * 0 + _ ≤ _; exact Nat.le_of_eq rfl) (hb hby at_132) (fun _ _ => ⟨rfl, e22, (by decide : 1 + 0 ≤ _), (by decide : 7 + 0 ≤ _)⟩)
    dsimp only [Pt.U, Pt.locs, Pt.cells, Pt.slots] at X25 l25 y25 z25 st25 hQ25
    subst l25 y25 z25
    obtain ⟨rfl, N25q, e25⟩ := hQ25
    have N25 := Fr.app N22 N25q
    have pre26 : ∀ t, Steps p.tables e below (T25.setTop (mkF m 135 #[.val (.int p1), .val (.int p2), .val (.int (p1 &&& (63 : Int32))), .val (.int y1), .val (.ref b2), .val (.int (own_ren (own_f (p1 &&& (63 : Int32))) y1)), .unset] [(.int (own_bit (p1 &&& (63 : Int32)) y1))])) t → Steps p.tables e below (s₁.setTop (entryFrame m #[(.int p1), (.int p2)] maxLocals)) t := by
      intro t k
      refine pre23 t ?_
      show Steps p.tables e below (T22.setTop (mkF m 121 #[.val (.int p1), .val (.int p2), .val (.int (p1 &&& (63 : Int32))), .val (.int y1), .val (.ref b2), .val (.int (own_ren (own_f (p1 &&& (63 : Int32))) y1)), .unset] [(.int (-1 : Int32)), (.int y1)])) _
      refine XS.icmpYes X22.here hx rfl (pc0 := 121) (pc' := 130) rfl (hb hby at_121) rfl (feq hc121_24).2 (by decide) (by decide) ?_
      show Steps p.tables e below (T22.setTop (mkF m 130 #[.val (.int p1), .val (.int p2), .val (.int (p1 &&& (63 : Int32))), .val (.int y1), .val (.ref b2), .val (.int (own_ren (own_f (p1 &&& (63 : Int32))) y1)), .unset] [])) _
      refine XS.iloadN X22.here hx rfl (hb hby at_130) rfl ?_
      show Steps p.tables e below (T22.setTop (mkF m 131 #[.val (.int p1), .val (.int p2), .val (.int (p1 &&& (63 : Int32))), .val (.int y1), .val (.ref b2), .val (.int (own_ren (own_f (p1 &&& (63 : Int32))) y1)), .unset] [(.int (p1 &&& (63 : Int32)))])) _
      refine XS.iloadN X22.here hx rfl (hb hby at_131) rfl ?_
      show Steps p.tables e below (T22.setTop (mkF m 132 #[.val (.int p1), .val (.int p2), .val (.int (p1 &&& (63 : Int32))), .val (.int y1), .val (.ref b2), .val (.int (own_ren (own_f (p1 &&& (63 : Int32))) y1)), .unset] [(.int y1), (.int (p1 &&& (63 : Int32)))])) _
      refine st25 _ ?_
      exact k
    by_cases hc135_27 : (own_bit (p1 &&& (63 : Int32)) y1) = (0 : Int32)
    · obtain ⟨fs, hr, hrun, hended, hW, hsame⟩ := X25.leave (v := some (.int (1 : Int32))) (fun h => by rw [Bd.returns] at h; cases h)
      refine ⟨_, _, pre26 _ ?_, hrun, hended, _, _, rfl, ?_, ⟨_, rfl⟩, hW, hsame.mono (by decide) (by decide)⟩
      · show Steps p.tables e below (T25.setTop (mkF m 135 #[.val (.int p1), .val (.int p2), .val (.int (p1 &&& (63 : Int32))), .val (.int y1), .val (.ref b2), .val (.int (own_ren (own_f (p1 &&& (63 : Int32))) y1)), .unset] [(.int (own_bit (p1 &&& (63 : Int32)) y1))])) _
        refine XS.ifNo X25.here hx rfl (hb hby at_135) rfl ((if0 _ _).trans (teq hc135_27).2) ?_
        show Steps p.tables e below (T25.setTop (mkF m 138 #[.val (.int p1), .val (.int p2), .val (.int (p1 &&& (63 : Int32))), .val (.int y1), .val (.ref b2), .val (.int (own_ren (own_f (p1 &&& (63 : Int32))) y1)), .unset] [])) _
        refine XS.iconst X25.here hx rfl (hb hby at_138) ?_
        show Steps p.tables e below (T25.setTop (mkF m 139 #[.val (.int p1), .val (.int p2), .val (.int (p1 &&& (63 : Int32))), .val (.int y1), .val (.ref b2), .val (.int (own_ren (own_f (p1 &&& (63 : Int32))) y1)), .unset] [(.int (-1 : Int32))])) _
        refine XS.istore X25.here hx rfl (hb hby at_139) rfl (l' := #[.val (.int p1), .val (.int p2), .val (.int (p1 &&& (63 : Int32))), .val (.int y1), .val (.ref b2), .val (.int (own_ren (own_f (p1 &&& (63 : Int32))) y1)), .val (.int (-1 : Int32))]) rfl ?_
        show Steps p.tables e below (T25.setTop (mkF m 141 #[.val (.int p1), .val (.int p2), .val (.int (p1 &&& (63 : Int32))), .val (.int y1), .val (.ref b2), .val (.int (own_ren (own_f (p1 &&& (63 : Int32))) y1)), .val (.int (-1 : Int32))] [])) _
        refine XS.goto X25.here hx rfl (pc0 := 141) (pc' := 151) rfl (hb hby at_141) (by decide) (by decide) ?_
        show Steps p.tables e below (T25.setTop (mkF m 151 #[.val (.int p1), .val (.int p2), .val (.int (p1 &&& (63 : Int32))), .val (.int y1), .val (.ref b2), .val (.int (own_ren (own_f (p1 &&& (63 : Int32))) y1)), .val (.int (-1 : Int32))] [])) _
        refine XS.iload X25.here hx rfl (hb hby at_151) rfl ?_
        show Steps p.tables e below (T25.setTop (mkF m 153 #[.val (.int p1), .val (.int p2), .val (.int (p1 &&& (63 : Int32))), .val (.int y1), .val (.ref b2), .val (.int (own_ren (own_f (p1 &&& (63 : Int32))) y1)), .val (.int (-1 : Int32))] [(.int (own_ren (own_f (p1 &&& (63 : Int32))) y1))])) _
        refine XS.iload X25.here hx rfl (hb hby at_153) rfl ?_
        show Steps p.tables e below (T25.setTop (mkF m 155 #[.val (.int p1), .val (.int p2), .val (.int (p1 &&& (63 : Int32))), .val (.int y1), .val (.ref b2), .val (.int (own_ren (own_f (p1 &&& (63 : Int32))) y1)), .val (.int (-1 : Int32))] [(.int (-1 : Int32)), (.int (own_ren (own_f (p1 &&& (63 : Int32))) y1))])) _
        refine XS.icmpNo X25.here hx rfl (hb hby at_155) rfl (teq (((own_main p1 y1 q0 q1).trans (by rw [own_exp, if_neg hc121_24, if_pos hc135_27])) : ((own_ren (own_f (p1 &&& (63 : Int32))) y1) = (-1 : Int32)))).2 ?_
        show Steps p.tables e below (T25.setTop (mkF m 158 #[.val (.int p1), .val (.int p2), .val (.int (p1 &&& (63 : Int32))), .val (.int y1), .val (.ref b2), .val (.int (own_ren (own_f (p1 &&& (63 : Int32))) y1)), .val (.int (-1 : Int32))] [])) _
        refine XS.iconst X25.here hx rfl (hb hby at_158) ?_
        show Steps p.tables e below (T25.setTop (mkF m 159 #[.val (.int p1), .val (.int p2), .val (.int (p1 &&& (63 : Int32))), .val (.int y1), .val (.ref b2), .val (.int (own_ren (own_f (p1 &&& (63 : Int32))) y1)), .val (.int (-1 : Int32))] [(.int (1 : Int32))])) _
        refine XS.goto X25.here hx rfl (pc0 := 159) (pc' := 163) rfl (hb hby at_159) (by decide) (by decide) ?_
        show Steps p.tables e below (T25.setTop (mkF m 163 #[.val (.int p1), .val (.int p2), .val (.int (p1 &&& (63 : Int32))), .val (.int y1), .val (.ref b2), .val (.int (own_ren (own_f (p1 &&& (63 : Int32))) y1)), .val (.int (-1 : Int32))] [(.int (1 : Int32))])) _
        exact retN X25 hx (t := .boolean) Bd.returns (by simp) (hb hby at_163) hr
      · show Q_rm0 Z p1 p2 h0 n0 _ T25.heap _
        rw [e25]
        exact ⟨rfl, N25⟩
    · obtain ⟨_, _, ⟨T28, L28, k28, n28⟩, -, X28, ⟨Lc28, hQ28, l28, y28, z28⟩, st28⟩ := Jvm.LawKit.callS X25 hx (y := (⟨"com/example/even_roster/evenroster/scim/HoldersRenumberedPinLaw", "countBelow", "(II)I"⟩ : MethodName)) hown (mvT hZ (hw _ (List.mem_of_getElem? (i := 10) rfl))) (mvT hZ (hw _ (List.mem_of_getElem? (i := 11) rfl))) (mvT hZ (hw _ (List.mem_of_getElem? (i := 4) rfl))) (mvT hZ (hw _ (List.mem_of_getElem? (i := 12) rfl))) (by decide) (backOf (W := 0) (rm3 l Z a0 hw [] (p1 &&& (63 : Int32)) y1 h21 n0 Z21) hZ (hw _ (List.mem_of_getElem? (i := 12) rfl)) (hw _ (List.mem_of_getElem? (i := 4) rfl)) (by decide) (by decide)) (g := (mkF m 146 #[.val (.int p1), .val (.int p2), .val (.int (p1 &&& (63 : Int32))), .val (.int y1), .val (.ref b2), .val (.int (own_ren (own_f (p1 &&& (63 : Int32))) y1)), .unset] [(.int y1), (.int (p1 &&& (63 : Int32)))])) rfl (by rw [hml]; rfl) (argsL := [(.int (p1 &&& (63 : Int32))), (.int y1)]) (rest := []) (lenOf pd_0 rfl) rfl (by show 2 * 0 + _ ≤ _; exact Nat.le_of_eq rfl) (hb hby at_146) (fun _ _ => ⟨rfl, e25, (by decide : 1 + 0 ≤ _), (by decide : 7 + 0 ≤ _)⟩)
      dsimp only [Pt.U, Pt.locs, Pt.cells, Pt.slots] at X28 l28 y28 z28 st28 hQ28
      subst l28 y28 z28
      obtain ⟨rfl, N28q, e28⟩ := hQ28
      have N28 := Fr.app N25 N28q
      obtain ⟨fs, hr, hrun, hended, hW, hsame⟩ := X28.leave (v := some (.int (1 : Int32))) (fun h => by rw [Bd.returns] at h; cases h)
      refine ⟨_, _, pre26 _ ?_, hrun, hended, _, _, rfl, ?_, ⟨_, rfl⟩, hW, hsame.mono (by decide) (by decide)⟩
      · show Steps p.tables e below (T25.setTop (mkF m 135 #[.val (.int p1), .val (.int p2), .val (.int (p1 &&& (63 : Int32))), .val (.int y1), .val (.ref b2), .val (.int (own_ren (own_f (p1 &&& (63 : Int32))) y1)), .unset] [(.int (own_bit (p1 &&& (63 : Int32)) y1))])) _
        refine XS.ifYes X25.here hx rfl (pc0 := 135) (pc' := 144) rfl (hb hby at_135) rfl ((if0 _ _).trans (feq hc135_27).2) (by decide) (by decide) ?_
        show Steps p.tables e below (T25.setTop (mkF m 144 #[.val (.int p1), .val (.int p2), .val (.int (p1 &&& (63 : Int32))), .val (.int y1), .val (.ref b2), .val (.int (own_ren (own_f (p1 &&& (63 : Int32))) y1)), .unset] [])) _
        refine XS.iloadN X25.here hx rfl (hb hby at_144) rfl ?_
        show Steps p.tables e below (T25.setTop (mkF m 145 #[.val (.int p1), .val (.int p2), .val (.int (p1 &&& (63 : Int32))), .val (.int y1), .val (.ref b2), .val (.int (own_ren (own_f (p1 &&& (63 : Int32))) y1)), .unset] [(.int (p1 &&& (63 : Int32)))])) _
        refine XS.iloadN X25.here hx rfl (hb hby at_145) rfl ?_
        show Steps p.tables e below (T25.setTop (mkF m 146 #[.val (.int p1), .val (.int p2), .val (.int (p1 &&& (63 : Int32))), .val (.int y1), .val (.ref b2), .val (.int (own_ren (own_f (p1 &&& (63 : Int32))) y1)), .unset] [(.int y1), (.int (p1 &&& (63 : Int32)))])) _
        refine st28 _ ?_
        show Steps p.tables e below (T28.setTop (mkF m 149 #[.val (.int p1), .val (.int p2), .val (.int (p1 &&& (63 : Int32))), .val (.int y1), .val (.ref b2), .val (.int (own_ren (own_f (p1 &&& (63 : Int32))) y1)), .unset] [(.int (own_cb (p1 &&& (63 : Int32)) y1))])) _
        refine XS.istore X28.here hx rfl (hb hby at_149) rfl (l' := #[.val (.int p1), .val (.int p2), .val (.int (p1 &&& (63 : Int32))), .val (.int y1), .val (.ref b2), .val (.int (own_ren (own_f (p1 &&& (63 : Int32))) y1)), .val (.int (own_cb (p1 &&& (63 : Int32)) y1))]) rfl ?_
        show Steps p.tables e below (T28.setTop (mkF m 151 #[.val (.int p1), .val (.int p2), .val (.int (p1 &&& (63 : Int32))), .val (.int y1), .val (.ref b2), .val (.int (own_ren (own_f (p1 &&& (63 : Int32))) y1)), .val (.int (own_cb (p1 &&& (63 : Int32)) y1))] [])) _
        refine XS.iload X28.here hx rfl (hb hby at_151) rfl ?_
        show Steps p.tables e below (T28.setTop (mkF m 153 #[.val (.int p1), .val (.int p2), .val (.int (p1 &&& (63 : Int32))), .val (.int y1), .val (.ref b2), .val (.int (own_ren (own_f (p1 &&& (63 : Int32))) y1)), .val (.int (own_cb (p1 &&& (63 : Int32)) y1))] [(.int (own_ren (own_f (p1 &&& (63 : Int32))) y1))])) _
        refine XS.iload X28.here hx rfl (hb hby at_153) rfl ?_
        show Steps p.tables e below (T28.setTop (mkF m 155 #[.val (.int p1), .val (.int p2), .val (.int (p1 &&& (63 : Int32))), .val (.int y1), .val (.ref b2), .val (.int (own_ren (own_f (p1 &&& (63 : Int32))) y1)), .val (.int (own_cb (p1 &&& (63 : Int32)) y1))] [(.int (own_cb (p1 &&& (63 : Int32)) y1)), (.int (own_ren (own_f (p1 &&& (63 : Int32))) y1))])) _
        refine XS.icmpNo X28.here hx rfl (hb hby at_155) rfl (teq (((own_main p1 y1 q0 q1).trans (by rw [own_exp, if_neg hc121_24, if_neg hc135_27])) : ((own_ren (own_f (p1 &&& (63 : Int32))) y1) = (own_cb (p1 &&& (63 : Int32)) y1)))).2 ?_
        show Steps p.tables e below (T28.setTop (mkF m 158 #[.val (.int p1), .val (.int p2), .val (.int (p1 &&& (63 : Int32))), .val (.int y1), .val (.ref b2), .val (.int (own_ren (own_f (p1 &&& (63 : Int32))) y1)), .val (.int (own_cb (p1 &&& (63 : Int32)) y1))] [])) _
        refine XS.iconst X28.here hx rfl (hb hby at_158) ?_
        show Steps p.tables e below (T28.setTop (mkF m 159 #[.val (.int p1), .val (.int p2), .val (.int (p1 &&& (63 : Int32))), .val (.int y1), .val (.ref b2), .val (.int (own_ren (own_f (p1 &&& (63 : Int32))) y1)), .val (.int (own_cb (p1 &&& (63 : Int32)) y1))] [(.int (1 : Int32))])) _
        refine XS.goto X28.here hx rfl (pc0 := 159) (pc' := 163) rfl (hb hby at_159) (by decide) (by decide) ?_
        show Steps p.tables e below (T28.setTop (mkF m 163 #[.val (.int p1), .val (.int p2), .val (.int (p1 &&& (63 : Int32))), .val (.int y1), .val (.ref b2), .val (.int (own_ren (own_f (p1 &&& (63 : Int32))) y1)), .val (.int (own_cb (p1 &&& (63 : Int32)) y1))] [(.int (1 : Int32))])) _
        exact retN X28 hx (t := .boolean) Bd.returns (by simp) (hb hby at_163) hr
      · show Q_rm0 Z p1 p2 h0 n0 _ T28.heap _
        rw [e28]
        exact ⟨rfl, N28⟩
set_option maxRecDepth 65536 in
set_option maxHeartbeats 40000000 in
theorem comes_1 {Post : Tables → Env → Array Value → State → Outcome → State → Prop} (hpost : ∀ tb e args s v u, (limb_1_1.after args s (.returned v) u = true ∧ limb_1_2.after args s (.returned v) u = true ∧ True) → FrameEnd s (.returned v) u (Jvm.fieldLocs frame_1_writes args s ++ Jvm.arrayLocs frame_1_arrays args s ++ Jvm.staticLocs frame_1_statics s) 16 128 → Post tb e args s (.returned v) u) :
    ArmFor flags0 classFile x code maxLocals ret World_1 tables_1 room_1 Calls_1 rest_1 Pre_1 Post := by
  intro l hfl _ _ p e ha hc hk s m args below hf hA hF happ hP
  obtain ⟨hcalls, hrest, hpre⟩ := hP
  obtain ⟨-, -, -, hnamed, -, -, -, hat⟩ := (Spec.applies_iff hf).mp happ
  obtain ⟨hg, hn⟩ := and_e (Cond.before_iff.mp (show (Jvm.Cond.and given_1 narrow_1).before args s = true from hpre))
  obtain ⟨g0, gr0⟩ := and_e hg
  obtain ⟨ga0, gr1⟩ := and_e gr0
  obtain ⟨w0, w1, rfl⟩ : ∃ w0 w1 : Value, args = #[w0, w1] := by
    have hs : args.size = 2 := by simpa [Cond.value, given_1] using g0
    obtain ⟨L⟩ := args
    match L, hs with
    | [w0, w1], _ => exact ⟨w0, w1, rfl⟩
  have hw := fun d (hd : d ∈ tables_1) => atoms_spec (ws := Jvm.Cond.code x code maxLocals ret :: tables_1) hat d (List.mem_cons_of_mem _ hd)
  have hfit : Fit s := fun {y c} hc i hi => by
    obtain ⟨ha, rfl⟩ := Array.getElem?_eq_some_iff.mp hc
    have q := List.all_eq_true.mp ((Array.all_eq_true_iff_forall_mem.mp hF) _ (Array.getElem_mem ha)) i (List.mem_range.mpr hi)
    simpa [Array.getElem?_eq_getElem hi] using q
  obtain ⟨i0, ei0⟩ := is_v ga0
  obtain rfl : w0 = (.int i0) := Option.some.inj ei0
  obtain ⟨i1, ei1⟩ := is_v gr1
  obtain rfl : w1 = (.int i1) := Option.some.inj ei1
  obtain ⟨n, o, h1, h2, h3, _, L, rfl, ⟨rfl, N⟩, hq⟩ := rm0 l s _ hw tables_1 i0 i1 s.heap s.heap.size (Nat.le_refl _) p e ha hc hk s m _ below hf ((Spec.applies_iff_loose hf).mp happ).1 ⟨rfl, State.Warmed39.refl s, rfl⟩ trivial
  refine ⟨n, _, h1, h2, h3, hpost _ _ _ _ _ _ ⟨Cond.after_iff.mpr rfl, Cond.after_iff.mpr (eq_i res_at (Term.int_eval (1)) rfl), trivial⟩ ⟨hq.1, hq.2.1, (hq.2.2.sift fun y hy => Or.inr (N y hy)).mono (by decide) (by decide)⟩⟩
theorem main_1_1 : Claimed_1_1 := comes_1 fun _ _ _ _ _ _ h hF => ⟨h.1, hF⟩
theorem main_1_2 : Claimed_1_2 := comes_1 fun _ _ _ _ _ _ h hF => ⟨h.2.1, hF⟩
end Jvm.Pilot.@@N@@
namespace Jvm.Pilot.@@N@@
open Jvm Jvm.ClassFile Sem Op Lib Jvm.Free Jvm.Stand Jvm.Pilot.@@N@@.Jvm.D
/-! MADE BY PROGRAM (witnessworld.py) out of the Statement's table words and the real class files: 9 classes; the members and pool entries that the words name. The judged class is class 1, her method 3. -/
namespace start1
open Jvm.ClassFile
def u (s : String) : CpInfo := .utf8 (stringToUtf16 s)
/-- a pool by its gaps: so many unusable entries, then the entry; so many at the end -/
def gap : Nat → List CpInfo → List CpInfo
  | 0, r => r
  | n + 1, r => .unusable :: gap n r
def poolList (es : List (Nat × CpInfo)) (last : Nat) : List CpInfo := es.foldr (fun e r => gap e.1 (e.2 :: r)) (gap last [])
def pool (es : List (Nat × CpInfo)) (last : Nat) : Array CpInfo := ⟨poolList es last⟩
def fileOf (pool : Array CpInfo) (this : Nat) (attrs : Array Attribute := #[]) (ms : Array MethodInfo := #[]) (fl : Nat := 33) (sup : Nat := 0) (ifs : Array Nat := #[]) (fds : Array FieldInfo := #[]) : ClassFile where
  minorVersion := 0
  majorVersion := 65
  constantPool := pool
  accessFlags := fl
  thisClass := this
  superClass := sup
  interfaces := ifs
  fields := fds
  methods := ms
  attributes := attrs
def plain (name : String) (sup : Option ClassId) : Class where
  name := name
  kind := .ordinary
  loader := none
  accessFlags := 33
  super := sup
  interfaces := #[]
  cf := none
  fields := #[]
  methods := #[]
  instanceTypes := #[]
  staticTypes := #[]
  resolved := #[]
  callSites := []
  init := .initialized
  statics := none
  mirror := none

def pool0 : Array CpInfo := pool [(5, u "<init>"), (0, u "()V"), (1, .class_ 10), (1, u "java/lang/Object")] 113

def k0m0 : Method := { name := "<init>", desc := "()V", sig := { parameters := [], returnType := none }, accessFlags := 1, code := none }
/-- java/lang/Object -/
def k0 : Class := { plain "java/lang/Object" none with
  accessFlags := 33
  interfaces := #[]
  cf := some (fileOf pool0 8 #[] #[{ accessFlags := 1, nameIndex := 5, descriptorIndex := 6, attributes := #[] }] 33 0 #[] #[])
  fields := #[]
  methods := #[k0m0]
  instanceTypes := #[]
  staticTypes := #[]
  resolved := Array.replicate 124 none
  statics := none }

def pool1 : Array CpInfo := pool [(2, .class_ 4), (1, u "java/lang/Object"), (0, u "<init>"), (0, u "()V"), (0, .methodref 8 9), (0, .class_ 10), (0, .nameAndType 11 12), (0, u "com/example/even_roster/evenroster/scim/HoldersRenumberedPinLaw"), (0, u "bit"), (0, u "(II)I"), (0, .integer 2147483647), (0, .methodref 15 16), (0, .class_ 17), (0, .nameAndType 18 19), (0, u "com/example/even_roster/evenroster/scim/Holders"), (0, u "renumbered"), (0, u "([II)I"), (0, .methodref 8 21), (0, .nameAndType 22 12), (0, u "countBelow"), (3, u "law"), (0, u "(II)Z")] 4

def k1m0 : Method := { name := "<init>", desc := "()V", sig := { parameters := [], returnType := none }, accessFlags := 1, code := none }
def k1c1 : Code := { maxStack := 2, maxLocals := 2, code := method_2_code, exceptionTable := #[], attributes := #[] }
def k1m1 : Method := { name := "bit", desc := "(II)I", sig := { parameters := [.int, .int], returnType := some .int }, accessFlags := 10, code := some k1c1 }
def k1c2 : Code := { maxStack := 3, maxLocals := 3, code := method_3_code, exceptionTable := #[], attributes := #[] }
def k1m2 : Method := { name := "countBelow", desc := "(II)I", sig := { parameters := [.int, .int], returnType := some .int }, accessFlags := 10, code := some k1c2 }
def k1c3 : Code := { maxStack := 5, maxLocals := 7, code := code, exceptionTable := #[], attributes := #[] }
def k1m3 : Method := { name := "law", desc := "(II)Z", sig := { parameters := [.int, .int], returnType := some .boolean }, accessFlags := 9, code := some k1c3 }
/-- com/example/even_roster/evenroster/scim/HoldersRenumberedPinLaw -/
def k1 : Class := { plain "com/example/even_roster/evenroster/scim/HoldersRenumberedPinLaw" (some 0) with
  accessFlags := 49
  interfaces := #[]
  cf := some (fileOf pool1 8 #[] #[{ accessFlags := 1, nameIndex := 5, descriptorIndex := 6, attributes := #[] }, { accessFlags := 10, nameIndex := 11, descriptorIndex := 12, attributes := #[] }, { accessFlags := 10, nameIndex := 22, descriptorIndex := 12, attributes := #[] }, { accessFlags := 9, nameIndex := 26, descriptorIndex := 27, attributes := #[] }] 49 2 #[] #[])
  fields := #[]
  methods := #[k1m0, k1m1, k1m2, k1m3]
  instanceTypes := #[]
  staticTypes := #[]
  resolved := Array.replicate 32 none
  statics := none }

def pool2 : Array CpInfo := pool [(2, .class_ 4), (1, u "java/lang/Object"), (3, .class_ 10), (1, u "com/example/even_roster/evenroster/scim/Holders"), (0, u "numbers"), (0, u "[I"), (2, u "entered"), (0, u "Ljava/util/function/IntPredicate;"), (23, u "count"), (6, u "I"), (2, u "length"), (25, u "bits"), (0, u "Ljava/util/BitSet;"), (13, u "renumbered"), (0, u "([II)I"), (68, u "LEFT")] 48

def k2c0 : Code := { maxStack := 3, maxLocals := 2, code := prog_7_method_9_code, exceptionTable := #[], attributes := #[] }
def k2m0 : Method := { name := "renumbered", desc := "([II)I", sig := { parameters := [(.array .int), .int], returnType := some .int }, accessFlags := 8, code := some k2c0 }
/-- com/example/even_roster/evenroster/scim/Holders -/
def k2 : Class := { plain "com/example/even_roster/evenroster/scim/Holders" (some 0) with
  accessFlags := 48
  interfaces := #[]
  cf := some (fileOf pool2 8 #[] #[{ accessFlags := 8, nameIndex := 91, descriptorIndex := 92, attributes := #[] }] 48 2 #[] #[{ accessFlags := 24, nameIndex := 161, descriptorIndex := 47, attributes := #[] }, { accessFlags := 18, nameIndex := 15, descriptorIndex := 16, attributes := #[] }, { accessFlags := 2, nameIndex := 11, descriptorIndex := 12, attributes := #[] }, { accessFlags := 2, nameIndex := 50, descriptorIndex := 47, attributes := #[] }, { accessFlags := 2, nameIndex := 40, descriptorIndex := 47, attributes := #[] }, { accessFlags := 2, nameIndex := 76, descriptorIndex := 77, attributes := #[] }])
  fields := #[{ name := "LEFT", type := .int, accessFlags := 24, slot := 0, constantValue := 0 }, { name := "entered", type := (.object "java/util/function/IntPredicate"), accessFlags := 18, slot := 0, constantValue := 0 }, { name := "numbers", type := (.array .int), accessFlags := 2, slot := 1, constantValue := 0 }, { name := "length", type := .int, accessFlags := 2, slot := 2, constantValue := 0 }, { name := "count", type := .int, accessFlags := 2, slot := 3, constantValue := 0 }, { name := "bits", type := (.object "java/util/BitSet"), accessFlags := 2, slot := 4, constantValue := 0 }]
  methods := #[k2m0]
  instanceTypes := #[(.object "java/util/function/IntPredicate"), (.array .int), .int, .int, (.object "java/util/BitSet")]
  staticTypes := #[.int]
  resolved := Array.replicate 210 none
  statics := none }

def pool3 : Array CpInfo := pool [(1, u "java/lang/Cloneable"), (0, .class_ 1), (0, u "java/lang/Object"), (0, .class_ 3)] 3

/-- java/lang/Cloneable -/
def k3 : Class := { plain "java/lang/Cloneable" (some 0) with
  accessFlags := 1537
  interfaces := #[]
  cf := some (fileOf pool3 2 #[] #[] 1537 4 #[] #[])
  fields := #[]
  methods := #[]
  instanceTypes := #[]
  staticTypes := #[]
  resolved := Array.replicate 8 none
  statics := none }

def pool4 : Array CpInfo := pool [(1, u "java/io/Serializable"), (0, .class_ 1), (0, u "java/lang/Object"), (0, .class_ 3)] 3

/-- java/io/Serializable -/
def k4 : Class := { plain "java/io/Serializable" (some 0) with
  accessFlags := 1537
  interfaces := #[]
  cf := some (fileOf pool4 2 #[] #[] 1537 4 #[] #[])
  fields := #[]
  methods := #[]
  instanceTypes := #[]
  staticTypes := #[]
  resolved := Array.replicate 8 none
  statics := none }

/-- the primitive byte -/
def k5 : Class := { plain "byte" none with kind := .primitive 'B', accessFlags := 0x411 }
/-- [B -/
def k6 : Class := { plain "[B" (some 0) with kind := .array 5 .byte, interfaces := #[3, 4], accessFlags := 1041 }

/-- the primitive int -/
def k7 : Class := { plain "int" none with kind := .primitive 'I', accessFlags := 0x411 }
/-- [I -/
def k8 : Class := { plain "[I" (some 0) with kind := .array 7 .int, interfaces := #[3, 4], accessFlags := 1041 }

def heap : Heap := #[]
def classes : Array Class := #[k0, k1, k2, k3, k4, k5, k6, k7, k8]
def interned : List (Array UInt16 × Addr) := []
def slotsUsed : Nat := 0
def theMethod : MethodId := ⟨1, 3⟩
def args0 : Array Value := #[.int 5, .int 6]
def aboutOver (below : List Frame) : State where
  vm := { classes := classes, interned := interned.toArray }
  heap := heap
  slotsUsed := slotsUsed
  threads := #[{ frames := .invoking theMethod args0 :: below }]
def below0 : List Frame := [.native { method := ⟨0, 0⟩, args := #[] }]
def about1 : State := aboutOver below0
def p0 : Program := .bare "" "" ""
def e0 : Env := launch0.env 0 0 0
theorem w_frames : about1.frames = Frame.invoking theMethod args0 :: below0 := rfl
set_option maxRecDepth 65536 in
theorem w_args : argsFit about1.vm theMethod args0 = true := by decide +kernel
set_option maxRecDepth 65536 in
theorem w_heap : heapFits about1 = true := by decide +kernel
set_option maxRecDepth 65536 in
theorem w_runnable : about1.curStatus? = some .runnable := by decide +kernel
set_option maxRecDepth 65536 in
theorem w_alone : about1.alone = true := by decide +kernel
set_option maxRecDepth 65536 in
theorem w_named : about1.methodNamed? x = some theMethod := by decide +kernel
set_option maxRecDepth 65536 in
theorem w_hears : about1.hears theMethod below0 = true := by decide +kernel
set_option maxRecDepth 65536 in
theorem w_ripe : about1.ripe theMethod args0 below0 = true := by decide +kernel
theorem w_running : about1.status = .running := rfl
set_option maxRecDepth 65536 in
theorem w_room : about1.hasRoom e0.platform room_1 = true :=
  launch0.hasRoom_least _ room_1 (by decide +kernel) (by decide +kernel) (by decide +kernel) (by decide +kernel) (by decide +kernel) (by decide +kernel)
theorem allAtoms_all (ts : List Jvm.Cond) (a : Array Jvm.Value) (st : Jvm.State) : (allAtoms ts).before a st = ts.all (fun c => c.before a st) := by
  induction ts with
  | nil => rfl
  | cons c t ih =>
    show (Jvm.Cond.and c (allAtoms t)).before a st = _
    rw [Jvm.Cond.before_and, ih, List.all_cons]
def words1 : List Jvm.Cond := Jvm.Cond.code x code maxLocals ret :: tables_1
/-- a 'code' word, met by the world's own term for the bytes: nothing is compared byte by byte -/
theorem code_word {y : MethodName} {bytes : ByteArray} {mx : Nat} {rt : Option FieldType} {a : Array Value} {s : State} {m : MethodId} {meth : Method} {c : Code} (h1 : s.methodNamed? y = some m) (h2 : s.vm.method? m = some meth) (h3 : meth.code = some c) (h4 : c.code = bytes)
    (h5 : (c.maxLocals == mx && c.exceptionTable.isEmpty && decide (c.maxStack ≤ mostOperands) && decide (meth.sig.returnType = rt) && !meth.locks && decide (parseMethodDescriptor y.desc = some meth.sig)) = true) : (Jvm.Cond.code y bytes mx rt).before a s = true := by
  simp only [Bool.and_eq_true, beq_iff_eq, Bool.not_eq_true', decide_eq_true_eq] at h5
  obtain ⟨⟨⟨⟨⟨g1, g2⟩, g3⟩, g4⟩, g5⟩, g6⟩ := h5
  simp [Cond.before, Cond.holds, Cond.value, h1, h2, h3, h4, g1, g2, g3, g4, g5, g6]
def isCode : Jvm.Cond → Bool
  | .code _ _ _ _ => true
  | _ => false
theorem all_split {L : List Jvm.Cond} {P : Jvm.Cond → Bool} (h1 : L.all (fun c => isCode c || P c) = true) (h2 : ∀ c ∈ L.filter isCode, P c = true) : L.all P = true := by
  refine List.all_eq_true.mpr fun c hc => ?_
  have h := List.all_eq_true.mp h1 c hc
  rcases Bool.eq_false_or_eq_true (isCode c) with hi | hi
  · exact h2 c (List.mem_filter.mpr ⟨hc, hi⟩)
  · simpa [hi] using h
set_option maxRecDepth 65536 in
theorem w_c0 : (Jvm.Cond.code x code maxLocals ret).before args0 about1 = true := code_word (m := ⟨1, 3⟩) (meth := k1m3) (c := k1c3) (by decide +kernel) rfl rfl rfl (by decide +kernel)
set_option maxRecDepth 65536 in
theorem w_c1 : (Jvm.Cond.code ({ cls := "com/example/even_roster/evenroster/scim/HoldersRenumberedPinLaw", name := "bit", desc := "(II)I" } : Jvm.MethodName) method_2_code (2 : Nat) (Option.some Jvm.ClassFile.FieldType.int)).before args0 about1 = true := code_word (m := ⟨1, 1⟩) (meth := k1m1) (c := k1c1) (by decide +kernel) rfl rfl rfl (by decide +kernel)
set_option maxRecDepth 65536 in
theorem w_c2 : (Jvm.Cond.code ({ cls := "com/example/even_roster/evenroster/scim/Holders", name := "renumbered", desc := "([II)I" } : Jvm.MethodName) prog_7_method_9_code (2 : Nat) (Option.some Jvm.ClassFile.FieldType.int)).before args0 about1 = true := code_word (m := ⟨2, 0⟩) (meth := k2m0) (c := k2c0) (by decide +kernel) rfl rfl rfl (by decide +kernel)
set_option maxRecDepth 65536 in
theorem w_c3 : (Jvm.Cond.code ({ cls := "com/example/even_roster/evenroster/scim/HoldersRenumberedPinLaw", name := "countBelow", desc := "(II)I" } : Jvm.MethodName) method_3_code (3 : Nat) (Option.some Jvm.ClassFile.FieldType.int)).before args0 about1 = true := code_word (m := ⟨1, 2⟩) (meth := k1m2) (c := k1c2) (by decide +kernel) rfl rfl rfl (by decide +kernel)
def codes1 : List Jvm.Cond := [Jvm.Cond.code x code maxLocals ret, Jvm.Cond.code ({ cls := "com/example/even_roster/evenroster/scim/HoldersRenumberedPinLaw", name := "bit", desc := "(II)I" } : Jvm.MethodName) method_2_code (2 : Nat) (Option.some Jvm.ClassFile.FieldType.int), Jvm.Cond.code ({ cls := "com/example/even_roster/evenroster/scim/Holders", name := "renumbered", desc := "([II)I" } : Jvm.MethodName) prog_7_method_9_code (2 : Nat) (Option.some Jvm.ClassFile.FieldType.int), Jvm.Cond.code ({ cls := "com/example/even_roster/evenroster/scim/HoldersRenumberedPinLaw", name := "countBelow", desc := "(II)I" } : Jvm.MethodName) method_3_code (3 : Nat) (Option.some Jvm.ClassFile.FieldType.int)]
set_option maxRecDepth 65536 in
theorem codes_eq : words1.filter isCode = codes1 := rfl
theorem w_codes : ∀ c ∈ words1.filter isCode, c.before args0 about1 = true := by
  rw [codes_eq]
  intro c hc
  simp only [codes1, List.mem_cons, List.not_mem_nil, or_false] at hc
  rcases hc with rfl | rfl | rfl | rfl
  · exact w_c0
  · exact w_c1
  · exact w_c2
  · exact w_c3
set_option maxRecDepth 65536 in
theorem w_t1 : words1.all (fun c => isCode c || c.before args0 about1) = true := by decide +kernel
theorem w_tables : (allAtoms (Jvm.Cond.code x code maxLocals ret :: tables_1)).before args0 about1 = true := by
  rw [allAtoms_all]
  show words1.all (fun c => c.before args0 about1) = true
  refine all_split ?_ w_codes
  rw [w_t1]
set_option maxRecDepth 65536 in
theorem w_case : (Jvm.Cond.and given_1 narrow_1).before args0 about1 = true := by decide +kernel
theorem w_applies : (headSpec (Jvm.Cond.code x code maxLocals ret :: tables_1) room_1).applies x e0.platform about1 = true :=
  (Spec.applies_iff w_frames).mpr ⟨w_running, w_runnable, w_alone, w_named, w_hears, w_ripe, w_room, w_tables⟩
theorem atStart : AtStart classFile x code maxLocals ret World_1 tables_1 room_1 Calls_1 rest_1 Pre_1 launch0 p0 e0 about1 theMethod args0 below0 :=
  ⟨lists_1, trivial, launch0.admits_env _ _ _, launch0.least_env, fairChoices_fair.cas, fairChoices_fair.clock, w_frames, w_args, w_heap, w_applies, trivial, trivial, w_case⟩
end start1
theorem witness_1 : WitnessClaimed_1 := ⟨start1.p0, start1.e0, start1.about1, start1.theMethod, start1.args0, start1.below0, start1.atStart⟩
end Jvm.Pilot.@@N@@
