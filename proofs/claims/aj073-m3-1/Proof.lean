import JvmDerived
import JvmDerived.Pilot.@@N@@Statement
import JvmDerived.Pilot.@@N@@Code
set_option linter.unusedVariables false
set_option linter.unusedSimpArgs false
namespace Jvm.RoadKit
open Sem ClassFile Op Lib Jvm.Stand Jvm.Free Jvm.LawKit
section New
variable {p : Program} {l : Launch} {e : Env} {R : Room} {s : State} {m : MethodId} {args : Array Value} {below : List Frame} {meth : Method} {c : Code} {T : State} {locs : List Loc} {cells slots : Nat}
theorem retI (X : Stand p l e R s m args below meth c T locs cells slots) (hx : p.tables.exec = Jvm.exec) {pc : Nat} {Ls : Array Slot} {z : Int32} {rest : List Value} (hret : meth.sig.returnType = some .int) (hd : decode c.code pc = .ok (.ireturn, 1)) {fs : List Frame}
    (hl : ∀ (f : JFrame) (acts : List Action), f.method = m → f.locked = none → f.entered = [] → (doReturn e (T.setTop f) acts (some (.int z))).1 = T.setFrames fs) : Steps p.tables e below (T.setTop (mkF m pc Ls (.int z :: rest))) (T.setFrames fs) := by
  have hm' : T.vm.method? m = some meth := X.method'
  have hn : narrow .int (.int z) = .int z := rfl
  show Steps p.tables e below (T.setTop { method := m, pc := pc, locals := Ls, stack := _ :: rest, locked := none }) _
  jvm_step X.here [X.here.top, hx, hd, hm', hret, hn]
  first | (intro acts; rw [hl _ acts rfl rfl rfl]) | rw [hl _ _ rfl rfl rfl]
  exact Steps.refl _
theorem retJ (X : Stand p l e R s m args below meth c T locs cells slots) (hx : p.tables.exec = Jvm.exec) {pc : Nat} {Ls : Array Slot} {z : Int64} {rest : List Value} (hret : meth.sig.returnType = some .long) (hd : decode c.code pc = .ok (.lreturn, 1)) {fs : List Frame}
    (hl : ∀ (f : JFrame) (acts : List Action), f.method = m → f.locked = none → f.entered = [] → (doReturn e (T.setTop f) acts (some (.long z))).1 = T.setFrames fs) : Steps p.tables e below (T.setTop (mkF m pc Ls (.long z :: rest))) (T.setFrames fs) := by
  have hm' : T.vm.method? m = some meth := X.method'
  have hn : narrow .long (.long z) = .long z := rfl
  show Steps p.tables e below (T.setTop { method := m, pc := pc, locals := Ls, stack := _ :: rest, locked := none }) _
  jvm_step X.here [X.here.top, hx, hd, hm', hret, hn]
  first | (intro acts; rw [hl _ acts rfl rfl rfl]) | rw [hl _ _ rfl rfl rfl]
  exact Steps.refl _
end New
end Jvm.RoadKit
namespace Jvm.Pilot.@@N@@
open Jvm Jvm.ClassFile Sem Op Lib Jvm.Free Jvm.Stand Jvm.LawKit Jvm.RoadKit Bundle Jvm.Pilot.@@N@@.Jvm.D
def ArF (Z : State) (h : Heap) (a : Addr) (ty : FieldType) (n : Nat) (f : Nat → Value) : Prop := ∃ c : Cell, Arr Z h a c ty ∧ c.slots.size = n ∧ ∀ i, i < n → c.slots[i]? = some (f i)
theorem ArF.lt {Z : State} {h : Heap} {a : Addr} {ty : FieldType} {n : Nat} {f : Nat → Value} (F : ArF Z h a ty n f) : a < h.size := by obtain ⟨c, A, -⟩ := F; exact A.lt
theorem ArF.ext {Z : State} {h h' : Heap} {a : Addr} {ty : FieldType} {n : Nat} {f : Nat → Value} (F : ArF Z h a ty n f) (E : Ext h h') : ArF Z h' a ty n f := by obtain ⟨c, A, r⟩ := F; exact ⟨c, A.ext E, r⟩
theorem ArF.other {Z : State} {h h' : Heap} {a b : Addr} {ty : FieldType} {n sl : Nat} {f : Nat → Value} {v : Value} (F : ArF Z h b ty n f) (W : Wr h h' a sl v) (q : b ≠ a) : ArF Z h' b ty n f := by obtain ⟨c, A, r⟩ := F; exact ⟨c, A.other W q, r⟩
theorem ArF.keep {Z : State} {h h' : Heap} {a : Addr} {ty : FieldType} {n : Nat} {f : Nat → Value} {ws : List Addr} (F : ArF Z h a ty n f) (K : Keep h h' ws) (q : a ∉ ws) : ArF Z h' a ty n f := by obtain ⟨c, A, r⟩ := F; exact ⟨c, ⟨K.2.1 a c A.1 q, A.2⟩, r⟩
theorem ArF.mk0 {Z : State} {h : Heap} {a : Addr} {ty : FieldType} {k : ClassId} {z : Int32} {n : Nat} {v : Value} (A : Arr Z h a (newA k ty z) ty) (hn : z.toNatClampNeg = n) (hv : defaultValue ty = v) : ArF Z h a ty n (fun _ => v) := by
  subst hn hv
  refine ⟨_, A, sz_new _ _ _, fun i hi => ?_⟩
  show (Array.replicate _ _)[i]? = _
  rw [Array.getElem?_replicate, if_pos hi]
theorem ArF.set {Z : State} {h h' : Heap} {a : Addr} {ty : FieldType} {n : Nat} {f : Nat → Value} {c : Cell} {j : Int32} {v : Value} (A : Arr Z h a c ty) (S : c.slots.size = n) (H : ∀ i, i < n → c.slots[i]? = some (f i)) (W : Wr h h' a j.toNatClampNeg v) (hj : ¬ (j < 0 ∨ c.slots.size ≤ j.toNatClampNeg)) : ArF Z h' a ty n (fun i => if i = j.toNatClampNeg then v else f i) := by
  refine ⟨_, A.same W, by rw [sz_set]; exact S, fun i hi => ?_⟩
  have hjl : j.toNatClampNeg < c.slots.size := Nat.lt_of_not_le fun y => hj (Or.inr y)
  show (c.slots.setIfInBounds j.toNatClampNeg v)[i]? = some (if i = j.toNatClampNeg then v else f i)
  rw [Array.getElem?_setIfInBounds]
  by_cases e : j.toNatClampNeg = i
  · rw [if_pos e, if_pos hjl, if_pos e.symm]
  · rw [if_neg e, if_neg (Ne.symm e)]; exact H i hi
theorem ArF.at {n : Nat} {f : Nat → Value} {c : Cell} {j : Int32} {v : Value} (S : c.slots.size = n) (H : ∀ i, i < n → c.slots[i]? = some (f i)) (hj : ¬ (j < 0 ∨ c.slots.size ≤ j.toNatClampNeg)) (e : f j.toNatClampNeg = v) : c.slots[j.toNatClampNeg]? = some v := by
  rw [← e]; exact H _ (S ▸ Nat.lt_of_not_le fun y => hj (Or.inr y))
theorem inA {n : Nat} {c : Cell} {j : Int32} (S : c.slots.size = n) (h0 : ¬ j < 0) (h1 : j.toNatClampNeg < n) : ¬ (j < 0 ∨ c.slots.size ≤ j.toNatClampNeg) := fun q => q.elim h0 fun r => Nat.not_lt.mpr (S ▸ r) h1
theorem ArF.congr {Z : State} {h : Heap} {a : Addr} {ty : FieldType} {n : Nat} {f g : Nat → Value} (F : ArF Z h a ty n f) (q : ∀ i, i < n → f i = g i) : ArF Z h a ty n g := by obtain ⟨c, A, S, H⟩ := F; exact ⟨c, A, S, fun i hi => (H i hi).trans (congrArg some (q i hi))⟩
theorem Sta.keep0 {Z : State} {h h' : Heap} {C n d : String} {v : Value} (F : Sta Z h C n d v) (K : Keep h h' []) : Sta Z h' C n d v := by obtain ⟨cf, i, k, f, st, cell, h1, h2, h3, h4, h5, r⟩ := F; exact ⟨cf, i, k, f, st, cell, h1, h2, h3, h4, K.2.1 _ _ h5 nin0, r⟩
theorem own_selp {s : State} {args : Array Value} {y : MethodName} {n : Nat} (hi : (Jvm.Cond.instantiable y.cls n).before args s = true) (hpriv : s.PrivateAt y) (hinst : (Jvm.Cond.instanceMethod y).before args s = true) (hy : y.cls ≠ "java/lang/invoke/MethodHandle" ∧ y.cls ≠ "java/lang/invoke/VarHandle") : (Jvm.Cond.selects y.cls y y).before args s = true := by
  obtain ⟨c, k, hc, hk, -, hni, -⟩ := Cond.instantiable_spec hi
  exact Jvm.Stand.selects_self_of_private hc hk (Bool.or_eq_false_iff.mp hni).1 hpriv hinst hy
theorem own_fc {s : State} {vm : Vm} {n : Nat} {own : String} {cls : ClassId} (hS : s.Since vm n) (h : s.vm.findClass own = some cls) : vm.findClass own = some cls := by rw [hS.1.alike.findClass]; exact h
theorem own_sAtoms {Z : State} {a0 : Array Value} (hw : ∀ d ∈ tables_1, d.before a0 Z = true) : ∀ a ∈ Bundle.stringAtoms, a.before a0 Z = true := by
  intro a ha
  simp only [Bundle.stringAtoms, List.mem_cons, List.not_mem_nil, or_false] at ha
  rcases ha with rfl | rfl | rfl | rfl | rfl | rfl | rfl
  · exact (hw _ (List.mem_of_getElem? (i := 6) rfl))
  · exact (hw _ (List.mem_of_getElem? (i := 7) rfl))
  · exact (hw _ (List.mem_of_getElem? (i := 0) rfl))
  · exact (hw _ (List.mem_of_getElem? (i := 8) rfl))
  · exact (hw _ (List.mem_of_getElem? (i := 9) rfl))
  · exact (hw _ (List.mem_of_getElem? (i := 10) rfl))
  · exact (hw _ (List.mem_of_getElem? (i := 11) rfl))
theorem pd_0 : parseMethodDescriptor "(II)V" = some ⟨[.int, .int], none⟩ := by decide +kernel
theorem pd_1 : parseMethodDescriptor "(II)I" = some ⟨[.int, .int], some .int⟩ := by decide +kernel
theorem pd_2 : parseMethodDescriptor "([BII)[B" = some ⟨[(.array .byte), .int, .int], some (.array .byte)⟩ := by decide +kernel
theorem pd_3 : parseMethodDescriptor "()I" = some ⟨[], some .int⟩ := by decide +kernel
theorem pd_4 : parseMethodDescriptor "(JLjava/lang/String;Ljava/lang/String;)V" = some ⟨[.long, (.object "java/lang/String"), (.object "java/lang/String")], none⟩ := by decide +kernel
theorem pd_5 : parseMethodDescriptor "(JLjava/lang/String;)V" = some ⟨[.long, (.object "java/lang/String")], none⟩ := by decide +kernel
theorem pd_6 : parseMethodDescriptor "([BLjava/lang/String;)V" = some ⟨[(.array .byte), (.object "java/lang/String")], none⟩ := by decide +kernel
theorem pd_7 : parseMethodDescriptor "(ILjava/lang/String;)[B" = some ⟨[.int, (.object "java/lang/String")], some (.array .byte)⟩ := by decide +kernel
theorem pd_8 : parseMethodDescriptor "(I)[B" = some ⟨[.int], some (.array .byte)⟩ := by decide +kernel
theorem pd_9 : parseMethodDescriptor "([B[BIII)Z" = some ⟨[(.array .byte), (.array .byte), .int, .int, .int], some .boolean⟩ := by decide +kernel
def own_min (p1 : Int32) (p2 : Int32) : Int32 := if p2 < p1 then p2 else p1
theorem d10_0 : decode jdk_29_method_69_code 0 = .ok (.iload_n 0, 1) := by decide +kernel
theorem d10_1 : decode jdk_29_method_69_code 1 = .ok (.iload_n 1, 1) := by decide +kernel
theorem d10_2 : decode jdk_29_method_69_code 2 = .ok (.if_icmp .gt 7, 3) := by decide +kernel
theorem d10_5 : decode jdk_29_method_69_code 5 = .ok (.iload_n 0, 1) := by decide +kernel
theorem d10_6 : decode jdk_29_method_69_code 6 = .ok (.goto 4, 3) := by decide +kernel
theorem d10_9 : decode jdk_29_method_69_code 9 = .ok (.iload_n 1, 1) := by decide +kernel
theorem d10_10 : decode jdk_29_method_69_code 10 = .ok (.ireturn, 1) := by decide +kernel
theorem ef_rmi (m : MethodId) (x0 : Int32) (x1 : Int32) : entryFrame m #[(.int x0), (.int x1)] 2 = mkF m 0 #[.val (.int x0), .val (.int x1)] [] := by first | (simp [entryFrame, mkF, argsToLocals, Value.category]; done) | rfl
def Q_rmi (Z : State) (p1 : Int32) (p2 : Int32) (h0 : Heap) (n0 : Nat) (v : Option Value) (h : Heap) (L : List Loc) : Prop := v = some (.int (own_min p1 p2)) ∧ Fr n0 L ∧ h = h0
set_option maxRecDepth 65536 in
set_option maxHeartbeats 40000000 in
theorem rmi (l : Launch) (Z : State) (a0 : Array Value) (hw : ∀ d ∈ tables_1, d.before a0 Z = true) (ws : List Jvm.Cond) (p1 : Int32) (p2 : Int32) (h0 : Heap) (n0 : Nat) (Z0 : n0 ≤ h0.size) :
    MetFree l (⟨"java/lang/Math", "min", "(II)I"⟩ : MethodName) (head1 (Jvm.Cond.code (⟨"java/lang/Math", "min", "(II)I"⟩ : MethodName) jdk_29_method_69_code 2 (some .int) :: ws) ({ frames := 0, cells := 0, slots := 0, locals := 0 } : Room)) (fun a U => a = #[(.int p1), (.int p2)] ∧ Z.Warmed39 U.vm ∧ U.heap = h0) (fun _ _ _ _ _ => True) (fun _ U o U' => ∃ v L, o = .returned v ∧ Q_rmi Z p1 p2 h0 n0 v U'.heap L ∧ FrameEnd U o U' L ({ frames := 0, cells := 0, slots := 0, locals := 0 } : Room).cells ({ frames := 0, cells := 0, slots := 0, locals := 0 } : Room).slots) := by
  refine MetFree.of_bodySF (Jvm.Free.JP.mathPlain rfl (by decide +kernel)) hisR ?_
  intro p e s m args below meth c s₁ Bd hml0 hP hK
  obtain ⟨rfl, hZ, hh⟩ := hP
  have hx := Bd.exec
  have hby := Bd.bytes
  have hml : c.maxLocals = 2 := hml0
  have hown : s.vm.findClass "java/lang/Math" = some m.cls := findClass_of_methodNamed Bd.named
  have hnm := (name_of_methodNamed Bd.named Bd.method).1
  have X0 : Stand p l e ({ frames := 0, cells := 0, slots := 0, locals := 0 } : Room) s m #[(.int p1), (.int p2)] below meth c s₁ [] 0 0 := Stand.of_body Bd
  have e0 : s₁.heap = h0 := by rw [← hh, Bd.state]; rfl
  have N0 := Fr.nil n0
  have pre0 : ∀ t, Steps p.tables e below (s₁.setTop (mkF m 0 #[.val (.int p1), .val (.int p2)] [])) t → Steps p.tables e below (s₁.setTop (entryFrame m #[(.int p1), (.int p2)] 2)) t := fun t k => castTop (ef_rmi m p1 p2) k
  have pre1 : ∀ t, Steps p.tables e below (s₁.setTop (mkF m 2 #[.val (.int p1), .val (.int p2)] [(.int p2), (.int p1)])) t → Steps p.tables e below (s₁.setTop (entryFrame m #[(.int p1), (.int p2)] 2)) t := by
    intro t k
    refine pre0 t ?_
    show Steps p.tables e below (s₁.setTop (mkF m 0 #[.val (.int p1), .val (.int p2)] [])) _
    refine XS.iloadN X0.here hx rfl (hb hby d10_0) rfl ?_
    show Steps p.tables e below (s₁.setTop (mkF m 1 #[.val (.int p1), .val (.int p2)] [(.int p1)])) _
    refine XS.iloadN X0.here hx rfl (hb hby d10_1) rfl ?_
    exact k
  by_cases hc2_2 : p2 < p1
  · obtain ⟨fs, hr, hrun, hended, hW, hsame⟩ := X0.leave (v := some (.int p2)) (fun h => by rw [Bd.returns] at h; cases h)
    refine ⟨_, _, pre1 _ ?_, hrun, hended, _, _, rfl, ?_, ⟨_, rfl⟩, hW, hsame.mono (by decide) (by decide)⟩
    · show Steps p.tables e below (s₁.setTop (mkF m 2 #[.val (.int p1), .val (.int p2)] [(.int p2), (.int p1)])) _
      refine XS.icmpYes X0.here hx rfl (pc0 := 2) (pc' := 9) rfl (hb hby d10_2) rfl (tlt hc2_2).2.2.1 (by decide) (by decide) ?_
      show Steps p.tables e below (s₁.setTop (mkF m 9 #[.val (.int p1), .val (.int p2)] [])) _
      refine XS.iloadN X0.here hx rfl (hb hby d10_9) rfl ?_
      show Steps p.tables e below (s₁.setTop (mkF m 10 #[.val (.int p1), .val (.int p2)] [(.int p2)])) _
      exact retI X0 hx Bd.returns (hb hby d10_10) hr
    · show Q_rmi Z p1 p2 h0 n0 _ s₁.heap _
      rw [e0]
      exact ⟨by rw [own_min, if_pos hc2_2], N0, rfl⟩
  · obtain ⟨fs, hr, hrun, hended, hW, hsame⟩ := X0.leave (v := some (.int p1)) (fun h => by rw [Bd.returns] at h; cases h)
    refine ⟨_, _, pre1 _ ?_, hrun, hended, _, _, rfl, ?_, ⟨_, rfl⟩, hW, hsame.mono (by decide) (by decide)⟩
    · show Steps p.tables e below (s₁.setTop (mkF m 2 #[.val (.int p1), .val (.int p2)] [(.int p2), (.int p1)])) _
      refine XS.icmpNo X0.here hx rfl (hb hby d10_2) rfl (flt hc2_2).2.2.1 ?_
      show Steps p.tables e below (s₁.setTop (mkF m 5 #[.val (.int p1), .val (.int p2)] [])) _
      refine XS.iloadN X0.here hx rfl (hb hby d10_5) rfl ?_
      show Steps p.tables e below (s₁.setTop (mkF m 6 #[.val (.int p1), .val (.int p2)] [(.int p1)])) _
      refine XS.goto X0.here hx rfl (pc0 := 6) (pc' := 10) rfl (hb hby d10_6) (by decide) (by decide) ?_
      show Steps p.tables e below (s₁.setTop (mkF m 10 #[.val (.int p1), .val (.int p2)] [(.int p1)])) _
      exact retI X0 hx Bd.returns (hb hby d10_10) hr
    · show Q_rmi Z p1 p2 h0 n0 _ s₁.heap _
      rw [e0]
      exact ⟨by rw [own_min, if_neg hc2_2], N0, rfl⟩
theorem d9_0 : decode jdk_65_method_131_code 0 = .ok (.iload_n 1, 1) := by decide +kernel
theorem d9_1 : decode jdk_65_method_131_code 1 = .ok (.iload_n 0, 1) := by decide +kernel
theorem d9_2 : decode jdk_65_method_131_code 2 = .ok (.if_icmp .ge 35, 3) := by decide +kernel
theorem d9_37 : decode jdk_65_method_131_code 37 = .ok (.return_, 1) := by decide +kernel
theorem pn_rmk : plainName "java/util/Arrays" = true := by first | (simp [plainName, overriddenIn]; done) | decide +kernel
theorem ef_rmk (m : MethodId) (x0 : Int32) (x1 : Int32) : entryFrame m #[(.int x0), (.int x1)] 2 = mkF m 0 #[.val (.int x0), .val (.int x1)] [] := by first | (simp [entryFrame, mkF, argsToLocals, Value.category]; done) | rfl
def Q_rmk (Z : State) (p1 : Int32) (p2 : Int32) (h0 : Heap) (n0 : Nat) (v : Option Value) (h : Heap) (L : List Loc) : Prop := v = none ∧ Fr n0 L ∧ h = h0
set_option maxRecDepth 65536 in
set_option maxHeartbeats 40000000 in
theorem rmk (l : Launch) (Z : State) (a0 : Array Value) (hw : ∀ d ∈ tables_1, d.before a0 Z = true) (ws : List Jvm.Cond) (p1 : Int32) (p2 : Int32) (h0 : Heap) (n0 : Nat) (Z0 : n0 ≤ h0.size) (hle : ¬ p2 < p1) :
    MetFree l (⟨"java/util/Arrays", "checkLength", "(II)V"⟩ : MethodName) (head1 (Jvm.Cond.code (⟨"java/util/Arrays", "checkLength", "(II)V"⟩ : MethodName) jdk_65_method_131_code 2 none :: ws) ({ frames := 0, cells := 0, slots := 0, locals := 0 } : Room)) (fun a U => a = #[(.int p1), (.int p2)] ∧ Z.Warmed39 U.vm ∧ U.heap = h0) (fun _ _ _ _ _ => True) (fun _ U o U' => ∃ v L, o = .returned v ∧ Q_rmk Z p1 p2 h0 n0 v U'.heap L ∧ FrameEnd U o U' L ({ frames := 0, cells := 0, slots := 0, locals := 0 } : Room).cells ({ frames := 0, cells := 0, slots := 0, locals := 0 } : Room).slots) := by
  refine MetFree.of_bodySF (plainFor_of_name pn_rmk) hisR ?_
  intro p e s m args below meth c s₁ Bd hml0 hP hK
  obtain ⟨rfl, hZ, hh⟩ := hP
  have hx := Bd.exec
  have hby := Bd.bytes
  have hml : c.maxLocals = 2 := hml0
  have hown : s.vm.findClass "java/util/Arrays" = some m.cls := findClass_of_methodNamed Bd.named
  have hnm := (name_of_methodNamed Bd.named Bd.method).1
  have X0 : Stand p l e ({ frames := 0, cells := 0, slots := 0, locals := 0 } : Room) s m #[(.int p1), (.int p2)] below meth c s₁ [] 0 0 := Stand.of_body Bd
  have e0 : s₁.heap = h0 := by rw [← hh, Bd.state]; rfl
  have N0 := Fr.nil n0
  have pre0 : ∀ t, Steps p.tables e below (s₁.setTop (mkF m 0 #[.val (.int p1), .val (.int p2)] [])) t → Steps p.tables e below (s₁.setTop (entryFrame m #[(.int p1), (.int p2)] 2)) t := fun t k => castTop (ef_rmk m p1 p2) k
  obtain ⟨fs, hr, hrun, hended, hW, hsame⟩ := X0.leave (v := none) (fun _ => rfl)
  refine ⟨_, _, pre0 _ ?_, hrun, hended, _, _, rfl, ?_, ⟨_, rfl⟩, hW, hsame.mono (by decide) (by decide)⟩
  · show Steps p.tables e below (s₁.setTop (mkF m 0 #[.val (.int p1), .val (.int p2)] [])) _
    refine XS.iloadN X0.here hx rfl (hb hby d9_0) rfl ?_
    show Steps p.tables e below (s₁.setTop (mkF m 1 #[.val (.int p1), .val (.int p2)] [(.int p2)])) _
    refine XS.iloadN X0.here hx rfl (hb hby d9_1) rfl ?_
    show Steps p.tables e below (s₁.setTop (mkF m 2 #[.val (.int p1), .val (.int p2)] [(.int p1), (.int p2)])) _
    refine XS.icmpYes X0.here hx rfl (pc0 := 2) (pc' := 37) rfl (hb hby d9_2) rfl (flt (hle : ¬ (p2 < p1))).2.1 (by decide) (by decide) ?_
    show Steps p.tables e below (s₁.setTop (mkF m 37 #[.val (.int p1), .val (.int p2)] [])) _
    exact X0.returnOut hx Bd.returns (hb hby d9_37) hr
  · show Q_rmk Z p1 p2 h0 n0 _ s₁.heap _
    rw [e0]
    exact ⟨rfl, N0, rfl⟩
theorem ArF.arv {Z : State} {h : Heap} {a : Addr} {ty : FieldType} {z : Int32} {f : Nat → Value} (F : ArF Z h a ty z.toNatClampNeg f) (hz : ¬ z < 0) (hf : ∀ i, fits ty (f i) = true) (d : Value) : ∃ k, Arv Z h a k ty z ((List.range z.toNatClampNeg).map f) d := by
  obtain ⟨c, A, S, H⟩ := F
  have gd : ∀ i, i < z.toNatClampNeg → ((List.range z.toNatClampNeg).map f).getD i d = f i := fun i hi => by
    rw [List.getD_eq_getElem?_getD, List.getElem?_map, List.getElem?_range hi]; rfl
  exact ⟨c.cls, c, A, rfl, S, hz, fun i hi => by rw [gd i (S ▸ hi)]; exact H i (S ▸ hi), fun i hi => by rw [gd i (S ▸ hi)]; exact hf i⟩
theorem Arv.arF {Z : State} {h : Heap} {a : Addr} {k : ClassId} {ty : FieldType} {z : Int32} {vs : List Value} {d : Value} (F : Arv Z h a k ty z vs d) : ArF Z h a ty z.toNatClampNeg (fun i => vs.getD i d) := by
  obtain ⟨c, A, -, S, -, H, -⟩ := F
  exact ⟨c, A, S, fun i hi => H i (S.symm ▸ hi)⟩
def own_R (p q : Int32) : Prop := 0 ≤ p.toInt ∧ p.toInt ≤ q.toInt ∧ q.toInt ≤ 4
theorem own_neg {x : Int32} (h : 0 ≤ x.toInt) : ¬ x < 0 := by rw [Int32.lt_iff_toInt_lt, show (0 : Int32).toInt = 0 from by decide]; omega
theorem own_Rle {p q : Int32} (h : own_R p q) : ¬ q < p := by rw [Int32.lt_iff_toInt_lt]; have := h.2.1; omega
theorem own_sub {p q : Int32} (h : own_R p q) : (q - p).toInt = q.toInt - p.toInt := by
  have hs := c_isub q p
  have r := rng32 (q - p)
  have := h.1
  have := h.2
  omega
theorem own_sub4 {p q : Int32} (h : own_R p q) : ((4 : Int32) - p).toInt = 4 - p.toInt := by
  have hs := c_isub 4 p
  have r := rng32 ((4 : Int32) - p)
  rw [show (4 : Int32).toInt = 4 from by decide] at hs
  have := h.1
  have := h.2
  omega
theorem own_min0 {p q : Int32} (h : own_R p q) : own_min ((4 : Int32) - p) (q - p) = q - p := by
  have a := own_sub h
  have b := own_sub4 h
  have := h.1
  have := h.2
  unfold own_min
  split
  · rfl
  · rename_i q1
    apply Int32.toInt_inj.mp
    rw [Int32.lt_iff_toInt_lt] at q1
    omega
theorem own_Rn {p q : Int32} (h : own_R p q) : (¬ p < 0) ∧ (¬ (q - p) < 0) ∧ p.toNatClampNeg + (q - p).toNatClampNeg ≤ 4 ∧ (q - p).toNatClampNeg ≤ 4 := by
  have a := own_sub h
  have h1 := h.1
  have h2 := h.2
  have n1 : ¬ p < 0 := own_neg (by omega)
  have n2 : ¬ (q - p) < 0 := own_neg (by omega)
  have e1 := nat_of n1
  have e2 := nat_of n2
  exact ⟨n1, n2, by omega, by omega⟩
theorem own_cpy (f : Nat → Int32) (s n i : Nat) (hs : s + n ≤ 4) (hi : i < n) : ((((List.range n).map fun _ => Value.int 0).take 0 ++ ((List.range n).map fun i => ((List.range 4).map fun i => Value.int (f i)).getD (s + i) .null)) ++ ((List.range n).map fun _ => Value.int 0).drop (0 + n)).getD i .null = Value.int (f (s + i)) := by
  rw [List.take_zero, List.nil_append, List.getD_eq_getElem?_getD, List.getElem?_append_left (by simpa using hi), List.getElem?_map, List.getElem?_range hi]
  show (((List.range 4).map fun i => Value.int (f i)).getD (s + i) .null) = _
  rw [List.getD_eq_getElem?_getD, List.getElem?_map, List.getElem?_range (by omega)]
  rfl
theorem d8_0 : decode jdk_65_method_133_code 0 = .ok (.iload_n 1, 1) := by decide +kernel
theorem d8_1 : decode jdk_65_method_133_code 1 = .ok (.iload_n 2, 1) := by decide +kernel
theorem d8_2 : decode jdk_65_method_133_code 2 = .ok (.invokestatic 343, 3) := by decide +kernel
theorem d8_5 : decode jdk_65_method_133_code 5 = .ok (.iload_n 2, 1) := by decide +kernel
theorem d8_6 : decode jdk_65_method_133_code 6 = .ok (.iload_n 1, 1) := by decide +kernel
theorem d8_7 : decode jdk_65_method_133_code 7 = .ok (.isub, 1) := by decide +kernel
theorem d8_8 : decode jdk_65_method_133_code 8 = .ok (.istore_n 3, 1) := by decide +kernel
theorem d8_9 : decode jdk_65_method_133_code 9 = .ok (.iload_n 3, 1) := by decide +kernel
theorem d8_10 : decode jdk_65_method_133_code 10 = .ok (.newarray .byte, 2) := by decide +kernel
theorem d8_12 : decode jdk_65_method_133_code 12 = .ok (.astore 4, 2) := by decide +kernel
theorem d8_14 : decode jdk_65_method_133_code 14 = .ok (.aload_n 0, 1) := by decide +kernel
theorem d8_15 : decode jdk_65_method_133_code 15 = .ok (.iload_n 1, 1) := by decide +kernel
theorem d8_16 : decode jdk_65_method_133_code 16 = .ok (.aload 4, 2) := by decide +kernel
theorem d8_18 : decode jdk_65_method_133_code 18 = .ok (.iconst 0, 1) := by decide +kernel
theorem d8_19 : decode jdk_65_method_133_code 19 = .ok (.aload_n 0, 1) := by decide +kernel
theorem d8_20 : decode jdk_65_method_133_code 20 = .ok (.arraylength, 1) := by decide +kernel
theorem d8_21 : decode jdk_65_method_133_code 21 = .ok (.iload_n 1, 1) := by decide +kernel
theorem d8_22 : decode jdk_65_method_133_code 22 = .ok (.isub, 1) := by decide +kernel
theorem d8_23 : decode jdk_65_method_133_code 23 = .ok (.iload_n 3, 1) := by decide +kernel
theorem d8_24 : decode jdk_65_method_133_code 24 = .ok (.invokestatic 304, 3) := by decide +kernel
theorem d8_27 : decode jdk_65_method_133_code 27 = .ok (.invokestatic 150, 3) := by decide +kernel
theorem d8_30 : decode jdk_65_method_133_code 30 = .ok (.aload 4, 2) := by decide +kernel
theorem d8_32 : decode jdk_65_method_133_code 32 = .ok (.areturn, 1) := by decide +kernel
theorem pn_rmb : plainName "java/util/Arrays" = true := by first | (simp [plainName, overriddenIn]; done) | decide +kernel
theorem ef_rmb (m : MethodId) (x0 : Addr) (x1 : Int32) (x2 : Int32) : entryFrame m #[(.ref x0), (.int x1), (.int x2)] 5 = mkF m 0 #[.val (.ref x0), .val (.int x1), .val (.int x2), .unset, .unset] [] := by first | (simp [entryFrame, mkF, argsToLocals, Value.category]; done) | rfl
def Q_rmb (Z : State) (a1 : Addr) (p2 : Int32) (p3 : Int32) (f : Nat → Int32) (h0 : Heap) (n0 : Nat) (v : Option Value) (h : Heap) (L : List Loc) : Prop := ∃ b, v = some (.ref b) ∧ Fr n0 L ∧ Keep h0 h [] ∧ h0.size ≤ b ∧ ArF Z h b .byte (p3 - p2).toNatClampNeg (fun i => .int (f (p2.toNatClampNeg + i)))
set_option maxRecDepth 65536 in
set_option maxHeartbeats 40000000 in
theorem rmb (l : Launch) (Z : State) (a0 : Array Value) (hw : ∀ d ∈ tables_1, d.before a0 Z = true) (ws : List Jvm.Cond) (a1 : Addr) (p2 : Int32) (p3 : Int32) (f : Nat → Int32) (h0 : Heap) (n0 : Nat) (Z0 : n0 ≤ h0.size) (V0 : ArF Z h0 a1 .byte 4 (fun i => .int (f i))) (hf : ∀ i, fits .byte (.int (f i)) = true) (hr : own_R p2 p3) :
    MetFree l (⟨"java/util/Arrays", "copyOfRangeByte", "([BII)[B"⟩ : MethodName) (head1 (Jvm.Cond.code (⟨"java/util/Arrays", "copyOfRangeByte", "([BII)[B"⟩ : MethodName) jdk_65_method_133_code 5 (some (.array .byte)) :: ws) ({ frames := 1, cells := 1, slots := 4, locals := 64 } : Room)) (fun a U => a = #[(.ref a1), (.int p2), (.int p3)] ∧ Z.Warmed39 U.vm ∧ U.heap = h0) (fun _ _ _ _ _ => True) (fun _ U o U' => ∃ v L, o = .returned v ∧ Q_rmb Z a1 p2 p3 f h0 n0 v U'.heap L ∧ FrameEnd U o U' L ({ frames := 1, cells := 1, slots := 4, locals := 64 } : Room).cells ({ frames := 1, cells := 1, slots := 4, locals := 64 } : Room).slots) := by
  refine MetFree.of_bodySF (plainFor_of_name pn_rmb) hisR ?_
  intro p e s m args below meth c s₁ Bd hml0 hP hK
  obtain ⟨rfl, hZ, hh⟩ := hP
  have hx := Bd.exec
  have hby := Bd.bytes
  have hml : c.maxLocals = 5 := hml0
  have hown : s.vm.findClass "java/util/Arrays" = some m.cls := findClass_of_methodNamed Bd.named
  have hnm := (name_of_methodNamed Bd.named Bd.method).1
  have X0 : Stand p l e ({ frames := 1, cells := 1, slots := 4, locals := 64 } : Room) s m #[(.ref a1), (.int p2), (.int p3)] below meth c s₁ [] 0 0 := Stand.of_body Bd
  have e0 : s₁.heap = h0 := by rw [← hh, Bd.state]; rfl
  have N0 := Fr.nil n0
  have pre0 : ∀ t, Steps p.tables e below (s₁.setTop (mkF m 0 #[.val (.ref a1), .val (.int p2), .val (.int p3), .unset, .unset] [])) t → Steps p.tables e below (s₁.setTop (entryFrame m #[(.ref a1), (.int p2), (.int p3)] 5)) t := fun t k => castTop (ef_rmb m a1 p2 p3) k
  have K0 := Keep.refl h0 []
  have hle := own_Rle hr
  obtain ⟨_, _, ⟨T1, L1, k1, n1⟩, -, X1, ⟨Lc1, hQ1, l1, y1, z1⟩, st1⟩ := Jvm.LawKit.callS X0 hx (y := (⟨"java/util/Arrays", "checkLength", "(II)V"⟩ : MethodName)) hown (mvT hZ (hw _ (List.mem_of_getElem? (i := 51) rfl))) (mvT hZ (hw _ (List.mem_of_getElem? (i := 52) rfl))) (mvT hZ (hw _ (List.mem_of_getElem? (i := 46) rfl))) (mvT hZ (hw _ (List.mem_of_getElem? (i := 53) rfl))) (by decide) (backOf (W := 0) (rmk l Z a0 hw [] p2 p3 h0 n0 Z0 hle) hZ (hw _ (List.mem_of_getElem? (i := 53) rfl)) (hw _ (List.mem_of_getElem? (i := 46) rfl)) (by decide) (by decide)) (g := (mkF m 2 #[.val (.ref a1), .val (.int p2), .val (.int p3), .unset, .unset] [(.int p3), (.int p2)])) rfl (by rw [hml]; rfl) (argsL := [(.int p2), (.int p3)]) (rest := []) (lenOf pd_0 rfl) rfl (by show 2 * 0 + _ ≤ _; exact Nat.le_of_eq rfl) (hb hby d8_2) (fun _ _ => ⟨rfl, e0, (by decide : 0 + 0 ≤ _), (by decide : 0 + 0 ≤ _)⟩)
  dsimp only [Pt.U, Pt.locs, Pt.cells, Pt.slots] at X1 l1 y1 z1 st1 hQ1
  subst l1 y1 z1
  obtain ⟨rfl, N1q, e1⟩ := hQ1
  have N1 := Fr.app N0 N1q
  obtain ⟨T2, h2, k2, X2, e2, E2, A2, st2⟩ := newP X1 hx hZ (hw _ (List.mem_of_getElem? (i := 0) rfl)) e1 (g := (mkF m 10 #[.val (.ref a1), .val (.int p2), .val (.int p3), .val (.int (p3 - p2)), .unset] [(.int (p3 - p2))])) rfl (hb hby d8_10) rfl (own_Rn hr).2.1 (cap := 4) (own_Rn hr).2.2.2 (by decide) (by decide) (by decide)
  obtain ⟨b2, g2⟩ : ∃ z, z = h0.size := ⟨_, rfl⟩
  rw [← g2] at A2 st2
  have ne_a1_b2 : a1 ≠ b2 := Nat.ne_of_lt (Nat.lt_of_lt_of_le V0.lt (Nat.le_of_eq g2.symm))
  have g_b2 : n0 ≤ b2 := Nat.le_trans Z0 (Nat.le_of_eq g2.symm)
  have sz_b2 : h0.size ≤ b2 := Nat.le_trans K0.1 (Nat.le_of_eq g2.symm)
  have V0_v2 := V0.ext E2
  have Z2 : n0 ≤ h2.size := Nat.le_trans Z0 E2.1
  have K2 := K0.ext E2
  have V2_v2 : ArF Z h2 b2 .byte (p3 - p2).toNatClampNeg (fun _ => (.int 0)) := ArF.mk0 A2 rfl rfl
  obtain ⟨cl3, Ar3, S3, H3⟩ := id V0_v2
  obtain ⟨_, _, ⟨T4, L4, k4, n4⟩, -, X4, ⟨Lc4, hQ4, l4, y4, z4⟩, st4⟩ := Jvm.LawKit.callS X2 hx (y := (⟨"java/lang/Math", "min", "(II)I"⟩ : MethodName)) hown (mvT hZ (hw _ (List.mem_of_getElem? (i := 54) rfl))) (mvT hZ (hw _ (List.mem_of_getElem? (i := 55) rfl))) (mvT hZ (hw _ (List.mem_of_getElem? (i := 56) rfl))) (mvT hZ (hw _ (List.mem_of_getElem? (i := 57) rfl))) (by decide) (backOf (W := 4) (rmi l Z a0 hw [] ((4 : Int32) - p2) (p3 - p2) h2 n0 Z2) hZ (hw _ (List.mem_of_getElem? (i := 57) rfl)) (hw _ (List.mem_of_getElem? (i := 56) rfl)) (by decide) (by decide)) (g := (mkF m 24 #[.val (.ref a1), .val (.int p2), .val (.int p3), .val (.int (p3 - p2)), .val (.ref b2)] [(.int (p3 - p2)), (.int ((4 : Int32) - p2)), (.int (0 : Int32)), (.ref b2), (.int p2), (.ref a1)])) rfl (by rw [hml]; rfl) (argsL := [(.int ((4 : Int32) - p2)), (.int (p3 - p2))]) (rest := [(.int (0 : Int32)), (.ref b2), (.int p2), (.ref a1)]) (lenOf pd_1 rfl) rfl (by show 2 * 0 + _ ≤ _; exact Nat.le_of_eq rfl) (hb hby d8_24) (fun _ _ => ⟨rfl, e2, (by decide : 1 + 0 ≤ _), (by decide : 4 + 0 ≤ _)⟩)
  dsimp only [Pt.U, Pt.locs, Pt.cells, Pt.slots] at X4 l4 y4 z4 st4 hQ4
  subst l4 y4 z4
  obtain ⟨rfl, N4q, e4⟩ := hQ4
  have N4 := Fr.app N1 N4q
  obtain ⟨ka5, VA5⟩ := ArF.arv (z := (4 : Int32)) V0_v2 (by decide) (fun i => hf i) .null
  obtain ⟨kb5, VB5⟩ := V2_v2.arv (own_Rn hr).2.1 (fun _ => rfl) .null
  obtain ⟨T5, h5, L5, X5, e5, N5, Kc5, VC5, st5⟩ := cpA X4 hx hZ hown (hw _ (List.mem_of_getElem? (i := 58) rfl)) (hw _ (List.mem_of_getElem? (i := 61) rfl)) (hw _ (List.mem_of_getElem? (i := 59) rfl)) (hw _ (List.mem_of_getElem? (i := 60) rfl)) e4 VA5 VB5 (Or.inl ⟨rfl, rfl⟩) (sp := p2) (dp := (0 : Int32)) (nn := (own_min ((4 : Int32) - p2) (p3 - p2))) (own_Rn hr).1 (by decide) (by rw [own_min0 hr]; exact (own_Rn hr).2.1) (by rw [own_min0 hr]; exact (own_Rn hr).2.2.1) (by rw [own_min0 hr]; exact Nat.le_of_eq (Nat.zero_add _)) rfl (by rw [own_min0 hr, List.length_map, List.length_range]; exact Nat.le_of_eq (Nat.zero_add _)) N4 g_b2 (g := (mkF m 27 #[.val (.ref a1), .val (.int p2), .val (.int p3), .val (.int (p3 - p2)), .val (.ref b2)] [(.int (own_min ((4 : Int32) - p2) (p3 - p2))), (.int (0 : Int32)), (.ref b2), (.int p2), (.ref a1)])) rfl (by rw [hml]; rfl) rfl (hb hby d8_27) (by decide) (W := 0) (by show 2 * 0 + _ ≤ _; exact Nat.le_of_eq rfl) (by decide)
  have VF5_v5 : ArF Z h5 b2 .byte (p3 - p2).toNatClampNeg (fun i => .int (f (p2.toNatClampNeg + i))) := (Arv.arF VC5).congr (fun i hi => by rw [own_min0 hr]; exact own_cpy f _ _ i (own_Rn hr).2.2.1 hi)
  have KK5 := K2.trans Kc5 (allS (Or.inr sz_b2) all0)
  obtain ⟨fs, hr, hrun, hended, hW, hsame⟩ := X5.leave (v := some (.ref b2)) (fun h => by rw [Bd.returns] at h; cases h)
  refine ⟨_, _, pre0 _ ?_, hrun, hended, _, _, rfl, ?_, ⟨_, rfl⟩, hW, hsame.mono (by decide) (by decide)⟩
  · show Steps p.tables e below (s₁.setTop (mkF m 0 #[.val (.ref a1), .val (.int p2), .val (.int p3), .unset, .unset] [])) _
    refine XS.iloadN X0.here hx rfl (hb hby d8_0) rfl ?_
    show Steps p.tables e below (s₁.setTop (mkF m 1 #[.val (.ref a1), .val (.int p2), .val (.int p3), .unset, .unset] [(.int p2)])) _
    refine XS.iloadN X0.here hx rfl (hb hby d8_1) rfl ?_
    show Steps p.tables e below (s₁.setTop (mkF m 2 #[.val (.ref a1), .val (.int p2), .val (.int p3), .unset, .unset] [(.int p3), (.int p2)])) _
    refine st1 _ ?_
    show Steps p.tables e below (T1.setTop (mkF m 5 #[.val (.ref a1), .val (.int p2), .val (.int p3), .unset, .unset] [])) _
    refine XS.iloadN X1.here hx rfl (hb hby d8_5) rfl ?_
    show Steps p.tables e below (T1.setTop (mkF m 6 #[.val (.ref a1), .val (.int p2), .val (.int p3), .unset, .unset] [(.int p3)])) _
    refine XS.iloadN X1.here hx rfl (hb hby d8_6) rfl ?_
    show Steps p.tables e below (T1.setTop (mkF m 7 #[.val (.ref a1), .val (.int p2), .val (.int p3), .unset, .unset] [(.int p2), (.int p3)])) _
    refine XS.isub X1.here hx rfl (hb hby d8_7) rfl ?_
    show Steps p.tables e below (T1.setTop (mkF m 8 #[.val (.ref a1), .val (.int p2), .val (.int p3), .unset, .unset] [(.int (p3 - p2))])) _
    refine XS.istoreN X1.here hx rfl (hb hby d8_8) rfl (l' := #[.val (.ref a1), .val (.int p2), .val (.int p3), .val (.int (p3 - p2)), .unset]) rfl ?_
    show Steps p.tables e below (T1.setTop (mkF m 9 #[.val (.ref a1), .val (.int p2), .val (.int p3), .val (.int (p3 - p2)), .unset] [])) _
    refine XS.iloadN X1.here hx rfl (hb hby d8_9) rfl ?_
    show Steps p.tables e below (T1.setTop (mkF m 10 #[.val (.ref a1), .val (.int p2), .val (.int p3), .val (.int (p3 - p2)), .unset] [(.int (p3 - p2))])) _
    refine st2 _ ?_
    show Steps p.tables e below (T2.setTop (mkF m 12 #[.val (.ref a1), .val (.int p2), .val (.int p3), .val (.int (p3 - p2)), .unset] [(.ref b2)])) _
    refine XS.astore X2.here hx rfl (hb hby d8_12) rfl rfl (l' := #[.val (.ref a1), .val (.int p2), .val (.int p3), .val (.int (p3 - p2)), .val (.ref b2)]) rfl ?_
    show Steps p.tables e below (T2.setTop (mkF m 14 #[.val (.ref a1), .val (.int p2), .val (.int p3), .val (.int (p3 - p2)), .val (.ref b2)] [])) _
    refine XS.aloadN X2.here hx rfl (hb hby d8_14) rfl rfl ?_
    show Steps p.tables e below (T2.setTop (mkF m 15 #[.val (.ref a1), .val (.int p2), .val (.int p3), .val (.int (p3 - p2)), .val (.ref b2)] [(.ref a1)])) _
    refine XS.iloadN X2.here hx rfl (hb hby d8_15) rfl ?_
    show Steps p.tables e below (T2.setTop (mkF m 16 #[.val (.ref a1), .val (.int p2), .val (.int p3), .val (.int (p3 - p2)), .val (.ref b2)] [(.int p2), (.ref a1)])) _
    refine XS.aload X2.here hx rfl (hb hby d8_16) rfl rfl ?_
    show Steps p.tables e below (T2.setTop (mkF m 18 #[.val (.ref a1), .val (.int p2), .val (.int p3), .val (.int (p3 - p2)), .val (.ref b2)] [(.ref b2), (.int p2), (.ref a1)])) _
    refine XS.iconst X2.here hx rfl (hb hby d8_18) ?_
    show Steps p.tables e below (T2.setTop (mkF m 19 #[.val (.ref a1), .val (.int p2), .val (.int p3), .val (.int (p3 - p2)), .val (.ref b2)] [(.int (0 : Int32)), (.ref b2), (.int p2), (.ref a1)])) _
    refine XS.aloadN X2.here hx rfl (hb hby d8_19) rfl rfl ?_
    show Steps p.tables e below (T2.setTop (mkF m 20 #[.val (.ref a1), .val (.int p2), .val (.int p3), .val (.int (p3 - p2)), .val (.ref b2)] [(.ref a1), (.int (0 : Int32)), (.ref b2), (.int p2), (.ref a1)])) _
    refine X2.arraylength hx (by rw [e2]; exact Ar3.1) (State.isArrayOf_alike hZ.alike Ar3.2.1) (g := (mkF m 20 #[.val (.ref a1), .val (.int p2), .val (.int p3), .val (.int (p3 - p2)), .val (.ref b2)] [(.ref a1), (.int (0 : Int32)), (.ref b2), (.int p2), (.ref a1)])) rfl rfl (hb hby d8_20) _ ?_
    rw [show cl3.slots.size.toInt32 = (4 : Int32) from by rw [S3]; rfl]
    show Steps p.tables e below (T2.setTop (mkF m 21 #[.val (.ref a1), .val (.int p2), .val (.int p3), .val (.int (p3 - p2)), .val (.ref b2)] [(.int (4 : Int32)), (.int (0 : Int32)), (.ref b2), (.int p2), (.ref a1)])) _
    refine XS.iloadN X2.here hx rfl (hb hby d8_21) rfl ?_
    show Steps p.tables e below (T2.setTop (mkF m 22 #[.val (.ref a1), .val (.int p2), .val (.int p3), .val (.int (p3 - p2)), .val (.ref b2)] [(.int p2), (.int (4 : Int32)), (.int (0 : Int32)), (.ref b2), (.int p2), (.ref a1)])) _
    refine XS.isub X2.here hx rfl (hb hby d8_22) rfl ?_
    show Steps p.tables e below (T2.setTop (mkF m 23 #[.val (.ref a1), .val (.int p2), .val (.int p3), .val (.int (p3 - p2)), .val (.ref b2)] [(.int ((4 : Int32) - p2)), (.int (0 : Int32)), (.ref b2), (.int p2), (.ref a1)])) _
    refine XS.iloadN X2.here hx rfl (hb hby d8_23) rfl ?_
    show Steps p.tables e below (T2.setTop (mkF m 24 #[.val (.ref a1), .val (.int p2), .val (.int p3), .val (.int (p3 - p2)), .val (.ref b2)] [(.int (p3 - p2)), (.int ((4 : Int32) - p2)), (.int (0 : Int32)), (.ref b2), (.int p2), (.ref a1)])) _
    refine st4 _ ?_
    show Steps p.tables e below (T4.setTop (mkF m 27 #[.val (.ref a1), .val (.int p2), .val (.int p3), .val (.int (p3 - p2)), .val (.ref b2)] [(.int (own_min ((4 : Int32) - p2) (p3 - p2))), (.int (0 : Int32)), (.ref b2), (.int p2), (.ref a1)])) _
    refine st5 _ ?_
    show Steps p.tables e below (T5.setTop (mkF m 30 #[.val (.ref a1), .val (.int p2), .val (.int p3), .val (.int (p3 - p2)), .val (.ref b2)] [])) _
    refine XS.aload X5.here hx rfl (hb hby d8_30) rfl rfl ?_
    show Steps p.tables e below (T5.setTop (mkF m 32 #[.val (.ref a1), .val (.int p2), .val (.int p3), .val (.int (p3 - p2)), .val (.ref b2)] [(.ref b2)])) _
    jvm_step X5.here [X5.here.top, hx, (hb hby d8_32), X5.method', Bd.returns, Value.isRef, FieldType.isReference]
    first | (intro acts; rw [hr _ acts rfl rfl rfl]) | rw [hr _ _ rfl rfl rfl]
    exact Steps.refl _
  · show Q_rmb Z a1 p2 p3 f h0 n0 _ T5.heap _
    rw [e5]
    exact ⟨b2, rfl, N5, KK5, sz_b2, VF5_v5⟩
theorem d7_0 : decode jdk_65_method_132_code 0 = .ok (.iload_n 1, 1) := by decide +kernel
theorem d7_1 : decode jdk_65_method_132_code 1 = .ok (.ifCond .ne 9, 3) := by decide +kernel
theorem d7_4 : decode jdk_65_method_132_code 4 = .ok (.iload_n 2, 1) := by decide +kernel
theorem d7_5 : decode jdk_65_method_132_code 5 = .ok (.aload_n 0, 1) := by decide +kernel
theorem d7_6 : decode jdk_65_method_132_code 6 = .ok (.arraylength, 1) := by decide +kernel
theorem d7_7 : decode jdk_65_method_132_code 7 = .ok (.if_icmp .eq 10, 3) := by decide +kernel
theorem d7_10 : decode jdk_65_method_132_code 10 = .ok (.aload_n 0, 1) := by decide +kernel
theorem d7_11 : decode jdk_65_method_132_code 11 = .ok (.iload_n 1, 1) := by decide +kernel
theorem d7_12 : decode jdk_65_method_132_code 12 = .ok (.iload_n 2, 1) := by decide +kernel
theorem d7_13 : decode jdk_65_method_132_code 13 = .ok (.invokestatic 339, 3) := by decide +kernel
theorem d7_16 : decode jdk_65_method_132_code 16 = .ok (.areturn, 1) := by decide +kernel
theorem d7_17 : decode jdk_65_method_132_code 17 = .ok (.aload_n 0, 1) := by decide +kernel
theorem d7_18 : decode jdk_65_method_132_code 18 = .ok (.invokevirtual 310, 3) := by decide +kernel
theorem d7_21 : decode jdk_65_method_132_code 21 = .ok (.checkcast 311, 3) := by decide +kernel
theorem d7_24 : decode jdk_65_method_132_code 24 = .ok (.areturn, 1) := by decide +kernel
theorem pn_rmc : plainName "java/util/Arrays" = true := by first | (simp [plainName, overriddenIn]; done) | decide +kernel
theorem ef_rmc (m : MethodId) (x0 : Addr) (x1 : Int32) (x2 : Int32) : entryFrame m #[(.ref x0), (.int x1), (.int x2)] 3 = mkF m 0 #[.val (.ref x0), .val (.int x1), .val (.int x2)] [] := by first | (simp [entryFrame, mkF, argsToLocals, Value.category]; done) | rfl
def Q_rmc (Z : State) (a1 : Addr) (p2 : Int32) (p3 : Int32) (f : Nat → Int32) (h0 : Heap) (n0 : Nat) (v : Option Value) (h : Heap) (L : List Loc) : Prop := ∃ b, v = some (.ref b) ∧ Fr n0 L ∧ Keep h0 h [] ∧ h0.size ≤ b ∧ ArF Z h b .byte (p3 - p2).toNatClampNeg (fun i => .int (f (p2.toNatClampNeg + i)))
set_option maxRecDepth 65536 in
set_option maxHeartbeats 40000000 in
theorem rmc (l : Launch) (Z : State) (a0 : Array Value) (hw : ∀ d ∈ tables_1, d.before a0 Z = true) (ws : List Jvm.Cond) (a1 : Addr) (p2 : Int32) (p3 : Int32) (f : Nat → Int32) (h0 : Heap) (n0 : Nat) (Z0 : n0 ≤ h0.size) (V0 : ArF Z h0 a1 .byte 4 (fun i => .int (f i))) (hf : ∀ i, fits .byte (.int (f i)) = true) (hr : own_R p2 p3) (EX : Exa Z h0 a1 "[B") :
    MetFree l (⟨"java/util/Arrays", "copyOfRange", "([BII)[B"⟩ : MethodName) (head1 (Jvm.Cond.code (⟨"java/util/Arrays", "copyOfRange", "([BII)[B"⟩ : MethodName) jdk_65_method_132_code 3 (some (.array .byte)) :: ws) ({ frames := 2, cells := 1, slots := 4, locals := 80 } : Room)) (fun a U => a = #[(.ref a1), (.int p2), (.int p3)] ∧ Z.Warmed39 U.vm ∧ U.heap = h0) (fun _ _ _ _ _ => True) (fun _ U o U' => ∃ v L, o = .returned v ∧ Q_rmc Z a1 p2 p3 f h0 n0 v U'.heap L ∧ FrameEnd U o U' L ({ frames := 2, cells := 1, slots := 4, locals := 80 } : Room).cells ({ frames := 2, cells := 1, slots := 4, locals := 80 } : Room).slots) := by
  refine MetFree.of_bodySF (plainFor_of_name pn_rmc) hisR ?_
  intro p e s m args below meth c s₁ Bd hml0 hP hK
  obtain ⟨rfl, hZ, hh⟩ := hP
  have hx := Bd.exec
  have hby := Bd.bytes
  have hml : c.maxLocals = 3 := hml0
  have hown : s.vm.findClass "java/util/Arrays" = some m.cls := findClass_of_methodNamed Bd.named
  have hnm := (name_of_methodNamed Bd.named Bd.method).1
  have X0 : Stand p l e ({ frames := 2, cells := 1, slots := 4, locals := 80 } : Room) s m #[(.ref a1), (.int p2), (.int p3)] below meth c s₁ [] 0 0 := Stand.of_body Bd
  have e0 : s₁.heap = h0 := by rw [← hh, Bd.state]; rfl
  have N0 := Fr.nil n0
  have pre0 : ∀ t, Steps p.tables e below (s₁.setTop (mkF m 0 #[.val (.ref a1), .val (.int p2), .val (.int p3)] [])) t → Steps p.tables e below (s₁.setTop (entryFrame m #[(.ref a1), (.int p2), (.int p3)] 3)) t := fun t k => castTop (ef_rmc m a1 p2 p3) k
  have K0 := Keep.refl h0 []
  have pre1 : ∀ t, Steps p.tables e below (s₁.setTop (mkF m 1 #[.val (.ref a1), .val (.int p2), .val (.int p3)] [(.int p2)])) t → Steps p.tables e below (s₁.setTop (entryFrame m #[(.ref a1), (.int p2), (.int p3)] 3)) t := by
    intro t k
    refine pre0 t ?_
    show Steps p.tables e below (s₁.setTop (mkF m 0 #[.val (.ref a1), .val (.int p2), .val (.int p3)] [])) _
    refine XS.iloadN X0.here hx rfl (hb hby d7_0) rfl ?_
    exact k
  by_cases hc1_2 : p2 = (0 : Int32)
  · obtain ⟨cl3, Ar3, S3, H3⟩ := id V0
    have pre4 : ∀ t, Steps p.tables e below (s₁.setTop (mkF m 7 #[.val (.ref a1), .val (.int p2), .val (.int p3)] [(.int (4 : Int32)), (.int p3)])) t → Steps p.tables e below (s₁.setTop (entryFrame m #[(.ref a1), (.int p2), (.int p3)] 3)) t := by
      intro t k
      refine pre1 t ?_
      show Steps p.tables e below (s₁.setTop (mkF m 1 #[.val (.ref a1), .val (.int p2), .val (.int p3)] [(.int p2)])) _
      refine XS.ifNo X0.here hx rfl (hb hby d7_1) rfl ((if0 _ _).trans (teq hc1_2).2) ?_
      show Steps p.tables e below (s₁.setTop (mkF m 4 #[.val (.ref a1), .val (.int p2), .val (.int p3)] [])) _
      refine XS.iloadN X0.here hx rfl (hb hby d7_4) rfl ?_
      show Steps p.tables e below (s₁.setTop (mkF m 5 #[.val (.ref a1), .val (.int p2), .val (.int p3)] [(.int p3)])) _
      refine XS.aloadN X0.here hx rfl (hb hby d7_5) rfl rfl ?_
      show Steps p.tables e below (s₁.setTop (mkF m 6 #[.val (.ref a1), .val (.int p2), .val (.int p3)] [(.ref a1), (.int p3)])) _
      refine X0.arraylength hx (by rw [e0]; exact Ar3.1) (State.isArrayOf_alike hZ.alike Ar3.2.1) (g := (mkF m 6 #[.val (.ref a1), .val (.int p2), .val (.int p3)] [(.ref a1), (.int p3)])) rfl rfl (hb hby d7_6) _ ?_
      rw [show cl3.slots.size.toInt32 = (4 : Int32) from by rw [S3]; rfl]
      exact k
    by_cases hc7_5 : p3 = (4 : Int32)
    · obtain ⟨cl6, Ar6, S6, H6⟩ := id V0
      obtain ⟨T6, h6, X6, e6, E6, A6, EX6, st6⟩ := cloneA X0 hx hZ hown (hw _ (List.mem_of_getElem? (i := 72) rfl)) (hw _ (List.mem_of_getElem? (i := 73) rfl)) (hw _ (List.mem_of_getElem? (i := 77) rfl)) (hw _ (List.mem_of_getElem? (i := 75) rfl)) (hw _ (List.mem_of_getElem? (i := 76) rfl)) (hw _ (List.mem_of_getElem? (i := 78) rfl)) e0 Ar6 EX (fitC_of Ar6 (fun i hi v hv => by rw [H6 i (S6 ▸ hi)] at hv; cases hv; exact hf i)) (g := (mkF m 18 #[.val (.ref a1), .val (.int p2), .val (.int p3)] [(.ref a1)])) rfl (by rw [hml]; rfl) rfl (hb hby d7_18) (by decide) (W := 0) (cap := 4) (by show 2 * 0 + _ ≤ _; exact Nat.le_of_eq rfl) (by decide) (Nat.le_of_eq S6) (by decide) (by decide)
      obtain ⟨b6, g6⟩ : ∃ z, z = h0.size := ⟨_, rfl⟩
      rw [← g6] at A6 EX6 st6
      have ne_a1_b6 : a1 ≠ b6 := Nat.ne_of_lt (Nat.lt_of_lt_of_le V0.lt (Nat.le_of_eq g6.symm))
      have g_b6 : n0 ≤ b6 := Nat.le_trans Z0 (Nat.le_of_eq g6.symm)
      have sz_b6 : h0.size ≤ b6 := Nat.le_trans K0.1 (Nat.le_of_eq g6.symm)
      have V0_v6 := V0.ext E6
      have EX_v6 := EX.ext E6
      have Z6 : n0 ≤ h6.size := Nat.le_trans Z0 E6.1
      have K6 := K0.ext E6
      have VN6_v6 : ArF Z h6 b6 .byte (p3 - p2).toNatClampNeg (fun i => .int (f (p2.toNatClampNeg + i))) := ⟨cloneOf cl6, A6, by rw [hc1_2, hc7_5]; exact S6, fun i hi => by rw [hc1_2, hc7_5] at hi; rw [hc1_2]; exact (H6 i hi).trans (by show some (Value.int (f i)) = some (Value.int (f ((0 : Int32).toNatClampNeg + i))); rw [show (0 : Int32).toNatClampNeg = 0 from rfl, Nat.zero_add])⟩
      have EN6_v6 : Exa Z h6 b6 "[B" := EX6
      obtain ⟨T7, X7, e7, st7⟩ := castY X6 hx hZ hown (hw _ (List.mem_of_getElem? (i := 79) rfl)) e6 (Ins.self EN6_v6) (g := (mkF m 21 #[.val (.ref a1), .val (.int p2), .val (.int p3)] [(.ref b6)])) rfl rfl (hb hby d7_21)
      obtain ⟨fs, hr, hrun, hended, hW, hsame⟩ := X7.leave (v := some (.ref b6)) (fun h => by rw [Bd.returns] at h; cases h)
      refine ⟨_, _, pre4 _ ?_, hrun, hended, _, _, rfl, ?_, ⟨_, rfl⟩, hW, hsame.mono (by decide) (by decide)⟩
      · show Steps p.tables e below (s₁.setTop (mkF m 7 #[.val (.ref a1), .val (.int p2), .val (.int p3)] [(.int (4 : Int32)), (.int p3)])) _
        refine XS.icmpYes X0.here hx rfl (pc0 := 7) (pc' := 17) rfl (hb hby d7_7) rfl (teq hc7_5).1 (by decide) (by decide) ?_
        show Steps p.tables e below (s₁.setTop (mkF m 17 #[.val (.ref a1), .val (.int p2), .val (.int p3)] [])) _
        refine XS.aloadN X0.here hx rfl (hb hby d7_17) rfl rfl ?_
        show Steps p.tables e below (s₁.setTop (mkF m 18 #[.val (.ref a1), .val (.int p2), .val (.int p3)] [(.ref a1)])) _
        refine st6 _ ?_
        show Steps p.tables e below (T6.setTop (mkF m 21 #[.val (.ref a1), .val (.int p2), .val (.int p3)] [(.ref b6)])) _
        refine st7 _ ?_
        show Steps p.tables e below (T7.setTop (mkF m 24 #[.val (.ref a1), .val (.int p2), .val (.int p3)] [(.ref b6)])) _
        jvm_step X7.here [X7.here.top, hx, (hb hby d7_24), X7.method', Bd.returns, Value.isRef, FieldType.isReference]
        first | (intro acts; rw [hr _ acts rfl rfl rfl]) | rw [hr _ _ rfl rfl rfl]
        exact Steps.refl _
      · show Q_rmc Z a1 p2 p3 f h0 n0 _ T7.heap _
        rw [e7]
        exact ⟨b6, rfl, N0, K6, sz_b6, VN6_v6⟩
    · obtain ⟨_, _, ⟨T8, L8, k8, n8⟩, -, X8, ⟨Lc8, hQ8, l8, y8, z8⟩, st8⟩ := Jvm.LawKit.callS X0 hx (y := (⟨"java/util/Arrays", "copyOfRangeByte", "([BII)[B"⟩ : MethodName)) hown (mvT hZ (hw _ (List.mem_of_getElem? (i := 48) rfl))) (mvT hZ (hw _ (List.mem_of_getElem? (i := 49) rfl))) (mvT hZ (hw _ (List.mem_of_getElem? (i := 46) rfl))) (mvT hZ (hw _ (List.mem_of_getElem? (i := 50) rfl))) (by decide) (backOf (W := 0) (rmb l Z a0 hw [] a1 p2 p3 f h0 n0 Z0 V0 hf hr) hZ (hw _ (List.mem_of_getElem? (i := 50) rfl)) (hw _ (List.mem_of_getElem? (i := 46) rfl)) (by decide) (by decide)) (g := (mkF m 13 #[.val (.ref a1), .val (.int p2), .val (.int p3)] [(.int p3), (.int p2), (.ref a1)])) rfl (by rw [hml]; rfl) (argsL := [(.ref a1), (.int p2), (.int p3)]) (rest := []) (lenOf pd_2 rfl) rfl (by show 2 * 0 + _ ≤ _; exact Nat.le_of_eq rfl) (hb hby d7_13) (fun _ _ => ⟨rfl, e0, (by decide : 0 + 1 ≤ _), (by decide : 0 + 4 ≤ _)⟩)
      dsimp only [Pt.U, Pt.locs, Pt.cells, Pt.slots] at X8 l8 y8 z8 st8 hQ8
      subst l8 y8 z8
      obtain ⟨b8, rfl, N8q, Kc8, sb8, nf8_0_v8⟩ := hQ8
      have N8 := Fr.app N0 N8q
      have ne_a1_b8 : a1 ≠ b8 := Nat.ne_of_lt (Nat.lt_of_lt_of_le V0.lt sb8)
      have g_b8 : n0 ≤ b8 := Nat.le_trans Z0 sb8
      have sz_b8 : h0.size ≤ b8 := Nat.le_trans K0.1 sb8
      have V0_v8 := V0.keep Kc8 nin0
      have EX_v8 := EX.keep Kc8
      have Z8 : n0 ≤ T8.heap.size := Nat.le_trans Z0 Kc8.1
      have KK8 := K0.trans Kc8 all0
      obtain ⟨fs, hr, hrun, hended, hW, hsame⟩ := X8.leave (v := some (.ref b8)) (fun h => by rw [Bd.returns] at h; cases h)
      refine ⟨_, _, pre4 _ ?_, hrun, hended, _, _, rfl, ?_, ⟨_, rfl⟩, hW, hsame.mono (by decide) (by decide)⟩
      · show Steps p.tables e below (s₁.setTop (mkF m 7 #[.val (.ref a1), .val (.int p2), .val (.int p3)] [(.int (4 : Int32)), (.int p3)])) _
        refine XS.icmpNo X0.here hx rfl (hb hby d7_7) rfl (feq hc7_5).1 ?_
        show Steps p.tables e below (s₁.setTop (mkF m 10 #[.val (.ref a1), .val (.int p2), .val (.int p3)] [])) _
        refine XS.aloadN X0.here hx rfl (hb hby d7_10) rfl rfl ?_
        show Steps p.tables e below (s₁.setTop (mkF m 11 #[.val (.ref a1), .val (.int p2), .val (.int p3)] [(.ref a1)])) _
        refine XS.iloadN X0.here hx rfl (hb hby d7_11) rfl ?_
        show Steps p.tables e below (s₁.setTop (mkF m 12 #[.val (.ref a1), .val (.int p2), .val (.int p3)] [(.int p2), (.ref a1)])) _
        refine XS.iloadN X0.here hx rfl (hb hby d7_12) rfl ?_
        show Steps p.tables e below (s₁.setTop (mkF m 13 #[.val (.ref a1), .val (.int p2), .val (.int p3)] [(.int p3), (.int p2), (.ref a1)])) _
        refine st8 _ ?_
        show Steps p.tables e below (T8.setTop (mkF m 16 #[.val (.ref a1), .val (.int p2), .val (.int p3)] [(.ref b8)])) _
        jvm_step X8.here [X8.here.top, hx, (hb hby d7_16), X8.method', Bd.returns, Value.isRef, FieldType.isReference]
        first | (intro acts; rw [hr _ acts rfl rfl rfl]) | rw [hr _ _ rfl rfl rfl]
        exact Steps.refl _
      · show Q_rmc Z a1 p2 p3 f h0 n0 _ T8.heap _
        exact ⟨b8, rfl, N8, KK8, sz_b8, nf8_0_v8⟩
  · obtain ⟨_, _, ⟨T9, L9, k9, n9⟩, -, X9, ⟨Lc9, hQ9, l9, y9, z9⟩, st9⟩ := Jvm.LawKit.callS X0 hx (y := (⟨"java/util/Arrays", "copyOfRangeByte", "([BII)[B"⟩ : MethodName)) hown (mvT hZ (hw _ (List.mem_of_getElem? (i := 48) rfl))) (mvT hZ (hw _ (List.mem_of_getElem? (i := 49) rfl))) (mvT hZ (hw _ (List.mem_of_getElem? (i := 46) rfl))) (mvT hZ (hw _ (List.mem_of_getElem? (i := 50) rfl))) (by decide) (backOf (W := 0) (rmb l Z a0 hw [] a1 p2 p3 f h0 n0 Z0 V0 hf hr) hZ (hw _ (List.mem_of_getElem? (i := 50) rfl)) (hw _ (List.mem_of_getElem? (i := 46) rfl)) (by decide) (by decide)) (g := (mkF m 13 #[.val (.ref a1), .val (.int p2), .val (.int p3)] [(.int p3), (.int p2), (.ref a1)])) rfl (by rw [hml]; rfl) (argsL := [(.ref a1), (.int p2), (.int p3)]) (rest := []) (lenOf pd_2 rfl) rfl (by show 2 * 0 + _ ≤ _; exact Nat.le_of_eq rfl) (hb hby d7_13) (fun _ _ => ⟨rfl, e0, (by decide : 0 + 1 ≤ _), (by decide : 0 + 4 ≤ _)⟩)
    dsimp only [Pt.U, Pt.locs, Pt.cells, Pt.slots] at X9 l9 y9 z9 st9 hQ9
    subst l9 y9 z9
    obtain ⟨b9, rfl, N9q, Kc9, sb9, nf9_0_v9⟩ := hQ9
    have N9 := Fr.app N0 N9q
    have ne_a1_b9 : a1 ≠ b9 := Nat.ne_of_lt (Nat.lt_of_lt_of_le V0.lt sb9)
    have g_b9 : n0 ≤ b9 := Nat.le_trans Z0 sb9
    have sz_b9 : h0.size ≤ b9 := Nat.le_trans K0.1 sb9
    have V0_v9 := V0.keep Kc9 nin0
    have EX_v9 := EX.keep Kc9
    have Z9 : n0 ≤ T9.heap.size := Nat.le_trans Z0 Kc9.1
    have KK9 := K0.trans Kc9 all0
    obtain ⟨fs, hr, hrun, hended, hW, hsame⟩ := X9.leave (v := some (.ref b9)) (fun h => by rw [Bd.returns] at h; cases h)
    refine ⟨_, _, pre1 _ ?_, hrun, hended, _, _, rfl, ?_, ⟨_, rfl⟩, hW, hsame.mono (by decide) (by decide)⟩
    · show Steps p.tables e below (s₁.setTop (mkF m 1 #[.val (.ref a1), .val (.int p2), .val (.int p3)] [(.int p2)])) _
      refine XS.ifYes X0.here hx rfl (pc0 := 1) (pc' := 10) rfl (hb hby d7_1) rfl ((if0 _ _).trans (feq hc1_2).2) (by decide) (by decide) ?_
      show Steps p.tables e below (s₁.setTop (mkF m 10 #[.val (.ref a1), .val (.int p2), .val (.int p3)] [])) _
      refine XS.aloadN X0.here hx rfl (hb hby d7_10) rfl rfl ?_
      show Steps p.tables e below (s₁.setTop (mkF m 11 #[.val (.ref a1), .val (.int p2), .val (.int p3)] [(.ref a1)])) _
      refine XS.iloadN X0.here hx rfl (hb hby d7_11) rfl ?_
      show Steps p.tables e below (s₁.setTop (mkF m 12 #[.val (.ref a1), .val (.int p2), .val (.int p3)] [(.int p2), (.ref a1)])) _
      refine XS.iloadN X0.here hx rfl (hb hby d7_12) rfl ?_
      show Steps p.tables e below (s₁.setTop (mkF m 13 #[.val (.ref a1), .val (.int p2), .val (.int p3)] [(.int p3), (.int p2), (.ref a1)])) _
      refine st9 _ ?_
      show Steps p.tables e below (T9.setTop (mkF m 16 #[.val (.ref a1), .val (.int p2), .val (.int p3)] [(.ref b9)])) _
      jvm_step X9.here [X9.here.top, hx, (hb hby d7_16), X9.method', Bd.returns, Value.isRef, FieldType.isReference]
      first | (intro acts; rw [hr _ acts rfl rfl rfl]) | rw [hr _ _ rfl rfl rfl]
      exact Steps.refl _
    · show Q_rmc Z a1 p2 p3 f h0 n0 _ T9.heap _
      exact ⟨b9, rfl, N9, KK9, sz_b9, nf9_0_v9⟩
def own_rem (a1 : Addr) (d : Addr) (ps : Int32) (f : Nat → Int32) : Int32 := ((4 : Int32) - ps)
theorem d6_0 : decode prog_6_method_13_code 0 = .ok (.aload_n 0, 1) := by decide +kernel
theorem d6_1 : decode prog_6_method_13_code 1 = .ok (.getfield 7, 3) := by decide +kernel
theorem d6_4 : decode prog_6_method_13_code 4 = .ok (.arraylength, 1) := by decide +kernel
theorem d6_5 : decode prog_6_method_13_code 5 = .ok (.aload_n 0, 1) := by decide +kernel
theorem d6_6 : decode prog_6_method_13_code 6 = .ok (.getfield 21, 3) := by decide +kernel
theorem d6_9 : decode prog_6_method_13_code 9 = .ok (.isub, 1) := by decide +kernel
theorem d6_10 : decode prog_6_method_13_code 10 = .ok (.ireturn, 1) := by decide +kernel
theorem pn_rmr : plainName "com/example/eider/eider/encoding/ByteReader" = true := by first | (simp [plainName, overriddenIn]; done) | decide +kernel
theorem ef_rmr (m : MethodId) (x0 : Addr) : entryFrame m #[(.ref x0)] 1 = mkF m 0 #[.val (.ref x0)] [] := by first | (simp [entryFrame, mkF, argsToLocals, Value.category]; done) | rfl
def Q_rmr (Z : State) (a1 : Addr) (d : Addr) (ps : Int32) (f : Nat → Int32) (h0 : Heap) (n0 : Nat) (v : Option Value) (h : Heap) (L : List Loc) : Prop := v = some (.int (own_rem a1 d ps f)) ∧ Fr n0 L ∧ h = h0
set_option maxRecDepth 65536 in
set_option maxHeartbeats 40000000 in
theorem rmr (l : Launch) (Z : State) (a0 : Array Value) (hw : ∀ d ∈ tables_1, d.before a0 Z = true) (ws : List Jvm.Cond) (a1 : Addr) (d : Addr) (ps : Int32) (f : Nat → Int32) (h0 : Heap) (n0 : Nat) (Z0 : n0 ≤ h0.size) (Fd : Fld Z h0 a1 "com/example/eider/eider/encoding/ByteReader" "data" "[B" (.ref d)) (Fp : Fld Z h0 a1 "com/example/eider/eider/encoding/ByteReader" "position" "I" (.int ps)) (V0 : ArF Z h0 d .byte 4 (fun i => .int (f i))) :
    MetFree l (⟨"com/example/eider/eider/encoding/ByteReader", "remaining", "()I"⟩ : MethodName) (head1 (Jvm.Cond.code (⟨"com/example/eider/eider/encoding/ByteReader", "remaining", "()I"⟩ : MethodName) prog_6_method_13_code 1 (some .int) :: ws) ({ frames := 0, cells := 0, slots := 0, locals := 0 } : Room)) (fun a U => a = #[(.ref a1)] ∧ Z.Warmed39 U.vm ∧ U.heap = h0) (fun _ _ _ _ _ => True) (fun _ U o U' => ∃ v L, o = .returned v ∧ Q_rmr Z a1 d ps f h0 n0 v U'.heap L ∧ FrameEnd U o U' L ({ frames := 0, cells := 0, slots := 0, locals := 0 } : Room).cells ({ frames := 0, cells := 0, slots := 0, locals := 0 } : Room).slots) := by
  refine MetFree.of_bodySF (plainFor_of_name pn_rmr) hisR ?_
  intro p e s m args below meth c s₁ Bd hml0 hP hK
  obtain ⟨rfl, hZ, hh⟩ := hP
  have hx := Bd.exec
  have hby := Bd.bytes
  have hml : c.maxLocals = 1 := hml0
  have hown : s.vm.findClass "com/example/eider/eider/encoding/ByteReader" = some m.cls := findClass_of_methodNamed Bd.named
  have hnm := (name_of_methodNamed Bd.named Bd.method).1
  have X0 : Stand p l e ({ frames := 0, cells := 0, slots := 0, locals := 0 } : Room) s m #[(.ref a1)] below meth c s₁ [] 0 0 := Stand.of_body Bd
  have e0 : s₁.heap = h0 := by rw [← hh, Bd.state]; rfl
  have N0 := Fr.nil n0
  have pre0 : ∀ t, Steps p.tables e below (s₁.setTop (mkF m 0 #[.val (.ref a1)] [])) t → Steps p.tables e below (s₁.setTop (entryFrame m #[(.ref a1)] 1)) t := fun t k => castTop (ef_rmr m a1) k
  obtain ⟨T1, X1, e1, st1⟩ := getF X0 hx hZ hown (host := "") (Or.inl (hw _ (List.mem_of_getElem? (i := 18) rfl))) Via.refl e0 Fd (g := (mkF m 1 #[.val (.ref a1)] [(.ref a1)])) rfl rfl (hb hby d6_1)
  obtain ⟨cl2, Ar2, S2, H2⟩ := id V0
  obtain ⟨T3, X3, e3, st3⟩ := getF X1 hx hZ hown (host := "") (Or.inl (hw _ (List.mem_of_getElem? (i := 42) rfl))) Via.refl e1 Fp (g := (mkF m 6 #[.val (.ref a1)] [(.ref a1), (.int (4 : Int32))])) rfl rfl (hb hby d6_6)
  obtain ⟨fs, hr, hrun, hended, hW, hsame⟩ := X3.leave (v := some (.int ((4 : Int32) - ps))) (fun h => by rw [Bd.returns] at h; cases h)
  refine ⟨_, _, pre0 _ ?_, hrun, hended, _, _, rfl, ?_, ⟨_, rfl⟩, hW, hsame.mono (by decide) (by decide)⟩
  · show Steps p.tables e below (s₁.setTop (mkF m 0 #[.val (.ref a1)] [])) _
    refine XS.aloadN X0.here hx rfl (hb hby d6_0) rfl rfl ?_
    show Steps p.tables e below (s₁.setTop (mkF m 1 #[.val (.ref a1)] [(.ref a1)])) _
    refine st1 _ ?_
    show Steps p.tables e below (T1.setTop (mkF m 4 #[.val (.ref a1)] [(.ref d)])) _
    refine X1.arraylength hx (by rw [e1]; exact Ar2.1) (State.isArrayOf_alike hZ.alike Ar2.2.1) (g := (mkF m 4 #[.val (.ref a1)] [(.ref d)])) rfl rfl (hb hby d6_4) _ ?_
    rw [show cl2.slots.size.toInt32 = (4 : Int32) from by rw [S2]; rfl]
    show Steps p.tables e below (T1.setTop (mkF m 5 #[.val (.ref a1)] [(.int (4 : Int32))])) _
    refine XS.aloadN X1.here hx rfl (hb hby d6_5) rfl rfl ?_
    show Steps p.tables e below (T1.setTop (mkF m 6 #[.val (.ref a1)] [(.ref a1), (.int (4 : Int32))])) _
    refine st3 _ ?_
    show Steps p.tables e below (T3.setTop (mkF m 9 #[.val (.ref a1)] [(.int ps), (.int (4 : Int32))])) _
    refine XS.isub X3.here hx rfl (hb hby d6_9) rfl ?_
    show Steps p.tables e below (T3.setTop (mkF m 10 #[.val (.ref a1)] [(.int ((4 : Int32) - ps))])) _
    exact retI X3 hx Bd.returns (hb hby d6_10) hr
  · show Q_rmr Z a1 d ps f h0 n0 _ T3.heap _
    rw [e3]
    exact ⟨by rw [own_rem], N0, rfl⟩
theorem d5_0 : decode prog_6_method_15_code 0 = .ok (.lload_n 1, 1) := by decide +kernel
theorem d5_1 : decode prog_6_method_15_code 1 = .ok (.lconst 0, 1) := by decide +kernel
theorem d5_2 : decode prog_6_method_15_code 2 = .ok (.lcmp, 1) := by decide +kernel
theorem d5_3 : decode prog_6_method_15_code 3 = .ok (.ifCond .lt 13, 3) := by decide +kernel
theorem d5_6 : decode prog_6_method_15_code 6 = .ok (.lload_n 1, 1) := by decide +kernel
theorem d5_7 : decode prog_6_method_15_code 7 = .ok (.aload_n 0, 1) := by decide +kernel
theorem d5_8 : decode prog_6_method_15_code 8 = .ok (.invokevirtual 54, 3) := by decide +kernel
theorem d5_11 : decode prog_6_method_15_code 11 = .ok (.i2l, 1) := by decide +kernel
theorem d5_12 : decode prog_6_method_15_code 12 = .ok (.lcmp, 1) := by decide +kernel
theorem d5_13 : decode prog_6_method_15_code 13 = .ok (.ifCond .le 32, 3) := by decide +kernel
theorem d5_45 : decode prog_6_method_15_code 45 = .ok (.return_, 1) := by decide +kernel
theorem pn_rm3 : plainName "com/example/eider/eider/encoding/ByteReader" = true := by first | (simp [plainName, overriddenIn]; done) | decide +kernel
theorem ef_rm3 (m : MethodId) (x0 : Addr) (x1 : Int64) (x2 : Addr) (x3 : Addr) : entryFrame m #[(.ref x0), (.long x1), (.ref x2), (.ref x3)] 5 = mkF m 0 #[.val (.ref x0), .val (.long x1), .second, .val (.ref x2), .val (.ref x3)] [] := by first | (simp [entryFrame, mkF, argsToLocals, Value.category]; done) | rfl
def Q_rm3 (Z : State) (a1 : Addr) (q2 : Int64) (a3 : Addr) (a4 : Addr) (d : Addr) (ps : Int32) (f : Nat → Int32) (h0 : Heap) (n0 : Nat) (v : Option Value) (h : Heap) (L : List Loc) : Prop := v = none ∧ Fr n0 L ∧ h = h0
set_option maxRecDepth 65536 in
set_option maxHeartbeats 40000000 in
theorem rm3 (l : Launch) (Z : State) (a0 : Array Value) (hw : ∀ d ∈ tables_1, d.before a0 Z = true) (ws : List Jvm.Cond) (a1 : Addr) (q2 : Int64) (a3 : Addr) (a4 : Addr) (d : Addr) (ps : Int32) (f : Nat → Int32) (h0 : Heap) (n0 : Nat) (Z0 : n0 ≤ h0.size) (Ex : Exa Z h0 a1 "com/example/eider/eider/encoding/ByteReader") (Fd : Fld Z h0 a1 "com/example/eider/eider/encoding/ByteReader" "data" "[B" (.ref d)) (Fp : Fld Z h0 a1 "com/example/eider/eider/encoding/ByteReader" "position" "I" (.int ps)) (V0 : ArF Z h0 d .byte 4 (fun i => .int (f i))) (hq0 : ¬ (lcmpW q2 (0 : Int64)) < (0 : Int32)) (hq1 : ¬ (0 : Int32) < (lcmpW q2 (((4 : Int32) - ps).toInt64))) :
    MetFree l (⟨"com/example/eider/eider/encoding/ByteReader", "require", "(JLjava/lang/String;Ljava/lang/String;)V"⟩ : MethodName) (head1 (Jvm.Cond.code (⟨"com/example/eider/eider/encoding/ByteReader", "require", "(JLjava/lang/String;Ljava/lang/String;)V"⟩ : MethodName) prog_6_method_15_code 5 none :: ws) ({ frames := 1, cells := 0, slots := 0, locals := 14 } : Room)) (fun a U => a = #[(.ref a1), (.long q2), (.ref a3), (.ref a4)] ∧ Z.Warmed39 U.vm ∧ U.heap = h0) (fun _ _ _ _ _ => True) (fun _ U o U' => ∃ v L, o = .returned v ∧ Q_rm3 Z a1 q2 a3 a4 d ps f h0 n0 v U'.heap L ∧ FrameEnd U o U' L ({ frames := 1, cells := 0, slots := 0, locals := 14 } : Room).cells ({ frames := 1, cells := 0, slots := 0, locals := 14 } : Room).slots) := by
  refine MetFree.of_bodySF (plainFor_of_name pn_rm3) hisR ?_
  intro p e s m args below meth c s₁ Bd hml0 hP hK
  obtain ⟨rfl, hZ, hh⟩ := hP
  have hx := Bd.exec
  have hby := Bd.bytes
  have hml : c.maxLocals = 5 := hml0
  have hown : s.vm.findClass "com/example/eider/eider/encoding/ByteReader" = some m.cls := findClass_of_methodNamed Bd.named
  have hnm := (name_of_methodNamed Bd.named Bd.method).1
  have X0 : Stand p l e ({ frames := 1, cells := 0, slots := 0, locals := 14 } : Room) s m #[(.ref a1), (.long q2), (.ref a3), (.ref a4)] below meth c s₁ [] 0 0 := Stand.of_body Bd
  have e0 : s₁.heap = h0 := by rw [← hh, Bd.state]; rfl
  have N0 := Fr.nil n0
  have pre0 : ∀ t, Steps p.tables e below (s₁.setTop (mkF m 0 #[.val (.ref a1), .val (.long q2), .second, .val (.ref a3), .val (.ref a4)] [])) t → Steps p.tables e below (s₁.setTop (entryFrame m #[(.ref a1), (.long q2), (.ref a3), (.ref a4)] 5)) t := fun t k => castTop (ef_rm3 m a1 q2 a3 a4) k
  obtain ⟨cq1, kq1, q1a, q1b, q1c⟩ := isOf hZ e0 Ex
  obtain ⟨_, _, ⟨T1, L1, k1, n1⟩, -, X1, ⟨Lc1, hQ1, l1, y1, z1⟩, st1⟩ := X0.virtualBack hx (y := (⟨"com/example/eider/eider/encoding/ByteReader", "remaining", "()I"⟩ : MethodName)) (z := (⟨"com/example/eider/eider/encoding/ByteReader", "remaining", "()I"⟩ : MethodName)) hown (mvT hZ (hw _ (List.mem_of_getElem? (i := 37) rfl))) (mvT hZ (hw _ (List.mem_of_getElem? (i := 38) rfl))) (notFace_of_selects (args := #[]) (mvT hZ (hw _ (List.mem_of_getElem? (i := 40) rfl)))) (mvT hZ (hw _ (List.mem_of_getElem? (i := 40) rfl))) (mvT hZ (hw _ (List.mem_of_getElem? (i := 39) rfl))) (by decide) (backOf (W := 2) (rmr l Z a0 hw [] a1 d ps f h0 n0 Z0 Fd Fp V0) hZ (hw _ (List.mem_of_getElem? (i := 41) rfl)) (hw _ (List.mem_of_getElem? (i := 4) rfl)) (by decide) (by decide)) q1a q1c (g := (mkF m 8 #[.val (.ref a1), .val (.long q2), .second, .val (.ref a3), .val (.ref a4)] [(.ref a1), (.long q2)])) rfl (by rw [hml]; rfl) (Steps.refl _) (argsL := []) (rest := [(.long q2)]) (lenOf pd_3 rfl) rfl (by show 2 * 0 + _ ≤ _; exact Nat.le_of_eq rfl) (hb hby d5_8) (fun _ _ => ⟨rfl, e0, (by decide : 0 + 0 ≤ _), (by decide : 0 + 0 ≤ _)⟩)
  dsimp only [Pt.U, Pt.locs, Pt.cells, Pt.slots] at X1 l1 y1 z1 st1 hQ1
  subst l1 y1 z1
  obtain ⟨rfl, N1q, e1⟩ := hQ1
  have N1 := Fr.app N0 N1q
  obtain ⟨fs, hr, hrun, hended, hW, hsame⟩ := X1.leave (v := none) (fun _ => rfl)
  refine ⟨_, _, pre0 _ ?_, hrun, hended, _, _, rfl, ?_, ⟨_, rfl⟩, hW, hsame.mono (by decide) (by decide)⟩
  · show Steps p.tables e below (s₁.setTop (mkF m 0 #[.val (.ref a1), .val (.long q2), .second, .val (.ref a3), .val (.ref a4)] [])) _
    refine XS.lloadN X0.here hx rfl (hb hby d5_0) rfl ?_
    show Steps p.tables e below (s₁.setTop (mkF m 1 #[.val (.ref a1), .val (.long q2), .second, .val (.ref a3), .val (.ref a4)] [(.long q2)])) _
    refine XS.lconst X0.here hx rfl (hb hby d5_1) ?_
    show Steps p.tables e below (s₁.setTop (mkF m 2 #[.val (.ref a1), .val (.long q2), .second, .val (.ref a3), .val (.ref a4)] [(.long (0 : Int64)), (.long q2)])) _
    refine XS.lcmp X0.here hx rfl (hb hby d5_2) rfl ?_
    show Steps p.tables e below (s₁.setTop (mkF m 3 #[.val (.ref a1), .val (.long q2), .second, .val (.ref a3), .val (.ref a4)] [(.int (lcmpW q2 (0 : Int64)))])) _
    refine XS.ifNo X0.here hx rfl (hb hby d5_3) rfl ((if0 _ _).trans (flt (hq0 : ¬ ((lcmpW q2 (0 : Int64)) < (0 : Int32)))).1) ?_
    show Steps p.tables e below (s₁.setTop (mkF m 6 #[.val (.ref a1), .val (.long q2), .second, .val (.ref a3), .val (.ref a4)] [])) _
    refine XS.lloadN X0.here hx rfl (hb hby d5_6) rfl ?_
    show Steps p.tables e below (s₁.setTop (mkF m 7 #[.val (.ref a1), .val (.long q2), .second, .val (.ref a3), .val (.ref a4)] [(.long q2)])) _
    refine XS.aloadN X0.here hx rfl (hb hby d5_7) rfl rfl ?_
    show Steps p.tables e below (s₁.setTop (mkF m 8 #[.val (.ref a1), .val (.long q2), .second, .val (.ref a3), .val (.ref a4)] [(.ref a1), (.long q2)])) _
    refine st1.trans ?_
    show Steps p.tables e below (T1.setTop (mkF m 11 #[.val (.ref a1), .val (.long q2), .second, .val (.ref a3), .val (.ref a4)] [(.int ((4 : Int32) - ps)), (.long q2)])) _
    refine XS.i2l X1.here hx rfl (hb hby d5_11) rfl ?_
    show Steps p.tables e below (T1.setTop (mkF m 12 #[.val (.ref a1), .val (.long q2), .second, .val (.ref a3), .val (.ref a4)] [(.long (((4 : Int32) - ps).toInt64)), (.long q2)])) _
    refine XS.lcmp X1.here hx rfl (hb hby d5_12) rfl ?_
    show Steps p.tables e below (T1.setTop (mkF m 13 #[.val (.ref a1), .val (.long q2), .second, .val (.ref a3), .val (.ref a4)] [(.int (lcmpW q2 (((4 : Int32) - ps).toInt64)))])) _
    refine XS.ifYes X1.here hx rfl (pc0 := 13) (pc' := 45) rfl (hb hby d5_13) rfl ((if0 _ _).trans (flt (hq1 : ¬ ((0 : Int32) < (lcmpW q2 (((4 : Int32) - ps).toInt64))))).2.2.2) (by decide) (by decide) ?_
    show Steps p.tables e below (T1.setTop (mkF m 45 #[.val (.ref a1), .val (.long q2), .second, .val (.ref a3), .val (.ref a4)] [])) _
    exact X1.returnOut hx Bd.returns (hb hby d5_45) hr
  · show Q_rm3 Z a1 q2 a3 a4 d ps f h0 n0 _ T1.heap _
    rw [e1]
    exact ⟨rfl, N1, rfl⟩
theorem d4_0 : decode prog_6_method_14_code 0 = .ok (.aload_n 0, 1) := by decide +kernel
theorem d4_1 : decode prog_6_method_14_code 1 = .ok (.lload_n 1, 1) := by decide +kernel
theorem d4_2 : decode prog_6_method_14_code 2 = .ok (.aload_n 3, 1) := by decide +kernel
theorem d4_3 : decode prog_6_method_14_code 3 = .ok (.ldc 25, 2) := by decide +kernel
theorem d4_5 : decode prog_6_method_14_code 5 = .ok (.invokevirtual 33, 3) := by decide +kernel
theorem d4_8 : decode prog_6_method_14_code 8 = .ok (.return_, 1) := by decide +kernel
theorem pn_rm2 : plainName "com/example/eider/eider/encoding/ByteReader" = true := by first | (simp [plainName, overriddenIn]; done) | decide +kernel
theorem ef_rm2 (m : MethodId) (x0 : Addr) (x1 : Int64) (x2 : Addr) : entryFrame m #[(.ref x0), (.long x1), (.ref x2)] 4 = mkF m 0 #[.val (.ref x0), .val (.long x1), .second, .val (.ref x2)] [] := by first | (simp [entryFrame, mkF, argsToLocals, Value.category]; done) | rfl
def Q_rm2 (Z : State) (a1 : Addr) (q2 : Int64) (a3 : Addr) (d : Addr) (ps : Int32) (f : Nat → Int32) (h0 : Heap) (n0 : Nat) (v : Option Value) (h : Heap) (L : List Loc) : Prop := v = none ∧ Fr n0 L ∧ Keep h0 h []
set_option maxRecDepth 65536 in
set_option maxHeartbeats 40000000 in
theorem rm2 (l : Launch) (Z : State) (a0 : Array Value) (hw : ∀ d ∈ tables_1, d.before a0 Z = true) (ws : List Jvm.Cond) (a1 : Addr) (q2 : Int64) (a3 : Addr) (d : Addr) (ps : Int32) (f : Nat → Int32) (h0 : Heap) (n0 : Nat) (Z0 : n0 ≤ h0.size) (Ex : Exa Z h0 a1 "com/example/eider/eider/encoding/ByteReader") (Fd : Fld Z h0 a1 "com/example/eider/eider/encoding/ByteReader" "data" "[B" (.ref d)) (Fp : Fld Z h0 a1 "com/example/eider/eider/encoding/ByteReader" "position" "I" (.int ps)) (V0 : ArF Z h0 d .byte 4 (fun i => .int (f i))) (hq0 : ¬ (lcmpW q2 (0 : Int64)) < (0 : Int32)) (hq1 : ¬ (0 : Int32) < (lcmpW q2 (((4 : Int32) - ps).toInt64))) :
    MetFree l (⟨"com/example/eider/eider/encoding/ByteReader", "require", "(JLjava/lang/String;)V"⟩ : MethodName) (head1 (Jvm.Cond.code (⟨"com/example/eider/eider/encoding/ByteReader", "require", "(JLjava/lang/String;)V"⟩ : MethodName) prog_6_method_14_code 4 none :: ws) ({ frames := 2, cells := 2, slots := 4, locals := 30 } : Room)) (fun a U => a = #[(.ref a1), (.long q2), (.ref a3)] ∧ Z.Warmed39 U.vm ∧ U.heap = h0) (fun _ _ _ _ _ => True) (fun _ U o U' => ∃ v L, o = .returned v ∧ Q_rm2 Z a1 q2 a3 d ps f h0 n0 v U'.heap L ∧ ReturnedEndW U o U' L ({ frames := 2, cells := 2, slots := 4, locals := 30 } : Room).cells ({ frames := 2, cells := 2, slots := 4, locals := 30 } : Room).slots) := by
  refine MetFree.of_bodySF (plainFor_of_name pn_rm2) hisR ?_
  intro p e s m args below meth c s₁ Bd hml0 hP hK
  obtain ⟨rfl, hZ, hh⟩ := hP
  have hx := Bd.exec
  have hby := Bd.bytes
  have hml : c.maxLocals = 4 := hml0
  have hown : s.vm.findClass "com/example/eider/eider/encoding/ByteReader" = some m.cls := findClass_of_methodNamed Bd.named
  have hnm := (name_of_methodNamed Bd.named Bd.method).1
  have X0 : Stand p l e ({ frames := 2, cells := 2, slots := 4, locals := 30 } : Room) s m #[(.ref a1), (.long q2), (.ref a3)] below meth c s₁ [] 0 0 := Stand.of_body Bd
  have e0 : s₁.heap = h0 := by rw [← hh, Bd.state]; rfl
  have N0 := Fr.nil n0
  have pre0 : ∀ t, Steps p.tables e below (s₁.setTop (mkF m 0 #[.val (.ref a1), .val (.long q2), .second, .val (.ref a3)] [])) t → Steps p.tables e below (s₁.setTop (entryFrame m #[(.ref a1), (.long q2), (.ref a3)] 4)) t := fun t k => castTop (ef_rm2 m a1 q2 a3) k
  have hS : s.Since s.vm 0 := State.WarmedH.since (State.WarmedH.refl s) 0
  have hk : 0 ≤ h0.size := Nat.zero_le _
  have K0 := Keep.refl h0 []
  have pre1 : ∀ t, Steps p.tables e below (s₁.setTop (mkF m 3 #[.val (.ref a1), .val (.long q2), .second, .val (.ref a3)] [(.ref a3), (.long q2), (.ref a1)])) t → Steps p.tables e below (s₁.setTop (entryFrame m #[(.ref a1), (.long q2), (.ref a3)] 4)) t := by
    intro t k
    refine pre0 t ?_
    show Steps p.tables e below (s₁.setTop (mkF m 0 #[.val (.ref a1), .val (.long q2), .second, .val (.ref a3)] [])) _
    refine XS.aloadN X0.here hx rfl (hb hby d4_0) rfl rfl ?_
    show Steps p.tables e below (s₁.setTop (mkF m 1 #[.val (.ref a1), .val (.long q2), .second, .val (.ref a3)] [(.ref a1)])) _
    refine XS.lloadN X0.here hx rfl (hb hby d4_1) rfl ?_
    show Steps p.tables e below (s₁.setTop (mkF m 2 #[.val (.ref a1), .val (.long q2), .second, .val (.ref a3)] [(.long q2), (.ref a1)])) _
    refine XS.aloadN X0.here hx rfl (hb hby d4_2) rfl rfl ?_
    exact k
  obtain ⟨b2, T2, h2, k2, X2, e2, E2, hS, hk, hZ, hown, st2⟩ := ldcS (s := s) (vm0 := s.vm) X0 hx hZ hown (hw _ (List.mem_of_getElem? (i := 32) rfl)) (own_sAtoms hw) e0 hS hk (g := (mkF m 3 #[.val (.ref a1), .val (.long q2), .second, .val (.ref a3)] [(.ref a3), (.long q2), (.ref a1)])) rfl (hb hby d4_3) (n := 0) (by decide) (by decide) (by decide) (by decide)
  have Ex_v2 := Ex.ext E2
  have Fd_v2 := Fd.ext E2
  have Fp_v2 := Fp.ext E2
  have V0_v2 := V0.ext E2
  have Z2 : n0 ≤ h2.size := Nat.le_trans Z0 E2.1
  have K2 := K0.ext E2
  have pre3 : ∀ t, Steps p.tables e below (T2.setTop (mkF m 5 #[.val (.ref a1), .val (.long q2), .second, .val (.ref a3)] [(.ref b2), (.ref a3), (.long q2), (.ref a1)])) t → Steps p.tables e below (s₁.setTop (entryFrame m #[(.ref a1), (.long q2), (.ref a3)] 4)) t := by
    intro t k
    refine pre1 t ?_
    show Steps p.tables e below (s₁.setTop (mkF m 3 #[.val (.ref a1), .val (.long q2), .second, .val (.ref a3)] [(.ref a3), (.long q2), (.ref a1)])) _
    refine st2 _ ?_
    exact k
  obtain ⟨cq4, qq4, qq4'⟩ := Ex_v2.cell
  obtain ⟨_, _, ⟨T4, L4, k4, n4⟩, -, X4, ⟨Lc4, hQ4, l4, y4, z4⟩, st4⟩ := X2.privateBack hx (y := (⟨"com/example/eider/eider/encoding/ByteReader", "require", "(JLjava/lang/String;Ljava/lang/String;)V"⟩ : MethodName)) hown (mvT hZ (hw _ (List.mem_of_getElem? (i := 33) rfl))) (mvT hZ (hw _ (List.mem_of_getElem? (i := 34) rfl))) (own_selp (mvT hZ (hw _ (List.mem_of_getElem? (i := 3) rfl))) (Cond.privateMethod_at (mvP hZ (hw _ (List.mem_of_getElem? (i := 35) rfl)) (args := #[]))) (mvT hZ (hw _ (List.mem_of_getElem? (i := 34) rfl))) (by decide)) (Cond.privateMethod_at (mvP hZ (hw _ (List.mem_of_getElem? (i := 35) rfl)) (args := #[]))) (mvT hZ (hw _ (List.mem_of_getElem? (i := 36) rfl))) (by decide) (backOf (W := 0) (rm3 l Z a0 hw [] a1 q2 a3 b2 d ps f h2 n0 Z2 Ex_v2 Fd_v2 Fp_v2 V0_v2 hq0 hq1) hZ (hw _ (List.mem_of_getElem? (i := 36) rfl)) (hw _ (List.mem_of_getElem? (i := 4) rfl)) (by decide) (by decide)) (g := (mkF m 5 #[.val (.ref a1), .val (.long q2), .second, .val (.ref a3)] [(.ref b2), (.ref a3), (.long q2), (.ref a1)])) rfl (by rw [hml]; rfl) (Steps.refl _) (a := a1) (by rw [e2]; exact qq4) qq4' (argsL := [(.long q2), (.ref a3), (.ref b2)]) (rest := []) (lenOf pd_4 rfl) rfl (by show 2 * 0 + _ ≤ _; exact Nat.le_of_eq rfl) (hb hby d4_5) (fun _ _ => ⟨rfl, e2, (by decide : 2 + 0 ≤ _), (by decide : 4 + 0 ≤ _)⟩)
  dsimp only [Pt.U, Pt.locs, Pt.cells, Pt.slots] at X4 l4 y4 z4 st4 hQ4
  subst l4 y4 z4
  obtain ⟨rfl, N4q, e4⟩ := hQ4
  have N4 := Fr.app N0 N4q
  obtain ⟨fs, hr, hrun, hended, hRW⟩ := X4.leaveW hS (by rw [e4]; exact hk) (v := none) (fun _ => rfl)
  refine ⟨_, _, pre3 _ ?_, hrun, hended, _, _, rfl, ?_, hRW.1, hRW.2.1, hRW.2.2.1, hRW.2.2.2.mono (by decide) (by decide)⟩
  · show Steps p.tables e below (T2.setTop (mkF m 5 #[.val (.ref a1), .val (.long q2), .second, .val (.ref a3)] [(.ref b2), (.ref a3), (.long q2), (.ref a1)])) _
    refine st4.trans ?_
    show Steps p.tables e below (T4.setTop (mkF m 8 #[.val (.ref a1), .val (.long q2), .second, .val (.ref a3)] [])) _
    exact X4.returnOut hx Bd.returns (hb hby d4_8) hr
  · show Q_rm2 Z a1 q2 a3 d ps f h0 n0 _ T4.heap _
    rw [e4]
    exact ⟨rfl, N4, K2⟩
theorem own_pl {ps p : Int32} (h0 : 0 ≤ ps.toInt) (h1 : 0 ≤ p.toInt) (h2 : ps.toInt + p.toInt ≤ 4) : own_R ps (ps + p) := by
  have hs := c_iadd ps p
  have r := rng32 (ps + p)
  exact ⟨h0, by omega, by omega⟩
def own_S (ps p : Int32) : Prop := 0 ≤ ps.toInt ∧ 0 ≤ p.toInt ∧ ps.toInt + p.toInt ≤ 4
theorem own_q0 {ps p : Int32} (h : own_S ps p) : ¬ (lcmpW (p.toInt64) (0 : Int64)) < (0 : Int32) := by
  rw [lw_lt, Int64.lt_iff_toInt_lt, c_i2l, show (0 : Int64).toInt = 0 from by decide]
  have := h.2.1
  omega
theorem own_q1 {ps p : Int32} (h : own_S ps p) : ¬ (0 : Int32) < (lcmpW (p.toInt64) (((4 : Int32) - ps).toInt64)) := by
  rw [lw_gt, Int64.lt_iff_toInt_lt, c_i2l, c_i2l]
  have hs := c_isub 4 ps
  have r := rng32 ((4 : Int32) - ps)
  rw [show (4 : Int32).toInt = 4 from by decide] at hs
  have h1 := h.1
  have h2 := h.2
  omega
theorem d3_0 : decode prog_6_method_7_code 0 = .ok (.aload_n 0, 1) := by decide +kernel
theorem d3_1 : decode prog_6_method_7_code 1 = .ok (.iload_n 1, 1) := by decide +kernel
theorem d3_2 : decode prog_6_method_7_code 2 = .ok (.i2l, 1) := by decide +kernel
theorem d3_3 : decode prog_6_method_7_code 3 = .ok (.aload_n 2, 1) := by decide +kernel
theorem d3_4 : decode prog_6_method_7_code 4 = .ok (.invokevirtual 17, 3) := by decide +kernel
theorem d3_7 : decode prog_6_method_7_code 7 = .ok (.aload_n 0, 1) := by decide +kernel
theorem d3_8 : decode prog_6_method_7_code 8 = .ok (.getfield 7, 3) := by decide +kernel
theorem d3_11 : decode prog_6_method_7_code 11 = .ok (.aload_n 0, 1) := by decide +kernel
theorem d3_12 : decode prog_6_method_7_code 12 = .ok (.getfield 21, 3) := by decide +kernel
theorem d3_15 : decode prog_6_method_7_code 15 = .ok (.aload_n 0, 1) := by decide +kernel
theorem d3_16 : decode prog_6_method_7_code 16 = .ok (.getfield 21, 3) := by decide +kernel
theorem d3_19 : decode prog_6_method_7_code 19 = .ok (.iload_n 1, 1) := by decide +kernel
theorem d3_20 : decode prog_6_method_7_code 20 = .ok (.iadd, 1) := by decide +kernel
theorem d3_21 : decode prog_6_method_7_code 21 = .ok (.invokestatic 42, 3) := by decide +kernel
theorem d3_24 : decode prog_6_method_7_code 24 = .ok (.astore_n 3, 1) := by decide +kernel
theorem d3_25 : decode prog_6_method_7_code 25 = .ok (.aload_n 0, 1) := by decide +kernel
theorem d3_26 : decode prog_6_method_7_code 26 = .ok (.dup, 1) := by decide +kernel
theorem d3_27 : decode prog_6_method_7_code 27 = .ok (.getfield 21, 3) := by decide +kernel
theorem d3_30 : decode prog_6_method_7_code 30 = .ok (.iload_n 1, 1) := by decide +kernel
theorem d3_31 : decode prog_6_method_7_code 31 = .ok (.iadd, 1) := by decide +kernel
theorem d3_32 : decode prog_6_method_7_code 32 = .ok (.putfield 21, 3) := by decide +kernel
theorem d3_35 : decode prog_6_method_7_code 35 = .ok (.aload_n 3, 1) := by decide +kernel
theorem d3_36 : decode prog_6_method_7_code 36 = .ok (.areturn, 1) := by decide +kernel
theorem pn_rmy : plainName "com/example/eider/eider/encoding/ByteReader" = true := by first | (simp [plainName, overriddenIn]; done) | decide +kernel
theorem ef_rmy (m : MethodId) (x0 : Addr) (x1 : Int32) (x2 : Addr) : entryFrame m #[(.ref x0), (.int x1), (.ref x2)] 4 = mkF m 0 #[.val (.ref x0), .val (.int x1), .val (.ref x2), .unset] [] := by first | (simp [entryFrame, mkF, argsToLocals, Value.category]; done) | rfl
def Q_rmy (Z : State) (a1 : Addr) (p2 : Int32) (a3 : Addr) (d : Addr) (ps : Int32) (f : Nat → Int32) (h0 : Heap) (n0 : Nat) (v : Option Value) (h : Heap) (L : List Loc) : Prop := ∃ b, v = some (.ref b) ∧ Fr n0 L ∧ Keep h0 h [a1] ∧ h0.size ≤ b ∧ Fld Z h a1 "com/example/eider/eider/encoding/ByteReader" "data" "[B" (.ref d) ∧ Fld Z h a1 "com/example/eider/eider/encoding/ByteReader" "position" "I" (.int (ps + p2))
set_option maxRecDepth 65536 in
set_option maxHeartbeats 40000000 in
theorem rmy (l : Launch) (Z : State) (a0 : Array Value) (hw : ∀ d ∈ tables_1, d.before a0 Z = true) (ws : List Jvm.Cond) (a1 : Addr) (p2 : Int32) (a3 : Addr) (d : Addr) (ps : Int32) (f : Nat → Int32) (h0 : Heap) (n0 : Nat) (Z0 : n0 ≤ h0.size) (Ex : Exa Z h0 a1 "com/example/eider/eider/encoding/ByteReader") (Fd : Fld Z h0 a1 "com/example/eider/eider/encoding/ByteReader" "data" "[B" (.ref d)) (Fp : Fld Z h0 a1 "com/example/eider/eider/encoding/ByteReader" "position" "I" (.int ps)) (V0 : ArF Z h0 d .byte 4 (fun i => .int (f i))) (EX : Exa Z h0 d "[B") (hf : ∀ i, fits .byte (.int (f i)) = true) (hr : own_S ps p2) (ga : n0 ≤ a1) (hne : a1 ≠ d) :
    MetFree l (⟨"com/example/eider/eider/encoding/ByteReader", "bytes", "(ILjava/lang/String;)[B"⟩ : MethodName) (head1 (Jvm.Cond.code (⟨"com/example/eider/eider/encoding/ByteReader", "bytes", "(ILjava/lang/String;)[B"⟩ : MethodName) prog_6_method_7_code 4 (some (.array .byte)) :: ws) ({ frames := 3, cells := 3, slots := 8, locals := 94 } : Room)) (fun a U => a = #[(.ref a1), (.int p2), (.ref a3)] ∧ Z.Warmed39 U.vm ∧ U.heap = h0) (fun _ _ _ _ _ => True) (fun _ U o U' => ∃ v L, o = .returned v ∧ Q_rmy Z a1 p2 a3 d ps f h0 n0 v U'.heap L ∧ ReturnedEndW U o U' L ({ frames := 3, cells := 3, slots := 8, locals := 94 } : Room).cells ({ frames := 3, cells := 3, slots := 8, locals := 94 } : Room).slots) := by
  refine MetFree.of_bodySF (plainFor_of_name pn_rmy) hisR ?_
  intro p e s m args below meth c s₁ Bd hml0 hP hK
  obtain ⟨rfl, hZ, hh⟩ := hP
  have hx := Bd.exec
  have hby := Bd.bytes
  have hml : c.maxLocals = 4 := hml0
  have hown : s.vm.findClass "com/example/eider/eider/encoding/ByteReader" = some m.cls := findClass_of_methodNamed Bd.named
  have hnm := (name_of_methodNamed Bd.named Bd.method).1
  have X0 : Stand p l e ({ frames := 3, cells := 3, slots := 8, locals := 94 } : Room) s m #[(.ref a1), (.int p2), (.ref a3)] below meth c s₁ [] 0 0 := Stand.of_body Bd
  have e0 : s₁.heap = h0 := by rw [← hh, Bd.state]; rfl
  have N0 := Fr.nil n0
  have pre0 : ∀ t, Steps p.tables e below (s₁.setTop (mkF m 0 #[.val (.ref a1), .val (.int p2), .val (.ref a3), .unset] [])) t → Steps p.tables e below (s₁.setTop (entryFrame m #[(.ref a1), (.int p2), (.ref a3)] 4)) t := fun t k => castTop (ef_rmy m a1 p2 a3) k
  have hS : s.Since s.vm 0 := State.WarmedH.since (State.WarmedH.refl s) 0
  have hk : 0 ≤ h0.size := Nat.zero_le _
  have K0 := Keep.refl h0 [a1]
  have pre1 : ∀ t, Steps p.tables e below (s₁.setTop (mkF m 4 #[.val (.ref a1), .val (.int p2), .val (.ref a3), .unset] [(.ref a3), (.long (p2.toInt64)), (.ref a1)])) t → Steps p.tables e below (s₁.setTop (entryFrame m #[(.ref a1), (.int p2), (.ref a3)] 4)) t := by
    intro t k
    refine pre0 t ?_
    show Steps p.tables e below (s₁.setTop (mkF m 0 #[.val (.ref a1), .val (.int p2), .val (.ref a3), .unset] [])) _
    refine XS.aloadN X0.here hx rfl (hb hby d3_0) rfl rfl ?_
    show Steps p.tables e below (s₁.setTop (mkF m 1 #[.val (.ref a1), .val (.int p2), .val (.ref a3), .unset] [(.ref a1)])) _
    refine XS.iloadN X0.here hx rfl (hb hby d3_1) rfl ?_
    show Steps p.tables e below (s₁.setTop (mkF m 2 #[.val (.ref a1), .val (.int p2), .val (.ref a3), .unset] [(.int p2), (.ref a1)])) _
    refine XS.i2l X0.here hx rfl (hb hby d3_2) rfl ?_
    show Steps p.tables e below (s₁.setTop (mkF m 3 #[.val (.ref a1), .val (.int p2), .val (.ref a3), .unset] [(.long (p2.toInt64)), (.ref a1)])) _
    refine XS.aloadN X0.here hx rfl (hb hby d3_3) rfl rfl ?_
    exact k
  obtain ⟨cq2, qq2, qq2'⟩ := Ex.cell
  obtain ⟨_, _, ⟨T2, L2, k2, n2⟩, -, X2, hs2, gr2, ⟨Lc2, hQ2, l2, y2, z2⟩, st2⟩ := X0.privateBackS hx (y := (⟨"com/example/eider/eider/encoding/ByteReader", "require", "(JLjava/lang/String;)V"⟩ : MethodName)) hown (mvT hZ (hw _ (List.mem_of_getElem? (i := 28) rfl))) (mvT hZ (hw _ (List.mem_of_getElem? (i := 29) rfl))) (own_selp (mvT hZ (hw _ (List.mem_of_getElem? (i := 3) rfl))) (Cond.privateMethod_at (mvP hZ (hw _ (List.mem_of_getElem? (i := 30) rfl)) (args := #[]))) (mvT hZ (hw _ (List.mem_of_getElem? (i := 29) rfl))) (by decide)) (Cond.privateMethod_at (mvP hZ (hw _ (List.mem_of_getElem? (i := 30) rfl)) (args := #[]))) (mvT hZ (hw _ (List.mem_of_getElem? (i := 31) rfl))) (by decide) (backOfS (W := 0) (rm2 l Z a0 hw [] a1 (p2.toInt64) a3 d ps f h0 n0 Z0 Ex Fd Fp V0 (own_q0 hr) (own_q1 hr)) hZ (hw _ (List.mem_of_getElem? (i := 31) rfl)) (hw _ (List.mem_of_getElem? (i := 4) rfl)) (by decide) (by decide)) (g := (mkF m 4 #[.val (.ref a1), .val (.int p2), .val (.ref a3), .unset] [(.ref a3), (.long (p2.toInt64)), (.ref a1)])) rfl (by rw [hml]; rfl) (Steps.refl _) (a := a1) (by rw [e0]; exact qq2) qq2' (argsL := [(.long (p2.toInt64)), (.ref a3)]) (rest := []) (lenOf pd_5 rfl) rfl (by show 2 * 0 + _ ≤ _; exact Nat.le_of_eq rfl) (hb hby d3_4) (fun _ _ => ⟨rfl, e0, (by decide : 0 + 2 ≤ _), (by decide : 0 + 4 ≤ _)⟩)
  dsimp only [Pt.U, Pt.locs, Pt.cells, Pt.slots] at X2 l2 y2 z2 st2 hQ2 hs2 gr2
  subst l2 y2 z2
  have hown := own_fc hs2 hown
  have hZ : Z.Warmed39 (s.setVm T2.vm).vm := State.Warmed39.trans (t := s.setVm s.vm) hZ hs2.1
  have hS : s.Since T2.vm T2.heap.size := hS.trans (show (s.setVm s.vm).Since T2.vm T2.heap.size from hs2) (Nat.le_trans (e0 ▸ hk) gr2)
  have X2 : Stand p l e ({ frames := 3, cells := 3, slots := 8, locals := 94 } : Room) (s.setVm T2.vm) m #[(.ref a1), (.int p2), (.ref a3)] below meth c T2 _ _ _ := X2
  obtain ⟨rfl, N2q, Kc2⟩ := hQ2
  have N2 := Fr.app N0 N2q
  have Ex_v2 := Ex.keep Kc2
  have Fd_v2 := Fd.keep Kc2 nin0
  have Fp_v2 := Fp.keep Kc2 nin0
  have V0_v2 := V0.keep Kc2 nin0
  have EX_v2 := EX.keep Kc2
  have Z2 : n0 ≤ T2.heap.size := Nat.le_trans Z0 Kc2.1
  have hk := Nat.le_trans hk Kc2.1
  have KK2 := K0.trans Kc2 all0
  have hk : T2.heap.size ≤ T2.heap.size := Nat.le_refl _
  obtain ⟨T3, X3, e3, st3⟩ := getF X2 hx hZ hown (host := "") (Or.inl (hw _ (List.mem_of_getElem? (i := 18) rfl))) Via.refl rfl Fd_v2 (g := (mkF m 8 #[.val (.ref a1), .val (.int p2), .val (.ref a3), .unset] [(.ref a1)])) rfl rfl (hb hby d3_8)
  obtain ⟨T4, X4, e4, st4⟩ := getF X3 hx hZ hown (host := "") (Or.inl (hw _ (List.mem_of_getElem? (i := 42) rfl))) Via.refl e3 Fp_v2 (g := (mkF m 12 #[.val (.ref a1), .val (.int p2), .val (.ref a3), .unset] [(.ref a1), (.ref d)])) rfl rfl (hb hby d3_12)
  obtain ⟨T5, X5, e5, st5⟩ := getF X4 hx hZ hown (host := "") (Or.inl (hw _ (List.mem_of_getElem? (i := 42) rfl))) Via.refl e4 Fp_v2 (g := (mkF m 16 #[.val (.ref a1), .val (.int p2), .val (.ref a3), .unset] [(.ref a1), (.int ps), (.ref d)])) rfl rfl (hb hby d3_16)
  have pre6 : ∀ t, Steps p.tables e below (T5.setTop (mkF m 21 #[.val (.ref a1), .val (.int p2), .val (.ref a3), .unset] [(.int (ps + p2)), (.int ps), (.ref d)])) t → Steps p.tables e below (s₁.setTop (entryFrame m #[(.ref a1), (.int p2), (.ref a3)] 4)) t := by
    intro t k
    refine pre1 t ?_
    show Steps p.tables e below (s₁.setTop (mkF m 4 #[.val (.ref a1), .val (.int p2), .val (.ref a3), .unset] [(.ref a3), (.long (p2.toInt64)), (.ref a1)])) _
    refine st2.trans ?_
    show Steps p.tables e below (T2.setTop (mkF m 7 #[.val (.ref a1), .val (.int p2), .val (.ref a3), .unset] [])) _
    refine XS.aloadN X2.here hx rfl (hb hby d3_7) rfl rfl ?_
    show Steps p.tables e below (T2.setTop (mkF m 8 #[.val (.ref a1), .val (.int p2), .val (.ref a3), .unset] [(.ref a1)])) _
    refine st3 _ ?_
    show Steps p.tables e below (T3.setTop (mkF m 11 #[.val (.ref a1), .val (.int p2), .val (.ref a3), .unset] [(.ref d)])) _
    refine XS.aloadN X3.here hx rfl (hb hby d3_11) rfl rfl ?_
    show Steps p.tables e below (T3.setTop (mkF m 12 #[.val (.ref a1), .val (.int p2), .val (.ref a3), .unset] [(.ref a1), (.ref d)])) _
    refine st4 _ ?_
    show Steps p.tables e below (T4.setTop (mkF m 15 #[.val (.ref a1), .val (.int p2), .val (.ref a3), .unset] [(.int ps), (.ref d)])) _
    refine XS.aloadN X4.here hx rfl (hb hby d3_15) rfl rfl ?_
    show Steps p.tables e below (T4.setTop (mkF m 16 #[.val (.ref a1), .val (.int p2), .val (.ref a3), .unset] [(.ref a1), (.int ps), (.ref d)])) _
    refine st5 _ ?_
    show Steps p.tables e below (T5.setTop (mkF m 19 #[.val (.ref a1), .val (.int p2), .val (.ref a3), .unset] [(.int ps), (.int ps), (.ref d)])) _
    refine XS.iloadN X5.here hx rfl (hb hby d3_19) rfl ?_
    show Steps p.tables e below (T5.setTop (mkF m 20 #[.val (.ref a1), .val (.int p2), .val (.ref a3), .unset] [(.int p2), (.int ps), (.int ps), (.ref d)])) _
    refine XS.iadd X5.here hx rfl (hb hby d3_20) rfl ?_
    exact k
  obtain ⟨_, _, ⟨T7, L7, k7, n7⟩, -, X7, ⟨Lc7, hQ7, l7, y7, z7⟩, st7⟩ := Jvm.LawKit.callS X5 hx (y := (⟨"java/util/Arrays", "copyOfRange", "([BII)[B"⟩ : MethodName)) hown (mvT hZ (hw _ (List.mem_of_getElem? (i := 44) rfl))) (mvT hZ (hw _ (List.mem_of_getElem? (i := 45) rfl))) (mvT hZ (hw _ (List.mem_of_getElem? (i := 46) rfl))) (mvT hZ (hw _ (List.mem_of_getElem? (i := 47) rfl))) (by decide) (backOf (W := 0) (rmc l Z a0 hw [] d ps (ps + p2) f T2.heap n0 Z2 V0_v2 hf (own_pl hr.1 hr.2.1 hr.2.2) EX_v2) hZ (hw _ (List.mem_of_getElem? (i := 47) rfl)) (hw _ (List.mem_of_getElem? (i := 46) rfl)) (by decide) (by decide)) (g := (mkF m 21 #[.val (.ref a1), .val (.int p2), .val (.ref a3), .unset] [(.int (ps + p2)), (.int ps), (.ref d)])) rfl (by rw [hml]; rfl) (argsL := [(.ref d), (.int ps), (.int (ps + p2))]) (rest := []) (lenOf pd_2 rfl) rfl (by show 2 * 0 + _ ≤ _; exact Nat.le_of_eq rfl) (hb hby d3_21) (fun _ _ => ⟨rfl, e5, (by decide : 2 + 1 ≤ _), (by decide : 4 + 4 ≤ _)⟩)
  dsimp only [Pt.U, Pt.locs, Pt.cells, Pt.slots] at X7 l7 y7 z7 st7 hQ7
  subst l7 y7 z7
  obtain ⟨b7, rfl, N7q, Kc7, sb7, nf7_0_v7⟩ := hQ7
  have N7 := Fr.app N2 N7q
  have ne_a1_b7 : a1 ≠ b7 := Nat.ne_of_lt (Nat.lt_of_lt_of_le Ex_v2.lt sb7)
  have ne_d_b7 : d ≠ b7 := Nat.ne_of_lt (Nat.lt_of_lt_of_le V0_v2.lt sb7)
  have g_b7 : n0 ≤ b7 := Nat.le_trans Z2 sb7
  have sz_b7 : h0.size ≤ b7 := Nat.le_trans KK2.1 sb7
  have Ex_v7 := Ex_v2.keep Kc7
  have Fd_v7 := Fd_v2.keep Kc7 nin0
  have Fp_v7 := Fp_v2.keep Kc7 nin0
  have V0_v7 := V0_v2.keep Kc7 nin0
  have EX_v7 := EX_v2.keep Kc7
  have Z7 : n0 ≤ T7.heap.size := Nat.le_trans Z2 Kc7.1
  have hk := Nat.le_trans hk Kc7.1
  have KK7 := KK2.trans Kc7 all0
  obtain ⟨T8, X8, e8, st8⟩ := getF X7 hx hZ hown (host := "") (Or.inl (hw _ (List.mem_of_getElem? (i := 42) rfl))) Via.refl rfl Fp_v7 (g := (mkF m 27 #[.val (.ref a1), .val (.int p2), .val (.ref a3), .val (.ref b7)] [(.ref a1), (.ref a1)])) rfl rfl (hb hby d3_27)
  obtain ⟨T9, h9, X9, e9, W9, st9⟩ := putF X8 hx hZ hown (host := "") (Or.inl (hw _ (List.mem_of_getElem? (i := 42) rfl))) Via.refl e8 Fp_v7 Ex_v7 (Or.inl (hw _ (List.mem_of_getElem? (i := 43) rfl))) (hw _ (List.mem_of_getElem? (i := 3) rfl)) (ty := .int) (by decide) rfl rfl (g := (mkF m 32 #[.val (.ref a1), .val (.int p2), .val (.ref a3), .val (.ref b7)] [(.int (ps + p2)), (.ref a1)])) rfl rfl (hb hby d3_32)
  have Ex_v9 := Ex_v7.wr W9
  have Fd_v9 := Fd_v7.other W9 (Or.inr (slot_ne (Or.inr (hw _ (List.mem_of_getElem? (i := 19) rfl))) (Or.inl (hw _ (List.mem_of_getElem? (i := 43) rfl))) (by decide) (t := (.array .byte)) (t' := .int) (by decide) (by decide)))
  have V0_v9 := V0_v7.other W9 (Ne.symm hne)
  have EX_v9 := EX_v7.wr W9
  have nf7_0_v9 := nf7_0_v7.other W9 (Ne.symm ne_a1_b7)
  have Z9 : n0 ≤ h9.size := Nat.le_trans Z7 (Nat.le_of_eq W9.size.symm)
  have hk := Nat.le_trans hk (Nat.le_of_eq W9.size.symm)
  have K9 := KK7.wr W9 (Or.inl (by simp))
  have F9_v9 : Fld Z h9 a1 "com/example/eider/eider/encoding/ByteReader" "position" "I" (.int (ps + p2)) := Fp_v7.same W9
  have N9 := Fr.snoc X9 N7 ga
  obtain ⟨fs, hr, hrun, hended, hRW⟩ := X9.leaveW hS (by rw [e9]; exact hk) (v := some (.ref b7)) (fun h => by rw [Bd.returns] at h; cases h)
  refine ⟨_, _, pre6 _ ?_, hrun, hended, _, _, rfl, ?_, hRW.1, hRW.2.1, hRW.2.2.1, hRW.2.2.2.mono (by decide) (by decide)⟩
  · show Steps p.tables e below (T5.setTop (mkF m 21 #[.val (.ref a1), .val (.int p2), .val (.ref a3), .unset] [(.int (ps + p2)), (.int ps), (.ref d)])) _
    refine st7 _ ?_
    show Steps p.tables e below (T7.setTop (mkF m 24 #[.val (.ref a1), .val (.int p2), .val (.ref a3), .unset] [(.ref b7)])) _
    refine XS.astoreN X7.here hx rfl (hb hby d3_24) rfl rfl (l' := #[.val (.ref a1), .val (.int p2), .val (.ref a3), .val (.ref b7)]) rfl ?_
    show Steps p.tables e below (T7.setTop (mkF m 25 #[.val (.ref a1), .val (.int p2), .val (.ref a3), .val (.ref b7)] [])) _
    refine XS.aloadN X7.here hx rfl (hb hby d3_25) rfl rfl ?_
    show Steps p.tables e below (T7.setTop (mkF m 26 #[.val (.ref a1), .val (.int p2), .val (.ref a3), .val (.ref b7)] [(.ref a1)])) _
    refine XS.dup X7.here hx rfl (hb hby d3_26) rfl rfl ?_
    show Steps p.tables e below (T7.setTop (mkF m 27 #[.val (.ref a1), .val (.int p2), .val (.ref a3), .val (.ref b7)] [(.ref a1), (.ref a1)])) _
    refine st8 _ ?_
    show Steps p.tables e below (T8.setTop (mkF m 30 #[.val (.ref a1), .val (.int p2), .val (.ref a3), .val (.ref b7)] [(.int ps), (.ref a1)])) _
    refine XS.iloadN X8.here hx rfl (hb hby d3_30) rfl ?_
    show Steps p.tables e below (T8.setTop (mkF m 31 #[.val (.ref a1), .val (.int p2), .val (.ref a3), .val (.ref b7)] [(.int p2), (.int ps), (.ref a1)])) _
    refine XS.iadd X8.here hx rfl (hb hby d3_31) rfl ?_
    show Steps p.tables e below (T8.setTop (mkF m 32 #[.val (.ref a1), .val (.int p2), .val (.ref a3), .val (.ref b7)] [(.int (ps + p2)), (.ref a1)])) _
    refine st9 _ ?_
    show Steps p.tables e below (T9.setTop (mkF m 35 #[.val (.ref a1), .val (.int p2), .val (.ref a3), .val (.ref b7)] [])) _
    refine XS.aloadN X9.here hx rfl (hb hby d3_35) rfl rfl ?_
    show Steps p.tables e below (T9.setTop (mkF m 36 #[.val (.ref a1), .val (.int p2), .val (.ref a3), .val (.ref b7)] [(.ref b7)])) _
    jvm_step X9.here [X9.here.top, hx, (hb hby d3_36), X9.method', Bd.returns, Value.isRef, FieldType.isReference]
    first | (intro acts; rw [hr _ acts rfl rfl rfl]) | rw [hr _ _ rfl rfl rfl]
    exact Steps.refl _
  · show Q_rmy Z a1 p2 a3 d ps f h0 n0 _ T9.heap _
    rw [e9]
    exact ⟨b7, rfl, N9, K9, sz_b7, Fd_v9, F9_v9⟩
theorem d11_0 : decode prog_6_method_12_code 0 = .ok (.aload_n 0, 1) := by decide +kernel
theorem d11_1 : decode prog_6_method_12_code 1 = .ok (.getfield 7, 3) := by decide +kernel
theorem d11_4 : decode prog_6_method_12_code 4 = .ok (.iload_n 1, 1) := by decide +kernel
theorem d11_5 : decode prog_6_method_12_code 5 = .ok (.aload_n 0, 1) := by decide +kernel
theorem d11_6 : decode prog_6_method_12_code 6 = .ok (.getfield 21, 3) := by decide +kernel
theorem d11_9 : decode prog_6_method_12_code 9 = .ok (.invokestatic 42, 3) := by decide +kernel
theorem d11_12 : decode prog_6_method_12_code 12 = .ok (.areturn, 1) := by decide +kernel
theorem pn_rms : plainName "com/example/eider/eider/encoding/ByteReader" = true := by first | (simp [plainName, overriddenIn]; done) | decide +kernel
theorem ef_rms (m : MethodId) (x0 : Addr) (x1 : Int32) : entryFrame m #[(.ref x0), (.int x1)] 2 = mkF m 0 #[.val (.ref x0), .val (.int x1)] [] := by first | (simp [entryFrame, mkF, argsToLocals, Value.category]; done) | rfl
def Q_rms (Z : State) (a1 : Addr) (p2 : Int32) (d : Addr) (ps : Int32) (f : Nat → Int32) (h0 : Heap) (n0 : Nat) (v : Option Value) (h : Heap) (L : List Loc) : Prop := ∃ b, v = some (.ref b) ∧ Fr n0 L ∧ Keep h0 h [] ∧ h0.size ≤ b ∧ ArF Z h b .byte (ps - p2).toNatClampNeg (fun i => .int (f (p2.toNatClampNeg + i)))
set_option maxRecDepth 65536 in
set_option maxHeartbeats 40000000 in
theorem rms (l : Launch) (Z : State) (a0 : Array Value) (hw : ∀ d ∈ tables_1, d.before a0 Z = true) (ws : List Jvm.Cond) (a1 : Addr) (p2 : Int32) (d : Addr) (ps : Int32) (f : Nat → Int32) (h0 : Heap) (n0 : Nat) (Z0 : n0 ≤ h0.size) (Ex : Exa Z h0 a1 "com/example/eider/eider/encoding/ByteReader") (Fd : Fld Z h0 a1 "com/example/eider/eider/encoding/ByteReader" "data" "[B" (.ref d)) (Fp : Fld Z h0 a1 "com/example/eider/eider/encoding/ByteReader" "position" "I" (.int ps)) (V0 : ArF Z h0 d .byte 4 (fun i => .int (f i))) (EX : Exa Z h0 d "[B") (hf : ∀ i, fits .byte (.int (f i)) = true) (hr : own_R p2 ps) :
    MetFree l (⟨"com/example/eider/eider/encoding/ByteReader", "bytesSince", "(I)[B"⟩ : MethodName) (head1 (Jvm.Cond.code (⟨"com/example/eider/eider/encoding/ByteReader", "bytesSince", "(I)[B"⟩ : MethodName) prog_6_method_12_code 2 (some (.array .byte)) :: ws) ({ frames := 3, cells := 1, slots := 4, locals := 94 } : Room)) (fun a U => a = #[(.ref a1), (.int p2)] ∧ Z.Warmed39 U.vm ∧ U.heap = h0) (fun _ _ _ _ _ => True) (fun _ U o U' => ∃ v L, o = .returned v ∧ Q_rms Z a1 p2 d ps f h0 n0 v U'.heap L ∧ FrameEnd U o U' L ({ frames := 3, cells := 1, slots := 4, locals := 94 } : Room).cells ({ frames := 3, cells := 1, slots := 4, locals := 94 } : Room).slots) := by
  refine MetFree.of_bodySF (plainFor_of_name pn_rms) hisR ?_
  intro p e s m args below meth c s₁ Bd hml0 hP hK
  obtain ⟨rfl, hZ, hh⟩ := hP
  have hx := Bd.exec
  have hby := Bd.bytes
  have hml : c.maxLocals = 2 := hml0
  have hown : s.vm.findClass "com/example/eider/eider/encoding/ByteReader" = some m.cls := findClass_of_methodNamed Bd.named
  have hnm := (name_of_methodNamed Bd.named Bd.method).1
  have X0 : Stand p l e ({ frames := 3, cells := 1, slots := 4, locals := 94 } : Room) s m #[(.ref a1), (.int p2)] below meth c s₁ [] 0 0 := Stand.of_body Bd
  have e0 : s₁.heap = h0 := by rw [← hh, Bd.state]; rfl
  have N0 := Fr.nil n0
  have pre0 : ∀ t, Steps p.tables e below (s₁.setTop (mkF m 0 #[.val (.ref a1), .val (.int p2)] [])) t → Steps p.tables e below (s₁.setTop (entryFrame m #[(.ref a1), (.int p2)] 2)) t := fun t k => castTop (ef_rms m a1 p2) k
  have K0 := Keep.refl h0 []
  obtain ⟨T1, X1, e1, st1⟩ := getF X0 hx hZ hown (host := "") (Or.inl (hw _ (List.mem_of_getElem? (i := 18) rfl))) Via.refl e0 Fd (g := (mkF m 1 #[.val (.ref a1), .val (.int p2)] [(.ref a1)])) rfl rfl (hb hby d11_1)
  obtain ⟨T2, X2, e2, st2⟩ := getF X1 hx hZ hown (host := "") (Or.inl (hw _ (List.mem_of_getElem? (i := 42) rfl))) Via.refl e1 Fp (g := (mkF m 6 #[.val (.ref a1), .val (.int p2)] [(.ref a1), (.int p2), (.ref d)])) rfl rfl (hb hby d11_6)
  obtain ⟨_, _, ⟨T3, L3, k3, n3⟩, -, X3, ⟨Lc3, hQ3, l3, y3, z3⟩, st3⟩ := Jvm.LawKit.callS X2 hx (y := (⟨"java/util/Arrays", "copyOfRange", "([BII)[B"⟩ : MethodName)) hown (mvT hZ (hw _ (List.mem_of_getElem? (i := 44) rfl))) (mvT hZ (hw _ (List.mem_of_getElem? (i := 45) rfl))) (mvT hZ (hw _ (List.mem_of_getElem? (i := 46) rfl))) (mvT hZ (hw _ (List.mem_of_getElem? (i := 47) rfl))) (by decide) (backOf (W := 0) (rmc l Z a0 hw [] d p2 ps f h0 n0 Z0 V0 hf hr EX) hZ (hw _ (List.mem_of_getElem? (i := 47) rfl)) (hw _ (List.mem_of_getElem? (i := 46) rfl)) (by decide) (by decide)) (g := (mkF m 9 #[.val (.ref a1), .val (.int p2)] [(.int ps), (.int p2), (.ref d)])) rfl (by rw [hml]; rfl) (argsL := [(.ref d), (.int p2), (.int ps)]) (rest := []) (lenOf pd_2 rfl) rfl (by show 2 * 0 + _ ≤ _; exact Nat.le_of_eq rfl) (hb hby d11_9) (fun _ _ => ⟨rfl, e2, (by decide : 0 + 1 ≤ _), (by decide : 0 + 4 ≤ _)⟩)
  dsimp only [Pt.U, Pt.locs, Pt.cells, Pt.slots] at X3 l3 y3 z3 st3 hQ3
  subst l3 y3 z3
  obtain ⟨b3, rfl, N3q, Kc3, sb3, nf3_0_v3⟩ := hQ3
  have N3 := Fr.app N0 N3q
  have ne_a1_b3 : a1 ≠ b3 := Nat.ne_of_lt (Nat.lt_of_lt_of_le Ex.lt sb3)
  have ne_d_b3 : d ≠ b3 := Nat.ne_of_lt (Nat.lt_of_lt_of_le V0.lt sb3)
  have g_b3 : n0 ≤ b3 := Nat.le_trans Z0 sb3
  have sz_b3 : h0.size ≤ b3 := Nat.le_trans K0.1 sb3
  have Ex_v3 := Ex.keep Kc3
  have Fd_v3 := Fd.keep Kc3 nin0
  have Fp_v3 := Fp.keep Kc3 nin0
  have V0_v3 := V0.keep Kc3 nin0
  have EX_v3 := EX.keep Kc3
  have Z3 : n0 ≤ T3.heap.size := Nat.le_trans Z0 Kc3.1
  have KK3 := K0.trans Kc3 all0
  obtain ⟨fs, hr, hrun, hended, hW, hsame⟩ := X3.leave (v := some (.ref b3)) (fun h => by rw [Bd.returns] at h; cases h)
  refine ⟨_, _, pre0 _ ?_, hrun, hended, _, _, rfl, ?_, ⟨_, rfl⟩, hW, hsame.mono (by decide) (by decide)⟩
  · show Steps p.tables e below (s₁.setTop (mkF m 0 #[.val (.ref a1), .val (.int p2)] [])) _
    refine XS.aloadN X0.here hx rfl (hb hby d11_0) rfl rfl ?_
    show Steps p.tables e below (s₁.setTop (mkF m 1 #[.val (.ref a1), .val (.int p2)] [(.ref a1)])) _
    refine st1 _ ?_
    show Steps p.tables e below (T1.setTop (mkF m 4 #[.val (.ref a1), .val (.int p2)] [(.ref d)])) _
    refine XS.iloadN X1.here hx rfl (hb hby d11_4) rfl ?_
    show Steps p.tables e below (T1.setTop (mkF m 5 #[.val (.ref a1), .val (.int p2)] [(.int p2), (.ref d)])) _
    refine XS.aloadN X1.here hx rfl (hb hby d11_5) rfl rfl ?_
    show Steps p.tables e below (T1.setTop (mkF m 6 #[.val (.ref a1), .val (.int p2)] [(.ref a1), (.int p2), (.ref d)])) _
    refine st2 _ ?_
    show Steps p.tables e below (T2.setTop (mkF m 9 #[.val (.ref a1), .val (.int p2)] [(.int ps), (.int p2), (.ref d)])) _
    refine st3 _ ?_
    show Steps p.tables e below (T3.setTop (mkF m 12 #[.val (.ref a1), .val (.int p2)] [(.ref b3)])) _
    jvm_step X3.here [X3.here.top, hx, (hb hby d11_12), X3.method', Bd.returns, Value.isRef, FieldType.isReference]
    first | (intro acts; rw [hr _ acts rfl rfl rfl]) | rw [hr _ _ rfl rfl rfl]
    exact Steps.refl _
  · show Q_rms Z a1 p2 d ps f h0 n0 _ T3.heap _
    exact ⟨b3, rfl, N3, KK3, sz_b3, nf3_0_v3⟩
def own_A (p q i : Int32) : Prop := 0 ≤ p.toInt ∧ 0 ≤ q.toInt ∧ p.toInt + q.toInt ≤ 4 ∧ 0 ≤ i.toInt
theorem own_A1 {p q i : Int32} (h : own_A p q i) (hi : i < q) : (¬ i < 0 ∧ i.toNatClampNeg < q.toNatClampNeg) ∧ (¬ (p + i) < 0 ∧ (p + i).toNatClampNeg < 4) ∧ (p + i).toNatClampNeg = p.toNatClampNeg + i.toNatClampNeg := by
  obtain ⟨h1, h2, h3, h4⟩ := h
  rw [Int32.lt_iff_toInt_lt] at hi
  have hs := c_iadd p i
  have r := rng32 (p + i)
  have n1 : ¬ i < 0 := own_neg h4
  have n2 : ¬ (p + i) < 0 := own_neg (by omega)
  have n3 : ¬ q < 0 := own_neg h2
  have n4 : ¬ p < 0 := own_neg h1
  have e1 := nat_of n1
  have e2 := nat_of n2
  have e3 := nat_of n3
  have e4 := nat_of n4
  exact ⟨⟨n1, by omega⟩, ⟨n2, by omega⟩, by omega⟩
theorem d12_0 : decode method_3_code 0 = .ok (.iload 4, 2) := by decide +kernel
theorem d12_2 : decode method_3_code 2 = .ok (.iload_n 3, 1) := by decide +kernel
theorem d12_3 : decode method_3_code 3 = .ok (.if_icmp .lt 5, 3) := by decide +kernel
theorem d12_6 : decode method_3_code 6 = .ok (.iconst 1, 1) := by decide +kernel
theorem d12_7 : decode method_3_code 7 = .ok (.ireturn, 1) := by decide +kernel
theorem d12_8 : decode method_3_code 8 = .ok (.aload_n 0, 1) := by decide +kernel
theorem d12_9 : decode method_3_code 9 = .ok (.iload 4, 2) := by decide +kernel
theorem d12_11 : decode method_3_code 11 = .ok (.baload, 1) := by decide +kernel
theorem d12_12 : decode method_3_code 12 = .ok (.aload_n 1, 1) := by decide +kernel
theorem d12_13 : decode method_3_code 13 = .ok (.iload_n 2, 1) := by decide +kernel
theorem d12_14 : decode method_3_code 14 = .ok (.iload 4, 2) := by decide +kernel
theorem d12_16 : decode method_3_code 16 = .ok (.iadd, 1) := by decide +kernel
theorem d12_17 : decode method_3_code 17 = .ok (.baload, 1) := by decide +kernel
theorem d12_18 : decode method_3_code 18 = .ok (.if_icmp .ne 7, 3) := by decide +kernel
theorem d12_21 : decode method_3_code 21 = .ok (.iconst 1, 1) := by decide +kernel
theorem d12_22 : decode method_3_code 22 = .ok (.goto 4, 3) := by decide +kernel
theorem d12_26 : decode method_3_code 26 = .ok (.ireturn, 1) := by decide +kernel
theorem pn_rma : plainName "com/example/eider/eider/encoding/ByteReaderBytesSincePinLaw" = true := by first | (simp [plainName, overriddenIn]; done) | decide +kernel
theorem ef_rma (m : MethodId) (x0 : Addr) (x1 : Addr) (x2 : Int32) (x3 : Int32) (x4 : Int32) : entryFrame m #[(.ref x0), (.ref x1), (.int x2), (.int x3), (.int x4)] 5 = mkF m 0 #[.val (.ref x0), .val (.ref x1), .val (.int x2), .val (.int x3), .val (.int x4)] [] := by first | (simp [entryFrame, mkF, argsToLocals, Value.category]; done) | rfl
def Q_rma (Z : State) (a1 : Addr) (a2 : Addr) (p3 : Int32) (p4 : Int32) (p5 : Int32) (f : Nat → Int32) (h0 : Heap) (n0 : Nat) (v : Option Value) (h : Heap) (L : List Loc) : Prop := v = some (.int 1) ∧ Fr n0 L ∧ h = h0
set_option maxRecDepth 65536 in
set_option maxHeartbeats 40000000 in
theorem rma (l : Launch) (Z : State) (a0 : Array Value) (hw : ∀ d ∈ tables_1, d.before a0 Z = true) (ws : List Jvm.Cond) (a1 : Addr) (a2 : Addr) (p3 : Int32) (p4 : Int32) (p5 : Int32) (f : Nat → Int32) (h0 : Heap) (n0 : Nat) (Z0 : n0 ≤ h0.size) (VO : ArF Z h0 a1 .byte p4.toNatClampNeg (fun i => .int (f (p3.toNatClampNeg + i)))) (VD : ArF Z h0 a2 .byte 4 (fun i => .int (f i))) (hA : own_A p3 p4 p5) :
    MetFree l (⟨"com/example/eider/eider/encoding/ByteReaderBytesSincePinLaw", "at", "([B[BIII)Z"⟩ : MethodName) (head1 (Jvm.Cond.code (⟨"com/example/eider/eider/encoding/ByteReaderBytesSincePinLaw", "at", "([B[BIII)Z"⟩ : MethodName) method_3_code 5 (some .boolean) :: ws) ({ frames := 0, cells := 0, slots := 0, locals := 0 } : Room)) (fun a U => a = #[(.ref a1), (.ref a2), (.int p3), (.int p4), (.int p5)] ∧ Z.Warmed39 U.vm ∧ U.heap = h0) (fun _ _ _ _ _ => True) (fun _ U o U' => ∃ v L, o = .returned v ∧ Q_rma Z a1 a2 p3 p4 p5 f h0 n0 v U'.heap L ∧ FrameEnd U o U' L ({ frames := 0, cells := 0, slots := 0, locals := 0 } : Room).cells ({ frames := 0, cells := 0, slots := 0, locals := 0 } : Room).slots) := by
  refine MetFree.of_bodySF (plainFor_of_name pn_rma) hisR ?_
  intro p e s m args below meth c s₁ Bd hml0 hP hK
  obtain ⟨rfl, hZ, hh⟩ := hP
  have hx := Bd.exec
  have hby := Bd.bytes
  have hml : c.maxLocals = 5 := hml0
  have hown : s.vm.findClass "com/example/eider/eider/encoding/ByteReaderBytesSincePinLaw" = some m.cls := findClass_of_methodNamed Bd.named
  have hnm := (name_of_methodNamed Bd.named Bd.method).1
  have X0 : Stand p l e ({ frames := 0, cells := 0, slots := 0, locals := 0 } : Room) s m #[(.ref a1), (.ref a2), (.int p3), (.int p4), (.int p5)] below meth c s₁ [] 0 0 := Stand.of_body Bd
  have e0 : s₁.heap = h0 := by rw [← hh, Bd.state]; rfl
  have N0 := Fr.nil n0
  have pre0 : ∀ t, Steps p.tables e below (s₁.setTop (mkF m 0 #[.val (.ref a1), .val (.ref a2), .val (.int p3), .val (.int p4), .val (.int p5)] [])) t → Steps p.tables e below (s₁.setTop (entryFrame m #[(.ref a1), (.ref a2), (.int p3), (.int p4), (.int p5)] 5)) t := fun t k => castTop (ef_rma m a1 a2 p3 p4 p5) k
  have pre1 : ∀ t, Steps p.tables e below (s₁.setTop (mkF m 3 #[.val (.ref a1), .val (.ref a2), .val (.int p3), .val (.int p4), .val (.int p5)] [(.int p4), (.int p5)])) t → Steps p.tables e below (s₁.setTop (entryFrame m #[(.ref a1), (.ref a2), (.int p3), (.int p4), (.int p5)] 5)) t := by
    intro t k
    refine pre0 t ?_
    show Steps p.tables e below (s₁.setTop (mkF m 0 #[.val (.ref a1), .val (.ref a2), .val (.int p3), .val (.int p4), .val (.int p5)] [])) _
    refine XS.iload X0.here hx rfl (hb hby d12_0) rfl ?_
    show Steps p.tables e below (s₁.setTop (mkF m 2 #[.val (.ref a1), .val (.ref a2), .val (.int p3), .val (.int p4), .val (.int p5)] [(.int p5)])) _
    refine XS.iloadN X0.here hx rfl (hb hby d12_2) rfl ?_
    exact k
  by_cases hc3_2 : p5 < p4
  · obtain ⟨cl3, Ar3, S3, H3⟩ := id VO
    have hin3 : ¬ (p5 < 0 ∨ cl3.slots.size ≤ (p5).toNatClampNeg) := inA S3 (own_A1 hA hc3_2).1.1 (own_A1 hA hc3_2).1.2
    have hat3 : cl3.slots[(p5).toNatClampNeg]? = some (.int (f (p3.toNatClampNeg + p5.toNatClampNeg))) := ArF.at S3 H3 hin3 rfl
    obtain ⟨cl4, Ar4, S4, H4⟩ := id VD
    have hin4 : ¬ ((p3 + p5) < 0 ∨ cl4.slots.size ≤ ((p3 + p5)).toNatClampNeg) := inA S4 (own_A1 hA hc3_2).2.1.1 (own_A1 hA hc3_2).2.1.2
    have hat4 : cl4.slots[((p3 + p5)).toNatClampNeg]? = some (.int (f (p3.toNatClampNeg + p5.toNatClampNeg))) := ArF.at S4 H4 hin4 (congrArg (fun k => Value.int (f k)) (own_A1 hA hc3_2).2.2)
    obtain ⟨fs, hr, hrun, hended, hW, hsame⟩ := X0.leave (v := some (.int (1 : Int32))) (fun h => by rw [Bd.returns] at h; cases h)
    refine ⟨_, _, pre1 _ ?_, hrun, hended, _, _, rfl, ?_, ⟨_, rfl⟩, hW, hsame.mono (by decide) (by decide)⟩
    · show Steps p.tables e below (s₁.setTop (mkF m 3 #[.val (.ref a1), .val (.ref a2), .val (.int p3), .val (.int p4), .val (.int p5)] [(.int p4), (.int p5)])) _
      refine XS.icmpYes X0.here hx rfl (pc0 := 3) (pc' := 8) rfl (hb hby d12_3) rfl (tlt hc3_2).1 (by decide) (by decide) ?_
      show Steps p.tables e below (s₁.setTop (mkF m 8 #[.val (.ref a1), .val (.ref a2), .val (.int p3), .val (.int p4), .val (.int p5)] [])) _
      refine XS.aloadN X0.here hx rfl (hb hby d12_8) rfl rfl ?_
      show Steps p.tables e below (s₁.setTop (mkF m 9 #[.val (.ref a1), .val (.ref a2), .val (.int p3), .val (.int p4), .val (.int p5)] [(.ref a1)])) _
      refine XS.iload X0.here hx rfl (hb hby d12_9) rfl ?_
      show Steps p.tables e below (s₁.setTop (mkF m 11 #[.val (.ref a1), .val (.ref a2), .val (.int p3), .val (.int p4), .val (.int p5)] [(.int p5), (.ref a1)])) _
      refine X0.baloadBytes hx (j := p5) (v := (.int (f (p3.toNatClampNeg + p5.toNatClampNeg)))) (by rw [e0]; exact Ar3.1) (State.isArrayOf_alike hZ.alike Ar3.2.1) Ar3.2.2 hin3 hat3 (g := (mkF m 11 #[.val (.ref a1), .val (.ref a2), .val (.int p3), .val (.int p4), .val (.int p5)] [(.int p5), (.ref a1)])) rfl rfl (hb hby d12_11) _ ?_
      show Steps p.tables e below (s₁.setTop (mkF m 12 #[.val (.ref a1), .val (.ref a2), .val (.int p3), .val (.int p4), .val (.int p5)] [(.int (f (p3.toNatClampNeg + p5.toNatClampNeg)))])) _
      refine XS.aloadN X0.here hx rfl (hb hby d12_12) rfl rfl ?_
      show Steps p.tables e below (s₁.setTop (mkF m 13 #[.val (.ref a1), .val (.ref a2), .val (.int p3), .val (.int p4), .val (.int p5)] [(.ref a2), (.int (f (p3.toNatClampNeg + p5.toNatClampNeg)))])) _
      refine XS.iloadN X0.here hx rfl (hb hby d12_13) rfl ?_
      show Steps p.tables e below (s₁.setTop (mkF m 14 #[.val (.ref a1), .val (.ref a2), .val (.int p3), .val (.int p4), .val (.int p5)] [(.int p3), (.ref a2), (.int (f (p3.toNatClampNeg + p5.toNatClampNeg)))])) _
      refine XS.iload X0.here hx rfl (hb hby d12_14) rfl ?_
      show Steps p.tables e below (s₁.setTop (mkF m 16 #[.val (.ref a1), .val (.ref a2), .val (.int p3), .val (.int p4), .val (.int p5)] [(.int p5), (.int p3), (.ref a2), (.int (f (p3.toNatClampNeg + p5.toNatClampNeg)))])) _
      refine XS.iadd X0.here hx rfl (hb hby d12_16) rfl ?_
      show Steps p.tables e below (s₁.setTop (mkF m 17 #[.val (.ref a1), .val (.ref a2), .val (.int p3), .val (.int p4), .val (.int p5)] [(.int (p3 + p5)), (.ref a2), (.int (f (p3.toNatClampNeg + p5.toNatClampNeg)))])) _
      refine X0.baloadBytes hx (j := (p3 + p5)) (v := (.int (f (p3.toNatClampNeg + p5.toNatClampNeg)))) (by rw [e0]; exact Ar4.1) (State.isArrayOf_alike hZ.alike Ar4.2.1) Ar4.2.2 hin4 hat4 (g := (mkF m 17 #[.val (.ref a1), .val (.ref a2), .val (.int p3), .val (.int p4), .val (.int p5)] [(.int (p3 + p5)), (.ref a2), (.int (f (p3.toNatClampNeg + p5.toNatClampNeg)))])) rfl rfl (hb hby d12_17) _ ?_
      show Steps p.tables e below (s₁.setTop (mkF m 18 #[.val (.ref a1), .val (.ref a2), .val (.int p3), .val (.int p4), .val (.int p5)] [(.int (f (p3.toNatClampNeg + p5.toNatClampNeg))), (.int (f (p3.toNatClampNeg + p5.toNatClampNeg)))])) _
      refine XS.icmpNo X0.here hx rfl (hb hby d12_18) rfl (teq (rfl : ((f (p3.toNatClampNeg + p5.toNatClampNeg)) = (f (p3.toNatClampNeg + p5.toNatClampNeg))))).2 ?_
      show Steps p.tables e below (s₁.setTop (mkF m 21 #[.val (.ref a1), .val (.ref a2), .val (.int p3), .val (.int p4), .val (.int p5)] [])) _
      refine XS.iconst X0.here hx rfl (hb hby d12_21) ?_
      show Steps p.tables e below (s₁.setTop (mkF m 22 #[.val (.ref a1), .val (.ref a2), .val (.int p3), .val (.int p4), .val (.int p5)] [(.int (1 : Int32))])) _
      refine XS.goto X0.here hx rfl (pc0 := 22) (pc' := 26) rfl (hb hby d12_22) (by decide) (by decide) ?_
      show Steps p.tables e below (s₁.setTop (mkF m 26 #[.val (.ref a1), .val (.ref a2), .val (.int p3), .val (.int p4), .val (.int p5)] [(.int (1 : Int32))])) _
      exact retN X0 hx (t := .boolean) Bd.returns (by simp) (hb hby d12_26) hr
    · show Q_rma Z a1 a2 p3 p4 p5 f h0 n0 _ s₁.heap _
      rw [e0]
      exact ⟨rfl, N0, rfl⟩
  · obtain ⟨fs, hr, hrun, hended, hW, hsame⟩ := X0.leave (v := some (.int (1 : Int32))) (fun h => by rw [Bd.returns] at h; cases h)
    refine ⟨_, _, pre1 _ ?_, hrun, hended, _, _, rfl, ?_, ⟨_, rfl⟩, hW, hsame.mono (by decide) (by decide)⟩
    · show Steps p.tables e below (s₁.setTop (mkF m 3 #[.val (.ref a1), .val (.ref a2), .val (.int p3), .val (.int p4), .val (.int p5)] [(.int p4), (.int p5)])) _
      refine XS.icmpNo X0.here hx rfl (hb hby d12_3) rfl (flt hc3_2).1 ?_
      show Steps p.tables e below (s₁.setTop (mkF m 6 #[.val (.ref a1), .val (.ref a2), .val (.int p3), .val (.int p4), .val (.int p5)] [])) _
      refine XS.iconst X0.here hx rfl (hb hby d12_6) ?_
      show Steps p.tables e below (s₁.setTop (mkF m 7 #[.val (.ref a1), .val (.ref a2), .val (.int p3), .val (.int p4), .val (.int p5)] [(.int (1 : Int32))])) _
      exact retN X0 hx (t := .boolean) Bd.returns (by simp) (hb hby d12_7) hr
    · show Q_rma Z a1 a2 p3 p4 p5 f h0 n0 _ s₁.heap _
      rw [e0]
      exact ⟨rfl, N0, rfl⟩
theorem d1_0 : decode prog_6_method_1_code 0 = .ok (.aload_n 0, 1) := by decide +kernel
theorem d1_1 : decode prog_6_method_1_code 1 = .ok (.invokespecial 1, 3) := by decide +kernel
theorem d1_4 : decode prog_6_method_1_code 4 = .ok (.aload_n 0, 1) := by decide +kernel
theorem d1_5 : decode prog_6_method_1_code 5 = .ok (.aload_n 1, 1) := by decide +kernel
theorem d1_6 : decode prog_6_method_1_code 6 = .ok (.putfield 7, 3) := by decide +kernel
theorem d1_9 : decode prog_6_method_1_code 9 = .ok (.aload_n 0, 1) := by decide +kernel
theorem d1_10 : decode prog_6_method_1_code 10 = .ok (.aload_n 2, 1) := by decide +kernel
theorem d1_11 : decode prog_6_method_1_code 11 = .ok (.putfield 13, 3) := by decide +kernel
theorem d1_14 : decode prog_6_method_1_code 14 = .ok (.return_, 1) := by decide +kernel
theorem pn_rmn : plainName "com/example/eider/eider/encoding/ByteReader" = true := by first | (simp [plainName, overriddenIn]; done) | decide +kernel
theorem ef_rmn (m : MethodId) (x0 : Addr) (x1 : Addr) (x2 : Addr) : entryFrame m #[(.ref x0), (.ref x1), (.ref x2)] 3 = mkF m 0 #[.val (.ref x0), .val (.ref x1), .val (.ref x2)] [] := by first | (simp [entryFrame, mkF, argsToLocals, Value.category]; done) | rfl
def Q_rmn (Z : State) (a1 : Addr) (a2 : Addr) (a3 : Addr) (h0 : Heap) (n0 : Nat) (v : Option Value) (h : Heap) (L : List Loc) : Prop := v = none ∧ Fr n0 L ∧ Keep h0 h [a1] ∧ Fld Z h a1 "com/example/eider/eider/encoding/ByteReader" "data" "[B" (.ref a2) ∧ Fld Z h a1 "com/example/eider/eider/encoding/ByteReader" "position" "I" (.int (0 : Int32))
set_option maxRecDepth 65536 in
set_option maxHeartbeats 40000000 in
theorem rmn (l : Launch) (Z : State) (a0 : Array Value) (hw : ∀ d ∈ tables_1, d.before a0 Z = true) (ws : List Jvm.Cond) (a1 : Addr) (a2 : Addr) (a3 : Addr) (h0 : Heap) (n0 : Nat) (Z0 : n0 ≤ h0.size) (Ex : Exa Z h0 a1 "com/example/eider/eider/encoding/ByteReader") (F_data : Fld Z h0 a1 "com/example/eider/eider/encoding/ByteReader" "data" "[B" .null) (F_inputName : Fld Z h0 a1 "com/example/eider/eider/encoding/ByteReader" "inputName" "Ljava/lang/String;" .null) (F_position : Fld Z h0 a1 "com/example/eider/eider/encoding/ByteReader" "position" "I" (.int (0 : Int32))) (ga : n0 ≤ a1) :
    MetFree l (⟨"com/example/eider/eider/encoding/ByteReader", "<init>", "([BLjava/lang/String;)V"⟩ : MethodName) (head1 (Jvm.Cond.code (⟨"com/example/eider/eider/encoding/ByteReader", "<init>", "([BLjava/lang/String;)V"⟩ : MethodName) prog_6_method_1_code 3 none :: ws) ({ frames := 1, cells := 0, slots := 0, locals := 12 } : Room)) (fun a U => a = #[(.ref a1), (.ref a2), (.ref a3)] ∧ Z.Warmed39 U.vm ∧ U.heap = h0) (fun _ _ _ _ _ => True) (fun _ U o U' => ∃ v L, o = .returned v ∧ Q_rmn Z a1 a2 a3 h0 n0 v U'.heap L ∧ FrameEnd U o U' L ({ frames := 1, cells := 0, slots := 0, locals := 12 } : Room).cells ({ frames := 1, cells := 0, slots := 0, locals := 12 } : Room).slots) := by
  refine MetFree.of_bodySF (plainFor_of_name pn_rmn) hisR ?_
  intro p e s m args below meth c s₁ Bd hml0 hP hK
  obtain ⟨rfl, hZ, hh⟩ := hP
  have hx := Bd.exec
  have hby := Bd.bytes
  have hml : c.maxLocals = 3 := hml0
  have hown : s.vm.findClass "com/example/eider/eider/encoding/ByteReader" = some m.cls := findClass_of_methodNamed Bd.named
  have hnm := (name_of_methodNamed Bd.named Bd.method).1
  have X0 : Stand p l e ({ frames := 1, cells := 0, slots := 0, locals := 12 } : Room) s m #[(.ref a1), (.ref a2), (.ref a3)] below meth c s₁ [] 0 0 := Stand.of_body Bd
  have e0 : s₁.heap = h0 := by rw [← hh, Bd.state]; rfl
  have N0 := Fr.nil n0
  have pre0 : ∀ t, Steps p.tables e below (s₁.setTop (mkF m 0 #[.val (.ref a1), .val (.ref a2), .val (.ref a3)] [])) t → Steps p.tables e below (s₁.setTop (entryFrame m #[(.ref a1), (.ref a2), (.ref a3)] 3)) t := fun t k => castTop (ef_rmn m a1 a2 a3) k
  have K0 := Keep.refl h0 [a1]
  obtain ⟨T1, X1, e1, st1⟩ := initO X0 hx hZ hown (hw _ (List.mem_of_getElem? (i := 15) rfl)) (hw _ (List.mem_of_getElem? (i := 16) rfl)) (hw _ (List.mem_of_getElem? (i := 17) rfl)) e0 (g := (mkF m 1 #[.val (.ref a1), .val (.ref a2), .val (.ref a3)] [(.ref a1)])) rfl (by rw [hml]; rfl) rfl (hb hby d1_1) (by decide) (W := 0) (by show 2 * 0 + _ ≤ _; exact Nat.le_of_eq rfl) (by decide)
  obtain ⟨T2, h2, X2, e2, W2, st2⟩ := putF X1 hx hZ hown (host := "") (Or.inl (hw _ (List.mem_of_getElem? (i := 18) rfl))) Via.refl e1 F_data Ex (Or.inr ⟨(hw _ (List.mem_of_getElem? (i := 19) rfl)), rfl, hnm⟩) (hw _ (List.mem_of_getElem? (i := 3) rfl)) (ty := (.array .byte)) (by decide) rfl rfl (g := (mkF m 6 #[.val (.ref a1), .val (.ref a2), .val (.ref a3)] [(.ref a2), (.ref a1)])) rfl rfl (hb hby d1_6)
  have Ex_v2 := Ex.wr W2
  have F_inputName_v2 := F_inputName.other W2 (Or.inr (slot_ne (Or.inr (hw _ (List.mem_of_getElem? (i := 21) rfl))) (Or.inr (hw _ (List.mem_of_getElem? (i := 19) rfl))) (by decide) (t := (.object "java/lang/String")) (t' := (.array .byte)) (by decide) (by decide)))
  have F_position_v2 := F_position.other W2 (Or.inr (slot_ne (Or.inl (hw _ (List.mem_of_getElem? (i := 43) rfl))) (Or.inr (hw _ (List.mem_of_getElem? (i := 19) rfl))) (by decide) (t := .int) (t' := (.array .byte)) (by decide) (by decide)))
  have Z2 : n0 ≤ h2.size := Nat.le_trans Z0 (Nat.le_of_eq W2.size.symm)
  have K2 := K0.wr W2 (Or.inl (by simp))
  have F2_v2 : Fld Z h2 a1 "com/example/eider/eider/encoding/ByteReader" "data" "[B" (.ref a2) := F_data.same W2
  have N2 := Fr.snoc X2 N0 ga
  obtain ⟨T3, h3, X3, e3, W3, st3⟩ := putF X2 hx hZ hown (host := "") (Or.inl (hw _ (List.mem_of_getElem? (i := 20) rfl))) Via.refl e2 F_inputName_v2 Ex_v2 (Or.inr ⟨(hw _ (List.mem_of_getElem? (i := 21) rfl)), rfl, hnm⟩) (hw _ (List.mem_of_getElem? (i := 3) rfl)) (ty := (.object "java/lang/String")) (by decide) rfl rfl (g := (mkF m 11 #[.val (.ref a1), .val (.ref a2), .val (.ref a3)] [(.ref a3), (.ref a1)])) rfl rfl (hb hby d1_11)
  have Ex_v3 := Ex_v2.wr W3
  have F_position_v3 := F_position_v2.other W3 (Or.inr (slot_ne (Or.inl (hw _ (List.mem_of_getElem? (i := 43) rfl))) (Or.inr (hw _ (List.mem_of_getElem? (i := 21) rfl))) (by decide) (t := .int) (t' := (.object "java/lang/String")) (by decide) (by decide)))
  have F2_v3 := F2_v2.other W3 (Or.inr (slot_ne (Or.inr (hw _ (List.mem_of_getElem? (i := 19) rfl))) (Or.inr (hw _ (List.mem_of_getElem? (i := 21) rfl))) (by decide) (t := (.array .byte)) (t' := (.object "java/lang/String")) (by decide) (by decide)))
  have Z3 : n0 ≤ h3.size := Nat.le_trans Z2 (Nat.le_of_eq W3.size.symm)
  have K3 := K2.wr W3 (Or.inl (by simp))
  have F3_v3 : Fld Z h3 a1 "com/example/eider/eider/encoding/ByteReader" "inputName" "Ljava/lang/String;" (.ref a3) := F_inputName_v2.same W3
  have N3 := Fr.snoc X3 N2 ga
  obtain ⟨fs, hr, hrun, hended, hW, hsame⟩ := X3.leave (v := none) (fun _ => rfl)
  refine ⟨_, _, pre0 _ ?_, hrun, hended, _, _, rfl, ?_, ⟨_, rfl⟩, hW, hsame.mono (by decide) (by decide)⟩
  · show Steps p.tables e below (s₁.setTop (mkF m 0 #[.val (.ref a1), .val (.ref a2), .val (.ref a3)] [])) _
    refine XS.aloadN X0.here hx rfl (hb hby d1_0) rfl rfl ?_
    show Steps p.tables e below (s₁.setTop (mkF m 1 #[.val (.ref a1), .val (.ref a2), .val (.ref a3)] [(.ref a1)])) _
    refine st1 _ ?_
    show Steps p.tables e below (T1.setTop (mkF m 4 #[.val (.ref a1), .val (.ref a2), .val (.ref a3)] [])) _
    refine XS.aloadN X1.here hx rfl (hb hby d1_4) rfl rfl ?_
    show Steps p.tables e below (T1.setTop (mkF m 5 #[.val (.ref a1), .val (.ref a2), .val (.ref a3)] [(.ref a1)])) _
    refine XS.aloadN X1.here hx rfl (hb hby d1_5) rfl rfl ?_
    show Steps p.tables e below (T1.setTop (mkF m 6 #[.val (.ref a1), .val (.ref a2), .val (.ref a3)] [(.ref a2), (.ref a1)])) _
    refine st2 _ ?_
    show Steps p.tables e below (T2.setTop (mkF m 9 #[.val (.ref a1), .val (.ref a2), .val (.ref a3)] [])) _
    refine XS.aloadN X2.here hx rfl (hb hby d1_9) rfl rfl ?_
    show Steps p.tables e below (T2.setTop (mkF m 10 #[.val (.ref a1), .val (.ref a2), .val (.ref a3)] [(.ref a1)])) _
    refine XS.aloadN X2.here hx rfl (hb hby d1_10) rfl rfl ?_
    show Steps p.tables e below (T2.setTop (mkF m 11 #[.val (.ref a1), .val (.ref a2), .val (.ref a3)] [(.ref a3), (.ref a1)])) _
    refine st3 _ ?_
    show Steps p.tables e below (T3.setTop (mkF m 14 #[.val (.ref a1), .val (.ref a2), .val (.ref a3)] [])) _
    exact X3.returnOut hx Bd.returns (hb hby d1_14) hr
  · show Q_rmn Z a1 a2 a3 h0 n0 _ T3.heap _
    rw [e3]
    exact ⟨rfl, N3, K3, F2_v3, F_position_v3⟩
def own_f (p1 : Int32) (i : Nat) : Int32 := if i = 0 then nar .byte (p1.toInt8.toInt32) else if i = 1 then nar .byte (((p1.toUInt32 >>> ((8 : Int32) &&& 31).toUInt32).toInt32).toInt8.toInt32) else if i = 2 then nar .byte (((p1.toUInt32 >>> ((16 : Int32) &&& 31).toUInt32).toInt32).toInt8.toInt32) else nar .byte (((p1.toUInt32 >>> ((24 : Int32) &&& 31).toUInt32).toInt32).toInt8.toInt32)
theorem own_hf (p1 : Int32) : ∀ i, fits .byte (.int (own_f p1 i)) = true := fun i => by
  unfold own_f
  split
  · exact fits_nar_byte _
  · split
    · exact fits_nar_byte _
    · split
      · exact fits_nar_byte _
      · exact fits_nar_byte _
theorem own_p {x y : Int32} (h : y = ((x &&& (2147483647 : Int32)) - ((x &&& (2147483647 : Int32)) / (5 : Int32)) * (5 : Int32))) : 0 ≤ y.toInt ∧ y.toInt ≤ 4 := by
  have hm := c_and x 2147483647 (by decide)
  rw [irem_eq_mod] at h
  generalize x &&& (2147483647 : Int32) = q at hm h
  have hr := (c_irem q 5 5 (by decide)).1 hm.1
  subst h
  omega
theorem own_5 {p : Int32} (h : 0 ≤ p.toInt ∧ p.toInt ≤ 4) : ((5 : Int32) - p).toInt = 5 - p.toInt := by
  have hs := c_isub 5 p
  have r := rng32 ((5 : Int32) - p)
  rw [show (5 : Int32).toInt = 5 from by decide] at hs
  omega
theorem own_nz {p : Int32} (h : 0 ≤ p.toInt ∧ p.toInt ≤ 4) : ((5 : Int32) - p) ≠ 0 := by
  intro q
  have := own_5 h
  rw [q, show (0 : Int32).toInt = 0 from by decide] at this
  omega
theorem own_q {x y p : Int32} (hp : 0 ≤ p.toInt ∧ p.toInt ≤ 4) (h : y = ((x &&& (2147483647 : Int32)) - ((x &&& (2147483647 : Int32)) / ((5 : Int32) - p)) * ((5 : Int32) - p))) : 0 ≤ y.toInt ∧ p.toInt + y.toInt ≤ 4 := by
  have hm := c_and x 2147483647 (by decide)
  rw [irem_eq_mod] at h
  generalize x &&& (2147483647 : Int32) = q at hm h
  have h5 := own_5 hp
  have hr := (c_irem q ((5 : Int32) - p) _ h5).1 hm.1
  have e1 := Int.emod_nonneg q.toInt (b := 5 - p.toInt) (by omega)
  have e2 := Int.emod_lt_of_pos q.toInt (b := 5 - p.toInt) (by omega)
  subst h
  omega
theorem own_pos {p q : Int32} (hp : 0 ≤ p.toInt ∧ p.toInt ≤ 4) (hq : 0 ≤ q.toInt ∧ p.toInt + q.toInt ≤ 4) : own_S (0 : Int32) p ∧ own_S ((0 : Int32) + p) q ∧ own_R p (((0 : Int32) + p) + q) ∧ (((0 : Int32) + p) + q) - p = q := by
  have e0 : (0 : Int32) + p = p := Int32.zero_add p
  rw [e0]
  have hs := c_iadd p q
  have r := rng32 (p + q)
  refine ⟨⟨by decide, hp.1, by rw [show (0 : Int32).toInt = 0 from by decide]; omega⟩, ⟨hp.1, hq.1, hq.2⟩, ⟨hp.1, by omega, by omega⟩, ?_⟩
  rw [Int32.add_comm, Int32.add_sub_cancel]
theorem pn_rm0 : plainName "com/example/eider/eider/encoding/ByteReaderBytesSincePinLaw" = true := by first | (simp [plainName, overriddenIn]; done) | decide +kernel
theorem ef_rm0 (m : MethodId) (x0 : Int32) (x1 : Int32) (x2 : Int32) : entryFrame m #[(.int x0), (.int x1), (.int x2)] maxLocals = mkF m 0 #[.val (.int x0), .val (.int x1), .val (.int x2), .unset, .unset, .unset, .unset, .unset] [] := by first | (simp [entryFrame, mkF, argsToLocals, Value.category, maxLocals]; done) | rfl
def Q_rm0 (Z : State) (p1 : Int32) (p2 : Int32) (p3 : Int32) (h0 : Heap) (n0 : Nat) (v : Option Value) (h : Heap) (L : List Loc) : Prop := v = some (.int 1) ∧ Fr n0 L
set_option maxRecDepth 65536 in
set_option maxHeartbeats 40000000 in
theorem rm0 (l : Launch) (Z : State) (a0 : Array Value) (hw : ∀ d ∈ tables_1, d.before a0 Z = true) (ws : List Jvm.Cond) (p1 : Int32) (p2 : Int32) (p3 : Int32) (h0 : Heap) (n0 : Nat) (Z0 : n0 ≤ h0.size) :
    MetFree l x (head1 (Jvm.Cond.code x code maxLocals ret :: ws) room_1) (fun a U => a = #[(.int p1), (.int p2), (.int p3)] ∧ Z.Warmed39 U.vm ∧ U.heap = h0) (fun _ _ _ _ _ => True) (fun _ U o U' => ∃ v L, o = .returned v ∧ Q_rm0 Z p1 p2 p3 h0 n0 v U'.heap L ∧ ReturnedEndW U o U' L room_1.cells room_1.slots) := by
  refine MetFree.of_bodySF (plainFor_of_name pn_rm0) hisR ?_
  intro p e s m args below meth c s₁ Bd hml0 hP hK
  obtain ⟨rfl, hZ, hh⟩ := hP
  have hx := Bd.exec
  have hby := Bd.bytes
  have hml : c.maxLocals = 8 := hml0
  have hown : s.vm.findClass "com/example/eider/eider/encoding/ByteReaderBytesSincePinLaw" = some m.cls := findClass_of_methodNamed Bd.named
  have hnm := (name_of_methodNamed Bd.named Bd.method).1
  have X0 : Stand p l e room_1 s m #[(.int p1), (.int p2), (.int p3)] below meth c s₁ [] 0 0 := Stand.of_body Bd
  have e0 : s₁.heap = h0 := by rw [← hh, Bd.state]; rfl
  have N0 := Fr.nil n0
  have pre0 : ∀ t, Steps p.tables e below (s₁.setTop (mkF m 0 #[.val (.int p1), .val (.int p2), .val (.int p3), .unset, .unset, .unset, .unset, .unset] [])) t → Steps p.tables e below (s₁.setTop (entryFrame m #[(.int p1), (.int p2), (.int p3)] maxLocals)) t := fun t k => castTop (ef_rm0 m p1 p2 p3) k
  have hS : s.Since s.vm 0 := State.WarmedH.since (State.WarmedH.refl s) 0
  have hk : 0 ≤ h0.size := Nat.zero_le _
  obtain ⟨T1, h1, k1, X1, e1, E1, A1, EX1, st1⟩ := newPE X0 hx hZ (hw _ (List.mem_of_getElem? (i := 0) rfl)) e0 (g := (mkF m 1 #[.val (.int p1), .val (.int p2), .val (.int p3), .unset, .unset, .unset, .unset, .unset] [(.int (4 : Int32))])) rfl (hb hby at_1) rfl (by decide) (cap := 4) (by decide) (by decide) (by decide) (by decide) (ad := "[B") rfl
  obtain ⟨b1, g1⟩ : ∃ z, z = h0.size := ⟨_, rfl⟩
  rw [← g1] at A1 EX1 st1
  have g_b1 : n0 ≤ b1 := Nat.le_trans Z0 (Nat.le_of_eq g1.symm)
  have Z1 : n0 ≤ h1.size := Nat.le_trans Z0 E1.1
  have hk := Nat.le_trans hk E1.1
  have V1_v1 : ArF Z h1 b1 .byte 4 (fun _ => (.int 0)) := ArF.mk0 A1 rfl rfl
  have EXa1_v1 : Exa Z h1 b1 "[B" := EX1
  obtain ⟨cl2, Ar2, S2, H2⟩ := id V1_v1
  have hin2 : ¬ ((0 : Int32) < 0 ∨ cl2.slots.size ≤ ((0 : Int32)).toNatClampNeg) := inA S2 (by decide) (by decide)
  obtain ⟨T2, h2, X2, e2, W2, st2⟩ := stB X1 hx hZ e1 Ar2 (j := (0 : Int32)) hin2 (g := (mkF m 8 #[.val (.int p1), .val (.int p2), .val (.int p3), .val (.ref b1), .unset, .unset, .unset, .unset] [(.int (p1.toInt8.toInt32)), (.int (0 : Int32)), (.ref b1)])) rfl rfl (hb hby at_8)
  have EXa1_v2 := EXa1_v1.wr W2
  have Z2 : n0 ≤ h2.size := Nat.le_trans Z1 (Nat.le_of_eq W2.size.symm)
  have hk := Nat.le_trans hk (Nat.le_of_eq W2.size.symm)
  have V2_v2 := ArF.set Ar2 S2 H2 W2 hin2
  have N2 := Fr.snoc X2 N0 g_b1
  obtain ⟨cl3, Ar3, S3, H3⟩ := id V2_v2
  have hin3 : ¬ ((1 : Int32) < 0 ∨ cl3.slots.size ≤ ((1 : Int32)).toNatClampNeg) := inA S3 (by decide) (by decide)
  obtain ⟨T3, h3, X3, e3, W3, st3⟩ := stB X2 hx hZ e2 Ar3 (j := (1 : Int32)) hin3 (g := (mkF m 16 #[.val (.int p1), .val (.int p2), .val (.int p3), .val (.ref b1), .unset, .unset, .unset, .unset] [(.int (((p1.toUInt32 >>> ((8 : Int32) &&& 31).toUInt32).toInt32).toInt8.toInt32)), (.int (1 : Int32)), (.ref b1)])) rfl rfl (hb hby at_16)
  have EXa1_v3 := EXa1_v2.wr W3
  have Z3 : n0 ≤ h3.size := Nat.le_trans Z2 (Nat.le_of_eq W3.size.symm)
  have hk := Nat.le_trans hk (Nat.le_of_eq W3.size.symm)
  have V3_v3 := ArF.set Ar3 S3 H3 W3 hin3
  have N3 := Fr.snoc X3 N2 g_b1
  obtain ⟨cl4, Ar4, S4, H4⟩ := id V3_v3
  have hin4 : ¬ ((2 : Int32) < 0 ∨ cl4.slots.size ≤ ((2 : Int32)).toNatClampNeg) := inA S4 (by decide) (by decide)
  obtain ⟨T4, h4, X4, e4, W4, st4⟩ := stB X3 hx hZ e3 Ar4 (j := (2 : Int32)) hin4 (g := (mkF m 24 #[.val (.int p1), .val (.int p2), .val (.int p3), .val (.ref b1), .unset, .unset, .unset, .unset] [(.int (((p1.toUInt32 >>> ((16 : Int32) &&& 31).toUInt32).toInt32).toInt8.toInt32)), (.int (2 : Int32)), (.ref b1)])) rfl rfl (hb hby at_24)
  have EXa1_v4 := EXa1_v3.wr W4
  have Z4 : n0 ≤ h4.size := Nat.le_trans Z3 (Nat.le_of_eq W4.size.symm)
  have hk := Nat.le_trans hk (Nat.le_of_eq W4.size.symm)
  have V4_v4 := ArF.set Ar4 S4 H4 W4 hin4
  have N4 := Fr.snoc X4 N3 g_b1
  obtain ⟨cl5, Ar5, S5, H5⟩ := id V4_v4
  have hin5 : ¬ ((3 : Int32) < 0 ∨ cl5.slots.size ≤ ((3 : Int32)).toNatClampNeg) := inA S5 (by decide) (by decide)
  obtain ⟨T5, h5, X5, e5, W5, st5⟩ := stB X4 hx hZ e4 Ar5 (j := (3 : Int32)) hin5 (g := (mkF m 32 #[.val (.int p1), .val (.int p2), .val (.int p3), .val (.ref b1), .unset, .unset, .unset, .unset] [(.int (((p1.toUInt32 >>> ((24 : Int32) &&& 31).toUInt32).toInt32).toInt8.toInt32)), (.int (3 : Int32)), (.ref b1)])) rfl rfl (hb hby at_32)
  have EXa1_v5 := EXa1_v4.wr W5
  have Z5 : n0 ≤ h5.size := Nat.le_trans Z4 (Nat.le_of_eq W5.size.symm)
  have hk := Nat.le_trans hk (Nat.le_of_eq W5.size.symm)
  have V5_v5 := ArF.set Ar5 S5 H5 W5 hin5
  have N5 := Fr.snoc X5 N4 g_b1
  have VD_v0 : ArF Z h5 b1 .byte 4 (fun i => .int ((own_f p1) i)) := V5_v5.congr (fun i hi => by
    match i, hi with
    | 0, _ => rfl
    | 1, _ => rfl
    | 2, _ => rfl
    | 3, _ => rfl)
  have pre6 : ∀ t, Steps p.tables e below (T5.setTop (mkF m 34 #[.val (.int p1), .val (.int p2), .val (.int p3), .val (.ref b1), .unset, .unset, .unset, .unset] [(.int p2)])) t → Steps p.tables e below (s₁.setTop (entryFrame m #[(.int p1), (.int p2), (.int p3)] maxLocals)) t := by
    intro t k
    refine pre0 t ?_
    show Steps p.tables e below (s₁.setTop (mkF m 0 #[.val (.int p1), .val (.int p2), .val (.int p3), .unset, .unset, .unset, .unset, .unset] [])) _
    refine XS.iconst X0.here hx rfl (hb hby at_0) ?_
    show Steps p.tables e below (s₁.setTop (mkF m 1 #[.val (.int p1), .val (.int p2), .val (.int p3), .unset, .unset, .unset, .unset, .unset] [(.int (4 : Int32))])) _
    refine st1 _ ?_
    show Steps p.tables e below (T1.setTop (mkF m 3 #[.val (.int p1), .val (.int p2), .val (.int p3), .unset, .unset, .unset, .unset, .unset] [(.ref b1)])) _
    refine XS.astoreN X1.here hx rfl (hb hby at_3) rfl rfl (l' := #[.val (.int p1), .val (.int p2), .val (.int p3), .val (.ref b1), .unset, .unset, .unset, .unset]) rfl ?_
    show Steps p.tables e below (T1.setTop (mkF m 4 #[.val (.int p1), .val (.int p2), .val (.int p3), .val (.ref b1), .unset, .unset, .unset, .unset] [])) _
    refine XS.aloadN X1.here hx rfl (hb hby at_4) rfl rfl ?_
    show Steps p.tables e below (T1.setTop (mkF m 5 #[.val (.int p1), .val (.int p2), .val (.int p3), .val (.ref b1), .unset, .unset, .unset, .unset] [(.ref b1)])) _
    refine XS.iconst X1.here hx rfl (hb hby at_5) ?_
    show Steps p.tables e below (T1.setTop (mkF m 6 #[.val (.int p1), .val (.int p2), .val (.int p3), .val (.ref b1), .unset, .unset, .unset, .unset] [(.int (0 : Int32)), (.ref b1)])) _
    refine XS.iloadN X1.here hx rfl (hb hby at_6) rfl ?_
    show Steps p.tables e below (T1.setTop (mkF m 7 #[.val (.int p1), .val (.int p2), .val (.int p3), .val (.ref b1), .unset, .unset, .unset, .unset] [(.int p1), (.int (0 : Int32)), (.ref b1)])) _
    refine XS.i2b X1.here hx rfl (hb hby at_7) rfl ?_
    show Steps p.tables e below (T1.setTop (mkF m 8 #[.val (.int p1), .val (.int p2), .val (.int p3), .val (.ref b1), .unset, .unset, .unset, .unset] [(.int (p1.toInt8.toInt32)), (.int (0 : Int32)), (.ref b1)])) _
    refine st2 _ ?_
    show Steps p.tables e below (T2.setTop (mkF m 9 #[.val (.int p1), .val (.int p2), .val (.int p3), .val (.ref b1), .unset, .unset, .unset, .unset] [])) _
    refine XS.aloadN X2.here hx rfl (hb hby at_9) rfl rfl ?_
    show Steps p.tables e below (T2.setTop (mkF m 10 #[.val (.int p1), .val (.int p2), .val (.int p3), .val (.ref b1), .unset, .unset, .unset, .unset] [(.ref b1)])) _
    refine XS.iconst X2.here hx rfl (hb hby at_10) ?_
    show Steps p.tables e below (T2.setTop (mkF m 11 #[.val (.int p1), .val (.int p2), .val (.int p3), .val (.ref b1), .unset, .unset, .unset, .unset] [(.int (1 : Int32)), (.ref b1)])) _
    refine XS.iloadN X2.here hx rfl (hb hby at_11) rfl ?_
    show Steps p.tables e below (T2.setTop (mkF m 12 #[.val (.int p1), .val (.int p2), .val (.int p3), .val (.ref b1), .unset, .unset, .unset, .unset] [(.int p1), (.int (1 : Int32)), (.ref b1)])) _
    refine XS.bipush X2.here hx rfl (hb hby at_12) ?_
    show Steps p.tables e below (T2.setTop (mkF m 14 #[.val (.int p1), .val (.int p2), .val (.int p3), .val (.ref b1), .unset, .unset, .unset, .unset] [(.int (8 : Int32)), (.int p1), (.int (1 : Int32)), (.ref b1)])) _
    refine XS.iushr X2.here hx rfl (hb hby at_14) rfl ?_
    show Steps p.tables e below (T2.setTop (mkF m 15 #[.val (.int p1), .val (.int p2), .val (.int p3), .val (.ref b1), .unset, .unset, .unset, .unset] [(.int ((p1.toUInt32 >>> ((8 : Int32) &&& 31).toUInt32).toInt32)), (.int (1 : Int32)), (.ref b1)])) _
    refine XS.i2b X2.here hx rfl (hb hby at_15) rfl ?_
    show Steps p.tables e below (T2.setTop (mkF m 16 #[.val (.int p1), .val (.int p2), .val (.int p3), .val (.ref b1), .unset, .unset, .unset, .unset] [(.int (((p1.toUInt32 >>> ((8 : Int32) &&& 31).toUInt32).toInt32).toInt8.toInt32)), (.int (1 : Int32)), (.ref b1)])) _
    refine st3 _ ?_
    show Steps p.tables e below (T3.setTop (mkF m 17 #[.val (.int p1), .val (.int p2), .val (.int p3), .val (.ref b1), .unset, .unset, .unset, .unset] [])) _
    refine XS.aloadN X3.here hx rfl (hb hby at_17) rfl rfl ?_
    show Steps p.tables e below (T3.setTop (mkF m 18 #[.val (.int p1), .val (.int p2), .val (.int p3), .val (.ref b1), .unset, .unset, .unset, .unset] [(.ref b1)])) _
    refine XS.iconst X3.here hx rfl (hb hby at_18) ?_
    show Steps p.tables e below (T3.setTop (mkF m 19 #[.val (.int p1), .val (.int p2), .val (.int p3), .val (.ref b1), .unset, .unset, .unset, .unset] [(.int (2 : Int32)), (.ref b1)])) _
    refine XS.iloadN X3.here hx rfl (hb hby at_19) rfl ?_
    show Steps p.tables e below (T3.setTop (mkF m 20 #[.val (.int p1), .val (.int p2), .val (.int p3), .val (.ref b1), .unset, .unset, .unset, .unset] [(.int p1), (.int (2 : Int32)), (.ref b1)])) _
    refine XS.bipush X3.here hx rfl (hb hby at_20) ?_
    show Steps p.tables e below (T3.setTop (mkF m 22 #[.val (.int p1), .val (.int p2), .val (.int p3), .val (.ref b1), .unset, .unset, .unset, .unset] [(.int (16 : Int32)), (.int p1), (.int (2 : Int32)), (.ref b1)])) _
    refine XS.iushr X3.here hx rfl (hb hby at_22) rfl ?_
    show Steps p.tables e below (T3.setTop (mkF m 23 #[.val (.int p1), .val (.int p2), .val (.int p3), .val (.ref b1), .unset, .unset, .unset, .unset] [(.int ((p1.toUInt32 >>> ((16 : Int32) &&& 31).toUInt32).toInt32)), (.int (2 : Int32)), (.ref b1)])) _
    refine XS.i2b X3.here hx rfl (hb hby at_23) rfl ?_
    show Steps p.tables e below (T3.setTop (mkF m 24 #[.val (.int p1), .val (.int p2), .val (.int p3), .val (.ref b1), .unset, .unset, .unset, .unset] [(.int (((p1.toUInt32 >>> ((16 : Int32) &&& 31).toUInt32).toInt32).toInt8.toInt32)), (.int (2 : Int32)), (.ref b1)])) _
    refine st4 _ ?_
    show Steps p.tables e below (T4.setTop (mkF m 25 #[.val (.int p1), .val (.int p2), .val (.int p3), .val (.ref b1), .unset, .unset, .unset, .unset] [])) _
    refine XS.aloadN X4.here hx rfl (hb hby at_25) rfl rfl ?_
    show Steps p.tables e below (T4.setTop (mkF m 26 #[.val (.int p1), .val (.int p2), .val (.int p3), .val (.ref b1), .unset, .unset, .unset, .unset] [(.ref b1)])) _
    refine XS.iconst X4.here hx rfl (hb hby at_26) ?_
    show Steps p.tables e below (T4.setTop (mkF m 27 #[.val (.int p1), .val (.int p2), .val (.int p3), .val (.ref b1), .unset, .unset, .unset, .unset] [(.int (3 : Int32)), (.ref b1)])) _
    refine XS.iloadN X4.here hx rfl (hb hby at_27) rfl ?_
    show Steps p.tables e below (T4.setTop (mkF m 28 #[.val (.int p1), .val (.int p2), .val (.int p3), .val (.ref b1), .unset, .unset, .unset, .unset] [(.int p1), (.int (3 : Int32)), (.ref b1)])) _
    refine XS.bipush X4.here hx rfl (hb hby at_28) ?_
    show Steps p.tables e below (T4.setTop (mkF m 30 #[.val (.int p1), .val (.int p2), .val (.int p3), .val (.ref b1), .unset, .unset, .unset, .unset] [(.int (24 : Int32)), (.int p1), (.int (3 : Int32)), (.ref b1)])) _
    refine XS.iushr X4.here hx rfl (hb hby at_30) rfl ?_
    show Steps p.tables e below (T4.setTop (mkF m 31 #[.val (.int p1), .val (.int p2), .val (.int p3), .val (.ref b1), .unset, .unset, .unset, .unset] [(.int ((p1.toUInt32 >>> ((24 : Int32) &&& 31).toUInt32).toInt32)), (.int (3 : Int32)), (.ref b1)])) _
    refine XS.i2b X4.here hx rfl (hb hby at_31) rfl ?_
    show Steps p.tables e below (T4.setTop (mkF m 32 #[.val (.int p1), .val (.int p2), .val (.int p3), .val (.ref b1), .unset, .unset, .unset, .unset] [(.int (((p1.toUInt32 >>> ((24 : Int32) &&& 31).toUInt32).toInt32).toInt8.toInt32)), (.int (3 : Int32)), (.ref b1)])) _
    refine st5 _ ?_
    show Steps p.tables e below (T5.setTop (mkF m 33 #[.val (.int p1), .val (.int p2), .val (.int p3), .val (.ref b1), .unset, .unset, .unset, .unset] [])) _
    refine XS.iloadN X5.here hx rfl (hb hby at_33) rfl ?_
    exact k
  obtain ⟨y7, hy7⟩ : ∃ z : Int32, z = ((p2 &&& (2147483647 : Int32)) - ((p2 &&& (2147483647 : Int32)) / (5 : Int32)) * (5 : Int32)) := ⟨_, rfl⟩
  have hp := own_p hy7
  have pre8 : ∀ t, Steps p.tables e below (T5.setTop (mkF m 42 #[.val (.int p1), .val (.int p2), .val (.int p3), .val (.ref b1), .val (.int y7), .unset, .unset, .unset] [(.int p3)])) t → Steps p.tables e below (s₁.setTop (entryFrame m #[(.int p1), (.int p2), (.int p3)] maxLocals)) t := by
    intro t k
    refine pre6 t ?_
    show Steps p.tables e below (T5.setTop (mkF m 34 #[.val (.int p1), .val (.int p2), .val (.int p3), .val (.ref b1), .unset, .unset, .unset, .unset] [(.int p2)])) _
    refine X5.ldcInt hx hown (mvT hZ (hw _ (List.mem_of_getElem? (i := 1) rfl))) (g := (mkF m 34 #[.val (.int p1), .val (.int p2), .val (.int p3), .val (.ref b1), .unset, .unset, .unset, .unset] [(.int p2)])) rfl (hb hby at_34) _ ?_
    show Steps p.tables e below (T5.setTop (mkF m 36 #[.val (.int p1), .val (.int p2), .val (.int p3), .val (.ref b1), .unset, .unset, .unset, .unset] [(.int (2147483647 : Int32)), (.int p2)])) _
    refine XS.iand X5.here hx rfl (hb hby at_36) rfl ?_
    show Steps p.tables e below (T5.setTop (mkF m 37 #[.val (.int p1), .val (.int p2), .val (.int p3), .val (.ref b1), .unset, .unset, .unset, .unset] [(.int (p2 &&& (2147483647 : Int32)))])) _
    refine XS.iconst X5.here hx rfl (hb hby at_37) ?_
    show Steps p.tables e below (T5.setTop (mkF m 38 #[.val (.int p1), .val (.int p2), .val (.int p3), .val (.ref b1), .unset, .unset, .unset, .unset] [(.int (5 : Int32)), (.int (p2 &&& (2147483647 : Int32)))])) _
    refine XS.irem X5.here hx rfl (hb hby at_38) rfl (by decide) ?_
    show Steps p.tables e below (T5.setTop (mkF m 39 #[.val (.int p1), .val (.int p2), .val (.int p3), .val (.ref b1), .unset, .unset, .unset, .unset] [(.int ((p2 &&& (2147483647 : Int32)) - ((p2 &&& (2147483647 : Int32)) / (5 : Int32)) * (5 : Int32)))])) _
    rw [← hy7]
    refine XS.istore X5.here hx rfl (hb hby at_39) rfl (l' := #[.val (.int p1), .val (.int p2), .val (.int p3), .val (.ref b1), .val (.int y7), .unset, .unset, .unset]) rfl ?_
    show Steps p.tables e below (T5.setTop (mkF m 41 #[.val (.int p1), .val (.int p2), .val (.int p3), .val (.ref b1), .val (.int y7), .unset, .unset, .unset] [])) _
    refine XS.iloadN X5.here hx rfl (hb hby at_41) rfl ?_
    exact k
  obtain ⟨y9, hy9⟩ : ∃ z : Int32, z = ((p3 &&& (2147483647 : Int32)) - ((p3 &&& (2147483647 : Int32)) / ((5 : Int32) - y7)) * ((5 : Int32) - y7)) := ⟨_, rfl⟩
  have hq := own_q hp hy9
  obtain ⟨hs1, hs2, hs3, hs4⟩ := own_pos hp hq
  obtain ⟨T10, h10, X10, e10, E10, A10, D10, -, st10⟩ := newO X5 hx hZ hown (hw _ (List.mem_of_getElem? (i := 2) rfl)) (hw _ (List.mem_of_getElem? (i := 3) rfl)) (hw _ (List.mem_of_getElem? (i := 4) rfl)) e5 (g := (mkF m 52 #[.val (.int p1), .val (.int p2), .val (.int p3), .val (.ref b1), .val (.int y7), .val (.int y9), .unset, .unset] [])) rfl (hb hby at_52) (by decide) (by decide)
  obtain ⟨b10, g10⟩ : ∃ z, z = h5.size := ⟨_, rfl⟩
  rw [← g10] at A10 D10 st10
  have ne_b1_b10 : b1 ≠ b10 := Nat.ne_of_lt (Nat.lt_of_lt_of_le EXa1_v5.lt (Nat.le_of_eq g10.symm))
  have g_b10 : n0 ≤ b10 := Nat.le_trans Z5 (Nat.le_of_eq g10.symm)
  have EXa1_v10 := EXa1_v5.ext E10
  have VD_v10 := VD_v0.ext E10
  have Z10 : n0 ≤ h10.size := Nat.le_trans Z5 E10.1
  have hk := Nat.le_trans hk E10.1
  have Ex10_v10 : Exa Z h10 b10 "com/example/eider/eider/encoding/ByteReader" := A10
  have F10data_v10 : Fld Z h10 b10 "com/example/eider/eider/encoding/ByteReader" "data" "[B" .null := D10 (Or.inr (hw _ (List.mem_of_getElem? (i := 19) rfl))) (ty := (.array .byte)) (by decide)
  have F10inputName_v10 : Fld Z h10 b10 "com/example/eider/eider/encoding/ByteReader" "inputName" "Ljava/lang/String;" .null := D10 (Or.inr (hw _ (List.mem_of_getElem? (i := 21) rfl))) (ty := (.object "java/lang/String")) (by decide)
  have F10position_v10 : Fld Z h10 b10 "com/example/eider/eider/encoding/ByteReader" "position" "I" (.int (0 : Int32)) := D10 (Or.inl (hw _ (List.mem_of_getElem? (i := 43) rfl))) (ty := .int) (by decide)
  have pre11 : ∀ t, Steps p.tables e below (T10.setTop (mkF m 57 #[.val (.int p1), .val (.int p2), .val (.int p3), .val (.ref b1), .val (.int y7), .val (.int y9), .unset, .unset] [(.ref b1), (.ref b10), (.ref b10)])) t → Steps p.tables e below (s₁.setTop (entryFrame m #[(.int p1), (.int p2), (.int p3)] maxLocals)) t := by
    intro t k
    refine pre8 t ?_
    show Steps p.tables e below (T5.setTop (mkF m 42 #[.val (.int p1), .val (.int p2), .val (.int p3), .val (.ref b1), .val (.int y7), .unset, .unset, .unset] [(.int p3)])) _
    refine X5.ldcInt hx hown (mvT hZ (hw _ (List.mem_of_getElem? (i := 1) rfl))) (g := (mkF m 42 #[.val (.int p1), .val (.int p2), .val (.int p3), .val (.ref b1), .val (.int y7), .unset, .unset, .unset] [(.int p3)])) rfl (hb hby at_42) _ ?_
    show Steps p.tables e below (T5.setTop (mkF m 44 #[.val (.int p1), .val (.int p2), .val (.int p3), .val (.ref b1), .val (.int y7), .unset, .unset, .unset] [(.int (2147483647 : Int32)), (.int p3)])) _
    refine XS.iand X5.here hx rfl (hb hby at_44) rfl ?_
    show Steps p.tables e below (T5.setTop (mkF m 45 #[.val (.int p1), .val (.int p2), .val (.int p3), .val (.ref b1), .val (.int y7), .unset, .unset, .unset] [(.int (p3 &&& (2147483647 : Int32)))])) _
    refine XS.iconst X5.here hx rfl (hb hby at_45) ?_
    show Steps p.tables e below (T5.setTop (mkF m 46 #[.val (.int p1), .val (.int p2), .val (.int p3), .val (.ref b1), .val (.int y7), .unset, .unset, .unset] [(.int (5 : Int32)), (.int (p3 &&& (2147483647 : Int32)))])) _
    refine XS.iload X5.here hx rfl (hb hby at_46) rfl ?_
    show Steps p.tables e below (T5.setTop (mkF m 48 #[.val (.int p1), .val (.int p2), .val (.int p3), .val (.ref b1), .val (.int y7), .unset, .unset, .unset] [(.int y7), (.int (5 : Int32)), (.int (p3 &&& (2147483647 : Int32)))])) _
    refine XS.isub X5.here hx rfl (hb hby at_48) rfl ?_
    show Steps p.tables e below (T5.setTop (mkF m 49 #[.val (.int p1), .val (.int p2), .val (.int p3), .val (.ref b1), .val (.int y7), .unset, .unset, .unset] [(.int ((5 : Int32) - y7)), (.int (p3 &&& (2147483647 : Int32)))])) _
    refine XS.irem X5.here hx rfl (hb hby at_49) rfl (own_nz hp) ?_
    show Steps p.tables e below (T5.setTop (mkF m 50 #[.val (.int p1), .val (.int p2), .val (.int p3), .val (.ref b1), .val (.int y7), .unset, .unset, .unset] [(.int ((p3 &&& (2147483647 : Int32)) - ((p3 &&& (2147483647 : Int32)) / ((5 : Int32) - y7)) * ((5 : Int32) - y7)))])) _
    rw [← hy9]
    refine XS.istore X5.here hx rfl (hb hby at_50) rfl (l' := #[.val (.int p1), .val (.int p2), .val (.int p3), .val (.ref b1), .val (.int y7), .val (.int y9), .unset, .unset]) rfl ?_
    show Steps p.tables e below (T5.setTop (mkF m 52 #[.val (.int p1), .val (.int p2), .val (.int p3), .val (.ref b1), .val (.int y7), .val (.int y9), .unset, .unset] [])) _
    refine st10 _ ?_
    show Steps p.tables e below (T10.setTop (mkF m 55 #[.val (.int p1), .val (.int p2), .val (.int p3), .val (.ref b1), .val (.int y7), .val (.int y9), .unset, .unset] [(.ref b10)])) _
    refine XS.dup X10.here hx rfl (hb hby at_55) rfl rfl ?_
    show Steps p.tables e below (T10.setTop (mkF m 56 #[.val (.int p1), .val (.int p2), .val (.int p3), .val (.ref b1), .val (.int y7), .val (.int y9), .unset, .unset] [(.ref b10), (.ref b10)])) _
    refine XS.aloadN X10.here hx rfl (hb hby at_56) rfl rfl ?_
    exact k
  obtain ⟨b12, T12, h12, k12, X12, e12, E12, hS, hk, hZ, hown, st12⟩ := ldcS (s := s) (vm0 := s.vm) X10 hx hZ hown (hw _ (List.mem_of_getElem? (i := 5) rfl)) (own_sAtoms hw) e10 hS hk (g := (mkF m 57 #[.val (.int p1), .val (.int p2), .val (.int p3), .val (.ref b1), .val (.int y7), .val (.int y9), .unset, .unset] [(.ref b1), (.ref b10), (.ref b10)])) rfl (hb hby at_57) (n := 8) (by decide) (by decide) (by decide) (by decide)
  have EXa1_v12 := EXa1_v10.ext E12
  have VD_v12 := VD_v10.ext E12
  have Ex10_v12 := Ex10_v10.ext E12
  have F10data_v12 := F10data_v10.ext E12
  have F10inputName_v12 := F10inputName_v10.ext E12
  have F10position_v12 := F10position_v10.ext E12
  have Z12 : n0 ≤ h12.size := Nat.le_trans Z10 E12.1
  have pre13 : ∀ t, Steps p.tables e below (T12.setTop (mkF m 59 #[.val (.int p1), .val (.int p2), .val (.int p3), .val (.ref b1), .val (.int y7), .val (.int y9), .unset, .unset] [(.ref b12), (.ref b1), (.ref b10), (.ref b10)])) t → Steps p.tables e below (s₁.setTop (entryFrame m #[(.int p1), (.int p2), (.int p3)] maxLocals)) t := by
    intro t k
    refine pre11 t ?_
    show Steps p.tables e below (T10.setTop (mkF m 57 #[.val (.int p1), .val (.int p2), .val (.int p3), .val (.ref b1), .val (.int y7), .val (.int y9), .unset, .unset] [(.ref b1), (.ref b10), (.ref b10)])) _
    refine st12 _ ?_
    exact k
  obtain ⟨_, _, ⟨T14, L14, k14, n14⟩, -, X14, ⟨Lc14, hQ14, l14, y14, z14⟩, st14⟩ := X12.specialBack hx (y := (⟨"com/example/eider/eider/encoding/ByteReader", "<init>", "([BLjava/lang/String;)V"⟩ : MethodName)) rfl hown (mvT hZ (hw _ (List.mem_of_getElem? (i := 12) rfl))) (mvT hZ (hw _ (List.mem_of_getElem? (i := 13) rfl))) (mvT hZ (hw _ (List.mem_of_getElem? (i := 14) rfl))) (by decide) (backOf (W := 1) (rmn l Z a0 hw [] b10 b1 b12 h12 n0 Z12 Ex10_v12 F10data_v12 F10inputName_v12 F10position_v12 g_b10) hZ (hw _ (List.mem_of_getElem? (i := 14) rfl)) (hw _ (List.mem_of_getElem? (i := 4) rfl)) (by decide) (by decide)) (g := (mkF m 59 #[.val (.int p1), .val (.int p2), .val (.int p3), .val (.ref b1), .val (.int y7), .val (.int y9), .unset, .unset] [(.ref b12), (.ref b1), (.ref b10), (.ref b10)])) rfl (by rw [hml]; rfl) (Steps.refl _) (a := b10) (argsL := [(.ref b1), (.ref b12)]) (rest := [(.ref b10)]) (lenOf pd_6 rfl) rfl (by show 2 * 0 + _ ≤ _; exact Nat.le_of_eq rfl) (hb hby at_59) (fun _ _ => ⟨rfl, e12, (by decide : 4 + 0 ≤ _), (by decide : 19 + 0 ≤ _)⟩)
  dsimp only [Pt.U, Pt.locs, Pt.cells, Pt.slots] at X14 l14 y14 z14 st14 hQ14
  subst l14 y14 z14
  obtain ⟨rfl, N14q, Kc14, nf14_0_v14, nf14_1_v14⟩ := hQ14
  have N14 := Fr.app N5 N14q
  have EXa1_v14 := EXa1_v12.keep Kc14
  have VD_v14 := VD_v12.keep Kc14 (ninS ne_b1_b10 nin0)
  have Ex10_v14 := Ex10_v12.keep Kc14
  have Z14 : n0 ≤ T14.heap.size := Nat.le_trans Z12 Kc14.1
  have hk := Nat.le_trans hk Kc14.1
  have pre15 : ∀ t, Steps p.tables e below (T14.setTop (mkF m 68 #[.val (.int p1), .val (.int p2), .val (.int p3), .val (.ref b1), .val (.int y7), .val (.int y9), .val (.ref b10), .unset] [(.int y7), (.ref b10)])) t → Steps p.tables e below (s₁.setTop (entryFrame m #[(.int p1), (.int p2), (.int p3)] maxLocals)) t := by
    intro t k
    refine pre13 t ?_
    show Steps p.tables e below (T12.setTop (mkF m 59 #[.val (.int p1), .val (.int p2), .val (.int p3), .val (.ref b1), .val (.int y7), .val (.int y9), .unset, .unset] [(.ref b12), (.ref b1), (.ref b10), (.ref b10)])) _
    refine st14.trans ?_
    show Steps p.tables e below (T14.setTop (mkF m 62 #[.val (.int p1), .val (.int p2), .val (.int p3), .val (.ref b1), .val (.int y7), .val (.int y9), .unset, .unset] [(.ref b10)])) _
    refine XS.astore X14.here hx rfl (hb hby at_62) rfl rfl (l' := #[.val (.int p1), .val (.int p2), .val (.int p3), .val (.ref b1), .val (.int y7), .val (.int y9), .val (.ref b10), .unset]) rfl ?_
    show Steps p.tables e below (T14.setTop (mkF m 64 #[.val (.int p1), .val (.int p2), .val (.int p3), .val (.ref b1), .val (.int y7), .val (.int y9), .val (.ref b10), .unset] [])) _
    refine XS.aload X14.here hx rfl (hb hby at_64) rfl rfl ?_
    show Steps p.tables e below (T14.setTop (mkF m 66 #[.val (.int p1), .val (.int p2), .val (.int p3), .val (.ref b1), .val (.int y7), .val (.int y9), .val (.ref b10), .unset] [(.ref b10)])) _
    refine XS.iload X14.here hx rfl (hb hby at_66) rfl ?_
    exact k
  obtain ⟨b16, T16, h16, k16, X16, e16, E16, hS, hk, hZ, hown, st16⟩ := ldcS (s := s) (vm0 := T12.vm) X14 hx hZ hown (hw _ (List.mem_of_getElem? (i := 22) rfl)) (own_sAtoms hw) rfl hS hk (g := (mkF m 68 #[.val (.int p1), .val (.int p2), .val (.int p3), .val (.ref b1), .val (.int y7), .val (.int y9), .val (.ref b10), .unset] [(.int y7), (.ref b10)])) rfl (hb hby at_68) (n := 4) (by decide) (by decide) (by decide) (by decide)
  have EXa1_v16 := EXa1_v14.ext E16
  have VD_v16 := VD_v14.ext E16
  have Ex10_v16 := Ex10_v14.ext E16
  have nf14_0_v16 := nf14_0_v14.ext E16
  have nf14_1_v16 := nf14_1_v14.ext E16
  have Z16 : n0 ≤ h16.size := Nat.le_trans Z14 E16.1
  have pre17 : ∀ t, Steps p.tables e below (T16.setTop (mkF m 70 #[.val (.int p1), .val (.int p2), .val (.int p3), .val (.ref b1), .val (.int y7), .val (.int y9), .val (.ref b10), .unset] [(.ref b16), (.int y7), (.ref b10)])) t → Steps p.tables e below (s₁.setTop (entryFrame m #[(.int p1), (.int p2), (.int p3)] maxLocals)) t := by
    intro t k
    refine pre15 t ?_
    show Steps p.tables e below (T14.setTop (mkF m 68 #[.val (.int p1), .val (.int p2), .val (.int p3), .val (.ref b1), .val (.int y7), .val (.int y9), .val (.ref b10), .unset] [(.int y7), (.ref b10)])) _
    refine st16 _ ?_
    exact k
  obtain ⟨cq18, kq18, q18a, q18b, q18c⟩ := isOf hZ e16 Ex10_v16
  obtain ⟨_, _, ⟨T18, L18, k18, n18⟩, -, X18, hs18, gr18, ⟨Lc18, hQ18, l18, y18, z18⟩, st18⟩ := X16.virtualBackS hx (y := (⟨"com/example/eider/eider/encoding/ByteReader", "bytes", "(ILjava/lang/String;)[B"⟩ : MethodName)) (z := (⟨"com/example/eider/eider/encoding/ByteReader", "bytes", "(ILjava/lang/String;)[B"⟩ : MethodName)) hown (mvT hZ (hw _ (List.mem_of_getElem? (i := 23) rfl))) (mvT hZ (hw _ (List.mem_of_getElem? (i := 24) rfl))) (notFace_of_selects (args := #[]) (mvT hZ (hw _ (List.mem_of_getElem? (i := 26) rfl)))) (mvT hZ (hw _ (List.mem_of_getElem? (i := 26) rfl))) (mvT hZ (hw _ (List.mem_of_getElem? (i := 25) rfl))) (by decide) (backOfS (W := 0) (rmy l Z a0 hw [] b10 y7 b16 b1 (0 : Int32) (own_f p1) h16 n0 Z16 Ex10_v16 nf14_0_v16 nf14_1_v16 VD_v16 EXa1_v16 (own_hf p1) hs1 g_b10 (Ne.symm ne_b1_b10)) hZ (hw _ (List.mem_of_getElem? (i := 27) rfl)) (hw _ (List.mem_of_getElem? (i := 4) rfl)) (by decide) (by decide)) q18a q18c (g := (mkF m 70 #[.val (.int p1), .val (.int p2), .val (.int p3), .val (.ref b1), .val (.int y7), .val (.int y9), .val (.ref b10), .unset] [(.ref b16), (.int y7), (.ref b10)])) rfl (by rw [hml]; rfl) (Steps.refl _) (argsL := [(.int y7), (.ref b16)]) (rest := []) (lenOf pd_7 rfl) rfl (by show 2 * 0 + _ ≤ _; exact Nat.le_of_eq rfl) (hb hby at_70) (fun _ _ => ⟨rfl, e16, (by decide : 6 + 3 ≤ _), (by decide : 27 + 8 ≤ _)⟩)
  dsimp only [Pt.U, Pt.locs, Pt.cells, Pt.slots] at X18 l18 y18 z18 st18 hQ18 hs18 gr18
  subst l18 y18 z18
  have hown := own_fc hs18 hown
  have hZ : Z.Warmed39 (s.setVm T18.vm).vm := State.Warmed39.trans (t := s.setVm T16.vm) hZ hs18.1
  have hS : s.Since T18.vm T18.heap.size := hS.trans (show (s.setVm T16.vm).Since T18.vm T18.heap.size from hs18) (Nat.le_trans (e16 ▸ hk) gr18)
  have X18 : Stand p l e room_1 (s.setVm T18.vm) m #[(.int p1), (.int p2), (.int p3)] below meth c T18 _ _ _ := X18
  obtain ⟨b18, rfl, N18q, Kc18, sb18, nf18_0_v18, nf18_1_v18⟩ := hQ18
  have N18 := Fr.app N14 N18q
  have EXa1_v18 := EXa1_v16.keep Kc18
  have VD_v18 := VD_v16.keep Kc18 (ninS ne_b1_b10 nin0)
  have Ex10_v18 := Ex10_v16.keep Kc18
  have Z18 : n0 ≤ T18.heap.size := Nat.le_trans Z16 Kc18.1
  have hk := Nat.le_trans hk Kc18.1
  have hk : T18.heap.size ≤ T18.heap.size := Nat.le_refl _
  have pre19 : ∀ t, Steps p.tables e below (T18.setTop (mkF m 78 #[.val (.int p1), .val (.int p2), .val (.int p3), .val (.ref b1), .val (.int y7), .val (.int y9), .val (.ref b10), .unset] [(.int y9), (.ref b10)])) t → Steps p.tables e below (s₁.setTop (entryFrame m #[(.int p1), (.int p2), (.int p3)] maxLocals)) t := by
    intro t k
    refine pre17 t ?_
    show Steps p.tables e below (T16.setTop (mkF m 70 #[.val (.int p1), .val (.int p2), .val (.int p3), .val (.ref b1), .val (.int y7), .val (.int y9), .val (.ref b10), .unset] [(.ref b16), (.int y7), (.ref b10)])) _
    refine st18.trans ?_
    show Steps p.tables e below (T18.setTop (mkF m 73 #[.val (.int p1), .val (.int p2), .val (.int p3), .val (.ref b1), .val (.int y7), .val (.int y9), .val (.ref b10), .unset] [(.ref b18)])) _
    refine XS.pop X18.here hx rfl (hb hby at_73) rfl rfl ?_
    show Steps p.tables e below (T18.setTop (mkF m 74 #[.val (.int p1), .val (.int p2), .val (.int p3), .val (.ref b1), .val (.int y7), .val (.int y9), .val (.ref b10), .unset] [])) _
    refine XS.aload X18.here hx rfl (hb hby at_74) rfl rfl ?_
    show Steps p.tables e below (T18.setTop (mkF m 76 #[.val (.int p1), .val (.int p2), .val (.int p3), .val (.ref b1), .val (.int y7), .val (.int y9), .val (.ref b10), .unset] [(.ref b10)])) _
    refine XS.iload X18.here hx rfl (hb hby at_76) rfl ?_
    exact k
  obtain ⟨b20, T20, h20, k20, X20, e20, E20, hS, hk, hZ, hown, st20⟩ := ldcS (s := s) (vm0 := T18.vm) X18 hx hZ hown (hw _ (List.mem_of_getElem? (i := 62) rfl)) (own_sAtoms hw) rfl hS hk (g := (mkF m 78 #[.val (.int p1), .val (.int p2), .val (.int p3), .val (.ref b1), .val (.int y7), .val (.int y9), .val (.ref b10), .unset] [(.int y9), (.ref b10)])) rfl (hb hby at_78) (n := 4) (by decide) (by decide) (by decide) (by decide)
  have EXa1_v20 := EXa1_v18.ext E20
  have VD_v20 := VD_v18.ext E20
  have Ex10_v20 := Ex10_v18.ext E20
  have nf18_0_v20 := nf18_0_v18.ext E20
  have nf18_1_v20 := nf18_1_v18.ext E20
  have Z20 : n0 ≤ h20.size := Nat.le_trans Z18 E20.1
  have pre21 : ∀ t, Steps p.tables e below (T20.setTop (mkF m 80 #[.val (.int p1), .val (.int p2), .val (.int p3), .val (.ref b1), .val (.int y7), .val (.int y9), .val (.ref b10), .unset] [(.ref b20), (.int y9), (.ref b10)])) t → Steps p.tables e below (s₁.setTop (entryFrame m #[(.int p1), (.int p2), (.int p3)] maxLocals)) t := by
    intro t k
    refine pre19 t ?_
    show Steps p.tables e below (T18.setTop (mkF m 78 #[.val (.int p1), .val (.int p2), .val (.int p3), .val (.ref b1), .val (.int y7), .val (.int y9), .val (.ref b10), .unset] [(.int y9), (.ref b10)])) _
    refine st20 _ ?_
    exact k
  obtain ⟨cq22, kq22, q22a, q22b, q22c⟩ := isOf hZ e20 Ex10_v20
  obtain ⟨_, _, ⟨T22, L22, k22, n22⟩, -, X22, hs22, gr22, ⟨Lc22, hQ22, l22, y22, z22⟩, st22⟩ := X20.virtualBackS hx (y := (⟨"com/example/eider/eider/encoding/ByteReader", "bytes", "(ILjava/lang/String;)[B"⟩ : MethodName)) (z := (⟨"com/example/eider/eider/encoding/ByteReader", "bytes", "(ILjava/lang/String;)[B"⟩ : MethodName)) hown (mvT hZ (hw _ (List.mem_of_getElem? (i := 23) rfl))) (mvT hZ (hw _ (List.mem_of_getElem? (i := 24) rfl))) (notFace_of_selects (args := #[]) (mvT hZ (hw _ (List.mem_of_getElem? (i := 26) rfl)))) (mvT hZ (hw _ (List.mem_of_getElem? (i := 26) rfl))) (mvT hZ (hw _ (List.mem_of_getElem? (i := 25) rfl))) (by decide) (backOfS (W := 0) (rmy l Z a0 hw [] b10 y9 b20 b1 ((0 : Int32) + y7) (own_f p1) h20 n0 Z20 Ex10_v20 nf18_0_v20 nf18_1_v20 VD_v20 EXa1_v20 (own_hf p1) hs2 g_b10 (Ne.symm ne_b1_b10)) hZ (hw _ (List.mem_of_getElem? (i := 27) rfl)) (hw _ (List.mem_of_getElem? (i := 4) rfl)) (by decide) (by decide)) q22a q22c (g := (mkF m 80 #[.val (.int p1), .val (.int p2), .val (.int p3), .val (.ref b1), .val (.int y7), .val (.int y9), .val (.ref b10), .unset] [(.ref b20), (.int y9), (.ref b10)])) rfl (by rw [hml]; rfl) (Steps.refl _) (argsL := [(.int y9), (.ref b20)]) (rest := []) (lenOf pd_7 rfl) rfl (by show 2 * 0 + _ ≤ _; exact Nat.le_of_eq rfl) (hb hby at_80) (fun _ _ => ⟨rfl, e20, (by decide : 11 + 3 ≤ _), (by decide : 43 + 8 ≤ _)⟩)
  dsimp only [Pt.U, Pt.locs, Pt.cells, Pt.slots] at X22 l22 y22 z22 st22 hQ22 hs22 gr22
  subst l22 y22 z22
  have hown := own_fc hs22 hown
  have hZ : Z.Warmed39 (s.setVm T22.vm).vm := State.Warmed39.trans (t := s.setVm T20.vm) hZ hs22.1
  have hS : s.Since T22.vm T22.heap.size := hS.trans (show (s.setVm T20.vm).Since T22.vm T22.heap.size from hs22) (Nat.le_trans (e20 ▸ hk) gr22)
  have X22 : Stand p l e room_1 (s.setVm T22.vm) m #[(.int p1), (.int p2), (.int p3)] below meth c T22 _ _ _ := X22
  obtain ⟨b22, rfl, N22q, Kc22, sb22, nf22_0_v22, nf22_1_v22⟩ := hQ22
  have N22 := Fr.app N18 N22q
  have EXa1_v22 := EXa1_v20.keep Kc22
  have VD_v22 := VD_v20.keep Kc22 (ninS ne_b1_b10 nin0)
  have Ex10_v22 := Ex10_v20.keep Kc22
  have Z22 : n0 ≤ T22.heap.size := Nat.le_trans Z20 Kc22.1
  have hk := Nat.le_trans hk Kc22.1
  have hk : T22.heap.size ≤ T22.heap.size := Nat.le_refl _
  have pre23 : ∀ t, Steps p.tables e below (T22.setTop (mkF m 88 #[.val (.int p1), .val (.int p2), .val (.int p3), .val (.ref b1), .val (.int y7), .val (.int y9), .val (.ref b10), .unset] [(.int y7), (.ref b10)])) t → Steps p.tables e below (s₁.setTop (entryFrame m #[(.int p1), (.int p2), (.int p3)] maxLocals)) t := by
    intro t k
    refine pre21 t ?_
    show Steps p.tables e below (T20.setTop (mkF m 80 #[.val (.int p1), .val (.int p2), .val (.int p3), .val (.ref b1), .val (.int y7), .val (.int y9), .val (.ref b10), .unset] [(.ref b20), (.int y9), (.ref b10)])) _
    refine st22.trans ?_
    show Steps p.tables e below (T22.setTop (mkF m 83 #[.val (.int p1), .val (.int p2), .val (.int p3), .val (.ref b1), .val (.int y7), .val (.int y9), .val (.ref b10), .unset] [(.ref b22)])) _
    refine XS.pop X22.here hx rfl (hb hby at_83) rfl rfl ?_
    show Steps p.tables e below (T22.setTop (mkF m 84 #[.val (.int p1), .val (.int p2), .val (.int p3), .val (.ref b1), .val (.int y7), .val (.int y9), .val (.ref b10), .unset] [])) _
    refine XS.aload X22.here hx rfl (hb hby at_84) rfl rfl ?_
    show Steps p.tables e below (T22.setTop (mkF m 86 #[.val (.int p1), .val (.int p2), .val (.int p3), .val (.ref b1), .val (.int y7), .val (.int y9), .val (.ref b10), .unset] [(.ref b10)])) _
    refine XS.iload X22.here hx rfl (hb hby at_86) rfl ?_
    exact k
  obtain ⟨cq24, kq24, q24a, q24b, q24c⟩ := isOf hZ rfl Ex10_v22
  obtain ⟨_, _, ⟨T24, L24, k24, n24⟩, -, X24, ⟨Lc24, hQ24, l24, y24, z24⟩, st24⟩ := X22.virtualBack hx (y := (⟨"com/example/eider/eider/encoding/ByteReader", "bytesSince", "(I)[B"⟩ : MethodName)) (z := (⟨"com/example/eider/eider/encoding/ByteReader", "bytesSince", "(I)[B"⟩ : MethodName)) hown (mvT hZ (hw _ (List.mem_of_getElem? (i := 63) rfl))) (mvT hZ (hw _ (List.mem_of_getElem? (i := 64) rfl))) (notFace_of_selects (args := #[]) (mvT hZ (hw _ (List.mem_of_getElem? (i := 66) rfl)))) (mvT hZ (hw _ (List.mem_of_getElem? (i := 66) rfl))) (mvT hZ (hw _ (List.mem_of_getElem? (i := 65) rfl))) (by decide) (backOf (W := 0) (rms l Z a0 hw [] b10 y7 b1 (((0 : Int32) + y7) + y9) (own_f p1) T22.heap n0 Z22 Ex10_v22 nf22_0_v22 nf22_1_v22 VD_v22 EXa1_v22 (own_hf p1) hs3) hZ (hw _ (List.mem_of_getElem? (i := 67) rfl)) (hw _ (List.mem_of_getElem? (i := 4) rfl)) (by decide) (by decide)) q24a q24c (g := (mkF m 88 #[.val (.int p1), .val (.int p2), .val (.int p3), .val (.ref b1), .val (.int y7), .val (.int y9), .val (.ref b10), .unset] [(.int y7), (.ref b10)])) rfl (by rw [hml]; rfl) (Steps.refl _) (argsL := [(.int y7)]) (rest := []) (lenOf pd_8 rfl) rfl (by show 2 * 0 + _ ≤ _; exact Nat.le_of_eq rfl) (hb hby at_88) (fun _ _ => ⟨rfl, rfl, (by decide : 14 + 1 ≤ _), (by decide : 51 + 4 ≤ _)⟩)
  dsimp only [Pt.U, Pt.locs, Pt.cells, Pt.slots] at X24 l24 y24 z24 st24 hQ24
  subst l24 y24 z24
  obtain ⟨b24, rfl, N24q, Kc24, sb24, nf24_v24⟩ := hQ24
  have N24 := Fr.app N22 N24q
  have ne_b1_b24 : b1 ≠ b24 := Nat.ne_of_lt (Nat.lt_of_lt_of_le VD_v22.lt sb24)
  have EXa1_v24 := EXa1_v22.keep Kc24
  have VD_v24 := VD_v22.keep Kc24 nin0
  have Ex10_v24 := Ex10_v22.keep Kc24
  have nf22_0_v24 := nf22_0_v22.keep Kc24 nin0
  have nf22_1_v24 := nf22_1_v22.keep Kc24 nin0
  have Z24 : n0 ≤ T24.heap.size := Nat.le_trans Z22 Kc24.1
  have hk := Nat.le_trans hk Kc24.1
  rw [hs4] at nf24_v24
  obtain ⟨cl25, Ar25, S25, H25⟩ := id nf24_v24
  have pre26 : ∀ t, Steps p.tables e below (T24.setTop (mkF m 124 #[.val (.int p1), .val (.int p2), .val (.int p3), .val (.ref b1), .val (.int y7), .val (.int y9), .val (.ref b10), .val (.ref b24)] [(.int (0 : Int32)), (.int y9), (.int y7), (.ref b1), (.ref b24)])) t → Steps p.tables e below (s₁.setTop (entryFrame m #[(.int p1), (.int p2), (.int p3)] maxLocals)) t := by
    intro t k
    refine pre23 t ?_
    show Steps p.tables e below (T22.setTop (mkF m 88 #[.val (.int p1), .val (.int p2), .val (.int p3), .val (.ref b1), .val (.int y7), .val (.int y9), .val (.ref b10), .unset] [(.int y7), (.ref b10)])) _
    refine st24.trans ?_
    show Steps p.tables e below (T24.setTop (mkF m 91 #[.val (.int p1), .val (.int p2), .val (.int p3), .val (.ref b1), .val (.int y7), .val (.int y9), .val (.ref b10), .unset] [(.ref b24)])) _
    refine XS.astore X24.here hx rfl (hb hby at_91) rfl rfl (l' := #[.val (.int p1), .val (.int p2), .val (.int p3), .val (.ref b1), .val (.int y7), .val (.int y9), .val (.ref b10), .val (.ref b24)]) rfl ?_
    show Steps p.tables e below (T24.setTop (mkF m 93 #[.val (.int p1), .val (.int p2), .val (.int p3), .val (.ref b1), .val (.int y7), .val (.int y9), .val (.ref b10), .val (.ref b24)] [])) _
    refine XS.aload X24.here hx rfl (hb hby at_93) rfl rfl ?_
    show Steps p.tables e below (T24.setTop (mkF m 95 #[.val (.int p1), .val (.int p2), .val (.int p3), .val (.ref b1), .val (.int y7), .val (.int y9), .val (.ref b10), .val (.ref b24)] [(.ref b24)])) _
    refine XS.ifnullNo X24.here hx rfl (hb hby at_95) rfl ?_
    show Steps p.tables e below (T24.setTop (mkF m 98 #[.val (.int p1), .val (.int p2), .val (.int p3), .val (.ref b1), .val (.int y7), .val (.int y9), .val (.ref b10), .val (.ref b24)] [])) _
    refine XS.aload X24.here hx rfl (hb hby at_98) rfl rfl ?_
    show Steps p.tables e below (T24.setTop (mkF m 100 #[.val (.int p1), .val (.int p2), .val (.int p3), .val (.ref b1), .val (.int y7), .val (.int y9), .val (.ref b10), .val (.ref b24)] [(.ref b24)])) _
    refine XS.aloadN X24.here hx rfl (hb hby at_100) rfl rfl ?_
    show Steps p.tables e below (T24.setTop (mkF m 101 #[.val (.int p1), .val (.int p2), .val (.int p3), .val (.ref b1), .val (.int y7), .val (.int y9), .val (.ref b10), .val (.ref b24)] [(.ref b1), (.ref b24)])) _
    refine Jvm.RoadKit.acmp (g := (mkF m 101 #[.val (.int p1), .val (.int p2), .val (.int p3), .val (.ref b1), .val (.int y7), .val (.int y9), .val (.ref b10), .val (.ref b24)] [(.ref b1), (.ref b24)])) X24 hx rfl rfl rfl (pc0 := 101) (pc' := 106) (same := false) rfl (hb hby at_101) rfl (decide_eq_false fun q => (Ne.symm ne_b1_b24) (Value.ref.inj q)) (by decide) (by decide) ?_
    show Steps p.tables e below (T24.setTop (mkF m 106 #[.val (.int p1), .val (.int p2), .val (.int p3), .val (.ref b1), .val (.int y7), .val (.int y9), .val (.ref b10), .val (.ref b24)] [])) _
    refine XS.aload X24.here hx rfl (hb hby at_106) rfl rfl ?_
    show Steps p.tables e below (T24.setTop (mkF m 108 #[.val (.int p1), .val (.int p2), .val (.int p3), .val (.ref b1), .val (.int y7), .val (.int y9), .val (.ref b10), .val (.ref b24)] [(.ref b24)])) _
    refine X24.arraylength hx Ar25.1 (State.isArrayOf_alike hZ.alike Ar25.2.1) (g := (mkF m 108 #[.val (.int p1), .val (.int p2), .val (.int p3), .val (.ref b1), .val (.int y7), .val (.int y9), .val (.ref b10), .val (.ref b24)] [(.ref b24)])) rfl rfl (hb hby at_108) _ ?_
    rw [show cl25.slots.size.toInt32 = y9 from by rw [S25]; exact (back32 (own_neg hq.1)).1]
    show Steps p.tables e below (T24.setTop (mkF m 109 #[.val (.int p1), .val (.int p2), .val (.int p3), .val (.ref b1), .val (.int y7), .val (.int y9), .val (.ref b10), .val (.ref b24)] [(.int y9)])) _
    refine XS.iload X24.here hx rfl (hb hby at_109) rfl ?_
    show Steps p.tables e below (T24.setTop (mkF m 111 #[.val (.int p1), .val (.int p2), .val (.int p3), .val (.ref b1), .val (.int y7), .val (.int y9), .val (.ref b10), .val (.ref b24)] [(.int y9), (.int y9)])) _
    refine XS.icmpYes X24.here hx rfl (pc0 := 111) (pc' := 116) rfl (hb hby at_111) rfl (teq (rfl : (y9 = y9))).1 (by decide) (by decide) ?_
    show Steps p.tables e below (T24.setTop (mkF m 116 #[.val (.int p1), .val (.int p2), .val (.int p3), .val (.ref b1), .val (.int y7), .val (.int y9), .val (.ref b10), .val (.ref b24)] [])) _
    refine XS.aload X24.here hx rfl (hb hby at_116) rfl rfl ?_
    show Steps p.tables e below (T24.setTop (mkF m 118 #[.val (.int p1), .val (.int p2), .val (.int p3), .val (.ref b1), .val (.int y7), .val (.int y9), .val (.ref b10), .val (.ref b24)] [(.ref b24)])) _
    refine XS.aloadN X24.here hx rfl (hb hby at_118) rfl rfl ?_
    show Steps p.tables e below (T24.setTop (mkF m 119 #[.val (.int p1), .val (.int p2), .val (.int p3), .val (.ref b1), .val (.int y7), .val (.int y9), .val (.ref b10), .val (.ref b24)] [(.ref b1), (.ref b24)])) _
    refine XS.iload X24.here hx rfl (hb hby at_119) rfl ?_
    show Steps p.tables e below (T24.setTop (mkF m 121 #[.val (.int p1), .val (.int p2), .val (.int p3), .val (.ref b1), .val (.int y7), .val (.int y9), .val (.ref b10), .val (.ref b24)] [(.int y7), (.ref b1), (.ref b24)])) _
    refine XS.iload X24.here hx rfl (hb hby at_121) rfl ?_
    show Steps p.tables e below (T24.setTop (mkF m 123 #[.val (.int p1), .val (.int p2), .val (.int p3), .val (.ref b1), .val (.int y7), .val (.int y9), .val (.ref b10), .val (.ref b24)] [(.int y9), (.int y7), (.ref b1), (.ref b24)])) _
    refine XS.iconst X24.here hx rfl (hb hby at_123) ?_
    exact k
  obtain ⟨_, _, ⟨T27, L27, k27, n27⟩, -, X27, ⟨Lc27, hQ27, l27, y27, z27⟩, st27⟩ := Jvm.LawKit.callS X24 hx (y := (⟨"com/example/eider/eider/encoding/ByteReaderBytesSincePinLaw", "at", "([B[BIII)Z"⟩ : MethodName)) hown (mvT hZ (hw _ (List.mem_of_getElem? (i := 68) rfl))) (mvT hZ (hw _ (List.mem_of_getElem? (i := 69) rfl))) (mvT hZ (hw _ (List.mem_of_getElem? (i := 70) rfl))) (mvT hZ (hw _ (List.mem_of_getElem? (i := 71) rfl))) (by decide) (backOf (W := 0) (rma l Z a0 hw [] b24 b1 y7 y9 (0 : Int32) (own_f p1) T24.heap n0 Z24 nf24_v24 VD_v24 ⟨hp.1, hq.1, hq.2, (by decide)⟩) hZ (hw _ (List.mem_of_getElem? (i := 71) rfl)) (hw _ (List.mem_of_getElem? (i := 70) rfl)) (by decide) (by decide)) (g := (mkF m 124 #[.val (.int p1), .val (.int p2), .val (.int p3), .val (.ref b1), .val (.int y7), .val (.int y9), .val (.ref b10), .val (.ref b24)] [(.int (0 : Int32)), (.int y9), (.int y7), (.ref b1), (.ref b24)])) rfl (by rw [hml]; rfl) (argsL := [(.ref b24), (.ref b1), (.int y7), (.int y9), (.int (0 : Int32))]) (rest := []) (lenOf pd_9 rfl) rfl (by show 2 * 0 + _ ≤ _; exact Nat.le_of_eq rfl) (hb hby at_124) (fun _ _ => ⟨rfl, rfl, (by decide : 15 + 0 ≤ _), (by decide : 55 + 0 ≤ _)⟩)
  dsimp only [Pt.U, Pt.locs, Pt.cells, Pt.slots] at X27 l27 y27 z27 st27 hQ27
  subst l27 y27 z27
  obtain ⟨rfl, N27q, e27⟩ := hQ27
  have N27 := Fr.app N24 N27q
  have pre28 : ∀ t, Steps p.tables e below (T27.setTop (mkF m 138 #[.val (.int p1), .val (.int p2), .val (.int p3), .val (.ref b1), .val (.int y7), .val (.int y9), .val (.ref b10), .val (.ref b24)] [(.int (1 : Int32)), (.int y9), (.int y7), (.ref b1), (.ref b24)])) t → Steps p.tables e below (s₁.setTop (entryFrame m #[(.int p1), (.int p2), (.int p3)] maxLocals)) t := by
    intro t k
    refine pre26 t ?_
    show Steps p.tables e below (T24.setTop (mkF m 124 #[.val (.int p1), .val (.int p2), .val (.int p3), .val (.ref b1), .val (.int y7), .val (.int y9), .val (.ref b10), .val (.ref b24)] [(.int (0 : Int32)), (.int y9), (.int y7), (.ref b1), (.ref b24)])) _
    refine st27 _ ?_
    show Steps p.tables e below (T27.setTop (mkF m 127 #[.val (.int p1), .val (.int p2), .val (.int p3), .val (.ref b1), .val (.int y7), .val (.int y9), .val (.ref b10), .val (.ref b24)] [(.int (1 : Int32))])) _
    refine XS.ifNo X27.here hx rfl (hb hby at_127) rfl ((if0 _ _).trans (feq (by decide : ¬ ((1 : Int32) = (0 : Int32)))).1) ?_
    show Steps p.tables e below (T27.setTop (mkF m 130 #[.val (.int p1), .val (.int p2), .val (.int p3), .val (.ref b1), .val (.int y7), .val (.int y9), .val (.ref b10), .val (.ref b24)] [])) _
    refine XS.aload X27.here hx rfl (hb hby at_130) rfl rfl ?_
    show Steps p.tables e below (T27.setTop (mkF m 132 #[.val (.int p1), .val (.int p2), .val (.int p3), .val (.ref b1), .val (.int y7), .val (.int y9), .val (.ref b10), .val (.ref b24)] [(.ref b24)])) _
    refine XS.aloadN X27.here hx rfl (hb hby at_132) rfl rfl ?_
    show Steps p.tables e below (T27.setTop (mkF m 133 #[.val (.int p1), .val (.int p2), .val (.int p3), .val (.ref b1), .val (.int y7), .val (.int y9), .val (.ref b10), .val (.ref b24)] [(.ref b1), (.ref b24)])) _
    refine XS.iload X27.here hx rfl (hb hby at_133) rfl ?_
    show Steps p.tables e below (T27.setTop (mkF m 135 #[.val (.int p1), .val (.int p2), .val (.int p3), .val (.ref b1), .val (.int y7), .val (.int y9), .val (.ref b10), .val (.ref b24)] [(.int y7), (.ref b1), (.ref b24)])) _
    refine XS.iload X27.here hx rfl (hb hby at_135) rfl ?_
    show Steps p.tables e below (T27.setTop (mkF m 137 #[.val (.int p1), .val (.int p2), .val (.int p3), .val (.ref b1), .val (.int y7), .val (.int y9), .val (.ref b10), .val (.ref b24)] [(.int y9), (.int y7), (.ref b1), (.ref b24)])) _
    refine XS.iconst X27.here hx rfl (hb hby at_137) ?_
    exact k
  obtain ⟨_, _, ⟨T29, L29, k29, n29⟩, -, X29, ⟨Lc29, hQ29, l29, y29, z29⟩, st29⟩ := Jvm.LawKit.callS X27 hx (y := (⟨"com/example/eider/eider/encoding/ByteReaderBytesSincePinLaw", "at", "([B[BIII)Z"⟩ : MethodName)) hown (mvT hZ (hw _ (List.mem_of_getElem? (i := 68) rfl))) (mvT hZ (hw _ (List.mem_of_getElem? (i := 69) rfl))) (mvT hZ (hw _ (List.mem_of_getElem? (i := 70) rfl))) (mvT hZ (hw _ (List.mem_of_getElem? (i := 71) rfl))) (by decide) (backOf (W := 0) (rma l Z a0 hw [] b24 b1 y7 y9 (1 : Int32) (own_f p1) T24.heap n0 Z24 nf24_v24 VD_v24 ⟨hp.1, hq.1, hq.2, (by decide)⟩) hZ (hw _ (List.mem_of_getElem? (i := 71) rfl)) (hw _ (List.mem_of_getElem? (i := 70) rfl)) (by decide) (by decide)) (g := (mkF m 138 #[.val (.int p1), .val (.int p2), .val (.int p3), .val (.ref b1), .val (.int y7), .val (.int y9), .val (.ref b10), .val (.ref b24)] [(.int (1 : Int32)), (.int y9), (.int y7), (.ref b1), (.ref b24)])) rfl (by rw [hml]; rfl) (argsL := [(.ref b24), (.ref b1), (.int y7), (.int y9), (.int (1 : Int32))]) (rest := []) (lenOf pd_9 rfl) rfl (by show 2 * 0 + _ ≤ _; exact Nat.le_of_eq rfl) (hb hby at_138) (fun _ _ => ⟨rfl, e27, (by decide : 15 + 0 ≤ _), (by decide : 55 + 0 ≤ _)⟩)
  dsimp only [Pt.U, Pt.locs, Pt.cells, Pt.slots] at X29 l29 y29 z29 st29 hQ29
  subst l29 y29 z29
  obtain ⟨rfl, N29q, e29⟩ := hQ29
  have N29 := Fr.app N27 N29q
  have pre30 : ∀ t, Steps p.tables e below (T29.setTop (mkF m 152 #[.val (.int p1), .val (.int p2), .val (.int p3), .val (.ref b1), .val (.int y7), .val (.int y9), .val (.ref b10), .val (.ref b24)] [(.int (2 : Int32)), (.int y9), (.int y7), (.ref b1), (.ref b24)])) t → Steps p.tables e below (s₁.setTop (entryFrame m #[(.int p1), (.int p2), (.int p3)] maxLocals)) t := by
    intro t k
    refine pre28 t ?_
    show Steps p.tables e below (T27.setTop (mkF m 138 #[.val (.int p1), .val (.int p2), .val (.int p3), .val (.ref b1), .val (.int y7), .val (.int y9), .val (.ref b10), .val (.ref b24)] [(.int (1 : Int32)), (.int y9), (.int y7), (.ref b1), (.ref b24)])) _
    refine st29 _ ?_
    show Steps p.tables e below (T29.setTop (mkF m 141 #[.val (.int p1), .val (.int p2), .val (.int p3), .val (.ref b1), .val (.int y7), .val (.int y9), .val (.ref b10), .val (.ref b24)] [(.int (1 : Int32))])) _
    refine XS.ifNo X29.here hx rfl (hb hby at_141) rfl ((if0 _ _).trans (feq (by decide : ¬ ((1 : Int32) = (0 : Int32)))).1) ?_
    show Steps p.tables e below (T29.setTop (mkF m 144 #[.val (.int p1), .val (.int p2), .val (.int p3), .val (.ref b1), .val (.int y7), .val (.int y9), .val (.ref b10), .val (.ref b24)] [])) _
    refine XS.aload X29.here hx rfl (hb hby at_144) rfl rfl ?_
    show Steps p.tables e below (T29.setTop (mkF m 146 #[.val (.int p1), .val (.int p2), .val (.int p3), .val (.ref b1), .val (.int y7), .val (.int y9), .val (.ref b10), .val (.ref b24)] [(.ref b24)])) _
    refine XS.aloadN X29.here hx rfl (hb hby at_146) rfl rfl ?_
    show Steps p.tables e below (T29.setTop (mkF m 147 #[.val (.int p1), .val (.int p2), .val (.int p3), .val (.ref b1), .val (.int y7), .val (.int y9), .val (.ref b10), .val (.ref b24)] [(.ref b1), (.ref b24)])) _
    refine XS.iload X29.here hx rfl (hb hby at_147) rfl ?_
    show Steps p.tables e below (T29.setTop (mkF m 149 #[.val (.int p1), .val (.int p2), .val (.int p3), .val (.ref b1), .val (.int y7), .val (.int y9), .val (.ref b10), .val (.ref b24)] [(.int y7), (.ref b1), (.ref b24)])) _
    refine XS.iload X29.here hx rfl (hb hby at_149) rfl ?_
    show Steps p.tables e below (T29.setTop (mkF m 151 #[.val (.int p1), .val (.int p2), .val (.int p3), .val (.ref b1), .val (.int y7), .val (.int y9), .val (.ref b10), .val (.ref b24)] [(.int y9), (.int y7), (.ref b1), (.ref b24)])) _
    refine XS.iconst X29.here hx rfl (hb hby at_151) ?_
    exact k
  obtain ⟨_, _, ⟨T31, L31, k31, n31⟩, -, X31, ⟨Lc31, hQ31, l31, y31, z31⟩, st31⟩ := Jvm.LawKit.callS X29 hx (y := (⟨"com/example/eider/eider/encoding/ByteReaderBytesSincePinLaw", "at", "([B[BIII)Z"⟩ : MethodName)) hown (mvT hZ (hw _ (List.mem_of_getElem? (i := 68) rfl))) (mvT hZ (hw _ (List.mem_of_getElem? (i := 69) rfl))) (mvT hZ (hw _ (List.mem_of_getElem? (i := 70) rfl))) (mvT hZ (hw _ (List.mem_of_getElem? (i := 71) rfl))) (by decide) (backOf (W := 0) (rma l Z a0 hw [] b24 b1 y7 y9 (2 : Int32) (own_f p1) T24.heap n0 Z24 nf24_v24 VD_v24 ⟨hp.1, hq.1, hq.2, (by decide)⟩) hZ (hw _ (List.mem_of_getElem? (i := 71) rfl)) (hw _ (List.mem_of_getElem? (i := 70) rfl)) (by decide) (by decide)) (g := (mkF m 152 #[.val (.int p1), .val (.int p2), .val (.int p3), .val (.ref b1), .val (.int y7), .val (.int y9), .val (.ref b10), .val (.ref b24)] [(.int (2 : Int32)), (.int y9), (.int y7), (.ref b1), (.ref b24)])) rfl (by rw [hml]; rfl) (argsL := [(.ref b24), (.ref b1), (.int y7), (.int y9), (.int (2 : Int32))]) (rest := []) (lenOf pd_9 rfl) rfl (by show 2 * 0 + _ ≤ _; exact Nat.le_of_eq rfl) (hb hby at_152) (fun _ _ => ⟨rfl, e29, (by decide : 15 + 0 ≤ _), (by decide : 55 + 0 ≤ _)⟩)
  dsimp only [Pt.U, Pt.locs, Pt.cells, Pt.slots] at X31 l31 y31 z31 st31 hQ31
  subst l31 y31 z31
  obtain ⟨rfl, N31q, e31⟩ := hQ31
  have N31 := Fr.app N29 N31q
  have pre32 : ∀ t, Steps p.tables e below (T31.setTop (mkF m 166 #[.val (.int p1), .val (.int p2), .val (.int p3), .val (.ref b1), .val (.int y7), .val (.int y9), .val (.ref b10), .val (.ref b24)] [(.int (3 : Int32)), (.int y9), (.int y7), (.ref b1), (.ref b24)])) t → Steps p.tables e below (s₁.setTop (entryFrame m #[(.int p1), (.int p2), (.int p3)] maxLocals)) t := by
    intro t k
    refine pre30 t ?_
    show Steps p.tables e below (T29.setTop (mkF m 152 #[.val (.int p1), .val (.int p2), .val (.int p3), .val (.ref b1), .val (.int y7), .val (.int y9), .val (.ref b10), .val (.ref b24)] [(.int (2 : Int32)), (.int y9), (.int y7), (.ref b1), (.ref b24)])) _
    refine st31 _ ?_
    show Steps p.tables e below (T31.setTop (mkF m 155 #[.val (.int p1), .val (.int p2), .val (.int p3), .val (.ref b1), .val (.int y7), .val (.int y9), .val (.ref b10), .val (.ref b24)] [(.int (1 : Int32))])) _
    refine XS.ifNo X31.here hx rfl (hb hby at_155) rfl ((if0 _ _).trans (feq (by decide : ¬ ((1 : Int32) = (0 : Int32)))).1) ?_
    show Steps p.tables e below (T31.setTop (mkF m 158 #[.val (.int p1), .val (.int p2), .val (.int p3), .val (.ref b1), .val (.int y7), .val (.int y9), .val (.ref b10), .val (.ref b24)] [])) _
    refine XS.aload X31.here hx rfl (hb hby at_158) rfl rfl ?_
    show Steps p.tables e below (T31.setTop (mkF m 160 #[.val (.int p1), .val (.int p2), .val (.int p3), .val (.ref b1), .val (.int y7), .val (.int y9), .val (.ref b10), .val (.ref b24)] [(.ref b24)])) _
    refine XS.aloadN X31.here hx rfl (hb hby at_160) rfl rfl ?_
    show Steps p.tables e below (T31.setTop (mkF m 161 #[.val (.int p1), .val (.int p2), .val (.int p3), .val (.ref b1), .val (.int y7), .val (.int y9), .val (.ref b10), .val (.ref b24)] [(.ref b1), (.ref b24)])) _
    refine XS.iload X31.here hx rfl (hb hby at_161) rfl ?_
    show Steps p.tables e below (T31.setTop (mkF m 163 #[.val (.int p1), .val (.int p2), .val (.int p3), .val (.ref b1), .val (.int y7), .val (.int y9), .val (.ref b10), .val (.ref b24)] [(.int y7), (.ref b1), (.ref b24)])) _
    refine XS.iload X31.here hx rfl (hb hby at_163) rfl ?_
    show Steps p.tables e below (T31.setTop (mkF m 165 #[.val (.int p1), .val (.int p2), .val (.int p3), .val (.ref b1), .val (.int y7), .val (.int y9), .val (.ref b10), .val (.ref b24)] [(.int y9), (.int y7), (.ref b1), (.ref b24)])) _
    refine XS.iconst X31.here hx rfl (hb hby at_165) ?_
    exact k
  obtain ⟨_, _, ⟨T33, L33, k33, n33⟩, -, X33, ⟨Lc33, hQ33, l33, y33, z33⟩, st33⟩ := Jvm.LawKit.callS X31 hx (y := (⟨"com/example/eider/eider/encoding/ByteReaderBytesSincePinLaw", "at", "([B[BIII)Z"⟩ : MethodName)) hown (mvT hZ (hw _ (List.mem_of_getElem? (i := 68) rfl))) (mvT hZ (hw _ (List.mem_of_getElem? (i := 69) rfl))) (mvT hZ (hw _ (List.mem_of_getElem? (i := 70) rfl))) (mvT hZ (hw _ (List.mem_of_getElem? (i := 71) rfl))) (by decide) (backOf (W := 0) (rma l Z a0 hw [] b24 b1 y7 y9 (3 : Int32) (own_f p1) T24.heap n0 Z24 nf24_v24 VD_v24 ⟨hp.1, hq.1, hq.2, (by decide)⟩) hZ (hw _ (List.mem_of_getElem? (i := 71) rfl)) (hw _ (List.mem_of_getElem? (i := 70) rfl)) (by decide) (by decide)) (g := (mkF m 166 #[.val (.int p1), .val (.int p2), .val (.int p3), .val (.ref b1), .val (.int y7), .val (.int y9), .val (.ref b10), .val (.ref b24)] [(.int (3 : Int32)), (.int y9), (.int y7), (.ref b1), (.ref b24)])) rfl (by rw [hml]; rfl) (argsL := [(.ref b24), (.ref b1), (.int y7), (.int y9), (.int (3 : Int32))]) (rest := []) (lenOf pd_9 rfl) rfl (by show 2 * 0 + _ ≤ _; exact Nat.le_of_eq rfl) (hb hby at_166) (fun _ _ => ⟨rfl, e31, (by decide : 15 + 0 ≤ _), (by decide : 55 + 0 ≤ _)⟩)
  dsimp only [Pt.U, Pt.locs, Pt.cells, Pt.slots] at X33 l33 y33 z33 st33 hQ33
  subst l33 y33 z33
  obtain ⟨rfl, N33q, e33⟩ := hQ33
  have N33 := Fr.app N31 N33q
  obtain ⟨fs, hr, hrun, hended, hRW⟩ := X33.leaveW hS (by rw [e33]; exact hk) (v := some (.int (1 : Int32))) (fun h => by rw [Bd.returns] at h; cases h)
  refine ⟨_, _, pre32 _ ?_, hrun, hended, _, _, rfl, ?_, hRW.1, hRW.2.1, hRW.2.2.1, hRW.2.2.2.mono (by decide) (by decide)⟩
  · show Steps p.tables e below (T31.setTop (mkF m 166 #[.val (.int p1), .val (.int p2), .val (.int p3), .val (.ref b1), .val (.int y7), .val (.int y9), .val (.ref b10), .val (.ref b24)] [(.int (3 : Int32)), (.int y9), (.int y7), (.ref b1), (.ref b24)])) _
    refine st33 _ ?_
    show Steps p.tables e below (T33.setTop (mkF m 169 #[.val (.int p1), .val (.int p2), .val (.int p3), .val (.ref b1), .val (.int y7), .val (.int y9), .val (.ref b10), .val (.ref b24)] [(.int (1 : Int32))])) _
    refine XS.ifNo X33.here hx rfl (hb hby at_169) rfl ((if0 _ _).trans (feq (by decide : ¬ ((1 : Int32) = (0 : Int32)))).1) ?_
    show Steps p.tables e below (T33.setTop (mkF m 172 #[.val (.int p1), .val (.int p2), .val (.int p3), .val (.ref b1), .val (.int y7), .val (.int y9), .val (.ref b10), .val (.ref b24)] [])) _
    refine XS.iconst X33.here hx rfl (hb hby at_172) ?_
    show Steps p.tables e below (T33.setTop (mkF m 173 #[.val (.int p1), .val (.int p2), .val (.int p3), .val (.ref b1), .val (.int y7), .val (.int y9), .val (.ref b10), .val (.ref b24)] [(.int (1 : Int32))])) _
    refine XS.goto X33.here hx rfl (pc0 := 173) (pc' := 177) rfl (hb hby at_173) (by decide) (by decide) ?_
    show Steps p.tables e below (T33.setTop (mkF m 177 #[.val (.int p1), .val (.int p2), .val (.int p3), .val (.ref b1), .val (.int y7), .val (.int y9), .val (.ref b10), .val (.ref b24)] [(.int (1 : Int32))])) _
    exact retN X33 hx (t := .boolean) Bd.returns (by simp) (hb hby at_177) hr
  · show Q_rm0 Z p1 p2 p3 h0 n0 _ T33.heap _
    rw [e33]
    exact ⟨rfl, N33⟩
set_option maxRecDepth 65536 in
set_option maxHeartbeats 40000000 in
theorem comes_1 {Post : Tables → Env → Array Value → State → Outcome → State → Prop} (hpost : ∀ tb e args s v u, (limb_1_1.after args s (.returned v) u = true ∧ limb_1_2.after args s (.returned v) u = true ∧ True) → ReturnedEndW s (.returned v) u (Jvm.fieldLocs frame_1_writes args s ++ Jvm.arrayLocs frame_1_arrays args s ++ Jvm.staticLocs frame_1_statics s) 32 4224 → Post tb e args s (.returned v) u) :
    ArmFor flags0 classFile x code maxLocals ret World_1 tables_1 room_1 Calls_1 rest_1 Pre_1 Post := by
  intro l hfl _ _ p e ha hc hk s m args below hf hA hF happ hP
  obtain ⟨hcalls, hrest, hpre⟩ := hP
  obtain ⟨-, -, -, hnamed, -, -, -, hat⟩ := (Spec.applies_iff hf).mp happ
  obtain ⟨hg, hn⟩ := and_e (Cond.before_iff.mp (show (Jvm.Cond.and given_1 narrow_1).before args s = true from hpre))
  obtain ⟨g0, gr0⟩ := and_e hg
  obtain ⟨ga0, gr1⟩ := and_e gr0
  obtain ⟨ga1, gr2⟩ := and_e gr1
  obtain ⟨w0, w1, w2, rfl⟩ : ∃ w0 w1 w2 : Value, args = #[w0, w1, w2] := by
    have hs : args.size = 3 := by simpa [Cond.value, given_1] using g0
    obtain ⟨L⟩ := args
    match L, hs with
    | [w0, w1, w2], _ => exact ⟨w0, w1, w2, rfl⟩
  have hw := fun d (hd : d ∈ tables_1) => atoms_spec (ws := Jvm.Cond.code x code maxLocals ret :: tables_1) hat d (List.mem_cons_of_mem _ hd)
  have hfit : Fit s := fun {y c} hc i hi => by
    obtain ⟨ha, rfl⟩ := Array.getElem?_eq_some_iff.mp hc
    have q := List.all_eq_true.mp ((Array.all_eq_true_iff_forall_mem.mp hF) _ (Array.getElem_mem ha)) i (List.mem_range.mpr hi)
    simpa [Array.getElem?_eq_getElem hi] using q
  obtain ⟨i0, ei0⟩ := is_v ga0
  obtain rfl : w0 = (.int i0) := Option.some.inj ei0
  obtain ⟨i1, ei1⟩ := is_v ga1
  obtain rfl : w1 = (.int i1) := Option.some.inj ei1
  obtain ⟨i2, ei2⟩ := is_v gr2
  obtain rfl : w2 = (.int i2) := Option.some.inj ei2
  obtain ⟨n, o, h1, h2, h3, _, L, rfl, ⟨rfl, N⟩, hq⟩ := rm0 l s _ hw tables_1 i0 i1 i2 s.heap s.heap.size (Nat.le_refl _) p e ha hc hk s m _ below hf ((Spec.applies_iff_loose hf).mp happ).1 ⟨rfl, State.Warmed39.refl s, rfl⟩ trivial
  refine ⟨n, _, h1, h2, h3, hpost _ _ _ _ _ _ ⟨Cond.after_iff.mpr rfl, Cond.after_iff.mpr (eq_i res_at (Term.int_eval (1)) rfl), trivial⟩ ⟨hq.1, hq.2.1, hq.2.2.1, (hq.2.2.2.sift fun y hy => Or.inr (N y hy)).mono (by decide) (by decide)⟩⟩
theorem main_1_1 : Claimed_1_1 := comes_1 fun _ _ _ _ _ _ h hF => ⟨h.1, hF⟩
theorem main_1_2 : Claimed_1_2 := comes_1 fun _ _ _ _ _ _ h hF => ⟨h.2.1, hF⟩
end Jvm.Pilot.@@N@@
namespace Jvm.Pilot.@@N@@
open Jvm Jvm.ClassFile Sem Op Lib Jvm.Free Jvm.Stand Jvm.Pilot.@@N@@.Jvm.D
/-! MADE BY PROGRAM (witnessworld.py) out of the Statement's table words and the real class files: 17 classes; the members and pool entries that the words name. The judged class is class 1, her method 1. -/
namespace start1
open Jvm.ClassFile
def u (s : String) : CpInfo := .utf8 (stringToUtf16 s)
/-- a pool by its gaps: so many unusable entries, then the entry; so many at the end -/
def gap : Nat → List CpInfo → List CpInfo
  | 0, r => r
  | n + 1, r => .unusable :: gap n r
def poolList (es : List (Nat × CpInfo)) (last : Nat) : List CpInfo := es.foldr (fun e r => gap e.1 (e.2 :: r)) (gap last [])
def pool (es : List (Nat × CpInfo)) (last : Nat) : Array CpInfo := ⟨poolList es last⟩
def fileOf (pool : Array CpInfo) (this : Nat) (attrs : Array Attribute := #[]) (ms : Array MethodInfo := #[]) (fl : Nat := 33) (sup : Nat := 0) (ifs : Array Nat := #[]) (fds : Array FieldInfo := #[]) : ClassFile where
  minorVersion := 0
  majorVersion := 65
  constantPool := pool
  accessFlags := fl
  thisClass := this
  superClass := sup
  interfaces := ifs
  fields := fds
  methods := ms
  attributes := attrs
def plain (name : String) (sup : Option ClassId) : Class where
  name := name
  kind := .ordinary
  loader := none
  accessFlags := 33
  super := sup
  interfaces := #[]
  cf := none
  fields := #[]
  methods := #[]
  instanceTypes := #[]
  staticTypes := #[]
  resolved := #[]
  callSites := []
  init := .initialized
  statics := none
  mirror := none

def pool0 : Array CpInfo := pool [(5, u "<init>"), (0, u "()V"), (1, .class_ 10), (1, u "java/lang/Object"), (85, u "clone"), (0, u "()Ljava/lang/Object;")] 26

def k0c0 : Code := { maxStack := 0, maxLocals := 1, code := object_method_1_code, exceptionTable := #[], attributes := #[] }
def k0m0 : Method := { name := "<init>", desc := "()V", sig := { parameters := [], returnType := none }, accessFlags := 1, code := some k0c0 }
def k0m1 : Method := { name := "clone", desc := "()Ljava/lang/Object;", sig := { parameters := [], returnType := some (.object "java/lang/Object") }, accessFlags := 260, code := none }
/-- java/lang/Object -/
def k0 : Class := { plain "java/lang/Object" none with
  accessFlags := 33
  interfaces := #[]
  cf := some (fileOf pool0 8 #[] #[{ accessFlags := 1, nameIndex := 5, descriptorIndex := 6, attributes := #[] }, { accessFlags := 260, nameIndex := 96, descriptorIndex := 97, attributes := #[] }] 33 0 #[] #[])
  fields := #[]
  methods := #[k0m0, k0m1]
  instanceTypes := #[]
  staticTypes := #[]
  resolved := Array.replicate 124 none
  statics := none }

def pool1 : Array CpInfo := pool [(2, .class_ 4), (1, u "java/lang/Object"), (0, u "<init>"), (0, u "()V"), (0, .integer 2147483647), (0, .class_ 9), (0, u "com/example/eider/eider/encoding/ByteReader"), (0, .string 11), (0, u "in"), (0, .methodref 8 13), (0, .nameAndType 5 14), (0, u "([BLjava/lang/String;)V"), (0, .string 16), (0, u "f"), (0, .methodref 8 18), (0, .nameAndType 19 20), (0, u "bytes"), (0, u "(ILjava/lang/String;)[B"), (0, .string 22), (0, u "g"), (0, .methodref 8 24), (0, .nameAndType 25 26), (0, u "bytesSince"), (0, u "(I)[B"), (0, .methodref 28 29), (0, .class_ 30), (0, .nameAndType 31 32), (0, u "com/example/eider/eider/encoding/ByteReaderBytesSincePinLaw"), (0, u "at"), (0, u "([B[BIII)Z"), (2, u "law"), (0, u "(III)Z")] 5

def k1m0 : Method := { name := "<init>", desc := "()V", sig := { parameters := [], returnType := none }, accessFlags := 1, code := none }
def k1c1 : Code := { maxStack := 5, maxLocals := 8, code := code, exceptionTable := #[], attributes := #[] }
def k1m1 : Method := { name := "law", desc := "(III)Z", sig := { parameters := [.int, .int, .int], returnType := some .boolean }, accessFlags := 9, code := some k1c1 }
def k1c2 : Code := { maxStack := 4, maxLocals := 5, code := method_3_code, exceptionTable := #[], attributes := #[] }
def k1m2 : Method := { name := "at", desc := "([B[BIII)Z", sig := { parameters := [(.array .byte), (.array .byte), .int, .int, .int], returnType := some .boolean }, accessFlags := 10, code := some k1c2 }
/-- com/example/eider/eider/encoding/ByteReaderBytesSincePinLaw -/
def k1 : Class := { plain "com/example/eider/eider/encoding/ByteReaderBytesSincePinLaw" (some 0) with
  accessFlags := 49
  interfaces := #[]
  cf := some (fileOf pool1 28 #[] #[{ accessFlags := 1, nameIndex := 5, descriptorIndex := 6, attributes := #[] }, { accessFlags := 9, nameIndex := 35, descriptorIndex := 36, attributes := #[] }, { accessFlags := 10, nameIndex := 31, descriptorIndex := 32, attributes := #[] }] 49 2 #[] #[])
  fields := #[]
  methods := #[k1m0, k1m1, k1m2]
  instanceTypes := #[]
  staticTypes := #[]
  resolved := Array.replicate 42 none
  statics := none }

def pool2 : Array CpInfo := pool [(1, .methodref 2 3), (0, .class_ 4), (0, .nameAndType 5 6), (0, u "java/lang/Object"), (0, u "<init>"), (0, u "()V"), (0, .fieldref 8 9), (0, .class_ 10), (0, .nameAndType 11 12), (0, u "com/example/eider/eider/encoding/ByteReader"), (0, u "data"), (0, u "[B"), (0, .fieldref 8 14), (0, .nameAndType 15 16), (0, u "inputName"), (0, u "Ljava/lang/String;"), (0, .methodref 8 18), (0, .nameAndType 19 20), (0, u "require"), (0, u "(JLjava/lang/String;)V"), (0, .fieldref 8 22), (0, .nameAndType 23 24), (0, u "position"), (0, u "I"), (0, .string 26), (0, u ""), (6, .methodref 8 34), (0, .nameAndType 19 35), (0, u "(JLjava/lang/String;Ljava/lang/String;)V"), (6, .methodref 43 44), (0, .class_ 45), (0, .nameAndType 46 47), (0, u "java/util/Arrays"), (0, u "copyOfRange"), (0, u "([BII)[B"), (4, u "bytes"), (0, u "(ILjava/lang/String;)[B"), (0, .methodref 8 55), (0, .nameAndType 56 57), (0, u "remaining"), (0, u "()I"), (9, u "LENGTH"), (1, u "([BLjava/lang/String;)V"), (10, u "bytesSince"), (0, u "(I)[B")] 17

def k2c0 : Code := { maxStack := 2, maxLocals := 3, code := prog_6_method_1_code, exceptionTable := #[], attributes := #[] }
def k2m0 : Method := { name := "<init>", desc := "([BLjava/lang/String;)V", sig := { parameters := [(.array .byte), (.object "java/lang/String")], returnType := none }, accessFlags := 1, code := some k2c0 }
def k2c1 : Code := { maxStack := 4, maxLocals := 4, code := prog_6_method_7_code, exceptionTable := #[], attributes := #[] }
def k2m1 : Method := { name := "bytes", desc := "(ILjava/lang/String;)[B", sig := { parameters := [.int, (.object "java/lang/String")], returnType := some (.array .byte) }, accessFlags := 1, code := some k2c1 }
def k2c2 : Code := { maxStack := 3, maxLocals := 2, code := prog_6_method_12_code, exceptionTable := #[], attributes := #[] }
def k2m2 : Method := { name := "bytesSince", desc := "(I)[B", sig := { parameters := [.int], returnType := some (.array .byte) }, accessFlags := 1, code := some k2c2 }
def k2c3 : Code := { maxStack := 2, maxLocals := 1, code := prog_6_method_13_code, exceptionTable := #[], attributes := #[] }
def k2m3 : Method := { name := "remaining", desc := "()I", sig := { parameters := [], returnType := some .int }, accessFlags := 1, code := some k2c3 }
def k2c4 : Code := { maxStack := 5, maxLocals := 4, code := prog_6_method_14_code, exceptionTable := #[], attributes := #[] }
def k2m4 : Method := { name := "require", desc := "(JLjava/lang/String;)V", sig := { parameters := [.long, (.object "java/lang/String")], returnType := none }, accessFlags := 2, code := some k2c4 }
def k2c5 : Code := { maxStack := 9, maxLocals := 5, code := prog_6_method_15_code, exceptionTable := #[], attributes := #[] }
def k2m5 : Method := { name := "require", desc := "(JLjava/lang/String;Ljava/lang/String;)V", sig := { parameters := [.long, (.object "java/lang/String"), (.object "java/lang/String")], returnType := none }, accessFlags := 2, code := some k2c5 }
/-- com/example/eider/eider/encoding/ByteReader -/
def k2 : Class := { plain "com/example/eider/eider/encoding/ByteReader" (some 0) with
  accessFlags := 33
  interfaces := #[]
  cf := some (fileOf pool2 8 #[] #[{ accessFlags := 1, nameIndex := 5, descriptorIndex := 69, attributes := #[] }, { accessFlags := 1, nameIndex := 52, descriptorIndex := 53, attributes := #[] }, { accessFlags := 1, nameIndex := 80, descriptorIndex := 81, attributes := #[] }, { accessFlags := 1, nameIndex := 56, descriptorIndex := 57, attributes := #[] }, { accessFlags := 2, nameIndex := 19, descriptorIndex := 20, attributes := #[] }, { accessFlags := 2, nameIndex := 19, descriptorIndex := 35, attributes := #[] }] 33 2 #[] #[{ accessFlags := 26, nameIndex := 67, descriptorIndex := 16, attributes := #[] }, { accessFlags := 18, nameIndex := 11, descriptorIndex := 12, attributes := #[] }, { accessFlags := 18, nameIndex := 15, descriptorIndex := 16, attributes := #[] }, { accessFlags := 2, nameIndex := 23, descriptorIndex := 24, attributes := #[] }])
  fields := #[{ name := "LENGTH", type := (.object "java/lang/String"), accessFlags := 26, slot := 0, constantValue := 0 }, { name := "data", type := (.array .byte), accessFlags := 18, slot := 0, constantValue := 0 }, { name := "inputName", type := (.object "java/lang/String"), accessFlags := 18, slot := 1, constantValue := 0 }, { name := "position", type := .int, accessFlags := 2, slot := 2, constantValue := 0 }]
  methods := #[k2m0, k2m1, k2m2, k2m3, k2m4, k2m5]
  instanceTypes := #[(.array .byte), (.object "java/lang/String"), .int]
  staticTypes := #[(.object "java/lang/String")]
  resolved := Array.replicate 99 none
  statics := none }

def pool3 : Array CpInfo := pool [(1, .class_ 2), (0, u "java/io/Serializable"), (0, .class_ 4), (0, u "java/lang/Object")] 2

/-- java/io/Serializable -/
def k3 : Class := { plain "java/io/Serializable" (some 0) with
  accessFlags := 1537
  interfaces := #[]
  cf := some (fileOf pool3 1 #[] #[] 1537 3 #[] #[])
  fields := #[]
  methods := #[]
  instanceTypes := #[]
  staticTypes := #[]
  resolved := Array.replicate 7 none
  statics := none }

def pool4 : Array CpInfo := pool [(1, .class_ 2), (0, u "java/lang/Comparable"), (0, .class_ 4), (0, u "java/lang/Object")] 7

/-- java/lang/Comparable -/
def k4 : Class := { plain "java/lang/Comparable" (some 0) with
  accessFlags := 1537
  interfaces := #[]
  cf := some (fileOf pool4 1 #[] #[] 1537 3 #[] #[])
  fields := #[]
  methods := #[]
  instanceTypes := #[]
  staticTypes := #[]
  resolved := Array.replicate 12 none
  statics := none }

def pool5 : Array CpInfo := pool [(2, .class_ 4), (1, u "java/lang/CharSequence"), (42, .class_ 48), (0, u "java/lang/CharSequence$1CodePointIterator"), (10, .class_ 60), (0, u "java/lang/CharSequence$1CharIterator"), (5, .class_ 67), (0, u "java/lang/Object")] 63

/-- java/lang/CharSequence -/
def k5 : Class := { plain "java/lang/CharSequence" (some 0) with
  accessFlags := 1537
  interfaces := #[]
  cf := some (fileOf pool5 2 #[.nestMembers #[47, 59]] #[] 1537 66 #[] #[])
  fields := #[]
  methods := #[]
  instanceTypes := #[]
  staticTypes := #[]
  resolved := Array.replicate 131 none
  statics := none }

def pool6 : Array CpInfo := pool [(1, .class_ 2), (0, u "java/lang/constant/Constable"), (0, .class_ 4), (0, u "java/lang/Object")] 6

/-- java/lang/constant/Constable -/
def k6 : Class := { plain "java/lang/constant/Constable" (some 0) with
  accessFlags := 1537
  interfaces := #[]
  cf := some (fileOf pool6 1 #[] #[] 1537 3 #[] #[])
  fields := #[]
  methods := #[]
  instanceTypes := #[]
  staticTypes := #[]
  resolved := Array.replicate 11 none
  statics := none }

def pool7 : Array CpInfo := pool [(1, .class_ 2), (0, u "java/lang/constant/ConstantDesc"), (0, .class_ 4), (0, u "java/lang/Object")] 32

/-- java/lang/constant/ConstantDesc -/
def k7 : Class := { plain "java/lang/constant/ConstantDesc" (some 0) with
  accessFlags := 1537
  interfaces := #[]
  cf := some (fileOf pool7 1 #[] #[] 1537 3 #[] #[])
  fields := #[]
  methods := #[]
  instanceTypes := #[]
  staticTypes := #[]
  resolved := Array.replicate 37 none
  statics := none }

def pool8 : Array CpInfo := pool [(2, .class_ 4), (1, u "java/lang/Object"), (0, u "<init>"), (0, u "()V"), (3, .class_ 12), (1, u "java/lang/String"), (0, u "value"), (0, u "[B"), (2, u "coder"), (0, u "B"), (2, u "hash"), (0, u "I"), (2, u "hashIsZero"), (0, u "Z"), (13, u "COMPACT_STRINGS"), (534, .class_ 576), (0, u "java/lang/CharSequence"), (22, u "CASE_INSENSITIVE_ORDER"), (0, u "Ljava/util/Comparator;"), (500, u "serialPersistentFields"), (0, u "[Ljava/io/ObjectStreamField;"), (0, .class_ 1104), (0, u "java/lang/String$CaseInsensitiveComparator"), (1, .class_ 1107), (0, u "java/io/Serializable"), (0, .class_ 1109), (0, u "java/lang/Comparable"), (0, .class_ 1111), (0, u "java/lang/constant/Constable"), (0, .class_ 1113), (0, u "java/lang/constant/ConstantDesc"), (2, u "serialVersionUID"), (0, u "J"), (3, u "REPL"), (0, u "C"), (2, u "LATIN1"), (1, u "UTF16")] 323

def k8m0 : Method := { name := "<init>", desc := "()V", sig := { parameters := [], returnType := none }, accessFlags := 1, code := none }
/-- java/lang/String -/
def k8 : Class := { plain "java/lang/String" (some 0) with
  accessFlags := 49
  interfaces := #[3, 4, 5, 6, 7]
  cf := some (fileOf pool8 10 #[.nestMembers #[1103]] #[{ accessFlags := 1, nameIndex := 5, descriptorIndex := 6, attributes := #[] }] 49 2 #[1106, 1108, 575, 1110, 1112] #[{ accessFlags := 18, nameIndex := 13, descriptorIndex := 14, attributes := #[] }, { accessFlags := 18, nameIndex := 17, descriptorIndex := 18, attributes := #[] }, { accessFlags := 2, nameIndex := 21, descriptorIndex := 22, attributes := #[] }, { accessFlags := 2, nameIndex := 25, descriptorIndex := 26, attributes := #[] }, { accessFlags := 26, nameIndex := 1116, descriptorIndex := 1117, attributes := #[] }, { accessFlags := 24, nameIndex := 40, descriptorIndex := 26, attributes := #[] }, { accessFlags := 26, nameIndex := 1101, descriptorIndex := 1102, attributes := #[] }, { accessFlags := 26, nameIndex := 1121, descriptorIndex := 1122, attributes := #[] }, { accessFlags := 25, nameIndex := 599, descriptorIndex := 600, attributes := #[] }, { accessFlags := 24, nameIndex := 1125, descriptorIndex := 18, attributes := #[] }, { accessFlags := 24, nameIndex := 1127, descriptorIndex := 18, attributes := #[] }])
  fields := #[{ name := "value", type := (.array .byte), accessFlags := 18, slot := 0, constantValue := 0 }, { name := "coder", type := .byte, accessFlags := 18, slot := 1, constantValue := 0 }, { name := "hash", type := .int, accessFlags := 2, slot := 2, constantValue := 0 }, { name := "hashIsZero", type := .boolean, accessFlags := 2, slot := 3, constantValue := 0 }, { name := "serialVersionUID", type := .long, accessFlags := 26, slot := 0, constantValue := 0 }, { name := "COMPACT_STRINGS", type := .boolean, accessFlags := 24, slot := 1, constantValue := 0 }, { name := "serialPersistentFields", type := (.array (.object "java/io/ObjectStreamField")), accessFlags := 26, slot := 2, constantValue := 0 }, { name := "REPL", type := .char, accessFlags := 26, slot := 3, constantValue := 0 }, { name := "CASE_INSENSITIVE_ORDER", type := (.object "java/util/Comparator"), accessFlags := 25, slot := 4, constantValue := 0 }, { name := "LATIN1", type := .byte, accessFlags := 24, slot := 5, constantValue := 0 }, { name := "UTF16", type := .byte, accessFlags := 24, slot := 6, constantValue := 0 }]
  methods := #[k8m0]
  instanceTypes := #[(.array .byte), .byte, .int, .boolean]
  staticTypes := #[.long, .boolean, (.array (.object "java/io/ObjectStreamField")), .char, (.object "java/util/Comparator"), .byte, .byte]
  resolved := Array.replicate 1451 none
  statics := none }

def pool9 : Array CpInfo := pool [(2, .class_ 4), (1, u "java/lang/Object"), (0, u "<init>"), (0, u "()V"), (7, .class_ 16), (1, u "java/util/Arrays"), (57, .class_ 76), (1, u "java/util/Arrays$NaturalOrder"), (32, u "()Ljava/lang/Object;"), (3, .class_ 115), (1, u "java/util/Arrays$LegacyMergeSort"), (1, u "Z"), (10, .nameAndType 129 109), (0, u "clone"), (9, u "copyOfRange"), (10, .methodref 151 152), (0, .class_ 153), (0, .nameAndType 154 155), (0, u "java/lang/System"), (0, u "arraycopy"), (0, u "(Ljava/lang/Object;ILjava/lang/Object;II)V"), (148, .methodref 305 306), (0, .class_ 307), (0, .nameAndType 308 309), (0, u "java/lang/Math"), (0, u "min"), (0, u "(II)I"), (0, .methodref 311 128), (0, .class_ 312), (0, u "[B"), (26, .methodref 14 340), (0, .nameAndType 341 342), (0, u "copyOfRangeByte"), (0, u "([BII)[B"), (0, .methodref 14 344), (0, .nameAndType 345 346), (0, u "checkLength"), (0, u "(II)V"), (28, .class_ 376), (0, u "java/util/Arrays$ArrayList"), (68, u "$assertionsDisabled"), (269, u "MIN_ARRAY_SORT_GRAN"), (0, u "I"), (2, u "INSERTIONSORT_THRESHOLD"), (255, .class_ 976), (0, u "java/util/Arrays$ArrayItr")] 52

def k9m0 : Method := { name := "<init>", desc := "()V", sig := { parameters := [], returnType := none }, accessFlags := 2, code := none }
def k9c1 : Code := { maxStack := 4, maxLocals := 2, code := jdk_65_method_131_code, exceptionTable := #[], attributes := #[] }
def k9m1 : Method := { name := "checkLength", desc := "(II)V", sig := { parameters := [.int, .int], returnType := none }, accessFlags := 10, code := some k9c1 }
def k9c2 : Code := { maxStack := 3, maxLocals := 3, code := jdk_65_method_132_code, exceptionTable := #[], attributes := #[] }
def k9m2 : Method := { name := "copyOfRange", desc := "([BII)[B", sig := { parameters := [(.array .byte), .int, .int], returnType := some (.array .byte) }, accessFlags := 9, code := some k9c2 }
def k9c3 : Code := { maxStack := 6, maxLocals := 5, code := jdk_65_method_133_code, exceptionTable := #[], attributes := #[] }
def k9m3 : Method := { name := "copyOfRangeByte", desc := "([BII)[B", sig := { parameters := [(.array .byte), .int, .int], returnType := some (.array .byte) }, accessFlags := 10, code := some k9c3 }
/-- java/util/Arrays -/
def k9 : Class := { plain "java/util/Arrays" (some 0) with
  accessFlags := 49
  interfaces := #[]
  cf := some (fileOf pool9 14 #[.nestMembers #[975, 375, 113, 74]] #[{ accessFlags := 2, nameIndex := 5, descriptorIndex := 6, attributes := #[] }, { accessFlags := 10, nameIndex := 345, descriptorIndex := 346, attributes := #[] }, { accessFlags := 9, nameIndex := 139, descriptorIndex := 342, attributes := #[] }, { accessFlags := 10, nameIndex := 341, descriptorIndex := 342, attributes := #[] }] 49 2 #[] #[{ accessFlags := 26, nameIndex := 715, descriptorIndex := 716, attributes := #[] }, { accessFlags := 26, nameIndex := 719, descriptorIndex := 716, attributes := #[] }, { accessFlags := 4120, nameIndex := 445, descriptorIndex := 117, attributes := #[] }])
  fields := #[{ name := "MIN_ARRAY_SORT_GRAN", type := .int, accessFlags := 26, slot := 0, constantValue := 0 }, { name := "INSERTIONSORT_THRESHOLD", type := .int, accessFlags := 26, slot := 1, constantValue := 0 }, { name := "$assertionsDisabled", type := .boolean, accessFlags := 4120, slot := 2, constantValue := 0 }]
  methods := #[k9m0, k9m1, k9m2, k9m3]
  instanceTypes := #[]
  staticTypes := #[.int, .int, .boolean]
  resolved := Array.replicate 1029 none
  statics := none }

def pool10 : Array CpInfo := pool [(1, .class_ 2), (0, u "java/lang/Math"), (1, .class_ 6), (1, u "java/lang/Object"), (0, u "<init>"), (0, u "()V"), (89, .class_ 100), (1, u "java/lang/Math$RandomNumberGeneratorHolder"), (71, u "negativeZeroFloatBits"), (0, u "J"), (2, u "negativeZeroDoubleBits"), (24, u "min"), (43, u "$assertionsDisabled"), (0, u "Z"), (88, u "(II)I"), (2, u "twoToTheDoubleScaleDown"), (0, u "D"), (4, u "twoToTheDoubleScaleUp"), (9, u "E"), (3, u "PI"), (2, u "TAU"), (2, u "DEGREES_TO_RADIANS"), (0, u "RADIANS_TO_DEGREES")] 94

def k10m0 : Method := { name := "<init>", desc := "()V", sig := { parameters := [], returnType := none }, accessFlags := 2, code := none }
def k10c1 : Code := { maxStack := 2, maxLocals := 2, code := jdk_29_method_69_code, exceptionTable := #[], attributes := #[] }
def k10m1 : Method := { name := "min", desc := "(II)I", sig := { parameters := [.int, .int], returnType := some .int }, accessFlags := 9, code := some k10c1 }
/-- java/lang/Math -/
def k10 : Class := { plain "java/lang/Math" (some 0) with
  accessFlags := 49
  interfaces := #[]
  cf := some (fileOf pool10 1 #[.nestMembers #[98]] #[{ accessFlags := 2, nameIndex := 7, descriptorIndex := 8, attributes := #[] }, { accessFlags := 9, nameIndex := 201, descriptorIndex := 335, attributes := #[] }] 49 4 #[] #[{ accessFlags := 25, nameIndex := 354, descriptorIndex := 339, attributes := #[] }, { accessFlags := 25, nameIndex := 358, descriptorIndex := 339, attributes := #[] }, { accessFlags := 25, nameIndex := 361, descriptorIndex := 339, attributes := #[] }, { accessFlags := 26, nameIndex := 364, descriptorIndex := 339, attributes := #[] }, { accessFlags := 26, nameIndex := 365, descriptorIndex := 339, attributes := #[] }, { accessFlags := 26, nameIndex := 172, descriptorIndex := 173, attributes := #[] }, { accessFlags := 26, nameIndex := 176, descriptorIndex := 173, attributes := #[] }, { accessFlags := 8, nameIndex := 344, descriptorIndex := 339, attributes := #[] }, { accessFlags := 8, nameIndex := 338, descriptorIndex := 339, attributes := #[] }, { accessFlags := 4120, nameIndex := 245, descriptorIndex := 246, attributes := #[] }])
  fields := #[{ name := "E", type := .double, accessFlags := 25, slot := 0, constantValue := 0 }, { name := "PI", type := .double, accessFlags := 25, slot := 1, constantValue := 0 }, { name := "TAU", type := .double, accessFlags := 25, slot := 2, constantValue := 0 }, { name := "DEGREES_TO_RADIANS", type := .double, accessFlags := 26, slot := 3, constantValue := 0 }, { name := "RADIANS_TO_DEGREES", type := .double, accessFlags := 26, slot := 4, constantValue := 0 }, { name := "negativeZeroFloatBits", type := .long, accessFlags := 26, slot := 5, constantValue := 0 }, { name := "negativeZeroDoubleBits", type := .long, accessFlags := 26, slot := 6, constantValue := 0 }, { name := "twoToTheDoubleScaleUp", type := .double, accessFlags := 8, slot := 7, constantValue := 0 }, { name := "twoToTheDoubleScaleDown", type := .double, accessFlags := 8, slot := 8, constantValue := 0 }, { name := "$assertionsDisabled", type := .boolean, accessFlags := 4120, slot := 9, constantValue := 0 }]
  methods := #[k10m0, k10m1]
  instanceTypes := #[]
  staticTypes := #[.double, .double, .double, .double, .double, .long, .long, .double, .double, .boolean]
  resolved := Array.replicate 460 none
  statics := none }

def pool11 : Array CpInfo := pool [(2, .class_ 4), (1, u "java/lang/Object"), (0, u "<init>"), (0, u "()V"), (1, .class_ 10), (1, u "java/lang/System"), (0, u "allowSecurityManager"), (0, u "I"), (16, u "cons"), (0, u "Ljava/io/Console;"), (77, .class_ 110), (1, u "java/lang/System$CallersHolder"), (43, u "initialErrStream"), (0, u "Ljava/io/PrintStream;"), (19, u "security"), (0, u "Ljava/lang/SecurityManager;"), (31, .class_ 209), (0, u "java/lang/System$1"), (7, u "props"), (0, u "Ljava/util/Properties;"), (2, u "lineSeparator"), (0, u "Ljava/lang/String;"), (96, .class_ 321), (1, u "java/lang/System$LoggerFinder"), (5, .class_ 328), (0, u "java/lang/System$Logger"), (67, u "err"), (2, u "out"), (91, u "notSupportedJnuEncoding"), (15, u "in"), (17, u "initialIn"), (0, u "Ljava/io/InputStream;"), (35, u "bootLayer"), (0, u "Ljava/lang/ModuleLayer;"), (99, .class_ 664), (0, u "java/lang/System$2"), (9, u "NEVER"), (2, u "MAYBE"), (49, u "arraycopy"), (0, u "(Ljava/lang/Object;ILjava/lang/Object;II)V"), (72, .class_ 802), (0, u "java/lang/System$Logger$Level")] 31

def k11m0 : Method := { name := "<init>", desc := "()V", sig := { parameters := [], returnType := none }, accessFlags := 2, code := none }
def k11m1 : Method := { name := "arraycopy", desc := "(Ljava/lang/Object;ILjava/lang/Object;II)V", sig := { parameters := [(.object "java/lang/Object"), .int, (.object "java/lang/Object"), .int, .int], returnType := none }, accessFlags := 265, code := none }
/-- java/lang/System -/
def k11 : Class := { plain "java/lang/System" (some 0) with
  accessFlags := 49
  interfaces := #[]
  cf := some (fileOf pool11 8 #[.nestMembers #[319, 327, 801, 108, 663, 208]] #[{ accessFlags := 2, nameIndex := 5, descriptorIndex := 6, attributes := #[] }, { accessFlags := 265, nameIndex := 727, descriptorIndex := 728, attributes := #[] }] 49 2 #[] #[{ accessFlags := 25, nameIndex := 507, descriptorIndex := 526, attributes := #[] }, { accessFlags := 25, nameIndex := 399, descriptorIndex := 155, attributes := #[] }, { accessFlags := 25, nameIndex := 396, descriptorIndex := 155, attributes := #[] }, { accessFlags := 10, nameIndex := 525, descriptorIndex := 526, attributes := #[] }, { accessFlags := 26, nameIndex := 674, descriptorIndex := 12, attributes := #[] }, { accessFlags := 26, nameIndex := 677, descriptorIndex := 12, attributes := #[] }, { accessFlags := 10, nameIndex := 11, descriptorIndex := 12, attributes := #[] }, { accessFlags := 74, nameIndex := 175, descriptorIndex := 176, attributes := #[] }, { accessFlags := 10, nameIndex := 491, descriptorIndex := 222, attributes := #[] }, { accessFlags := 74, nameIndex := 29, descriptorIndex := 30, attributes := #[] }, { accessFlags := 74, nameIndex := 154, descriptorIndex := 155, attributes := #[] }, { accessFlags := 10, nameIndex := 217, descriptorIndex := 218, attributes := #[] }, { accessFlags := 10, nameIndex := 221, descriptorIndex := 222, attributes := #[] }, { accessFlags := 8, nameIndex := 562, descriptorIndex := 563, attributes := #[] }])
  fields := #[{ name := "in", type := (.object "java/io/InputStream"), accessFlags := 25, slot := 0, constantValue := 0 }, { name := "out", type := (.object "java/io/PrintStream"), accessFlags := 25, slot := 1, constantValue := 0 }, { name := "err", type := (.object "java/io/PrintStream"), accessFlags := 25, slot := 2, constantValue := 0 }, { name := "initialIn", type := (.object "java/io/InputStream"), accessFlags := 10, slot := 3, constantValue := 0 }, { name := "NEVER", type := .int, accessFlags := 26, slot := 4, constantValue := 0 }, { name := "MAYBE", type := .int, accessFlags := 26, slot := 5, constantValue := 0 }, { name := "allowSecurityManager", type := .int, accessFlags := 10, slot := 6, constantValue := 0 }, { name := "security", type := (.object "java/lang/SecurityManager"), accessFlags := 74, slot := 7, constantValue := 0 }, { name := "notSupportedJnuEncoding", type := (.object "java/lang/String"), accessFlags := 10, slot := 8, constantValue := 0 }, { name := "cons", type := (.object "java/io/Console"), accessFlags := 74, slot := 9, constantValue := 0 }, { name := "initialErrStream", type := (.object "java/io/PrintStream"), accessFlags := 74, slot := 10, constantValue := 0 }, { name := "props", type := (.object "java/util/Properties"), accessFlags := 10, slot := 11, constantValue := 0 }, { name := "lineSeparator", type := (.object "java/lang/String"), accessFlags := 10, slot := 12, constantValue := 0 }, { name := "bootLayer", type := (.object "java/lang/ModuleLayer"), accessFlags := 8, slot := 13, constantValue := 0 }]
  methods := #[k11m0, k11m1]
  instanceTypes := #[]
  staticTypes := #[(.object "java/io/InputStream"), (.object "java/io/PrintStream"), (.object "java/io/PrintStream"), (.object "java/io/InputStream"), .int, .int, .int, (.object "java/lang/SecurityManager"), (.object "java/lang/String"), (.object "java/io/Console"), (.object "java/io/PrintStream"), (.object "java/util/Properties"), (.object "java/lang/String"), (.object "java/lang/ModuleLayer")]
  resolved := Array.replicate 834 none
  statics := none }

def pool12 : Array CpInfo := pool [(1, .class_ 2), (0, u "java/lang/Cloneable"), (0, .class_ 4), (0, u "java/lang/Object")] 2

/-- java/lang/Cloneable -/
def k12 : Class := { plain "java/lang/Cloneable" (some 0) with
  accessFlags := 1537
  interfaces := #[]
  cf := some (fileOf pool12 1 #[] #[] 1537 3 #[] #[])
  fields := #[]
  methods := #[]
  instanceTypes := #[]
  staticTypes := #[]
  resolved := Array.replicate 7 none
  statics := none }

/-- the primitive byte -/
def k13 : Class := { plain "byte" none with kind := .primitive 'B', accessFlags := 0x411 }
/-- [B -/
def k14 : Class := { plain "[B" (some 0) with kind := .array 13 .byte, interfaces := #[12, 3], accessFlags := 1041 }

/-- the primitive int -/
def k15 : Class := { plain "int" none with kind := .primitive 'I', accessFlags := 0x411 }
/-- [I -/
def k16 : Class := { plain "[I" (some 0) with kind := .array 15 .int, interfaces := #[12, 3], accessFlags := 1041 }

def heap : Heap := #[]
def classes : Array Class := #[k0, k1, k2, k3, k4, k5, k6, k7, k8, k9, k10, k11, k12, k13, k14, k15, k16]
def interned : List (Array UInt16 × Addr) := []
def slotsUsed : Nat := 0
def theMethod : MethodId := ⟨1, 1⟩
def args0 : Array Value := #[.int 5, .int 7, .int 5]
def aboutOver (below : List Frame) : State where
  vm := { classes := classes, interned := interned.toArray }
  heap := heap
  slotsUsed := slotsUsed
  threads := #[{ frames := .invoking theMethod args0 :: below }]
def below0 : List Frame := [.native { method := ⟨0, 0⟩, args := #[] }]
def about1 : State := aboutOver below0
def p0 : Program := .bare "" "" ""
def e0 : Env := launch0.env 0 0 0
theorem w_frames : about1.frames = Frame.invoking theMethod args0 :: below0 := rfl
set_option maxRecDepth 65536 in
theorem w_args : argsFit about1.vm theMethod args0 = true := by decide +kernel
set_option maxRecDepth 65536 in
theorem w_heap : heapFits about1 = true := by decide +kernel
set_option maxRecDepth 65536 in
theorem w_runnable : about1.curStatus? = some .runnable := by decide +kernel
set_option maxRecDepth 65536 in
theorem w_alone : about1.alone = true := by decide +kernel
set_option maxRecDepth 65536 in
theorem w_named : about1.methodNamed? x = some theMethod := by decide +kernel
set_option maxRecDepth 65536 in
theorem w_hears : about1.hears theMethod below0 = true := by decide +kernel
set_option maxRecDepth 65536 in
theorem w_ripe : about1.ripe theMethod args0 below0 = true := by decide +kernel
theorem w_running : about1.status = .running := rfl
set_option maxRecDepth 65536 in
theorem w_room : about1.hasRoom e0.platform room_1 = true :=
  launch0.hasRoom_least _ room_1 (by decide +kernel) (by decide +kernel) (by decide +kernel) (by decide +kernel) (by decide +kernel) (by decide +kernel)
theorem allAtoms_all (ts : List Jvm.Cond) (a : Array Jvm.Value) (st : Jvm.State) : (allAtoms ts).before a st = ts.all (fun c => c.before a st) := by
  induction ts with
  | nil => rfl
  | cons c t ih =>
    show (Jvm.Cond.and c (allAtoms t)).before a st = _
    rw [Jvm.Cond.before_and, ih, List.all_cons]
def words1 : List Jvm.Cond := Jvm.Cond.code x code maxLocals ret :: tables_1
/-- a 'code' word, met by the world's own term for the bytes: nothing is compared byte by byte -/
theorem code_word {y : MethodName} {bytes : ByteArray} {mx : Nat} {rt : Option FieldType} {a : Array Value} {s : State} {m : MethodId} {meth : Method} {c : Code} (h1 : s.methodNamed? y = some m) (h2 : s.vm.method? m = some meth) (h3 : meth.code = some c) (h4 : c.code = bytes)
    (h5 : (c.maxLocals == mx && c.exceptionTable.isEmpty && decide (c.maxStack ≤ mostOperands) && decide (meth.sig.returnType = rt) && !meth.locks && decide (parseMethodDescriptor y.desc = some meth.sig)) = true) : (Jvm.Cond.code y bytes mx rt).before a s = true := by
  simp only [Bool.and_eq_true, beq_iff_eq, Bool.not_eq_true', decide_eq_true_eq] at h5
  obtain ⟨⟨⟨⟨⟨g1, g2⟩, g3⟩, g4⟩, g5⟩, g6⟩ := h5
  simp [Cond.before, Cond.holds, Cond.value, h1, h2, h3, h4, g1, g2, g3, g4, g5, g6]
def isCode : Jvm.Cond → Bool
  | .code _ _ _ _ => true
  | _ => false
theorem all_split {L : List Jvm.Cond} {P : Jvm.Cond → Bool} (h1 : L.all (fun c => isCode c || P c) = true) (h2 : ∀ c ∈ L.filter isCode, P c = true) : L.all P = true := by
  refine List.all_eq_true.mpr fun c hc => ?_
  have h := List.all_eq_true.mp h1 c hc
  rcases Bool.eq_false_or_eq_true (isCode c) with hi | hi
  · exact h2 c (List.mem_filter.mpr ⟨hc, hi⟩)
  · simpa [hi] using h
set_option maxRecDepth 65536 in
theorem w_c0 : (Jvm.Cond.code x code maxLocals ret).before args0 about1 = true := code_word (m := ⟨1, 1⟩) (meth := k1m1) (c := k1c1) (by decide +kernel) rfl rfl rfl (by decide +kernel)
set_option maxRecDepth 65536 in
theorem w_c1 : (Jvm.Cond.code ({ cls := "com/example/eider/eider/encoding/ByteReader", name := "<init>", desc := "([BLjava/lang/String;)V" } : Jvm.MethodName) prog_6_method_1_code (3 : Nat) (Option.none : Option Jvm.ClassFile.FieldType)).before args0 about1 = true := code_word (m := ⟨2, 0⟩) (meth := k2m0) (c := k2c0) (by decide +kernel) rfl rfl rfl (by decide +kernel)
set_option maxRecDepth 65536 in
theorem w_c2 : (Jvm.Cond.code ({ cls := "java/lang/Object", name := "<init>", desc := "()V" } : Jvm.MethodName) object_method_1_code (1 : Nat) (Option.none : Option Jvm.ClassFile.FieldType)).before args0 about1 = true := code_word (m := ⟨0, 0⟩) (meth := k0m0) (c := k0c0) (by decide +kernel) rfl rfl rfl (by decide +kernel)
set_option maxRecDepth 65536 in
theorem w_c3 : (Jvm.Cond.code ({ cls := "com/example/eider/eider/encoding/ByteReader", name := "bytes", desc := "(ILjava/lang/String;)[B" } : Jvm.MethodName) prog_6_method_7_code (4 : Nat) (Option.some (Jvm.ClassFile.FieldType.array Jvm.ClassFile.FieldType.byte))).before args0 about1 = true := code_word (m := ⟨2, 1⟩) (meth := k2m1) (c := k2c1) (by decide +kernel) rfl rfl rfl (by decide +kernel)
set_option maxRecDepth 65536 in
theorem w_c4 : (Jvm.Cond.code ({ cls := "com/example/eider/eider/encoding/ByteReader", name := "require", desc := "(JLjava/lang/String;)V" } : Jvm.MethodName) prog_6_method_14_code (4 : Nat) (Option.none : Option Jvm.ClassFile.FieldType)).before args0 about1 = true := code_word (m := ⟨2, 4⟩) (meth := k2m4) (c := k2c4) (by decide +kernel) rfl rfl rfl (by decide +kernel)
set_option maxRecDepth 65536 in
theorem w_c5 : (Jvm.Cond.code ({ cls := "com/example/eider/eider/encoding/ByteReader", name := "require", desc := "(JLjava/lang/String;Ljava/lang/String;)V" } : Jvm.MethodName) prog_6_method_15_code (5 : Nat) (Option.none : Option Jvm.ClassFile.FieldType)).before args0 about1 = true := code_word (m := ⟨2, 5⟩) (meth := k2m5) (c := k2c5) (by decide +kernel) rfl rfl rfl (by decide +kernel)
set_option maxRecDepth 65536 in
theorem w_c6 : (Jvm.Cond.code ({ cls := "com/example/eider/eider/encoding/ByteReader", name := "remaining", desc := "()I" } : Jvm.MethodName) prog_6_method_13_code (1 : Nat) (Option.some Jvm.ClassFile.FieldType.int)).before args0 about1 = true := code_word (m := ⟨2, 3⟩) (meth := k2m3) (c := k2c3) (by decide +kernel) rfl rfl rfl (by decide +kernel)
set_option maxRecDepth 65536 in
theorem w_c7 : (Jvm.Cond.code ({ cls := "java/util/Arrays", name := "copyOfRange", desc := "([BII)[B" } : Jvm.MethodName) jdk_65_method_132_code (3 : Nat) (Option.some (Jvm.ClassFile.FieldType.array Jvm.ClassFile.FieldType.byte))).before args0 about1 = true := code_word (m := ⟨9, 2⟩) (meth := k9m2) (c := k9c2) (by decide +kernel) rfl rfl rfl (by decide +kernel)
set_option maxRecDepth 65536 in
theorem w_c8 : (Jvm.Cond.code ({ cls := "java/util/Arrays", name := "copyOfRangeByte", desc := "([BII)[B" } : Jvm.MethodName) jdk_65_method_133_code (5 : Nat) (Option.some (Jvm.ClassFile.FieldType.array Jvm.ClassFile.FieldType.byte))).before args0 about1 = true := code_word (m := ⟨9, 3⟩) (meth := k9m3) (c := k9c3) (by decide +kernel) rfl rfl rfl (by decide +kernel)
set_option maxRecDepth 65536 in
theorem w_c9 : (Jvm.Cond.code ({ cls := "java/util/Arrays", name := "checkLength", desc := "(II)V" } : Jvm.MethodName) jdk_65_method_131_code (2 : Nat) (Option.none : Option Jvm.ClassFile.FieldType)).before args0 about1 = true := code_word (m := ⟨9, 1⟩) (meth := k9m1) (c := k9c1) (by decide +kernel) rfl rfl rfl (by decide +kernel)
set_option maxRecDepth 65536 in
theorem w_c10 : (Jvm.Cond.code ({ cls := "java/lang/Math", name := "min", desc := "(II)I" } : Jvm.MethodName) jdk_29_method_69_code (2 : Nat) (Option.some Jvm.ClassFile.FieldType.int)).before args0 about1 = true := code_word (m := ⟨10, 1⟩) (meth := k10m1) (c := k10c1) (by decide +kernel) rfl rfl rfl (by decide +kernel)
set_option maxRecDepth 65536 in
theorem w_c11 : (Jvm.Cond.code ({ cls := "com/example/eider/eider/encoding/ByteReader", name := "bytesSince", desc := "(I)[B" } : Jvm.MethodName) prog_6_method_12_code (2 : Nat) (Option.some (Jvm.ClassFile.FieldType.array Jvm.ClassFile.FieldType.byte))).before args0 about1 = true := code_word (m := ⟨2, 2⟩) (meth := k2m2) (c := k2c2) (by decide +kernel) rfl rfl rfl (by decide +kernel)
set_option maxRecDepth 65536 in
theorem w_c12 : (Jvm.Cond.code ({ cls := "com/example/eider/eider/encoding/ByteReaderBytesSincePinLaw", name := "at", desc := "([B[BIII)Z" } : Jvm.MethodName) method_3_code (5 : Nat) (Option.some Jvm.ClassFile.FieldType.boolean)).before args0 about1 = true := code_word (m := ⟨1, 2⟩) (meth := k1m2) (c := k1c2) (by decide +kernel) rfl rfl rfl (by decide +kernel)
def codes1 : List Jvm.Cond := [Jvm.Cond.code x code maxLocals ret, Jvm.Cond.code ({ cls := "com/example/eider/eider/encoding/ByteReader", name := "<init>", desc := "([BLjava/lang/String;)V" } : Jvm.MethodName) prog_6_method_1_code (3 : Nat) (Option.none : Option Jvm.ClassFile.FieldType), Jvm.Cond.code ({ cls := "java/lang/Object", name := "<init>", desc := "()V" } : Jvm.MethodName) object_method_1_code (1 : Nat) (Option.none : Option Jvm.ClassFile.FieldType), Jvm.Cond.code ({ cls := "com/example/eider/eider/encoding/ByteReader", name := "bytes", desc := "(ILjava/lang/String;)[B" } : Jvm.MethodName) prog_6_method_7_code (4 : Nat) (Option.some (Jvm.ClassFile.FieldType.array Jvm.ClassFile.FieldType.byte)), Jvm.Cond.code ({ cls := "com/example/eider/eider/encoding/ByteReader", name := "require", desc := "(JLjava/lang/String;)V" } : Jvm.MethodName) prog_6_method_14_code (4 : Nat) (Option.none : Option Jvm.ClassFile.FieldType), Jvm.Cond.code ({ cls := "com/example/eider/eider/encoding/ByteReader", name := "require", desc := "(JLjava/lang/String;Ljava/lang/String;)V" } : Jvm.MethodName) prog_6_method_15_code (5 : Nat) (Option.none : Option Jvm.ClassFile.FieldType), Jvm.Cond.code ({ cls := "com/example/eider/eider/encoding/ByteReader", name := "remaining", desc := "()I" } : Jvm.MethodName) prog_6_method_13_code (1 : Nat) (Option.some Jvm.ClassFile.FieldType.int), Jvm.Cond.code ({ cls := "java/util/Arrays", name := "copyOfRange", desc := "([BII)[B" } : Jvm.MethodName) jdk_65_method_132_code (3 : Nat) (Option.some (Jvm.ClassFile.FieldType.array Jvm.ClassFile.FieldType.byte)), Jvm.Cond.code ({ cls := "java/util/Arrays", name := "copyOfRangeByte", desc := "([BII)[B" } : Jvm.MethodName) jdk_65_method_133_code (5 : Nat) (Option.some (Jvm.ClassFile.FieldType.array Jvm.ClassFile.FieldType.byte)), Jvm.Cond.code ({ cls := "java/util/Arrays", name := "checkLength", desc := "(II)V" } : Jvm.MethodName) jdk_65_method_131_code (2 : Nat) (Option.none : Option Jvm.ClassFile.FieldType), Jvm.Cond.code ({ cls := "java/lang/Math", name := "min", desc := "(II)I" } : Jvm.MethodName) jdk_29_method_69_code (2 : Nat) (Option.some Jvm.ClassFile.FieldType.int), Jvm.Cond.code ({ cls := "com/example/eider/eider/encoding/ByteReader", name := "bytesSince", desc := "(I)[B" } : Jvm.MethodName) prog_6_method_12_code (2 : Nat) (Option.some (Jvm.ClassFile.FieldType.array Jvm.ClassFile.FieldType.byte)), Jvm.Cond.code ({ cls := "com/example/eider/eider/encoding/ByteReaderBytesSincePinLaw", name := "at", desc := "([B[BIII)Z" } : Jvm.MethodName) method_3_code (5 : Nat) (Option.some Jvm.ClassFile.FieldType.boolean)]
set_option maxRecDepth 65536 in
theorem codes_eq : words1.filter isCode = codes1 := rfl
theorem w_codes : ∀ c ∈ words1.filter isCode, c.before args0 about1 = true := by
  rw [codes_eq]
  intro c hc
  simp only [codes1, List.mem_cons, List.not_mem_nil, or_false] at hc
  rcases hc with rfl | rfl | rfl | rfl | rfl | rfl | rfl | rfl | rfl | rfl | rfl | rfl | rfl
  · exact w_c0
  · exact w_c1
  · exact w_c2
  · exact w_c3
  · exact w_c4
  · exact w_c5
  · exact w_c6
  · exact w_c7
  · exact w_c8
  · exact w_c9
  · exact w_c10
  · exact w_c11
  · exact w_c12
set_option maxRecDepth 65536 in
theorem w_t1 : (words1.take 24).all (fun c => isCode c || c.before args0 about1) = true := by decide +kernel
set_option maxRecDepth 65536 in
theorem w_t2 : ((words1.drop 24).take 24).all (fun c => isCode c || c.before args0 about1) = true := by decide +kernel
set_option maxRecDepth 65536 in
theorem w_t3 : (((words1.drop 24).drop 24).take 24).all (fun c => isCode c || c.before args0 about1) = true := by decide +kernel
set_option maxRecDepth 65536 in
theorem w_t4 : (((words1.drop 24).drop 24).drop 24).all (fun c => isCode c || c.before args0 about1) = true := by decide +kernel
theorem w_tables : (allAtoms (Jvm.Cond.code x code maxLocals ret :: tables_1)).before args0 about1 = true := by
  rw [allAtoms_all]
  show words1.all (fun c => c.before args0 about1) = true
  refine all_split ?_ w_codes
  rw [← List.take_append_drop 24 words1, List.all_append, w_t1, ← List.take_append_drop 24 (words1.drop 24), List.all_append, w_t2, ← List.take_append_drop 24 ((words1.drop 24).drop 24), List.all_append, w_t3, w_t4]
  rfl
set_option maxRecDepth 65536 in
theorem w_case : (Jvm.Cond.and given_1 narrow_1).before args0 about1 = true := by decide +kernel
theorem w_applies : (headSpec (Jvm.Cond.code x code maxLocals ret :: tables_1) room_1).applies x e0.platform about1 = true :=
  (Spec.applies_iff w_frames).mpr ⟨w_running, w_runnable, w_alone, w_named, w_hears, w_ripe, w_room, w_tables⟩
theorem atStart : AtStart classFile x code maxLocals ret World_1 tables_1 room_1 Calls_1 rest_1 Pre_1 launch0 p0 e0 about1 theMethod args0 below0 :=
  ⟨lists_1, trivial, launch0.admits_env _ _ _, launch0.least_env, fairChoices_fair.cas, fairChoices_fair.clock, w_frames, w_args, w_heap, w_applies, trivial, trivial, w_case⟩
end start1
theorem witness_1 : WitnessClaimed_1 := ⟨start1.p0, start1.e0, start1.about1, start1.theMethod, start1.args0, start1.below0, start1.atStart⟩
end Jvm.Pilot.@@N@@
