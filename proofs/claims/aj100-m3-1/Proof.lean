import JvmDerived
import JvmDerived.Pilot.@@N@@Statement
import JvmDerived.Pilot.@@N@@Code
set_option linter.unusedVariables false
set_option linter.unusedSimpArgs false
namespace Jvm.RoadKit
open Sem ClassFile Op Lib Jvm.Stand Jvm.Free Jvm.LawKit
section New
variable {p : Program} {l : Launch} {e : Env} {R : Room} {s : State} {m : MethodId} {args : Array Value} {below : List Frame} {meth : Method} {c : Code} {T : State} {locs : List Loc} {cells slots : Nat}
theorem retI (X : Stand p l e R s m args below meth c T locs cells slots) (hx : p.tables.exec = Jvm.exec) {pc : Nat} {Ls : Array Slot} {z : Int32} {rest : List Value} (hret : meth.sig.returnType = some .int) (hd : decode c.code pc = .ok (.ireturn, 1)) {fs : List Frame}
    (hl : ∀ (f : JFrame) (acts : List Action), f.method = m → f.locked = none → f.entered = [] → (doReturn e (T.setTop f) acts (some (.int z))).1 = T.setFrames fs) : Steps p.tables e below (T.setTop (mkF m pc Ls (.int z :: rest))) (T.setFrames fs) := by
  have hm' : T.vm.method? m = some meth := X.method'
  have hn : narrow .int (.int z) = .int z := rfl
  show Steps p.tables e below (T.setTop { method := m, pc := pc, locals := Ls, stack := _ :: rest, locked := none }) _
  jvm_step X.here [X.here.top, hx, hd, hm', hret, hn]
  first | (intro acts; rw [hl _ acts rfl rfl rfl]) | rw [hl _ _ rfl rfl rfl]
  exact Steps.refl _
theorem retJ (X : Stand p l e R s m args below meth c T locs cells slots) (hx : p.tables.exec = Jvm.exec) {pc : Nat} {Ls : Array Slot} {z : Int64} {rest : List Value} (hret : meth.sig.returnType = some .long) (hd : decode c.code pc = .ok (.lreturn, 1)) {fs : List Frame}
    (hl : ∀ (f : JFrame) (acts : List Action), f.method = m → f.locked = none → f.entered = [] → (doReturn e (T.setTop f) acts (some (.long z))).1 = T.setFrames fs) : Steps p.tables e below (T.setTop (mkF m pc Ls (.long z :: rest))) (T.setFrames fs) := by
  have hm' : T.vm.method? m = some meth := X.method'
  have hn : narrow .long (.long z) = .long z := rfl
  show Steps p.tables e below (T.setTop { method := m, pc := pc, locals := Ls, stack := _ :: rest, locked := none }) _
  jvm_step X.here [X.here.top, hx, hd, hm', hret, hn]
  first | (intro acts; rw [hl _ acts rfl rfl rfl]) | rw [hl _ _ rfl rfl rfl]
  exact Steps.refl _
end New
end Jvm.RoadKit
namespace Jvm.Pilot.@@N@@
open Jvm Jvm.ClassFile Sem Op Lib Jvm.Free Jvm.Stand Jvm.LawKit Jvm.RoadKit Bundle Jvm.Pilot.@@N@@.Jvm.D
def ArF (Z : State) (h : Heap) (a : Addr) (ty : FieldType) (n : Nat) (f : Nat → Value) : Prop := ∃ c : Cell, Arr Z h a c ty ∧ c.slots.size = n ∧ ∀ i, i < n → c.slots[i]? = some (f i)
theorem ArF.lt {Z : State} {h : Heap} {a : Addr} {ty : FieldType} {n : Nat} {f : Nat → Value} (F : ArF Z h a ty n f) : a < h.size := by obtain ⟨c, A, -⟩ := F; exact A.lt
theorem ArF.ext {Z : State} {h h' : Heap} {a : Addr} {ty : FieldType} {n : Nat} {f : Nat → Value} (F : ArF Z h a ty n f) (E : Ext h h') : ArF Z h' a ty n f := by obtain ⟨c, A, r⟩ := F; exact ⟨c, A.ext E, r⟩
theorem ArF.other {Z : State} {h h' : Heap} {a b : Addr} {ty : FieldType} {n sl : Nat} {f : Nat → Value} {v : Value} (F : ArF Z h b ty n f) (W : Wr h h' a sl v) (q : b ≠ a) : ArF Z h' b ty n f := by obtain ⟨c, A, r⟩ := F; exact ⟨c, A.other W q, r⟩
theorem ArF.keep {Z : State} {h h' : Heap} {a : Addr} {ty : FieldType} {n : Nat} {f : Nat → Value} {ws : List Addr} (F : ArF Z h a ty n f) (K : Keep h h' ws) (q : a ∉ ws) : ArF Z h' a ty n f := by obtain ⟨c, A, r⟩ := F; exact ⟨c, ⟨K.2.1 a c A.1 q, A.2⟩, r⟩
theorem ArF.mk0 {Z : State} {h : Heap} {a : Addr} {ty : FieldType} {k : ClassId} {z : Int32} {n : Nat} {v : Value} (A : Arr Z h a (newA k ty z) ty) (hn : z.toNatClampNeg = n) (hv : defaultValue ty = v) : ArF Z h a ty n (fun _ => v) := by
  subst hn hv
  refine ⟨_, A, sz_new _ _ _, fun i hi => ?_⟩
  show (Array.replicate _ _)[i]? = _
  rw [Array.getElem?_replicate, if_pos hi]
theorem ArF.set {Z : State} {h h' : Heap} {a : Addr} {ty : FieldType} {n : Nat} {f : Nat → Value} {c : Cell} {j : Int32} {v : Value} (A : Arr Z h a c ty) (S : c.slots.size = n) (H : ∀ i, i < n → c.slots[i]? = some (f i)) (W : Wr h h' a j.toNatClampNeg v) (hj : ¬ (j < 0 ∨ c.slots.size ≤ j.toNatClampNeg)) : ArF Z h' a ty n (fun i => if i = j.toNatClampNeg then v else f i) := by
  refine ⟨_, A.same W, by rw [sz_set]; exact S, fun i hi => ?_⟩
  have hjl : j.toNatClampNeg < c.slots.size := Nat.lt_of_not_le fun y => hj (Or.inr y)
  show (c.slots.setIfInBounds j.toNatClampNeg v)[i]? = some (if i = j.toNatClampNeg then v else f i)
  rw [Array.getElem?_setIfInBounds]
  by_cases e : j.toNatClampNeg = i
  · rw [if_pos e, if_pos hjl, if_pos e.symm]
  · rw [if_neg e, if_neg (Ne.symm e)]; exact H i hi
theorem ArF.at {n : Nat} {f : Nat → Value} {c : Cell} {j : Int32} {v : Value} (S : c.slots.size = n) (H : ∀ i, i < n → c.slots[i]? = some (f i)) (hj : ¬ (j < 0 ∨ c.slots.size ≤ j.toNatClampNeg)) (e : f j.toNatClampNeg = v) : c.slots[j.toNatClampNeg]? = some v := by
  rw [← e]; exact H _ (S ▸ Nat.lt_of_not_le fun y => hj (Or.inr y))
theorem inA {n : Nat} {c : Cell} {j : Int32} (S : c.slots.size = n) (h0 : ¬ j < 0) (h1 : j.toNatClampNeg < n) : ¬ (j < 0 ∨ c.slots.size ≤ j.toNatClampNeg) := fun q => q.elim h0 fun r => Nat.not_lt.mpr (S ▸ r) h1
theorem ArF.congr {Z : State} {h : Heap} {a : Addr} {ty : FieldType} {n : Nat} {f g : Nat → Value} (F : ArF Z h a ty n f) (q : ∀ i, i < n → f i = g i) : ArF Z h a ty n g := by obtain ⟨c, A, S, H⟩ := F; exact ⟨c, A, S, fun i hi => (H i hi).trans (congrArg some (q i hi))⟩
theorem Sta.keep0 {Z : State} {h h' : Heap} {C n d : String} {v : Value} (F : Sta Z h C n d v) (K : Keep h h' []) : Sta Z h' C n d v := by obtain ⟨cf, i, k, f, st, cell, h1, h2, h3, h4, h5, r⟩ := F; exact ⟨cf, i, k, f, st, cell, h1, h2, h3, h4, K.2.1 _ _ h5 nin0, r⟩
theorem pd_0 : parseMethodDescriptor "(II)I" = some ⟨[.int, .int], some .int⟩ := by decide +kernel
theorem pd_1 : parseMethodDescriptor "([JI)[J" = some ⟨[(.array .long), .int], some (.array .long)⟩ := by decide +kernel
theorem pd_2 : parseMethodDescriptor "()V" = some ⟨[], none⟩ := by decide +kernel
theorem pd_3 : parseMethodDescriptor "(J)J" = some ⟨[.long], some .long⟩ := by decide +kernel
theorem pd_4 : parseMethodDescriptor "(JJJJ)V" = some ⟨[.long, .long, .long, .long], none⟩ := by decide +kernel
theorem pd_5 : parseMethodDescriptor "()Lnachbar/sim/Summary;" = some ⟨[], some (.object "nachbar/sim/Summary")⟩ := by decide +kernel
theorem pd_6 : parseMethodDescriptor "()J" = some ⟨[], some .long⟩ := by decide +kernel
theorem pd_7 : parseMethodDescriptor "(I)V" = some ⟨[.int], none⟩ := by decide +kernel
def own_max (p1 : Int32) (p2 : Int32) : Int32 := if p1 < p2 then p2 else p1
theorem d12_0 : decode jdk_29_method_65_code 0 = .ok (.iload_n 0, 1) := by decide +kernel
theorem d12_1 : decode jdk_29_method_65_code 1 = .ok (.iload_n 1, 1) := by decide +kernel
theorem d12_2 : decode jdk_29_method_65_code 2 = .ok (.if_icmp .lt 7, 3) := by decide +kernel
theorem d12_5 : decode jdk_29_method_65_code 5 = .ok (.iload_n 0, 1) := by decide +kernel
theorem d12_6 : decode jdk_29_method_65_code 6 = .ok (.goto 4, 3) := by decide +kernel
theorem d12_9 : decode jdk_29_method_65_code 9 = .ok (.iload_n 1, 1) := by decide +kernel
theorem d12_10 : decode jdk_29_method_65_code 10 = .ok (.ireturn, 1) := by decide +kernel
theorem ef_rmx (m : MethodId) (x0 : Int32) (x1 : Int32) : entryFrame m #[(.int x0), (.int x1)] 2 = mkF m 0 #[.val (.int x0), .val (.int x1)] [] := by first | (simp [entryFrame, mkF, argsToLocals, Value.category]; done) | rfl
def Q_rmx (Z : State) (p1 : Int32) (p2 : Int32) (h0 : Heap) (n0 : Nat) (v : Option Value) (h : Heap) (L : List Loc) : Prop := v = some (.int (own_max p1 p2)) ∧ Fr n0 L ∧ h = h0
set_option maxRecDepth 65536 in
set_option maxHeartbeats 40000000 in
theorem rmx (l : Launch) (Z : State) (a0 : Array Value) (hw : ∀ d ∈ tables_1, d.before a0 Z = true) (ws : List Jvm.Cond) (p1 : Int32) (p2 : Int32) (h0 : Heap) (n0 : Nat) (Z0 : n0 ≤ h0.size) :
    MetFree l (⟨"java/lang/Math", "max", "(II)I"⟩ : MethodName) (head1 (Jvm.Cond.code (⟨"java/lang/Math", "max", "(II)I"⟩ : MethodName) jdk_29_method_65_code 2 (some .int) :: ws) ({ frames := 0, cells := 0, slots := 0, locals := 0 } : Room)) (fun a U => a = #[(.int p1), (.int p2)] ∧ Z.Warmed39 U.vm ∧ U.heap = h0) (fun _ _ _ _ _ => True) (fun _ U o U' => ∃ v L, o = .returned v ∧ Q_rmx Z p1 p2 h0 n0 v U'.heap L ∧ FrameEnd U o U' L ({ frames := 0, cells := 0, slots := 0, locals := 0 } : Room).cells ({ frames := 0, cells := 0, slots := 0, locals := 0 } : Room).slots) := by
  refine MetFree.of_bodySF (Jvm.Free.JP.mathPlain rfl (by decide +kernel)) hisR ?_
  intro p e s m args below meth c s₁ Bd hml0 hP hK
  obtain ⟨rfl, hZ, hh⟩ := hP
  have hx := Bd.exec
  have hby := Bd.bytes
  have hml : c.maxLocals = 2 := hml0
  have hown : s.vm.findClass "java/lang/Math" = some m.cls := findClass_of_methodNamed Bd.named
  have hnm := (name_of_methodNamed Bd.named Bd.method).1
  have X0 : Stand p l e ({ frames := 0, cells := 0, slots := 0, locals := 0 } : Room) s m #[(.int p1), (.int p2)] below meth c s₁ [] 0 0 := Stand.of_body Bd
  have e0 : s₁.heap = h0 := by rw [← hh, Bd.state]; rfl
  have N0 := Fr.nil n0
  have pre0 : ∀ t, Steps p.tables e below (s₁.setTop (mkF m 0 #[.val (.int p1), .val (.int p2)] [])) t → Steps p.tables e below (s₁.setTop (entryFrame m #[(.int p1), (.int p2)] 2)) t := fun t k => castTop (ef_rmx m p1 p2) k
  have pre1 : ∀ t, Steps p.tables e below (s₁.setTop (mkF m 2 #[.val (.int p1), .val (.int p2)] [(.int p2), (.int p1)])) t → Steps p.tables e below (s₁.setTop (entryFrame m #[(.int p1), (.int p2)] 2)) t := by
    intro t k
    refine pre0 t ?_
    show Steps p.tables e below (s₁.setTop (mkF m 0 #[.val (.int p1), .val (.int p2)] [])) _
    refine XS.iloadN X0.here hx rfl (hb hby d12_0) rfl ?_
    show Steps p.tables e below (s₁.setTop (mkF m 1 #[.val (.int p1), .val (.int p2)] [(.int p1)])) _
    refine XS.iloadN X0.here hx rfl (hb hby d12_1) rfl ?_
    exact k
  by_cases hc2_2 : p1 < p2
  · obtain ⟨fs, hr, hrun, hended, hW, hsame⟩ := X0.leave (v := some (.int p2)) (fun h => by rw [Bd.returns] at h; cases h)
    refine ⟨_, _, pre1 _ ?_, hrun, hended, _, _, rfl, ?_, ⟨_, rfl⟩, hW, hsame.mono (by decide) (by decide)⟩
    · show Steps p.tables e below (s₁.setTop (mkF m 2 #[.val (.int p1), .val (.int p2)] [(.int p2), (.int p1)])) _
      refine XS.icmpYes X0.here hx rfl (pc0 := 2) (pc' := 9) rfl (hb hby d12_2) rfl (tlt hc2_2).1 (by decide) (by decide) ?_
      show Steps p.tables e below (s₁.setTop (mkF m 9 #[.val (.int p1), .val (.int p2)] [])) _
      refine XS.iloadN X0.here hx rfl (hb hby d12_9) rfl ?_
      show Steps p.tables e below (s₁.setTop (mkF m 10 #[.val (.int p1), .val (.int p2)] [(.int p2)])) _
      exact retI X0 hx Bd.returns (hb hby d12_10) hr
    · show Q_rmx Z p1 p2 h0 n0 _ s₁.heap _
      rw [e0]
      exact ⟨by rw [own_max, if_pos hc2_2], N0, rfl⟩
  · obtain ⟨fs, hr, hrun, hended, hW, hsame⟩ := X0.leave (v := some (.int p1)) (fun h => by rw [Bd.returns] at h; cases h)
    refine ⟨_, _, pre1 _ ?_, hrun, hended, _, _, rfl, ?_, ⟨_, rfl⟩, hW, hsame.mono (by decide) (by decide)⟩
    · show Steps p.tables e below (s₁.setTop (mkF m 2 #[.val (.int p1), .val (.int p2)] [(.int p2), (.int p1)])) _
      refine XS.icmpNo X0.here hx rfl (hb hby d12_2) rfl (flt hc2_2).1 ?_
      show Steps p.tables e below (s₁.setTop (mkF m 5 #[.val (.int p1), .val (.int p2)] [])) _
      refine XS.iloadN X0.here hx rfl (hb hby d12_5) rfl ?_
      show Steps p.tables e below (s₁.setTop (mkF m 6 #[.val (.int p1), .val (.int p2)] [(.int p1)])) _
      refine XS.goto X0.here hx rfl (pc0 := 6) (pc' := 10) rfl (hb hby d12_6) (by decide) (by decide) ?_
      show Steps p.tables e below (s₁.setTop (mkF m 10 #[.val (.int p1), .val (.int p2)] [(.int p1)])) _
      exact retI X0 hx Bd.returns (hb hby d12_10) hr
    · show Q_rmx Z p1 p2 h0 n0 _ s₁.heap _
      rw [e0]
      exact ⟨by rw [own_max, if_neg hc2_2], N0, rfl⟩
def own_min (p1 : Int32) (p2 : Int32) : Int32 := if p2 < p1 then p2 else p1
theorem d14_0 : decode jdk_29_method_69_code 0 = .ok (.iload_n 0, 1) := by decide +kernel
theorem d14_1 : decode jdk_29_method_69_code 1 = .ok (.iload_n 1, 1) := by decide +kernel
theorem d14_2 : decode jdk_29_method_69_code 2 = .ok (.if_icmp .gt 7, 3) := by decide +kernel
theorem d14_5 : decode jdk_29_method_69_code 5 = .ok (.iload_n 0, 1) := by decide +kernel
theorem d14_6 : decode jdk_29_method_69_code 6 = .ok (.goto 4, 3) := by decide +kernel
theorem d14_9 : decode jdk_29_method_69_code 9 = .ok (.iload_n 1, 1) := by decide +kernel
theorem d14_10 : decode jdk_29_method_69_code 10 = .ok (.ireturn, 1) := by decide +kernel
theorem ef_rmi (m : MethodId) (x0 : Int32) (x1 : Int32) : entryFrame m #[(.int x0), (.int x1)] 2 = mkF m 0 #[.val (.int x0), .val (.int x1)] [] := by first | (simp [entryFrame, mkF, argsToLocals, Value.category]; done) | rfl
def Q_rmi (Z : State) (p1 : Int32) (p2 : Int32) (h0 : Heap) (n0 : Nat) (v : Option Value) (h : Heap) (L : List Loc) : Prop := v = some (.int (own_min p1 p2)) ∧ Fr n0 L ∧ h = h0
set_option maxRecDepth 65536 in
set_option maxHeartbeats 40000000 in
theorem rmi (l : Launch) (Z : State) (a0 : Array Value) (hw : ∀ d ∈ tables_1, d.before a0 Z = true) (ws : List Jvm.Cond) (p1 : Int32) (p2 : Int32) (h0 : Heap) (n0 : Nat) (Z0 : n0 ≤ h0.size) :
    MetFree l (⟨"java/lang/Math", "min", "(II)I"⟩ : MethodName) (head1 (Jvm.Cond.code (⟨"java/lang/Math", "min", "(II)I"⟩ : MethodName) jdk_29_method_69_code 2 (some .int) :: ws) ({ frames := 0, cells := 0, slots := 0, locals := 0 } : Room)) (fun a U => a = #[(.int p1), (.int p2)] ∧ Z.Warmed39 U.vm ∧ U.heap = h0) (fun _ _ _ _ _ => True) (fun _ U o U' => ∃ v L, o = .returned v ∧ Q_rmi Z p1 p2 h0 n0 v U'.heap L ∧ FrameEnd U o U' L ({ frames := 0, cells := 0, slots := 0, locals := 0 } : Room).cells ({ frames := 0, cells := 0, slots := 0, locals := 0 } : Room).slots) := by
  refine MetFree.of_bodySF (Jvm.Free.JP.mathPlain rfl (by decide +kernel)) hisR ?_
  intro p e s m args below meth c s₁ Bd hml0 hP hK
  obtain ⟨rfl, hZ, hh⟩ := hP
  have hx := Bd.exec
  have hby := Bd.bytes
  have hml : c.maxLocals = 2 := hml0
  have hown : s.vm.findClass "java/lang/Math" = some m.cls := findClass_of_methodNamed Bd.named
  have hnm := (name_of_methodNamed Bd.named Bd.method).1
  have X0 : Stand p l e ({ frames := 0, cells := 0, slots := 0, locals := 0 } : Room) s m #[(.int p1), (.int p2)] below meth c s₁ [] 0 0 := Stand.of_body Bd
  have e0 : s₁.heap = h0 := by rw [← hh, Bd.state]; rfl
  have N0 := Fr.nil n0
  have pre0 : ∀ t, Steps p.tables e below (s₁.setTop (mkF m 0 #[.val (.int p1), .val (.int p2)] [])) t → Steps p.tables e below (s₁.setTop (entryFrame m #[(.int p1), (.int p2)] 2)) t := fun t k => castTop (ef_rmi m p1 p2) k
  have pre1 : ∀ t, Steps p.tables e below (s₁.setTop (mkF m 2 #[.val (.int p1), .val (.int p2)] [(.int p2), (.int p1)])) t → Steps p.tables e below (s₁.setTop (entryFrame m #[(.int p1), (.int p2)] 2)) t := by
    intro t k
    refine pre0 t ?_
    show Steps p.tables e below (s₁.setTop (mkF m 0 #[.val (.int p1), .val (.int p2)] [])) _
    refine XS.iloadN X0.here hx rfl (hb hby d14_0) rfl ?_
    show Steps p.tables e below (s₁.setTop (mkF m 1 #[.val (.int p1), .val (.int p2)] [(.int p1)])) _
    refine XS.iloadN X0.here hx rfl (hb hby d14_1) rfl ?_
    exact k
  by_cases hc2_2 : p2 < p1
  · obtain ⟨fs, hr, hrun, hended, hW, hsame⟩ := X0.leave (v := some (.int p2)) (fun h => by rw [Bd.returns] at h; cases h)
    refine ⟨_, _, pre1 _ ?_, hrun, hended, _, _, rfl, ?_, ⟨_, rfl⟩, hW, hsame.mono (by decide) (by decide)⟩
    · show Steps p.tables e below (s₁.setTop (mkF m 2 #[.val (.int p1), .val (.int p2)] [(.int p2), (.int p1)])) _
      refine XS.icmpYes X0.here hx rfl (pc0 := 2) (pc' := 9) rfl (hb hby d14_2) rfl (tlt hc2_2).2.2.1 (by decide) (by decide) ?_
      show Steps p.tables e below (s₁.setTop (mkF m 9 #[.val (.int p1), .val (.int p2)] [])) _
      refine XS.iloadN X0.here hx rfl (hb hby d14_9) rfl ?_
      show Steps p.tables e below (s₁.setTop (mkF m 10 #[.val (.int p1), .val (.int p2)] [(.int p2)])) _
      exact retI X0 hx Bd.returns (hb hby d14_10) hr
    · show Q_rmi Z p1 p2 h0 n0 _ s₁.heap _
      rw [e0]
      exact ⟨by rw [own_min, if_pos hc2_2], N0, rfl⟩
  · obtain ⟨fs, hr, hrun, hended, hW, hsame⟩ := X0.leave (v := some (.int p1)) (fun h => by rw [Bd.returns] at h; cases h)
    refine ⟨_, _, pre1 _ ?_, hrun, hended, _, _, rfl, ?_, ⟨_, rfl⟩, hW, hsame.mono (by decide) (by decide)⟩
    · show Steps p.tables e below (s₁.setTop (mkF m 2 #[.val (.int p1), .val (.int p2)] [(.int p2), (.int p1)])) _
      refine XS.icmpNo X0.here hx rfl (hb hby d14_2) rfl (flt hc2_2).2.2.1 ?_
      show Steps p.tables e below (s₁.setTop (mkF m 5 #[.val (.int p1), .val (.int p2)] [])) _
      refine XS.iloadN X0.here hx rfl (hb hby d14_5) rfl ?_
      show Steps p.tables e below (s₁.setTop (mkF m 6 #[.val (.int p1), .val (.int p2)] [(.int p1)])) _
      refine XS.goto X0.here hx rfl (pc0 := 6) (pc' := 10) rfl (hb hby d14_6) (by decide) (by decide) ?_
      show Steps p.tables e below (s₁.setTop (mkF m 10 #[.val (.int p1), .val (.int p2)] [(.int p1)])) _
      exact retI X0 hx Bd.returns (hb hby d14_10) hr
    · show Q_rmi Z p1 p2 h0 n0 _ s₁.heap _
      rw [e0]
      exact ⟨by rw [own_min, if_neg hc2_2], N0, rfl⟩
def own_rank (q1 : Int64) : Int64 := ((((99 : Int64) * q1) + (99 : Int64)) / (100 : Int64))
theorem d4_0 : decode prog_144_method_4_code 0 = .ok (.ldc2_w 38, 3) := by decide +kernel
theorem d4_3 : decode prog_144_method_4_code 3 = .ok (.lload_n 0, 1) := by decide +kernel
theorem d4_4 : decode prog_144_method_4_code 4 = .ok (.lmul, 1) := by decide +kernel
theorem d4_5 : decode prog_144_method_4_code 5 = .ok (.ldc2_w 38, 3) := by decide +kernel
theorem d4_8 : decode prog_144_method_4_code 8 = .ok (.ladd, 1) := by decide +kernel
theorem d4_9 : decode prog_144_method_4_code 9 = .ok (.ldc2_w 40, 3) := by decide +kernel
theorem d4_12 : decode prog_144_method_4_code 12 = .ok (.ldiv, 1) := by decide +kernel
theorem d4_13 : decode prog_144_method_4_code 13 = .ok (.lreturn, 1) := by decide +kernel
theorem pn_rmk : plainName "nachbar/sim/Summary" = true := by first | (simp [plainName, overriddenIn]; done) | decide +kernel
theorem ef_rmk (m : MethodId) (x0 : Int64) : entryFrame m #[(.long x0)] 2 = mkF m 0 #[.val (.long x0), .second] [] := by first | (simp [entryFrame, mkF, argsToLocals, Value.category]; done) | rfl
def Q_rmk (Z : State) (q1 : Int64) (h0 : Heap) (n0 : Nat) (v : Option Value) (h : Heap) (L : List Loc) : Prop := v = some (.long (own_rank q1)) ∧ Fr n0 L ∧ h = h0
set_option maxRecDepth 65536 in
set_option maxHeartbeats 40000000 in
theorem rmk (l : Launch) (Z : State) (a0 : Array Value) (hw : ∀ d ∈ tables_1, d.before a0 Z = true) (ws : List Jvm.Cond) (q1 : Int64) (h0 : Heap) (n0 : Nat) (Z0 : n0 ≤ h0.size) :
    MetFree l (⟨"nachbar/sim/Summary", "p99Rank", "(J)J"⟩ : MethodName) (head1 (Jvm.Cond.code (⟨"nachbar/sim/Summary", "p99Rank", "(J)J"⟩ : MethodName) prog_144_method_4_code 2 (some .long) :: ws) ({ frames := 0, cells := 0, slots := 0, locals := 0 } : Room)) (fun a U => a = #[(.long q1)] ∧ Z.Warmed39 U.vm ∧ U.heap = h0) (fun _ _ _ _ _ => True) (fun _ U o U' => ∃ v L, o = .returned v ∧ Q_rmk Z q1 h0 n0 v U'.heap L ∧ FrameEnd U o U' L ({ frames := 0, cells := 0, slots := 0, locals := 0 } : Room).cells ({ frames := 0, cells := 0, slots := 0, locals := 0 } : Room).slots) := by
  refine MetFree.of_bodySF (plainFor_of_name pn_rmk) hisR ?_
  intro p e s m args below meth c s₁ Bd hml0 hP hK
  obtain ⟨rfl, hZ, hh⟩ := hP
  have hx := Bd.exec
  have hby := Bd.bytes
  have hml : c.maxLocals = 2 := hml0
  have hown : s.vm.findClass "nachbar/sim/Summary" = some m.cls := findClass_of_methodNamed Bd.named
  have hnm := (name_of_methodNamed Bd.named Bd.method).1
  have X0 : Stand p l e ({ frames := 0, cells := 0, slots := 0, locals := 0 } : Room) s m #[(.long q1)] below meth c s₁ [] 0 0 := Stand.of_body Bd
  have e0 : s₁.heap = h0 := by rw [← hh, Bd.state]; rfl
  have N0 := Fr.nil n0
  have pre0 : ∀ t, Steps p.tables e below (s₁.setTop (mkF m 0 #[.val (.long q1), .second] [])) t → Steps p.tables e below (s₁.setTop (entryFrame m #[(.long q1)] 2)) t := fun t k => castTop (ef_rmk m q1) k
  obtain ⟨fs, hr, hrun, hended, hW, hsame⟩ := X0.leave (v := some (.long ((((99 : Int64) * q1) + (99 : Int64)) / (100 : Int64)))) (fun h => by rw [Bd.returns] at h; cases h)
  refine ⟨_, _, pre0 _ ?_, hrun, hended, _, _, rfl, ?_, ⟨_, rfl⟩, hW, hsame.mono (by decide) (by decide)⟩
  · show Steps p.tables e below (s₁.setTop (mkF m 0 #[.val (.long q1), .second] [])) _
    refine X0.ldc2Long hx hown (mvT hZ (hw _ (List.mem_of_getElem? (i := 24) rfl))) (g := (mkF m 0 #[.val (.long q1), .second] [])) rfl (hb hby d4_0) _ ?_
    show Steps p.tables e below (s₁.setTop (mkF m 3 #[.val (.long q1), .second] [(.long (99 : Int64))])) _
    refine XS.lloadN X0.here hx rfl (hb hby d4_3) rfl ?_
    show Steps p.tables e below (s₁.setTop (mkF m 4 #[.val (.long q1), .second] [(.long q1), (.long (99 : Int64))])) _
    refine XS.lmul X0.here hx rfl (hb hby d4_4) rfl ?_
    show Steps p.tables e below (s₁.setTop (mkF m 5 #[.val (.long q1), .second] [(.long ((99 : Int64) * q1))])) _
    refine X0.ldc2Long hx hown (mvT hZ (hw _ (List.mem_of_getElem? (i := 24) rfl))) (g := (mkF m 5 #[.val (.long q1), .second] [(.long ((99 : Int64) * q1))])) rfl (hb hby d4_5) _ ?_
    show Steps p.tables e below (s₁.setTop (mkF m 8 #[.val (.long q1), .second] [(.long (99 : Int64)), (.long ((99 : Int64) * q1))])) _
    refine XS.ladd X0.here hx rfl (hb hby d4_8) rfl ?_
    show Steps p.tables e below (s₁.setTop (mkF m 9 #[.val (.long q1), .second] [(.long (((99 : Int64) * q1) + (99 : Int64)))])) _
    refine X0.ldc2Long hx hown (mvT hZ (hw _ (List.mem_of_getElem? (i := 25) rfl))) (g := (mkF m 9 #[.val (.long q1), .second] [(.long (((99 : Int64) * q1) + (99 : Int64)))])) rfl (hb hby d4_9) _ ?_
    show Steps p.tables e below (s₁.setTop (mkF m 12 #[.val (.long q1), .second] [(.long (100 : Int64)), (.long (((99 : Int64) * q1) + (99 : Int64)))])) _
    refine XS.ldiv X0.here hx rfl (hb hby d4_12) rfl (by decide) ?_
    show Steps p.tables e below (s₁.setTop (mkF m 13 #[.val (.long q1), .second] [(.long ((((99 : Int64) * q1) + (99 : Int64)) / (100 : Int64)))])) _
    exact retJ X0 hx Bd.returns (hb hby d4_13) hr
  · show Q_rmk Z q1 h0 n0 _ s₁.heap _
    rw [e0]
    exact ⟨by rw [own_rank], N0, rfl⟩
def own_inc (g : Nat → Int64) (x : Int32) (i : Nat) : Int64 := if i = x.toNatClampNeg then g i + (1 : Int64) else g i
def own_pre (g : Nat → Int64) : Nat → Int64
  | 0 => g 0
  | i + 1 => own_pre g i + g (i + 1)
def own_nz (p z : Int32) : Int32 := own_max (p + (1 : Int32)) ((2 : Int32) * z)
def own_z (p z : Int32) : Int32 := if p < z then z else own_nz p z
theorem ArF.arv {Z : State} {h : Heap} {a : Addr} {ty : FieldType} {z : Int32} {f : Nat → Value} (F : ArF Z h a ty z.toNatClampNeg f) (hz : ¬ z < 0) (hf : ∀ i, fits ty (f i) = true) (d : Value) : ∃ k, Arv Z h a k ty z ((List.range z.toNatClampNeg).map f) d := by
  obtain ⟨c, A, S, H⟩ := F
  have gd : ∀ i, i < z.toNatClampNeg → ((List.range z.toNatClampNeg).map f).getD i d = f i := fun i hi => by
    rw [List.getD_eq_getElem?_getD, List.getElem?_map, List.getElem?_range hi]; rfl
  exact ⟨c.cls, c, A, rfl, S, hz, fun i hi => by rw [gd i (S ▸ hi)]; exact H i (S ▸ hi), fun i hi => by rw [gd i (S ▸ hi)]; exact hf i⟩
theorem Arv.arF {Z : State} {h : Heap} {a : Addr} {k : ClassId} {ty : FieldType} {z : Int32} {vs : List Value} {d : Value} (F : Arv Z h a k ty z vs d) : ArF Z h a ty z.toNatClampNeg (fun i => vs.getD i d) := by
  obtain ⟨c, A, -, S, -, H, -⟩ := F
  exact ⟨c, A, S, fun i hi => H i (S.symm ▸ hi)⟩
theorem own_minE {z p : Int32} (h : z < p) : own_min z p = z := by
  unfold own_min
  rw [if_neg (fun q => absurd (Int32.lt_trans h q) (by simp [Int32.lt_irrefl]))]
theorem own_lt {z p : Int32} (h : z < p) : z.toInt < p.toInt := Int32.lt_iff_toInt_lt.mp h
theorem own_nn {x : Int32} (h : ¬ x < 0) : 0 ≤ x.toInt := by rw [Int32.lt_iff_toInt_lt, show (0 : Int32).toInt = 0 from by decide] at h; omega
theorem own_neg {x : Int32} (h : 0 ≤ x.toInt) : ¬ x < 0 := by rw [Int32.lt_iff_toInt_lt, show (0 : Int32).toInt = 0 from by decide]; omega
theorem own_le {z p : Int32} (hz : ¬ z < 0) (h : z < p) : ¬ p < 0 ∧ z.toNatClampNeg < p.toNatClampNeg := by
  have h1 := own_lt h
  have h2 := own_nn hz
  have hp : ¬ p < 0 := own_neg (by omega)
  have := nat_of hz
  have := nat_of hp
  exact ⟨hp, by omega⟩
theorem own_cpy (g : Nat → Int64) (n m : Nat) (i : Nat) (hn : n ≤ m) (hi : i < m) : ((((List.range m).map fun _ => Value.long 0).take 0 ++ ((List.range n).map fun i => ((List.range n).map fun i => Value.long (g i)).getD (0 + i) .null)) ++ ((List.range m).map fun _ => Value.long 0).drop (0 + n)).getD i .null = Value.long (if i < n then g i else 0) := by
  rw [List.take_zero, List.nil_append, List.getD_eq_getElem?_getD]
  by_cases h : i < n
  · rw [if_pos h, List.getElem?_append_left (by simpa using h), List.getElem?_map, List.getElem?_range h]
    simp [h]
  · rw [if_neg h, List.getElem?_append_right (by simpa using Nat.le_of_not_lt h), List.getElem?_drop, List.getElem?_map]
    have h2 : 0 + n + (i - ((List.range n).map fun i => ((List.range n).map fun i => Value.long (g i)).getD (0 + i) .null).length) = i := by simp; omega
    rw [h2, List.getElem?_range hi]; rfl
theorem d6_0 : decode jdk_30_method_1_code 0 = .ok (.aload_n 0, 1) := by decide +kernel
theorem d6_1 : decode jdk_30_method_1_code 1 = .ok (.invokespecial 1, 3) := by decide +kernel
theorem d6_4 : decode jdk_30_method_1_code 4 = .ok (.return_, 1) := by decide +kernel
theorem pn_rmr : plainName "java/lang/Record" = true := by first | (simp [plainName, overriddenIn]; done) | decide +kernel
theorem ef_rmr (m : MethodId) (x0 : Addr) : entryFrame m #[(.ref x0)] 1 = mkF m 0 #[.val (.ref x0)] [] := by first | (simp [entryFrame, mkF, argsToLocals, Value.category]; done) | rfl
def Q_rmr (Z : State) (a1 : Addr) (h0 : Heap) (n0 : Nat) (v : Option Value) (h : Heap) (L : List Loc) : Prop := v = none ∧ Fr n0 L ∧ h = h0
set_option maxRecDepth 65536 in
set_option maxHeartbeats 40000000 in
theorem rmr (l : Launch) (Z : State) (a0 : Array Value) (hw : ∀ d ∈ tables_1, d.before a0 Z = true) (ws : List Jvm.Cond) (a1 : Addr) (h0 : Heap) (n0 : Nat) (Z0 : n0 ≤ h0.size) :
    MetFree l (⟨"java/lang/Record", "<init>", "()V"⟩ : MethodName) (head1 (Jvm.Cond.code (⟨"java/lang/Record", "<init>", "()V"⟩ : MethodName) jdk_30_method_1_code 1 none :: ws) ({ frames := 1, cells := 0, slots := 0, locals := 12 } : Room)) (fun a U => a = #[(.ref a1)] ∧ Z.Warmed39 U.vm ∧ U.heap = h0) (fun _ _ _ _ _ => True) (fun _ U o U' => ∃ v L, o = .returned v ∧ Q_rmr Z a1 h0 n0 v U'.heap L ∧ FrameEnd U o U' L ({ frames := 1, cells := 0, slots := 0, locals := 12 } : Room).cells ({ frames := 1, cells := 0, slots := 0, locals := 12 } : Room).slots) := by
  refine MetFree.of_bodySF (plainFor_of_name pn_rmr) hisR ?_
  intro p e s m args below meth c s₁ Bd hml0 hP hK
  obtain ⟨rfl, hZ, hh⟩ := hP
  have hx := Bd.exec
  have hby := Bd.bytes
  have hml : c.maxLocals = 1 := hml0
  have hown : s.vm.findClass "java/lang/Record" = some m.cls := findClass_of_methodNamed Bd.named
  have hnm := (name_of_methodNamed Bd.named Bd.method).1
  have X0 : Stand p l e ({ frames := 1, cells := 0, slots := 0, locals := 12 } : Room) s m #[(.ref a1)] below meth c s₁ [] 0 0 := Stand.of_body Bd
  have e0 : s₁.heap = h0 := by rw [← hh, Bd.state]; rfl
  have N0 := Fr.nil n0
  have pre0 : ∀ t, Steps p.tables e below (s₁.setTop (mkF m 0 #[.val (.ref a1)] [])) t → Steps p.tables e below (s₁.setTop (entryFrame m #[(.ref a1)] 1)) t := fun t k => castTop (ef_rmr m a1) k
  obtain ⟨T1, X1, e1, st1⟩ := initO X0 hx hZ hown (hw _ (List.mem_of_getElem? (i := 40) rfl)) (hw _ (List.mem_of_getElem? (i := 8) rfl)) (hw _ (List.mem_of_getElem? (i := 9) rfl)) e0 (g := (mkF m 1 #[.val (.ref a1)] [(.ref a1)])) rfl (by rw [hml]; rfl) rfl (hb hby d6_1) (by decide) (W := 0) (by show 2 * 0 + _ ≤ _; exact Nat.le_of_eq rfl) (by decide)
  obtain ⟨fs, hr, hrun, hended, hW, hsame⟩ := X1.leave (v := none) (fun _ => rfl)
  refine ⟨_, _, pre0 _ ?_, hrun, hended, _, _, rfl, ?_, ⟨_, rfl⟩, hW, hsame.mono (by decide) (by decide)⟩
  · show Steps p.tables e below (s₁.setTop (mkF m 0 #[.val (.ref a1)] [])) _
    refine XS.aloadN X0.here hx rfl (hb hby d6_0) rfl rfl ?_
    show Steps p.tables e below (s₁.setTop (mkF m 1 #[.val (.ref a1)] [(.ref a1)])) _
    refine st1 _ ?_
    show Steps p.tables e below (T1.setTop (mkF m 4 #[.val (.ref a1)] [])) _
    exact X1.returnOut hx Bd.returns (hb hby d6_4) hr
  · show Q_rmr Z a1 h0 n0 _ T1.heap _
    rw [e1]
    exact ⟨rfl, N0, rfl⟩
theorem d13_0 : decode jdk_65_method_124_code 0 = .ok (.iload_n 1, 1) := by decide +kernel
theorem d13_1 : decode jdk_65_method_124_code 1 = .ok (.aload_n 0, 1) := by decide +kernel
theorem d13_2 : decode jdk_65_method_124_code 2 = .ok (.arraylength, 1) := by decide +kernel
theorem d13_3 : decode jdk_65_method_124_code 3 = .ok (.if_icmp .ne 11, 3) := by decide +kernel
theorem d13_14 : decode jdk_65_method_124_code 14 = .ok (.iload_n 1, 1) := by decide +kernel
theorem d13_15 : decode jdk_65_method_124_code 15 = .ok (.newarray .long, 2) := by decide +kernel
theorem d13_17 : decode jdk_65_method_124_code 17 = .ok (.astore_n 2, 1) := by decide +kernel
theorem d13_18 : decode jdk_65_method_124_code 18 = .ok (.aload_n 0, 1) := by decide +kernel
theorem d13_19 : decode jdk_65_method_124_code 19 = .ok (.iconst 0, 1) := by decide +kernel
theorem d13_20 : decode jdk_65_method_124_code 20 = .ok (.aload_n 2, 1) := by decide +kernel
theorem d13_21 : decode jdk_65_method_124_code 21 = .ok (.iconst 0, 1) := by decide +kernel
theorem d13_22 : decode jdk_65_method_124_code 22 = .ok (.aload_n 0, 1) := by decide +kernel
theorem d13_23 : decode jdk_65_method_124_code 23 = .ok (.arraylength, 1) := by decide +kernel
theorem d13_24 : decode jdk_65_method_124_code 24 = .ok (.iload_n 1, 1) := by decide +kernel
theorem d13_25 : decode jdk_65_method_124_code 25 = .ok (.invokestatic 304, 3) := by decide +kernel
theorem d13_28 : decode jdk_65_method_124_code 28 = .ok (.invokestatic 150, 3) := by decide +kernel
theorem d13_31 : decode jdk_65_method_124_code 31 = .ok (.aload_n 2, 1) := by decide +kernel
theorem d13_32 : decode jdk_65_method_124_code 32 = .ok (.areturn, 1) := by decide +kernel
theorem pn_rmc : plainName "java/util/Arrays" = true := by first | (simp [plainName, overriddenIn]; done) | decide +kernel
theorem ef_rmc (m : MethodId) (x0 : Addr) (x1 : Int32) : entryFrame m #[(.ref x0), (.int x1)] 3 = mkF m 0 #[.val (.ref x0), .val (.int x1), .unset] [] := by first | (simp [entryFrame, mkF, argsToLocals, Value.category]; done) | rfl
def Q_rmc (Z : State) (a1 : Addr) (p2 : Int32) (z : Int32) (g : Nat → Int64) (cap : Nat) (h0 : Heap) (n0 : Nat) (v : Option Value) (h : Heap) (L : List Loc) : Prop := ∃ b, v = some (.ref b) ∧ Fr n0 L ∧ Keep h0 h [] ∧ h0.size ≤ b ∧ ArF Z h b .long p2.toNatClampNeg (fun i => .long (if i < z.toNatClampNeg then g i else 0))
set_option maxRecDepth 65536 in
set_option maxHeartbeats 40000000 in
theorem rmc (l : Launch) (Z : State) (a0 : Array Value) (hw : ∀ d ∈ tables_1, d.before a0 Z = true) (ws : List Jvm.Cond) (a1 : Addr) (p2 : Int32) (z : Int32) (g : Nat → Int64) (cap : Nat) (h0 : Heap) (n0 : Nat) (Z0 : n0 ≤ h0.size) (V0 : ArF Z h0 a1 .long z.toNatClampNeg (fun i => .long (g i))) (hz : ¬ z < 0) (hlt : z < p2) (hcap : p2.toNatClampNeg ≤ cap) (hc8 : cap ≤ 1000) :
    MetFree l (⟨"java/util/Arrays", "copyOf", "([JI)[J"⟩ : MethodName) (head1 (Jvm.Cond.code (⟨"java/util/Arrays", "copyOf", "([JI)[J"⟩ : MethodName) jdk_65_method_124_code 3 (some (.array .long)) :: ws) ({ frames := 1, cells := 1, slots := cap, locals := 64 } : Room)) (fun a U => a = #[(.ref a1), (.int p2)] ∧ Z.Warmed39 U.vm ∧ U.heap = h0) (fun _ _ _ _ _ => True) (fun _ U o U' => ∃ v L, o = .returned v ∧ Q_rmc Z a1 p2 z g cap h0 n0 v U'.heap L ∧ FrameEnd U o U' L ({ frames := 1, cells := 1, slots := cap, locals := 64 } : Room).cells ({ frames := 1, cells := 1, slots := cap, locals := 64 } : Room).slots) := by
  refine MetFree.of_bodySF (plainFor_of_name pn_rmc) hisR ?_
  intro p e s m args below meth c s₁ Bd hml0 hP hK
  obtain ⟨rfl, hZ, hh⟩ := hP
  have hx := Bd.exec
  have hby := Bd.bytes
  have hml : c.maxLocals = 3 := hml0
  have hown : s.vm.findClass "java/util/Arrays" = some m.cls := findClass_of_methodNamed Bd.named
  have hnm := (name_of_methodNamed Bd.named Bd.method).1
  have X0 : Stand p l e ({ frames := 1, cells := 1, slots := cap, locals := 64 } : Room) s m #[(.ref a1), (.int p2)] below meth c s₁ [] 0 0 := Stand.of_body Bd
  have e0 : s₁.heap = h0 := by rw [← hh, Bd.state]; rfl
  have N0 := Fr.nil n0
  have pre0 : ∀ t, Steps p.tables e below (s₁.setTop (mkF m 0 #[.val (.ref a1), .val (.int p2), .unset] [])) t → Steps p.tables e below (s₁.setTop (entryFrame m #[(.ref a1), (.int p2)] 3)) t := fun t k => castTop (ef_rmc m a1 p2) k
  have K0 := Keep.refl h0 []
  obtain ⟨cl1, Ar1, S1, H1⟩ := id V0
  obtain ⟨T2, h2, k2, X2, e2, E2, A2, st2⟩ := newP X0 hx hZ (hw _ (List.mem_of_getElem? (i := 10) rfl)) e0 (g := (mkF m 15 #[.val (.ref a1), .val (.int p2), .unset] [(.int p2)])) rfl (hb hby d13_15) rfl (own_le hz hlt).1 (cap := cap) hcap (by omega) (Nat.le_of_ble_eq_true rfl) (show 0 + cap ≤ cap from by omega)
  obtain ⟨b2, g2⟩ : ∃ z, z = h0.size := ⟨_, rfl⟩
  rw [← g2] at A2 st2
  have ne_a1_b2 : a1 ≠ b2 := Nat.ne_of_lt (Nat.lt_of_lt_of_le V0.lt (Nat.le_of_eq g2.symm))
  have g_b2 : n0 ≤ b2 := Nat.le_trans Z0 (Nat.le_of_eq g2.symm)
  have sz_b2 : h0.size ≤ b2 := Nat.le_trans K0.1 (Nat.le_of_eq g2.symm)
  have V0_v2 := V0.ext E2
  have Z2 : n0 ≤ h2.size := Nat.le_trans Z0 E2.1
  have K2 := K0.ext E2
  have V2_v2 : ArF Z h2 b2 .long p2.toNatClampNeg (fun _ => (.long 0)) := ArF.mk0 A2 rfl rfl
  obtain ⟨cl3, Ar3, S3, H3⟩ := id V0_v2
  obtain ⟨_, _, ⟨T4, L4, k4, n4⟩, -, X4, ⟨Lc4, hQ4, l4, y4, z4⟩, st4⟩ := Jvm.LawKit.callS X2 hx (y := (⟨"java/lang/Math", "min", "(II)I"⟩ : MethodName)) hown (mvT hZ (hw _ (List.mem_of_getElem? (i := 83) rfl))) (mvT hZ (hw _ (List.mem_of_getElem? (i := 84) rfl))) (mvT hZ (hw _ (List.mem_of_getElem? (i := 76) rfl))) (mvT hZ (hw _ (List.mem_of_getElem? (i := 85) rfl))) (by decide) (backOf (W := 4) (rmi l Z a0 hw [] z p2 h2 n0 Z2) hZ (hw _ (List.mem_of_getElem? (i := 85) rfl)) (hw _ (List.mem_of_getElem? (i := 76) rfl)) (Nat.le_of_ble_eq_true rfl) (Nat.le_of_ble_eq_true rfl)) (g := (mkF m 25 #[.val (.ref a1), .val (.int p2), .val (.ref b2)] [(.int p2), (.int z), (.int (0 : Int32)), (.ref b2), (.int (0 : Int32)), (.ref a1)])) rfl (by rw [hml]; rfl) (argsL := [(.int z), (.int p2)]) (rest := [(.int (0 : Int32)), (.ref b2), (.int (0 : Int32)), (.ref a1)]) (lenOf pd_0 rfl) rfl (by show 2 * 0 + _ ≤ _; exact Nat.le_of_eq rfl) (hb hby d13_25) (fun _ _ => ⟨rfl, e2, (Nat.le_of_ble_eq_true rfl), (show 0 + cap + 0 ≤ cap from by omega)⟩)
  dsimp only [Pt.U, Pt.locs, Pt.cells, Pt.slots] at X4 l4 y4 z4 st4 hQ4
  subst l4 y4 z4
  obtain ⟨rfl, N4q, e4⟩ := hQ4
  have N4 := Fr.app N0 N4q
  obtain ⟨ka5, VA5⟩ := V0_v2.arv hz (fun _ => rfl) .null
  obtain ⟨kb5, VB5⟩ := V2_v2.arv (own_le hz hlt).1 (fun _ => rfl) .null
  obtain ⟨T5, h5, L5, X5, e5, N5, Kc5, VC5, st5⟩ := cpA X4 hx hZ hown (hw _ (List.mem_of_getElem? (i := 86) rfl)) (hw _ (List.mem_of_getElem? (i := 89) rfl)) (hw _ (List.mem_of_getElem? (i := 87) rfl)) (hw _ (List.mem_of_getElem? (i := 88) rfl)) e4 VA5 VB5 (Or.inl ⟨rfl, rfl⟩) (sp := (0 : Int32)) (dp := (0 : Int32)) (nn := (own_min z p2)) (by decide) (by decide) (by rw [own_minE hlt]; exact hz) (by rw [own_minE hlt]; exact Nat.le_of_eq (Nat.zero_add _)) (by rw [own_minE hlt]; exact (Nat.zero_add _).symm ▸ Nat.le_of_lt (own_le hz hlt).2) rfl (by rw [own_minE hlt, List.length_map, List.length_range]; exact (Nat.zero_add _).symm ▸ Nat.le_of_lt (own_le hz hlt).2) N4 g_b2 (g := (mkF m 28 #[.val (.ref a1), .val (.int p2), .val (.ref b2)] [(.int (own_min z p2)), (.int (0 : Int32)), (.ref b2), (.int (0 : Int32)), (.ref a1)])) rfl (by rw [hml]; rfl) rfl (hb hby d13_28) (Nat.le_of_ble_eq_true rfl) (W := 0) (by show 2 * 0 + _ ≤ _; exact Nat.le_of_eq rfl) (Nat.le_of_ble_eq_true rfl)
  have VF5_v5 : ArF Z h5 b2 .long p2.toNatClampNeg (fun i => .long (if i < z.toNatClampNeg then g i else 0)) := (Arv.arF VC5).congr (fun i hi => by rw [own_minE hlt]; exact own_cpy g _ _ i (Nat.le_of_lt (own_le hz hlt).2) hi)
  have KK5 := K2.trans Kc5 (allS (Or.inr sz_b2) all0)
  obtain ⟨fs, hr, hrun, hended, hW, hsame⟩ := X5.leave (v := some (.ref b2)) (fun h => by rw [Bd.returns] at h; cases h)
  refine ⟨_, _, pre0 _ ?_, hrun, hended, _, _, rfl, ?_, ⟨_, rfl⟩, hW, hsame.mono (Nat.le_of_ble_eq_true rfl) (show 0 + cap ≤ cap from by omega)⟩
  · show Steps p.tables e below (s₁.setTop (mkF m 0 #[.val (.ref a1), .val (.int p2), .unset] [])) _
    refine XS.iloadN X0.here hx rfl (hb hby d13_0) rfl ?_
    show Steps p.tables e below (s₁.setTop (mkF m 1 #[.val (.ref a1), .val (.int p2), .unset] [(.int p2)])) _
    refine XS.aloadN X0.here hx rfl (hb hby d13_1) rfl rfl ?_
    show Steps p.tables e below (s₁.setTop (mkF m 2 #[.val (.ref a1), .val (.int p2), .unset] [(.ref a1), (.int p2)])) _
    refine X0.arraylength hx (by rw [e0]; exact Ar1.1) (State.isArrayOf_alike hZ.alike Ar1.2.1) (g := (mkF m 2 #[.val (.ref a1), .val (.int p2), .unset] [(.ref a1), (.int p2)])) rfl rfl (hb hby d13_2) _ ?_
    rw [show cl1.slots.size.toInt32 = z from by rw [S1]; exact (back32 hz).1]
    show Steps p.tables e below (s₁.setTop (mkF m 3 #[.val (.ref a1), .val (.int p2), .unset] [(.int z), (.int p2)])) _
    refine XS.icmpYes X0.here hx rfl (pc0 := 3) (pc' := 14) rfl (hb hby d13_3) rfl (feq ((fun q => absurd (own_lt hlt) (by rw [q]; omega)) : ¬ (p2 = z))).2 (by decide) (by decide) ?_
    show Steps p.tables e below (s₁.setTop (mkF m 14 #[.val (.ref a1), .val (.int p2), .unset] [])) _
    refine XS.iloadN X0.here hx rfl (hb hby d13_14) rfl ?_
    show Steps p.tables e below (s₁.setTop (mkF m 15 #[.val (.ref a1), .val (.int p2), .unset] [(.int p2)])) _
    refine st2 _ ?_
    show Steps p.tables e below (T2.setTop (mkF m 17 #[.val (.ref a1), .val (.int p2), .unset] [(.ref b2)])) _
    refine XS.astoreN X2.here hx rfl (hb hby d13_17) rfl rfl (l' := #[.val (.ref a1), .val (.int p2), .val (.ref b2)]) rfl ?_
    show Steps p.tables e below (T2.setTop (mkF m 18 #[.val (.ref a1), .val (.int p2), .val (.ref b2)] [])) _
    refine XS.aloadN X2.here hx rfl (hb hby d13_18) rfl rfl ?_
    show Steps p.tables e below (T2.setTop (mkF m 19 #[.val (.ref a1), .val (.int p2), .val (.ref b2)] [(.ref a1)])) _
    refine XS.iconst X2.here hx rfl (hb hby d13_19) ?_
    show Steps p.tables e below (T2.setTop (mkF m 20 #[.val (.ref a1), .val (.int p2), .val (.ref b2)] [(.int (0 : Int32)), (.ref a1)])) _
    refine XS.aloadN X2.here hx rfl (hb hby d13_20) rfl rfl ?_
    show Steps p.tables e below (T2.setTop (mkF m 21 #[.val (.ref a1), .val (.int p2), .val (.ref b2)] [(.ref b2), (.int (0 : Int32)), (.ref a1)])) _
    refine XS.iconst X2.here hx rfl (hb hby d13_21) ?_
    show Steps p.tables e below (T2.setTop (mkF m 22 #[.val (.ref a1), .val (.int p2), .val (.ref b2)] [(.int (0 : Int32)), (.ref b2), (.int (0 : Int32)), (.ref a1)])) _
    refine XS.aloadN X2.here hx rfl (hb hby d13_22) rfl rfl ?_
    show Steps p.tables e below (T2.setTop (mkF m 23 #[.val (.ref a1), .val (.int p2), .val (.ref b2)] [(.ref a1), (.int (0 : Int32)), (.ref b2), (.int (0 : Int32)), (.ref a1)])) _
    refine X2.arraylength hx (by rw [e2]; exact Ar3.1) (State.isArrayOf_alike hZ.alike Ar3.2.1) (g := (mkF m 23 #[.val (.ref a1), .val (.int p2), .val (.ref b2)] [(.ref a1), (.int (0 : Int32)), (.ref b2), (.int (0 : Int32)), (.ref a1)])) rfl rfl (hb hby d13_23) _ ?_
    rw [show cl3.slots.size.toInt32 = z from by rw [S3]; exact (back32 hz).1]
    show Steps p.tables e below (T2.setTop (mkF m 24 #[.val (.ref a1), .val (.int p2), .val (.ref b2)] [(.int z), (.int (0 : Int32)), (.ref b2), (.int (0 : Int32)), (.ref a1)])) _
    refine XS.iloadN X2.here hx rfl (hb hby d13_24) rfl ?_
    show Steps p.tables e below (T2.setTop (mkF m 25 #[.val (.ref a1), .val (.int p2), .val (.ref b2)] [(.int p2), (.int z), (.int (0 : Int32)), (.ref b2), (.int (0 : Int32)), (.ref a1)])) _
    refine st4 _ ?_
    show Steps p.tables e below (T4.setTop (mkF m 28 #[.val (.ref a1), .val (.int p2), .val (.ref b2)] [(.int (own_min z p2)), (.int (0 : Int32)), (.ref b2), (.int (0 : Int32)), (.ref a1)])) _
    refine st5 _ ?_
    show Steps p.tables e below (T5.setTop (mkF m 31 #[.val (.ref a1), .val (.int p2), .val (.ref b2)] [])) _
    refine XS.aloadN X5.here hx rfl (hb hby d13_31) rfl rfl ?_
    show Steps p.tables e below (T5.setTop (mkF m 32 #[.val (.ref a1), .val (.int p2), .val (.ref b2)] [(.ref b2)])) _
    jvm_step X5.here [X5.here.top, hx, (hb hby d13_32), X5.method', Bd.returns, Value.isRef, FieldType.isReference]
    first | (intro acts; rw [hr _ acts rfl rfl rfl]) | rw [hr _ _ rfl rfl rfl]
    exact Steps.refl _
  · show Q_rmc Z a1 p2 z g cap h0 n0 _ T5.heap _
    rw [e5]
    exact ⟨b2, rfl, N5, KK5, sz_b2, VF5_v5⟩
theorem d1_0 : decode prog_146_method_1_code 0 = .ok (.aload_n 0, 1) := by decide +kernel
theorem d1_1 : decode prog_146_method_1_code 1 = .ok (.invokespecial 1, 3) := by decide +kernel
theorem d1_4 : decode prog_146_method_1_code 4 = .ok (.aload_n 0, 1) := by decide +kernel
theorem d1_5 : decode prog_146_method_1_code 5 = .ok (.bipush 16, 2) := by decide +kernel
theorem d1_7 : decode prog_146_method_1_code 7 = .ok (.newarray .long, 2) := by decide +kernel
theorem d1_9 : decode prog_146_method_1_code 9 = .ok (.putfield 7, 3) := by decide +kernel
theorem d1_12 : decode prog_146_method_1_code 12 = .ok (.return_, 1) := by decide +kernel
theorem pn_rmt : plainName "nachbar/sim/Tally" = true := by first | (simp [plainName, overriddenIn]; done) | decide +kernel
theorem ef_rmt (m : MethodId) (x0 : Addr) : entryFrame m #[(.ref x0)] 1 = mkF m 0 #[.val (.ref x0)] [] := by first | (simp [entryFrame, mkF, argsToLocals, Value.category]; done) | rfl
def Q_rmt (Z : State) (a1 : Addr) (h0 : Heap) (n0 : Nat) (v : Option Value) (h : Heap) (L : List Loc) : Prop := ∃ b, v = none ∧ Fr n0 L ∧ Keep h0 h [a1] ∧ h0.size ≤ b ∧ Fld Z h a1 "nachbar/sim/Tally" "counts" "[J" (.ref b) ∧ Fld Z h a1 "nachbar/sim/Tally" "count" "J" (.long (0 : Int64)) ∧ Fld Z h a1 "nachbar/sim/Tally" "sum" "J" (.long (0 : Int64)) ∧ Fld Z h a1 "nachbar/sim/Tally" "max" "I" (.int (0 : Int32)) ∧ ArF Z h b .long 16 (fun _ => .long 0)
set_option maxRecDepth 65536 in
set_option maxHeartbeats 40000000 in
theorem rmt (l : Launch) (Z : State) (a0 : Array Value) (hw : ∀ d ∈ tables_1, d.before a0 Z = true) (ws : List Jvm.Cond) (a1 : Addr) (h0 : Heap) (n0 : Nat) (Z0 : n0 ≤ h0.size) (Ex : Exa Z h0 a1 "nachbar/sim/Tally") (F_counts : Fld Z h0 a1 "nachbar/sim/Tally" "counts" "[J" .null) (F_count : Fld Z h0 a1 "nachbar/sim/Tally" "count" "J" (.long (0 : Int64))) (F_sum : Fld Z h0 a1 "nachbar/sim/Tally" "sum" "J" (.long (0 : Int64))) (F_max : Fld Z h0 a1 "nachbar/sim/Tally" "max" "I" (.int (0 : Int32))) (ga : n0 ≤ a1) :
    MetFree l (⟨"nachbar/sim/Tally", "<init>", "()V"⟩ : MethodName) (head1 (Jvm.Cond.code (⟨"nachbar/sim/Tally", "<init>", "()V"⟩ : MethodName) prog_146_method_1_code 1 none :: ws) ({ frames := 1, cells := 1, slots := 16, locals := 12 } : Room)) (fun a U => a = #[(.ref a1)] ∧ Z.Warmed39 U.vm ∧ U.heap = h0) (fun _ _ _ _ _ => True) (fun _ U o U' => ∃ v L, o = .returned v ∧ Q_rmt Z a1 h0 n0 v U'.heap L ∧ FrameEnd U o U' L ({ frames := 1, cells := 1, slots := 16, locals := 12 } : Room).cells ({ frames := 1, cells := 1, slots := 16, locals := 12 } : Room).slots) := by
  refine MetFree.of_bodySF (plainFor_of_name pn_rmt) hisR ?_
  intro p e s m args below meth c s₁ Bd hml0 hP hK
  obtain ⟨rfl, hZ, hh⟩ := hP
  have hx := Bd.exec
  have hby := Bd.bytes
  have hml : c.maxLocals = 1 := hml0
  have hown : s.vm.findClass "nachbar/sim/Tally" = some m.cls := findClass_of_methodNamed Bd.named
  have hnm := (name_of_methodNamed Bd.named Bd.method).1
  have X0 : Stand p l e ({ frames := 1, cells := 1, slots := 16, locals := 12 } : Room) s m #[(.ref a1)] below meth c s₁ [] 0 0 := Stand.of_body Bd
  have e0 : s₁.heap = h0 := by rw [← hh, Bd.state]; rfl
  have N0 := Fr.nil n0
  have pre0 : ∀ t, Steps p.tables e below (s₁.setTop (mkF m 0 #[.val (.ref a1)] [])) t → Steps p.tables e below (s₁.setTop (entryFrame m #[(.ref a1)] 1)) t := fun t k => castTop (ef_rmt m a1) k
  have K0 := Keep.refl h0 [a1]
  obtain ⟨T1, X1, e1, st1⟩ := initO X0 hx hZ hown (hw _ (List.mem_of_getElem? (i := 7) rfl)) (hw _ (List.mem_of_getElem? (i := 8) rfl)) (hw _ (List.mem_of_getElem? (i := 9) rfl)) e0 (g := (mkF m 1 #[.val (.ref a1)] [(.ref a1)])) rfl (by rw [hml]; rfl) rfl (hb hby d1_1) (by decide) (W := 0) (by show 2 * 0 + _ ≤ _; exact Nat.le_of_eq rfl) (by decide)
  obtain ⟨T2, h2, k2, X2, e2, E2, A2, st2⟩ := newP X1 hx hZ (hw _ (List.mem_of_getElem? (i := 10) rfl)) e1 (g := (mkF m 7 #[.val (.ref a1)] [(.int (16 : Int32)), (.ref a1)])) rfl (hb hby d1_7) rfl (by decide) (cap := 16) (by decide) (by decide) (by decide) (by decide)
  obtain ⟨b2, g2⟩ : ∃ z, z = h0.size := ⟨_, rfl⟩
  rw [← g2] at A2 st2
  have ne_a1_b2 : a1 ≠ b2 := Nat.ne_of_lt (Nat.lt_of_lt_of_le Ex.lt (Nat.le_of_eq g2.symm))
  have g_b2 : n0 ≤ b2 := Nat.le_trans Z0 (Nat.le_of_eq g2.symm)
  have sz_b2 : h0.size ≤ b2 := Nat.le_trans K0.1 (Nat.le_of_eq g2.symm)
  have Ex_v2 := Ex.ext E2
  have F_counts_v2 := F_counts.ext E2
  have F_count_v2 := F_count.ext E2
  have F_sum_v2 := F_sum.ext E2
  have F_max_v2 := F_max.ext E2
  have Z2 : n0 ≤ h2.size := Nat.le_trans Z0 E2.1
  have K2 := K0.ext E2
  have V2_v2 : ArF Z h2 b2 .long 16 (fun _ => (.long 0)) := ArF.mk0 A2 rfl rfl
  obtain ⟨T3, h3, X3, e3, W3, st3⟩ := putF X2 hx hZ hown (host := "") (Or.inl (hw _ (List.mem_of_getElem? (i := 11) rfl))) Via.refl e2 F_counts_v2 Ex_v2 (Or.inl (hw _ (List.mem_of_getElem? (i := 12) rfl))) (hw _ (List.mem_of_getElem? (i := 2) rfl)) (ty := (.array .long)) (by decide) rfl rfl (g := (mkF m 9 #[.val (.ref a1)] [(.ref b2), (.ref a1)])) rfl rfl (hb hby d1_9)
  have Ex_v3 := Ex_v2.wr W3
  have F_count_v3 := F_count_v2.other W3 (Or.inr (slot_ne (Or.inl (hw _ (List.mem_of_getElem? (i := 19) rfl))) (Or.inl (hw _ (List.mem_of_getElem? (i := 12) rfl))) (by decide) (t := .long) (t' := (.array .long)) (by decide) (by decide)))
  have F_sum_v3 := F_sum_v2.other W3 (Or.inr (slot_ne (Or.inl (hw _ (List.mem_of_getElem? (i := 29) rfl))) (Or.inl (hw _ (List.mem_of_getElem? (i := 12) rfl))) (by decide) (t := .long) (t' := (.array .long)) (by decide) (by decide)))
  have F_max_v3 := F_max_v2.other W3 (Or.inr (slot_ne (Or.inl (hw _ (List.mem_of_getElem? (i := 31) rfl))) (Or.inl (hw _ (List.mem_of_getElem? (i := 12) rfl))) (by decide) (t := .int) (t' := (.array .long)) (by decide) (by decide)))
  have V2_v3 := V2_v2.other W3 (Ne.symm ne_a1_b2)
  have Z3 : n0 ≤ h3.size := Nat.le_trans Z2 (Nat.le_of_eq W3.size.symm)
  have K3 := K2.wr W3 (Or.inl (by simp))
  have F3_v3 : Fld Z h3 a1 "nachbar/sim/Tally" "counts" "[J" (.ref b2) := F_counts_v2.same W3
  have N3 := Fr.snoc X3 N0 ga
  obtain ⟨fs, hr, hrun, hended, hW, hsame⟩ := X3.leave (v := none) (fun _ => rfl)
  refine ⟨_, _, pre0 _ ?_, hrun, hended, _, _, rfl, ?_, ⟨_, rfl⟩, hW, hsame.mono (by decide) (by decide)⟩
  · show Steps p.tables e below (s₁.setTop (mkF m 0 #[.val (.ref a1)] [])) _
    refine XS.aloadN X0.here hx rfl (hb hby d1_0) rfl rfl ?_
    show Steps p.tables e below (s₁.setTop (mkF m 1 #[.val (.ref a1)] [(.ref a1)])) _
    refine st1 _ ?_
    show Steps p.tables e below (T1.setTop (mkF m 4 #[.val (.ref a1)] [])) _
    refine XS.aloadN X1.here hx rfl (hb hby d1_4) rfl rfl ?_
    show Steps p.tables e below (T1.setTop (mkF m 5 #[.val (.ref a1)] [(.ref a1)])) _
    refine XS.bipush X1.here hx rfl (hb hby d1_5) ?_
    show Steps p.tables e below (T1.setTop (mkF m 7 #[.val (.ref a1)] [(.int (16 : Int32)), (.ref a1)])) _
    refine st2 _ ?_
    show Steps p.tables e below (T2.setTop (mkF m 9 #[.val (.ref a1)] [(.ref b2), (.ref a1)])) _
    refine st3 _ ?_
    show Steps p.tables e below (T3.setTop (mkF m 12 #[.val (.ref a1)] [])) _
    exact X3.returnOut hx Bd.returns (hb hby d1_12) hr
  · show Q_rmt Z a1 h0 n0 _ T3.heap _
    rw [e3]
    exact ⟨b2, rfl, N3, K3, sz_b2, F3_v3, F_count_v3, F_sum_v3, F_max_v3, V2_v3⟩
def own_cp (z : Int32) (g : Nat → Int64) (i : Nat) : Int64 := if i < z.toNatClampNeg then g i else 0
theorem own_ix {p z : Int32} (hp0 : ¬ p < 0) (h : p < z) : p.toNatClampNeg < z.toNatClampNeg := (own_le hp0 h).2
theorem own_nzI {p z : Int32} (hp0 : ¬ p < 0) (hp1 : p.toInt ≤ 127) (h16 : 16 ≤ z.toInt) (h3 : z.toInt ≤ 300) : (own_nz p z).toInt = max (p.toInt + 1) (2 * z.toInt) := by
  have h0 := own_nn hp0
  have a := c_iadd p 1
  have ra := rng32 (p + 1)
  rw [show (1 : Int32).toInt = 1 from by decide] at a
  have m := c_imul 2 z
  have rm := rng32 (2 * z)
  rw [show (2 : Int32).toInt = 2 from by decide] at m
  unfold own_nz own_max
  split
  · rename_i h
    rw [Int32.lt_iff_toInt_lt] at h
    omega
  · rename_i h
    rw [Int32.lt_iff_toInt_lt] at h
    omega
theorem own_grow {p z : Int32} (hp0 : ¬ p < 0) (hp1 : p.toInt ≤ 127) (h16 : 16 ≤ z.toInt) (h3 : z.toInt ≤ 300) (h : ¬ p < z) : z < own_nz p z := by
  rw [Int32.lt_iff_toInt_lt, own_nzI hp0 hp1 h16 h3]
  omega
theorem own_ix2 {p z : Int32} (hp0 : ¬ p < 0) (hp1 : p.toInt ≤ 127) (h16 : 16 ≤ z.toInt) (h3 : z.toInt ≤ 300) (h : ¬ p < z) : p.toNatClampNeg < (own_nz p z).toNatClampNeg := by
  have e := own_nzI hp0 hp1 h16 h3
  have h0 := own_nn hp0
  exact (own_le hp0 (Int32.lt_iff_toInt_lt.mpr (by omega))).2
theorem own_incV (p : Int32) (g : Nat → Int64) (i : Nat) : (if i = p.toNatClampNeg then Value.long (g p.toNatClampNeg + (1 : Int64)) else Value.long (g i)) = Value.long (own_inc g p i) := by
  unfold own_inc
  split
  · rename_i h; rw [h]
  · rfl
theorem own_incW (p z : Int32) (g : Nat → Int64) (g0 : ∀ i, z.toNatClampNeg ≤ i → g i = 0) (i : Nat) : (if i = p.toNatClampNeg then Value.long (own_cp z g p.toNatClampNeg + (1 : Int64)) else Value.long (if i < z.toNatClampNeg then g i else 0)) = Value.long (own_inc g p i) := by
  have e : ∀ j, own_cp z g j = g j := fun j => by
    unfold own_cp; split
    · rfl
    · rename_i h; exact (g0 j (Nat.le_of_not_lt h)).symm
  have e2 : (if i < z.toNatClampNeg then g i else 0) = g i := e i
  rw [e2, e]
  exact own_incV p g i
theorem d11_0 : decode prog_146_method_2_code 0 = .ok (.iload_n 1, 1) := by decide +kernel
theorem d11_1 : decode prog_146_method_2_code 1 = .ok (.ifCond .ge 17, 3) := by decide +kernel
theorem d11_18 : decode prog_146_method_2_code 18 = .ok (.iload_n 1, 1) := by decide +kernel
theorem d11_19 : decode prog_146_method_2_code 19 = .ok (.aload_n 0, 1) := by decide +kernel
theorem d11_20 : decode prog_146_method_2_code 20 = .ok (.getfield 7, 3) := by decide +kernel
theorem d11_23 : decode prog_146_method_2_code 23 = .ok (.arraylength, 1) := by decide +kernel
theorem d11_24 : decode prog_146_method_2_code 24 = .ok (.if_icmp .lt 27, 3) := by decide +kernel
theorem d11_27 : decode prog_146_method_2_code 27 = .ok (.aload_n 0, 1) := by decide +kernel
theorem d11_28 : decode prog_146_method_2_code 28 = .ok (.aload_n 0, 1) := by decide +kernel
theorem d11_29 : decode prog_146_method_2_code 29 = .ok (.getfield 7, 3) := by decide +kernel
theorem d11_32 : decode prog_146_method_2_code 32 = .ok (.iload_n 1, 1) := by decide +kernel
theorem d11_33 : decode prog_146_method_2_code 33 = .ok (.iconst 1, 1) := by decide +kernel
theorem d11_34 : decode prog_146_method_2_code 34 = .ok (.iadd, 1) := by decide +kernel
theorem d11_35 : decode prog_146_method_2_code 35 = .ok (.iconst 2, 1) := by decide +kernel
theorem d11_36 : decode prog_146_method_2_code 36 = .ok (.aload_n 0, 1) := by decide +kernel
theorem d11_37 : decode prog_146_method_2_code 37 = .ok (.getfield 7, 3) := by decide +kernel
theorem d11_40 : decode prog_146_method_2_code 40 = .ok (.arraylength, 1) := by decide +kernel
theorem d11_41 : decode prog_146_method_2_code 41 = .ok (.imul, 1) := by decide +kernel
theorem d11_42 : decode prog_146_method_2_code 42 = .ok (.invokestatic 22, 3) := by decide +kernel
theorem d11_45 : decode prog_146_method_2_code 45 = .ok (.invokestatic 28, 3) := by decide +kernel
theorem d11_48 : decode prog_146_method_2_code 48 = .ok (.putfield 7, 3) := by decide +kernel
theorem d11_51 : decode prog_146_method_2_code 51 = .ok (.aload_n 0, 1) := by decide +kernel
theorem d11_52 : decode prog_146_method_2_code 52 = .ok (.getfield 7, 3) := by decide +kernel
theorem d11_55 : decode prog_146_method_2_code 55 = .ok (.iload_n 1, 1) := by decide +kernel
theorem d11_56 : decode prog_146_method_2_code 56 = .ok (.dup2, 1) := by decide +kernel
theorem d11_57 : decode prog_146_method_2_code 57 = .ok (.laload, 1) := by decide +kernel
theorem d11_58 : decode prog_146_method_2_code 58 = .ok (.lconst 1, 1) := by decide +kernel
theorem d11_59 : decode prog_146_method_2_code 59 = .ok (.ladd, 1) := by decide +kernel
theorem d11_60 : decode prog_146_method_2_code 60 = .ok (.lastore, 1) := by decide +kernel
theorem d11_61 : decode prog_146_method_2_code 61 = .ok (.aload_n 0, 1) := by decide +kernel
theorem d11_62 : decode prog_146_method_2_code 62 = .ok (.dup, 1) := by decide +kernel
theorem d11_63 : decode prog_146_method_2_code 63 = .ok (.getfield 34, 3) := by decide +kernel
theorem d11_66 : decode prog_146_method_2_code 66 = .ok (.lconst 1, 1) := by decide +kernel
theorem d11_67 : decode prog_146_method_2_code 67 = .ok (.ladd, 1) := by decide +kernel
theorem d11_68 : decode prog_146_method_2_code 68 = .ok (.putfield 34, 3) := by decide +kernel
theorem d11_71 : decode prog_146_method_2_code 71 = .ok (.aload_n 0, 1) := by decide +kernel
theorem d11_72 : decode prog_146_method_2_code 72 = .ok (.dup, 1) := by decide +kernel
theorem d11_73 : decode prog_146_method_2_code 73 = .ok (.getfield 38, 3) := by decide +kernel
theorem d11_76 : decode prog_146_method_2_code 76 = .ok (.iload_n 1, 1) := by decide +kernel
theorem d11_77 : decode prog_146_method_2_code 77 = .ok (.i2l, 1) := by decide +kernel
theorem d11_78 : decode prog_146_method_2_code 78 = .ok (.ladd, 1) := by decide +kernel
theorem d11_79 : decode prog_146_method_2_code 79 = .ok (.putfield 38, 3) := by decide +kernel
theorem d11_82 : decode prog_146_method_2_code 82 = .ok (.aload_n 0, 1) := by decide +kernel
theorem d11_83 : decode prog_146_method_2_code 83 = .ok (.aload_n 0, 1) := by decide +kernel
theorem d11_84 : decode prog_146_method_2_code 84 = .ok (.getfield 41, 3) := by decide +kernel
theorem d11_87 : decode prog_146_method_2_code 87 = .ok (.iload_n 1, 1) := by decide +kernel
theorem d11_88 : decode prog_146_method_2_code 88 = .ok (.invokestatic 22, 3) := by decide +kernel
theorem d11_91 : decode prog_146_method_2_code 91 = .ok (.putfield 41, 3) := by decide +kernel
theorem d11_94 : decode prog_146_method_2_code 94 = .ok (.return_, 1) := by decide +kernel
theorem pn_rma : plainName "nachbar/sim/Tally" = true := by first | (simp [plainName, overriddenIn]; done) | decide +kernel
theorem ef_rma (m : MethodId) (x0 : Addr) (x1 : Int32) : entryFrame m #[(.ref x0), (.int x1)] 2 = mkF m 0 #[.val (.ref x0), .val (.int x1)] [] := by first | (simp [entryFrame, mkF, argsToLocals, Value.category]; done) | rfl
def Q_rma (Z : State) (a1 : Addr) (p2 : Int32) (b : Addr) (z : Int32) (g : Nat → Int64) (cn sm : Int64) (mx : Int32) (cap : Nat) (h0 : Heap) (n0 : Nat) (v : Option Value) (h : Heap) (L : List Loc) : Prop := ∃ b', v = none ∧ Fr n0 L ∧ Keep h0 h [a1, b] ∧ n0 ≤ b' ∧ a1 ≠ b' ∧ Fld Z h a1 "nachbar/sim/Tally" "counts" "[J" (.ref b') ∧ Fld Z h a1 "nachbar/sim/Tally" "count" "J" (.long (cn + (1 : Int64))) ∧ Fld Z h a1 "nachbar/sim/Tally" "sum" "J" (.long (sm + (p2.toInt64))) ∧ Fld Z h a1 "nachbar/sim/Tally" "max" "I" (.int (own_max mx p2)) ∧ ArF Z h b' .long (own_z p2 z).toNatClampNeg (fun i => .long (own_inc g p2 i))
set_option maxRecDepth 65536 in
set_option maxHeartbeats 40000000 in
theorem rma (l : Launch) (Z : State) (a0 : Array Value) (hw : ∀ d ∈ tables_1, d.before a0 Z = true) (ws : List Jvm.Cond) (a1 : Addr) (p2 : Int32) (b : Addr) (z : Int32) (g : Nat → Int64) (cn sm : Int64) (mx : Int32) (cap : Nat) (h0 : Heap) (n0 : Nat) (Z0 : n0 ≤ h0.size) (Ex : Exa Z h0 a1 "nachbar/sim/Tally") (F_counts : Fld Z h0 a1 "nachbar/sim/Tally" "counts" "[J" (.ref b)) (F_count : Fld Z h0 a1 "nachbar/sim/Tally" "count" "J" (.long cn)) (F_sum : Fld Z h0 a1 "nachbar/sim/Tally" "sum" "J" (.long sm)) (F_max : Fld Z h0 a1 "nachbar/sim/Tally" "max" "I" (.int mx)) (V0 : ArF Z h0 b .long z.toNatClampNeg (fun i => .long (g i))) (ga : n0 ≤ a1) (gb : n0 ≤ b) (hab : a1 ≠ b) (hz : ¬ z < 0) (hz16 : 16 ≤ z.toInt) (hz254 : z.toInt ≤ 300) (hp0 : ¬ p2 < 0) (hp1 : p2.toInt ≤ 127) (g0 : ∀ i, z.toNatClampNeg ≤ i → g i = 0) (hcap : ¬ p2 < z → (own_nz p2 z).toNatClampNeg ≤ cap) (hc8 : cap ≤ 1000) :
    MetFree l (⟨"nachbar/sim/Tally", "add", "(I)V"⟩ : MethodName) (head1 (Jvm.Cond.code (⟨"nachbar/sim/Tally", "add", "(I)V"⟩ : MethodName) prog_146_method_2_code 2 none :: ws) ({ frames := 2, cells := 1, slots := cap, locals := 79 } : Room)) (fun a U => a = #[(.ref a1), (.int p2)] ∧ Z.Warmed39 U.vm ∧ U.heap = h0) (fun _ _ _ _ _ => True) (fun _ U o U' => ∃ v L, o = .returned v ∧ Q_rma Z a1 p2 b z g cn sm mx cap h0 n0 v U'.heap L ∧ FrameEnd U o U' L ({ frames := 2, cells := 1, slots := cap, locals := 79 } : Room).cells ({ frames := 2, cells := 1, slots := cap, locals := 79 } : Room).slots) := by
  refine MetFree.of_bodySF (plainFor_of_name pn_rma) hisR ?_
  intro p e s m args below meth c s₁ Bd hml0 hP hK
  obtain ⟨rfl, hZ, hh⟩ := hP
  have hx := Bd.exec
  have hby := Bd.bytes
  have hml : c.maxLocals = 2 := hml0
  have hown : s.vm.findClass "nachbar/sim/Tally" = some m.cls := findClass_of_methodNamed Bd.named
  have hnm := (name_of_methodNamed Bd.named Bd.method).1
  have X0 : Stand p l e ({ frames := 2, cells := 1, slots := cap, locals := 79 } : Room) s m #[(.ref a1), (.int p2)] below meth c s₁ [] 0 0 := Stand.of_body Bd
  have e0 : s₁.heap = h0 := by rw [← hh, Bd.state]; rfl
  have N0 := Fr.nil n0
  have pre0 : ∀ t, Steps p.tables e below (s₁.setTop (mkF m 0 #[.val (.ref a1), .val (.int p2)] [])) t → Steps p.tables e below (s₁.setTop (entryFrame m #[(.ref a1), (.int p2)] 2)) t := fun t k => castTop (ef_rma m a1 p2) k
  have K0 := Keep.refl h0 [a1, b]
  obtain ⟨T1, X1, e1, st1⟩ := getF X0 hx hZ hown (host := "") (Or.inl (hw _ (List.mem_of_getElem? (i := 11) rfl))) Via.refl e0 F_counts (g := (mkF m 20 #[.val (.ref a1), .val (.int p2)] [(.ref a1), (.int p2)])) rfl rfl (hb hby d11_20)
  obtain ⟨cl2, Ar2, S2, H2⟩ := id V0
  have pre3 : ∀ t, Steps p.tables e below (T1.setTop (mkF m 24 #[.val (.ref a1), .val (.int p2)] [(.int z), (.int p2)])) t → Steps p.tables e below (s₁.setTop (entryFrame m #[(.ref a1), (.int p2)] 2)) t := by
    intro t k
    refine pre0 t ?_
    show Steps p.tables e below (s₁.setTop (mkF m 0 #[.val (.ref a1), .val (.int p2)] [])) _
    refine XS.iloadN X0.here hx rfl (hb hby d11_0) rfl ?_
    show Steps p.tables e below (s₁.setTop (mkF m 1 #[.val (.ref a1), .val (.int p2)] [(.int p2)])) _
    refine XS.ifYes X0.here hx rfl (pc0 := 1) (pc' := 18) rfl (hb hby d11_1) rfl ((if0 _ _).trans (flt (hp0 : ¬ (p2 < (0 : Int32)))).2.1) (by decide) (by decide) ?_
    show Steps p.tables e below (s₁.setTop (mkF m 18 #[.val (.ref a1), .val (.int p2)] [])) _
    refine XS.iloadN X0.here hx rfl (hb hby d11_18) rfl ?_
    show Steps p.tables e below (s₁.setTop (mkF m 19 #[.val (.ref a1), .val (.int p2)] [(.int p2)])) _
    refine XS.aloadN X0.here hx rfl (hb hby d11_19) rfl rfl ?_
    show Steps p.tables e below (s₁.setTop (mkF m 20 #[.val (.ref a1), .val (.int p2)] [(.ref a1), (.int p2)])) _
    refine st1 _ ?_
    show Steps p.tables e below (T1.setTop (mkF m 23 #[.val (.ref a1), .val (.int p2)] [(.ref b), (.int p2)])) _
    refine X1.arraylength hx (by rw [e1]; exact Ar2.1) (State.isArrayOf_alike hZ.alike Ar2.2.1) (g := (mkF m 23 #[.val (.ref a1), .val (.int p2)] [(.ref b), (.int p2)])) rfl rfl (hb hby d11_23) _ ?_
    rw [show cl2.slots.size.toInt32 = z from by rw [S2]; exact (back32 hz).1]
    exact k
  by_cases hc24_4 : p2 < z
  · obtain ⟨T5, X5, e5, st5⟩ := getF X1 hx hZ hown (host := "") (Or.inl (hw _ (List.mem_of_getElem? (i := 11) rfl))) Via.refl e1 F_counts (g := (mkF m 52 #[.val (.ref a1), .val (.int p2)] [(.ref a1)])) rfl rfl (hb hby d11_52)
    obtain ⟨cl6, Ar6, S6, H6⟩ := id V0
    have hin6 : ¬ (p2 < 0 ∨ cl6.slots.size ≤ (p2).toNatClampNeg) := inA S6 hp0 (own_ix hp0 hc24_4)
    have hat6 : cl6.slots[(p2).toNatClampNeg]? = some (.long (g p2.toNatClampNeg)) := ArF.at S6 H6 hin6 rfl
    obtain ⟨cl7, Ar7, S7, H7⟩ := id V0
    have hin7 : ¬ (p2 < 0 ∨ cl7.slots.size ≤ (p2).toNatClampNeg) := inA S7 hp0 (own_ix hp0 hc24_4)
    obtain ⟨T7, h7, X7, e7, W7, st7⟩ := stJ X5 hx hZ e5 Ar7 (j := p2) hin7 (g := (mkF m 60 #[.val (.ref a1), .val (.int p2)] [(.long ((g p2.toNatClampNeg) + (1 : Int64))), (.int p2), (.ref b)])) rfl rfl (hb hby d11_60)
    have Ex_v7 := Ex.wr W7
    have F_counts_v7 := F_counts.other W7 (Or.inl hab)
    have F_count_v7 := F_count.other W7 (Or.inl hab)
    have F_sum_v7 := F_sum.other W7 (Or.inl hab)
    have F_max_v7 := F_max.other W7 (Or.inl hab)
    have Z7 : n0 ≤ h7.size := Nat.le_trans Z0 (Nat.le_of_eq W7.size.symm)
    have K7 := K0.wr W7 (Or.inl (by simp))
    have V7_v7 := ArF.set Ar7 S7 H7 W7 hin7
    have N7 := Fr.snoc X7 N0 gb
    obtain ⟨T8, X8, e8, st8⟩ := getF X7 hx hZ hown (host := "") (Or.inl (hw _ (List.mem_of_getElem? (i := 18) rfl))) Via.refl e7 F_count_v7 (g := (mkF m 63 #[.val (.ref a1), .val (.int p2)] [(.ref a1), (.ref a1)])) rfl rfl (hb hby d11_63)
    obtain ⟨T9, h9, X9, e9, W9, st9⟩ := putF X8 hx hZ hown (host := "") (Or.inl (hw _ (List.mem_of_getElem? (i := 18) rfl))) Via.refl e8 F_count_v7 Ex_v7 (Or.inl (hw _ (List.mem_of_getElem? (i := 19) rfl))) (hw _ (List.mem_of_getElem? (i := 2) rfl)) (ty := .long) (by decide) rfl rfl (g := (mkF m 68 #[.val (.ref a1), .val (.int p2)] [(.long (cn + (1 : Int64))), (.ref a1)])) rfl rfl (hb hby d11_68)
    have Ex_v9 := Ex_v7.wr W9
    have F_counts_v9 := F_counts_v7.other W9 (Or.inr (slot_ne (Or.inl (hw _ (List.mem_of_getElem? (i := 12) rfl))) (Or.inl (hw _ (List.mem_of_getElem? (i := 19) rfl))) (by decide) (t := (.array .long)) (t' := .long) (by decide) (by decide)))
    have F_sum_v9 := F_sum_v7.other W9 (Or.inr (slot_ne (Or.inl (hw _ (List.mem_of_getElem? (i := 29) rfl))) (Or.inl (hw _ (List.mem_of_getElem? (i := 19) rfl))) (by decide) (t := .long) (t' := .long) (by decide) (by decide)))
    have F_max_v9 := F_max_v7.other W9 (Or.inr (slot_ne (Or.inl (hw _ (List.mem_of_getElem? (i := 31) rfl))) (Or.inl (hw _ (List.mem_of_getElem? (i := 19) rfl))) (by decide) (t := .int) (t' := .long) (by decide) (by decide)))
    have V7_v9 := V7_v7.other W9 (Ne.symm hab)
    have Z9 : n0 ≤ h9.size := Nat.le_trans Z7 (Nat.le_of_eq W9.size.symm)
    have K9 := K7.wr W9 (Or.inl (by simp))
    have F9_v9 : Fld Z h9 a1 "nachbar/sim/Tally" "count" "J" (.long (cn + (1 : Int64))) := F_count_v7.same W9
    have N9 := Fr.snoc X9 N7 ga
    obtain ⟨T10, X10, e10, st10⟩ := getF X9 hx hZ hown (host := "") (Or.inl (hw _ (List.mem_of_getElem? (i := 28) rfl))) Via.refl e9 F_sum_v9 (g := (mkF m 73 #[.val (.ref a1), .val (.int p2)] [(.ref a1), (.ref a1)])) rfl rfl (hb hby d11_73)
    obtain ⟨T11, h11, X11, e11, W11, st11⟩ := putF X10 hx hZ hown (host := "") (Or.inl (hw _ (List.mem_of_getElem? (i := 28) rfl))) Via.refl e10 F_sum_v9 Ex_v9 (Or.inl (hw _ (List.mem_of_getElem? (i := 29) rfl))) (hw _ (List.mem_of_getElem? (i := 2) rfl)) (ty := .long) (by decide) rfl rfl (g := (mkF m 79 #[.val (.ref a1), .val (.int p2)] [(.long (sm + (p2.toInt64))), (.ref a1)])) rfl rfl (hb hby d11_79)
    have Ex_v11 := Ex_v9.wr W11
    have F_counts_v11 := F_counts_v9.other W11 (Or.inr (slot_ne (Or.inl (hw _ (List.mem_of_getElem? (i := 12) rfl))) (Or.inl (hw _ (List.mem_of_getElem? (i := 29) rfl))) (by decide) (t := (.array .long)) (t' := .long) (by decide) (by decide)))
    have F_max_v11 := F_max_v9.other W11 (Or.inr (slot_ne (Or.inl (hw _ (List.mem_of_getElem? (i := 31) rfl))) (Or.inl (hw _ (List.mem_of_getElem? (i := 29) rfl))) (by decide) (t := .int) (t' := .long) (by decide) (by decide)))
    have V7_v11 := V7_v9.other W11 (Ne.symm hab)
    have F9_v11 := F9_v9.other W11 (Or.inr (slot_ne (Or.inl (hw _ (List.mem_of_getElem? (i := 19) rfl))) (Or.inl (hw _ (List.mem_of_getElem? (i := 29) rfl))) (by decide) (t := .long) (t' := .long) (by decide) (by decide)))
    have Z11 : n0 ≤ h11.size := Nat.le_trans Z9 (Nat.le_of_eq W11.size.symm)
    have K11 := K9.wr W11 (Or.inl (by simp))
    have F11_v11 : Fld Z h11 a1 "nachbar/sim/Tally" "sum" "J" (.long (sm + (p2.toInt64))) := F_sum_v9.same W11
    have N11 := Fr.snoc X11 N9 ga
    obtain ⟨T12, X12, e12, st12⟩ := getF X11 hx hZ hown (host := "") (Or.inl (hw _ (List.mem_of_getElem? (i := 30) rfl))) Via.refl e11 F_max_v11 (g := (mkF m 84 #[.val (.ref a1), .val (.int p2)] [(.ref a1), (.ref a1)])) rfl rfl (hb hby d11_84)
    obtain ⟨_, _, ⟨T13, L13, k13, n13⟩, -, X13, ⟨Lc13, hQ13, l13, y13, z13⟩, st13⟩ := Jvm.LawKit.callS X12 hx (y := (⟨"java/lang/Math", "max", "(II)I"⟩ : MethodName)) hown (mvT hZ (hw _ (List.mem_of_getElem? (i := 74) rfl))) (mvT hZ (hw _ (List.mem_of_getElem? (i := 75) rfl))) (mvT hZ (hw _ (List.mem_of_getElem? (i := 76) rfl))) (mvT hZ (hw _ (List.mem_of_getElem? (i := 77) rfl))) (by decide) (backOf (W := 1) (rmx l Z a0 hw [] mx p2 h11 n0 Z11) hZ (hw _ (List.mem_of_getElem? (i := 77) rfl)) (hw _ (List.mem_of_getElem? (i := 76) rfl)) (Nat.le_of_ble_eq_true rfl) (Nat.le_of_ble_eq_true rfl)) (g := (mkF m 88 #[.val (.ref a1), .val (.int p2)] [(.int p2), (.int mx), (.ref a1)])) rfl (by rw [hml]; rfl) (argsL := [(.int mx), (.int p2)]) (rest := [(.ref a1)]) (lenOf pd_0 rfl) rfl (by show 2 * 0 + _ ≤ _; exact Nat.le_of_eq rfl) (hb hby d11_88) (fun _ _ => ⟨rfl, e12, (Nat.le_of_ble_eq_true rfl), (show 0 + 0 ≤ cap from by omega)⟩)
    dsimp only [Pt.U, Pt.locs, Pt.cells, Pt.slots] at X13 l13 y13 z13 st13 hQ13
    subst l13 y13 z13
    obtain ⟨rfl, N13q, e13⟩ := hQ13
    have N13 := Fr.app N11 N13q
    obtain ⟨T14, h14, X14, e14, W14, st14⟩ := putF X13 hx hZ hown (host := "") (Or.inl (hw _ (List.mem_of_getElem? (i := 30) rfl))) Via.refl e13 F_max_v11 Ex_v11 (Or.inl (hw _ (List.mem_of_getElem? (i := 31) rfl))) (hw _ (List.mem_of_getElem? (i := 2) rfl)) (ty := .int) (by decide) rfl rfl (g := (mkF m 91 #[.val (.ref a1), .val (.int p2)] [(.int (own_max mx p2)), (.ref a1)])) rfl rfl (hb hby d11_91)
    have Ex_v14 := Ex_v11.wr W14
    have F_counts_v14 := F_counts_v11.other W14 (Or.inr (slot_ne (Or.inl (hw _ (List.mem_of_getElem? (i := 12) rfl))) (Or.inl (hw _ (List.mem_of_getElem? (i := 31) rfl))) (by decide) (t := (.array .long)) (t' := .int) (by decide) (by decide)))
    have V7_v14 := V7_v11.other W14 (Ne.symm hab)
    have F9_v14 := F9_v11.other W14 (Or.inr (slot_ne (Or.inl (hw _ (List.mem_of_getElem? (i := 19) rfl))) (Or.inl (hw _ (List.mem_of_getElem? (i := 31) rfl))) (by decide) (t := .long) (t' := .int) (by decide) (by decide)))
    have F11_v14 := F11_v11.other W14 (Or.inr (slot_ne (Or.inl (hw _ (List.mem_of_getElem? (i := 29) rfl))) (Or.inl (hw _ (List.mem_of_getElem? (i := 31) rfl))) (by decide) (t := .long) (t' := .int) (by decide) (by decide)))
    have Z14 : n0 ≤ h14.size := Nat.le_trans Z11 (Nat.le_of_eq W14.size.symm)
    have K14 := K11.wr W14 (Or.inl (by simp))
    have F14_v14 : Fld Z h14 a1 "nachbar/sim/Tally" "max" "I" (.int (own_max mx p2)) := F_max_v11.same W14
    have N14 := Fr.snoc X14 N13 ga
    obtain ⟨fs, hr, hrun, hended, hW, hsame⟩ := X14.leave (v := none) (fun _ => rfl)
    refine ⟨_, _, pre3 _ ?_, hrun, hended, _, _, rfl, ?_, ⟨_, rfl⟩, hW, hsame.mono (Nat.le_of_ble_eq_true rfl) (show 0 ≤ cap from by omega)⟩
    · show Steps p.tables e below (T1.setTop (mkF m 24 #[.val (.ref a1), .val (.int p2)] [(.int z), (.int p2)])) _
      refine XS.icmpYes X1.here hx rfl (pc0 := 24) (pc' := 51) rfl (hb hby d11_24) rfl (tlt hc24_4).1 (by decide) (by decide) ?_
      show Steps p.tables e below (T1.setTop (mkF m 51 #[.val (.ref a1), .val (.int p2)] [])) _
      refine XS.aloadN X1.here hx rfl (hb hby d11_51) rfl rfl ?_
      show Steps p.tables e below (T1.setTop (mkF m 52 #[.val (.ref a1), .val (.int p2)] [(.ref a1)])) _
      refine st5 _ ?_
      show Steps p.tables e below (T5.setTop (mkF m 55 #[.val (.ref a1), .val (.int p2)] [(.ref b)])) _
      refine XS.iloadN X5.here hx rfl (hb hby d11_55) rfl ?_
      show Steps p.tables e below (T5.setTop (mkF m 56 #[.val (.ref a1), .val (.int p2)] [(.int p2), (.ref b)])) _
      refine Jvm.Free.XT.dup2 X5.here hx rfl (hb hby d11_56) rfl rfl rfl ?_
      show Steps p.tables e below (T5.setTop (mkF m 57 #[.val (.ref a1), .val (.int p2)] [(.int p2), (.ref b), (.int p2), (.ref b)])) _
      refine X5.laload hx (j := p2) (v := (.long (g p2.toNatClampNeg))) (by rw [e5]; exact Ar6.1) (State.isArrayOf_alike hZ.alike Ar6.2.1) Ar6.2.2 hin6 hat6 (g := (mkF m 57 #[.val (.ref a1), .val (.int p2)] [(.int p2), (.ref b), (.int p2), (.ref b)])) rfl rfl (hb hby d11_57) _ ?_
      show Steps p.tables e below (T5.setTop (mkF m 58 #[.val (.ref a1), .val (.int p2)] [(.long (g p2.toNatClampNeg)), (.int p2), (.ref b)])) _
      refine XS.lconst X5.here hx rfl (hb hby d11_58) ?_
      show Steps p.tables e below (T5.setTop (mkF m 59 #[.val (.ref a1), .val (.int p2)] [(.long (1 : Int64)), (.long (g p2.toNatClampNeg)), (.int p2), (.ref b)])) _
      refine XS.ladd X5.here hx rfl (hb hby d11_59) rfl ?_
      show Steps p.tables e below (T5.setTop (mkF m 60 #[.val (.ref a1), .val (.int p2)] [(.long ((g p2.toNatClampNeg) + (1 : Int64))), (.int p2), (.ref b)])) _
      refine st7 _ ?_
      show Steps p.tables e below (T7.setTop (mkF m 61 #[.val (.ref a1), .val (.int p2)] [])) _
      refine XS.aloadN X7.here hx rfl (hb hby d11_61) rfl rfl ?_
      show Steps p.tables e below (T7.setTop (mkF m 62 #[.val (.ref a1), .val (.int p2)] [(.ref a1)])) _
      refine XS.dup X7.here hx rfl (hb hby d11_62) rfl rfl ?_
      show Steps p.tables e below (T7.setTop (mkF m 63 #[.val (.ref a1), .val (.int p2)] [(.ref a1), (.ref a1)])) _
      refine st8 _ ?_
      show Steps p.tables e below (T8.setTop (mkF m 66 #[.val (.ref a1), .val (.int p2)] [(.long cn), (.ref a1)])) _
      refine XS.lconst X8.here hx rfl (hb hby d11_66) ?_
      show Steps p.tables e below (T8.setTop (mkF m 67 #[.val (.ref a1), .val (.int p2)] [(.long (1 : Int64)), (.long cn), (.ref a1)])) _
      refine XS.ladd X8.here hx rfl (hb hby d11_67) rfl ?_
      show Steps p.tables e below (T8.setTop (mkF m 68 #[.val (.ref a1), .val (.int p2)] [(.long (cn + (1 : Int64))), (.ref a1)])) _
      refine st9 _ ?_
      show Steps p.tables e below (T9.setTop (mkF m 71 #[.val (.ref a1), .val (.int p2)] [])) _
      refine XS.aloadN X9.here hx rfl (hb hby d11_71) rfl rfl ?_
      show Steps p.tables e below (T9.setTop (mkF m 72 #[.val (.ref a1), .val (.int p2)] [(.ref a1)])) _
      refine XS.dup X9.here hx rfl (hb hby d11_72) rfl rfl ?_
      show Steps p.tables e below (T9.setTop (mkF m 73 #[.val (.ref a1), .val (.int p2)] [(.ref a1), (.ref a1)])) _
      refine st10 _ ?_
      show Steps p.tables e below (T10.setTop (mkF m 76 #[.val (.ref a1), .val (.int p2)] [(.long sm), (.ref a1)])) _
      refine XS.iloadN X10.here hx rfl (hb hby d11_76) rfl ?_
      show Steps p.tables e below (T10.setTop (mkF m 77 #[.val (.ref a1), .val (.int p2)] [(.int p2), (.long sm), (.ref a1)])) _
      refine XS.i2l X10.here hx rfl (hb hby d11_77) rfl ?_
      show Steps p.tables e below (T10.setTop (mkF m 78 #[.val (.ref a1), .val (.int p2)] [(.long (p2.toInt64)), (.long sm), (.ref a1)])) _
      refine XS.ladd X10.here hx rfl (hb hby d11_78) rfl ?_
      show Steps p.tables e below (T10.setTop (mkF m 79 #[.val (.ref a1), .val (.int p2)] [(.long (sm + (p2.toInt64))), (.ref a1)])) _
      refine st11 _ ?_
      show Steps p.tables e below (T11.setTop (mkF m 82 #[.val (.ref a1), .val (.int p2)] [])) _
      refine XS.aloadN X11.here hx rfl (hb hby d11_82) rfl rfl ?_
      show Steps p.tables e below (T11.setTop (mkF m 83 #[.val (.ref a1), .val (.int p2)] [(.ref a1)])) _
      refine XS.aloadN X11.here hx rfl (hb hby d11_83) rfl rfl ?_
      show Steps p.tables e below (T11.setTop (mkF m 84 #[.val (.ref a1), .val (.int p2)] [(.ref a1), (.ref a1)])) _
      refine st12 _ ?_
      show Steps p.tables e below (T12.setTop (mkF m 87 #[.val (.ref a1), .val (.int p2)] [(.int mx), (.ref a1)])) _
      refine XS.iloadN X12.here hx rfl (hb hby d11_87) rfl ?_
      show Steps p.tables e below (T12.setTop (mkF m 88 #[.val (.ref a1), .val (.int p2)] [(.int p2), (.int mx), (.ref a1)])) _
      refine st13 _ ?_
      show Steps p.tables e below (T13.setTop (mkF m 91 #[.val (.ref a1), .val (.int p2)] [(.int (own_max mx p2)), (.ref a1)])) _
      refine st14 _ ?_
      show Steps p.tables e below (T14.setTop (mkF m 94 #[.val (.ref a1), .val (.int p2)] [])) _
      exact X14.returnOut hx Bd.returns (hb hby d11_94) hr
    · show Q_rma Z a1 p2 b z g cn sm mx cap h0 n0 _ T14.heap _
      rw [e14]
      exact ⟨b, rfl, N14, K14, gb, hab, F_counts_v14, F9_v14, F11_v14, F14_v14, (by rw [own_z, if_pos hc24_4]; exact V7_v14.congr (fun i hi => own_incV p2 g i))⟩
  · obtain ⟨T15, X15, e15, st15⟩ := getF X1 hx hZ hown (host := "") (Or.inl (hw _ (List.mem_of_getElem? (i := 11) rfl))) Via.refl e1 F_counts (g := (mkF m 29 #[.val (.ref a1), .val (.int p2)] [(.ref a1), (.ref a1)])) rfl rfl (hb hby d11_29)
    obtain ⟨T16, X16, e16, st16⟩ := getF X15 hx hZ hown (host := "") (Or.inl (hw _ (List.mem_of_getElem? (i := 11) rfl))) Via.refl e15 F_counts (g := (mkF m 37 #[.val (.ref a1), .val (.int p2)] [(.ref a1), (.int (2 : Int32)), (.int (p2 + (1 : Int32))), (.ref b), (.ref a1)])) rfl rfl (hb hby d11_37)
    obtain ⟨cl17, Ar17, S17, H17⟩ := id V0
    obtain ⟨_, _, ⟨T18, L18, k18, n18⟩, -, X18, ⟨Lc18, hQ18, l18, y18, z18⟩, st18⟩ := Jvm.LawKit.callS X16 hx (y := (⟨"java/lang/Math", "max", "(II)I"⟩ : MethodName)) hown (mvT hZ (hw _ (List.mem_of_getElem? (i := 74) rfl))) (mvT hZ (hw _ (List.mem_of_getElem? (i := 75) rfl))) (mvT hZ (hw _ (List.mem_of_getElem? (i := 76) rfl))) (mvT hZ (hw _ (List.mem_of_getElem? (i := 77) rfl))) (by decide) (backOf (W := 2) (rmx l Z a0 hw [] (p2 + (1 : Int32)) ((2 : Int32) * z) h0 n0 Z0) hZ (hw _ (List.mem_of_getElem? (i := 77) rfl)) (hw _ (List.mem_of_getElem? (i := 76) rfl)) (Nat.le_of_ble_eq_true rfl) (Nat.le_of_ble_eq_true rfl)) (g := (mkF m 42 #[.val (.ref a1), .val (.int p2)] [(.int ((2 : Int32) * z)), (.int (p2 + (1 : Int32))), (.ref b), (.ref a1)])) rfl (by rw [hml]; rfl) (argsL := [(.int (p2 + (1 : Int32))), (.int ((2 : Int32) * z))]) (rest := [(.ref b), (.ref a1)]) (lenOf pd_0 rfl) rfl (by show 2 * 0 + _ ≤ _; exact Nat.le_of_eq rfl) (hb hby d11_42) (fun _ _ => ⟨rfl, e16, (Nat.le_of_ble_eq_true rfl), (show 0 + 0 ≤ cap from by omega)⟩)
    dsimp only [Pt.U, Pt.locs, Pt.cells, Pt.slots] at X18 l18 y18 z18 st18 hQ18
    subst l18 y18 z18
    obtain ⟨rfl, N18q, e18⟩ := hQ18
    have N18 := Fr.app N0 N18q
    obtain ⟨_, _, ⟨T19, L19, k19, n19⟩, -, X19, ⟨Lc19, hQ19, l19, y19, z19⟩, st19⟩ := Jvm.LawKit.callS X18 hx (y := (⟨"java/util/Arrays", "copyOf", "([JI)[J"⟩ : MethodName)) hown (mvT hZ (hw _ (List.mem_of_getElem? (i := 79) rfl))) (mvT hZ (hw _ (List.mem_of_getElem? (i := 80) rfl))) (mvT hZ (hw _ (List.mem_of_getElem? (i := 81) rfl))) (mvT hZ (hw _ (List.mem_of_getElem? (i := 82) rfl))) (by decide) (backOf (W := 1) (rmc l Z a0 hw [] b (own_max (p2 + (1 : Int32)) ((2 : Int32) * z)) z g cap h0 n0 Z0 V0 hz (own_grow hp0 hp1 hz16 hz254 hc24_4) (hcap hc24_4) hc8) hZ (hw _ (List.mem_of_getElem? (i := 82) rfl)) (hw _ (List.mem_of_getElem? (i := 81) rfl)) (Nat.le_of_ble_eq_true rfl) (Nat.le_of_ble_eq_true rfl)) (g := (mkF m 45 #[.val (.ref a1), .val (.int p2)] [(.int (own_max (p2 + (1 : Int32)) ((2 : Int32) * z))), (.ref b), (.ref a1)])) rfl (by rw [hml]; rfl) (argsL := [(.ref b), (.int (own_max (p2 + (1 : Int32)) ((2 : Int32) * z)))]) (rest := [(.ref a1)]) (lenOf pd_1 rfl) rfl (by show 2 * 0 + _ ≤ _; exact Nat.le_of_eq rfl) (hb hby d11_45) (fun _ _ => ⟨rfl, e18, (Nat.le_of_ble_eq_true rfl), (show 0 + cap ≤ cap from by omega)⟩)
    dsimp only [Pt.U, Pt.locs, Pt.cells, Pt.slots] at X19 l19 y19 z19 st19 hQ19
    subst l19 y19 z19
    obtain ⟨b19, rfl, N19q, Kc19, sb19, nf19_v19⟩ := hQ19
    have N19 := Fr.app N18 N19q
    have ne_a1_b19 : a1 ≠ b19 := Nat.ne_of_lt (Nat.lt_of_lt_of_le Ex.lt sb19)
    have ne_b_b19 : b ≠ b19 := Nat.ne_of_lt (Nat.lt_of_lt_of_le V0.lt sb19)
    have g_b19 : n0 ≤ b19 := Nat.le_trans Z0 sb19
    have sz_b19 : h0.size ≤ b19 := Nat.le_trans K0.1 sb19
    have Ex_v19 := Ex.keep Kc19
    have V0_v19 := V0.keep Kc19 nin0
    have F_counts_v19 := F_counts.keep Kc19 nin0
    have F_count_v19 := F_count.keep Kc19 nin0
    have F_sum_v19 := F_sum.keep Kc19 nin0
    have F_max_v19 := F_max.keep Kc19 nin0
    have Z19 : n0 ≤ T19.heap.size := Nat.le_trans Z0 Kc19.1
    have KK19 := K0.trans Kc19 all0
    obtain ⟨T20, h20, X20, e20, W20, st20⟩ := putF X19 hx hZ hown (host := "") (Or.inl (hw _ (List.mem_of_getElem? (i := 11) rfl))) Via.refl rfl F_counts_v19 Ex_v19 (Or.inl (hw _ (List.mem_of_getElem? (i := 12) rfl))) (hw _ (List.mem_of_getElem? (i := 2) rfl)) (ty := (.array .long)) (by decide) rfl rfl (g := (mkF m 48 #[.val (.ref a1), .val (.int p2)] [(.ref b19), (.ref a1)])) rfl rfl (hb hby d11_48)
    have Ex_v20 := Ex_v19.wr W20
    have V0_v20 := V0_v19.other W20 (Ne.symm hab)
    have F_count_v20 := F_count_v19.other W20 (Or.inr (slot_ne (Or.inl (hw _ (List.mem_of_getElem? (i := 19) rfl))) (Or.inl (hw _ (List.mem_of_getElem? (i := 12) rfl))) (by decide) (t := .long) (t' := (.array .long)) (by decide) (by decide)))
    have F_sum_v20 := F_sum_v19.other W20 (Or.inr (slot_ne (Or.inl (hw _ (List.mem_of_getElem? (i := 29) rfl))) (Or.inl (hw _ (List.mem_of_getElem? (i := 12) rfl))) (by decide) (t := .long) (t' := (.array .long)) (by decide) (by decide)))
    have F_max_v20 := F_max_v19.other W20 (Or.inr (slot_ne (Or.inl (hw _ (List.mem_of_getElem? (i := 31) rfl))) (Or.inl (hw _ (List.mem_of_getElem? (i := 12) rfl))) (by decide) (t := .int) (t' := (.array .long)) (by decide) (by decide)))
    have nf19_v20 := nf19_v19.other W20 (Ne.symm ne_a1_b19)
    have Z20 : n0 ≤ h20.size := Nat.le_trans Z19 (Nat.le_of_eq W20.size.symm)
    have K20 := KK19.wr W20 (Or.inl (by simp))
    have F20_v20 : Fld Z h20 a1 "nachbar/sim/Tally" "counts" "[J" (.ref b19) := F_counts_v19.same W20
    have N20 := Fr.snoc X20 N19 ga
    obtain ⟨T21, X21, e21, st21⟩ := getF X20 hx hZ hown (host := "") (Or.inl (hw _ (List.mem_of_getElem? (i := 11) rfl))) Via.refl e20 F20_v20 (g := (mkF m 52 #[.val (.ref a1), .val (.int p2)] [(.ref a1)])) rfl rfl (hb hby d11_52)
    obtain ⟨cl22, Ar22, S22, H22⟩ := id nf19_v20
    have hin22 : ¬ (p2 < 0 ∨ cl22.slots.size ≤ (p2).toNatClampNeg) := inA S22 hp0 (own_ix2 hp0 hp1 hz16 hz254 hc24_4)
    have hat22 : cl22.slots[(p2).toNatClampNeg]? = some (.long (own_cp z g p2.toNatClampNeg)) := ArF.at S22 H22 hin22 rfl
    obtain ⟨cl23, Ar23, S23, H23⟩ := id nf19_v20
    have hin23 : ¬ (p2 < 0 ∨ cl23.slots.size ≤ (p2).toNatClampNeg) := inA S23 hp0 (own_ix2 hp0 hp1 hz16 hz254 hc24_4)
    obtain ⟨T23, h23, X23, e23, W23, st23⟩ := stJ X21 hx hZ e21 Ar23 (j := p2) hin23 (g := (mkF m 60 #[.val (.ref a1), .val (.int p2)] [(.long ((own_cp z g p2.toNatClampNeg) + (1 : Int64))), (.int p2), (.ref b19)])) rfl rfl (hb hby d11_60)
    have Ex_v23 := Ex_v20.wr W23
    have V0_v23 := V0_v20.other W23 ne_b_b19
    have F_count_v23 := F_count_v20.other W23 (Or.inl ne_a1_b19)
    have F_sum_v23 := F_sum_v20.other W23 (Or.inl ne_a1_b19)
    have F_max_v23 := F_max_v20.other W23 (Or.inl ne_a1_b19)
    have F20_v23 := F20_v20.other W23 (Or.inl ne_a1_b19)
    have Z23 : n0 ≤ h23.size := Nat.le_trans Z20 (Nat.le_of_eq W23.size.symm)
    have K23 := K20.wr W23 (Or.inr sz_b19)
    have V23_v23 := ArF.set Ar23 S23 H23 W23 hin23
    have N23 := Fr.snoc X23 N20 g_b19
    obtain ⟨T24, X24, e24, st24⟩ := getF X23 hx hZ hown (host := "") (Or.inl (hw _ (List.mem_of_getElem? (i := 18) rfl))) Via.refl e23 F_count_v23 (g := (mkF m 63 #[.val (.ref a1), .val (.int p2)] [(.ref a1), (.ref a1)])) rfl rfl (hb hby d11_63)
    obtain ⟨T25, h25, X25, e25, W25, st25⟩ := putF X24 hx hZ hown (host := "") (Or.inl (hw _ (List.mem_of_getElem? (i := 18) rfl))) Via.refl e24 F_count_v23 Ex_v23 (Or.inl (hw _ (List.mem_of_getElem? (i := 19) rfl))) (hw _ (List.mem_of_getElem? (i := 2) rfl)) (ty := .long) (by decide) rfl rfl (g := (mkF m 68 #[.val (.ref a1), .val (.int p2)] [(.long (cn + (1 : Int64))), (.ref a1)])) rfl rfl (hb hby d11_68)
    have Ex_v25 := Ex_v23.wr W25
    have V0_v25 := V0_v23.other W25 (Ne.symm hab)
    have F_sum_v25 := F_sum_v23.other W25 (Or.inr (slot_ne (Or.inl (hw _ (List.mem_of_getElem? (i := 29) rfl))) (Or.inl (hw _ (List.mem_of_getElem? (i := 19) rfl))) (by decide) (t := .long) (t' := .long) (by decide) (by decide)))
    have F_max_v25 := F_max_v23.other W25 (Or.inr (slot_ne (Or.inl (hw _ (List.mem_of_getElem? (i := 31) rfl))) (Or.inl (hw _ (List.mem_of_getElem? (i := 19) rfl))) (by decide) (t := .int) (t' := .long) (by decide) (by decide)))
    have F20_v25 := F20_v23.other W25 (Or.inr (slot_ne (Or.inl (hw _ (List.mem_of_getElem? (i := 12) rfl))) (Or.inl (hw _ (List.mem_of_getElem? (i := 19) rfl))) (by decide) (t := (.array .long)) (t' := .long) (by decide) (by decide)))
    have V23_v25 := V23_v23.other W25 (Ne.symm ne_a1_b19)
    have Z25 : n0 ≤ h25.size := Nat.le_trans Z23 (Nat.le_of_eq W25.size.symm)
    have K25 := K23.wr W25 (Or.inl (by simp))
    have F25_v25 : Fld Z h25 a1 "nachbar/sim/Tally" "count" "J" (.long (cn + (1 : Int64))) := F_count_v23.same W25
    have N25 := Fr.snoc X25 N23 ga
    obtain ⟨T26, X26, e26, st26⟩ := getF X25 hx hZ hown (host := "") (Or.inl (hw _ (List.mem_of_getElem? (i := 28) rfl))) Via.refl e25 F_sum_v25 (g := (mkF m 73 #[.val (.ref a1), .val (.int p2)] [(.ref a1), (.ref a1)])) rfl rfl (hb hby d11_73)
    obtain ⟨T27, h27, X27, e27, W27, st27⟩ := putF X26 hx hZ hown (host := "") (Or.inl (hw _ (List.mem_of_getElem? (i := 28) rfl))) Via.refl e26 F_sum_v25 Ex_v25 (Or.inl (hw _ (List.mem_of_getElem? (i := 29) rfl))) (hw _ (List.mem_of_getElem? (i := 2) rfl)) (ty := .long) (by decide) rfl rfl (g := (mkF m 79 #[.val (.ref a1), .val (.int p2)] [(.long (sm + (p2.toInt64))), (.ref a1)])) rfl rfl (hb hby d11_79)
    have Ex_v27 := Ex_v25.wr W27
    have V0_v27 := V0_v25.other W27 (Ne.symm hab)
    have F_max_v27 := F_max_v25.other W27 (Or.inr (slot_ne (Or.inl (hw _ (List.mem_of_getElem? (i := 31) rfl))) (Or.inl (hw _ (List.mem_of_getElem? (i := 29) rfl))) (by decide) (t := .int) (t' := .long) (by decide) (by decide)))
    have F20_v27 := F20_v25.other W27 (Or.inr (slot_ne (Or.inl (hw _ (List.mem_of_getElem? (i := 12) rfl))) (Or.inl (hw _ (List.mem_of_getElem? (i := 29) rfl))) (by decide) (t := (.array .long)) (t' := .long) (by decide) (by decide)))
    have V23_v27 := V23_v25.other W27 (Ne.symm ne_a1_b19)
    have F25_v27 := F25_v25.other W27 (Or.inr (slot_ne (Or.inl (hw _ (List.mem_of_getElem? (i := 19) rfl))) (Or.inl (hw _ (List.mem_of_getElem? (i := 29) rfl))) (by decide) (t := .long) (t' := .long) (by decide) (by decide)))
    have Z27 : n0 ≤ h27.size := Nat.le_trans Z25 (Nat.le_of_eq W27.size.symm)
    have K27 := K25.wr W27 (Or.inl (by simp))
    have F27_v27 : Fld Z h27 a1 "nachbar/sim/Tally" "sum" "J" (.long (sm + (p2.toInt64))) := F_sum_v25.same W27
    have N27 := Fr.snoc X27 N25 ga
    obtain ⟨T28, X28, e28, st28⟩ := getF X27 hx hZ hown (host := "") (Or.inl (hw _ (List.mem_of_getElem? (i := 30) rfl))) Via.refl e27 F_max_v27 (g := (mkF m 84 #[.val (.ref a1), .val (.int p2)] [(.ref a1), (.ref a1)])) rfl rfl (hb hby d11_84)
    obtain ⟨_, _, ⟨T29, L29, k29, n29⟩, -, X29, ⟨Lc29, hQ29, l29, y29, z29⟩, st29⟩ := Jvm.LawKit.callS X28 hx (y := (⟨"java/lang/Math", "max", "(II)I"⟩ : MethodName)) hown (mvT hZ (hw _ (List.mem_of_getElem? (i := 74) rfl))) (mvT hZ (hw _ (List.mem_of_getElem? (i := 75) rfl))) (mvT hZ (hw _ (List.mem_of_getElem? (i := 76) rfl))) (mvT hZ (hw _ (List.mem_of_getElem? (i := 77) rfl))) (by decide) (backOf (W := 1) (rmx l Z a0 hw [] mx p2 h27 n0 Z27) hZ (hw _ (List.mem_of_getElem? (i := 77) rfl)) (hw _ (List.mem_of_getElem? (i := 76) rfl)) (Nat.le_of_ble_eq_true rfl) (Nat.le_of_ble_eq_true rfl)) (g := (mkF m 88 #[.val (.ref a1), .val (.int p2)] [(.int p2), (.int mx), (.ref a1)])) rfl (by rw [hml]; rfl) (argsL := [(.int mx), (.int p2)]) (rest := [(.ref a1)]) (lenOf pd_0 rfl) rfl (by show 2 * 0 + _ ≤ _; exact Nat.le_of_eq rfl) (hb hby d11_88) (fun _ _ => ⟨rfl, e28, (Nat.le_of_ble_eq_true rfl), (show 0 + cap + 0 ≤ cap from by omega)⟩)
    dsimp only [Pt.U, Pt.locs, Pt.cells, Pt.slots] at X29 l29 y29 z29 st29 hQ29
    subst l29 y29 z29
    obtain ⟨rfl, N29q, e29⟩ := hQ29
    have N29 := Fr.app N27 N29q
    obtain ⟨T30, h30, X30, e30, W30, st30⟩ := putF X29 hx hZ hown (host := "") (Or.inl (hw _ (List.mem_of_getElem? (i := 30) rfl))) Via.refl e29 F_max_v27 Ex_v27 (Or.inl (hw _ (List.mem_of_getElem? (i := 31) rfl))) (hw _ (List.mem_of_getElem? (i := 2) rfl)) (ty := .int) (by decide) rfl rfl (g := (mkF m 91 #[.val (.ref a1), .val (.int p2)] [(.int (own_max mx p2)), (.ref a1)])) rfl rfl (hb hby d11_91)
    have Ex_v30 := Ex_v27.wr W30
    have V0_v30 := V0_v27.other W30 (Ne.symm hab)
    have F20_v30 := F20_v27.other W30 (Or.inr (slot_ne (Or.inl (hw _ (List.mem_of_getElem? (i := 12) rfl))) (Or.inl (hw _ (List.mem_of_getElem? (i := 31) rfl))) (by decide) (t := (.array .long)) (t' := .int) (by decide) (by decide)))
    have V23_v30 := V23_v27.other W30 (Ne.symm ne_a1_b19)
    have F25_v30 := F25_v27.other W30 (Or.inr (slot_ne (Or.inl (hw _ (List.mem_of_getElem? (i := 19) rfl))) (Or.inl (hw _ (List.mem_of_getElem? (i := 31) rfl))) (by decide) (t := .long) (t' := .int) (by decide) (by decide)))
    have F27_v30 := F27_v27.other W30 (Or.inr (slot_ne (Or.inl (hw _ (List.mem_of_getElem? (i := 29) rfl))) (Or.inl (hw _ (List.mem_of_getElem? (i := 31) rfl))) (by decide) (t := .long) (t' := .int) (by decide) (by decide)))
    have Z30 : n0 ≤ h30.size := Nat.le_trans Z27 (Nat.le_of_eq W30.size.symm)
    have K30 := K27.wr W30 (Or.inl (by simp))
    have F30_v30 : Fld Z h30 a1 "nachbar/sim/Tally" "max" "I" (.int (own_max mx p2)) := F_max_v27.same W30
    have N30 := Fr.snoc X30 N29 ga
    obtain ⟨fs, hr, hrun, hended, hW, hsame⟩ := X30.leave (v := none) (fun _ => rfl)
    refine ⟨_, _, pre3 _ ?_, hrun, hended, _, _, rfl, ?_, ⟨_, rfl⟩, hW, hsame.mono (Nat.le_of_ble_eq_true rfl) (show 0 + cap ≤ cap from by omega)⟩
    · show Steps p.tables e below (T1.setTop (mkF m 24 #[.val (.ref a1), .val (.int p2)] [(.int z), (.int p2)])) _
      refine XS.icmpNo X1.here hx rfl (hb hby d11_24) rfl (flt hc24_4).1 ?_
      show Steps p.tables e below (T1.setTop (mkF m 27 #[.val (.ref a1), .val (.int p2)] [])) _
      refine XS.aloadN X1.here hx rfl (hb hby d11_27) rfl rfl ?_
      show Steps p.tables e below (T1.setTop (mkF m 28 #[.val (.ref a1), .val (.int p2)] [(.ref a1)])) _
      refine XS.aloadN X1.here hx rfl (hb hby d11_28) rfl rfl ?_
      show Steps p.tables e below (T1.setTop (mkF m 29 #[.val (.ref a1), .val (.int p2)] [(.ref a1), (.ref a1)])) _
      refine st15 _ ?_
      show Steps p.tables e below (T15.setTop (mkF m 32 #[.val (.ref a1), .val (.int p2)] [(.ref b), (.ref a1)])) _
      refine XS.iloadN X15.here hx rfl (hb hby d11_32) rfl ?_
      show Steps p.tables e below (T15.setTop (mkF m 33 #[.val (.ref a1), .val (.int p2)] [(.int p2), (.ref b), (.ref a1)])) _
      refine XS.iconst X15.here hx rfl (hb hby d11_33) ?_
      show Steps p.tables e below (T15.setTop (mkF m 34 #[.val (.ref a1), .val (.int p2)] [(.int (1 : Int32)), (.int p2), (.ref b), (.ref a1)])) _
      refine XS.iadd X15.here hx rfl (hb hby d11_34) rfl ?_
      show Steps p.tables e below (T15.setTop (mkF m 35 #[.val (.ref a1), .val (.int p2)] [(.int (p2 + (1 : Int32))), (.ref b), (.ref a1)])) _
      refine XS.iconst X15.here hx rfl (hb hby d11_35) ?_
      show Steps p.tables e below (T15.setTop (mkF m 36 #[.val (.ref a1), .val (.int p2)] [(.int (2 : Int32)), (.int (p2 + (1 : Int32))), (.ref b), (.ref a1)])) _
      refine XS.aloadN X15.here hx rfl (hb hby d11_36) rfl rfl ?_
      show Steps p.tables e below (T15.setTop (mkF m 37 #[.val (.ref a1), .val (.int p2)] [(.ref a1), (.int (2 : Int32)), (.int (p2 + (1 : Int32))), (.ref b), (.ref a1)])) _
      refine st16 _ ?_
      show Steps p.tables e below (T16.setTop (mkF m 40 #[.val (.ref a1), .val (.int p2)] [(.ref b), (.int (2 : Int32)), (.int (p2 + (1 : Int32))), (.ref b), (.ref a1)])) _
      refine X16.arraylength hx (by rw [e16]; exact Ar17.1) (State.isArrayOf_alike hZ.alike Ar17.2.1) (g := (mkF m 40 #[.val (.ref a1), .val (.int p2)] [(.ref b), (.int (2 : Int32)), (.int (p2 + (1 : Int32))), (.ref b), (.ref a1)])) rfl rfl (hb hby d11_40) _ ?_
      rw [show cl17.slots.size.toInt32 = z from by rw [S17]; exact (back32 hz).1]
      show Steps p.tables e below (T16.setTop (mkF m 41 #[.val (.ref a1), .val (.int p2)] [(.int z), (.int (2 : Int32)), (.int (p2 + (1 : Int32))), (.ref b), (.ref a1)])) _
      refine XS.imul X16.here hx rfl (hb hby d11_41) rfl ?_
      show Steps p.tables e below (T16.setTop (mkF m 42 #[.val (.ref a1), .val (.int p2)] [(.int ((2 : Int32) * z)), (.int (p2 + (1 : Int32))), (.ref b), (.ref a1)])) _
      refine st18 _ ?_
      show Steps p.tables e below (T18.setTop (mkF m 45 #[.val (.ref a1), .val (.int p2)] [(.int (own_max (p2 + (1 : Int32)) ((2 : Int32) * z))), (.ref b), (.ref a1)])) _
      refine st19 _ ?_
      show Steps p.tables e below (T19.setTop (mkF m 48 #[.val (.ref a1), .val (.int p2)] [(.ref b19), (.ref a1)])) _
      refine st20 _ ?_
      show Steps p.tables e below (T20.setTop (mkF m 51 #[.val (.ref a1), .val (.int p2)] [])) _
      refine XS.aloadN X20.here hx rfl (hb hby d11_51) rfl rfl ?_
      show Steps p.tables e below (T20.setTop (mkF m 52 #[.val (.ref a1), .val (.int p2)] [(.ref a1)])) _
      refine st21 _ ?_
      show Steps p.tables e below (T21.setTop (mkF m 55 #[.val (.ref a1), .val (.int p2)] [(.ref b19)])) _
      refine XS.iloadN X21.here hx rfl (hb hby d11_55) rfl ?_
      show Steps p.tables e below (T21.setTop (mkF m 56 #[.val (.ref a1), .val (.int p2)] [(.int p2), (.ref b19)])) _
      refine Jvm.Free.XT.dup2 X21.here hx rfl (hb hby d11_56) rfl rfl rfl ?_
      show Steps p.tables e below (T21.setTop (mkF m 57 #[.val (.ref a1), .val (.int p2)] [(.int p2), (.ref b19), (.int p2), (.ref b19)])) _
      refine X21.laload hx (j := p2) (v := (.long (own_cp z g p2.toNatClampNeg))) (by rw [e21]; exact Ar22.1) (State.isArrayOf_alike hZ.alike Ar22.2.1) Ar22.2.2 hin22 hat22 (g := (mkF m 57 #[.val (.ref a1), .val (.int p2)] [(.int p2), (.ref b19), (.int p2), (.ref b19)])) rfl rfl (hb hby d11_57) _ ?_
      show Steps p.tables e below (T21.setTop (mkF m 58 #[.val (.ref a1), .val (.int p2)] [(.long (own_cp z g p2.toNatClampNeg)), (.int p2), (.ref b19)])) _
      refine XS.lconst X21.here hx rfl (hb hby d11_58) ?_
      show Steps p.tables e below (T21.setTop (mkF m 59 #[.val (.ref a1), .val (.int p2)] [(.long (1 : Int64)), (.long (own_cp z g p2.toNatClampNeg)), (.int p2), (.ref b19)])) _
      refine XS.ladd X21.here hx rfl (hb hby d11_59) rfl ?_
      show Steps p.tables e below (T21.setTop (mkF m 60 #[.val (.ref a1), .val (.int p2)] [(.long ((own_cp z g p2.toNatClampNeg) + (1 : Int64))), (.int p2), (.ref b19)])) _
      refine st23 _ ?_
      show Steps p.tables e below (T23.setTop (mkF m 61 #[.val (.ref a1), .val (.int p2)] [])) _
      refine XS.aloadN X23.here hx rfl (hb hby d11_61) rfl rfl ?_
      show Steps p.tables e below (T23.setTop (mkF m 62 #[.val (.ref a1), .val (.int p2)] [(.ref a1)])) _
      refine XS.dup X23.here hx rfl (hb hby d11_62) rfl rfl ?_
      show Steps p.tables e below (T23.setTop (mkF m 63 #[.val (.ref a1), .val (.int p2)] [(.ref a1), (.ref a1)])) _
      refine st24 _ ?_
      show Steps p.tables e below (T24.setTop (mkF m 66 #[.val (.ref a1), .val (.int p2)] [(.long cn), (.ref a1)])) _
      refine XS.lconst X24.here hx rfl (hb hby d11_66) ?_
      show Steps p.tables e below (T24.setTop (mkF m 67 #[.val (.ref a1), .val (.int p2)] [(.long (1 : Int64)), (.long cn), (.ref a1)])) _
      refine XS.ladd X24.here hx rfl (hb hby d11_67) rfl ?_
      show Steps p.tables e below (T24.setTop (mkF m 68 #[.val (.ref a1), .val (.int p2)] [(.long (cn + (1 : Int64))), (.ref a1)])) _
      refine st25 _ ?_
      show Steps p.tables e below (T25.setTop (mkF m 71 #[.val (.ref a1), .val (.int p2)] [])) _
      refine XS.aloadN X25.here hx rfl (hb hby d11_71) rfl rfl ?_
      show Steps p.tables e below (T25.setTop (mkF m 72 #[.val (.ref a1), .val (.int p2)] [(.ref a1)])) _
      refine XS.dup X25.here hx rfl (hb hby d11_72) rfl rfl ?_
      show Steps p.tables e below (T25.setTop (mkF m 73 #[.val (.ref a1), .val (.int p2)] [(.ref a1), (.ref a1)])) _
      refine st26 _ ?_
      show Steps p.tables e below (T26.setTop (mkF m 76 #[.val (.ref a1), .val (.int p2)] [(.long sm), (.ref a1)])) _
      refine XS.iloadN X26.here hx rfl (hb hby d11_76) rfl ?_
      show Steps p.tables e below (T26.setTop (mkF m 77 #[.val (.ref a1), .val (.int p2)] [(.int p2), (.long sm), (.ref a1)])) _
      refine XS.i2l X26.here hx rfl (hb hby d11_77) rfl ?_
      show Steps p.tables e below (T26.setTop (mkF m 78 #[.val (.ref a1), .val (.int p2)] [(.long (p2.toInt64)), (.long sm), (.ref a1)])) _
      refine XS.ladd X26.here hx rfl (hb hby d11_78) rfl ?_
      show Steps p.tables e below (T26.setTop (mkF m 79 #[.val (.ref a1), .val (.int p2)] [(.long (sm + (p2.toInt64))), (.ref a1)])) _
      refine st27 _ ?_
      show Steps p.tables e below (T27.setTop (mkF m 82 #[.val (.ref a1), .val (.int p2)] [])) _
      refine XS.aloadN X27.here hx rfl (hb hby d11_82) rfl rfl ?_
      show Steps p.tables e below (T27.setTop (mkF m 83 #[.val (.ref a1), .val (.int p2)] [(.ref a1)])) _
      refine XS.aloadN X27.here hx rfl (hb hby d11_83) rfl rfl ?_
      show Steps p.tables e below (T27.setTop (mkF m 84 #[.val (.ref a1), .val (.int p2)] [(.ref a1), (.ref a1)])) _
      refine st28 _ ?_
      show Steps p.tables e below (T28.setTop (mkF m 87 #[.val (.ref a1), .val (.int p2)] [(.int mx), (.ref a1)])) _
      refine XS.iloadN X28.here hx rfl (hb hby d11_87) rfl ?_
      show Steps p.tables e below (T28.setTop (mkF m 88 #[.val (.ref a1), .val (.int p2)] [(.int p2), (.int mx), (.ref a1)])) _
      refine st29 _ ?_
      show Steps p.tables e below (T29.setTop (mkF m 91 #[.val (.ref a1), .val (.int p2)] [(.int (own_max mx p2)), (.ref a1)])) _
      refine st30 _ ?_
      show Steps p.tables e below (T30.setTop (mkF m 94 #[.val (.ref a1), .val (.int p2)] [])) _
      exact X30.returnOut hx Bd.returns (hb hby d11_94) hr
    · show Q_rma Z a1 p2 b z g cn sm mx cap h0 n0 _ T30.heap _
      rw [e30]
      exact ⟨b19, rfl, N30, K30, g_b19, ne_a1_b19, F20_v30, F25_v30, F27_v30, F30_v30, (by rw [own_z, if_neg hc24_4]; exact V23_v30.congr (fun i hi => own_incW p2 z g g0 i))⟩
theorem d5_0 : decode prog_144_method_1_code 0 = .ok (.aload_n 0, 1) := by decide +kernel
theorem d5_1 : decode prog_144_method_1_code 1 = .ok (.invokespecial 1, 3) := by decide +kernel
theorem d5_4 : decode prog_144_method_1_code 4 = .ok (.aload_n 0, 1) := by decide +kernel
theorem d5_5 : decode prog_144_method_1_code 5 = .ok (.lload_n 1, 1) := by decide +kernel
theorem d5_6 : decode prog_144_method_1_code 6 = .ok (.putfield 7, 3) := by decide +kernel
theorem d5_9 : decode prog_144_method_1_code 9 = .ok (.aload_n 0, 1) := by decide +kernel
theorem d5_10 : decode prog_144_method_1_code 10 = .ok (.lload_n 3, 1) := by decide +kernel
theorem d5_11 : decode prog_144_method_1_code 11 = .ok (.putfield 13, 3) := by decide +kernel
theorem d5_14 : decode prog_144_method_1_code 14 = .ok (.aload_n 0, 1) := by decide +kernel
theorem d5_15 : decode prog_144_method_1_code 15 = .ok (.lload 5, 2) := by decide +kernel
theorem d5_17 : decode prog_144_method_1_code 17 = .ok (.putfield 16, 3) := by decide +kernel
theorem d5_20 : decode prog_144_method_1_code 20 = .ok (.aload_n 0, 1) := by decide +kernel
theorem d5_21 : decode prog_144_method_1_code 21 = .ok (.lload 7, 2) := by decide +kernel
theorem d5_23 : decode prog_144_method_1_code 23 = .ok (.putfield 19, 3) := by decide +kernel
theorem d5_26 : decode prog_144_method_1_code 26 = .ok (.return_, 1) := by decide +kernel
theorem pn_rms : plainName "nachbar/sim/Summary" = true := by first | (simp [plainName, overriddenIn]; done) | decide +kernel
theorem ef_rms (m : MethodId) (x0 : Addr) (x1 : Int64) (x2 : Int64) (x3 : Int64) (x4 : Int64) : entryFrame m #[(.ref x0), (.long x1), (.long x2), (.long x3), (.long x4)] 9 = mkF m 0 #[.val (.ref x0), .val (.long x1), .second, .val (.long x2), .second, .val (.long x3), .second, .val (.long x4), .second] [] := by first | (simp [entryFrame, mkF, argsToLocals, Value.category]; done) | rfl
def Q_rms (Z : State) (a1 : Addr) (q2 : Int64) (q3 : Int64) (q4 : Int64) (q5 : Int64) (h0 : Heap) (n0 : Nat) (v : Option Value) (h : Heap) (L : List Loc) : Prop := v = none ∧ Fr n0 L ∧ Keep h0 h [a1] ∧ Fld Z h a1 "nachbar/sim/Summary" "count" "J" (.long q2) ∧ Fld Z h a1 "nachbar/sim/Summary" "sum" "J" (.long q3) ∧ Fld Z h a1 "nachbar/sim/Summary" "p99" "J" (.long q4) ∧ Fld Z h a1 "nachbar/sim/Summary" "max" "J" (.long q5)
set_option maxRecDepth 65536 in
set_option maxHeartbeats 40000000 in
theorem rms (l : Launch) (Z : State) (a0 : Array Value) (hw : ∀ d ∈ tables_1, d.before a0 Z = true) (ws : List Jvm.Cond) (a1 : Addr) (q2 : Int64) (q3 : Int64) (q4 : Int64) (q5 : Int64) (h0 : Heap) (n0 : Nat) (Z0 : n0 ≤ h0.size) (Ex : Exa Z h0 a1 "nachbar/sim/Summary") (F_count : Fld Z h0 a1 "nachbar/sim/Summary" "count" "J" (.long (0 : Int64))) (F_sum : Fld Z h0 a1 "nachbar/sim/Summary" "sum" "J" (.long (0 : Int64))) (F_p99 : Fld Z h0 a1 "nachbar/sim/Summary" "p99" "J" (.long (0 : Int64))) (F_max : Fld Z h0 a1 "nachbar/sim/Summary" "max" "J" (.long (0 : Int64))) (ga : n0 ≤ a1) :
    MetFree l (⟨"nachbar/sim/Summary", "<init>", "(JJJJ)V"⟩ : MethodName) (head1 (Jvm.Cond.code (⟨"nachbar/sim/Summary", "<init>", "(JJJJ)V"⟩ : MethodName) prog_144_method_1_code 9 none :: ws) ({ frames := 2, cells := 0, slots := 0, locals := 24 } : Room)) (fun a U => a = #[(.ref a1), (.long q2), (.long q3), (.long q4), (.long q5)] ∧ Z.Warmed39 U.vm ∧ U.heap = h0) (fun _ _ _ _ _ => True) (fun _ U o U' => ∃ v L, o = .returned v ∧ Q_rms Z a1 q2 q3 q4 q5 h0 n0 v U'.heap L ∧ FrameEnd U o U' L ({ frames := 2, cells := 0, slots := 0, locals := 24 } : Room).cells ({ frames := 2, cells := 0, slots := 0, locals := 24 } : Room).slots) := by
  refine MetFree.of_bodySF (plainFor_of_name pn_rms) hisR ?_
  intro p e s m args below meth c s₁ Bd hml0 hP hK
  obtain ⟨rfl, hZ, hh⟩ := hP
  have hx := Bd.exec
  have hby := Bd.bytes
  have hml : c.maxLocals = 9 := hml0
  have hown : s.vm.findClass "nachbar/sim/Summary" = some m.cls := findClass_of_methodNamed Bd.named
  have hnm := (name_of_methodNamed Bd.named Bd.method).1
  have X0 : Stand p l e ({ frames := 2, cells := 0, slots := 0, locals := 24 } : Room) s m #[(.ref a1), (.long q2), (.long q3), (.long q4), (.long q5)] below meth c s₁ [] 0 0 := Stand.of_body Bd
  have e0 : s₁.heap = h0 := by rw [← hh, Bd.state]; rfl
  have N0 := Fr.nil n0
  have pre0 : ∀ t, Steps p.tables e below (s₁.setTop (mkF m 0 #[.val (.ref a1), .val (.long q2), .second, .val (.long q3), .second, .val (.long q4), .second, .val (.long q5), .second] [])) t → Steps p.tables e below (s₁.setTop (entryFrame m #[(.ref a1), (.long q2), (.long q3), (.long q4), (.long q5)] 9)) t := fun t k => castTop (ef_rms m a1 q2 q3 q4 q5) k
  have K0 := Keep.refl h0 [a1]
  obtain ⟨_, _, ⟨T1, L1, k1, n1⟩, -, X1, ⟨Lc1, hQ1, l1, y1, z1⟩, st1⟩ := X0.specialBack hx (y := (⟨"java/lang/Record", "<init>", "()V"⟩ : MethodName)) rfl hown (mvT hZ (hw _ (List.mem_of_getElem? (i := 35) rfl))) (mvT hZ (hw _ (List.mem_of_getElem? (i := 36) rfl))) (mvT hZ (hw _ (List.mem_of_getElem? (i := 39) rfl))) (by decide) (backOf (W := 0) (rmr l Z a0 hw [] a1 h0 n0 Z0) hZ (hw _ (List.mem_of_getElem? (i := 39) rfl)) (hw _ (List.mem_of_getElem? (i := 38) rfl)) (by decide) (by decide)) (g := (mkF m 1 #[.val (.ref a1), .val (.long q2), .second, .val (.long q3), .second, .val (.long q4), .second, .val (.long q5), .second] [(.ref a1)])) rfl (by rw [hml]; rfl) (Steps.refl _) (a := a1) (argsL := []) (rest := []) (lenOf pd_2 rfl) rfl (by show 2 * 0 + _ ≤ _; exact Nat.le_of_eq rfl) (hb hby d5_1) (fun _ _ => ⟨rfl, e0, (by decide : 0 + 0 ≤ _), (by decide : 0 + 0 ≤ _)⟩)
  dsimp only [Pt.U, Pt.locs, Pt.cells, Pt.slots] at X1 l1 y1 z1 st1 hQ1
  subst l1 y1 z1
  obtain ⟨rfl, N1q, e1⟩ := hQ1
  have N1 := Fr.app N0 N1q
  obtain ⟨T2, h2, X2, e2, W2, st2⟩ := putF X1 hx hZ hown (host := "") (Or.inl (hw _ (List.mem_of_getElem? (i := 41) rfl))) Via.refl e1 F_count Ex (Or.inr ⟨(hw _ (List.mem_of_getElem? (i := 42) rfl)), rfl, hnm⟩) (hw _ (List.mem_of_getElem? (i := 27) rfl)) (ty := .long) (by decide) rfl rfl (g := (mkF m 6 #[.val (.ref a1), .val (.long q2), .second, .val (.long q3), .second, .val (.long q4), .second, .val (.long q5), .second] [(.long q2), (.ref a1)])) rfl rfl (hb hby d5_6)
  have Ex_v2 := Ex.wr W2
  have F_sum_v2 := F_sum.other W2 (Or.inr (slot_ne (Or.inr (hw _ (List.mem_of_getElem? (i := 44) rfl))) (Or.inr (hw _ (List.mem_of_getElem? (i := 42) rfl))) (by decide) (t := .long) (t' := .long) (by decide) (by decide)))
  have F_p99_v2 := F_p99.other W2 (Or.inr (slot_ne (Or.inr (hw _ (List.mem_of_getElem? (i := 46) rfl))) (Or.inr (hw _ (List.mem_of_getElem? (i := 42) rfl))) (by decide) (t := .long) (t' := .long) (by decide) (by decide)))
  have F_max_v2 := F_max.other W2 (Or.inr (slot_ne (Or.inr (hw _ (List.mem_of_getElem? (i := 48) rfl))) (Or.inr (hw _ (List.mem_of_getElem? (i := 42) rfl))) (by decide) (t := .long) (t' := .long) (by decide) (by decide)))
  have Z2 : n0 ≤ h2.size := Nat.le_trans Z0 (Nat.le_of_eq W2.size.symm)
  have K2 := K0.wr W2 (Or.inl (by simp))
  have F2_v2 : Fld Z h2 a1 "nachbar/sim/Summary" "count" "J" (.long q2) := F_count.same W2
  have N2 := Fr.snoc X2 N1 ga
  obtain ⟨T3, h3, X3, e3, W3, st3⟩ := putF X2 hx hZ hown (host := "") (Or.inl (hw _ (List.mem_of_getElem? (i := 43) rfl))) Via.refl e2 F_sum_v2 Ex_v2 (Or.inr ⟨(hw _ (List.mem_of_getElem? (i := 44) rfl)), rfl, hnm⟩) (hw _ (List.mem_of_getElem? (i := 27) rfl)) (ty := .long) (by decide) rfl rfl (g := (mkF m 11 #[.val (.ref a1), .val (.long q2), .second, .val (.long q3), .second, .val (.long q4), .second, .val (.long q5), .second] [(.long q3), (.ref a1)])) rfl rfl (hb hby d5_11)
  have Ex_v3 := Ex_v2.wr W3
  have F_p99_v3 := F_p99_v2.other W3 (Or.inr (slot_ne (Or.inr (hw _ (List.mem_of_getElem? (i := 46) rfl))) (Or.inr (hw _ (List.mem_of_getElem? (i := 44) rfl))) (by decide) (t := .long) (t' := .long) (by decide) (by decide)))
  have F_max_v3 := F_max_v2.other W3 (Or.inr (slot_ne (Or.inr (hw _ (List.mem_of_getElem? (i := 48) rfl))) (Or.inr (hw _ (List.mem_of_getElem? (i := 44) rfl))) (by decide) (t := .long) (t' := .long) (by decide) (by decide)))
  have F2_v3 := F2_v2.other W3 (Or.inr (slot_ne (Or.inr (hw _ (List.mem_of_getElem? (i := 42) rfl))) (Or.inr (hw _ (List.mem_of_getElem? (i := 44) rfl))) (by decide) (t := .long) (t' := .long) (by decide) (by decide)))
  have Z3 : n0 ≤ h3.size := Nat.le_trans Z2 (Nat.le_of_eq W3.size.symm)
  have K3 := K2.wr W3 (Or.inl (by simp))
  have F3_v3 : Fld Z h3 a1 "nachbar/sim/Summary" "sum" "J" (.long q3) := F_sum_v2.same W3
  have N3 := Fr.snoc X3 N2 ga
  obtain ⟨T4, h4, X4, e4, W4, st4⟩ := putF X3 hx hZ hown (host := "") (Or.inl (hw _ (List.mem_of_getElem? (i := 45) rfl))) Via.refl e3 F_p99_v3 Ex_v3 (Or.inr ⟨(hw _ (List.mem_of_getElem? (i := 46) rfl)), rfl, hnm⟩) (hw _ (List.mem_of_getElem? (i := 27) rfl)) (ty := .long) (by decide) rfl rfl (g := (mkF m 17 #[.val (.ref a1), .val (.long q2), .second, .val (.long q3), .second, .val (.long q4), .second, .val (.long q5), .second] [(.long q4), (.ref a1)])) rfl rfl (hb hby d5_17)
  have Ex_v4 := Ex_v3.wr W4
  have F_max_v4 := F_max_v3.other W4 (Or.inr (slot_ne (Or.inr (hw _ (List.mem_of_getElem? (i := 48) rfl))) (Or.inr (hw _ (List.mem_of_getElem? (i := 46) rfl))) (by decide) (t := .long) (t' := .long) (by decide) (by decide)))
  have F2_v4 := F2_v3.other W4 (Or.inr (slot_ne (Or.inr (hw _ (List.mem_of_getElem? (i := 42) rfl))) (Or.inr (hw _ (List.mem_of_getElem? (i := 46) rfl))) (by decide) (t := .long) (t' := .long) (by decide) (by decide)))
  have F3_v4 := F3_v3.other W4 (Or.inr (slot_ne (Or.inr (hw _ (List.mem_of_getElem? (i := 44) rfl))) (Or.inr (hw _ (List.mem_of_getElem? (i := 46) rfl))) (by decide) (t := .long) (t' := .long) (by decide) (by decide)))
  have Z4 : n0 ≤ h4.size := Nat.le_trans Z3 (Nat.le_of_eq W4.size.symm)
  have K4 := K3.wr W4 (Or.inl (by simp))
  have F4_v4 : Fld Z h4 a1 "nachbar/sim/Summary" "p99" "J" (.long q4) := F_p99_v3.same W4
  have N4 := Fr.snoc X4 N3 ga
  obtain ⟨T5, h5, X5, e5, W5, st5⟩ := putF X4 hx hZ hown (host := "") (Or.inl (hw _ (List.mem_of_getElem? (i := 47) rfl))) Via.refl e4 F_max_v4 Ex_v4 (Or.inr ⟨(hw _ (List.mem_of_getElem? (i := 48) rfl)), rfl, hnm⟩) (hw _ (List.mem_of_getElem? (i := 27) rfl)) (ty := .long) (by decide) rfl rfl (g := (mkF m 23 #[.val (.ref a1), .val (.long q2), .second, .val (.long q3), .second, .val (.long q4), .second, .val (.long q5), .second] [(.long q5), (.ref a1)])) rfl rfl (hb hby d5_23)
  have Ex_v5 := Ex_v4.wr W5
  have F2_v5 := F2_v4.other W5 (Or.inr (slot_ne (Or.inr (hw _ (List.mem_of_getElem? (i := 42) rfl))) (Or.inr (hw _ (List.mem_of_getElem? (i := 48) rfl))) (by decide) (t := .long) (t' := .long) (by decide) (by decide)))
  have F3_v5 := F3_v4.other W5 (Or.inr (slot_ne (Or.inr (hw _ (List.mem_of_getElem? (i := 44) rfl))) (Or.inr (hw _ (List.mem_of_getElem? (i := 48) rfl))) (by decide) (t := .long) (t' := .long) (by decide) (by decide)))
  have F4_v5 := F4_v4.other W5 (Or.inr (slot_ne (Or.inr (hw _ (List.mem_of_getElem? (i := 46) rfl))) (Or.inr (hw _ (List.mem_of_getElem? (i := 48) rfl))) (by decide) (t := .long) (t' := .long) (by decide) (by decide)))
  have Z5 : n0 ≤ h5.size := Nat.le_trans Z4 (Nat.le_of_eq W5.size.symm)
  have K5 := K4.wr W5 (Or.inl (by simp))
  have F5_v5 : Fld Z h5 a1 "nachbar/sim/Summary" "max" "J" (.long q5) := F_max_v4.same W5
  have N5 := Fr.snoc X5 N4 ga
  obtain ⟨fs, hr, hrun, hended, hW, hsame⟩ := X5.leave (v := none) (fun _ => rfl)
  refine ⟨_, _, pre0 _ ?_, hrun, hended, _, _, rfl, ?_, ⟨_, rfl⟩, hW, hsame.mono (by decide) (by decide)⟩
  · show Steps p.tables e below (s₁.setTop (mkF m 0 #[.val (.ref a1), .val (.long q2), .second, .val (.long q3), .second, .val (.long q4), .second, .val (.long q5), .second] [])) _
    refine XS.aloadN X0.here hx rfl (hb hby d5_0) rfl rfl ?_
    show Steps p.tables e below (s₁.setTop (mkF m 1 #[.val (.ref a1), .val (.long q2), .second, .val (.long q3), .second, .val (.long q4), .second, .val (.long q5), .second] [(.ref a1)])) _
    refine st1.trans ?_
    show Steps p.tables e below (T1.setTop (mkF m 4 #[.val (.ref a1), .val (.long q2), .second, .val (.long q3), .second, .val (.long q4), .second, .val (.long q5), .second] [])) _
    refine XS.aloadN X1.here hx rfl (hb hby d5_4) rfl rfl ?_
    show Steps p.tables e below (T1.setTop (mkF m 5 #[.val (.ref a1), .val (.long q2), .second, .val (.long q3), .second, .val (.long q4), .second, .val (.long q5), .second] [(.ref a1)])) _
    refine XS.lloadN X1.here hx rfl (hb hby d5_5) rfl ?_
    show Steps p.tables e below (T1.setTop (mkF m 6 #[.val (.ref a1), .val (.long q2), .second, .val (.long q3), .second, .val (.long q4), .second, .val (.long q5), .second] [(.long q2), (.ref a1)])) _
    refine st2 _ ?_
    show Steps p.tables e below (T2.setTop (mkF m 9 #[.val (.ref a1), .val (.long q2), .second, .val (.long q3), .second, .val (.long q4), .second, .val (.long q5), .second] [])) _
    refine XS.aloadN X2.here hx rfl (hb hby d5_9) rfl rfl ?_
    show Steps p.tables e below (T2.setTop (mkF m 10 #[.val (.ref a1), .val (.long q2), .second, .val (.long q3), .second, .val (.long q4), .second, .val (.long q5), .second] [(.ref a1)])) _
    refine XS.lloadN X2.here hx rfl (hb hby d5_10) rfl ?_
    show Steps p.tables e below (T2.setTop (mkF m 11 #[.val (.ref a1), .val (.long q2), .second, .val (.long q3), .second, .val (.long q4), .second, .val (.long q5), .second] [(.long q3), (.ref a1)])) _
    refine st3 _ ?_
    show Steps p.tables e below (T3.setTop (mkF m 14 #[.val (.ref a1), .val (.long q2), .second, .val (.long q3), .second, .val (.long q4), .second, .val (.long q5), .second] [])) _
    refine XS.aloadN X3.here hx rfl (hb hby d5_14) rfl rfl ?_
    show Steps p.tables e below (T3.setTop (mkF m 15 #[.val (.ref a1), .val (.long q2), .second, .val (.long q3), .second, .val (.long q4), .second, .val (.long q5), .second] [(.ref a1)])) _
    refine XS.lload X3.here hx rfl (hb hby d5_15) rfl ?_
    show Steps p.tables e below (T3.setTop (mkF m 17 #[.val (.ref a1), .val (.long q2), .second, .val (.long q3), .second, .val (.long q4), .second, .val (.long q5), .second] [(.long q4), (.ref a1)])) _
    refine st4 _ ?_
    show Steps p.tables e below (T4.setTop (mkF m 20 #[.val (.ref a1), .val (.long q2), .second, .val (.long q3), .second, .val (.long q4), .second, .val (.long q5), .second] [])) _
    refine XS.aloadN X4.here hx rfl (hb hby d5_20) rfl rfl ?_
    show Steps p.tables e below (T4.setTop (mkF m 21 #[.val (.ref a1), .val (.long q2), .second, .val (.long q3), .second, .val (.long q4), .second, .val (.long q5), .second] [(.ref a1)])) _
    refine XS.lload X4.here hx rfl (hb hby d5_21) rfl ?_
    show Steps p.tables e below (T4.setTop (mkF m 23 #[.val (.ref a1), .val (.long q2), .second, .val (.long q3), .second, .val (.long q4), .second, .val (.long q5), .second] [(.long q5), (.ref a1)])) _
    refine st5 _ ?_
    show Steps p.tables e below (T5.setTop (mkF m 26 #[.val (.ref a1), .val (.long q2), .second, .val (.long q3), .second, .val (.long q4), .second, .val (.long q5), .second] [])) _
    exact X5.returnOut hx Bd.returns (hb hby d5_26) hr
  · show Q_rms Z a1 q2 q3 q4 q5 h0 n0 _ T5.heap _
    rw [e5]
    exact ⟨rfl, N5, K5, F2_v5, F3_v5, F4_v5, F5_v5⟩
theorem d3_0 : decode prog_146_method_3_code 0 = .ok (.aload_n 0, 1) := by decide +kernel
theorem d3_1 : decode prog_146_method_3_code 1 = .ok (.getfield 34, 3) := by decide +kernel
theorem d3_4 : decode prog_146_method_3_code 4 = .ok (.invokestatic 44, 3) := by decide +kernel
theorem d3_7 : decode prog_146_method_3_code 7 = .ok (.lstore_n 1, 1) := by decide +kernel
theorem d3_8 : decode prog_146_method_3_code 8 = .ok (.iconst 0, 1) := by decide +kernel
theorem d3_9 : decode prog_146_method_3_code 9 = .ok (.istore_n 3, 1) := by decide +kernel
theorem d3_10 : decode prog_146_method_3_code 10 = .ok (.aload_n 0, 1) := by decide +kernel
theorem d3_11 : decode prog_146_method_3_code 11 = .ok (.getfield 7, 3) := by decide +kernel
theorem d3_14 : decode prog_146_method_3_code 14 = .ok (.iconst 0, 1) := by decide +kernel
theorem d3_15 : decode prog_146_method_3_code 15 = .ok (.laload, 1) := by decide +kernel
theorem d3_16 : decode prog_146_method_3_code 16 = .ok (.lstore 4, 2) := by decide +kernel
theorem d3_18 : decode prog_146_method_3_code 18 = .ok (.lload 4, 2) := by decide +kernel
theorem d3_20 : decode prog_146_method_3_code 20 = .ok (.lload_n 1, 1) := by decide +kernel
theorem d3_21 : decode prog_146_method_3_code 21 = .ok (.lcmp, 1) := by decide +kernel
theorem d3_22 : decode prog_146_method_3_code 22 = .ok (.ifCond .ge 20, 3) := by decide +kernel
theorem d3_25 : decode prog_146_method_3_code 25 = .ok (.iinc 3 1, 3) := by decide +kernel
theorem d3_28 : decode prog_146_method_3_code 28 = .ok (.lload 4, 2) := by decide +kernel
theorem d3_30 : decode prog_146_method_3_code 30 = .ok (.aload_n 0, 1) := by decide +kernel
theorem d3_31 : decode prog_146_method_3_code 31 = .ok (.getfield 7, 3) := by decide +kernel
theorem d3_34 : decode prog_146_method_3_code 34 = .ok (.iload_n 3, 1) := by decide +kernel
theorem d3_35 : decode prog_146_method_3_code 35 = .ok (.laload, 1) := by decide +kernel
theorem d3_36 : decode prog_146_method_3_code 36 = .ok (.ladd, 1) := by decide +kernel
theorem d3_37 : decode prog_146_method_3_code 37 = .ok (.lstore 4, 2) := by decide +kernel
theorem d3_39 : decode prog_146_method_3_code 39 = .ok (.goto (-21), 3) := by decide +kernel
theorem d3_42 : decode prog_146_method_3_code 42 = .ok (.new 45, 3) := by decide +kernel
theorem d3_45 : decode prog_146_method_3_code 45 = .ok (.dup, 1) := by decide +kernel
theorem d3_46 : decode prog_146_method_3_code 46 = .ok (.aload_n 0, 1) := by decide +kernel
theorem d3_47 : decode prog_146_method_3_code 47 = .ok (.getfield 34, 3) := by decide +kernel
theorem d3_50 : decode prog_146_method_3_code 50 = .ok (.aload_n 0, 1) := by decide +kernel
theorem d3_51 : decode prog_146_method_3_code 51 = .ok (.getfield 38, 3) := by decide +kernel
theorem d3_54 : decode prog_146_method_3_code 54 = .ok (.iload_n 3, 1) := by decide +kernel
theorem d3_55 : decode prog_146_method_3_code 55 = .ok (.i2l, 1) := by decide +kernel
theorem d3_56 : decode prog_146_method_3_code 56 = .ok (.aload_n 0, 1) := by decide +kernel
theorem d3_57 : decode prog_146_method_3_code 57 = .ok (.getfield 41, 3) := by decide +kernel
theorem d3_60 : decode prog_146_method_3_code 60 = .ok (.i2l, 1) := by decide +kernel
theorem d3_61 : decode prog_146_method_3_code 61 = .ok (.invokespecial 50, 3) := by decide +kernel
theorem d3_64 : decode prog_146_method_3_code 64 = .ok (.areturn, 1) := by decide +kernel
set_option maxRecDepth 65536 in
set_option maxHeartbeats 40000000 in
theorem tn_18 {p : Program} {l : Launch} {e : Env} {R : Room} {s : State} {m : MethodId} {args : Array Value} {below : List Frame} {meth : Method} {c : Code} {T0 : State} {locs : List Loc} {cells slots : Nat} {Z : State} {a0 : Array Value} {h0 : Heap} {a1 b : Addr} {rk j4 : Int64} {i3 z : Int32} {g : Nat → Int64}
    (X0 : Stand p l e R s m args below meth c T0 locs cells slots) (hx : p.tables.exec = Jvm.exec) (hZ : Z.Warmed39 s.vm) (hw : ∀ d ∈ tables_1, d.before a0 Z = true) (hby : c.code = prog_146_method_3_code) (hml : c.maxLocals = 6) (hown : s.vm.findClass "nachbar/sim/Tally" = some m.cls) (e0 : T0.heap = h0) (Fc : Fld Z h0 a1 "nachbar/sim/Tally" "counts" "[J" (.ref b)) (V0 : ArF Z h0 b .long z.toNatClampNeg (fun i => .long (g i))) (hlt : (lcmpW j4 rk) < (0 : Int32)) (hi0 : ¬ (i3 + (1 : Int32)) < 0) (hi1 : ((i3 + (1 : Int32))).toNatClampNeg < z.toNatClampNeg) :
    ∃ T' : State, Stand p l e R s m args below meth c T' locs cells slots ∧ T'.heap = h0 ∧ ∀ target, Steps p.tables e below (T'.setTop (mkF m 18 #[.val (.ref a1), .val (.long rk), .second, .val (.int (i3 + (1 : Int32))), .val (.long (j4 + (g ((i3 + (1 : Int32))).toNatClampNeg))), .second] [])) target → Steps p.tables e below (T0.setTop (mkF m 18 #[.val (.ref a1), .val (.long rk), .second, .val (.int i3), .val (.long j4), .second] [])) target := by
  have pre0 : ∀ t, Steps p.tables e below (T0.setTop (mkF m 18 #[.val (.ref a1), .val (.long rk), .second, .val (.int i3), .val (.long j4), .second] [])) t → Steps p.tables e below (T0.setTop (mkF m 18 #[.val (.ref a1), .val (.long rk), .second, .val (.int i3), .val (.long j4), .second] [])) t := fun t k => k
  obtain ⟨T1, X1, e1, st1⟩ := getF X0 hx hZ hown (host := "") (Or.inl (hw _ (List.mem_of_getElem? (i := 11) rfl))) Via.refl e0 Fc (g := (mkF m 31 #[.val (.ref a1), .val (.long rk), .second, .val (.int (i3 + (1 : Int32))), .val (.long j4), .second] [(.ref a1), (.long j4)])) rfl rfl (hb hby d3_31)
  obtain ⟨cl2, Ar2, S2, H2⟩ := id V0
  have hin2 : ¬ ((i3 + (1 : Int32)) < 0 ∨ cl2.slots.size ≤ ((i3 + (1 : Int32))).toNatClampNeg) := inA S2 hi0 hi1
  have hat2 : cl2.slots[((i3 + (1 : Int32))).toNatClampNeg]? = some (.long (g ((i3 + (1 : Int32))).toNatClampNeg)) := ArF.at S2 H2 hin2 rfl
  have pre3 : ∀ t, Steps p.tables e below (T1.setTop (mkF m 18 #[.val (.ref a1), .val (.long rk), .second, .val (.int (i3 + (1 : Int32))), .val (.long (j4 + (g ((i3 + (1 : Int32))).toNatClampNeg))), .second] [])) t → Steps p.tables e below (T0.setTop (mkF m 18 #[.val (.ref a1), .val (.long rk), .second, .val (.int i3), .val (.long j4), .second] [])) t := by
    intro t k
    refine pre0 t ?_
    show Steps p.tables e below (T0.setTop (mkF m 18 #[.val (.ref a1), .val (.long rk), .second, .val (.int i3), .val (.long j4), .second] [])) _
    refine XS.lload X0.here hx rfl (hb hby d3_18) rfl ?_
    show Steps p.tables e below (T0.setTop (mkF m 20 #[.val (.ref a1), .val (.long rk), .second, .val (.int i3), .val (.long j4), .second] [(.long j4)])) _
    refine XS.lloadN X0.here hx rfl (hb hby d3_20) rfl ?_
    show Steps p.tables e below (T0.setTop (mkF m 21 #[.val (.ref a1), .val (.long rk), .second, .val (.int i3), .val (.long j4), .second] [(.long rk), (.long j4)])) _
    refine XS.lcmp X0.here hx rfl (hb hby d3_21) rfl ?_
    show Steps p.tables e below (T0.setTop (mkF m 22 #[.val (.ref a1), .val (.long rk), .second, .val (.int i3), .val (.long j4), .second] [(.int (lcmpW j4 rk))])) _
    refine XS.ifNo X0.here hx rfl (hb hby d3_22) rfl ((if0 _ _).trans (tlt (hlt : ((lcmpW j4 rk) < (0 : Int32)))).2.1) ?_
    show Steps p.tables e below (T0.setTop (mkF m 25 #[.val (.ref a1), .val (.long rk), .second, .val (.int i3), .val (.long j4), .second] [])) _
    refine XS.iinc X0.here hx rfl (hb hby d3_25) rfl (l' := #[.val (.ref a1), .val (.long rk), .second, .val (.int (i3 + (1 : Int32))), .val (.long j4), .second]) rfl ?_
    show Steps p.tables e below (T0.setTop (mkF m 28 #[.val (.ref a1), .val (.long rk), .second, .val (.int (i3 + (1 : Int32))), .val (.long j4), .second] [])) _
    refine XS.lload X0.here hx rfl (hb hby d3_28) rfl ?_
    show Steps p.tables e below (T0.setTop (mkF m 30 #[.val (.ref a1), .val (.long rk), .second, .val (.int (i3 + (1 : Int32))), .val (.long j4), .second] [(.long j4)])) _
    refine XS.aloadN X0.here hx rfl (hb hby d3_30) rfl rfl ?_
    show Steps p.tables e below (T0.setTop (mkF m 31 #[.val (.ref a1), .val (.long rk), .second, .val (.int (i3 + (1 : Int32))), .val (.long j4), .second] [(.ref a1), (.long j4)])) _
    refine st1 _ ?_
    show Steps p.tables e below (T1.setTop (mkF m 34 #[.val (.ref a1), .val (.long rk), .second, .val (.int (i3 + (1 : Int32))), .val (.long j4), .second] [(.ref b), (.long j4)])) _
    refine XS.iloadN X1.here hx rfl (hb hby d3_34) rfl ?_
    show Steps p.tables e below (T1.setTop (mkF m 35 #[.val (.ref a1), .val (.long rk), .second, .val (.int (i3 + (1 : Int32))), .val (.long j4), .second] [(.int (i3 + (1 : Int32))), (.ref b), (.long j4)])) _
    refine X1.laload hx (j := (i3 + (1 : Int32))) (v := (.long (g ((i3 + (1 : Int32))).toNatClampNeg))) (by rw [e1]; exact Ar2.1) (State.isArrayOf_alike hZ.alike Ar2.2.1) Ar2.2.2 hin2 hat2 (g := (mkF m 35 #[.val (.ref a1), .val (.long rk), .second, .val (.int (i3 + (1 : Int32))), .val (.long j4), .second] [(.int (i3 + (1 : Int32))), (.ref b), (.long j4)])) rfl rfl (hb hby d3_35) _ ?_
    show Steps p.tables e below (T1.setTop (mkF m 36 #[.val (.ref a1), .val (.long rk), .second, .val (.int (i3 + (1 : Int32))), .val (.long j4), .second] [(.long (g ((i3 + (1 : Int32))).toNatClampNeg)), (.long j4)])) _
    refine XS.ladd X1.here hx rfl (hb hby d3_36) rfl ?_
    show Steps p.tables e below (T1.setTop (mkF m 37 #[.val (.ref a1), .val (.long rk), .second, .val (.int (i3 + (1 : Int32))), .val (.long j4), .second] [(.long (j4 + (g ((i3 + (1 : Int32))).toNatClampNeg)))])) _
    refine XS.lstore X1.here hx rfl (hb hby d3_37) rfl (l' := #[.val (.ref a1), .val (.long rk), .second, .val (.int (i3 + (1 : Int32))), .val (.long (j4 + (g ((i3 + (1 : Int32))).toNatClampNeg))), .second]) rfl ?_
    show Steps p.tables e below (T1.setTop (mkF m 39 #[.val (.ref a1), .val (.long rk), .second, .val (.int (i3 + (1 : Int32))), .val (.long (j4 + (g ((i3 + (1 : Int32))).toNatClampNeg))), .second] [])) _
    refine XS.goto X1.here hx rfl (pc0 := 39) (pc' := 18) rfl (hb hby d3_39) (by decide) (by decide) ?_
    exact k
  exact ⟨T1, X1, e1, pre3⟩
set_option maxRecDepth 65536 in
theorem own_loop {p : Program} {l : Launch} {e : Env} {R : Room} {s : State} {m : MethodId} {args : Array Value} {below : List Frame} {meth : Method} {c : Code} {locs : List Loc} {cells slots : Nat} {Z : State} {a0 : Array Value} {h0 : Heap} {a1 b : Addr} {rk : Int64} {z : Int32} {g : Nat → Int64} {M : Nat}
    (hz : ¬ z < 0) (hrk : ∀ i, i < M → own_pre g i < rk) (hMz : M < z.toNatClampNeg) (Fc : Fld Z h0 a1 "nachbar/sim/Tally" "counts" "[J" (.ref b)) (V0 : ArF Z h0 b .long z.toNatClampNeg (fun i => .long (g i))) : ∀ (k i : Nat), i + k = M → ∀ {T0 : State}, Stand p l e R s m args below meth c T0 locs cells slots → p.tables.exec = Jvm.exec → Z.Warmed39 s.vm → (∀ d ∈ tables_1, d.before a0 Z = true) → c.code = prog_146_method_3_code → c.maxLocals = 6 → s.vm.findClass "nachbar/sim/Tally" = some m.cls → T0.heap = h0 →
    ∃ T' : State, Stand p l e R s m args below meth c T' locs cells slots ∧ T'.heap = h0 ∧ ∀ target, Steps p.tables e below (T'.setTop (mkF m 18 #[.val (.ref a1), .val (.long rk), .second, .val (.int (Int32.ofNat M)), .val (.long (own_pre g M)), .second] [])) target → Steps p.tables e below (T0.setTop (mkF m 18 #[.val (.ref a1), .val (.long rk), .second, .val (.int (Int32.ofNat i)), .val (.long (own_pre g i)), .second] [])) target
  | 0, i, hk, T0, X0, hx, hZ, hw, hby, hml, hown, e0 => by
    obtain rfl : i = M := by omega
    exact ⟨T0, X0, e0, fun _ k => k⟩
  | k + 1, i, hk, T0, X0, hx, hZ, hw, hby, hml, hown, e0 => by
    have hzb := (back32 hz).2
    have e1 : Int32.ofNat i + (1 : Int32) = Int32.ofNat (i + 1) := (Int32.ofNat_add i 1).symm
    have t1 : (Int32.ofNat (i + 1)).toInt = ((i + 1 : Nat) : Int) := Int32.toInt_ofNat_of_lt (by omega)
    have n1 : ¬ Int32.ofNat (i + 1) < 0 := own_neg (by omega)
    have c1 : (Int32.ofNat (i + 1)).toNatClampNeg = i + 1 := by have := nat_of n1; omega
    obtain ⟨T1, X1, h1, s1⟩ := tn_18 (a1 := a1) (b := b) (rk := rk) (j4 := own_pre g i) (i3 := Int32.ofNat i) (z := z) (g := g) X0 hx hZ hw hby hml hown e0 Fc V0 ((lw_lt _ _).mpr (hrk i (by omega))) (e1 ▸ n1) (by rw [e1, c1]; omega)
    obtain ⟨T2, X2, h2, s2⟩ := own_loop hz hrk hMz Fc V0 k (i + 1) (by omega) X1 hx hZ hw hby hml hown h1
    refine ⟨T2, X2, h2, fun t kt => s1 t ?_⟩
    rw [e1, c1]
    exact s2 t kt
theorem pn_rmu : plainName "nachbar/sim/Tally" = true := by first | (simp [plainName, overriddenIn]; done) | decide +kernel
theorem ef_rmu (m : MethodId) (x0 : Addr) : entryFrame m #[(.ref x0)] 6 = mkF m 0 #[.val (.ref x0), .unset, .unset, .unset, .unset, .unset] [] := by first | (simp [entryFrame, mkF, argsToLocals, Value.category]; done) | rfl
def Q_rmu (Z : State) (a1 : Addr) (b : Addr) (z : Int32) (g : Nat → Int64) (cn sm : Int64) (mx : Int32) (M : Nat) (h0 : Heap) (n0 : Nat) (v : Option Value) (h : Heap) (L : List Loc) : Prop := ∃ s, v = some (.ref s) ∧ Fr n0 L ∧ Keep h0 h [] ∧ h0.size ≤ s ∧ Exa Z h s "nachbar/sim/Summary" ∧ Fld Z h s "nachbar/sim/Summary" "count" "J" (.long cn) ∧ Fld Z h s "nachbar/sim/Summary" "sum" "J" (.long sm) ∧ Fld Z h s "nachbar/sim/Summary" "p99" "J" (.long ((Int32.ofNat M).toInt64)) ∧ Fld Z h s "nachbar/sim/Summary" "max" "J" (.long (mx.toInt64))
set_option maxRecDepth 65536 in
set_option maxHeartbeats 40000000 in
theorem rmu (l : Launch) (Z : State) (a0 : Array Value) (hw : ∀ d ∈ tables_1, d.before a0 Z = true) (ws : List Jvm.Cond) (a1 : Addr) (b : Addr) (z : Int32) (g : Nat → Int64) (cn sm : Int64) (mx : Int32) (M : Nat) (h0 : Heap) (n0 : Nat) (Z0 : n0 ≤ h0.size) (Ex : Exa Z h0 a1 "nachbar/sim/Tally") (F_counts : Fld Z h0 a1 "nachbar/sim/Tally" "counts" "[J" (.ref b)) (F_count : Fld Z h0 a1 "nachbar/sim/Tally" "count" "J" (.long cn)) (F_sum : Fld Z h0 a1 "nachbar/sim/Tally" "sum" "J" (.long sm)) (F_max : Fld Z h0 a1 "nachbar/sim/Tally" "max" "I" (.int mx)) (V0 : ArF Z h0 b .long z.toNatClampNeg (fun i => .long (g i))) (hz : ¬ z < 0) (hrk : ∀ i, i < M → own_pre g i < own_rank cn) (hM : ¬ own_pre g M < own_rank cn) (hMz : M < z.toNatClampNeg) :
    MetFree l (⟨"nachbar/sim/Tally", "summary", "()Lnachbar/sim/Summary;"⟩ : MethodName) (head1 (Jvm.Cond.code (⟨"nachbar/sim/Tally", "summary", "()Lnachbar/sim/Summary;"⟩ : MethodName) prog_146_method_3_code 6 (some (.object "nachbar/sim/Summary")) :: ws) ({ frames := 3, cells := 1, slots := 4, locals := 45 } : Room)) (fun a U => a = #[(.ref a1)] ∧ Z.Warmed39 U.vm ∧ U.heap = h0) (fun _ _ _ _ _ => True) (fun _ U o U' => ∃ v L, o = .returned v ∧ Q_rmu Z a1 b z g cn sm mx M h0 n0 v U'.heap L ∧ FrameEnd U o U' L ({ frames := 3, cells := 1, slots := 4, locals := 45 } : Room).cells ({ frames := 3, cells := 1, slots := 4, locals := 45 } : Room).slots) := by
  refine MetFree.of_bodySF (plainFor_of_name pn_rmu) hisR ?_
  intro p e s m args below meth c s₁ Bd hml0 hP hK
  obtain ⟨rfl, hZ, hh⟩ := hP
  have hx := Bd.exec
  have hby := Bd.bytes
  have hml : c.maxLocals = 6 := hml0
  have hown : s.vm.findClass "nachbar/sim/Tally" = some m.cls := findClass_of_methodNamed Bd.named
  have hnm := (name_of_methodNamed Bd.named Bd.method).1
  have X0 : Stand p l e ({ frames := 3, cells := 1, slots := 4, locals := 45 } : Room) s m #[(.ref a1)] below meth c s₁ [] 0 0 := Stand.of_body Bd
  have e0 : s₁.heap = h0 := by rw [← hh, Bd.state]; rfl
  have N0 := Fr.nil n0
  have pre0 : ∀ t, Steps p.tables e below (s₁.setTop (mkF m 0 #[.val (.ref a1), .unset, .unset, .unset, .unset, .unset] [])) t → Steps p.tables e below (s₁.setTop (entryFrame m #[(.ref a1)] 6)) t := fun t k => castTop (ef_rmu m a1) k
  have K0 := Keep.refl h0 []
  obtain ⟨T4, X4, e4, st4⟩ := getF X0 hx hZ hown (host := "") (Or.inl (hw _ (List.mem_of_getElem? (i := 18) rfl))) Via.refl e0 F_count (g := (mkF m 1 #[.val (.ref a1), .unset, .unset, .unset, .unset, .unset] [(.ref a1)])) rfl rfl (hb hby d3_1)
  obtain ⟨_, _, ⟨T5, L5, k5, n5⟩, -, X5, ⟨Lc5, hQ5, l5, y5, z5⟩, st5⟩ := Jvm.LawKit.callS X4 hx (y := (⟨"nachbar/sim/Summary", "p99Rank", "(J)J"⟩ : MethodName)) hown (mvT hZ (hw _ (List.mem_of_getElem? (i := 20) rfl))) (mvT hZ (hw _ (List.mem_of_getElem? (i := 21) rfl))) (mvT hZ (hw _ (List.mem_of_getElem? (i := 22) rfl))) (mvT hZ (hw _ (List.mem_of_getElem? (i := 23) rfl))) (by decide) (backOf (W := 0) (rmk l Z a0 hw [] cn h0 n0 Z0) hZ (hw _ (List.mem_of_getElem? (i := 23) rfl)) (hw _ (List.mem_of_getElem? (i := 22) rfl)) (by decide) (by decide)) (g := (mkF m 4 #[.val (.ref a1), .unset, .unset, .unset, .unset, .unset] [(.long cn)])) rfl (by rw [hml]; rfl) (argsL := [(.long cn)]) (rest := []) (lenOf pd_3 rfl) rfl (by show 2 * 0 + _ ≤ _; exact Nat.le_of_eq rfl) (hb hby d3_4) (fun _ _ => ⟨rfl, e4, (by decide : 0 + 0 ≤ _), (by decide : 0 + 0 ≤ _)⟩)
  dsimp only [Pt.U, Pt.locs, Pt.cells, Pt.slots] at X5 l5 y5 z5 st5 hQ5
  subst l5 y5 z5
  obtain ⟨rfl, N5q, e5⟩ := hQ5
  have N5 := Fr.app N0 N5q
  obtain ⟨T6, X6, e6, st6⟩ := getF X5 hx hZ hown (host := "") (Or.inl (hw _ (List.mem_of_getElem? (i := 11) rfl))) Via.refl e5 F_counts (g := (mkF m 11 #[.val (.ref a1), .val (.long (own_rank cn)), .second, .val (.int (0 : Int32)), .unset, .unset] [(.ref a1)])) rfl rfl (hb hby d3_11)
  obtain ⟨cl7, Ar7, S7, H7⟩ := id V0
  have hin7 : ¬ ((0 : Int32) < 0 ∨ cl7.slots.size ≤ ((0 : Int32)).toNatClampNeg) := inA S7 (by decide) (Nat.lt_of_le_of_lt (Nat.zero_le _) hMz)
  have hat7 : cl7.slots[((0 : Int32)).toNatClampNeg]? = some (.long (g 0)) := ArF.at S7 H7 hin7 rfl
  obtain ⟨T8, X8, e8, st8⟩ := own_loop (M := M) (rk := own_rank cn) hz hrk hMz F_counts V0 M 0 (Nat.zero_add M) X6 hx hZ hw hby hml hown e6
  obtain ⟨T9, h9, X9, e9, E9, A9, D9, -, st9⟩ := newO X8 hx hZ hown (hw _ (List.mem_of_getElem? (i := 26) rfl)) (hw _ (List.mem_of_getElem? (i := 27) rfl)) (hw _ (List.mem_of_getElem? (i := 22) rfl)) e8 (g := (mkF m 42 #[.val (.ref a1), .val (.long (own_rank cn)), .second, .val (.int (Int32.ofNat M)), .val (.long (own_pre g M)), .second] [])) rfl (hb hby d3_42) (by decide) (by decide)
  obtain ⟨b9, g9⟩ : ∃ z, z = h0.size := ⟨_, rfl⟩
  rw [← g9] at A9 D9 st9
  have ne_a1_b9 : a1 ≠ b9 := Nat.ne_of_lt (Nat.lt_of_lt_of_le Ex.lt (Nat.le_of_eq g9.symm))
  have ne_b_b9 : b ≠ b9 := Nat.ne_of_lt (Nat.lt_of_lt_of_le V0.lt (Nat.le_of_eq g9.symm))
  have g_b9 : n0 ≤ b9 := Nat.le_trans Z0 (Nat.le_of_eq g9.symm)
  have sz_b9 : h0.size ≤ b9 := Nat.le_trans K0.1 (Nat.le_of_eq g9.symm)
  have Ex_v9 := Ex.ext E9
  have V0_v9 := V0.ext E9
  have F_counts_v9 := F_counts.ext E9
  have F_count_v9 := F_count.ext E9
  have F_sum_v9 := F_sum.ext E9
  have F_max_v9 := F_max.ext E9
  have Z9 : n0 ≤ h9.size := Nat.le_trans Z0 E9.1
  have K9 := K0.ext E9
  have Ex9_v9 : Exa Z h9 b9 "nachbar/sim/Summary" := A9
  have F9count_v9 : Fld Z h9 b9 "nachbar/sim/Summary" "count" "J" (.long (0 : Int64)) := D9 (Or.inr (hw _ (List.mem_of_getElem? (i := 42) rfl))) (ty := .long) (by decide)
  have F9sum_v9 : Fld Z h9 b9 "nachbar/sim/Summary" "sum" "J" (.long (0 : Int64)) := D9 (Or.inr (hw _ (List.mem_of_getElem? (i := 44) rfl))) (ty := .long) (by decide)
  have F9p99_v9 : Fld Z h9 b9 "nachbar/sim/Summary" "p99" "J" (.long (0 : Int64)) := D9 (Or.inr (hw _ (List.mem_of_getElem? (i := 46) rfl))) (ty := .long) (by decide)
  have F9max_v9 : Fld Z h9 b9 "nachbar/sim/Summary" "max" "J" (.long (0 : Int64)) := D9 (Or.inr (hw _ (List.mem_of_getElem? (i := 48) rfl))) (ty := .long) (by decide)
  obtain ⟨T10, X10, e10, st10⟩ := getF X9 hx hZ hown (host := "") (Or.inl (hw _ (List.mem_of_getElem? (i := 18) rfl))) Via.refl e9 F_count_v9 (g := (mkF m 47 #[.val (.ref a1), .val (.long (own_rank cn)), .second, .val (.int (Int32.ofNat M)), .val (.long (own_pre g M)), .second] [(.ref a1), (.ref b9), (.ref b9)])) rfl rfl (hb hby d3_47)
  obtain ⟨T11, X11, e11, st11⟩ := getF X10 hx hZ hown (host := "") (Or.inl (hw _ (List.mem_of_getElem? (i := 28) rfl))) Via.refl e10 F_sum_v9 (g := (mkF m 51 #[.val (.ref a1), .val (.long (own_rank cn)), .second, .val (.int (Int32.ofNat M)), .val (.long (own_pre g M)), .second] [(.ref a1), (.long cn), (.ref b9), (.ref b9)])) rfl rfl (hb hby d3_51)
  obtain ⟨T12, X12, e12, st12⟩ := getF X11 hx hZ hown (host := "") (Or.inl (hw _ (List.mem_of_getElem? (i := 30) rfl))) Via.refl e11 F_max_v9 (g := (mkF m 57 #[.val (.ref a1), .val (.long (own_rank cn)), .second, .val (.int (Int32.ofNat M)), .val (.long (own_pre g M)), .second] [(.ref a1), (.long ((Int32.ofNat M).toInt64)), (.long sm), (.long cn), (.ref b9), (.ref b9)])) rfl rfl (hb hby d3_57)
  obtain ⟨_, _, ⟨T13, L13, k13, n13⟩, -, X13, ⟨Lc13, hQ13, l13, y13, z13⟩, st13⟩ := X12.specialBack hx (y := (⟨"nachbar/sim/Summary", "<init>", "(JJJJ)V"⟩ : MethodName)) rfl hown (mvT hZ (hw _ (List.mem_of_getElem? (i := 32) rfl))) (mvT hZ (hw _ (List.mem_of_getElem? (i := 33) rfl))) (mvT hZ (hw _ (List.mem_of_getElem? (i := 34) rfl))) (by decide) (backOf (W := 1) (rms l Z a0 hw [] b9 cn sm ((Int32.ofNat M).toInt64) (mx.toInt64) h9 n0 Z9 Ex9_v9 F9count_v9 F9sum_v9 F9p99_v9 F9max_v9 g_b9) hZ (hw _ (List.mem_of_getElem? (i := 34) rfl)) (hw _ (List.mem_of_getElem? (i := 22) rfl)) (by decide) (by decide)) (g := (mkF m 61 #[.val (.ref a1), .val (.long (own_rank cn)), .second, .val (.int (Int32.ofNat M)), .val (.long (own_pre g M)), .second] [(.long (mx.toInt64)), (.long ((Int32.ofNat M).toInt64)), (.long sm), (.long cn), (.ref b9), (.ref b9)])) rfl (by rw [hml]; rfl) (Steps.refl _) (a := b9) (argsL := [(.long cn), (.long sm), (.long ((Int32.ofNat M).toInt64)), (.long (mx.toInt64))]) (rest := [(.ref b9)]) (lenOf pd_4 rfl) rfl (by show 2 * 0 + _ ≤ _; exact Nat.le_of_eq rfl) (hb hby d3_61) (fun _ _ => ⟨rfl, e12, (by decide : 1 + 0 ≤ _), (by decide : 4 + 0 ≤ _)⟩)
  dsimp only [Pt.U, Pt.locs, Pt.cells, Pt.slots] at X13 l13 y13 z13 st13 hQ13
  subst l13 y13 z13
  obtain ⟨rfl, N13q, Kc13, nf13_0_v13, nf13_1_v13, nf13_2_v13, nf13_3_v13⟩ := hQ13
  have N13 := Fr.app N5 N13q
  have Ex_v13 := Ex_v9.keep Kc13
  have V0_v13 := V0_v9.keep Kc13 (ninS ne_b_b9 nin0)
  have F_counts_v13 := F_counts_v9.keep Kc13 (ninS ne_a1_b9 nin0)
  have F_count_v13 := F_count_v9.keep Kc13 (ninS ne_a1_b9 nin0)
  have F_sum_v13 := F_sum_v9.keep Kc13 (ninS ne_a1_b9 nin0)
  have F_max_v13 := F_max_v9.keep Kc13 (ninS ne_a1_b9 nin0)
  have Ex9_v13 := Ex9_v9.keep Kc13
  have Z13 : n0 ≤ T13.heap.size := Nat.le_trans Z9 Kc13.1
  have KK13 := K9.trans Kc13 (allS (Or.inr sz_b9) all0)
  obtain ⟨fs, hr, hrun, hended, hW, hsame⟩ := X13.leave (v := some (.ref b9)) (fun h => by rw [Bd.returns] at h; cases h)
  refine ⟨_, _, pre0 _ ?_, hrun, hended, _, _, rfl, ?_, ⟨_, rfl⟩, hW, hsame.mono (by decide) (by decide)⟩
  · show Steps p.tables e below (s₁.setTop (mkF m 0 #[.val (.ref a1), .unset, .unset, .unset, .unset, .unset] [])) _
    refine XS.aloadN X0.here hx rfl (hb hby d3_0) rfl rfl ?_
    show Steps p.tables e below (s₁.setTop (mkF m 1 #[.val (.ref a1), .unset, .unset, .unset, .unset, .unset] [(.ref a1)])) _
    refine st4 _ ?_
    show Steps p.tables e below (T4.setTop (mkF m 4 #[.val (.ref a1), .unset, .unset, .unset, .unset, .unset] [(.long cn)])) _
    refine st5 _ ?_
    show Steps p.tables e below (T5.setTop (mkF m 7 #[.val (.ref a1), .unset, .unset, .unset, .unset, .unset] [(.long (own_rank cn))])) _
    refine XS.lstoreN X5.here hx rfl (hb hby d3_7) rfl (l' := #[.val (.ref a1), .val (.long (own_rank cn)), .second, .unset, .unset, .unset]) rfl ?_
    show Steps p.tables e below (T5.setTop (mkF m 8 #[.val (.ref a1), .val (.long (own_rank cn)), .second, .unset, .unset, .unset] [])) _
    refine XS.iconst X5.here hx rfl (hb hby d3_8) ?_
    show Steps p.tables e below (T5.setTop (mkF m 9 #[.val (.ref a1), .val (.long (own_rank cn)), .second, .unset, .unset, .unset] [(.int (0 : Int32))])) _
    refine XS.istoreN X5.here hx rfl (hb hby d3_9) rfl (l' := #[.val (.ref a1), .val (.long (own_rank cn)), .second, .val (.int (0 : Int32)), .unset, .unset]) rfl ?_
    show Steps p.tables e below (T5.setTop (mkF m 10 #[.val (.ref a1), .val (.long (own_rank cn)), .second, .val (.int (0 : Int32)), .unset, .unset] [])) _
    refine XS.aloadN X5.here hx rfl (hb hby d3_10) rfl rfl ?_
    show Steps p.tables e below (T5.setTop (mkF m 11 #[.val (.ref a1), .val (.long (own_rank cn)), .second, .val (.int (0 : Int32)), .unset, .unset] [(.ref a1)])) _
    refine st6 _ ?_
    show Steps p.tables e below (T6.setTop (mkF m 14 #[.val (.ref a1), .val (.long (own_rank cn)), .second, .val (.int (0 : Int32)), .unset, .unset] [(.ref b)])) _
    refine XS.iconst X6.here hx rfl (hb hby d3_14) ?_
    show Steps p.tables e below (T6.setTop (mkF m 15 #[.val (.ref a1), .val (.long (own_rank cn)), .second, .val (.int (0 : Int32)), .unset, .unset] [(.int (0 : Int32)), (.ref b)])) _
    refine X6.laload hx (j := (0 : Int32)) (v := (.long (g 0))) (by rw [e6]; exact Ar7.1) (State.isArrayOf_alike hZ.alike Ar7.2.1) Ar7.2.2 hin7 hat7 (g := (mkF m 15 #[.val (.ref a1), .val (.long (own_rank cn)), .second, .val (.int (0 : Int32)), .unset, .unset] [(.int (0 : Int32)), (.ref b)])) rfl rfl (hb hby d3_15) _ ?_
    show Steps p.tables e below (T6.setTop (mkF m 16 #[.val (.ref a1), .val (.long (own_rank cn)), .second, .val (.int (0 : Int32)), .unset, .unset] [(.long (g 0))])) _
    refine XS.lstore X6.here hx rfl (hb hby d3_16) rfl (l' := #[.val (.ref a1), .val (.long (own_rank cn)), .second, .val (.int (0 : Int32)), .val (.long (g 0)), .second]) rfl ?_
    show Steps p.tables e below (T6.setTop (mkF m 18 #[.val (.ref a1), .val (.long (own_rank cn)), .second, .val (.int (0 : Int32)), .val (.long (g 0)), .second] [])) _
    refine st8 _ ?_
    show Steps p.tables e below (T8.setTop (mkF m 18 #[.val (.ref a1), .val (.long (own_rank cn)), .second, .val (.int (Int32.ofNat M)), .val (.long (own_pre g M)), .second] [])) _
    refine XS.lload X8.here hx rfl (hb hby d3_18) rfl ?_
    show Steps p.tables e below (T8.setTop (mkF m 20 #[.val (.ref a1), .val (.long (own_rank cn)), .second, .val (.int (Int32.ofNat M)), .val (.long (own_pre g M)), .second] [(.long (own_pre g M))])) _
    refine XS.lloadN X8.here hx rfl (hb hby d3_20) rfl ?_
    show Steps p.tables e below (T8.setTop (mkF m 21 #[.val (.ref a1), .val (.long (own_rank cn)), .second, .val (.int (Int32.ofNat M)), .val (.long (own_pre g M)), .second] [(.long (own_rank cn)), (.long (own_pre g M))])) _
    refine XS.lcmp X8.here hx rfl (hb hby d3_21) rfl ?_
    show Steps p.tables e below (T8.setTop (mkF m 22 #[.val (.ref a1), .val (.long (own_rank cn)), .second, .val (.int (Int32.ofNat M)), .val (.long (own_pre g M)), .second] [(.int (lcmpW (own_pre g M) (own_rank cn)))])) _
    refine XS.ifYes X8.here hx rfl (pc0 := 22) (pc' := 42) rfl (hb hby d3_22) rfl ((if0 _ _).trans (flt ((fun q => hM ((lw_lt _ _).mp q)) : ¬ ((lcmpW (own_pre g M) (own_rank cn)) < (0 : Int32)))).2.1) (by decide) (by decide) ?_
    show Steps p.tables e below (T8.setTop (mkF m 42 #[.val (.ref a1), .val (.long (own_rank cn)), .second, .val (.int (Int32.ofNat M)), .val (.long (own_pre g M)), .second] [])) _
    refine st9 _ ?_
    show Steps p.tables e below (T9.setTop (mkF m 45 #[.val (.ref a1), .val (.long (own_rank cn)), .second, .val (.int (Int32.ofNat M)), .val (.long (own_pre g M)), .second] [(.ref b9)])) _
    refine XS.dup X9.here hx rfl (hb hby d3_45) rfl rfl ?_
    show Steps p.tables e below (T9.setTop (mkF m 46 #[.val (.ref a1), .val (.long (own_rank cn)), .second, .val (.int (Int32.ofNat M)), .val (.long (own_pre g M)), .second] [(.ref b9), (.ref b9)])) _
    refine XS.aloadN X9.here hx rfl (hb hby d3_46) rfl rfl ?_
    show Steps p.tables e below (T9.setTop (mkF m 47 #[.val (.ref a1), .val (.long (own_rank cn)), .second, .val (.int (Int32.ofNat M)), .val (.long (own_pre g M)), .second] [(.ref a1), (.ref b9), (.ref b9)])) _
    refine st10 _ ?_
    show Steps p.tables e below (T10.setTop (mkF m 50 #[.val (.ref a1), .val (.long (own_rank cn)), .second, .val (.int (Int32.ofNat M)), .val (.long (own_pre g M)), .second] [(.long cn), (.ref b9), (.ref b9)])) _
    refine XS.aloadN X10.here hx rfl (hb hby d3_50) rfl rfl ?_
    show Steps p.tables e below (T10.setTop (mkF m 51 #[.val (.ref a1), .val (.long (own_rank cn)), .second, .val (.int (Int32.ofNat M)), .val (.long (own_pre g M)), .second] [(.ref a1), (.long cn), (.ref b9), (.ref b9)])) _
    refine st11 _ ?_
    show Steps p.tables e below (T11.setTop (mkF m 54 #[.val (.ref a1), .val (.long (own_rank cn)), .second, .val (.int (Int32.ofNat M)), .val (.long (own_pre g M)), .second] [(.long sm), (.long cn), (.ref b9), (.ref b9)])) _
    refine XS.iloadN X11.here hx rfl (hb hby d3_54) rfl ?_
    show Steps p.tables e below (T11.setTop (mkF m 55 #[.val (.ref a1), .val (.long (own_rank cn)), .second, .val (.int (Int32.ofNat M)), .val (.long (own_pre g M)), .second] [(.int (Int32.ofNat M)), (.long sm), (.long cn), (.ref b9), (.ref b9)])) _
    refine XS.i2l X11.here hx rfl (hb hby d3_55) rfl ?_
    show Steps p.tables e below (T11.setTop (mkF m 56 #[.val (.ref a1), .val (.long (own_rank cn)), .second, .val (.int (Int32.ofNat M)), .val (.long (own_pre g M)), .second] [(.long ((Int32.ofNat M).toInt64)), (.long sm), (.long cn), (.ref b9), (.ref b9)])) _
    refine XS.aloadN X11.here hx rfl (hb hby d3_56) rfl rfl ?_
    show Steps p.tables e below (T11.setTop (mkF m 57 #[.val (.ref a1), .val (.long (own_rank cn)), .second, .val (.int (Int32.ofNat M)), .val (.long (own_pre g M)), .second] [(.ref a1), (.long ((Int32.ofNat M).toInt64)), (.long sm), (.long cn), (.ref b9), (.ref b9)])) _
    refine st12 _ ?_
    show Steps p.tables e below (T12.setTop (mkF m 60 #[.val (.ref a1), .val (.long (own_rank cn)), .second, .val (.int (Int32.ofNat M)), .val (.long (own_pre g M)), .second] [(.int mx), (.long ((Int32.ofNat M).toInt64)), (.long sm), (.long cn), (.ref b9), (.ref b9)])) _
    refine XS.i2l X12.here hx rfl (hb hby d3_60) rfl ?_
    show Steps p.tables e below (T12.setTop (mkF m 61 #[.val (.ref a1), .val (.long (own_rank cn)), .second, .val (.int (Int32.ofNat M)), .val (.long (own_pre g M)), .second] [(.long (mx.toInt64)), (.long ((Int32.ofNat M).toInt64)), (.long sm), (.long cn), (.ref b9), (.ref b9)])) _
    refine st13.trans ?_
    show Steps p.tables e below (T13.setTop (mkF m 64 #[.val (.ref a1), .val (.long (own_rank cn)), .second, .val (.int (Int32.ofNat M)), .val (.long (own_pre g M)), .second] [(.ref b9)])) _
    jvm_step X13.here [X13.here.top, hx, (hb hby d3_64), X13.method', Bd.returns, Value.isRef, FieldType.isReference]
    first | (intro acts; rw [hr _ acts rfl rfl rfl]) | rw [hr _ _ rfl rfl rfl]
    exact Steps.refl _
  · show Q_rmu Z a1 b z g cn sm mx M h0 n0 _ T13.heap _
    exact ⟨b9, rfl, N13, KK13, sz_b9, Ex9_v13, nf13_0_v13, nf13_1_v13, nf13_2_v13, nf13_3_v13⟩

def own_get_count (a1 : Addr) (w : Int64) : Int64 := w
theorem d7_0 : decode prog_144_method_8_code 0 = .ok (.aload_n 0, 1) := by decide +kernel
theorem d7_1 : decode prog_144_method_8_code 1 = .ok (.getfield 7, 3) := by decide +kernel
theorem d7_4 : decode prog_144_method_8_code 4 = .ok (.lreturn, 1) := by decide +kernel
theorem pn_rg_count : plainName "nachbar/sim/Summary" = true := by first | (simp [plainName, overriddenIn]; done) | decide +kernel
theorem ef_rg_count (m : MethodId) (x0 : Addr) : entryFrame m #[(.ref x0)] 1 = mkF m 0 #[.val (.ref x0)] [] := by first | (simp [entryFrame, mkF, argsToLocals, Value.category]; done) | rfl
def Q_rg_count (Z : State) (a1 : Addr) (w : Int64) (h0 : Heap) (n0 : Nat) (v : Option Value) (h : Heap) (L : List Loc) : Prop := v = some (.long (own_get_count a1 w)) ∧ Fr n0 L ∧ h = h0
set_option maxRecDepth 65536 in
set_option maxHeartbeats 40000000 in
theorem rg_count (l : Launch) (Z : State) (a0 : Array Value) (hw : ∀ d ∈ tables_1, d.before a0 Z = true) (ws : List Jvm.Cond) (a1 : Addr) (w : Int64) (h0 : Heap) (n0 : Nat) (Z0 : n0 ≤ h0.size) (F0 : Fld Z h0 a1 "nachbar/sim/Summary" "count" "J" (.long w)) :
    MetFree l (⟨"nachbar/sim/Summary", "count", "()J"⟩ : MethodName) (head1 (Jvm.Cond.code (⟨"nachbar/sim/Summary", "count", "()J"⟩ : MethodName) prog_144_method_8_code 1 (some .long) :: ws) ({ frames := 0, cells := 0, slots := 0, locals := 0 } : Room)) (fun a U => a = #[(.ref a1)] ∧ Z.Warmed39 U.vm ∧ U.heap = h0) (fun _ _ _ _ _ => True) (fun _ U o U' => ∃ v L, o = .returned v ∧ Q_rg_count Z a1 w h0 n0 v U'.heap L ∧ FrameEnd U o U' L ({ frames := 0, cells := 0, slots := 0, locals := 0 } : Room).cells ({ frames := 0, cells := 0, slots := 0, locals := 0 } : Room).slots) := by
  refine MetFree.of_bodySF (plainFor_of_name pn_rg_count) hisR ?_
  intro p e s m args below meth c s₁ Bd hml0 hP hK
  obtain ⟨rfl, hZ, hh⟩ := hP
  have hx := Bd.exec
  have hby := Bd.bytes
  have hml : c.maxLocals = 1 := hml0
  have hown : s.vm.findClass "nachbar/sim/Summary" = some m.cls := findClass_of_methodNamed Bd.named
  have hnm := (name_of_methodNamed Bd.named Bd.method).1
  have X0 : Stand p l e ({ frames := 0, cells := 0, slots := 0, locals := 0 } : Room) s m #[(.ref a1)] below meth c s₁ [] 0 0 := Stand.of_body Bd
  have e0 : s₁.heap = h0 := by rw [← hh, Bd.state]; rfl
  have N0 := Fr.nil n0
  have pre0 : ∀ t, Steps p.tables e below (s₁.setTop (mkF m 0 #[.val (.ref a1)] [])) t → Steps p.tables e below (s₁.setTop (entryFrame m #[(.ref a1)] 1)) t := fun t k => castTop (ef_rg_count m a1) k
  obtain ⟨T1, X1, e1, st1⟩ := getF X0 hx hZ hown (host := "") (Or.inl (hw _ (List.mem_of_getElem? (i := 41) rfl))) Via.refl e0 F0 (g := (mkF m 1 #[.val (.ref a1)] [(.ref a1)])) rfl rfl (hb hby d7_1)
  obtain ⟨fs, hr, hrun, hended, hW, hsame⟩ := X1.leave (v := some (.long w)) (fun h => by rw [Bd.returns] at h; cases h)
  refine ⟨_, _, pre0 _ ?_, hrun, hended, _, _, rfl, ?_, ⟨_, rfl⟩, hW, hsame.mono (by decide) (by decide)⟩
  · show Steps p.tables e below (s₁.setTop (mkF m 0 #[.val (.ref a1)] [])) _
    refine XS.aloadN X0.here hx rfl (hb hby d7_0) rfl rfl ?_
    show Steps p.tables e below (s₁.setTop (mkF m 1 #[.val (.ref a1)] [(.ref a1)])) _
    refine st1 _ ?_
    show Steps p.tables e below (T1.setTop (mkF m 4 #[.val (.ref a1)] [(.long w)])) _
    exact retJ X1 hx Bd.returns (hb hby d7_4) hr
  · show Q_rg_count Z a1 w h0 n0 _ T1.heap _
    rw [e1]
    exact ⟨by rw [own_get_count], N0, rfl⟩
def own_get_sum (a1 : Addr) (w : Int64) : Int64 := w
theorem d8_0 : decode prog_144_method_9_code 0 = .ok (.aload_n 0, 1) := by decide +kernel
theorem d8_1 : decode prog_144_method_9_code 1 = .ok (.getfield 13, 3) := by decide +kernel
theorem d8_4 : decode prog_144_method_9_code 4 = .ok (.lreturn, 1) := by decide +kernel
theorem pn_rg_sum : plainName "nachbar/sim/Summary" = true := by first | (simp [plainName, overriddenIn]; done) | decide +kernel
theorem ef_rg_sum (m : MethodId) (x0 : Addr) : entryFrame m #[(.ref x0)] 1 = mkF m 0 #[.val (.ref x0)] [] := by first | (simp [entryFrame, mkF, argsToLocals, Value.category]; done) | rfl
def Q_rg_sum (Z : State) (a1 : Addr) (w : Int64) (h0 : Heap) (n0 : Nat) (v : Option Value) (h : Heap) (L : List Loc) : Prop := v = some (.long (own_get_sum a1 w)) ∧ Fr n0 L ∧ h = h0
set_option maxRecDepth 65536 in
set_option maxHeartbeats 40000000 in
theorem rg_sum (l : Launch) (Z : State) (a0 : Array Value) (hw : ∀ d ∈ tables_1, d.before a0 Z = true) (ws : List Jvm.Cond) (a1 : Addr) (w : Int64) (h0 : Heap) (n0 : Nat) (Z0 : n0 ≤ h0.size) (F0 : Fld Z h0 a1 "nachbar/sim/Summary" "sum" "J" (.long w)) :
    MetFree l (⟨"nachbar/sim/Summary", "sum", "()J"⟩ : MethodName) (head1 (Jvm.Cond.code (⟨"nachbar/sim/Summary", "sum", "()J"⟩ : MethodName) prog_144_method_9_code 1 (some .long) :: ws) ({ frames := 0, cells := 0, slots := 0, locals := 0 } : Room)) (fun a U => a = #[(.ref a1)] ∧ Z.Warmed39 U.vm ∧ U.heap = h0) (fun _ _ _ _ _ => True) (fun _ U o U' => ∃ v L, o = .returned v ∧ Q_rg_sum Z a1 w h0 n0 v U'.heap L ∧ FrameEnd U o U' L ({ frames := 0, cells := 0, slots := 0, locals := 0 } : Room).cells ({ frames := 0, cells := 0, slots := 0, locals := 0 } : Room).slots) := by
  refine MetFree.of_bodySF (plainFor_of_name pn_rg_sum) hisR ?_
  intro p e s m args below meth c s₁ Bd hml0 hP hK
  obtain ⟨rfl, hZ, hh⟩ := hP
  have hx := Bd.exec
  have hby := Bd.bytes
  have hml : c.maxLocals = 1 := hml0
  have hown : s.vm.findClass "nachbar/sim/Summary" = some m.cls := findClass_of_methodNamed Bd.named
  have hnm := (name_of_methodNamed Bd.named Bd.method).1
  have X0 : Stand p l e ({ frames := 0, cells := 0, slots := 0, locals := 0 } : Room) s m #[(.ref a1)] below meth c s₁ [] 0 0 := Stand.of_body Bd
  have e0 : s₁.heap = h0 := by rw [← hh, Bd.state]; rfl
  have N0 := Fr.nil n0
  have pre0 : ∀ t, Steps p.tables e below (s₁.setTop (mkF m 0 #[.val (.ref a1)] [])) t → Steps p.tables e below (s₁.setTop (entryFrame m #[(.ref a1)] 1)) t := fun t k => castTop (ef_rg_sum m a1) k
  obtain ⟨T1, X1, e1, st1⟩ := getF X0 hx hZ hown (host := "") (Or.inl (hw _ (List.mem_of_getElem? (i := 43) rfl))) Via.refl e0 F0 (g := (mkF m 1 #[.val (.ref a1)] [(.ref a1)])) rfl rfl (hb hby d8_1)
  obtain ⟨fs, hr, hrun, hended, hW, hsame⟩ := X1.leave (v := some (.long w)) (fun h => by rw [Bd.returns] at h; cases h)
  refine ⟨_, _, pre0 _ ?_, hrun, hended, _, _, rfl, ?_, ⟨_, rfl⟩, hW, hsame.mono (by decide) (by decide)⟩
  · show Steps p.tables e below (s₁.setTop (mkF m 0 #[.val (.ref a1)] [])) _
    refine XS.aloadN X0.here hx rfl (hb hby d8_0) rfl rfl ?_
    show Steps p.tables e below (s₁.setTop (mkF m 1 #[.val (.ref a1)] [(.ref a1)])) _
    refine st1 _ ?_
    show Steps p.tables e below (T1.setTop (mkF m 4 #[.val (.ref a1)] [(.long w)])) _
    exact retJ X1 hx Bd.returns (hb hby d8_4) hr
  · show Q_rg_sum Z a1 w h0 n0 _ T1.heap _
    rw [e1]
    exact ⟨by rw [own_get_sum], N0, rfl⟩
def own_get_max (a1 : Addr) (w : Int64) : Int64 := w
theorem d9_0 : decode prog_144_method_11_code 0 = .ok (.aload_n 0, 1) := by decide +kernel
theorem d9_1 : decode prog_144_method_11_code 1 = .ok (.getfield 19, 3) := by decide +kernel
theorem d9_4 : decode prog_144_method_11_code 4 = .ok (.lreturn, 1) := by decide +kernel
theorem pn_rg_max : plainName "nachbar/sim/Summary" = true := by first | (simp [plainName, overriddenIn]; done) | decide +kernel
theorem ef_rg_max (m : MethodId) (x0 : Addr) : entryFrame m #[(.ref x0)] 1 = mkF m 0 #[.val (.ref x0)] [] := by first | (simp [entryFrame, mkF, argsToLocals, Value.category]; done) | rfl
def Q_rg_max (Z : State) (a1 : Addr) (w : Int64) (h0 : Heap) (n0 : Nat) (v : Option Value) (h : Heap) (L : List Loc) : Prop := v = some (.long (own_get_max a1 w)) ∧ Fr n0 L ∧ h = h0
set_option maxRecDepth 65536 in
set_option maxHeartbeats 40000000 in
theorem rg_max (l : Launch) (Z : State) (a0 : Array Value) (hw : ∀ d ∈ tables_1, d.before a0 Z = true) (ws : List Jvm.Cond) (a1 : Addr) (w : Int64) (h0 : Heap) (n0 : Nat) (Z0 : n0 ≤ h0.size) (F0 : Fld Z h0 a1 "nachbar/sim/Summary" "max" "J" (.long w)) :
    MetFree l (⟨"nachbar/sim/Summary", "max", "()J"⟩ : MethodName) (head1 (Jvm.Cond.code (⟨"nachbar/sim/Summary", "max", "()J"⟩ : MethodName) prog_144_method_11_code 1 (some .long) :: ws) ({ frames := 0, cells := 0, slots := 0, locals := 0 } : Room)) (fun a U => a = #[(.ref a1)] ∧ Z.Warmed39 U.vm ∧ U.heap = h0) (fun _ _ _ _ _ => True) (fun _ U o U' => ∃ v L, o = .returned v ∧ Q_rg_max Z a1 w h0 n0 v U'.heap L ∧ FrameEnd U o U' L ({ frames := 0, cells := 0, slots := 0, locals := 0 } : Room).cells ({ frames := 0, cells := 0, slots := 0, locals := 0 } : Room).slots) := by
  refine MetFree.of_bodySF (plainFor_of_name pn_rg_max) hisR ?_
  intro p e s m args below meth c s₁ Bd hml0 hP hK
  obtain ⟨rfl, hZ, hh⟩ := hP
  have hx := Bd.exec
  have hby := Bd.bytes
  have hml : c.maxLocals = 1 := hml0
  have hown : s.vm.findClass "nachbar/sim/Summary" = some m.cls := findClass_of_methodNamed Bd.named
  have hnm := (name_of_methodNamed Bd.named Bd.method).1
  have X0 : Stand p l e ({ frames := 0, cells := 0, slots := 0, locals := 0 } : Room) s m #[(.ref a1)] below meth c s₁ [] 0 0 := Stand.of_body Bd
  have e0 : s₁.heap = h0 := by rw [← hh, Bd.state]; rfl
  have N0 := Fr.nil n0
  have pre0 : ∀ t, Steps p.tables e below (s₁.setTop (mkF m 0 #[.val (.ref a1)] [])) t → Steps p.tables e below (s₁.setTop (entryFrame m #[(.ref a1)] 1)) t := fun t k => castTop (ef_rg_max m a1) k
  obtain ⟨T1, X1, e1, st1⟩ := getF X0 hx hZ hown (host := "") (Or.inl (hw _ (List.mem_of_getElem? (i := 47) rfl))) Via.refl e0 F0 (g := (mkF m 1 #[.val (.ref a1)] [(.ref a1)])) rfl rfl (hb hby d9_1)
  obtain ⟨fs, hr, hrun, hended, hW, hsame⟩ := X1.leave (v := some (.long w)) (fun h => by rw [Bd.returns] at h; cases h)
  refine ⟨_, _, pre0 _ ?_, hrun, hended, _, _, rfl, ?_, ⟨_, rfl⟩, hW, hsame.mono (by decide) (by decide)⟩
  · show Steps p.tables e below (s₁.setTop (mkF m 0 #[.val (.ref a1)] [])) _
    refine XS.aloadN X0.here hx rfl (hb hby d9_0) rfl rfl ?_
    show Steps p.tables e below (s₁.setTop (mkF m 1 #[.val (.ref a1)] [(.ref a1)])) _
    refine st1 _ ?_
    show Steps p.tables e below (T1.setTop (mkF m 4 #[.val (.ref a1)] [(.long w)])) _
    exact retJ X1 hx Bd.returns (hb hby d9_4) hr
  · show Q_rg_max Z a1 w h0 n0 _ T1.heap _
    rw [e1]
    exact ⟨by rw [own_get_max], N0, rfl⟩
def own_get_p99 (a1 : Addr) (w : Int64) : Int64 := w
theorem d10_0 : decode prog_144_method_10_code 0 = .ok (.aload_n 0, 1) := by decide +kernel
theorem d10_1 : decode prog_144_method_10_code 1 = .ok (.getfield 16, 3) := by decide +kernel
theorem d10_4 : decode prog_144_method_10_code 4 = .ok (.lreturn, 1) := by decide +kernel
theorem pn_rg_p99 : plainName "nachbar/sim/Summary" = true := by first | (simp [plainName, overriddenIn]; done) | decide +kernel
theorem ef_rg_p99 (m : MethodId) (x0 : Addr) : entryFrame m #[(.ref x0)] 1 = mkF m 0 #[.val (.ref x0)] [] := by first | (simp [entryFrame, mkF, argsToLocals, Value.category]; done) | rfl
def Q_rg_p99 (Z : State) (a1 : Addr) (w : Int64) (h0 : Heap) (n0 : Nat) (v : Option Value) (h : Heap) (L : List Loc) : Prop := v = some (.long (own_get_p99 a1 w)) ∧ Fr n0 L ∧ h = h0
set_option maxRecDepth 65536 in
set_option maxHeartbeats 40000000 in
theorem rg_p99 (l : Launch) (Z : State) (a0 : Array Value) (hw : ∀ d ∈ tables_1, d.before a0 Z = true) (ws : List Jvm.Cond) (a1 : Addr) (w : Int64) (h0 : Heap) (n0 : Nat) (Z0 : n0 ≤ h0.size) (F0 : Fld Z h0 a1 "nachbar/sim/Summary" "p99" "J" (.long w)) :
    MetFree l (⟨"nachbar/sim/Summary", "p99", "()J"⟩ : MethodName) (head1 (Jvm.Cond.code (⟨"nachbar/sim/Summary", "p99", "()J"⟩ : MethodName) prog_144_method_10_code 1 (some .long) :: ws) ({ frames := 0, cells := 0, slots := 0, locals := 0 } : Room)) (fun a U => a = #[(.ref a1)] ∧ Z.Warmed39 U.vm ∧ U.heap = h0) (fun _ _ _ _ _ => True) (fun _ U o U' => ∃ v L, o = .returned v ∧ Q_rg_p99 Z a1 w h0 n0 v U'.heap L ∧ FrameEnd U o U' L ({ frames := 0, cells := 0, slots := 0, locals := 0 } : Room).cells ({ frames := 0, cells := 0, slots := 0, locals := 0 } : Room).slots) := by
  refine MetFree.of_bodySF (plainFor_of_name pn_rg_p99) hisR ?_
  intro p e s m args below meth c s₁ Bd hml0 hP hK
  obtain ⟨rfl, hZ, hh⟩ := hP
  have hx := Bd.exec
  have hby := Bd.bytes
  have hml : c.maxLocals = 1 := hml0
  have hown : s.vm.findClass "nachbar/sim/Summary" = some m.cls := findClass_of_methodNamed Bd.named
  have hnm := (name_of_methodNamed Bd.named Bd.method).1
  have X0 : Stand p l e ({ frames := 0, cells := 0, slots := 0, locals := 0 } : Room) s m #[(.ref a1)] below meth c s₁ [] 0 0 := Stand.of_body Bd
  have e0 : s₁.heap = h0 := by rw [← hh, Bd.state]; rfl
  have N0 := Fr.nil n0
  have pre0 : ∀ t, Steps p.tables e below (s₁.setTop (mkF m 0 #[.val (.ref a1)] [])) t → Steps p.tables e below (s₁.setTop (entryFrame m #[(.ref a1)] 1)) t := fun t k => castTop (ef_rg_p99 m a1) k
  obtain ⟨T1, X1, e1, st1⟩ := getF X0 hx hZ hown (host := "") (Or.inl (hw _ (List.mem_of_getElem? (i := 45) rfl))) Via.refl e0 F0 (g := (mkF m 1 #[.val (.ref a1)] [(.ref a1)])) rfl rfl (hb hby d10_1)
  obtain ⟨fs, hr, hrun, hended, hW, hsame⟩ := X1.leave (v := some (.long w)) (fun h => by rw [Bd.returns] at h; cases h)
  refine ⟨_, _, pre0 _ ?_, hrun, hended, _, _, rfl, ?_, ⟨_, rfl⟩, hW, hsame.mono (by decide) (by decide)⟩
  · show Steps p.tables e below (s₁.setTop (mkF m 0 #[.val (.ref a1)] [])) _
    refine XS.aloadN X0.here hx rfl (hb hby d10_0) rfl rfl ?_
    show Steps p.tables e below (s₁.setTop (mkF m 1 #[.val (.ref a1)] [(.ref a1)])) _
    refine st1 _ ?_
    show Steps p.tables e below (T1.setTop (mkF m 4 #[.val (.ref a1)] [(.long w)])) _
    exact retJ X1 hx Bd.returns (hb hby d10_4) hr
  · show Q_rg_p99 Z a1 w h0 n0 _ T1.heap _
    rw [e1]
    exact ⟨by rw [own_get_p99], N0, rfl⟩
def own_zero : Nat → Int64 := fun _ => 0
def own_I (z : Int32) (g : Nat → Int64) (m : Int32) : Prop := 16 ≤ z.toInt ∧ z.toInt ≤ 300 ∧ ¬ z < 0 ∧ (∀ i, z.toNatClampNeg ≤ i → g i = 0) ∧ m.toNatClampNeg + 1 ≤ z.toNatClampNeg
theorem own_inv0 : own_I (16 : Int32) own_zero (0 : Int32) := ⟨by decide, by decide, by decide, fun _ _ => rfl, by decide⟩
theorem own_x (p : Int32) : ¬ (p &&& (127 : Int32)) < 0 ∧ (p &&& (127 : Int32)).toInt ≤ 127 := by
  have h := c_and p 127 (by decide)
  rw [show (127 : Int32).toInt = 127 from by decide] at h
  exact ⟨own_neg h.1, h.2⟩
theorem own_zI {x z : Int32} (hx : ¬ x < 0) (hx1 : x.toInt ≤ 127) (h16 : 16 ≤ z.toInt) (h3 : z.toInt ≤ 300) : (x.toInt < z.toInt ∧ own_z x z = z) ∨ (z.toInt ≤ x.toInt ∧ (own_z x z).toInt = max (x.toInt + 1) (2 * z.toInt) ∧ own_z x z = own_nz x z) := by
  unfold own_z
  split
  · rename_i h; rw [Int32.lt_iff_toInt_lt] at h; exact Or.inl ⟨h, rfl⟩
  · rename_i h; rw [Int32.lt_iff_toInt_lt] at h; exact Or.inr ⟨by omega, own_nzI hx hx1 h16 h3, rfl⟩
theorem own_cap (x z : Int32) (h16 : 16 ≤ z.toInt) (h3 : z.toInt ≤ 300) (hx : ¬ x < 0) (hx1 : x.toInt ≤ 127) : ∃ cap : Nat, (¬ x < z → (own_nz x z).toNatClampNeg ≤ cap) ∧ ((x.toInt < z.toInt ∧ cap = 0 ∧ (own_z x z).toInt = z.toInt) ∨ (z.toInt ≤ x.toInt ∧ (cap : Int) = (own_z x z).toInt ∧ 2 * z.toInt ≤ (own_z x z).toInt ∧ (own_z x z).toInt ≤ 254)) ∧ x.toInt ≤ 127 ∧ 16 ≤ z.toInt := by
  rcases own_zI hx hx1 h16 h3 with ⟨h, e⟩ | ⟨h, e, e2⟩
  · refine ⟨0, fun q => absurd (Int32.lt_iff_toInt_lt.mpr h) q, Or.inl ⟨h, rfl, by rw [e]⟩, hx1, h16⟩
  · have hn := own_nzI hx hx1 h16 h3
    have nn : ¬ own_nz x z < 0 := own_neg (by omega)
    refine ⟨(own_nz x z).toNatClampNeg, fun _ => Nat.le_refl _, Or.inr ⟨h, ?_, by omega, by omega⟩, hx1, h16⟩
    rw [e2]; exact (nat_of nn).symm
theorem own_step {z m x : Int32} {g : Nat → Int64} (I : own_I z g m) (hx : ¬ x < 0) (hx1 : x.toInt ≤ 127) : own_I (own_z x z) (own_inc g x) (own_max m x) := by
  obtain ⟨h16, h3, hz, hg, hm⟩ := I
  have hx0 := own_nn hx
  have nx := nat_of hx
  have nz := nat_of hz
  have key : z.toInt ≤ (own_z x z).toInt ∧ (own_z x z).toInt ≤ 300 ∧ x.toInt + 1 ≤ (own_z x z).toInt := by
    rcases own_zI hx hx1 h16 h3 with ⟨h, e⟩ | ⟨h, e, -⟩
    · rw [e]; omega
    · omega
  have hz' : ¬ own_z x z < 0 := own_neg (by omega)
  have nz' := nat_of hz'
  refine ⟨by omega, key.2.1, hz', fun i hi => ?_, ?_⟩
  · unfold own_inc
    rw [if_neg (by omega)]
    exact hg i (by omega)
  · unfold own_max
    split <;> omega
theorem own_preI (g : Nat → Int64) (x : Int32) : ∀ i, own_pre (own_inc g x) i = own_pre g i + (if x.toNatClampNeg ≤ i then (1 : Int64) else 0)
  | 0 => by
    show own_inc g x 0 = g 0 + _
    unfold own_inc
    by_cases h : 0 = x.toNatClampNeg
    · rw [if_pos h, if_pos (by omega)]
    · rw [if_neg h, if_neg (by omega), Int64.add_zero]
  | i + 1 => by
    show own_pre (own_inc g x) i + own_inc g x (i + 1) = (own_pre g i + g (i + 1)) + _
    rw [own_preI g x i]
    unfold own_inc
    by_cases h : i + 1 = x.toNatClampNeg
    · rw [if_pos h, if_neg (show ¬ x.toNatClampNeg ≤ i by omega), if_pos (show x.toNatClampNeg ≤ i + 1 by omega), Int64.add_zero, Int64.add_assoc]
    · rw [if_neg h]
      by_cases h2 : x.toNatClampNeg ≤ i
      · rw [if_pos h2, if_pos (show x.toNatClampNeg ≤ i + 1 by omega), Int64.add_assoc, Int64.add_assoc, Int64.add_comm 1]
      · rw [if_neg h2, if_neg (show ¬ x.toNatClampNeg ≤ i + 1 by omega), Int64.add_zero, Int64.add_zero]
def own_cv (g : Nat → Int64) (c : Nat → Nat) : Prop := ∀ i, own_pre g i = Int64.ofNat (c i)
theorem own_cv0 : own_cv own_zero (fun _ => 0)
  | 0 => rfl
  | i + 1 => by
    show own_pre own_zero i + 0 = _
    rw [own_cv0 i]; rfl
theorem own_cvS {g : Nat → Int64} {c : Nat → Nat} (x : Int32) (h : own_cv g c) : own_cv (own_inc g x) (fun i => c i + (if x.toNatClampNeg ≤ i then 1 else 0)) := fun i => by
  rw [own_preI, h i]
  show _ = Int64.ofNat (c i + (if x.toNatClampNeg ≤ i then 1 else 0))
  split
  · exact (Int64.ofNat_add _ _).symm
  · exact Int64.add_zero _
theorem own_l64 (c k : Nat) (hc : c ≤ 4) (hk : k ≤ 4) : (Int64.ofNat c < Int64.ofNat k) ↔ c < k := by
  rw [Int64.lt_iff_toInt_lt, Int64.toInt_ofNat_of_lt (by omega), Int64.toInt_ofNat_of_lt (by omega)]
  omega
theorem own_mxN {a b : Int32} (ha : ¬ a < 0) (hb : ¬ b < 0) : (own_max a b).toNatClampNeg = max a.toNatClampNeg b.toNatClampNeg := by
  have na := nat_of ha
  have nb := nat_of hb
  unfold own_max
  split
  · rename_i h; rw [Int32.lt_iff_toInt_lt] at h; omega
  · rename_i h; rw [Int32.lt_iff_toInt_lt] at h; omega
theorem own_mx0 : ¬ (0 : Int32) < 0 := by decide
theorem own_mx {a b : Int32} (ha : ¬ a < 0) (hb : ¬ b < 0) : ¬ own_max a b < 0 := by
  unfold own_max; split
  · exact hb
  · exact ha
theorem own_tops {g : Nat → Int64} {c : Nat → Nat} {M k : Nat} (h : own_cv g c) (hk : k ≤ 4) (h4 : ∀ i, c i ≤ 4) (h1 : ∀ i, i < M → c i < k) (h2 : ¬ c M < k) : (∀ i, i < M → own_pre g i < Int64.ofNat k) ∧ ¬ own_pre g M < Int64.ofNat k ∧ M < M + 1 :=
  ⟨fun i hi => by rw [h i]; exact (own_l64 _ _ (h4 i) hk).mpr (h1 i hi), by rw [h M]; exact fun q => h2 ((own_l64 _ _ (h4 M) hk).mp q), Nat.lt_succ_self M⟩
theorem own_top0 : (∀ i, i < ((0 : Int32)).toNatClampNeg → own_pre own_zero i < own_rank (0 : Int64)) ∧ ¬ own_pre own_zero ((0 : Int32)).toNatClampNeg < own_rank (0 : Int64) ∧ ((0 : Int32)).toNatClampNeg < ((0 : Int32)).toNatClampNeg + 1 :=
  ⟨fun i hi => absurd hi (Nat.not_lt_zero i), by decide, by decide⟩
theorem own_top1 {a : Int32} (ha : ¬ a < 0) (ha1 : a.toInt ≤ 127) : (∀ i, i < ((own_max (0 : Int32) a)).toNatClampNeg → own_pre (own_inc own_zero a) i < own_rank (1 : Int64)) ∧ ¬ own_pre (own_inc own_zero a) ((own_max (0 : Int32) a)).toNatClampNeg < own_rank (1 : Int64) ∧ ((own_max (0 : Int32) a)).toNatClampNeg < ((own_max (0 : Int32) a)).toNatClampNeg + 1 := by
  have e := own_mxN own_mx0 ha
  have z0 : (0 : Int32).toNatClampNeg = 0 := by decide
  rw [z0] at e
  refine own_tops (k := 1) (own_cvS a own_cv0) (by decide) (fun i => ?_) (fun i hi => ?_) ?_
  · split <;> omega
  · rw [if_neg (by omega)]; omega
  · rw [if_pos (by omega)]; omega
theorem own_top2 {a b : Int32} (ha : ¬ a < 0) (ha1 : a.toInt ≤ 127) (hb : ¬ b < 0) (hb1 : b.toInt ≤ 127) : (∀ i, i < ((own_max (own_max (0 : Int32) a) b)).toNatClampNeg → own_pre (own_inc (own_inc own_zero a) b) i < own_rank (2 : Int64)) ∧ ¬ own_pre (own_inc (own_inc own_zero a) b) ((own_max (own_max (0 : Int32) a) b)).toNatClampNeg < own_rank (2 : Int64) ∧ ((own_max (own_max (0 : Int32) a) b)).toNatClampNeg < ((own_max (own_max (0 : Int32) a) b)).toNatClampNeg + 1 := by
  have e := own_mxN (own_mx own_mx0 ha) hb
  have z0 : (0 : Int32).toNatClampNeg = 0 := by decide
  rw [own_mxN own_mx0 ha, z0] at e
  refine own_tops (k := 2) (own_cvS b (own_cvS a own_cv0)) (by decide) (fun i => ?_) (fun i hi => ?_) ?_
  · split <;> split <;> omega
  · split <;> split <;> omega
  · split <;> split <;> omega
theorem own_top3 {a b d : Int32} (ha : ¬ a < 0) (ha1 : a.toInt ≤ 127) (hb : ¬ b < 0) (hb1 : b.toInt ≤ 127) (hd : ¬ d < 0) (hd1 : d.toInt ≤ 127) : (∀ i, i < ((own_max (own_max (own_max (0 : Int32) a) b) d)).toNatClampNeg → own_pre (own_inc (own_inc (own_inc own_zero a) b) d) i < own_rank (3 : Int64)) ∧ ¬ own_pre (own_inc (own_inc (own_inc own_zero a) b) d) ((own_max (own_max (own_max (0 : Int32) a) b) d)).toNatClampNeg < own_rank (3 : Int64) ∧ ((own_max (own_max (own_max (0 : Int32) a) b) d)).toNatClampNeg < ((own_max (own_max (own_max (0 : Int32) a) b) d)).toNatClampNeg + 1 := by
  have e := own_mxN (own_mx (own_mx own_mx0 ha) hb) hd
  have z0 : (0 : Int32).toNatClampNeg = 0 := by decide
  rw [own_mxN (own_mx own_mx0 ha) hb, own_mxN own_mx0 ha, z0] at e
  refine own_tops (k := 3) (own_cvS d (own_cvS b (own_cvS a own_cv0))) (by decide) (fun i => ?_) (fun i hi => ?_) ?_
  · split <;> split <;> split <;> omega
  · split <;> split <;> split <;> omega
  · split <;> split <;> split <;> omega
theorem own_top4 {a b d f : Int32} (ha : ¬ a < 0) (ha1 : a.toInt ≤ 127) (hb : ¬ b < 0) (hb1 : b.toInt ≤ 127) (hd : ¬ d < 0) (hd1 : d.toInt ≤ 127) (hf : ¬ f < 0) (hf1 : f.toInt ≤ 127) : (∀ i, i < ((own_max (own_max (own_max (own_max (0 : Int32) a) b) d) f)).toNatClampNeg → own_pre (own_inc (own_inc (own_inc (own_inc own_zero a) b) d) f) i < own_rank (4 : Int64)) ∧ ¬ own_pre (own_inc (own_inc (own_inc (own_inc own_zero a) b) d) f) ((own_max (own_max (own_max (own_max (0 : Int32) a) b) d) f)).toNatClampNeg < own_rank (4 : Int64) ∧ ((own_max (own_max (own_max (own_max (0 : Int32) a) b) d) f)).toNatClampNeg < ((own_max (own_max (own_max (own_max (0 : Int32) a) b) d) f)).toNatClampNeg + 1 := by
  have e := own_mxN (own_mx (own_mx (own_mx own_mx0 ha) hb) hd) hf
  have z0 : (0 : Int32).toNatClampNeg = 0 := by decide
  rw [own_mxN (own_mx (own_mx own_mx0 ha) hb) hd, own_mxN (own_mx own_mx0 ha) hb, own_mxN own_mx0 ha, z0] at e
  refine own_tops (k := 4) (own_cvS f (own_cvS d (own_cvS b (own_cvS a own_cv0)))) (by decide) (fun i => ?_) (fun i hi => ?_) ?_
  · split <;> split <;> split <;> split <;> omega
  · split <;> split <;> split <;> split <;> omega
  · split <;> split <;> split <;> split <;> omega
theorem own_k {p y : Int32} (h : y = ((p &&& (2147483647 : Int32)) - ((p &&& (2147483647 : Int32)) / (5 : Int32)) * (5 : Int32))) : 0 ≤ y.toInt ∧ y.toInt ≤ 4 := by
  have hm := c_and p 2147483647 (by decide)
  rw [irem_eq_mod] at h
  generalize p &&& (2147483647 : Int32) = q at hm h
  have hr := (c_irem q 5 5 (by decide)).1 hm.1
  subst h
  omega
theorem own_ge {y k : Int32} (h : ¬ y < k) : k.toInt ≤ y.toInt := by rw [Int32.lt_iff_toInt_lt] at h; omega
theorem own_lt5 {y k : Int32} (h : y < k) : y.toInt ≤ k.toInt - 1 := by rw [Int32.lt_iff_toInt_lt] at h; omega
theorem own_cnt (K : Int64) (k : Int) (hK : K.toInt = k) (hk : 0 ≤ k) {y : Int32} (lo : k ≤ y.toInt) (hi : y.toInt ≤ k) : (lcmpW K (y.toInt64)) = (0 : Int32) := (lw_eq _ _).mpr (Int64.toInt_inj.mp (by rw [hK, c_i2l]; omega))
theorem own_back {x : Int32} (h : ¬ x < 0) : (Int32.ofNat x.toNatClampNeg).toInt64 = x.toInt64 := by rw [show Int32.ofNat x.toNatClampNeg = x from (back32 h).1]
theorem pn_rm0 : plainName "nachbar/sim/TallySummaryPinLaw" = true := by first | (simp [plainName, overriddenIn]; done) | decide +kernel
theorem ef_rm0 (m : MethodId) (x0 : Int32) (x1 : Int32) (x2 : Int32) (x3 : Int32) (x4 : Int32) : entryFrame m #[(.int x0), (.int x1), (.int x2), (.int x3), (.int x4)] maxLocals = mkF m 0 #[.val (.int x0), .val (.int x1), .val (.int x2), .val (.int x3), .val (.int x4), .unset, .unset, .unset, .unset, .unset, .unset, .unset, .unset, .unset, .unset] [] := by first | (simp [entryFrame, mkF, argsToLocals, Value.category, maxLocals]; done) | rfl
def Q_rm0 (Z : State) (p1 : Int32) (p2 : Int32) (p3 : Int32) (p4 : Int32) (p5 : Int32) (h0 : Heap) (n0 : Nat) (v : Option Value) (h : Heap) (L : List Loc) : Prop := v = some (.int 1) ∧ Fr n0 L
set_option maxRecDepth 65536 in
set_option maxHeartbeats 40000000 in
theorem rm0 (l : Launch) (Z : State) (a0 : Array Value) (hw : ∀ d ∈ tables_1, d.before a0 Z = true) (ws : List Jvm.Cond) (p1 : Int32) (p2 : Int32) (p3 : Int32) (p4 : Int32) (p5 : Int32) (h0 : Heap) (n0 : Nat) (Z0 : n0 ≤ h0.size) :
    MetFree l x (head1 (Jvm.Cond.code x code maxLocals ret :: ws) room_1) (fun a U => a = #[(.int p1), (.int p2), (.int p3), (.int p4), (.int p5)] ∧ Z.Warmed39 U.vm ∧ U.heap = h0) (fun _ _ _ _ _ => True) (fun _ U o U' => ∃ v L, o = .returned v ∧ Q_rm0 Z p1 p2 p3 p4 p5 h0 n0 v U'.heap L ∧ FrameEnd U o U' L room_1.cells room_1.slots) := by
  refine MetFree.of_bodySF (plainFor_of_name pn_rm0) hisR ?_
  intro p e s m args below meth c s₁ Bd hml0 hP hK
  obtain ⟨rfl, hZ, hh⟩ := hP
  have hx := Bd.exec
  have hby := Bd.bytes
  have hml : c.maxLocals = 15 := hml0
  have hown : s.vm.findClass "nachbar/sim/TallySummaryPinLaw" = some m.cls := findClass_of_methodNamed Bd.named
  have hnm := (name_of_methodNamed Bd.named Bd.method).1
  have X0 : Stand p l e room_1 s m #[(.int p1), (.int p2), (.int p3), (.int p4), (.int p5)] below meth c s₁ [] 0 0 := Stand.of_body Bd
  have e0 : s₁.heap = h0 := by rw [← hh, Bd.state]; rfl
  have N0 := Fr.nil n0
  have pre0 : ∀ t, Steps p.tables e below (s₁.setTop (mkF m 0 #[.val (.int p1), .val (.int p2), .val (.int p3), .val (.int p4), .val (.int p5), .unset, .unset, .unset, .unset, .unset, .unset, .unset, .unset, .unset, .unset] [])) t → Steps p.tables e below (s₁.setTop (entryFrame m #[(.int p1), (.int p2), (.int p3), (.int p4), (.int p5)] maxLocals)) t := fun t k => castTop (ef_rm0 m p1 p2 p3 p4 p5) k
  obtain ⟨y1, hy1⟩ : ∃ z : Int32, z = ((p5 &&& (2147483647 : Int32)) - ((p5 &&& (2147483647 : Int32)) / (5 : Int32)) * (5 : Int32)) := ⟨_, rfl⟩
  obtain ⟨hk0, hk4⟩ := own_k hy1
  obtain ⟨T2, h2, X2, e2, E2, A2, D2, -, st2⟩ := newO X0 hx hZ hown (hw _ (List.mem_of_getElem? (i := 1) rfl)) (hw _ (List.mem_of_getElem? (i := 2) rfl)) (hw _ (List.mem_of_getElem? (i := 3) rfl)) e0 (g := (mkF m 33 #[.val (.int p1), .val (.int p2), .val (.int p3), .val (.int p4), .val (.int p5), .val (.int y1), .val (.int (p1 &&& (127 : Int32))), .val (.int (p2 &&& (127 : Int32))), .val (.int (p3 &&& (127 : Int32))), .val (.int (p4 &&& (127 : Int32))), .unset, .unset, .unset, .unset, .unset] [])) rfl (hb hby at_33) (by decide) (by decide)
  obtain ⟨b2, g2⟩ : ∃ z, z = h0.size := ⟨_, rfl⟩
  rw [← g2] at A2 D2 st2
  have g_b2 : n0 ≤ b2 := Nat.le_trans Z0 (Nat.le_of_eq g2.symm)
  have Z2 : n0 ≤ h2.size := Nat.le_trans Z0 E2.1
  have Ex2_v2 : Exa Z h2 b2 "nachbar/sim/Tally" := A2
  have F2counts_v2 : Fld Z h2 b2 "nachbar/sim/Tally" "counts" "[J" .null := D2 (Or.inl (hw _ (List.mem_of_getElem? (i := 12) rfl))) (ty := (.array .long)) (by decide)
  have F2count_v2 : Fld Z h2 b2 "nachbar/sim/Tally" "count" "J" (.long (0 : Int64)) := D2 (Or.inl (hw _ (List.mem_of_getElem? (i := 19) rfl))) (ty := .long) (by decide)
  have F2sum_v2 : Fld Z h2 b2 "nachbar/sim/Tally" "sum" "J" (.long (0 : Int64)) := D2 (Or.inl (hw _ (List.mem_of_getElem? (i := 29) rfl))) (ty := .long) (by decide)
  have F2max_v2 : Fld Z h2 b2 "nachbar/sim/Tally" "max" "I" (.int (0 : Int32)) := D2 (Or.inl (hw _ (List.mem_of_getElem? (i := 31) rfl))) (ty := .int) (by decide)
  obtain ⟨_, _, ⟨T3, L3, k3, n3⟩, -, X3, ⟨Lc3, hQ3, l3, y3, z3⟩, st3⟩ := X2.specialBack hx (y := (⟨"nachbar/sim/Tally", "<init>", "()V"⟩ : MethodName)) rfl hown (mvT hZ (hw _ (List.mem_of_getElem? (i := 4) rfl))) (mvT hZ (hw _ (List.mem_of_getElem? (i := 5) rfl))) (mvT hZ (hw _ (List.mem_of_getElem? (i := 6) rfl))) (by decide) (backOf (W := 1) (rmt l Z a0 hw [] b2 h2 n0 Z2 Ex2_v2 F2counts_v2 F2count_v2 F2sum_v2 F2max_v2 g_b2) hZ (hw _ (List.mem_of_getElem? (i := 6) rfl)) (hw _ (List.mem_of_getElem? (i := 3) rfl)) (by decide) (by decide)) (g := (mkF m 37 #[.val (.int p1), .val (.int p2), .val (.int p3), .val (.int p4), .val (.int p5), .val (.int y1), .val (.int (p1 &&& (127 : Int32))), .val (.int (p2 &&& (127 : Int32))), .val (.int (p3 &&& (127 : Int32))), .val (.int (p4 &&& (127 : Int32))), .unset, .unset, .unset, .unset, .unset] [(.ref b2), (.ref b2)])) rfl (by rw [hml]; rfl) (Steps.refl _) (a := b2) (argsL := []) (rest := [(.ref b2)]) (lenOf pd_2 rfl) rfl (by show 2 * 0 + _ ≤ _; exact Nat.le_of_eq rfl) (hb hby at_37) (fun _ _ => ⟨rfl, e2, (by decide : 1 + 1 ≤ _), (by decide : 4 + 16 ≤ _)⟩)
  dsimp only [Pt.U, Pt.locs, Pt.cells, Pt.slots] at X3 l3 y3 z3 st3 hQ3
  subst l3 y3 z3
  obtain ⟨c3, rfl, N3q, Kc3, sb3, nf3_0_v3, nf3_1_v3, nf3_2_v3, nf3_3_v3, nf3_4_v3⟩ := hQ3
  have N3 := Fr.app N0 N3q
  have ne_b2_c3 : b2 ≠ c3 := Nat.ne_of_lt (Nat.lt_of_lt_of_le Ex2_v2.lt sb3)
  have g_c3 : n0 ≤ c3 := Nat.le_trans Z2 sb3
  have Ex2_v3 := Ex2_v2.keep Kc3
  have Z3 : n0 ≤ T3.heap.size := Nat.le_trans Z2 Kc3.1
  have VT_v0 : ArF Z T3.heap c3 .long (16 : Int32).toNatClampNeg (fun i => .long (own_zero i)) := nf3_4_v3
  have I0 := own_inv0
  have pre4 : ∀ t, Steps p.tables e below (T3.setTop (mkF m 51 #[.val (.int p1), .val (.int p2), .val (.int p3), .val (.int p4), .val (.int p5), .val (.int y1), .val (.int (p1 &&& (127 : Int32))), .val (.int (p2 &&& (127 : Int32))), .val (.int (p3 &&& (127 : Int32))), .val (.int (p4 &&& (127 : Int32))), .val (.ref b2), .val (.long (0 : Int64)), .second, .val (.int (0 : Int32)), .unset] [(.int (1 : Int32)), (.int y1)])) t → Steps p.tables e below (s₁.setTop (entryFrame m #[(.int p1), (.int p2), (.int p3), (.int p4), (.int p5)] maxLocals)) t := by
    intro t k
    refine pre0 t ?_
    show Steps p.tables e below (s₁.setTop (mkF m 0 #[.val (.int p1), .val (.int p2), .val (.int p3), .val (.int p4), .val (.int p5), .unset, .unset, .unset, .unset, .unset, .unset, .unset, .unset, .unset, .unset] [])) _
    refine XS.iload X0.here hx rfl (hb hby at_0) rfl ?_
    show Steps p.tables e below (s₁.setTop (mkF m 2 #[.val (.int p1), .val (.int p2), .val (.int p3), .val (.int p4), .val (.int p5), .unset, .unset, .unset, .unset, .unset, .unset, .unset, .unset, .unset, .unset] [(.int p5)])) _
    refine X0.ldcInt hx hown (mvT hZ (hw _ (List.mem_of_getElem? (i := 0) rfl))) (g := (mkF m 2 #[.val (.int p1), .val (.int p2), .val (.int p3), .val (.int p4), .val (.int p5), .unset, .unset, .unset, .unset, .unset, .unset, .unset, .unset, .unset, .unset] [(.int p5)])) rfl (hb hby at_2) _ ?_
    show Steps p.tables e below (s₁.setTop (mkF m 4 #[.val (.int p1), .val (.int p2), .val (.int p3), .val (.int p4), .val (.int p5), .unset, .unset, .unset, .unset, .unset, .unset, .unset, .unset, .unset, .unset] [(.int (2147483647 : Int32)), (.int p5)])) _
    refine XS.iand X0.here hx rfl (hb hby at_4) rfl ?_
    show Steps p.tables e below (s₁.setTop (mkF m 5 #[.val (.int p1), .val (.int p2), .val (.int p3), .val (.int p4), .val (.int p5), .unset, .unset, .unset, .unset, .unset, .unset, .unset, .unset, .unset, .unset] [(.int (p5 &&& (2147483647 : Int32)))])) _
    refine XS.iconst X0.here hx rfl (hb hby at_5) ?_
    show Steps p.tables e below (s₁.setTop (mkF m 6 #[.val (.int p1), .val (.int p2), .val (.int p3), .val (.int p4), .val (.int p5), .unset, .unset, .unset, .unset, .unset, .unset, .unset, .unset, .unset, .unset] [(.int (5 : Int32)), (.int (p5 &&& (2147483647 : Int32)))])) _
    refine XS.irem X0.here hx rfl (hb hby at_6) rfl (by decide) ?_
    show Steps p.tables e below (s₁.setTop (mkF m 7 #[.val (.int p1), .val (.int p2), .val (.int p3), .val (.int p4), .val (.int p5), .unset, .unset, .unset, .unset, .unset, .unset, .unset, .unset, .unset, .unset] [(.int ((p5 &&& (2147483647 : Int32)) - ((p5 &&& (2147483647 : Int32)) / (5 : Int32)) * (5 : Int32)))])) _
    rw [← hy1]
    refine XS.istore X0.here hx rfl (hb hby at_7) rfl (l' := #[.val (.int p1), .val (.int p2), .val (.int p3), .val (.int p4), .val (.int p5), .val (.int y1), .unset, .unset, .unset, .unset, .unset, .unset, .unset, .unset, .unset]) rfl ?_
    show Steps p.tables e below (s₁.setTop (mkF m 9 #[.val (.int p1), .val (.int p2), .val (.int p3), .val (.int p4), .val (.int p5), .val (.int y1), .unset, .unset, .unset, .unset, .unset, .unset, .unset, .unset, .unset] [])) _
    refine XS.iloadN X0.here hx rfl (hb hby at_9) rfl ?_
    show Steps p.tables e below (s₁.setTop (mkF m 10 #[.val (.int p1), .val (.int p2), .val (.int p3), .val (.int p4), .val (.int p5), .val (.int y1), .unset, .unset, .unset, .unset, .unset, .unset, .unset, .unset, .unset] [(.int p1)])) _
    refine XS.bipush X0.here hx rfl (hb hby at_10) ?_
    show Steps p.tables e below (s₁.setTop (mkF m 12 #[.val (.int p1), .val (.int p2), .val (.int p3), .val (.int p4), .val (.int p5), .val (.int y1), .unset, .unset, .unset, .unset, .unset, .unset, .unset, .unset, .unset] [(.int (127 : Int32)), (.int p1)])) _
    refine XS.iand X0.here hx rfl (hb hby at_12) rfl ?_
    show Steps p.tables e below (s₁.setTop (mkF m 13 #[.val (.int p1), .val (.int p2), .val (.int p3), .val (.int p4), .val (.int p5), .val (.int y1), .unset, .unset, .unset, .unset, .unset, .unset, .unset, .unset, .unset] [(.int (p1 &&& (127 : Int32)))])) _
    refine XS.istore X0.here hx rfl (hb hby at_13) rfl (l' := #[.val (.int p1), .val (.int p2), .val (.int p3), .val (.int p4), .val (.int p5), .val (.int y1), .val (.int (p1 &&& (127 : Int32))), .unset, .unset, .unset, .unset, .unset, .unset, .unset, .unset]) rfl ?_
    show Steps p.tables e below (s₁.setTop (mkF m 15 #[.val (.int p1), .val (.int p2), .val (.int p3), .val (.int p4), .val (.int p5), .val (.int y1), .val (.int (p1 &&& (127 : Int32))), .unset, .unset, .unset, .unset, .unset, .unset, .unset, .unset] [])) _
    refine XS.iloadN X0.here hx rfl (hb hby at_15) rfl ?_
    show Steps p.tables e below (s₁.setTop (mkF m 16 #[.val (.int p1), .val (.int p2), .val (.int p3), .val (.int p4), .val (.int p5), .val (.int y1), .val (.int (p1 &&& (127 : Int32))), .unset, .unset, .unset, .unset, .unset, .unset, .unset, .unset] [(.int p2)])) _
    refine XS.bipush X0.here hx rfl (hb hby at_16) ?_
    show Steps p.tables e below (s₁.setTop (mkF m 18 #[.val (.int p1), .val (.int p2), .val (.int p3), .val (.int p4), .val (.int p5), .val (.int y1), .val (.int (p1 &&& (127 : Int32))), .unset, .unset, .unset, .unset, .unset, .unset, .unset, .unset] [(.int (127 : Int32)), (.int p2)])) _
    refine XS.iand X0.here hx rfl (hb hby at_18) rfl ?_
    show Steps p.tables e below (s₁.setTop (mkF m 19 #[.val (.int p1), .val (.int p2), .val (.int p3), .val (.int p4), .val (.int p5), .val (.int y1), .val (.int (p1 &&& (127 : Int32))), .unset, .unset, .unset, .unset, .unset, .unset, .unset, .unset] [(.int (p2 &&& (127 : Int32)))])) _
    refine XS.istore X0.here hx rfl (hb hby at_19) rfl (l' := #[.val (.int p1), .val (.int p2), .val (.int p3), .val (.int p4), .val (.int p5), .val (.int y1), .val (.int (p1 &&& (127 : Int32))), .val (.int (p2 &&& (127 : Int32))), .unset, .unset, .unset, .unset, .unset, .unset, .unset]) rfl ?_
    show Steps p.tables e below (s₁.setTop (mkF m 21 #[.val (.int p1), .val (.int p2), .val (.int p3), .val (.int p4), .val (.int p5), .val (.int y1), .val (.int (p1 &&& (127 : Int32))), .val (.int (p2 &&& (127 : Int32))), .unset, .unset, .unset, .unset, .unset, .unset, .unset] [])) _
    refine XS.iloadN X0.here hx rfl (hb hby at_21) rfl ?_
    show Steps p.tables e below (s₁.setTop (mkF m 22 #[.val (.int p1), .val (.int p2), .val (.int p3), .val (.int p4), .val (.int p5), .val (.int y1), .val (.int (p1 &&& (127 : Int32))), .val (.int (p2 &&& (127 : Int32))), .unset, .unset, .unset, .unset, .unset, .unset, .unset] [(.int p3)])) _
    refine XS.bipush X0.here hx rfl (hb hby at_22) ?_
    show Steps p.tables e below (s₁.setTop (mkF m 24 #[.val (.int p1), .val (.int p2), .val (.int p3), .val (.int p4), .val (.int p5), .val (.int y1), .val (.int (p1 &&& (127 : Int32))), .val (.int (p2 &&& (127 : Int32))), .unset, .unset, .unset, .unset, .unset, .unset, .unset] [(.int (127 : Int32)), (.int p3)])) _
    refine XS.iand X0.here hx rfl (hb hby at_24) rfl ?_
    show Steps p.tables e below (s₁.setTop (mkF m 25 #[.val (.int p1), .val (.int p2), .val (.int p3), .val (.int p4), .val (.int p5), .val (.int y1), .val (.int (p1 &&& (127 : Int32))), .val (.int (p2 &&& (127 : Int32))), .unset, .unset, .unset, .unset, .unset, .unset, .unset] [(.int (p3 &&& (127 : Int32)))])) _
    refine XS.istore X0.here hx rfl (hb hby at_25) rfl (l' := #[.val (.int p1), .val (.int p2), .val (.int p3), .val (.int p4), .val (.int p5), .val (.int y1), .val (.int (p1 &&& (127 : Int32))), .val (.int (p2 &&& (127 : Int32))), .val (.int (p3 &&& (127 : Int32))), .unset, .unset, .unset, .unset, .unset, .unset]) rfl ?_
    show Steps p.tables e below (s₁.setTop (mkF m 27 #[.val (.int p1), .val (.int p2), .val (.int p3), .val (.int p4), .val (.int p5), .val (.int y1), .val (.int (p1 &&& (127 : Int32))), .val (.int (p2 &&& (127 : Int32))), .val (.int (p3 &&& (127 : Int32))), .unset, .unset, .unset, .unset, .unset, .unset] [])) _
    refine XS.iloadN X0.here hx rfl (hb hby at_27) rfl ?_
    show Steps p.tables e below (s₁.setTop (mkF m 28 #[.val (.int p1), .val (.int p2), .val (.int p3), .val (.int p4), .val (.int p5), .val (.int y1), .val (.int (p1 &&& (127 : Int32))), .val (.int (p2 &&& (127 : Int32))), .val (.int (p3 &&& (127 : Int32))), .unset, .unset, .unset, .unset, .unset, .unset] [(.int p4)])) _
    refine XS.bipush X0.here hx rfl (hb hby at_28) ?_
    show Steps p.tables e below (s₁.setTop (mkF m 30 #[.val (.int p1), .val (.int p2), .val (.int p3), .val (.int p4), .val (.int p5), .val (.int y1), .val (.int (p1 &&& (127 : Int32))), .val (.int (p2 &&& (127 : Int32))), .val (.int (p3 &&& (127 : Int32))), .unset, .unset, .unset, .unset, .unset, .unset] [(.int (127 : Int32)), (.int p4)])) _
    refine XS.iand X0.here hx rfl (hb hby at_30) rfl ?_
    show Steps p.tables e below (s₁.setTop (mkF m 31 #[.val (.int p1), .val (.int p2), .val (.int p3), .val (.int p4), .val (.int p5), .val (.int y1), .val (.int (p1 &&& (127 : Int32))), .val (.int (p2 &&& (127 : Int32))), .val (.int (p3 &&& (127 : Int32))), .unset, .unset, .unset, .unset, .unset, .unset] [(.int (p4 &&& (127 : Int32)))])) _
    refine XS.istore X0.here hx rfl (hb hby at_31) rfl (l' := #[.val (.int p1), .val (.int p2), .val (.int p3), .val (.int p4), .val (.int p5), .val (.int y1), .val (.int (p1 &&& (127 : Int32))), .val (.int (p2 &&& (127 : Int32))), .val (.int (p3 &&& (127 : Int32))), .val (.int (p4 &&& (127 : Int32))), .unset, .unset, .unset, .unset, .unset]) rfl ?_
    show Steps p.tables e below (s₁.setTop (mkF m 33 #[.val (.int p1), .val (.int p2), .val (.int p3), .val (.int p4), .val (.int p5), .val (.int y1), .val (.int (p1 &&& (127 : Int32))), .val (.int (p2 &&& (127 : Int32))), .val (.int (p3 &&& (127 : Int32))), .val (.int (p4 &&& (127 : Int32))), .unset, .unset, .unset, .unset, .unset] [])) _
    refine st2 _ ?_
    show Steps p.tables e below (T2.setTop (mkF m 36 #[.val (.int p1), .val (.int p2), .val (.int p3), .val (.int p4), .val (.int p5), .val (.int y1), .val (.int (p1 &&& (127 : Int32))), .val (.int (p2 &&& (127 : Int32))), .val (.int (p3 &&& (127 : Int32))), .val (.int (p4 &&& (127 : Int32))), .unset, .unset, .unset, .unset, .unset] [(.ref b2)])) _
    refine XS.dup X2.here hx rfl (hb hby at_36) rfl rfl ?_
    show Steps p.tables e below (T2.setTop (mkF m 37 #[.val (.int p1), .val (.int p2), .val (.int p3), .val (.int p4), .val (.int p5), .val (.int y1), .val (.int (p1 &&& (127 : Int32))), .val (.int (p2 &&& (127 : Int32))), .val (.int (p3 &&& (127 : Int32))), .val (.int (p4 &&& (127 : Int32))), .unset, .unset, .unset, .unset, .unset] [(.ref b2), (.ref b2)])) _
    refine st3.trans ?_
    show Steps p.tables e below (T3.setTop (mkF m 40 #[.val (.int p1), .val (.int p2), .val (.int p3), .val (.int p4), .val (.int p5), .val (.int y1), .val (.int (p1 &&& (127 : Int32))), .val (.int (p2 &&& (127 : Int32))), .val (.int (p3 &&& (127 : Int32))), .val (.int (p4 &&& (127 : Int32))), .unset, .unset, .unset, .unset, .unset] [(.ref b2)])) _
    refine XS.astore X3.here hx rfl (hb hby at_40) rfl rfl (l' := #[.val (.int p1), .val (.int p2), .val (.int p3), .val (.int p4), .val (.int p5), .val (.int y1), .val (.int (p1 &&& (127 : Int32))), .val (.int (p2 &&& (127 : Int32))), .val (.int (p3 &&& (127 : Int32))), .val (.int (p4 &&& (127 : Int32))), .val (.ref b2), .unset, .unset, .unset, .unset]) rfl ?_
    show Steps p.tables e below (T3.setTop (mkF m 42 #[.val (.int p1), .val (.int p2), .val (.int p3), .val (.int p4), .val (.int p5), .val (.int y1), .val (.int (p1 &&& (127 : Int32))), .val (.int (p2 &&& (127 : Int32))), .val (.int (p3 &&& (127 : Int32))), .val (.int (p4 &&& (127 : Int32))), .val (.ref b2), .unset, .unset, .unset, .unset] [])) _
    refine XS.lconst X3.here hx rfl (hb hby at_42) ?_
    show Steps p.tables e below (T3.setTop (mkF m 43 #[.val (.int p1), .val (.int p2), .val (.int p3), .val (.int p4), .val (.int p5), .val (.int y1), .val (.int (p1 &&& (127 : Int32))), .val (.int (p2 &&& (127 : Int32))), .val (.int (p3 &&& (127 : Int32))), .val (.int (p4 &&& (127 : Int32))), .val (.ref b2), .unset, .unset, .unset, .unset] [(.long (0 : Int64))])) _
    refine XS.lstore X3.here hx rfl (hb hby at_43) rfl (l' := #[.val (.int p1), .val (.int p2), .val (.int p3), .val (.int p4), .val (.int p5), .val (.int y1), .val (.int (p1 &&& (127 : Int32))), .val (.int (p2 &&& (127 : Int32))), .val (.int (p3 &&& (127 : Int32))), .val (.int (p4 &&& (127 : Int32))), .val (.ref b2), .val (.long (0 : Int64)), .second, .unset, .unset]) rfl ?_
    show Steps p.tables e below (T3.setTop (mkF m 45 #[.val (.int p1), .val (.int p2), .val (.int p3), .val (.int p4), .val (.int p5), .val (.int y1), .val (.int (p1 &&& (127 : Int32))), .val (.int (p2 &&& (127 : Int32))), .val (.int (p3 &&& (127 : Int32))), .val (.int (p4 &&& (127 : Int32))), .val (.ref b2), .val (.long (0 : Int64)), .second, .unset, .unset] [])) _
    refine XS.iconst X3.here hx rfl (hb hby at_45) ?_
    show Steps p.tables e below (T3.setTop (mkF m 46 #[.val (.int p1), .val (.int p2), .val (.int p3), .val (.int p4), .val (.int p5), .val (.int y1), .val (.int (p1 &&& (127 : Int32))), .val (.int (p2 &&& (127 : Int32))), .val (.int (p3 &&& (127 : Int32))), .val (.int (p4 &&& (127 : Int32))), .val (.ref b2), .val (.long (0 : Int64)), .second, .unset, .unset] [(.int (0 : Int32))])) _
    refine XS.istore X3.here hx rfl (hb hby at_46) rfl (l' := #[.val (.int p1), .val (.int p2), .val (.int p3), .val (.int p4), .val (.int p5), .val (.int y1), .val (.int (p1 &&& (127 : Int32))), .val (.int (p2 &&& (127 : Int32))), .val (.int (p3 &&& (127 : Int32))), .val (.int (p4 &&& (127 : Int32))), .val (.ref b2), .val (.long (0 : Int64)), .second, .val (.int (0 : Int32)), .unset]) rfl ?_
    show Steps p.tables e below (T3.setTop (mkF m 48 #[.val (.int p1), .val (.int p2), .val (.int p3), .val (.int p4), .val (.int p5), .val (.int y1), .val (.int (p1 &&& (127 : Int32))), .val (.int (p2 &&& (127 : Int32))), .val (.int (p3 &&& (127 : Int32))), .val (.int (p4 &&& (127 : Int32))), .val (.ref b2), .val (.long (0 : Int64)), .second, .val (.int (0 : Int32)), .unset] [])) _
    refine XS.iload X3.here hx rfl (hb hby at_48) rfl ?_
    show Steps p.tables e below (T3.setTop (mkF m 50 #[.val (.int p1), .val (.int p2), .val (.int p3), .val (.int p4), .val (.int p5), .val (.int y1), .val (.int (p1 &&& (127 : Int32))), .val (.int (p2 &&& (127 : Int32))), .val (.int (p3 &&& (127 : Int32))), .val (.int (p4 &&& (127 : Int32))), .val (.ref b2), .val (.long (0 : Int64)), .second, .val (.int (0 : Int32)), .unset] [(.int y1)])) _
    refine XS.iconst X3.here hx rfl (hb hby at_50) ?_
    exact k
  by_cases hc51_5 : y1 < (1 : Int32)
  · obtain ⟨hr1, hr2, hr3⟩ := own_top0 
    obtain ⟨cq6, kq6, q6a, q6b, q6c⟩ := isOf hZ rfl Ex2_v3
    obtain ⟨_, _, ⟨T6, L6, k6, n6⟩, -, X6, ⟨Lc6, hQ6, l6, y6, z6⟩, st6⟩ := X3.virtualBack hx (y := (⟨"nachbar/sim/Tally", "summary", "()Lnachbar/sim/Summary;"⟩ : MethodName)) (z := (⟨"nachbar/sim/Tally", "summary", "()Lnachbar/sim/Summary;"⟩ : MethodName)) hown (mvT hZ (hw _ (List.mem_of_getElem? (i := 13) rfl))) (mvT hZ (hw _ (List.mem_of_getElem? (i := 14) rfl))) (notFace_of_selects (args := #[]) (mvT hZ (hw _ (List.mem_of_getElem? (i := 16) rfl)))) (mvT hZ (hw _ (List.mem_of_getElem? (i := 16) rfl))) (mvT hZ (hw _ (List.mem_of_getElem? (i := 15) rfl))) (by decide) (backOf (W := 0) (rmu l Z a0 hw [] b2 c3 (16 : Int32) own_zero (0 : Int64) (0 : Int64) (0 : Int32) ((0 : Int32)).toNatClampNeg T3.heap n0 Z3 Ex2_v3 nf3_0_v3 nf3_1_v3 nf3_2_v3 nf3_3_v3 VT_v0 I0.2.2.1 hr1 hr2 (Nat.lt_of_lt_of_le hr3 I0.2.2.2.2)) hZ (hw _ (List.mem_of_getElem? (i := 17) rfl)) (hw _ (List.mem_of_getElem? (i := 3) rfl)) (by decide) (by decide)) q6a q6c (g := (mkF m 170 #[.val (.int p1), .val (.int p2), .val (.int p3), .val (.int p4), .val (.int p5), .val (.int y1), .val (.int (p1 &&& (127 : Int32))), .val (.int (p2 &&& (127 : Int32))), .val (.int (p3 &&& (127 : Int32))), .val (.int (p4 &&& (127 : Int32))), .val (.ref b2), .val (.long (0 : Int64)), .second, .val (.int (0 : Int32)), .unset] [(.ref b2)])) rfl (by rw [hml]; rfl) (Steps.refl _) (argsL := []) (rest := []) (lenOf pd_5 rfl) rfl (by show 2 * 0 + _ ≤ _; exact Nat.le_of_eq rfl) (hb hby at_170) (fun _ _ => ⟨rfl, rfl, (by decide : 2 + 1 ≤ _), (by decide : 20 + 4 ≤ _)⟩)
    dsimp only [Pt.U, Pt.locs, Pt.cells, Pt.slots] at X6 l6 y6 z6 st6 hQ6
    subst l6 y6 z6
    obtain ⟨b6, rfl, N6q, Kc6, sb6, nfE6_v6, nf6_0_v6, nf6_1_v6, nf6_2_v6, nf6_3_v6⟩ := hQ6
    have N6 := Fr.app N3 N6q
    have Ex2_v6 := Ex2_v3.keep Kc6
    have nf3_0_v6 := nf3_0_v3.keep Kc6 nin0
    have nf3_1_v6 := nf3_1_v3.keep Kc6 nin0
    have nf3_2_v6 := nf3_2_v3.keep Kc6 nin0
    have nf3_3_v6 := nf3_3_v3.keep Kc6 nin0
    have VT_v6 := VT_v0.keep Kc6 nin0
    have Z6 : n0 ≤ T6.heap.size := Nat.le_trans Z3 Kc6.1
    obtain ⟨cq7, kq7, q7a, q7b, q7c⟩ := isOf hZ rfl nfE6_v6
    obtain ⟨_, _, ⟨T7, L7, k7, n7⟩, -, X7, ⟨Lc7, hQ7, l7, y7, z7⟩, st7⟩ := X6.virtualBack hx (y := (⟨"nachbar/sim/Summary", "count", "()J"⟩ : MethodName)) (z := (⟨"nachbar/sim/Summary", "count", "()J"⟩ : MethodName)) hown (mvT hZ (hw _ (List.mem_of_getElem? (i := 49) rfl))) (mvT hZ (hw _ (List.mem_of_getElem? (i := 50) rfl))) (notFace_of_selects (args := #[]) (mvT hZ (hw _ (List.mem_of_getElem? (i := 52) rfl)))) (mvT hZ (hw _ (List.mem_of_getElem? (i := 52) rfl))) (mvT hZ (hw _ (List.mem_of_getElem? (i := 51) rfl))) (by decide) (backOf (W := 0) (rg_count l Z a0 hw [] b6 (0 : Int64) T6.heap n0 Z6 nf6_0_v6) hZ (hw _ (List.mem_of_getElem? (i := 53) rfl)) (hw _ (List.mem_of_getElem? (i := 22) rfl)) (by decide) (by decide)) q7a q7c (g := (mkF m 177 #[.val (.int p1), .val (.int p2), .val (.int p3), .val (.int p4), .val (.int p5), .val (.int y1), .val (.int (p1 &&& (127 : Int32))), .val (.int (p2 &&& (127 : Int32))), .val (.int (p3 &&& (127 : Int32))), .val (.int (p4 &&& (127 : Int32))), .val (.ref b2), .val (.long (0 : Int64)), .second, .val (.int (0 : Int32)), .val (.ref b6)] [(.ref b6)])) rfl (by rw [hml]; rfl) (Steps.refl _) (argsL := []) (rest := []) (lenOf pd_6 rfl) rfl (by show 2 * 0 + _ ≤ _; exact Nat.le_of_eq rfl) (hb hby at_177) (fun _ _ => ⟨rfl, rfl, (by decide : 3 + 0 ≤ _), (by decide : 24 + 0 ≤ _)⟩)
    dsimp only [Pt.U, Pt.locs, Pt.cells, Pt.slots] at X7 l7 y7 z7 st7 hQ7
    subst l7 y7 z7
    obtain ⟨rfl, N7q, e7⟩ := hQ7
    have N7 := Fr.app N6 N7q
    obtain ⟨cq8, kq8, q8a, q8b, q8c⟩ := isOf hZ e7 nfE6_v6
    obtain ⟨_, _, ⟨T8, L8, k8, n8⟩, -, X8, ⟨Lc8, hQ8, l8, y8, z8⟩, st8⟩ := X7.virtualBack hx (y := (⟨"nachbar/sim/Summary", "sum", "()J"⟩ : MethodName)) (z := (⟨"nachbar/sim/Summary", "sum", "()J"⟩ : MethodName)) hown (mvT hZ (hw _ (List.mem_of_getElem? (i := 54) rfl))) (mvT hZ (hw _ (List.mem_of_getElem? (i := 55) rfl))) (notFace_of_selects (args := #[]) (mvT hZ (hw _ (List.mem_of_getElem? (i := 57) rfl)))) (mvT hZ (hw _ (List.mem_of_getElem? (i := 57) rfl))) (mvT hZ (hw _ (List.mem_of_getElem? (i := 56) rfl))) (by decide) (backOf (W := 0) (rg_sum l Z a0 hw [] b6 (0 : Int64) T6.heap n0 Z6 nf6_1_v6) hZ (hw _ (List.mem_of_getElem? (i := 58) rfl)) (hw _ (List.mem_of_getElem? (i := 22) rfl)) (by decide) (by decide)) q8a q8c (g := (mkF m 189 #[.val (.int p1), .val (.int p2), .val (.int p3), .val (.int p4), .val (.int p5), .val (.int y1), .val (.int (p1 &&& (127 : Int32))), .val (.int (p2 &&& (127 : Int32))), .val (.int (p3 &&& (127 : Int32))), .val (.int (p4 &&& (127 : Int32))), .val (.ref b2), .val (.long (0 : Int64)), .second, .val (.int (0 : Int32)), .val (.ref b6)] [(.ref b6)])) rfl (by rw [hml]; rfl) (Steps.refl _) (argsL := []) (rest := []) (lenOf pd_6 rfl) rfl (by show 2 * 0 + _ ≤ _; exact Nat.le_of_eq rfl) (hb hby at_189) (fun _ _ => ⟨rfl, e7, (by decide : 3 + 0 ≤ _), (by decide : 24 + 0 ≤ _)⟩)
    dsimp only [Pt.U, Pt.locs, Pt.cells, Pt.slots] at X8 l8 y8 z8 st8 hQ8
    subst l8 y8 z8
    obtain ⟨rfl, N8q, e8⟩ := hQ8
    have N8 := Fr.app N7 N8q
    obtain ⟨cq9, kq9, q9a, q9b, q9c⟩ := isOf hZ e8 nfE6_v6
    obtain ⟨_, _, ⟨T9, L9, k9, n9⟩, -, X9, ⟨Lc9, hQ9, l9, y9, z9⟩, st9⟩ := X8.virtualBack hx (y := (⟨"nachbar/sim/Summary", "max", "()J"⟩ : MethodName)) (z := (⟨"nachbar/sim/Summary", "max", "()J"⟩ : MethodName)) hown (mvT hZ (hw _ (List.mem_of_getElem? (i := 59) rfl))) (mvT hZ (hw _ (List.mem_of_getElem? (i := 60) rfl))) (notFace_of_selects (args := #[]) (mvT hZ (hw _ (List.mem_of_getElem? (i := 62) rfl)))) (mvT hZ (hw _ (List.mem_of_getElem? (i := 62) rfl))) (mvT hZ (hw _ (List.mem_of_getElem? (i := 61) rfl))) (by decide) (backOf (W := 0) (rg_max l Z a0 hw [] b6 ((0 : Int32).toInt64) T6.heap n0 Z6 nf6_3_v6) hZ (hw _ (List.mem_of_getElem? (i := 63) rfl)) (hw _ (List.mem_of_getElem? (i := 22) rfl)) (by decide) (by decide)) q9a q9c (g := (mkF m 200 #[.val (.int p1), .val (.int p2), .val (.int p3), .val (.int p4), .val (.int p5), .val (.int y1), .val (.int (p1 &&& (127 : Int32))), .val (.int (p2 &&& (127 : Int32))), .val (.int (p3 &&& (127 : Int32))), .val (.int (p4 &&& (127 : Int32))), .val (.ref b2), .val (.long (0 : Int64)), .second, .val (.int (0 : Int32)), .val (.ref b6)] [(.ref b6)])) rfl (by rw [hml]; rfl) (Steps.refl _) (argsL := []) (rest := []) (lenOf pd_6 rfl) rfl (by show 2 * 0 + _ ≤ _; exact Nat.le_of_eq rfl) (hb hby at_200) (fun _ _ => ⟨rfl, e8, (by decide : 3 + 0 ≤ _), (by decide : 24 + 0 ≤ _)⟩)
    dsimp only [Pt.U, Pt.locs, Pt.cells, Pt.slots] at X9 l9 y9 z9 st9 hQ9
    subst l9 y9 z9
    obtain ⟨rfl, N9q, e9⟩ := hQ9
    have N9 := Fr.app N8 N9q
    obtain ⟨cq10, kq10, q10a, q10b, q10c⟩ := isOf hZ e9 nfE6_v6
    obtain ⟨_, _, ⟨T10, L10, k10, n10⟩, -, X10, ⟨Lc10, hQ10, l10, y10, z10⟩, st10⟩ := X9.virtualBack hx (y := (⟨"nachbar/sim/Summary", "p99", "()J"⟩ : MethodName)) (z := (⟨"nachbar/sim/Summary", "p99", "()J"⟩ : MethodName)) hown (mvT hZ (hw _ (List.mem_of_getElem? (i := 64) rfl))) (mvT hZ (hw _ (List.mem_of_getElem? (i := 65) rfl))) (notFace_of_selects (args := #[]) (mvT hZ (hw _ (List.mem_of_getElem? (i := 67) rfl)))) (mvT hZ (hw _ (List.mem_of_getElem? (i := 67) rfl))) (mvT hZ (hw _ (List.mem_of_getElem? (i := 66) rfl))) (by decide) (backOf (W := 0) (rg_p99 l Z a0 hw [] b6 ((Int32.ofNat ((0 : Int32)).toNatClampNeg).toInt64) T6.heap n0 Z6 nf6_2_v6) hZ (hw _ (List.mem_of_getElem? (i := 68) rfl)) (hw _ (List.mem_of_getElem? (i := 22) rfl)) (by decide) (by decide)) q10a q10c (g := (mkF m 212 #[.val (.int p1), .val (.int p2), .val (.int p3), .val (.int p4), .val (.int p5), .val (.int y1), .val (.int (p1 &&& (127 : Int32))), .val (.int (p2 &&& (127 : Int32))), .val (.int (p3 &&& (127 : Int32))), .val (.int (p4 &&& (127 : Int32))), .val (.ref b2), .val (.long (0 : Int64)), .second, .val (.int (0 : Int32)), .val (.ref b6)] [(.ref b6)])) rfl (by rw [hml]; rfl) (Steps.refl _) (argsL := []) (rest := []) (lenOf pd_6 rfl) rfl (by show 2 * 0 + _ ≤ _; exact Nat.le_of_eq rfl) (hb hby at_212) (fun _ _ => ⟨rfl, e9, (by decide : 3 + 0 ≤ _), (by decide : 24 + 0 ≤ _)⟩)
    dsimp only [Pt.U, Pt.locs, Pt.cells, Pt.slots] at X10 l10 y10 z10 st10 hQ10
    subst l10 y10 z10
    obtain ⟨rfl, N10q, e10⟩ := hQ10
    have N10 := Fr.app N9 N10q
    obtain ⟨fs, hr, hrun, hended, hW, hsame⟩ := X10.leave (v := some (.int (1 : Int32))) (fun h => by rw [Bd.returns] at h; cases h)
    refine ⟨_, _, pre4 _ ?_, hrun, hended, _, _, rfl, ?_, ⟨_, rfl⟩, hW, hsame.mono (by decide) (by decide)⟩
    · show Steps p.tables e below (T3.setTop (mkF m 51 #[.val (.int p1), .val (.int p2), .val (.int p3), .val (.int p4), .val (.int p5), .val (.int y1), .val (.int (p1 &&& (127 : Int32))), .val (.int (p2 &&& (127 : Int32))), .val (.int (p3 &&& (127 : Int32))), .val (.int (p4 &&& (127 : Int32))), .val (.ref b2), .val (.long (0 : Int64)), .second, .val (.int (0 : Int32)), .unset] [(.int (1 : Int32)), (.int y1)])) _
      refine XS.icmpYes X3.here hx rfl (pc0 := 51) (pc' := 78) rfl (hb hby at_51) rfl (tlt hc51_5).1 (by decide) (by decide) ?_
      show Steps p.tables e below (T3.setTop (mkF m 78 #[.val (.int p1), .val (.int p2), .val (.int p3), .val (.int p4), .val (.int p5), .val (.int y1), .val (.int (p1 &&& (127 : Int32))), .val (.int (p2 &&& (127 : Int32))), .val (.int (p3 &&& (127 : Int32))), .val (.int (p4 &&& (127 : Int32))), .val (.ref b2), .val (.long (0 : Int64)), .second, .val (.int (0 : Int32)), .unset] [])) _
      refine XS.iload X3.here hx rfl (hb hby at_78) rfl ?_
      show Steps p.tables e below (T3.setTop (mkF m 80 #[.val (.int p1), .val (.int p2), .val (.int p3), .val (.int p4), .val (.int p5), .val (.int y1), .val (.int (p1 &&& (127 : Int32))), .val (.int (p2 &&& (127 : Int32))), .val (.int (p3 &&& (127 : Int32))), .val (.int (p4 &&& (127 : Int32))), .val (.ref b2), .val (.long (0 : Int64)), .second, .val (.int (0 : Int32)), .unset] [(.int y1)])) _
      refine XS.iconst X3.here hx rfl (hb hby at_80) ?_
      show Steps p.tables e below (T3.setTop (mkF m 81 #[.val (.int p1), .val (.int p2), .val (.int p3), .val (.int p4), .val (.int p5), .val (.int y1), .val (.int (p1 &&& (127 : Int32))), .val (.int (p2 &&& (127 : Int32))), .val (.int (p3 &&& (127 : Int32))), .val (.int (p4 &&& (127 : Int32))), .val (.ref b2), .val (.long (0 : Int64)), .second, .val (.int (0 : Int32)), .unset] [(.int (2 : Int32)), (.int y1)])) _
      refine XS.icmpYes X3.here hx rfl (pc0 := 81) (pc' := 108) rfl (hb hby at_81) rfl (tlt (Int32.lt_trans hc51_5 (by decide : (1 : Int32) < (2 : Int32)))).1 (by decide) (by decide) ?_
      show Steps p.tables e below (T3.setTop (mkF m 108 #[.val (.int p1), .val (.int p2), .val (.int p3), .val (.int p4), .val (.int p5), .val (.int y1), .val (.int (p1 &&& (127 : Int32))), .val (.int (p2 &&& (127 : Int32))), .val (.int (p3 &&& (127 : Int32))), .val (.int (p4 &&& (127 : Int32))), .val (.ref b2), .val (.long (0 : Int64)), .second, .val (.int (0 : Int32)), .unset] [])) _
      refine XS.iload X3.here hx rfl (hb hby at_108) rfl ?_
      show Steps p.tables e below (T3.setTop (mkF m 110 #[.val (.int p1), .val (.int p2), .val (.int p3), .val (.int p4), .val (.int p5), .val (.int y1), .val (.int (p1 &&& (127 : Int32))), .val (.int (p2 &&& (127 : Int32))), .val (.int (p3 &&& (127 : Int32))), .val (.int (p4 &&& (127 : Int32))), .val (.ref b2), .val (.long (0 : Int64)), .second, .val (.int (0 : Int32)), .unset] [(.int y1)])) _
      refine XS.iconst X3.here hx rfl (hb hby at_110) ?_
      show Steps p.tables e below (T3.setTop (mkF m 111 #[.val (.int p1), .val (.int p2), .val (.int p3), .val (.int p4), .val (.int p5), .val (.int y1), .val (.int (p1 &&& (127 : Int32))), .val (.int (p2 &&& (127 : Int32))), .val (.int (p3 &&& (127 : Int32))), .val (.int (p4 &&& (127 : Int32))), .val (.ref b2), .val (.long (0 : Int64)), .second, .val (.int (0 : Int32)), .unset] [(.int (3 : Int32)), (.int y1)])) _
      refine XS.icmpYes X3.here hx rfl (pc0 := 111) (pc' := 138) rfl (hb hby at_111) rfl (tlt (Int32.lt_trans hc51_5 (by decide : (1 : Int32) < (3 : Int32)))).1 (by decide) (by decide) ?_
      show Steps p.tables e below (T3.setTop (mkF m 138 #[.val (.int p1), .val (.int p2), .val (.int p3), .val (.int p4), .val (.int p5), .val (.int y1), .val (.int (p1 &&& (127 : Int32))), .val (.int (p2 &&& (127 : Int32))), .val (.int (p3 &&& (127 : Int32))), .val (.int (p4 &&& (127 : Int32))), .val (.ref b2), .val (.long (0 : Int64)), .second, .val (.int (0 : Int32)), .unset] [])) _
      refine XS.iload X3.here hx rfl (hb hby at_138) rfl ?_
      show Steps p.tables e below (T3.setTop (mkF m 140 #[.val (.int p1), .val (.int p2), .val (.int p3), .val (.int p4), .val (.int p5), .val (.int y1), .val (.int (p1 &&& (127 : Int32))), .val (.int (p2 &&& (127 : Int32))), .val (.int (p3 &&& (127 : Int32))), .val (.int (p4 &&& (127 : Int32))), .val (.ref b2), .val (.long (0 : Int64)), .second, .val (.int (0 : Int32)), .unset] [(.int y1)])) _
      refine XS.iconst X3.here hx rfl (hb hby at_140) ?_
      show Steps p.tables e below (T3.setTop (mkF m 141 #[.val (.int p1), .val (.int p2), .val (.int p3), .val (.int p4), .val (.int p5), .val (.int y1), .val (.int (p1 &&& (127 : Int32))), .val (.int (p2 &&& (127 : Int32))), .val (.int (p3 &&& (127 : Int32))), .val (.int (p4 &&& (127 : Int32))), .val (.ref b2), .val (.long (0 : Int64)), .second, .val (.int (0 : Int32)), .unset] [(.int (4 : Int32)), (.int y1)])) _
      refine XS.icmpYes X3.here hx rfl (pc0 := 141) (pc' := 168) rfl (hb hby at_141) rfl (tlt (Int32.lt_trans hc51_5 (by decide : (1 : Int32) < (4 : Int32)))).1 (by decide) (by decide) ?_
      show Steps p.tables e below (T3.setTop (mkF m 168 #[.val (.int p1), .val (.int p2), .val (.int p3), .val (.int p4), .val (.int p5), .val (.int y1), .val (.int (p1 &&& (127 : Int32))), .val (.int (p2 &&& (127 : Int32))), .val (.int (p3 &&& (127 : Int32))), .val (.int (p4 &&& (127 : Int32))), .val (.ref b2), .val (.long (0 : Int64)), .second, .val (.int (0 : Int32)), .unset] [])) _
      refine XS.aload X3.here hx rfl (hb hby at_168) rfl rfl ?_
      show Steps p.tables e below (T3.setTop (mkF m 170 #[.val (.int p1), .val (.int p2), .val (.int p3), .val (.int p4), .val (.int p5), .val (.int y1), .val (.int (p1 &&& (127 : Int32))), .val (.int (p2 &&& (127 : Int32))), .val (.int (p3 &&& (127 : Int32))), .val (.int (p4 &&& (127 : Int32))), .val (.ref b2), .val (.long (0 : Int64)), .second, .val (.int (0 : Int32)), .unset] [(.ref b2)])) _
      refine st6.trans ?_
      show Steps p.tables e below (T6.setTop (mkF m 173 #[.val (.int p1), .val (.int p2), .val (.int p3), .val (.int p4), .val (.int p5), .val (.int y1), .val (.int (p1 &&& (127 : Int32))), .val (.int (p2 &&& (127 : Int32))), .val (.int (p3 &&& (127 : Int32))), .val (.int (p4 &&& (127 : Int32))), .val (.ref b2), .val (.long (0 : Int64)), .second, .val (.int (0 : Int32)), .unset] [(.ref b6)])) _
      refine XS.astore X6.here hx rfl (hb hby at_173) rfl rfl (l' := #[.val (.int p1), .val (.int p2), .val (.int p3), .val (.int p4), .val (.int p5), .val (.int y1), .val (.int (p1 &&& (127 : Int32))), .val (.int (p2 &&& (127 : Int32))), .val (.int (p3 &&& (127 : Int32))), .val (.int (p4 &&& (127 : Int32))), .val (.ref b2), .val (.long (0 : Int64)), .second, .val (.int (0 : Int32)), .val (.ref b6)]) rfl ?_
      show Steps p.tables e below (T6.setTop (mkF m 175 #[.val (.int p1), .val (.int p2), .val (.int p3), .val (.int p4), .val (.int p5), .val (.int y1), .val (.int (p1 &&& (127 : Int32))), .val (.int (p2 &&& (127 : Int32))), .val (.int (p3 &&& (127 : Int32))), .val (.int (p4 &&& (127 : Int32))), .val (.ref b2), .val (.long (0 : Int64)), .second, .val (.int (0 : Int32)), .val (.ref b6)] [])) _
      refine XS.aload X6.here hx rfl (hb hby at_175) rfl rfl ?_
      show Steps p.tables e below (T6.setTop (mkF m 177 #[.val (.int p1), .val (.int p2), .val (.int p3), .val (.int p4), .val (.int p5), .val (.int y1), .val (.int (p1 &&& (127 : Int32))), .val (.int (p2 &&& (127 : Int32))), .val (.int (p3 &&& (127 : Int32))), .val (.int (p4 &&& (127 : Int32))), .val (.ref b2), .val (.long (0 : Int64)), .second, .val (.int (0 : Int32)), .val (.ref b6)] [(.ref b6)])) _
      refine st7.trans ?_
      show Steps p.tables e below (T7.setTop (mkF m 180 #[.val (.int p1), .val (.int p2), .val (.int p3), .val (.int p4), .val (.int p5), .val (.int y1), .val (.int (p1 &&& (127 : Int32))), .val (.int (p2 &&& (127 : Int32))), .val (.int (p3 &&& (127 : Int32))), .val (.int (p4 &&& (127 : Int32))), .val (.ref b2), .val (.long (0 : Int64)), .second, .val (.int (0 : Int32)), .val (.ref b6)] [(.long (0 : Int64))])) _
      refine XS.iload X7.here hx rfl (hb hby at_180) rfl ?_
      show Steps p.tables e below (T7.setTop (mkF m 182 #[.val (.int p1), .val (.int p2), .val (.int p3), .val (.int p4), .val (.int p5), .val (.int y1), .val (.int (p1 &&& (127 : Int32))), .val (.int (p2 &&& (127 : Int32))), .val (.int (p3 &&& (127 : Int32))), .val (.int (p4 &&& (127 : Int32))), .val (.ref b2), .val (.long (0 : Int64)), .second, .val (.int (0 : Int32)), .val (.ref b6)] [(.int y1), (.long (0 : Int64))])) _
      refine XS.i2l X7.here hx rfl (hb hby at_182) rfl ?_
      show Steps p.tables e below (T7.setTop (mkF m 183 #[.val (.int p1), .val (.int p2), .val (.int p3), .val (.int p4), .val (.int p5), .val (.int y1), .val (.int (p1 &&& (127 : Int32))), .val (.int (p2 &&& (127 : Int32))), .val (.int (p3 &&& (127 : Int32))), .val (.int (p4 &&& (127 : Int32))), .val (.ref b2), .val (.long (0 : Int64)), .second, .val (.int (0 : Int32)), .val (.ref b6)] [(.long (y1.toInt64)), (.long (0 : Int64))])) _
      refine XS.lcmp X7.here hx rfl (hb hby at_183) rfl ?_
      show Steps p.tables e below (T7.setTop (mkF m 184 #[.val (.int p1), .val (.int p2), .val (.int p3), .val (.int p4), .val (.int p5), .val (.int y1), .val (.int (p1 &&& (127 : Int32))), .val (.int (p2 &&& (127 : Int32))), .val (.int (p3 &&& (127 : Int32))), .val (.int (p4 &&& (127 : Int32))), .val (.ref b2), .val (.long (0 : Int64)), .second, .val (.int (0 : Int32)), .val (.ref b6)] [(.int (lcmpW (0 : Int64) (y1.toInt64)))])) _
      refine XS.ifNo X7.here hx rfl (hb hby at_184) rfl ((if0 _ _).trans (teq (own_cnt (0 : Int64) 0 (by decide) (by decide) hk0 (own_lt5 hc51_5))).2) ?_
      show Steps p.tables e below (T7.setTop (mkF m 187 #[.val (.int p1), .val (.int p2), .val (.int p3), .val (.int p4), .val (.int p5), .val (.int y1), .val (.int (p1 &&& (127 : Int32))), .val (.int (p2 &&& (127 : Int32))), .val (.int (p3 &&& (127 : Int32))), .val (.int (p4 &&& (127 : Int32))), .val (.ref b2), .val (.long (0 : Int64)), .second, .val (.int (0 : Int32)), .val (.ref b6)] [])) _
      refine XS.aload X7.here hx rfl (hb hby at_187) rfl rfl ?_
      show Steps p.tables e below (T7.setTop (mkF m 189 #[.val (.int p1), .val (.int p2), .val (.int p3), .val (.int p4), .val (.int p5), .val (.int y1), .val (.int (p1 &&& (127 : Int32))), .val (.int (p2 &&& (127 : Int32))), .val (.int (p3 &&& (127 : Int32))), .val (.int (p4 &&& (127 : Int32))), .val (.ref b2), .val (.long (0 : Int64)), .second, .val (.int (0 : Int32)), .val (.ref b6)] [(.ref b6)])) _
      refine st8.trans ?_
      show Steps p.tables e below (T8.setTop (mkF m 192 #[.val (.int p1), .val (.int p2), .val (.int p3), .val (.int p4), .val (.int p5), .val (.int y1), .val (.int (p1 &&& (127 : Int32))), .val (.int (p2 &&& (127 : Int32))), .val (.int (p3 &&& (127 : Int32))), .val (.int (p4 &&& (127 : Int32))), .val (.ref b2), .val (.long (0 : Int64)), .second, .val (.int (0 : Int32)), .val (.ref b6)] [(.long (0 : Int64))])) _
      refine XS.lload X8.here hx rfl (hb hby at_192) rfl ?_
      show Steps p.tables e below (T8.setTop (mkF m 194 #[.val (.int p1), .val (.int p2), .val (.int p3), .val (.int p4), .val (.int p5), .val (.int y1), .val (.int (p1 &&& (127 : Int32))), .val (.int (p2 &&& (127 : Int32))), .val (.int (p3 &&& (127 : Int32))), .val (.int (p4 &&& (127 : Int32))), .val (.ref b2), .val (.long (0 : Int64)), .second, .val (.int (0 : Int32)), .val (.ref b6)] [(.long (0 : Int64)), (.long (0 : Int64))])) _
      refine XS.lcmp X8.here hx rfl (hb hby at_194) rfl ?_
      show Steps p.tables e below (T8.setTop (mkF m 195 #[.val (.int p1), .val (.int p2), .val (.int p3), .val (.int p4), .val (.int p5), .val (.int y1), .val (.int (p1 &&& (127 : Int32))), .val (.int (p2 &&& (127 : Int32))), .val (.int (p3 &&& (127 : Int32))), .val (.int (p4 &&& (127 : Int32))), .val (.ref b2), .val (.long (0 : Int64)), .second, .val (.int (0 : Int32)), .val (.ref b6)] [(.int (lcmpW (0 : Int64) (0 : Int64)))])) _
      refine XS.ifNo X8.here hx rfl (hb hby at_195) rfl ((if0 _ _).trans (teq (((lw_eq _ _).mpr rfl) : ((lcmpW (0 : Int64) (0 : Int64)) = (0 : Int32)))).2) ?_
      show Steps p.tables e below (T8.setTop (mkF m 198 #[.val (.int p1), .val (.int p2), .val (.int p3), .val (.int p4), .val (.int p5), .val (.int y1), .val (.int (p1 &&& (127 : Int32))), .val (.int (p2 &&& (127 : Int32))), .val (.int (p3 &&& (127 : Int32))), .val (.int (p4 &&& (127 : Int32))), .val (.ref b2), .val (.long (0 : Int64)), .second, .val (.int (0 : Int32)), .val (.ref b6)] [])) _
      refine XS.aload X8.here hx rfl (hb hby at_198) rfl rfl ?_
      show Steps p.tables e below (T8.setTop (mkF m 200 #[.val (.int p1), .val (.int p2), .val (.int p3), .val (.int p4), .val (.int p5), .val (.int y1), .val (.int (p1 &&& (127 : Int32))), .val (.int (p2 &&& (127 : Int32))), .val (.int (p3 &&& (127 : Int32))), .val (.int (p4 &&& (127 : Int32))), .val (.ref b2), .val (.long (0 : Int64)), .second, .val (.int (0 : Int32)), .val (.ref b6)] [(.ref b6)])) _
      refine st9.trans ?_
      show Steps p.tables e below (T9.setTop (mkF m 203 #[.val (.int p1), .val (.int p2), .val (.int p3), .val (.int p4), .val (.int p5), .val (.int y1), .val (.int (p1 &&& (127 : Int32))), .val (.int (p2 &&& (127 : Int32))), .val (.int (p3 &&& (127 : Int32))), .val (.int (p4 &&& (127 : Int32))), .val (.ref b2), .val (.long (0 : Int64)), .second, .val (.int (0 : Int32)), .val (.ref b6)] [(.long ((0 : Int32).toInt64))])) _
      refine XS.iload X9.here hx rfl (hb hby at_203) rfl ?_
      show Steps p.tables e below (T9.setTop (mkF m 205 #[.val (.int p1), .val (.int p2), .val (.int p3), .val (.int p4), .val (.int p5), .val (.int y1), .val (.int (p1 &&& (127 : Int32))), .val (.int (p2 &&& (127 : Int32))), .val (.int (p3 &&& (127 : Int32))), .val (.int (p4 &&& (127 : Int32))), .val (.ref b2), .val (.long (0 : Int64)), .second, .val (.int (0 : Int32)), .val (.ref b6)] [(.int (0 : Int32)), (.long ((0 : Int32).toInt64))])) _
      refine XS.i2l X9.here hx rfl (hb hby at_205) rfl ?_
      show Steps p.tables e below (T9.setTop (mkF m 206 #[.val (.int p1), .val (.int p2), .val (.int p3), .val (.int p4), .val (.int p5), .val (.int y1), .val (.int (p1 &&& (127 : Int32))), .val (.int (p2 &&& (127 : Int32))), .val (.int (p3 &&& (127 : Int32))), .val (.int (p4 &&& (127 : Int32))), .val (.ref b2), .val (.long (0 : Int64)), .second, .val (.int (0 : Int32)), .val (.ref b6)] [(.long ((0 : Int32).toInt64)), (.long ((0 : Int32).toInt64))])) _
      refine XS.lcmp X9.here hx rfl (hb hby at_206) rfl ?_
      show Steps p.tables e below (T9.setTop (mkF m 207 #[.val (.int p1), .val (.int p2), .val (.int p3), .val (.int p4), .val (.int p5), .val (.int y1), .val (.int (p1 &&& (127 : Int32))), .val (.int (p2 &&& (127 : Int32))), .val (.int (p3 &&& (127 : Int32))), .val (.int (p4 &&& (127 : Int32))), .val (.ref b2), .val (.long (0 : Int64)), .second, .val (.int (0 : Int32)), .val (.ref b6)] [(.int (lcmpW ((0 : Int32).toInt64) ((0 : Int32).toInt64)))])) _
      refine XS.ifNo X9.here hx rfl (hb hby at_207) rfl ((if0 _ _).trans (teq (((lw_eq _ _).mpr rfl) : ((lcmpW ((0 : Int32).toInt64) ((0 : Int32).toInt64)) = (0 : Int32)))).2) ?_
      show Steps p.tables e below (T9.setTop (mkF m 210 #[.val (.int p1), .val (.int p2), .val (.int p3), .val (.int p4), .val (.int p5), .val (.int y1), .val (.int (p1 &&& (127 : Int32))), .val (.int (p2 &&& (127 : Int32))), .val (.int (p3 &&& (127 : Int32))), .val (.int (p4 &&& (127 : Int32))), .val (.ref b2), .val (.long (0 : Int64)), .second, .val (.int (0 : Int32)), .val (.ref b6)] [])) _
      refine XS.aload X9.here hx rfl (hb hby at_210) rfl rfl ?_
      show Steps p.tables e below (T9.setTop (mkF m 212 #[.val (.int p1), .val (.int p2), .val (.int p3), .val (.int p4), .val (.int p5), .val (.int y1), .val (.int (p1 &&& (127 : Int32))), .val (.int (p2 &&& (127 : Int32))), .val (.int (p3 &&& (127 : Int32))), .val (.int (p4 &&& (127 : Int32))), .val (.ref b2), .val (.long (0 : Int64)), .second, .val (.int (0 : Int32)), .val (.ref b6)] [(.ref b6)])) _
      refine st10.trans ?_
      show Steps p.tables e below (T10.setTop (mkF m 215 #[.val (.int p1), .val (.int p2), .val (.int p3), .val (.int p4), .val (.int p5), .val (.int y1), .val (.int (p1 &&& (127 : Int32))), .val (.int (p2 &&& (127 : Int32))), .val (.int (p3 &&& (127 : Int32))), .val (.int (p4 &&& (127 : Int32))), .val (.ref b2), .val (.long (0 : Int64)), .second, .val (.int (0 : Int32)), .val (.ref b6)] [(.long ((Int32.ofNat ((0 : Int32)).toNatClampNeg).toInt64))])) _
      refine XS.iload X10.here hx rfl (hb hby at_215) rfl ?_
      show Steps p.tables e below (T10.setTop (mkF m 217 #[.val (.int p1), .val (.int p2), .val (.int p3), .val (.int p4), .val (.int p5), .val (.int y1), .val (.int (p1 &&& (127 : Int32))), .val (.int (p2 &&& (127 : Int32))), .val (.int (p3 &&& (127 : Int32))), .val (.int (p4 &&& (127 : Int32))), .val (.ref b2), .val (.long (0 : Int64)), .second, .val (.int (0 : Int32)), .val (.ref b6)] [(.int (0 : Int32)), (.long ((Int32.ofNat ((0 : Int32)).toNatClampNeg).toInt64))])) _
      refine XS.i2l X10.here hx rfl (hb hby at_217) rfl ?_
      show Steps p.tables e below (T10.setTop (mkF m 218 #[.val (.int p1), .val (.int p2), .val (.int p3), .val (.int p4), .val (.int p5), .val (.int y1), .val (.int (p1 &&& (127 : Int32))), .val (.int (p2 &&& (127 : Int32))), .val (.int (p3 &&& (127 : Int32))), .val (.int (p4 &&& (127 : Int32))), .val (.ref b2), .val (.long (0 : Int64)), .second, .val (.int (0 : Int32)), .val (.ref b6)] [(.long ((0 : Int32).toInt64)), (.long ((Int32.ofNat ((0 : Int32)).toNatClampNeg).toInt64))])) _
      refine XS.lcmp X10.here hx rfl (hb hby at_218) rfl ?_
      show Steps p.tables e below (T10.setTop (mkF m 219 #[.val (.int p1), .val (.int p2), .val (.int p3), .val (.int p4), .val (.int p5), .val (.int y1), .val (.int (p1 &&& (127 : Int32))), .val (.int (p2 &&& (127 : Int32))), .val (.int (p3 &&& (127 : Int32))), .val (.int (p4 &&& (127 : Int32))), .val (.ref b2), .val (.long (0 : Int64)), .second, .val (.int (0 : Int32)), .val (.ref b6)] [(.int (lcmpW ((Int32.ofNat ((0 : Int32)).toNatClampNeg).toInt64) ((0 : Int32).toInt64)))])) _
      refine XS.ifNo X10.here hx rfl (hb hby at_219) rfl ((if0 _ _).trans (teq (((lw_eq _ _).mpr (own_back (by decide))) : ((lcmpW ((Int32.ofNat ((0 : Int32)).toNatClampNeg).toInt64) ((0 : Int32).toInt64)) = (0 : Int32)))).2) ?_
      show Steps p.tables e below (T10.setTop (mkF m 222 #[.val (.int p1), .val (.int p2), .val (.int p3), .val (.int p4), .val (.int p5), .val (.int y1), .val (.int (p1 &&& (127 : Int32))), .val (.int (p2 &&& (127 : Int32))), .val (.int (p3 &&& (127 : Int32))), .val (.int (p4 &&& (127 : Int32))), .val (.ref b2), .val (.long (0 : Int64)), .second, .val (.int (0 : Int32)), .val (.ref b6)] [])) _
      refine XS.iconst X10.here hx rfl (hb hby at_222) ?_
      show Steps p.tables e below (T10.setTop (mkF m 223 #[.val (.int p1), .val (.int p2), .val (.int p3), .val (.int p4), .val (.int p5), .val (.int y1), .val (.int (p1 &&& (127 : Int32))), .val (.int (p2 &&& (127 : Int32))), .val (.int (p3 &&& (127 : Int32))), .val (.int (p4 &&& (127 : Int32))), .val (.ref b2), .val (.long (0 : Int64)), .second, .val (.int (0 : Int32)), .val (.ref b6)] [(.int (1 : Int32))])) _
      refine XS.goto X10.here hx rfl (pc0 := 223) (pc' := 227) rfl (hb hby at_223) (by decide) (by decide) ?_
      show Steps p.tables e below (T10.setTop (mkF m 227 #[.val (.int p1), .val (.int p2), .val (.int p3), .val (.int p4), .val (.int p5), .val (.int y1), .val (.int (p1 &&& (127 : Int32))), .val (.int (p2 &&& (127 : Int32))), .val (.int (p3 &&& (127 : Int32))), .val (.int (p4 &&& (127 : Int32))), .val (.ref b2), .val (.long (0 : Int64)), .second, .val (.int (0 : Int32)), .val (.ref b6)] [(.int (1 : Int32))])) _
      exact retN X10 hx (t := .boolean) Bd.returns (by simp) (hb hby at_227) hr
    · show Q_rm0 Z p1 p2 p3 p4 p5 h0 n0 _ T10.heap _
      rw [e10]
      exact ⟨rfl, N10⟩
  · obtain ⟨hx1a, hx1b⟩ := own_x p1
    obtain ⟨cap1, hcp1, hce1⟩ := own_cap (p1 &&& (127 : Int32)) (16 : Int32) I0.1 I0.2.1 hx1a hx1b
    have I1 := own_step I0 hx1a hx1b
    obtain ⟨cq11, kq11, q11a, q11b, q11c⟩ := isOf hZ rfl Ex2_v3
    obtain ⟨_, _, ⟨T11, L11, k11, n11⟩, -, X11, ⟨Lc11, hQ11, l11, y11, z11⟩, st11⟩ := X3.virtualBack hx (y := (⟨"nachbar/sim/Tally", "add", "(I)V"⟩ : MethodName)) (z := (⟨"nachbar/sim/Tally", "add", "(I)V"⟩ : MethodName)) hown (mvT hZ (hw _ (List.mem_of_getElem? (i := 69) rfl))) (mvT hZ (hw _ (List.mem_of_getElem? (i := 70) rfl))) (notFace_of_selects (args := #[]) (mvT hZ (hw _ (List.mem_of_getElem? (i := 72) rfl)))) (mvT hZ (hw _ (List.mem_of_getElem? (i := 72) rfl))) (mvT hZ (hw _ (List.mem_of_getElem? (i := 71) rfl))) (by decide) (backOf (W := 0) (rma l Z a0 hw [] b2 (p1 &&& (127 : Int32)) c3 (16 : Int32) own_zero (0 : Int64) (0 : Int64) (0 : Int32) cap1 T3.heap n0 Z3 Ex2_v3 nf3_0_v3 nf3_1_v3 nf3_2_v3 nf3_3_v3 VT_v0 g_b2 g_c3 ne_b2_c3 I0.2.2.1 I0.1 I0.2.1 hx1a hx1b I0.2.2.2.1 hcp1 (by omega)) hZ (hw _ (List.mem_of_getElem? (i := 73) rfl)) (hw _ (List.mem_of_getElem? (i := 3) rfl)) (Nat.le_of_ble_eq_true rfl) (Nat.le_of_ble_eq_true rfl)) q11a q11c (g := (mkF m 58 #[.val (.int p1), .val (.int p2), .val (.int p3), .val (.int p4), .val (.int p5), .val (.int y1), .val (.int (p1 &&& (127 : Int32))), .val (.int (p2 &&& (127 : Int32))), .val (.int (p3 &&& (127 : Int32))), .val (.int (p4 &&& (127 : Int32))), .val (.ref b2), .val (.long (0 : Int64)), .second, .val (.int (0 : Int32)), .unset] [(.int (p1 &&& (127 : Int32))), (.ref b2)])) rfl (by rw [hml]; rfl) (Steps.refl _) (argsL := [(.int (p1 &&& (127 : Int32)))]) (rest := []) (lenOf pd_7 rfl) rfl (by show 2 * 0 + _ ≤ _; exact Nat.le_of_eq rfl) (hb hby at_58) (fun _ _ => ⟨rfl, rfl, (Nat.le_of_ble_eq_true rfl), (show 20 + cap1 ≤ 896 from by omega)⟩)
    dsimp only [Pt.U, Pt.locs, Pt.cells, Pt.slots] at X11 l11 y11 z11 st11 hQ11
    subst l11 y11 z11
    obtain ⟨c11, rfl, N11q, Kc11, g_c11, ne_b2_c11, nf11_0_v11, nf11_1_v11, nf11_2_v11, nf11_3_v11, nf11_4_v11⟩ := hQ11
    have N11 := Fr.app N3 N11q
    have Ex2_v11 := Ex2_v3.keep Kc11
    have Z11 : n0 ≤ T11.heap.size := Nat.le_trans Z3 Kc11.1
    obtain ⟨_, _, ⟨T12, L12, k12, n12⟩, -, X12, ⟨Lc12, hQ12, l12, y12, z12⟩, st12⟩ := Jvm.LawKit.callS X11 hx (y := (⟨"java/lang/Math", "max", "(II)I"⟩ : MethodName)) hown (mvT hZ (hw _ (List.mem_of_getElem? (i := 78) rfl))) (mvT hZ (hw _ (List.mem_of_getElem? (i := 75) rfl))) (mvT hZ (hw _ (List.mem_of_getElem? (i := 76) rfl))) (mvT hZ (hw _ (List.mem_of_getElem? (i := 77) rfl))) (by decide) (backOf (W := 0) (rmx l Z a0 hw [] (0 : Int32) (p1 &&& (127 : Int32)) T11.heap n0 Z11) hZ (hw _ (List.mem_of_getElem? (i := 77) rfl)) (hw _ (List.mem_of_getElem? (i := 76) rfl)) (Nat.le_of_ble_eq_true rfl) (Nat.le_of_ble_eq_true rfl)) (g := (mkF m 73 #[.val (.int p1), .val (.int p2), .val (.int p3), .val (.int p4), .val (.int p5), .val (.int y1), .val (.int (p1 &&& (127 : Int32))), .val (.int (p2 &&& (127 : Int32))), .val (.int (p3 &&& (127 : Int32))), .val (.int (p4 &&& (127 : Int32))), .val (.ref b2), .val (.long ((0 : Int64) + ((p1 &&& (127 : Int32)).toInt64))), .second, .val (.int (0 : Int32)), .unset] [(.int (p1 &&& (127 : Int32))), (.int (0 : Int32))])) rfl (by rw [hml]; rfl) (argsL := [(.int (0 : Int32)), (.int (p1 &&& (127 : Int32)))]) (rest := []) (lenOf pd_0 rfl) rfl (by show 2 * 0 + _ ≤ _; exact Nat.le_of_eq rfl) (hb hby at_73) (fun _ _ => ⟨rfl, rfl, (Nat.le_of_ble_eq_true rfl), (show 20 + cap1 + 0 ≤ 896 from by omega)⟩)
    dsimp only [Pt.U, Pt.locs, Pt.cells, Pt.slots] at X12 l12 y12 z12 st12 hQ12
    subst l12 y12 z12
    obtain ⟨rfl, N12q, e12⟩ := hQ12
    have N12 := Fr.app N11 N12q
    have pre13 : ∀ t, Steps p.tables e below (T12.setTop (mkF m 81 #[.val (.int p1), .val (.int p2), .val (.int p3), .val (.int p4), .val (.int p5), .val (.int y1), .val (.int (p1 &&& (127 : Int32))), .val (.int (p2 &&& (127 : Int32))), .val (.int (p3 &&& (127 : Int32))), .val (.int (p4 &&& (127 : Int32))), .val (.ref b2), .val (.long ((0 : Int64) + ((p1 &&& (127 : Int32)).toInt64))), .second, .val (.int (own_max (0 : Int32) (p1 &&& (127 : Int32)))), .unset] [(.int (2 : Int32)), (.int y1)])) t → Steps p.tables e below (s₁.setTop (entryFrame m #[(.int p1), (.int p2), (.int p3), (.int p4), (.int p5)] maxLocals)) t := by
      intro t k
      refine pre4 t ?_
      show Steps p.tables e below (T3.setTop (mkF m 51 #[.val (.int p1), .val (.int p2), .val (.int p3), .val (.int p4), .val (.int p5), .val (.int y1), .val (.int (p1 &&& (127 : Int32))), .val (.int (p2 &&& (127 : Int32))), .val (.int (p3 &&& (127 : Int32))), .val (.int (p4 &&& (127 : Int32))), .val (.ref b2), .val (.long (0 : Int64)), .second, .val (.int (0 : Int32)), .unset] [(.int (1 : Int32)), (.int y1)])) _
      refine XS.icmpNo X3.here hx rfl (hb hby at_51) rfl (flt hc51_5).1 ?_
      show Steps p.tables e below (T3.setTop (mkF m 54 #[.val (.int p1), .val (.int p2), .val (.int p3), .val (.int p4), .val (.int p5), .val (.int y1), .val (.int (p1 &&& (127 : Int32))), .val (.int (p2 &&& (127 : Int32))), .val (.int (p3 &&& (127 : Int32))), .val (.int (p4 &&& (127 : Int32))), .val (.ref b2), .val (.long (0 : Int64)), .second, .val (.int (0 : Int32)), .unset] [])) _
      refine XS.aload X3.here hx rfl (hb hby at_54) rfl rfl ?_
      show Steps p.tables e below (T3.setTop (mkF m 56 #[.val (.int p1), .val (.int p2), .val (.int p3), .val (.int p4), .val (.int p5), .val (.int y1), .val (.int (p1 &&& (127 : Int32))), .val (.int (p2 &&& (127 : Int32))), .val (.int (p3 &&& (127 : Int32))), .val (.int (p4 &&& (127 : Int32))), .val (.ref b2), .val (.long (0 : Int64)), .second, .val (.int (0 : Int32)), .unset] [(.ref b2)])) _
      refine XS.iload X3.here hx rfl (hb hby at_56) rfl ?_
      show Steps p.tables e below (T3.setTop (mkF m 58 #[.val (.int p1), .val (.int p2), .val (.int p3), .val (.int p4), .val (.int p5), .val (.int y1), .val (.int (p1 &&& (127 : Int32))), .val (.int (p2 &&& (127 : Int32))), .val (.int (p3 &&& (127 : Int32))), .val (.int (p4 &&& (127 : Int32))), .val (.ref b2), .val (.long (0 : Int64)), .second, .val (.int (0 : Int32)), .unset] [(.int (p1 &&& (127 : Int32))), (.ref b2)])) _
      refine st11.trans ?_
      show Steps p.tables e below (T11.setTop (mkF m 61 #[.val (.int p1), .val (.int p2), .val (.int p3), .val (.int p4), .val (.int p5), .val (.int y1), .val (.int (p1 &&& (127 : Int32))), .val (.int (p2 &&& (127 : Int32))), .val (.int (p3 &&& (127 : Int32))), .val (.int (p4 &&& (127 : Int32))), .val (.ref b2), .val (.long (0 : Int64)), .second, .val (.int (0 : Int32)), .unset] [])) _
      refine XS.lload X11.here hx rfl (hb hby at_61) rfl ?_
      show Steps p.tables e below (T11.setTop (mkF m 63 #[.val (.int p1), .val (.int p2), .val (.int p3), .val (.int p4), .val (.int p5), .val (.int y1), .val (.int (p1 &&& (127 : Int32))), .val (.int (p2 &&& (127 : Int32))), .val (.int (p3 &&& (127 : Int32))), .val (.int (p4 &&& (127 : Int32))), .val (.ref b2), .val (.long (0 : Int64)), .second, .val (.int (0 : Int32)), .unset] [(.long (0 : Int64))])) _
      refine XS.iload X11.here hx rfl (hb hby at_63) rfl ?_
      show Steps p.tables e below (T11.setTop (mkF m 65 #[.val (.int p1), .val (.int p2), .val (.int p3), .val (.int p4), .val (.int p5), .val (.int y1), .val (.int (p1 &&& (127 : Int32))), .val (.int (p2 &&& (127 : Int32))), .val (.int (p3 &&& (127 : Int32))), .val (.int (p4 &&& (127 : Int32))), .val (.ref b2), .val (.long (0 : Int64)), .second, .val (.int (0 : Int32)), .unset] [(.int (p1 &&& (127 : Int32))), (.long (0 : Int64))])) _
      refine XS.i2l X11.here hx rfl (hb hby at_65) rfl ?_
      show Steps p.tables e below (T11.setTop (mkF m 66 #[.val (.int p1), .val (.int p2), .val (.int p3), .val (.int p4), .val (.int p5), .val (.int y1), .val (.int (p1 &&& (127 : Int32))), .val (.int (p2 &&& (127 : Int32))), .val (.int (p3 &&& (127 : Int32))), .val (.int (p4 &&& (127 : Int32))), .val (.ref b2), .val (.long (0 : Int64)), .second, .val (.int (0 : Int32)), .unset] [(.long ((p1 &&& (127 : Int32)).toInt64)), (.long (0 : Int64))])) _
      refine XS.ladd X11.here hx rfl (hb hby at_66) rfl ?_
      show Steps p.tables e below (T11.setTop (mkF m 67 #[.val (.int p1), .val (.int p2), .val (.int p3), .val (.int p4), .val (.int p5), .val (.int y1), .val (.int (p1 &&& (127 : Int32))), .val (.int (p2 &&& (127 : Int32))), .val (.int (p3 &&& (127 : Int32))), .val (.int (p4 &&& (127 : Int32))), .val (.ref b2), .val (.long (0 : Int64)), .second, .val (.int (0 : Int32)), .unset] [(.long ((0 : Int64) + ((p1 &&& (127 : Int32)).toInt64)))])) _
      refine XS.lstore X11.here hx rfl (hb hby at_67) rfl (l' := #[.val (.int p1), .val (.int p2), .val (.int p3), .val (.int p4), .val (.int p5), .val (.int y1), .val (.int (p1 &&& (127 : Int32))), .val (.int (p2 &&& (127 : Int32))), .val (.int (p3 &&& (127 : Int32))), .val (.int (p4 &&& (127 : Int32))), .val (.ref b2), .val (.long ((0 : Int64) + ((p1 &&& (127 : Int32)).toInt64))), .second, .val (.int (0 : Int32)), .unset]) rfl ?_
      show Steps p.tables e below (T11.setTop (mkF m 69 #[.val (.int p1), .val (.int p2), .val (.int p3), .val (.int p4), .val (.int p5), .val (.int y1), .val (.int (p1 &&& (127 : Int32))), .val (.int (p2 &&& (127 : Int32))), .val (.int (p3 &&& (127 : Int32))), .val (.int (p4 &&& (127 : Int32))), .val (.ref b2), .val (.long ((0 : Int64) + ((p1 &&& (127 : Int32)).toInt64))), .second, .val (.int (0 : Int32)), .unset] [])) _
      refine XS.iload X11.here hx rfl (hb hby at_69) rfl ?_
      show Steps p.tables e below (T11.setTop (mkF m 71 #[.val (.int p1), .val (.int p2), .val (.int p3), .val (.int p4), .val (.int p5), .val (.int y1), .val (.int (p1 &&& (127 : Int32))), .val (.int (p2 &&& (127 : Int32))), .val (.int (p3 &&& (127 : Int32))), .val (.int (p4 &&& (127 : Int32))), .val (.ref b2), .val (.long ((0 : Int64) + ((p1 &&& (127 : Int32)).toInt64))), .second, .val (.int (0 : Int32)), .unset] [(.int (0 : Int32))])) _
      refine XS.iload X11.here hx rfl (hb hby at_71) rfl ?_
      show Steps p.tables e below (T11.setTop (mkF m 73 #[.val (.int p1), .val (.int p2), .val (.int p3), .val (.int p4), .val (.int p5), .val (.int y1), .val (.int (p1 &&& (127 : Int32))), .val (.int (p2 &&& (127 : Int32))), .val (.int (p3 &&& (127 : Int32))), .val (.int (p4 &&& (127 : Int32))), .val (.ref b2), .val (.long ((0 : Int64) + ((p1 &&& (127 : Int32)).toInt64))), .second, .val (.int (0 : Int32)), .unset] [(.int (p1 &&& (127 : Int32))), (.int (0 : Int32))])) _
      refine st12 _ ?_
      show Steps p.tables e below (T12.setTop (mkF m 76 #[.val (.int p1), .val (.int p2), .val (.int p3), .val (.int p4), .val (.int p5), .val (.int y1), .val (.int (p1 &&& (127 : Int32))), .val (.int (p2 &&& (127 : Int32))), .val (.int (p3 &&& (127 : Int32))), .val (.int (p4 &&& (127 : Int32))), .val (.ref b2), .val (.long ((0 : Int64) + ((p1 &&& (127 : Int32)).toInt64))), .second, .val (.int (0 : Int32)), .unset] [(.int (own_max (0 : Int32) (p1 &&& (127 : Int32))))])) _
      refine XS.istore X12.here hx rfl (hb hby at_76) rfl (l' := #[.val (.int p1), .val (.int p2), .val (.int p3), .val (.int p4), .val (.int p5), .val (.int y1), .val (.int (p1 &&& (127 : Int32))), .val (.int (p2 &&& (127 : Int32))), .val (.int (p3 &&& (127 : Int32))), .val (.int (p4 &&& (127 : Int32))), .val (.ref b2), .val (.long ((0 : Int64) + ((p1 &&& (127 : Int32)).toInt64))), .second, .val (.int (own_max (0 : Int32) (p1 &&& (127 : Int32)))), .unset]) rfl ?_
      show Steps p.tables e below (T12.setTop (mkF m 78 #[.val (.int p1), .val (.int p2), .val (.int p3), .val (.int p4), .val (.int p5), .val (.int y1), .val (.int (p1 &&& (127 : Int32))), .val (.int (p2 &&& (127 : Int32))), .val (.int (p3 &&& (127 : Int32))), .val (.int (p4 &&& (127 : Int32))), .val (.ref b2), .val (.long ((0 : Int64) + ((p1 &&& (127 : Int32)).toInt64))), .second, .val (.int (own_max (0 : Int32) (p1 &&& (127 : Int32)))), .unset] [])) _
      refine XS.iload X12.here hx rfl (hb hby at_78) rfl ?_
      show Steps p.tables e below (T12.setTop (mkF m 80 #[.val (.int p1), .val (.int p2), .val (.int p3), .val (.int p4), .val (.int p5), .val (.int y1), .val (.int (p1 &&& (127 : Int32))), .val (.int (p2 &&& (127 : Int32))), .val (.int (p3 &&& (127 : Int32))), .val (.int (p4 &&& (127 : Int32))), .val (.ref b2), .val (.long ((0 : Int64) + ((p1 &&& (127 : Int32)).toInt64))), .second, .val (.int (own_max (0 : Int32) (p1 &&& (127 : Int32)))), .unset] [(.int y1)])) _
      refine XS.iconst X12.here hx rfl (hb hby at_80) ?_
      exact k
    by_cases hc81_14 : y1 < (2 : Int32)
    · obtain ⟨hr1, hr2, hr3⟩ := own_top1 hx1a hx1b
      obtain ⟨cq15, kq15, q15a, q15b, q15c⟩ := isOf hZ e12 Ex2_v11
      obtain ⟨_, _, ⟨T15, L15, k15, n15⟩, -, X15, ⟨Lc15, hQ15, l15, y15, z15⟩, st15⟩ := X12.virtualBack hx (y := (⟨"nachbar/sim/Tally", "summary", "()Lnachbar/sim/Summary;"⟩ : MethodName)) (z := (⟨"nachbar/sim/Tally", "summary", "()Lnachbar/sim/Summary;"⟩ : MethodName)) hown (mvT hZ (hw _ (List.mem_of_getElem? (i := 13) rfl))) (mvT hZ (hw _ (List.mem_of_getElem? (i := 14) rfl))) (notFace_of_selects (args := #[]) (mvT hZ (hw _ (List.mem_of_getElem? (i := 16) rfl)))) (mvT hZ (hw _ (List.mem_of_getElem? (i := 16) rfl))) (mvT hZ (hw _ (List.mem_of_getElem? (i := 15) rfl))) (by decide) (backOf (W := 0) (rmu l Z a0 hw [] b2 c11 (own_z (p1 &&& (127 : Int32)) (16 : Int32)) (own_inc own_zero (p1 &&& (127 : Int32))) (1 : Int64) ((0 : Int64) + ((p1 &&& (127 : Int32)).toInt64)) (own_max (0 : Int32) (p1 &&& (127 : Int32))) ((own_max (0 : Int32) (p1 &&& (127 : Int32)))).toNatClampNeg T11.heap n0 Z11 Ex2_v11 nf11_0_v11 nf11_1_v11 nf11_2_v11 nf11_3_v11 nf11_4_v11 I1.2.2.1 hr1 hr2 (Nat.lt_of_lt_of_le hr3 I1.2.2.2.2)) hZ (hw _ (List.mem_of_getElem? (i := 17) rfl)) (hw _ (List.mem_of_getElem? (i := 3) rfl)) (Nat.le_of_ble_eq_true rfl) (Nat.le_of_ble_eq_true rfl)) q15a q15c (g := (mkF m 170 #[.val (.int p1), .val (.int p2), .val (.int p3), .val (.int p4), .val (.int p5), .val (.int y1), .val (.int (p1 &&& (127 : Int32))), .val (.int (p2 &&& (127 : Int32))), .val (.int (p3 &&& (127 : Int32))), .val (.int (p4 &&& (127 : Int32))), .val (.ref b2), .val (.long ((0 : Int64) + ((p1 &&& (127 : Int32)).toInt64))), .second, .val (.int (own_max (0 : Int32) (p1 &&& (127 : Int32)))), .unset] [(.ref b2)])) rfl (by rw [hml]; rfl) (Steps.refl _) (argsL := []) (rest := []) (lenOf pd_5 rfl) rfl (by show 2 * 0 + _ ≤ _; exact Nat.le_of_eq rfl) (hb hby at_170) (fun _ _ => ⟨rfl, e12, (Nat.le_of_ble_eq_true rfl), (show 20 + cap1 + 4 ≤ 896 from by omega)⟩)
      dsimp only [Pt.U, Pt.locs, Pt.cells, Pt.slots] at X15 l15 y15 z15 st15 hQ15
      subst l15 y15 z15
      obtain ⟨b15, rfl, N15q, Kc15, sb15, nfE15_v15, nf15_0_v15, nf15_1_v15, nf15_2_v15, nf15_3_v15⟩ := hQ15
      have N15 := Fr.app N12 N15q
      have Ex2_v15 := Ex2_v11.keep Kc15
      have nf11_0_v15 := nf11_0_v11.keep Kc15 nin0
      have nf11_1_v15 := nf11_1_v11.keep Kc15 nin0
      have nf11_2_v15 := nf11_2_v11.keep Kc15 nin0
      have nf11_3_v15 := nf11_3_v11.keep Kc15 nin0
      have nf11_4_v15 := nf11_4_v11.keep Kc15 nin0
      have Z15 : n0 ≤ T15.heap.size := Nat.le_trans Z11 Kc15.1
      obtain ⟨cq16, kq16, q16a, q16b, q16c⟩ := isOf hZ rfl nfE15_v15
      obtain ⟨_, _, ⟨T16, L16, k16, n16⟩, -, X16, ⟨Lc16, hQ16, l16, y16, z16⟩, st16⟩ := X15.virtualBack hx (y := (⟨"nachbar/sim/Summary", "count", "()J"⟩ : MethodName)) (z := (⟨"nachbar/sim/Summary", "count", "()J"⟩ : MethodName)) hown (mvT hZ (hw _ (List.mem_of_getElem? (i := 49) rfl))) (mvT hZ (hw _ (List.mem_of_getElem? (i := 50) rfl))) (notFace_of_selects (args := #[]) (mvT hZ (hw _ (List.mem_of_getElem? (i := 52) rfl)))) (mvT hZ (hw _ (List.mem_of_getElem? (i := 52) rfl))) (mvT hZ (hw _ (List.mem_of_getElem? (i := 51) rfl))) (by decide) (backOf (W := 0) (rg_count l Z a0 hw [] b15 (1 : Int64) T15.heap n0 Z15 nf15_0_v15) hZ (hw _ (List.mem_of_getElem? (i := 53) rfl)) (hw _ (List.mem_of_getElem? (i := 22) rfl)) (Nat.le_of_ble_eq_true rfl) (Nat.le_of_ble_eq_true rfl)) q16a q16c (g := (mkF m 177 #[.val (.int p1), .val (.int p2), .val (.int p3), .val (.int p4), .val (.int p5), .val (.int y1), .val (.int (p1 &&& (127 : Int32))), .val (.int (p2 &&& (127 : Int32))), .val (.int (p3 &&& (127 : Int32))), .val (.int (p4 &&& (127 : Int32))), .val (.ref b2), .val (.long ((0 : Int64) + ((p1 &&& (127 : Int32)).toInt64))), .second, .val (.int (own_max (0 : Int32) (p1 &&& (127 : Int32)))), .val (.ref b15)] [(.ref b15)])) rfl (by rw [hml]; rfl) (Steps.refl _) (argsL := []) (rest := []) (lenOf pd_6 rfl) rfl (by show 2 * 0 + _ ≤ _; exact Nat.le_of_eq rfl) (hb hby at_177) (fun _ _ => ⟨rfl, rfl, (Nat.le_of_ble_eq_true rfl), (show 20 + cap1 + 4 + 0 ≤ 896 from by omega)⟩)
      dsimp only [Pt.U, Pt.locs, Pt.cells, Pt.slots] at X16 l16 y16 z16 st16 hQ16
      subst l16 y16 z16
      obtain ⟨rfl, N16q, e16⟩ := hQ16
      have N16 := Fr.app N15 N16q
      obtain ⟨cq17, kq17, q17a, q17b, q17c⟩ := isOf hZ e16 nfE15_v15
      obtain ⟨_, _, ⟨T17, L17, k17, n17⟩, -, X17, ⟨Lc17, hQ17, l17, y17, z17⟩, st17⟩ := X16.virtualBack hx (y := (⟨"nachbar/sim/Summary", "sum", "()J"⟩ : MethodName)) (z := (⟨"nachbar/sim/Summary", "sum", "()J"⟩ : MethodName)) hown (mvT hZ (hw _ (List.mem_of_getElem? (i := 54) rfl))) (mvT hZ (hw _ (List.mem_of_getElem? (i := 55) rfl))) (notFace_of_selects (args := #[]) (mvT hZ (hw _ (List.mem_of_getElem? (i := 57) rfl)))) (mvT hZ (hw _ (List.mem_of_getElem? (i := 57) rfl))) (mvT hZ (hw _ (List.mem_of_getElem? (i := 56) rfl))) (by decide) (backOf (W := 0) (rg_sum l Z a0 hw [] b15 ((0 : Int64) + ((p1 &&& (127 : Int32)).toInt64)) T15.heap n0 Z15 nf15_1_v15) hZ (hw _ (List.mem_of_getElem? (i := 58) rfl)) (hw _ (List.mem_of_getElem? (i := 22) rfl)) (Nat.le_of_ble_eq_true rfl) (Nat.le_of_ble_eq_true rfl)) q17a q17c (g := (mkF m 189 #[.val (.int p1), .val (.int p2), .val (.int p3), .val (.int p4), .val (.int p5), .val (.int y1), .val (.int (p1 &&& (127 : Int32))), .val (.int (p2 &&& (127 : Int32))), .val (.int (p3 &&& (127 : Int32))), .val (.int (p4 &&& (127 : Int32))), .val (.ref b2), .val (.long ((0 : Int64) + ((p1 &&& (127 : Int32)).toInt64))), .second, .val (.int (own_max (0 : Int32) (p1 &&& (127 : Int32)))), .val (.ref b15)] [(.ref b15)])) rfl (by rw [hml]; rfl) (Steps.refl _) (argsL := []) (rest := []) (lenOf pd_6 rfl) rfl (by show 2 * 0 + _ ≤ _; exact Nat.le_of_eq rfl) (hb hby at_189) (fun _ _ => ⟨rfl, e16, (Nat.le_of_ble_eq_true rfl), (show 20 + cap1 + 4 + 0 ≤ 896 from by omega)⟩)
      dsimp only [Pt.U, Pt.locs, Pt.cells, Pt.slots] at X17 l17 y17 z17 st17 hQ17
      subst l17 y17 z17
      obtain ⟨rfl, N17q, e17⟩ := hQ17
      have N17 := Fr.app N16 N17q
      obtain ⟨cq18, kq18, q18a, q18b, q18c⟩ := isOf hZ e17 nfE15_v15
      obtain ⟨_, _, ⟨T18, L18, k18, n18⟩, -, X18, ⟨Lc18, hQ18, l18, y18, z18⟩, st18⟩ := X17.virtualBack hx (y := (⟨"nachbar/sim/Summary", "max", "()J"⟩ : MethodName)) (z := (⟨"nachbar/sim/Summary", "max", "()J"⟩ : MethodName)) hown (mvT hZ (hw _ (List.mem_of_getElem? (i := 59) rfl))) (mvT hZ (hw _ (List.mem_of_getElem? (i := 60) rfl))) (notFace_of_selects (args := #[]) (mvT hZ (hw _ (List.mem_of_getElem? (i := 62) rfl)))) (mvT hZ (hw _ (List.mem_of_getElem? (i := 62) rfl))) (mvT hZ (hw _ (List.mem_of_getElem? (i := 61) rfl))) (by decide) (backOf (W := 0) (rg_max l Z a0 hw [] b15 ((own_max (0 : Int32) (p1 &&& (127 : Int32))).toInt64) T15.heap n0 Z15 nf15_3_v15) hZ (hw _ (List.mem_of_getElem? (i := 63) rfl)) (hw _ (List.mem_of_getElem? (i := 22) rfl)) (Nat.le_of_ble_eq_true rfl) (Nat.le_of_ble_eq_true rfl)) q18a q18c (g := (mkF m 200 #[.val (.int p1), .val (.int p2), .val (.int p3), .val (.int p4), .val (.int p5), .val (.int y1), .val (.int (p1 &&& (127 : Int32))), .val (.int (p2 &&& (127 : Int32))), .val (.int (p3 &&& (127 : Int32))), .val (.int (p4 &&& (127 : Int32))), .val (.ref b2), .val (.long ((0 : Int64) + ((p1 &&& (127 : Int32)).toInt64))), .second, .val (.int (own_max (0 : Int32) (p1 &&& (127 : Int32)))), .val (.ref b15)] [(.ref b15)])) rfl (by rw [hml]; rfl) (Steps.refl _) (argsL := []) (rest := []) (lenOf pd_6 rfl) rfl (by show 2 * 0 + _ ≤ _; exact Nat.le_of_eq rfl) (hb hby at_200) (fun _ _ => ⟨rfl, e17, (Nat.le_of_ble_eq_true rfl), (show 20 + cap1 + 4 + 0 ≤ 896 from by omega)⟩)
      dsimp only [Pt.U, Pt.locs, Pt.cells, Pt.slots] at X18 l18 y18 z18 st18 hQ18
      subst l18 y18 z18
      obtain ⟨rfl, N18q, e18⟩ := hQ18
      have N18 := Fr.app N17 N18q
      obtain ⟨cq19, kq19, q19a, q19b, q19c⟩ := isOf hZ e18 nfE15_v15
      obtain ⟨_, _, ⟨T19, L19, k19, n19⟩, -, X19, ⟨Lc19, hQ19, l19, y19, z19⟩, st19⟩ := X18.virtualBack hx (y := (⟨"nachbar/sim/Summary", "p99", "()J"⟩ : MethodName)) (z := (⟨"nachbar/sim/Summary", "p99", "()J"⟩ : MethodName)) hown (mvT hZ (hw _ (List.mem_of_getElem? (i := 64) rfl))) (mvT hZ (hw _ (List.mem_of_getElem? (i := 65) rfl))) (notFace_of_selects (args := #[]) (mvT hZ (hw _ (List.mem_of_getElem? (i := 67) rfl)))) (mvT hZ (hw _ (List.mem_of_getElem? (i := 67) rfl))) (mvT hZ (hw _ (List.mem_of_getElem? (i := 66) rfl))) (by decide) (backOf (W := 0) (rg_p99 l Z a0 hw [] b15 ((Int32.ofNat ((own_max (0 : Int32) (p1 &&& (127 : Int32)))).toNatClampNeg).toInt64) T15.heap n0 Z15 nf15_2_v15) hZ (hw _ (List.mem_of_getElem? (i := 68) rfl)) (hw _ (List.mem_of_getElem? (i := 22) rfl)) (Nat.le_of_ble_eq_true rfl) (Nat.le_of_ble_eq_true rfl)) q19a q19c (g := (mkF m 212 #[.val (.int p1), .val (.int p2), .val (.int p3), .val (.int p4), .val (.int p5), .val (.int y1), .val (.int (p1 &&& (127 : Int32))), .val (.int (p2 &&& (127 : Int32))), .val (.int (p3 &&& (127 : Int32))), .val (.int (p4 &&& (127 : Int32))), .val (.ref b2), .val (.long ((0 : Int64) + ((p1 &&& (127 : Int32)).toInt64))), .second, .val (.int (own_max (0 : Int32) (p1 &&& (127 : Int32)))), .val (.ref b15)] [(.ref b15)])) rfl (by rw [hml]; rfl) (Steps.refl _) (argsL := []) (rest := []) (lenOf pd_6 rfl) rfl (by show 2 * 0 + _ ≤ _; exact Nat.le_of_eq rfl) (hb hby at_212) (fun _ _ => ⟨rfl, e18, (Nat.le_of_ble_eq_true rfl), (show 20 + cap1 + 4 + 0 ≤ 896 from by omega)⟩)
      dsimp only [Pt.U, Pt.locs, Pt.cells, Pt.slots] at X19 l19 y19 z19 st19 hQ19
      subst l19 y19 z19
      obtain ⟨rfl, N19q, e19⟩ := hQ19
      have N19 := Fr.app N18 N19q
      obtain ⟨fs, hr, hrun, hended, hW, hsame⟩ := X19.leave (v := some (.int (1 : Int32))) (fun h => by rw [Bd.returns] at h; cases h)
      refine ⟨_, _, pre13 _ ?_, hrun, hended, _, _, rfl, ?_, ⟨_, rfl⟩, hW, hsame.mono (Nat.le_of_ble_eq_true rfl) (show 20 + cap1 + 4 ≤ 896 from by omega)⟩
      · show Steps p.tables e below (T12.setTop (mkF m 81 #[.val (.int p1), .val (.int p2), .val (.int p3), .val (.int p4), .val (.int p5), .val (.int y1), .val (.int (p1 &&& (127 : Int32))), .val (.int (p2 &&& (127 : Int32))), .val (.int (p3 &&& (127 : Int32))), .val (.int (p4 &&& (127 : Int32))), .val (.ref b2), .val (.long ((0 : Int64) + ((p1 &&& (127 : Int32)).toInt64))), .second, .val (.int (own_max (0 : Int32) (p1 &&& (127 : Int32)))), .unset] [(.int (2 : Int32)), (.int y1)])) _
        refine XS.icmpYes X12.here hx rfl (pc0 := 81) (pc' := 108) rfl (hb hby at_81) rfl (tlt hc81_14).1 (by decide) (by decide) ?_
        show Steps p.tables e below (T12.setTop (mkF m 108 #[.val (.int p1), .val (.int p2), .val (.int p3), .val (.int p4), .val (.int p5), .val (.int y1), .val (.int (p1 &&& (127 : Int32))), .val (.int (p2 &&& (127 : Int32))), .val (.int (p3 &&& (127 : Int32))), .val (.int (p4 &&& (127 : Int32))), .val (.ref b2), .val (.long ((0 : Int64) + ((p1 &&& (127 : Int32)).toInt64))), .second, .val (.int (own_max (0 : Int32) (p1 &&& (127 : Int32)))), .unset] [])) _
        refine XS.iload X12.here hx rfl (hb hby at_108) rfl ?_
        show Steps p.tables e below (T12.setTop (mkF m 110 #[.val (.int p1), .val (.int p2), .val (.int p3), .val (.int p4), .val (.int p5), .val (.int y1), .val (.int (p1 &&& (127 : Int32))), .val (.int (p2 &&& (127 : Int32))), .val (.int (p3 &&& (127 : Int32))), .val (.int (p4 &&& (127 : Int32))), .val (.ref b2), .val (.long ((0 : Int64) + ((p1 &&& (127 : Int32)).toInt64))), .second, .val (.int (own_max (0 : Int32) (p1 &&& (127 : Int32)))), .unset] [(.int y1)])) _
        refine XS.iconst X12.here hx rfl (hb hby at_110) ?_
        show Steps p.tables e below (T12.setTop (mkF m 111 #[.val (.int p1), .val (.int p2), .val (.int p3), .val (.int p4), .val (.int p5), .val (.int y1), .val (.int (p1 &&& (127 : Int32))), .val (.int (p2 &&& (127 : Int32))), .val (.int (p3 &&& (127 : Int32))), .val (.int (p4 &&& (127 : Int32))), .val (.ref b2), .val (.long ((0 : Int64) + ((p1 &&& (127 : Int32)).toInt64))), .second, .val (.int (own_max (0 : Int32) (p1 &&& (127 : Int32)))), .unset] [(.int (3 : Int32)), (.int y1)])) _
        refine XS.icmpYes X12.here hx rfl (pc0 := 111) (pc' := 138) rfl (hb hby at_111) rfl (tlt (Int32.lt_trans hc81_14 (by decide : (2 : Int32) < (3 : Int32)))).1 (by decide) (by decide) ?_
        show Steps p.tables e below (T12.setTop (mkF m 138 #[.val (.int p1), .val (.int p2), .val (.int p3), .val (.int p4), .val (.int p5), .val (.int y1), .val (.int (p1 &&& (127 : Int32))), .val (.int (p2 &&& (127 : Int32))), .val (.int (p3 &&& (127 : Int32))), .val (.int (p4 &&& (127 : Int32))), .val (.ref b2), .val (.long ((0 : Int64) + ((p1 &&& (127 : Int32)).toInt64))), .second, .val (.int (own_max (0 : Int32) (p1 &&& (127 : Int32)))), .unset] [])) _
        refine XS.iload X12.here hx rfl (hb hby at_138) rfl ?_
        show Steps p.tables e below (T12.setTop (mkF m 140 #[.val (.int p1), .val (.int p2), .val (.int p3), .val (.int p4), .val (.int p5), .val (.int y1), .val (.int (p1 &&& (127 : Int32))), .val (.int (p2 &&& (127 : Int32))), .val (.int (p3 &&& (127 : Int32))), .val (.int (p4 &&& (127 : Int32))), .val (.ref b2), .val (.long ((0 : Int64) + ((p1 &&& (127 : Int32)).toInt64))), .second, .val (.int (own_max (0 : Int32) (p1 &&& (127 : Int32)))), .unset] [(.int y1)])) _
        refine XS.iconst X12.here hx rfl (hb hby at_140) ?_
        show Steps p.tables e below (T12.setTop (mkF m 141 #[.val (.int p1), .val (.int p2), .val (.int p3), .val (.int p4), .val (.int p5), .val (.int y1), .val (.int (p1 &&& (127 : Int32))), .val (.int (p2 &&& (127 : Int32))), .val (.int (p3 &&& (127 : Int32))), .val (.int (p4 &&& (127 : Int32))), .val (.ref b2), .val (.long ((0 : Int64) + ((p1 &&& (127 : Int32)).toInt64))), .second, .val (.int (own_max (0 : Int32) (p1 &&& (127 : Int32)))), .unset] [(.int (4 : Int32)), (.int y1)])) _
        refine XS.icmpYes X12.here hx rfl (pc0 := 141) (pc' := 168) rfl (hb hby at_141) rfl (tlt (Int32.lt_trans hc81_14 (by decide : (2 : Int32) < (4 : Int32)))).1 (by decide) (by decide) ?_
        show Steps p.tables e below (T12.setTop (mkF m 168 #[.val (.int p1), .val (.int p2), .val (.int p3), .val (.int p4), .val (.int p5), .val (.int y1), .val (.int (p1 &&& (127 : Int32))), .val (.int (p2 &&& (127 : Int32))), .val (.int (p3 &&& (127 : Int32))), .val (.int (p4 &&& (127 : Int32))), .val (.ref b2), .val (.long ((0 : Int64) + ((p1 &&& (127 : Int32)).toInt64))), .second, .val (.int (own_max (0 : Int32) (p1 &&& (127 : Int32)))), .unset] [])) _
        refine XS.aload X12.here hx rfl (hb hby at_168) rfl rfl ?_
        show Steps p.tables e below (T12.setTop (mkF m 170 #[.val (.int p1), .val (.int p2), .val (.int p3), .val (.int p4), .val (.int p5), .val (.int y1), .val (.int (p1 &&& (127 : Int32))), .val (.int (p2 &&& (127 : Int32))), .val (.int (p3 &&& (127 : Int32))), .val (.int (p4 &&& (127 : Int32))), .val (.ref b2), .val (.long ((0 : Int64) + ((p1 &&& (127 : Int32)).toInt64))), .second, .val (.int (own_max (0 : Int32) (p1 &&& (127 : Int32)))), .unset] [(.ref b2)])) _
        refine st15.trans ?_
        show Steps p.tables e below (T15.setTop (mkF m 173 #[.val (.int p1), .val (.int p2), .val (.int p3), .val (.int p4), .val (.int p5), .val (.int y1), .val (.int (p1 &&& (127 : Int32))), .val (.int (p2 &&& (127 : Int32))), .val (.int (p3 &&& (127 : Int32))), .val (.int (p4 &&& (127 : Int32))), .val (.ref b2), .val (.long ((0 : Int64) + ((p1 &&& (127 : Int32)).toInt64))), .second, .val (.int (own_max (0 : Int32) (p1 &&& (127 : Int32)))), .unset] [(.ref b15)])) _
        refine XS.astore X15.here hx rfl (hb hby at_173) rfl rfl (l' := #[.val (.int p1), .val (.int p2), .val (.int p3), .val (.int p4), .val (.int p5), .val (.int y1), .val (.int (p1 &&& (127 : Int32))), .val (.int (p2 &&& (127 : Int32))), .val (.int (p3 &&& (127 : Int32))), .val (.int (p4 &&& (127 : Int32))), .val (.ref b2), .val (.long ((0 : Int64) + ((p1 &&& (127 : Int32)).toInt64))), .second, .val (.int (own_max (0 : Int32) (p1 &&& (127 : Int32)))), .val (.ref b15)]) rfl ?_
        show Steps p.tables e below (T15.setTop (mkF m 175 #[.val (.int p1), .val (.int p2), .val (.int p3), .val (.int p4), .val (.int p5), .val (.int y1), .val (.int (p1 &&& (127 : Int32))), .val (.int (p2 &&& (127 : Int32))), .val (.int (p3 &&& (127 : Int32))), .val (.int (p4 &&& (127 : Int32))), .val (.ref b2), .val (.long ((0 : Int64) + ((p1 &&& (127 : Int32)).toInt64))), .second, .val (.int (own_max (0 : Int32) (p1 &&& (127 : Int32)))), .val (.ref b15)] [])) _
        refine XS.aload X15.here hx rfl (hb hby at_175) rfl rfl ?_
        show Steps p.tables e below (T15.setTop (mkF m 177 #[.val (.int p1), .val (.int p2), .val (.int p3), .val (.int p4), .val (.int p5), .val (.int y1), .val (.int (p1 &&& (127 : Int32))), .val (.int (p2 &&& (127 : Int32))), .val (.int (p3 &&& (127 : Int32))), .val (.int (p4 &&& (127 : Int32))), .val (.ref b2), .val (.long ((0 : Int64) + ((p1 &&& (127 : Int32)).toInt64))), .second, .val (.int (own_max (0 : Int32) (p1 &&& (127 : Int32)))), .val (.ref b15)] [(.ref b15)])) _
        refine st16.trans ?_
        show Steps p.tables e below (T16.setTop (mkF m 180 #[.val (.int p1), .val (.int p2), .val (.int p3), .val (.int p4), .val (.int p5), .val (.int y1), .val (.int (p1 &&& (127 : Int32))), .val (.int (p2 &&& (127 : Int32))), .val (.int (p3 &&& (127 : Int32))), .val (.int (p4 &&& (127 : Int32))), .val (.ref b2), .val (.long ((0 : Int64) + ((p1 &&& (127 : Int32)).toInt64))), .second, .val (.int (own_max (0 : Int32) (p1 &&& (127 : Int32)))), .val (.ref b15)] [(.long (1 : Int64))])) _
        refine XS.iload X16.here hx rfl (hb hby at_180) rfl ?_
        show Steps p.tables e below (T16.setTop (mkF m 182 #[.val (.int p1), .val (.int p2), .val (.int p3), .val (.int p4), .val (.int p5), .val (.int y1), .val (.int (p1 &&& (127 : Int32))), .val (.int (p2 &&& (127 : Int32))), .val (.int (p3 &&& (127 : Int32))), .val (.int (p4 &&& (127 : Int32))), .val (.ref b2), .val (.long ((0 : Int64) + ((p1 &&& (127 : Int32)).toInt64))), .second, .val (.int (own_max (0 : Int32) (p1 &&& (127 : Int32)))), .val (.ref b15)] [(.int y1), (.long (1 : Int64))])) _
        refine XS.i2l X16.here hx rfl (hb hby at_182) rfl ?_
        show Steps p.tables e below (T16.setTop (mkF m 183 #[.val (.int p1), .val (.int p2), .val (.int p3), .val (.int p4), .val (.int p5), .val (.int y1), .val (.int (p1 &&& (127 : Int32))), .val (.int (p2 &&& (127 : Int32))), .val (.int (p3 &&& (127 : Int32))), .val (.int (p4 &&& (127 : Int32))), .val (.ref b2), .val (.long ((0 : Int64) + ((p1 &&& (127 : Int32)).toInt64))), .second, .val (.int (own_max (0 : Int32) (p1 &&& (127 : Int32)))), .val (.ref b15)] [(.long (y1.toInt64)), (.long (1 : Int64))])) _
        refine XS.lcmp X16.here hx rfl (hb hby at_183) rfl ?_
        show Steps p.tables e below (T16.setTop (mkF m 184 #[.val (.int p1), .val (.int p2), .val (.int p3), .val (.int p4), .val (.int p5), .val (.int y1), .val (.int (p1 &&& (127 : Int32))), .val (.int (p2 &&& (127 : Int32))), .val (.int (p3 &&& (127 : Int32))), .val (.int (p4 &&& (127 : Int32))), .val (.ref b2), .val (.long ((0 : Int64) + ((p1 &&& (127 : Int32)).toInt64))), .second, .val (.int (own_max (0 : Int32) (p1 &&& (127 : Int32)))), .val (.ref b15)] [(.int (lcmpW (1 : Int64) (y1.toInt64)))])) _
        refine XS.ifNo X16.here hx rfl (hb hby at_184) rfl ((if0 _ _).trans (teq (own_cnt (1 : Int64) 1 (by decide) (by decide) (own_ge hc51_5) (own_lt5 hc81_14))).2) ?_
        show Steps p.tables e below (T16.setTop (mkF m 187 #[.val (.int p1), .val (.int p2), .val (.int p3), .val (.int p4), .val (.int p5), .val (.int y1), .val (.int (p1 &&& (127 : Int32))), .val (.int (p2 &&& (127 : Int32))), .val (.int (p3 &&& (127 : Int32))), .val (.int (p4 &&& (127 : Int32))), .val (.ref b2), .val (.long ((0 : Int64) + ((p1 &&& (127 : Int32)).toInt64))), .second, .val (.int (own_max (0 : Int32) (p1 &&& (127 : Int32)))), .val (.ref b15)] [])) _
        refine XS.aload X16.here hx rfl (hb hby at_187) rfl rfl ?_
        show Steps p.tables e below (T16.setTop (mkF m 189 #[.val (.int p1), .val (.int p2), .val (.int p3), .val (.int p4), .val (.int p5), .val (.int y1), .val (.int (p1 &&& (127 : Int32))), .val (.int (p2 &&& (127 : Int32))), .val (.int (p3 &&& (127 : Int32))), .val (.int (p4 &&& (127 : Int32))), .val (.ref b2), .val (.long ((0 : Int64) + ((p1 &&& (127 : Int32)).toInt64))), .second, .val (.int (own_max (0 : Int32) (p1 &&& (127 : Int32)))), .val (.ref b15)] [(.ref b15)])) _
        refine st17.trans ?_
        show Steps p.tables e below (T17.setTop (mkF m 192 #[.val (.int p1), .val (.int p2), .val (.int p3), .val (.int p4), .val (.int p5), .val (.int y1), .val (.int (p1 &&& (127 : Int32))), .val (.int (p2 &&& (127 : Int32))), .val (.int (p3 &&& (127 : Int32))), .val (.int (p4 &&& (127 : Int32))), .val (.ref b2), .val (.long ((0 : Int64) + ((p1 &&& (127 : Int32)).toInt64))), .second, .val (.int (own_max (0 : Int32) (p1 &&& (127 : Int32)))), .val (.ref b15)] [(.long ((0 : Int64) + ((p1 &&& (127 : Int32)).toInt64)))])) _
        refine XS.lload X17.here hx rfl (hb hby at_192) rfl ?_
        show Steps p.tables e below (T17.setTop (mkF m 194 #[.val (.int p1), .val (.int p2), .val (.int p3), .val (.int p4), .val (.int p5), .val (.int y1), .val (.int (p1 &&& (127 : Int32))), .val (.int (p2 &&& (127 : Int32))), .val (.int (p3 &&& (127 : Int32))), .val (.int (p4 &&& (127 : Int32))), .val (.ref b2), .val (.long ((0 : Int64) + ((p1 &&& (127 : Int32)).toInt64))), .second, .val (.int (own_max (0 : Int32) (p1 &&& (127 : Int32)))), .val (.ref b15)] [(.long ((0 : Int64) + ((p1 &&& (127 : Int32)).toInt64))), (.long ((0 : Int64) + ((p1 &&& (127 : Int32)).toInt64)))])) _
        refine XS.lcmp X17.here hx rfl (hb hby at_194) rfl ?_
        show Steps p.tables e below (T17.setTop (mkF m 195 #[.val (.int p1), .val (.int p2), .val (.int p3), .val (.int p4), .val (.int p5), .val (.int y1), .val (.int (p1 &&& (127 : Int32))), .val (.int (p2 &&& (127 : Int32))), .val (.int (p3 &&& (127 : Int32))), .val (.int (p4 &&& (127 : Int32))), .val (.ref b2), .val (.long ((0 : Int64) + ((p1 &&& (127 : Int32)).toInt64))), .second, .val (.int (own_max (0 : Int32) (p1 &&& (127 : Int32)))), .val (.ref b15)] [(.int (lcmpW ((0 : Int64) + ((p1 &&& (127 : Int32)).toInt64)) ((0 : Int64) + ((p1 &&& (127 : Int32)).toInt64))))])) _
        refine XS.ifNo X17.here hx rfl (hb hby at_195) rfl ((if0 _ _).trans (teq (((lw_eq _ _).mpr rfl) : ((lcmpW ((0 : Int64) + ((p1 &&& (127 : Int32)).toInt64)) ((0 : Int64) + ((p1 &&& (127 : Int32)).toInt64))) = (0 : Int32)))).2) ?_
        show Steps p.tables e below (T17.setTop (mkF m 198 #[.val (.int p1), .val (.int p2), .val (.int p3), .val (.int p4), .val (.int p5), .val (.int y1), .val (.int (p1 &&& (127 : Int32))), .val (.int (p2 &&& (127 : Int32))), .val (.int (p3 &&& (127 : Int32))), .val (.int (p4 &&& (127 : Int32))), .val (.ref b2), .val (.long ((0 : Int64) + ((p1 &&& (127 : Int32)).toInt64))), .second, .val (.int (own_max (0 : Int32) (p1 &&& (127 : Int32)))), .val (.ref b15)] [])) _
        refine XS.aload X17.here hx rfl (hb hby at_198) rfl rfl ?_
        show Steps p.tables e below (T17.setTop (mkF m 200 #[.val (.int p1), .val (.int p2), .val (.int p3), .val (.int p4), .val (.int p5), .val (.int y1), .val (.int (p1 &&& (127 : Int32))), .val (.int (p2 &&& (127 : Int32))), .val (.int (p3 &&& (127 : Int32))), .val (.int (p4 &&& (127 : Int32))), .val (.ref b2), .val (.long ((0 : Int64) + ((p1 &&& (127 : Int32)).toInt64))), .second, .val (.int (own_max (0 : Int32) (p1 &&& (127 : Int32)))), .val (.ref b15)] [(.ref b15)])) _
        refine st18.trans ?_
        show Steps p.tables e below (T18.setTop (mkF m 203 #[.val (.int p1), .val (.int p2), .val (.int p3), .val (.int p4), .val (.int p5), .val (.int y1), .val (.int (p1 &&& (127 : Int32))), .val (.int (p2 &&& (127 : Int32))), .val (.int (p3 &&& (127 : Int32))), .val (.int (p4 &&& (127 : Int32))), .val (.ref b2), .val (.long ((0 : Int64) + ((p1 &&& (127 : Int32)).toInt64))), .second, .val (.int (own_max (0 : Int32) (p1 &&& (127 : Int32)))), .val (.ref b15)] [(.long ((own_max (0 : Int32) (p1 &&& (127 : Int32))).toInt64))])) _
        refine XS.iload X18.here hx rfl (hb hby at_203) rfl ?_
        show Steps p.tables e below (T18.setTop (mkF m 205 #[.val (.int p1), .val (.int p2), .val (.int p3), .val (.int p4), .val (.int p5), .val (.int y1), .val (.int (p1 &&& (127 : Int32))), .val (.int (p2 &&& (127 : Int32))), .val (.int (p3 &&& (127 : Int32))), .val (.int (p4 &&& (127 : Int32))), .val (.ref b2), .val (.long ((0 : Int64) + ((p1 &&& (127 : Int32)).toInt64))), .second, .val (.int (own_max (0 : Int32) (p1 &&& (127 : Int32)))), .val (.ref b15)] [(.int (own_max (0 : Int32) (p1 &&& (127 : Int32)))), (.long ((own_max (0 : Int32) (p1 &&& (127 : Int32))).toInt64))])) _
        refine XS.i2l X18.here hx rfl (hb hby at_205) rfl ?_
        show Steps p.tables e below (T18.setTop (mkF m 206 #[.val (.int p1), .val (.int p2), .val (.int p3), .val (.int p4), .val (.int p5), .val (.int y1), .val (.int (p1 &&& (127 : Int32))), .val (.int (p2 &&& (127 : Int32))), .val (.int (p3 &&& (127 : Int32))), .val (.int (p4 &&& (127 : Int32))), .val (.ref b2), .val (.long ((0 : Int64) + ((p1 &&& (127 : Int32)).toInt64))), .second, .val (.int (own_max (0 : Int32) (p1 &&& (127 : Int32)))), .val (.ref b15)] [(.long ((own_max (0 : Int32) (p1 &&& (127 : Int32))).toInt64)), (.long ((own_max (0 : Int32) (p1 &&& (127 : Int32))).toInt64))])) _
        refine XS.lcmp X18.here hx rfl (hb hby at_206) rfl ?_
        show Steps p.tables e below (T18.setTop (mkF m 207 #[.val (.int p1), .val (.int p2), .val (.int p3), .val (.int p4), .val (.int p5), .val (.int y1), .val (.int (p1 &&& (127 : Int32))), .val (.int (p2 &&& (127 : Int32))), .val (.int (p3 &&& (127 : Int32))), .val (.int (p4 &&& (127 : Int32))), .val (.ref b2), .val (.long ((0 : Int64) + ((p1 &&& (127 : Int32)).toInt64))), .second, .val (.int (own_max (0 : Int32) (p1 &&& (127 : Int32)))), .val (.ref b15)] [(.int (lcmpW ((own_max (0 : Int32) (p1 &&& (127 : Int32))).toInt64) ((own_max (0 : Int32) (p1 &&& (127 : Int32))).toInt64)))])) _
        refine XS.ifNo X18.here hx rfl (hb hby at_207) rfl ((if0 _ _).trans (teq (((lw_eq _ _).mpr rfl) : ((lcmpW ((own_max (0 : Int32) (p1 &&& (127 : Int32))).toInt64) ((own_max (0 : Int32) (p1 &&& (127 : Int32))).toInt64)) = (0 : Int32)))).2) ?_
        show Steps p.tables e below (T18.setTop (mkF m 210 #[.val (.int p1), .val (.int p2), .val (.int p3), .val (.int p4), .val (.int p5), .val (.int y1), .val (.int (p1 &&& (127 : Int32))), .val (.int (p2 &&& (127 : Int32))), .val (.int (p3 &&& (127 : Int32))), .val (.int (p4 &&& (127 : Int32))), .val (.ref b2), .val (.long ((0 : Int64) + ((p1 &&& (127 : Int32)).toInt64))), .second, .val (.int (own_max (0 : Int32) (p1 &&& (127 : Int32)))), .val (.ref b15)] [])) _
        refine XS.aload X18.here hx rfl (hb hby at_210) rfl rfl ?_
        show Steps p.tables e below (T18.setTop (mkF m 212 #[.val (.int p1), .val (.int p2), .val (.int p3), .val (.int p4), .val (.int p5), .val (.int y1), .val (.int (p1 &&& (127 : Int32))), .val (.int (p2 &&& (127 : Int32))), .val (.int (p3 &&& (127 : Int32))), .val (.int (p4 &&& (127 : Int32))), .val (.ref b2), .val (.long ((0 : Int64) + ((p1 &&& (127 : Int32)).toInt64))), .second, .val (.int (own_max (0 : Int32) (p1 &&& (127 : Int32)))), .val (.ref b15)] [(.ref b15)])) _
        refine st19.trans ?_
        show Steps p.tables e below (T19.setTop (mkF m 215 #[.val (.int p1), .val (.int p2), .val (.int p3), .val (.int p4), .val (.int p5), .val (.int y1), .val (.int (p1 &&& (127 : Int32))), .val (.int (p2 &&& (127 : Int32))), .val (.int (p3 &&& (127 : Int32))), .val (.int (p4 &&& (127 : Int32))), .val (.ref b2), .val (.long ((0 : Int64) + ((p1 &&& (127 : Int32)).toInt64))), .second, .val (.int (own_max (0 : Int32) (p1 &&& (127 : Int32)))), .val (.ref b15)] [(.long ((Int32.ofNat ((own_max (0 : Int32) (p1 &&& (127 : Int32)))).toNatClampNeg).toInt64))])) _
        refine XS.iload X19.here hx rfl (hb hby at_215) rfl ?_
        show Steps p.tables e below (T19.setTop (mkF m 217 #[.val (.int p1), .val (.int p2), .val (.int p3), .val (.int p4), .val (.int p5), .val (.int y1), .val (.int (p1 &&& (127 : Int32))), .val (.int (p2 &&& (127 : Int32))), .val (.int (p3 &&& (127 : Int32))), .val (.int (p4 &&& (127 : Int32))), .val (.ref b2), .val (.long ((0 : Int64) + ((p1 &&& (127 : Int32)).toInt64))), .second, .val (.int (own_max (0 : Int32) (p1 &&& (127 : Int32)))), .val (.ref b15)] [(.int (own_max (0 : Int32) (p1 &&& (127 : Int32)))), (.long ((Int32.ofNat ((own_max (0 : Int32) (p1 &&& (127 : Int32)))).toNatClampNeg).toInt64))])) _
        refine XS.i2l X19.here hx rfl (hb hby at_217) rfl ?_
        show Steps p.tables e below (T19.setTop (mkF m 218 #[.val (.int p1), .val (.int p2), .val (.int p3), .val (.int p4), .val (.int p5), .val (.int y1), .val (.int (p1 &&& (127 : Int32))), .val (.int (p2 &&& (127 : Int32))), .val (.int (p3 &&& (127 : Int32))), .val (.int (p4 &&& (127 : Int32))), .val (.ref b2), .val (.long ((0 : Int64) + ((p1 &&& (127 : Int32)).toInt64))), .second, .val (.int (own_max (0 : Int32) (p1 &&& (127 : Int32)))), .val (.ref b15)] [(.long ((own_max (0 : Int32) (p1 &&& (127 : Int32))).toInt64)), (.long ((Int32.ofNat ((own_max (0 : Int32) (p1 &&& (127 : Int32)))).toNatClampNeg).toInt64))])) _
        refine XS.lcmp X19.here hx rfl (hb hby at_218) rfl ?_
        show Steps p.tables e below (T19.setTop (mkF m 219 #[.val (.int p1), .val (.int p2), .val (.int p3), .val (.int p4), .val (.int p5), .val (.int y1), .val (.int (p1 &&& (127 : Int32))), .val (.int (p2 &&& (127 : Int32))), .val (.int (p3 &&& (127 : Int32))), .val (.int (p4 &&& (127 : Int32))), .val (.ref b2), .val (.long ((0 : Int64) + ((p1 &&& (127 : Int32)).toInt64))), .second, .val (.int (own_max (0 : Int32) (p1 &&& (127 : Int32)))), .val (.ref b15)] [(.int (lcmpW ((Int32.ofNat ((own_max (0 : Int32) (p1 &&& (127 : Int32)))).toNatClampNeg).toInt64) ((own_max (0 : Int32) (p1 &&& (127 : Int32))).toInt64)))])) _
        refine XS.ifNo X19.here hx rfl (hb hby at_219) rfl ((if0 _ _).trans (teq (((lw_eq _ _).mpr (own_back (own_mx own_mx0 hx1a))) : ((lcmpW ((Int32.ofNat ((own_max (0 : Int32) (p1 &&& (127 : Int32)))).toNatClampNeg).toInt64) ((own_max (0 : Int32) (p1 &&& (127 : Int32))).toInt64)) = (0 : Int32)))).2) ?_
        show Steps p.tables e below (T19.setTop (mkF m 222 #[.val (.int p1), .val (.int p2), .val (.int p3), .val (.int p4), .val (.int p5), .val (.int y1), .val (.int (p1 &&& (127 : Int32))), .val (.int (p2 &&& (127 : Int32))), .val (.int (p3 &&& (127 : Int32))), .val (.int (p4 &&& (127 : Int32))), .val (.ref b2), .val (.long ((0 : Int64) + ((p1 &&& (127 : Int32)).toInt64))), .second, .val (.int (own_max (0 : Int32) (p1 &&& (127 : Int32)))), .val (.ref b15)] [])) _
        refine XS.iconst X19.here hx rfl (hb hby at_222) ?_
        show Steps p.tables e below (T19.setTop (mkF m 223 #[.val (.int p1), .val (.int p2), .val (.int p3), .val (.int p4), .val (.int p5), .val (.int y1), .val (.int (p1 &&& (127 : Int32))), .val (.int (p2 &&& (127 : Int32))), .val (.int (p3 &&& (127 : Int32))), .val (.int (p4 &&& (127 : Int32))), .val (.ref b2), .val (.long ((0 : Int64) + ((p1 &&& (127 : Int32)).toInt64))), .second, .val (.int (own_max (0 : Int32) (p1 &&& (127 : Int32)))), .val (.ref b15)] [(.int (1 : Int32))])) _
        refine XS.goto X19.here hx rfl (pc0 := 223) (pc' := 227) rfl (hb hby at_223) (by decide) (by decide) ?_
        show Steps p.tables e below (T19.setTop (mkF m 227 #[.val (.int p1), .val (.int p2), .val (.int p3), .val (.int p4), .val (.int p5), .val (.int y1), .val (.int (p1 &&& (127 : Int32))), .val (.int (p2 &&& (127 : Int32))), .val (.int (p3 &&& (127 : Int32))), .val (.int (p4 &&& (127 : Int32))), .val (.ref b2), .val (.long ((0 : Int64) + ((p1 &&& (127 : Int32)).toInt64))), .second, .val (.int (own_max (0 : Int32) (p1 &&& (127 : Int32)))), .val (.ref b15)] [(.int (1 : Int32))])) _
        exact retN X19 hx (t := .boolean) Bd.returns (by simp) (hb hby at_227) hr
      · show Q_rm0 Z p1 p2 p3 p4 p5 h0 n0 _ T19.heap _
        rw [e19]
        exact ⟨rfl, N19⟩
    · obtain ⟨hx2a, hx2b⟩ := own_x p2
      obtain ⟨cap2, hcp2, hce2⟩ := own_cap (p2 &&& (127 : Int32)) (own_z (p1 &&& (127 : Int32)) (16 : Int32)) I1.1 I1.2.1 hx2a hx2b
      have I2 := own_step I1 hx2a hx2b
      obtain ⟨cq20, kq20, q20a, q20b, q20c⟩ := isOf hZ e12 Ex2_v11
      obtain ⟨_, _, ⟨T20, L20, k20, n20⟩, -, X20, ⟨Lc20, hQ20, l20, y20, z20⟩, st20⟩ := X12.virtualBack hx (y := (⟨"nachbar/sim/Tally", "add", "(I)V"⟩ : MethodName)) (z := (⟨"nachbar/sim/Tally", "add", "(I)V"⟩ : MethodName)) hown (mvT hZ (hw _ (List.mem_of_getElem? (i := 69) rfl))) (mvT hZ (hw _ (List.mem_of_getElem? (i := 70) rfl))) (notFace_of_selects (args := #[]) (mvT hZ (hw _ (List.mem_of_getElem? (i := 72) rfl)))) (mvT hZ (hw _ (List.mem_of_getElem? (i := 72) rfl))) (mvT hZ (hw _ (List.mem_of_getElem? (i := 71) rfl))) (by decide) (backOf (W := 0) (rma l Z a0 hw [] b2 (p2 &&& (127 : Int32)) c11 (own_z (p1 &&& (127 : Int32)) (16 : Int32)) (own_inc own_zero (p1 &&& (127 : Int32))) (1 : Int64) ((0 : Int64) + ((p1 &&& (127 : Int32)).toInt64)) (own_max (0 : Int32) (p1 &&& (127 : Int32))) cap2 T11.heap n0 Z11 Ex2_v11 nf11_0_v11 nf11_1_v11 nf11_2_v11 nf11_3_v11 nf11_4_v11 g_b2 g_c11 ne_b2_c11 I1.2.2.1 I1.1 I1.2.1 hx2a hx2b I1.2.2.2.1 hcp2 (by omega)) hZ (hw _ (List.mem_of_getElem? (i := 73) rfl)) (hw _ (List.mem_of_getElem? (i := 3) rfl)) (Nat.le_of_ble_eq_true rfl) (Nat.le_of_ble_eq_true rfl)) q20a q20c (g := (mkF m 88 #[.val (.int p1), .val (.int p2), .val (.int p3), .val (.int p4), .val (.int p5), .val (.int y1), .val (.int (p1 &&& (127 : Int32))), .val (.int (p2 &&& (127 : Int32))), .val (.int (p3 &&& (127 : Int32))), .val (.int (p4 &&& (127 : Int32))), .val (.ref b2), .val (.long ((0 : Int64) + ((p1 &&& (127 : Int32)).toInt64))), .second, .val (.int (own_max (0 : Int32) (p1 &&& (127 : Int32)))), .unset] [(.int (p2 &&& (127 : Int32))), (.ref b2)])) rfl (by rw [hml]; rfl) (Steps.refl _) (argsL := [(.int (p2 &&& (127 : Int32)))]) (rest := []) (lenOf pd_7 rfl) rfl (by show 2 * 0 + _ ≤ _; exact Nat.le_of_eq rfl) (hb hby at_88) (fun _ _ => ⟨rfl, e12, (Nat.le_of_ble_eq_true rfl), (show 20 + cap1 + cap2 ≤ 896 from by omega)⟩)
      dsimp only [Pt.U, Pt.locs, Pt.cells, Pt.slots] at X20 l20 y20 z20 st20 hQ20
      subst l20 y20 z20
      obtain ⟨c20, rfl, N20q, Kc20, g_c20, ne_b2_c20, nf20_0_v20, nf20_1_v20, nf20_2_v20, nf20_3_v20, nf20_4_v20⟩ := hQ20
      have N20 := Fr.app N12 N20q
      have Ex2_v20 := Ex2_v11.keep Kc20
      have Z20 : n0 ≤ T20.heap.size := Nat.le_trans Z11 Kc20.1
      obtain ⟨_, _, ⟨T21, L21, k21, n21⟩, -, X21, ⟨Lc21, hQ21, l21, y21, z21⟩, st21⟩ := Jvm.LawKit.callS X20 hx (y := (⟨"java/lang/Math", "max", "(II)I"⟩ : MethodName)) hown (mvT hZ (hw _ (List.mem_of_getElem? (i := 78) rfl))) (mvT hZ (hw _ (List.mem_of_getElem? (i := 75) rfl))) (mvT hZ (hw _ (List.mem_of_getElem? (i := 76) rfl))) (mvT hZ (hw _ (List.mem_of_getElem? (i := 77) rfl))) (by decide) (backOf (W := 0) (rmx l Z a0 hw [] (own_max (0 : Int32) (p1 &&& (127 : Int32))) (p2 &&& (127 : Int32)) T20.heap n0 Z20) hZ (hw _ (List.mem_of_getElem? (i := 77) rfl)) (hw _ (List.mem_of_getElem? (i := 76) rfl)) (Nat.le_of_ble_eq_true rfl) (Nat.le_of_ble_eq_true rfl)) (g := (mkF m 103 #[.val (.int p1), .val (.int p2), .val (.int p3), .val (.int p4), .val (.int p5), .val (.int y1), .val (.int (p1 &&& (127 : Int32))), .val (.int (p2 &&& (127 : Int32))), .val (.int (p3 &&& (127 : Int32))), .val (.int (p4 &&& (127 : Int32))), .val (.ref b2), .val (.long (((0 : Int64) + ((p1 &&& (127 : Int32)).toInt64)) + ((p2 &&& (127 : Int32)).toInt64))), .second, .val (.int (own_max (0 : Int32) (p1 &&& (127 : Int32)))), .unset] [(.int (p2 &&& (127 : Int32))), (.int (own_max (0 : Int32) (p1 &&& (127 : Int32))))])) rfl (by rw [hml]; rfl) (argsL := [(.int (own_max (0 : Int32) (p1 &&& (127 : Int32)))), (.int (p2 &&& (127 : Int32)))]) (rest := []) (lenOf pd_0 rfl) rfl (by show 2 * 0 + _ ≤ _; exact Nat.le_of_eq rfl) (hb hby at_103) (fun _ _ => ⟨rfl, rfl, (Nat.le_of_ble_eq_true rfl), (show 20 + cap1 + cap2 + 0 ≤ 896 from by omega)⟩)
      dsimp only [Pt.U, Pt.locs, Pt.cells, Pt.slots] at X21 l21 y21 z21 st21 hQ21
      subst l21 y21 z21
      obtain ⟨rfl, N21q, e21⟩ := hQ21
      have N21 := Fr.app N20 N21q
      have pre22 : ∀ t, Steps p.tables e below (T21.setTop (mkF m 111 #[.val (.int p1), .val (.int p2), .val (.int p3), .val (.int p4), .val (.int p5), .val (.int y1), .val (.int (p1 &&& (127 : Int32))), .val (.int (p2 &&& (127 : Int32))), .val (.int (p3 &&& (127 : Int32))), .val (.int (p4 &&& (127 : Int32))), .val (.ref b2), .val (.long (((0 : Int64) + ((p1 &&& (127 : Int32)).toInt64)) + ((p2 &&& (127 : Int32)).toInt64))), .second, .val (.int (own_max (own_max (0 : Int32) (p1 &&& (127 : Int32))) (p2 &&& (127 : Int32)))), .unset] [(.int (3 : Int32)), (.int y1)])) t → Steps p.tables e below (s₁.setTop (entryFrame m #[(.int p1), (.int p2), (.int p3), (.int p4), (.int p5)] maxLocals)) t := by
        intro t k
        refine pre13 t ?_
        show Steps p.tables e below (T12.setTop (mkF m 81 #[.val (.int p1), .val (.int p2), .val (.int p3), .val (.int p4), .val (.int p5), .val (.int y1), .val (.int (p1 &&& (127 : Int32))), .val (.int (p2 &&& (127 : Int32))), .val (.int (p3 &&& (127 : Int32))), .val (.int (p4 &&& (127 : Int32))), .val (.ref b2), .val (.long ((0 : Int64) + ((p1 &&& (127 : Int32)).toInt64))), .second, .val (.int (own_max (0 : Int32) (p1 &&& (127 : Int32)))), .unset] [(.int (2 : Int32)), (.int y1)])) _
        refine XS.icmpNo X12.here hx rfl (hb hby at_81) rfl (flt hc81_14).1 ?_
        show Steps p.tables e below (T12.setTop (mkF m 84 #[.val (.int p1), .val (.int p2), .val (.int p3), .val (.int p4), .val (.int p5), .val (.int y1), .val (.int (p1 &&& (127 : Int32))), .val (.int (p2 &&& (127 : Int32))), .val (.int (p3 &&& (127 : Int32))), .val (.int (p4 &&& (127 : Int32))), .val (.ref b2), .val (.long ((0 : Int64) + ((p1 &&& (127 : Int32)).toInt64))), .second, .val (.int (own_max (0 : Int32) (p1 &&& (127 : Int32)))), .unset] [])) _
        refine XS.aload X12.here hx rfl (hb hby at_84) rfl rfl ?_
        show Steps p.tables e below (T12.setTop (mkF m 86 #[.val (.int p1), .val (.int p2), .val (.int p3), .val (.int p4), .val (.int p5), .val (.int y1), .val (.int (p1 &&& (127 : Int32))), .val (.int (p2 &&& (127 : Int32))), .val (.int (p3 &&& (127 : Int32))), .val (.int (p4 &&& (127 : Int32))), .val (.ref b2), .val (.long ((0 : Int64) + ((p1 &&& (127 : Int32)).toInt64))), .second, .val (.int (own_max (0 : Int32) (p1 &&& (127 : Int32)))), .unset] [(.ref b2)])) _
        refine XS.iload X12.here hx rfl (hb hby at_86) rfl ?_
        show Steps p.tables e below (T12.setTop (mkF m 88 #[.val (.int p1), .val (.int p2), .val (.int p3), .val (.int p4), .val (.int p5), .val (.int y1), .val (.int (p1 &&& (127 : Int32))), .val (.int (p2 &&& (127 : Int32))), .val (.int (p3 &&& (127 : Int32))), .val (.int (p4 &&& (127 : Int32))), .val (.ref b2), .val (.long ((0 : Int64) + ((p1 &&& (127 : Int32)).toInt64))), .second, .val (.int (own_max (0 : Int32) (p1 &&& (127 : Int32)))), .unset] [(.int (p2 &&& (127 : Int32))), (.ref b2)])) _
        refine st20.trans ?_
        show Steps p.tables e below (T20.setTop (mkF m 91 #[.val (.int p1), .val (.int p2), .val (.int p3), .val (.int p4), .val (.int p5), .val (.int y1), .val (.int (p1 &&& (127 : Int32))), .val (.int (p2 &&& (127 : Int32))), .val (.int (p3 &&& (127 : Int32))), .val (.int (p4 &&& (127 : Int32))), .val (.ref b2), .val (.long ((0 : Int64) + ((p1 &&& (127 : Int32)).toInt64))), .second, .val (.int (own_max (0 : Int32) (p1 &&& (127 : Int32)))), .unset] [])) _
        refine XS.lload X20.here hx rfl (hb hby at_91) rfl ?_
        show Steps p.tables e below (T20.setTop (mkF m 93 #[.val (.int p1), .val (.int p2), .val (.int p3), .val (.int p4), .val (.int p5), .val (.int y1), .val (.int (p1 &&& (127 : Int32))), .val (.int (p2 &&& (127 : Int32))), .val (.int (p3 &&& (127 : Int32))), .val (.int (p4 &&& (127 : Int32))), .val (.ref b2), .val (.long ((0 : Int64) + ((p1 &&& (127 : Int32)).toInt64))), .second, .val (.int (own_max (0 : Int32) (p1 &&& (127 : Int32)))), .unset] [(.long ((0 : Int64) + ((p1 &&& (127 : Int32)).toInt64)))])) _
        refine XS.iload X20.here hx rfl (hb hby at_93) rfl ?_
        show Steps p.tables e below (T20.setTop (mkF m 95 #[.val (.int p1), .val (.int p2), .val (.int p3), .val (.int p4), .val (.int p5), .val (.int y1), .val (.int (p1 &&& (127 : Int32))), .val (.int (p2 &&& (127 : Int32))), .val (.int (p3 &&& (127 : Int32))), .val (.int (p4 &&& (127 : Int32))), .val (.ref b2), .val (.long ((0 : Int64) + ((p1 &&& (127 : Int32)).toInt64))), .second, .val (.int (own_max (0 : Int32) (p1 &&& (127 : Int32)))), .unset] [(.int (p2 &&& (127 : Int32))), (.long ((0 : Int64) + ((p1 &&& (127 : Int32)).toInt64)))])) _
        refine XS.i2l X20.here hx rfl (hb hby at_95) rfl ?_
        show Steps p.tables e below (T20.setTop (mkF m 96 #[.val (.int p1), .val (.int p2), .val (.int p3), .val (.int p4), .val (.int p5), .val (.int y1), .val (.int (p1 &&& (127 : Int32))), .val (.int (p2 &&& (127 : Int32))), .val (.int (p3 &&& (127 : Int32))), .val (.int (p4 &&& (127 : Int32))), .val (.ref b2), .val (.long ((0 : Int64) + ((p1 &&& (127 : Int32)).toInt64))), .second, .val (.int (own_max (0 : Int32) (p1 &&& (127 : Int32)))), .unset] [(.long ((p2 &&& (127 : Int32)).toInt64)), (.long ((0 : Int64) + ((p1 &&& (127 : Int32)).toInt64)))])) _
        refine XS.ladd X20.here hx rfl (hb hby at_96) rfl ?_
        show Steps p.tables e below (T20.setTop (mkF m 97 #[.val (.int p1), .val (.int p2), .val (.int p3), .val (.int p4), .val (.int p5), .val (.int y1), .val (.int (p1 &&& (127 : Int32))), .val (.int (p2 &&& (127 : Int32))), .val (.int (p3 &&& (127 : Int32))), .val (.int (p4 &&& (127 : Int32))), .val (.ref b2), .val (.long ((0 : Int64) + ((p1 &&& (127 : Int32)).toInt64))), .second, .val (.int (own_max (0 : Int32) (p1 &&& (127 : Int32)))), .unset] [(.long (((0 : Int64) + ((p1 &&& (127 : Int32)).toInt64)) + ((p2 &&& (127 : Int32)).toInt64)))])) _
        refine XS.lstore X20.here hx rfl (hb hby at_97) rfl (l' := #[.val (.int p1), .val (.int p2), .val (.int p3), .val (.int p4), .val (.int p5), .val (.int y1), .val (.int (p1 &&& (127 : Int32))), .val (.int (p2 &&& (127 : Int32))), .val (.int (p3 &&& (127 : Int32))), .val (.int (p4 &&& (127 : Int32))), .val (.ref b2), .val (.long (((0 : Int64) + ((p1 &&& (127 : Int32)).toInt64)) + ((p2 &&& (127 : Int32)).toInt64))), .second, .val (.int (own_max (0 : Int32) (p1 &&& (127 : Int32)))), .unset]) rfl ?_
        show Steps p.tables e below (T20.setTop (mkF m 99 #[.val (.int p1), .val (.int p2), .val (.int p3), .val (.int p4), .val (.int p5), .val (.int y1), .val (.int (p1 &&& (127 : Int32))), .val (.int (p2 &&& (127 : Int32))), .val (.int (p3 &&& (127 : Int32))), .val (.int (p4 &&& (127 : Int32))), .val (.ref b2), .val (.long (((0 : Int64) + ((p1 &&& (127 : Int32)).toInt64)) + ((p2 &&& (127 : Int32)).toInt64))), .second, .val (.int (own_max (0 : Int32) (p1 &&& (127 : Int32)))), .unset] [])) _
        refine XS.iload X20.here hx rfl (hb hby at_99) rfl ?_
        show Steps p.tables e below (T20.setTop (mkF m 101 #[.val (.int p1), .val (.int p2), .val (.int p3), .val (.int p4), .val (.int p5), .val (.int y1), .val (.int (p1 &&& (127 : Int32))), .val (.int (p2 &&& (127 : Int32))), .val (.int (p3 &&& (127 : Int32))), .val (.int (p4 &&& (127 : Int32))), .val (.ref b2), .val (.long (((0 : Int64) + ((p1 &&& (127 : Int32)).toInt64)) + ((p2 &&& (127 : Int32)).toInt64))), .second, .val (.int (own_max (0 : Int32) (p1 &&& (127 : Int32)))), .unset] [(.int (own_max (0 : Int32) (p1 &&& (127 : Int32))))])) _
        refine XS.iload X20.here hx rfl (hb hby at_101) rfl ?_
        show Steps p.tables e below (T20.setTop (mkF m 103 #[.val (.int p1), .val (.int p2), .val (.int p3), .val (.int p4), .val (.int p5), .val (.int y1), .val (.int (p1 &&& (127 : Int32))), .val (.int (p2 &&& (127 : Int32))), .val (.int (p3 &&& (127 : Int32))), .val (.int (p4 &&& (127 : Int32))), .val (.ref b2), .val (.long (((0 : Int64) + ((p1 &&& (127 : Int32)).toInt64)) + ((p2 &&& (127 : Int32)).toInt64))), .second, .val (.int (own_max (0 : Int32) (p1 &&& (127 : Int32)))), .unset] [(.int (p2 &&& (127 : Int32))), (.int (own_max (0 : Int32) (p1 &&& (127 : Int32))))])) _
        refine st21 _ ?_
        show Steps p.tables e below (T21.setTop (mkF m 106 #[.val (.int p1), .val (.int p2), .val (.int p3), .val (.int p4), .val (.int p5), .val (.int y1), .val (.int (p1 &&& (127 : Int32))), .val (.int (p2 &&& (127 : Int32))), .val (.int (p3 &&& (127 : Int32))), .val (.int (p4 &&& (127 : Int32))), .val (.ref b2), .val (.long (((0 : Int64) + ((p1 &&& (127 : Int32)).toInt64)) + ((p2 &&& (127 : Int32)).toInt64))), .second, .val (.int (own_max (0 : Int32) (p1 &&& (127 : Int32)))), .unset] [(.int (own_max (own_max (0 : Int32) (p1 &&& (127 : Int32))) (p2 &&& (127 : Int32))))])) _
        refine XS.istore X21.here hx rfl (hb hby at_106) rfl (l' := #[.val (.int p1), .val (.int p2), .val (.int p3), .val (.int p4), .val (.int p5), .val (.int y1), .val (.int (p1 &&& (127 : Int32))), .val (.int (p2 &&& (127 : Int32))), .val (.int (p3 &&& (127 : Int32))), .val (.int (p4 &&& (127 : Int32))), .val (.ref b2), .val (.long (((0 : Int64) + ((p1 &&& (127 : Int32)).toInt64)) + ((p2 &&& (127 : Int32)).toInt64))), .second, .val (.int (own_max (own_max (0 : Int32) (p1 &&& (127 : Int32))) (p2 &&& (127 : Int32)))), .unset]) rfl ?_
        show Steps p.tables e below (T21.setTop (mkF m 108 #[.val (.int p1), .val (.int p2), .val (.int p3), .val (.int p4), .val (.int p5), .val (.int y1), .val (.int (p1 &&& (127 : Int32))), .val (.int (p2 &&& (127 : Int32))), .val (.int (p3 &&& (127 : Int32))), .val (.int (p4 &&& (127 : Int32))), .val (.ref b2), .val (.long (((0 : Int64) + ((p1 &&& (127 : Int32)).toInt64)) + ((p2 &&& (127 : Int32)).toInt64))), .second, .val (.int (own_max (own_max (0 : Int32) (p1 &&& (127 : Int32))) (p2 &&& (127 : Int32)))), .unset] [])) _
        refine XS.iload X21.here hx rfl (hb hby at_108) rfl ?_
        show Steps p.tables e below (T21.setTop (mkF m 110 #[.val (.int p1), .val (.int p2), .val (.int p3), .val (.int p4), .val (.int p5), .val (.int y1), .val (.int (p1 &&& (127 : Int32))), .val (.int (p2 &&& (127 : Int32))), .val (.int (p3 &&& (127 : Int32))), .val (.int (p4 &&& (127 : Int32))), .val (.ref b2), .val (.long (((0 : Int64) + ((p1 &&& (127 : Int32)).toInt64)) + ((p2 &&& (127 : Int32)).toInt64))), .second, .val (.int (own_max (own_max (0 : Int32) (p1 &&& (127 : Int32))) (p2 &&& (127 : Int32)))), .unset] [(.int y1)])) _
        refine XS.iconst X21.here hx rfl (hb hby at_110) ?_
        exact k
      by_cases hc111_23 : y1 < (3 : Int32)
      · obtain ⟨hr1, hr2, hr3⟩ := own_top2 hx1a hx1b hx2a hx2b
        obtain ⟨cq24, kq24, q24a, q24b, q24c⟩ := isOf hZ e21 Ex2_v20
        obtain ⟨_, _, ⟨T24, L24, k24, n24⟩, -, X24, ⟨Lc24, hQ24, l24, y24, z24⟩, st24⟩ := X21.virtualBack hx (y := (⟨"nachbar/sim/Tally", "summary", "()Lnachbar/sim/Summary;"⟩ : MethodName)) (z := (⟨"nachbar/sim/Tally", "summary", "()Lnachbar/sim/Summary;"⟩ : MethodName)) hown (mvT hZ (hw _ (List.mem_of_getElem? (i := 13) rfl))) (mvT hZ (hw _ (List.mem_of_getElem? (i := 14) rfl))) (notFace_of_selects (args := #[]) (mvT hZ (hw _ (List.mem_of_getElem? (i := 16) rfl)))) (mvT hZ (hw _ (List.mem_of_getElem? (i := 16) rfl))) (mvT hZ (hw _ (List.mem_of_getElem? (i := 15) rfl))) (by decide) (backOf (W := 0) (rmu l Z a0 hw [] b2 c20 (own_z (p2 &&& (127 : Int32)) (own_z (p1 &&& (127 : Int32)) (16 : Int32))) (own_inc (own_inc own_zero (p1 &&& (127 : Int32))) (p2 &&& (127 : Int32))) (2 : Int64) (((0 : Int64) + ((p1 &&& (127 : Int32)).toInt64)) + ((p2 &&& (127 : Int32)).toInt64)) (own_max (own_max (0 : Int32) (p1 &&& (127 : Int32))) (p2 &&& (127 : Int32))) ((own_max (own_max (0 : Int32) (p1 &&& (127 : Int32))) (p2 &&& (127 : Int32)))).toNatClampNeg T20.heap n0 Z20 Ex2_v20 nf20_0_v20 nf20_1_v20 nf20_2_v20 nf20_3_v20 nf20_4_v20 I2.2.2.1 hr1 hr2 (Nat.lt_of_lt_of_le hr3 I2.2.2.2.2)) hZ (hw _ (List.mem_of_getElem? (i := 17) rfl)) (hw _ (List.mem_of_getElem? (i := 3) rfl)) (Nat.le_of_ble_eq_true rfl) (Nat.le_of_ble_eq_true rfl)) q24a q24c (g := (mkF m 170 #[.val (.int p1), .val (.int p2), .val (.int p3), .val (.int p4), .val (.int p5), .val (.int y1), .val (.int (p1 &&& (127 : Int32))), .val (.int (p2 &&& (127 : Int32))), .val (.int (p3 &&& (127 : Int32))), .val (.int (p4 &&& (127 : Int32))), .val (.ref b2), .val (.long (((0 : Int64) + ((p1 &&& (127 : Int32)).toInt64)) + ((p2 &&& (127 : Int32)).toInt64))), .second, .val (.int (own_max (own_max (0 : Int32) (p1 &&& (127 : Int32))) (p2 &&& (127 : Int32)))), .unset] [(.ref b2)])) rfl (by rw [hml]; rfl) (Steps.refl _) (argsL := []) (rest := []) (lenOf pd_5 rfl) rfl (by show 2 * 0 + _ ≤ _; exact Nat.le_of_eq rfl) (hb hby at_170) (fun _ _ => ⟨rfl, e21, (Nat.le_of_ble_eq_true rfl), (show 20 + cap1 + cap2 + 4 ≤ 896 from by omega)⟩)
        dsimp only [Pt.U, Pt.locs, Pt.cells, Pt.slots] at X24 l24 y24 z24 st24 hQ24
        subst l24 y24 z24
        obtain ⟨b24, rfl, N24q, Kc24, sb24, nfE24_v24, nf24_0_v24, nf24_1_v24, nf24_2_v24, nf24_3_v24⟩ := hQ24
        have N24 := Fr.app N21 N24q
        have Ex2_v24 := Ex2_v20.keep Kc24
        have nf20_0_v24 := nf20_0_v20.keep Kc24 nin0
        have nf20_1_v24 := nf20_1_v20.keep Kc24 nin0
        have nf20_2_v24 := nf20_2_v20.keep Kc24 nin0
        have nf20_3_v24 := nf20_3_v20.keep Kc24 nin0
        have nf20_4_v24 := nf20_4_v20.keep Kc24 nin0
        have Z24 : n0 ≤ T24.heap.size := Nat.le_trans Z20 Kc24.1
        obtain ⟨cq25, kq25, q25a, q25b, q25c⟩ := isOf hZ rfl nfE24_v24
        obtain ⟨_, _, ⟨T25, L25, k25, n25⟩, -, X25, ⟨Lc25, hQ25, l25, y25, z25⟩, st25⟩ := X24.virtualBack hx (y := (⟨"nachbar/sim/Summary", "count", "()J"⟩ : MethodName)) (z := (⟨"nachbar/sim/Summary", "count", "()J"⟩ : MethodName)) hown (mvT hZ (hw _ (List.mem_of_getElem? (i := 49) rfl))) (mvT hZ (hw _ (List.mem_of_getElem? (i := 50) rfl))) (notFace_of_selects (args := #[]) (mvT hZ (hw _ (List.mem_of_getElem? (i := 52) rfl)))) (mvT hZ (hw _ (List.mem_of_getElem? (i := 52) rfl))) (mvT hZ (hw _ (List.mem_of_getElem? (i := 51) rfl))) (by decide) (backOf (W := 0) (rg_count l Z a0 hw [] b24 (2 : Int64) T24.heap n0 Z24 nf24_0_v24) hZ (hw _ (List.mem_of_getElem? (i := 53) rfl)) (hw _ (List.mem_of_getElem? (i := 22) rfl)) (Nat.le_of_ble_eq_true rfl) (Nat.le_of_ble_eq_true rfl)) q25a q25c (g := (mkF m 177 #[.val (.int p1), .val (.int p2), .val (.int p3), .val (.int p4), .val (.int p5), .val (.int y1), .val (.int (p1 &&& (127 : Int32))), .val (.int (p2 &&& (127 : Int32))), .val (.int (p3 &&& (127 : Int32))), .val (.int (p4 &&& (127 : Int32))), .val (.ref b2), .val (.long (((0 : Int64) + ((p1 &&& (127 : Int32)).toInt64)) + ((p2 &&& (127 : Int32)).toInt64))), .second, .val (.int (own_max (own_max (0 : Int32) (p1 &&& (127 : Int32))) (p2 &&& (127 : Int32)))), .val (.ref b24)] [(.ref b24)])) rfl (by rw [hml]; rfl) (Steps.refl _) (argsL := []) (rest := []) (lenOf pd_6 rfl) rfl (by show 2 * 0 + _ ≤ _; exact Nat.le_of_eq rfl) (hb hby at_177) (fun _ _ => ⟨rfl, rfl, (Nat.le_of_ble_eq_true rfl), (show 20 + cap1 + cap2 + 4 + 0 ≤ 896 from by omega)⟩)
        dsimp only [Pt.U, Pt.locs, Pt.cells, Pt.slots] at X25 l25 y25 z25 st25 hQ25
        subst l25 y25 z25
        obtain ⟨rfl, N25q, e25⟩ := hQ25
        have N25 := Fr.app N24 N25q
        obtain ⟨cq26, kq26, q26a, q26b, q26c⟩ := isOf hZ e25 nfE24_v24
        obtain ⟨_, _, ⟨T26, L26, k26, n26⟩, -, X26, ⟨Lc26, hQ26, l26, y26, z26⟩, st26⟩ := X25.virtualBack hx (y := (⟨"nachbar/sim/Summary", "sum", "()J"⟩ : MethodName)) (z := (⟨"nachbar/sim/Summary", "sum", "()J"⟩ : MethodName)) hown (mvT hZ (hw _ (List.mem_of_getElem? (i := 54) rfl))) (mvT hZ (hw _ (List.mem_of_getElem? (i := 55) rfl))) (notFace_of_selects (args := #[]) (mvT hZ (hw _ (List.mem_of_getElem? (i := 57) rfl)))) (mvT hZ (hw _ (List.mem_of_getElem? (i := 57) rfl))) (mvT hZ (hw _ (List.mem_of_getElem? (i := 56) rfl))) (by decide) (backOf (W := 0) (rg_sum l Z a0 hw [] b24 (((0 : Int64) + ((p1 &&& (127 : Int32)).toInt64)) + ((p2 &&& (127 : Int32)).toInt64)) T24.heap n0 Z24 nf24_1_v24) hZ (hw _ (List.mem_of_getElem? (i := 58) rfl)) (hw _ (List.mem_of_getElem? (i := 22) rfl)) (Nat.le_of_ble_eq_true rfl) (Nat.le_of_ble_eq_true rfl)) q26a q26c (g := (mkF m 189 #[.val (.int p1), .val (.int p2), .val (.int p3), .val (.int p4), .val (.int p5), .val (.int y1), .val (.int (p1 &&& (127 : Int32))), .val (.int (p2 &&& (127 : Int32))), .val (.int (p3 &&& (127 : Int32))), .val (.int (p4 &&& (127 : Int32))), .val (.ref b2), .val (.long (((0 : Int64) + ((p1 &&& (127 : Int32)).toInt64)) + ((p2 &&& (127 : Int32)).toInt64))), .second, .val (.int (own_max (own_max (0 : Int32) (p1 &&& (127 : Int32))) (p2 &&& (127 : Int32)))), .val (.ref b24)] [(.ref b24)])) rfl (by rw [hml]; rfl) (Steps.refl _) (argsL := []) (rest := []) (lenOf pd_6 rfl) rfl (by show 2 * 0 + _ ≤ _; exact Nat.le_of_eq rfl) (hb hby at_189) (fun _ _ => ⟨rfl, e25, (Nat.le_of_ble_eq_true rfl), (show 20 + cap1 + cap2 + 4 + 0 ≤ 896 from by omega)⟩)
        dsimp only [Pt.U, Pt.locs, Pt.cells, Pt.slots] at X26 l26 y26 z26 st26 hQ26
        subst l26 y26 z26
        obtain ⟨rfl, N26q, e26⟩ := hQ26
        have N26 := Fr.app N25 N26q
        obtain ⟨cq27, kq27, q27a, q27b, q27c⟩ := isOf hZ e26 nfE24_v24
        obtain ⟨_, _, ⟨T27, L27, k27, n27⟩, -, X27, ⟨Lc27, hQ27, l27, y27, z27⟩, st27⟩ := X26.virtualBack hx (y := (⟨"nachbar/sim/Summary", "max", "()J"⟩ : MethodName)) (z := (⟨"nachbar/sim/Summary", "max", "()J"⟩ : MethodName)) hown (mvT hZ (hw _ (List.mem_of_getElem? (i := 59) rfl))) (mvT hZ (hw _ (List.mem_of_getElem? (i := 60) rfl))) (notFace_of_selects (args := #[]) (mvT hZ (hw _ (List.mem_of_getElem? (i := 62) rfl)))) (mvT hZ (hw _ (List.mem_of_getElem? (i := 62) rfl))) (mvT hZ (hw _ (List.mem_of_getElem? (i := 61) rfl))) (by decide) (backOf (W := 0) (rg_max l Z a0 hw [] b24 ((own_max (own_max (0 : Int32) (p1 &&& (127 : Int32))) (p2 &&& (127 : Int32))).toInt64) T24.heap n0 Z24 nf24_3_v24) hZ (hw _ (List.mem_of_getElem? (i := 63) rfl)) (hw _ (List.mem_of_getElem? (i := 22) rfl)) (Nat.le_of_ble_eq_true rfl) (Nat.le_of_ble_eq_true rfl)) q27a q27c (g := (mkF m 200 #[.val (.int p1), .val (.int p2), .val (.int p3), .val (.int p4), .val (.int p5), .val (.int y1), .val (.int (p1 &&& (127 : Int32))), .val (.int (p2 &&& (127 : Int32))), .val (.int (p3 &&& (127 : Int32))), .val (.int (p4 &&& (127 : Int32))), .val (.ref b2), .val (.long (((0 : Int64) + ((p1 &&& (127 : Int32)).toInt64)) + ((p2 &&& (127 : Int32)).toInt64))), .second, .val (.int (own_max (own_max (0 : Int32) (p1 &&& (127 : Int32))) (p2 &&& (127 : Int32)))), .val (.ref b24)] [(.ref b24)])) rfl (by rw [hml]; rfl) (Steps.refl _) (argsL := []) (rest := []) (lenOf pd_6 rfl) rfl (by show 2 * 0 + _ ≤ _; exact Nat.le_of_eq rfl) (hb hby at_200) (fun _ _ => ⟨rfl, e26, (Nat.le_of_ble_eq_true rfl), (show 20 + cap1 + cap2 + 4 + 0 ≤ 896 from by omega)⟩)
        dsimp only [Pt.U, Pt.locs, Pt.cells, Pt.slots] at X27 l27 y27 z27 st27 hQ27
        subst l27 y27 z27
        obtain ⟨rfl, N27q, e27⟩ := hQ27
        have N27 := Fr.app N26 N27q
        obtain ⟨cq28, kq28, q28a, q28b, q28c⟩ := isOf hZ e27 nfE24_v24
        obtain ⟨_, _, ⟨T28, L28, k28, n28⟩, -, X28, ⟨Lc28, hQ28, l28, y28, z28⟩, st28⟩ := X27.virtualBack hx (y := (⟨"nachbar/sim/Summary", "p99", "()J"⟩ : MethodName)) (z := (⟨"nachbar/sim/Summary", "p99", "()J"⟩ : MethodName)) hown (mvT hZ (hw _ (List.mem_of_getElem? (i := 64) rfl))) (mvT hZ (hw _ (List.mem_of_getElem? (i := 65) rfl))) (notFace_of_selects (args := #[]) (mvT hZ (hw _ (List.mem_of_getElem? (i := 67) rfl)))) (mvT hZ (hw _ (List.mem_of_getElem? (i := 67) rfl))) (mvT hZ (hw _ (List.mem_of_getElem? (i := 66) rfl))) (by decide) (backOf (W := 0) (rg_p99 l Z a0 hw [] b24 ((Int32.ofNat ((own_max (own_max (0 : Int32) (p1 &&& (127 : Int32))) (p2 &&& (127 : Int32)))).toNatClampNeg).toInt64) T24.heap n0 Z24 nf24_2_v24) hZ (hw _ (List.mem_of_getElem? (i := 68) rfl)) (hw _ (List.mem_of_getElem? (i := 22) rfl)) (Nat.le_of_ble_eq_true rfl) (Nat.le_of_ble_eq_true rfl)) q28a q28c (g := (mkF m 212 #[.val (.int p1), .val (.int p2), .val (.int p3), .val (.int p4), .val (.int p5), .val (.int y1), .val (.int (p1 &&& (127 : Int32))), .val (.int (p2 &&& (127 : Int32))), .val (.int (p3 &&& (127 : Int32))), .val (.int (p4 &&& (127 : Int32))), .val (.ref b2), .val (.long (((0 : Int64) + ((p1 &&& (127 : Int32)).toInt64)) + ((p2 &&& (127 : Int32)).toInt64))), .second, .val (.int (own_max (own_max (0 : Int32) (p1 &&& (127 : Int32))) (p2 &&& (127 : Int32)))), .val (.ref b24)] [(.ref b24)])) rfl (by rw [hml]; rfl) (Steps.refl _) (argsL := []) (rest := []) (lenOf pd_6 rfl) rfl (by show 2 * 0 + _ ≤ _; exact Nat.le_of_eq rfl) (hb hby at_212) (fun _ _ => ⟨rfl, e27, (Nat.le_of_ble_eq_true rfl), (show 20 + cap1 + cap2 + 4 + 0 ≤ 896 from by omega)⟩)
        dsimp only [Pt.U, Pt.locs, Pt.cells, Pt.slots] at X28 l28 y28 z28 st28 hQ28
        subst l28 y28 z28
        obtain ⟨rfl, N28q, e28⟩ := hQ28
        have N28 := Fr.app N27 N28q
        obtain ⟨fs, hr, hrun, hended, hW, hsame⟩ := X28.leave (v := some (.int (1 : Int32))) (fun h => by rw [Bd.returns] at h; cases h)
        refine ⟨_, _, pre22 _ ?_, hrun, hended, _, _, rfl, ?_, ⟨_, rfl⟩, hW, hsame.mono (Nat.le_of_ble_eq_true rfl) (show 20 + cap1 + cap2 + 4 ≤ 896 from by omega)⟩
        · show Steps p.tables e below (T21.setTop (mkF m 111 #[.val (.int p1), .val (.int p2), .val (.int p3), .val (.int p4), .val (.int p5), .val (.int y1), .val (.int (p1 &&& (127 : Int32))), .val (.int (p2 &&& (127 : Int32))), .val (.int (p3 &&& (127 : Int32))), .val (.int (p4 &&& (127 : Int32))), .val (.ref b2), .val (.long (((0 : Int64) + ((p1 &&& (127 : Int32)).toInt64)) + ((p2 &&& (127 : Int32)).toInt64))), .second, .val (.int (own_max (own_max (0 : Int32) (p1 &&& (127 : Int32))) (p2 &&& (127 : Int32)))), .unset] [(.int (3 : Int32)), (.int y1)])) _
          refine XS.icmpYes X21.here hx rfl (pc0 := 111) (pc' := 138) rfl (hb hby at_111) rfl (tlt hc111_23).1 (by decide) (by decide) ?_
          show Steps p.tables e below (T21.setTop (mkF m 138 #[.val (.int p1), .val (.int p2), .val (.int p3), .val (.int p4), .val (.int p5), .val (.int y1), .val (.int (p1 &&& (127 : Int32))), .val (.int (p2 &&& (127 : Int32))), .val (.int (p3 &&& (127 : Int32))), .val (.int (p4 &&& (127 : Int32))), .val (.ref b2), .val (.long (((0 : Int64) + ((p1 &&& (127 : Int32)).toInt64)) + ((p2 &&& (127 : Int32)).toInt64))), .second, .val (.int (own_max (own_max (0 : Int32) (p1 &&& (127 : Int32))) (p2 &&& (127 : Int32)))), .unset] [])) _
          refine XS.iload X21.here hx rfl (hb hby at_138) rfl ?_
          show Steps p.tables e below (T21.setTop (mkF m 140 #[.val (.int p1), .val (.int p2), .val (.int p3), .val (.int p4), .val (.int p5), .val (.int y1), .val (.int (p1 &&& (127 : Int32))), .val (.int (p2 &&& (127 : Int32))), .val (.int (p3 &&& (127 : Int32))), .val (.int (p4 &&& (127 : Int32))), .val (.ref b2), .val (.long (((0 : Int64) + ((p1 &&& (127 : Int32)).toInt64)) + ((p2 &&& (127 : Int32)).toInt64))), .second, .val (.int (own_max (own_max (0 : Int32) (p1 &&& (127 : Int32))) (p2 &&& (127 : Int32)))), .unset] [(.int y1)])) _
          refine XS.iconst X21.here hx rfl (hb hby at_140) ?_
          show Steps p.tables e below (T21.setTop (mkF m 141 #[.val (.int p1), .val (.int p2), .val (.int p3), .val (.int p4), .val (.int p5), .val (.int y1), .val (.int (p1 &&& (127 : Int32))), .val (.int (p2 &&& (127 : Int32))), .val (.int (p3 &&& (127 : Int32))), .val (.int (p4 &&& (127 : Int32))), .val (.ref b2), .val (.long (((0 : Int64) + ((p1 &&& (127 : Int32)).toInt64)) + ((p2 &&& (127 : Int32)).toInt64))), .second, .val (.int (own_max (own_max (0 : Int32) (p1 &&& (127 : Int32))) (p2 &&& (127 : Int32)))), .unset] [(.int (4 : Int32)), (.int y1)])) _
          refine XS.icmpYes X21.here hx rfl (pc0 := 141) (pc' := 168) rfl (hb hby at_141) rfl (tlt (Int32.lt_trans hc111_23 (by decide : (3 : Int32) < (4 : Int32)))).1 (by decide) (by decide) ?_
          show Steps p.tables e below (T21.setTop (mkF m 168 #[.val (.int p1), .val (.int p2), .val (.int p3), .val (.int p4), .val (.int p5), .val (.int y1), .val (.int (p1 &&& (127 : Int32))), .val (.int (p2 &&& (127 : Int32))), .val (.int (p3 &&& (127 : Int32))), .val (.int (p4 &&& (127 : Int32))), .val (.ref b2), .val (.long (((0 : Int64) + ((p1 &&& (127 : Int32)).toInt64)) + ((p2 &&& (127 : Int32)).toInt64))), .second, .val (.int (own_max (own_max (0 : Int32) (p1 &&& (127 : Int32))) (p2 &&& (127 : Int32)))), .unset] [])) _
          refine XS.aload X21.here hx rfl (hb hby at_168) rfl rfl ?_
          show Steps p.tables e below (T21.setTop (mkF m 170 #[.val (.int p1), .val (.int p2), .val (.int p3), .val (.int p4), .val (.int p5), .val (.int y1), .val (.int (p1 &&& (127 : Int32))), .val (.int (p2 &&& (127 : Int32))), .val (.int (p3 &&& (127 : Int32))), .val (.int (p4 &&& (127 : Int32))), .val (.ref b2), .val (.long (((0 : Int64) + ((p1 &&& (127 : Int32)).toInt64)) + ((p2 &&& (127 : Int32)).toInt64))), .second, .val (.int (own_max (own_max (0 : Int32) (p1 &&& (127 : Int32))) (p2 &&& (127 : Int32)))), .unset] [(.ref b2)])) _
          refine st24.trans ?_
          show Steps p.tables e below (T24.setTop (mkF m 173 #[.val (.int p1), .val (.int p2), .val (.int p3), .val (.int p4), .val (.int p5), .val (.int y1), .val (.int (p1 &&& (127 : Int32))), .val (.int (p2 &&& (127 : Int32))), .val (.int (p3 &&& (127 : Int32))), .val (.int (p4 &&& (127 : Int32))), .val (.ref b2), .val (.long (((0 : Int64) + ((p1 &&& (127 : Int32)).toInt64)) + ((p2 &&& (127 : Int32)).toInt64))), .second, .val (.int (own_max (own_max (0 : Int32) (p1 &&& (127 : Int32))) (p2 &&& (127 : Int32)))), .unset] [(.ref b24)])) _
          refine XS.astore X24.here hx rfl (hb hby at_173) rfl rfl (l' := #[.val (.int p1), .val (.int p2), .val (.int p3), .val (.int p4), .val (.int p5), .val (.int y1), .val (.int (p1 &&& (127 : Int32))), .val (.int (p2 &&& (127 : Int32))), .val (.int (p3 &&& (127 : Int32))), .val (.int (p4 &&& (127 : Int32))), .val (.ref b2), .val (.long (((0 : Int64) + ((p1 &&& (127 : Int32)).toInt64)) + ((p2 &&& (127 : Int32)).toInt64))), .second, .val (.int (own_max (own_max (0 : Int32) (p1 &&& (127 : Int32))) (p2 &&& (127 : Int32)))), .val (.ref b24)]) rfl ?_
          show Steps p.tables e below (T24.setTop (mkF m 175 #[.val (.int p1), .val (.int p2), .val (.int p3), .val (.int p4), .val (.int p5), .val (.int y1), .val (.int (p1 &&& (127 : Int32))), .val (.int (p2 &&& (127 : Int32))), .val (.int (p3 &&& (127 : Int32))), .val (.int (p4 &&& (127 : Int32))), .val (.ref b2), .val (.long (((0 : Int64) + ((p1 &&& (127 : Int32)).toInt64)) + ((p2 &&& (127 : Int32)).toInt64))), .second, .val (.int (own_max (own_max (0 : Int32) (p1 &&& (127 : Int32))) (p2 &&& (127 : Int32)))), .val (.ref b24)] [])) _
          refine XS.aload X24.here hx rfl (hb hby at_175) rfl rfl ?_
          show Steps p.tables e below (T24.setTop (mkF m 177 #[.val (.int p1), .val (.int p2), .val (.int p3), .val (.int p4), .val (.int p5), .val (.int y1), .val (.int (p1 &&& (127 : Int32))), .val (.int (p2 &&& (127 : Int32))), .val (.int (p3 &&& (127 : Int32))), .val (.int (p4 &&& (127 : Int32))), .val (.ref b2), .val (.long (((0 : Int64) + ((p1 &&& (127 : Int32)).toInt64)) + ((p2 &&& (127 : Int32)).toInt64))), .second, .val (.int (own_max (own_max (0 : Int32) (p1 &&& (127 : Int32))) (p2 &&& (127 : Int32)))), .val (.ref b24)] [(.ref b24)])) _
          refine st25.trans ?_
          show Steps p.tables e below (T25.setTop (mkF m 180 #[.val (.int p1), .val (.int p2), .val (.int p3), .val (.int p4), .val (.int p5), .val (.int y1), .val (.int (p1 &&& (127 : Int32))), .val (.int (p2 &&& (127 : Int32))), .val (.int (p3 &&& (127 : Int32))), .val (.int (p4 &&& (127 : Int32))), .val (.ref b2), .val (.long (((0 : Int64) + ((p1 &&& (127 : Int32)).toInt64)) + ((p2 &&& (127 : Int32)).toInt64))), .second, .val (.int (own_max (own_max (0 : Int32) (p1 &&& (127 : Int32))) (p2 &&& (127 : Int32)))), .val (.ref b24)] [(.long (2 : Int64))])) _
          refine XS.iload X25.here hx rfl (hb hby at_180) rfl ?_
          show Steps p.tables e below (T25.setTop (mkF m 182 #[.val (.int p1), .val (.int p2), .val (.int p3), .val (.int p4), .val (.int p5), .val (.int y1), .val (.int (p1 &&& (127 : Int32))), .val (.int (p2 &&& (127 : Int32))), .val (.int (p3 &&& (127 : Int32))), .val (.int (p4 &&& (127 : Int32))), .val (.ref b2), .val (.long (((0 : Int64) + ((p1 &&& (127 : Int32)).toInt64)) + ((p2 &&& (127 : Int32)).toInt64))), .second, .val (.int (own_max (own_max (0 : Int32) (p1 &&& (127 : Int32))) (p2 &&& (127 : Int32)))), .val (.ref b24)] [(.int y1), (.long (2 : Int64))])) _
          refine XS.i2l X25.here hx rfl (hb hby at_182) rfl ?_
          show Steps p.tables e below (T25.setTop (mkF m 183 #[.val (.int p1), .val (.int p2), .val (.int p3), .val (.int p4), .val (.int p5), .val (.int y1), .val (.int (p1 &&& (127 : Int32))), .val (.int (p2 &&& (127 : Int32))), .val (.int (p3 &&& (127 : Int32))), .val (.int (p4 &&& (127 : Int32))), .val (.ref b2), .val (.long (((0 : Int64) + ((p1 &&& (127 : Int32)).toInt64)) + ((p2 &&& (127 : Int32)).toInt64))), .second, .val (.int (own_max (own_max (0 : Int32) (p1 &&& (127 : Int32))) (p2 &&& (127 : Int32)))), .val (.ref b24)] [(.long (y1.toInt64)), (.long (2 : Int64))])) _
          refine XS.lcmp X25.here hx rfl (hb hby at_183) rfl ?_
          show Steps p.tables e below (T25.setTop (mkF m 184 #[.val (.int p1), .val (.int p2), .val (.int p3), .val (.int p4), .val (.int p5), .val (.int y1), .val (.int (p1 &&& (127 : Int32))), .val (.int (p2 &&& (127 : Int32))), .val (.int (p3 &&& (127 : Int32))), .val (.int (p4 &&& (127 : Int32))), .val (.ref b2), .val (.long (((0 : Int64) + ((p1 &&& (127 : Int32)).toInt64)) + ((p2 &&& (127 : Int32)).toInt64))), .second, .val (.int (own_max (own_max (0 : Int32) (p1 &&& (127 : Int32))) (p2 &&& (127 : Int32)))), .val (.ref b24)] [(.int (lcmpW (2 : Int64) (y1.toInt64)))])) _
          refine XS.ifNo X25.here hx rfl (hb hby at_184) rfl ((if0 _ _).trans (teq (own_cnt (2 : Int64) 2 (by decide) (by decide) (own_ge hc81_14) (own_lt5 hc111_23))).2) ?_
          show Steps p.tables e below (T25.setTop (mkF m 187 #[.val (.int p1), .val (.int p2), .val (.int p3), .val (.int p4), .val (.int p5), .val (.int y1), .val (.int (p1 &&& (127 : Int32))), .val (.int (p2 &&& (127 : Int32))), .val (.int (p3 &&& (127 : Int32))), .val (.int (p4 &&& (127 : Int32))), .val (.ref b2), .val (.long (((0 : Int64) + ((p1 &&& (127 : Int32)).toInt64)) + ((p2 &&& (127 : Int32)).toInt64))), .second, .val (.int (own_max (own_max (0 : Int32) (p1 &&& (127 : Int32))) (p2 &&& (127 : Int32)))), .val (.ref b24)] [])) _
          refine XS.aload X25.here hx rfl (hb hby at_187) rfl rfl ?_
          show Steps p.tables e below (T25.setTop (mkF m 189 #[.val (.int p1), .val (.int p2), .val (.int p3), .val (.int p4), .val (.int p5), .val (.int y1), .val (.int (p1 &&& (127 : Int32))), .val (.int (p2 &&& (127 : Int32))), .val (.int (p3 &&& (127 : Int32))), .val (.int (p4 &&& (127 : Int32))), .val (.ref b2), .val (.long (((0 : Int64) + ((p1 &&& (127 : Int32)).toInt64)) + ((p2 &&& (127 : Int32)).toInt64))), .second, .val (.int (own_max (own_max (0 : Int32) (p1 &&& (127 : Int32))) (p2 &&& (127 : Int32)))), .val (.ref b24)] [(.ref b24)])) _
          refine st26.trans ?_
          show Steps p.tables e below (T26.setTop (mkF m 192 #[.val (.int p1), .val (.int p2), .val (.int p3), .val (.int p4), .val (.int p5), .val (.int y1), .val (.int (p1 &&& (127 : Int32))), .val (.int (p2 &&& (127 : Int32))), .val (.int (p3 &&& (127 : Int32))), .val (.int (p4 &&& (127 : Int32))), .val (.ref b2), .val (.long (((0 : Int64) + ((p1 &&& (127 : Int32)).toInt64)) + ((p2 &&& (127 : Int32)).toInt64))), .second, .val (.int (own_max (own_max (0 : Int32) (p1 &&& (127 : Int32))) (p2 &&& (127 : Int32)))), .val (.ref b24)] [(.long (((0 : Int64) + ((p1 &&& (127 : Int32)).toInt64)) + ((p2 &&& (127 : Int32)).toInt64)))])) _
          refine XS.lload X26.here hx rfl (hb hby at_192) rfl ?_
          show Steps p.tables e below (T26.setTop (mkF m 194 #[.val (.int p1), .val (.int p2), .val (.int p3), .val (.int p4), .val (.int p5), .val (.int y1), .val (.int (p1 &&& (127 : Int32))), .val (.int (p2 &&& (127 : Int32))), .val (.int (p3 &&& (127 : Int32))), .val (.int (p4 &&& (127 : Int32))), .val (.ref b2), .val (.long (((0 : Int64) + ((p1 &&& (127 : Int32)).toInt64)) + ((p2 &&& (127 : Int32)).toInt64))), .second, .val (.int (own_max (own_max (0 : Int32) (p1 &&& (127 : Int32))) (p2 &&& (127 : Int32)))), .val (.ref b24)] [(.long (((0 : Int64) + ((p1 &&& (127 : Int32)).toInt64)) + ((p2 &&& (127 : Int32)).toInt64))), (.long (((0 : Int64) + ((p1 &&& (127 : Int32)).toInt64)) + ((p2 &&& (127 : Int32)).toInt64)))])) _
          refine XS.lcmp X26.here hx rfl (hb hby at_194) rfl ?_
          show Steps p.tables e below (T26.setTop (mkF m 195 #[.val (.int p1), .val (.int p2), .val (.int p3), .val (.int p4), .val (.int p5), .val (.int y1), .val (.int (p1 &&& (127 : Int32))), .val (.int (p2 &&& (127 : Int32))), .val (.int (p3 &&& (127 : Int32))), .val (.int (p4 &&& (127 : Int32))), .val (.ref b2), .val (.long (((0 : Int64) + ((p1 &&& (127 : Int32)).toInt64)) + ((p2 &&& (127 : Int32)).toInt64))), .second, .val (.int (own_max (own_max (0 : Int32) (p1 &&& (127 : Int32))) (p2 &&& (127 : Int32)))), .val (.ref b24)] [(.int (lcmpW (((0 : Int64) + ((p1 &&& (127 : Int32)).toInt64)) + ((p2 &&& (127 : Int32)).toInt64)) (((0 : Int64) + ((p1 &&& (127 : Int32)).toInt64)) + ((p2 &&& (127 : Int32)).toInt64))))])) _
          refine XS.ifNo X26.here hx rfl (hb hby at_195) rfl ((if0 _ _).trans (teq (((lw_eq _ _).mpr rfl) : ((lcmpW (((0 : Int64) + ((p1 &&& (127 : Int32)).toInt64)) + ((p2 &&& (127 : Int32)).toInt64)) (((0 : Int64) + ((p1 &&& (127 : Int32)).toInt64)) + ((p2 &&& (127 : Int32)).toInt64))) = (0 : Int32)))).2) ?_
          show Steps p.tables e below (T26.setTop (mkF m 198 #[.val (.int p1), .val (.int p2), .val (.int p3), .val (.int p4), .val (.int p5), .val (.int y1), .val (.int (p1 &&& (127 : Int32))), .val (.int (p2 &&& (127 : Int32))), .val (.int (p3 &&& (127 : Int32))), .val (.int (p4 &&& (127 : Int32))), .val (.ref b2), .val (.long (((0 : Int64) + ((p1 &&& (127 : Int32)).toInt64)) + ((p2 &&& (127 : Int32)).toInt64))), .second, .val (.int (own_max (own_max (0 : Int32) (p1 &&& (127 : Int32))) (p2 &&& (127 : Int32)))), .val (.ref b24)] [])) _
          refine XS.aload X26.here hx rfl (hb hby at_198) rfl rfl ?_
          show Steps p.tables e below (T26.setTop (mkF m 200 #[.val (.int p1), .val (.int p2), .val (.int p3), .val (.int p4), .val (.int p5), .val (.int y1), .val (.int (p1 &&& (127 : Int32))), .val (.int (p2 &&& (127 : Int32))), .val (.int (p3 &&& (127 : Int32))), .val (.int (p4 &&& (127 : Int32))), .val (.ref b2), .val (.long (((0 : Int64) + ((p1 &&& (127 : Int32)).toInt64)) + ((p2 &&& (127 : Int32)).toInt64))), .second, .val (.int (own_max (own_max (0 : Int32) (p1 &&& (127 : Int32))) (p2 &&& (127 : Int32)))), .val (.ref b24)] [(.ref b24)])) _
          refine st27.trans ?_
          show Steps p.tables e below (T27.setTop (mkF m 203 #[.val (.int p1), .val (.int p2), .val (.int p3), .val (.int p4), .val (.int p5), .val (.int y1), .val (.int (p1 &&& (127 : Int32))), .val (.int (p2 &&& (127 : Int32))), .val (.int (p3 &&& (127 : Int32))), .val (.int (p4 &&& (127 : Int32))), .val (.ref b2), .val (.long (((0 : Int64) + ((p1 &&& (127 : Int32)).toInt64)) + ((p2 &&& (127 : Int32)).toInt64))), .second, .val (.int (own_max (own_max (0 : Int32) (p1 &&& (127 : Int32))) (p2 &&& (127 : Int32)))), .val (.ref b24)] [(.long ((own_max (own_max (0 : Int32) (p1 &&& (127 : Int32))) (p2 &&& (127 : Int32))).toInt64))])) _
          refine XS.iload X27.here hx rfl (hb hby at_203) rfl ?_
          show Steps p.tables e below (T27.setTop (mkF m 205 #[.val (.int p1), .val (.int p2), .val (.int p3), .val (.int p4), .val (.int p5), .val (.int y1), .val (.int (p1 &&& (127 : Int32))), .val (.int (p2 &&& (127 : Int32))), .val (.int (p3 &&& (127 : Int32))), .val (.int (p4 &&& (127 : Int32))), .val (.ref b2), .val (.long (((0 : Int64) + ((p1 &&& (127 : Int32)).toInt64)) + ((p2 &&& (127 : Int32)).toInt64))), .second, .val (.int (own_max (own_max (0 : Int32) (p1 &&& (127 : Int32))) (p2 &&& (127 : Int32)))), .val (.ref b24)] [(.int (own_max (own_max (0 : Int32) (p1 &&& (127 : Int32))) (p2 &&& (127 : Int32)))), (.long ((own_max (own_max (0 : Int32) (p1 &&& (127 : Int32))) (p2 &&& (127 : Int32))).toInt64))])) _
          refine XS.i2l X27.here hx rfl (hb hby at_205) rfl ?_
          show Steps p.tables e below (T27.setTop (mkF m 206 #[.val (.int p1), .val (.int p2), .val (.int p3), .val (.int p4), .val (.int p5), .val (.int y1), .val (.int (p1 &&& (127 : Int32))), .val (.int (p2 &&& (127 : Int32))), .val (.int (p3 &&& (127 : Int32))), .val (.int (p4 &&& (127 : Int32))), .val (.ref b2), .val (.long (((0 : Int64) + ((p1 &&& (127 : Int32)).toInt64)) + ((p2 &&& (127 : Int32)).toInt64))), .second, .val (.int (own_max (own_max (0 : Int32) (p1 &&& (127 : Int32))) (p2 &&& (127 : Int32)))), .val (.ref b24)] [(.long ((own_max (own_max (0 : Int32) (p1 &&& (127 : Int32))) (p2 &&& (127 : Int32))).toInt64)), (.long ((own_max (own_max (0 : Int32) (p1 &&& (127 : Int32))) (p2 &&& (127 : Int32))).toInt64))])) _
          refine XS.lcmp X27.here hx rfl (hb hby at_206) rfl ?_
          show Steps p.tables e below (T27.setTop (mkF m 207 #[.val (.int p1), .val (.int p2), .val (.int p3), .val (.int p4), .val (.int p5), .val (.int y1), .val (.int (p1 &&& (127 : Int32))), .val (.int (p2 &&& (127 : Int32))), .val (.int (p3 &&& (127 : Int32))), .val (.int (p4 &&& (127 : Int32))), .val (.ref b2), .val (.long (((0 : Int64) + ((p1 &&& (127 : Int32)).toInt64)) + ((p2 &&& (127 : Int32)).toInt64))), .second, .val (.int (own_max (own_max (0 : Int32) (p1 &&& (127 : Int32))) (p2 &&& (127 : Int32)))), .val (.ref b24)] [(.int (lcmpW ((own_max (own_max (0 : Int32) (p1 &&& (127 : Int32))) (p2 &&& (127 : Int32))).toInt64) ((own_max (own_max (0 : Int32) (p1 &&& (127 : Int32))) (p2 &&& (127 : Int32))).toInt64)))])) _
          refine XS.ifNo X27.here hx rfl (hb hby at_207) rfl ((if0 _ _).trans (teq (((lw_eq _ _).mpr rfl) : ((lcmpW ((own_max (own_max (0 : Int32) (p1 &&& (127 : Int32))) (p2 &&& (127 : Int32))).toInt64) ((own_max (own_max (0 : Int32) (p1 &&& (127 : Int32))) (p2 &&& (127 : Int32))).toInt64)) = (0 : Int32)))).2) ?_
          show Steps p.tables e below (T27.setTop (mkF m 210 #[.val (.int p1), .val (.int p2), .val (.int p3), .val (.int p4), .val (.int p5), .val (.int y1), .val (.int (p1 &&& (127 : Int32))), .val (.int (p2 &&& (127 : Int32))), .val (.int (p3 &&& (127 : Int32))), .val (.int (p4 &&& (127 : Int32))), .val (.ref b2), .val (.long (((0 : Int64) + ((p1 &&& (127 : Int32)).toInt64)) + ((p2 &&& (127 : Int32)).toInt64))), .second, .val (.int (own_max (own_max (0 : Int32) (p1 &&& (127 : Int32))) (p2 &&& (127 : Int32)))), .val (.ref b24)] [])) _
          refine XS.aload X27.here hx rfl (hb hby at_210) rfl rfl ?_
          show Steps p.tables e below (T27.setTop (mkF m 212 #[.val (.int p1), .val (.int p2), .val (.int p3), .val (.int p4), .val (.int p5), .val (.int y1), .val (.int (p1 &&& (127 : Int32))), .val (.int (p2 &&& (127 : Int32))), .val (.int (p3 &&& (127 : Int32))), .val (.int (p4 &&& (127 : Int32))), .val (.ref b2), .val (.long (((0 : Int64) + ((p1 &&& (127 : Int32)).toInt64)) + ((p2 &&& (127 : Int32)).toInt64))), .second, .val (.int (own_max (own_max (0 : Int32) (p1 &&& (127 : Int32))) (p2 &&& (127 : Int32)))), .val (.ref b24)] [(.ref b24)])) _
          refine st28.trans ?_
          show Steps p.tables e below (T28.setTop (mkF m 215 #[.val (.int p1), .val (.int p2), .val (.int p3), .val (.int p4), .val (.int p5), .val (.int y1), .val (.int (p1 &&& (127 : Int32))), .val (.int (p2 &&& (127 : Int32))), .val (.int (p3 &&& (127 : Int32))), .val (.int (p4 &&& (127 : Int32))), .val (.ref b2), .val (.long (((0 : Int64) + ((p1 &&& (127 : Int32)).toInt64)) + ((p2 &&& (127 : Int32)).toInt64))), .second, .val (.int (own_max (own_max (0 : Int32) (p1 &&& (127 : Int32))) (p2 &&& (127 : Int32)))), .val (.ref b24)] [(.long ((Int32.ofNat ((own_max (own_max (0 : Int32) (p1 &&& (127 : Int32))) (p2 &&& (127 : Int32)))).toNatClampNeg).toInt64))])) _
          refine XS.iload X28.here hx rfl (hb hby at_215) rfl ?_
          show Steps p.tables e below (T28.setTop (mkF m 217 #[.val (.int p1), .val (.int p2), .val (.int p3), .val (.int p4), .val (.int p5), .val (.int y1), .val (.int (p1 &&& (127 : Int32))), .val (.int (p2 &&& (127 : Int32))), .val (.int (p3 &&& (127 : Int32))), .val (.int (p4 &&& (127 : Int32))), .val (.ref b2), .val (.long (((0 : Int64) + ((p1 &&& (127 : Int32)).toInt64)) + ((p2 &&& (127 : Int32)).toInt64))), .second, .val (.int (own_max (own_max (0 : Int32) (p1 &&& (127 : Int32))) (p2 &&& (127 : Int32)))), .val (.ref b24)] [(.int (own_max (own_max (0 : Int32) (p1 &&& (127 : Int32))) (p2 &&& (127 : Int32)))), (.long ((Int32.ofNat ((own_max (own_max (0 : Int32) (p1 &&& (127 : Int32))) (p2 &&& (127 : Int32)))).toNatClampNeg).toInt64))])) _
          refine XS.i2l X28.here hx rfl (hb hby at_217) rfl ?_
          show Steps p.tables e below (T28.setTop (mkF m 218 #[.val (.int p1), .val (.int p2), .val (.int p3), .val (.int p4), .val (.int p5), .val (.int y1), .val (.int (p1 &&& (127 : Int32))), .val (.int (p2 &&& (127 : Int32))), .val (.int (p3 &&& (127 : Int32))), .val (.int (p4 &&& (127 : Int32))), .val (.ref b2), .val (.long (((0 : Int64) + ((p1 &&& (127 : Int32)).toInt64)) + ((p2 &&& (127 : Int32)).toInt64))), .second, .val (.int (own_max (own_max (0 : Int32) (p1 &&& (127 : Int32))) (p2 &&& (127 : Int32)))), .val (.ref b24)] [(.long ((own_max (own_max (0 : Int32) (p1 &&& (127 : Int32))) (p2 &&& (127 : Int32))).toInt64)), (.long ((Int32.ofNat ((own_max (own_max (0 : Int32) (p1 &&& (127 : Int32))) (p2 &&& (127 : Int32)))).toNatClampNeg).toInt64))])) _
          refine XS.lcmp X28.here hx rfl (hb hby at_218) rfl ?_
          show Steps p.tables e below (T28.setTop (mkF m 219 #[.val (.int p1), .val (.int p2), .val (.int p3), .val (.int p4), .val (.int p5), .val (.int y1), .val (.int (p1 &&& (127 : Int32))), .val (.int (p2 &&& (127 : Int32))), .val (.int (p3 &&& (127 : Int32))), .val (.int (p4 &&& (127 : Int32))), .val (.ref b2), .val (.long (((0 : Int64) + ((p1 &&& (127 : Int32)).toInt64)) + ((p2 &&& (127 : Int32)).toInt64))), .second, .val (.int (own_max (own_max (0 : Int32) (p1 &&& (127 : Int32))) (p2 &&& (127 : Int32)))), .val (.ref b24)] [(.int (lcmpW ((Int32.ofNat ((own_max (own_max (0 : Int32) (p1 &&& (127 : Int32))) (p2 &&& (127 : Int32)))).toNatClampNeg).toInt64) ((own_max (own_max (0 : Int32) (p1 &&& (127 : Int32))) (p2 &&& (127 : Int32))).toInt64)))])) _
          refine XS.ifNo X28.here hx rfl (hb hby at_219) rfl ((if0 _ _).trans (teq (((lw_eq _ _).mpr (own_back (own_mx (own_mx own_mx0 hx1a) hx2a))) : ((lcmpW ((Int32.ofNat ((own_max (own_max (0 : Int32) (p1 &&& (127 : Int32))) (p2 &&& (127 : Int32)))).toNatClampNeg).toInt64) ((own_max (own_max (0 : Int32) (p1 &&& (127 : Int32))) (p2 &&& (127 : Int32))).toInt64)) = (0 : Int32)))).2) ?_
          show Steps p.tables e below (T28.setTop (mkF m 222 #[.val (.int p1), .val (.int p2), .val (.int p3), .val (.int p4), .val (.int p5), .val (.int y1), .val (.int (p1 &&& (127 : Int32))), .val (.int (p2 &&& (127 : Int32))), .val (.int (p3 &&& (127 : Int32))), .val (.int (p4 &&& (127 : Int32))), .val (.ref b2), .val (.long (((0 : Int64) + ((p1 &&& (127 : Int32)).toInt64)) + ((p2 &&& (127 : Int32)).toInt64))), .second, .val (.int (own_max (own_max (0 : Int32) (p1 &&& (127 : Int32))) (p2 &&& (127 : Int32)))), .val (.ref b24)] [])) _
          refine XS.iconst X28.here hx rfl (hb hby at_222) ?_
          show Steps p.tables e below (T28.setTop (mkF m 223 #[.val (.int p1), .val (.int p2), .val (.int p3), .val (.int p4), .val (.int p5), .val (.int y1), .val (.int (p1 &&& (127 : Int32))), .val (.int (p2 &&& (127 : Int32))), .val (.int (p3 &&& (127 : Int32))), .val (.int (p4 &&& (127 : Int32))), .val (.ref b2), .val (.long (((0 : Int64) + ((p1 &&& (127 : Int32)).toInt64)) + ((p2 &&& (127 : Int32)).toInt64))), .second, .val (.int (own_max (own_max (0 : Int32) (p1 &&& (127 : Int32))) (p2 &&& (127 : Int32)))), .val (.ref b24)] [(.int (1 : Int32))])) _
          refine XS.goto X28.here hx rfl (pc0 := 223) (pc' := 227) rfl (hb hby at_223) (by decide) (by decide) ?_
          show Steps p.tables e below (T28.setTop (mkF m 227 #[.val (.int p1), .val (.int p2), .val (.int p3), .val (.int p4), .val (.int p5), .val (.int y1), .val (.int (p1 &&& (127 : Int32))), .val (.int (p2 &&& (127 : Int32))), .val (.int (p3 &&& (127 : Int32))), .val (.int (p4 &&& (127 : Int32))), .val (.ref b2), .val (.long (((0 : Int64) + ((p1 &&& (127 : Int32)).toInt64)) + ((p2 &&& (127 : Int32)).toInt64))), .second, .val (.int (own_max (own_max (0 : Int32) (p1 &&& (127 : Int32))) (p2 &&& (127 : Int32)))), .val (.ref b24)] [(.int (1 : Int32))])) _
          exact retN X28 hx (t := .boolean) Bd.returns (by simp) (hb hby at_227) hr
        · show Q_rm0 Z p1 p2 p3 p4 p5 h0 n0 _ T28.heap _
          rw [e28]
          exact ⟨rfl, N28⟩
      · obtain ⟨hx3a, hx3b⟩ := own_x p3
        obtain ⟨cap3, hcp3, hce3⟩ := own_cap (p3 &&& (127 : Int32)) (own_z (p2 &&& (127 : Int32)) (own_z (p1 &&& (127 : Int32)) (16 : Int32))) I2.1 I2.2.1 hx3a hx3b
        have I3 := own_step I2 hx3a hx3b
        obtain ⟨cq29, kq29, q29a, q29b, q29c⟩ := isOf hZ e21 Ex2_v20
        obtain ⟨_, _, ⟨T29, L29, k29, n29⟩, -, X29, ⟨Lc29, hQ29, l29, y29, z29⟩, st29⟩ := X21.virtualBack hx (y := (⟨"nachbar/sim/Tally", "add", "(I)V"⟩ : MethodName)) (z := (⟨"nachbar/sim/Tally", "add", "(I)V"⟩ : MethodName)) hown (mvT hZ (hw _ (List.mem_of_getElem? (i := 69) rfl))) (mvT hZ (hw _ (List.mem_of_getElem? (i := 70) rfl))) (notFace_of_selects (args := #[]) (mvT hZ (hw _ (List.mem_of_getElem? (i := 72) rfl)))) (mvT hZ (hw _ (List.mem_of_getElem? (i := 72) rfl))) (mvT hZ (hw _ (List.mem_of_getElem? (i := 71) rfl))) (by decide) (backOf (W := 0) (rma l Z a0 hw [] b2 (p3 &&& (127 : Int32)) c20 (own_z (p2 &&& (127 : Int32)) (own_z (p1 &&& (127 : Int32)) (16 : Int32))) (own_inc (own_inc own_zero (p1 &&& (127 : Int32))) (p2 &&& (127 : Int32))) (2 : Int64) (((0 : Int64) + ((p1 &&& (127 : Int32)).toInt64)) + ((p2 &&& (127 : Int32)).toInt64)) (own_max (own_max (0 : Int32) (p1 &&& (127 : Int32))) (p2 &&& (127 : Int32))) cap3 T20.heap n0 Z20 Ex2_v20 nf20_0_v20 nf20_1_v20 nf20_2_v20 nf20_3_v20 nf20_4_v20 g_b2 g_c20 ne_b2_c20 I2.2.2.1 I2.1 I2.2.1 hx3a hx3b I2.2.2.2.1 hcp3 (by omega)) hZ (hw _ (List.mem_of_getElem? (i := 73) rfl)) (hw _ (List.mem_of_getElem? (i := 3) rfl)) (Nat.le_of_ble_eq_true rfl) (Nat.le_of_ble_eq_true rfl)) q29a q29c (g := (mkF m 118 #[.val (.int p1), .val (.int p2), .val (.int p3), .val (.int p4), .val (.int p5), .val (.int y1), .val (.int (p1 &&& (127 : Int32))), .val (.int (p2 &&& (127 : Int32))), .val (.int (p3 &&& (127 : Int32))), .val (.int (p4 &&& (127 : Int32))), .val (.ref b2), .val (.long (((0 : Int64) + ((p1 &&& (127 : Int32)).toInt64)) + ((p2 &&& (127 : Int32)).toInt64))), .second, .val (.int (own_max (own_max (0 : Int32) (p1 &&& (127 : Int32))) (p2 &&& (127 : Int32)))), .unset] [(.int (p3 &&& (127 : Int32))), (.ref b2)])) rfl (by rw [hml]; rfl) (Steps.refl _) (argsL := [(.int (p3 &&& (127 : Int32)))]) (rest := []) (lenOf pd_7 rfl) rfl (by show 2 * 0 + _ ≤ _; exact Nat.le_of_eq rfl) (hb hby at_118) (fun _ _ => ⟨rfl, e21, (Nat.le_of_ble_eq_true rfl), (show 20 + cap1 + cap2 + cap3 ≤ 896 from by omega)⟩)
        dsimp only [Pt.U, Pt.locs, Pt.cells, Pt.slots] at X29 l29 y29 z29 st29 hQ29
        subst l29 y29 z29
        obtain ⟨c29, rfl, N29q, Kc29, g_c29, ne_b2_c29, nf29_0_v29, nf29_1_v29, nf29_2_v29, nf29_3_v29, nf29_4_v29⟩ := hQ29
        have N29 := Fr.app N21 N29q
        have Ex2_v29 := Ex2_v20.keep Kc29
        have Z29 : n0 ≤ T29.heap.size := Nat.le_trans Z20 Kc29.1
        obtain ⟨_, _, ⟨T30, L30, k30, n30⟩, -, X30, ⟨Lc30, hQ30, l30, y30, z30⟩, st30⟩ := Jvm.LawKit.callS X29 hx (y := (⟨"java/lang/Math", "max", "(II)I"⟩ : MethodName)) hown (mvT hZ (hw _ (List.mem_of_getElem? (i := 78) rfl))) (mvT hZ (hw _ (List.mem_of_getElem? (i := 75) rfl))) (mvT hZ (hw _ (List.mem_of_getElem? (i := 76) rfl))) (mvT hZ (hw _ (List.mem_of_getElem? (i := 77) rfl))) (by decide) (backOf (W := 0) (rmx l Z a0 hw [] (own_max (own_max (0 : Int32) (p1 &&& (127 : Int32))) (p2 &&& (127 : Int32))) (p3 &&& (127 : Int32)) T29.heap n0 Z29) hZ (hw _ (List.mem_of_getElem? (i := 77) rfl)) (hw _ (List.mem_of_getElem? (i := 76) rfl)) (Nat.le_of_ble_eq_true rfl) (Nat.le_of_ble_eq_true rfl)) (g := (mkF m 133 #[.val (.int p1), .val (.int p2), .val (.int p3), .val (.int p4), .val (.int p5), .val (.int y1), .val (.int (p1 &&& (127 : Int32))), .val (.int (p2 &&& (127 : Int32))), .val (.int (p3 &&& (127 : Int32))), .val (.int (p4 &&& (127 : Int32))), .val (.ref b2), .val (.long ((((0 : Int64) + ((p1 &&& (127 : Int32)).toInt64)) + ((p2 &&& (127 : Int32)).toInt64)) + ((p3 &&& (127 : Int32)).toInt64))), .second, .val (.int (own_max (own_max (0 : Int32) (p1 &&& (127 : Int32))) (p2 &&& (127 : Int32)))), .unset] [(.int (p3 &&& (127 : Int32))), (.int (own_max (own_max (0 : Int32) (p1 &&& (127 : Int32))) (p2 &&& (127 : Int32))))])) rfl (by rw [hml]; rfl) (argsL := [(.int (own_max (own_max (0 : Int32) (p1 &&& (127 : Int32))) (p2 &&& (127 : Int32)))), (.int (p3 &&& (127 : Int32)))]) (rest := []) (lenOf pd_0 rfl) rfl (by show 2 * 0 + _ ≤ _; exact Nat.le_of_eq rfl) (hb hby at_133) (fun _ _ => ⟨rfl, rfl, (Nat.le_of_ble_eq_true rfl), (show 20 + cap1 + cap2 + cap3 + 0 ≤ 896 from by omega)⟩)
        dsimp only [Pt.U, Pt.locs, Pt.cells, Pt.slots] at X30 l30 y30 z30 st30 hQ30
        subst l30 y30 z30
        obtain ⟨rfl, N30q, e30⟩ := hQ30
        have N30 := Fr.app N29 N30q
        have pre31 : ∀ t, Steps p.tables e below (T30.setTop (mkF m 141 #[.val (.int p1), .val (.int p2), .val (.int p3), .val (.int p4), .val (.int p5), .val (.int y1), .val (.int (p1 &&& (127 : Int32))), .val (.int (p2 &&& (127 : Int32))), .val (.int (p3 &&& (127 : Int32))), .val (.int (p4 &&& (127 : Int32))), .val (.ref b2), .val (.long ((((0 : Int64) + ((p1 &&& (127 : Int32)).toInt64)) + ((p2 &&& (127 : Int32)).toInt64)) + ((p3 &&& (127 : Int32)).toInt64))), .second, .val (.int (own_max (own_max (own_max (0 : Int32) (p1 &&& (127 : Int32))) (p2 &&& (127 : Int32))) (p3 &&& (127 : Int32)))), .unset] [(.int (4 : Int32)), (.int y1)])) t → Steps p.tables e below (s₁.setTop (entryFrame m #[(.int p1), (.int p2), (.int p3), (.int p4), (.int p5)] maxLocals)) t := by
          intro t k
          refine pre22 t ?_
          show Steps p.tables e below (T21.setTop (mkF m 111 #[.val (.int p1), .val (.int p2), .val (.int p3), .val (.int p4), .val (.int p5), .val (.int y1), .val (.int (p1 &&& (127 : Int32))), .val (.int (p2 &&& (127 : Int32))), .val (.int (p3 &&& (127 : Int32))), .val (.int (p4 &&& (127 : Int32))), .val (.ref b2), .val (.long (((0 : Int64) + ((p1 &&& (127 : Int32)).toInt64)) + ((p2 &&& (127 : Int32)).toInt64))), .second, .val (.int (own_max (own_max (0 : Int32) (p1 &&& (127 : Int32))) (p2 &&& (127 : Int32)))), .unset] [(.int (3 : Int32)), (.int y1)])) _
          refine XS.icmpNo X21.here hx rfl (hb hby at_111) rfl (flt hc111_23).1 ?_
          show Steps p.tables e below (T21.setTop (mkF m 114 #[.val (.int p1), .val (.int p2), .val (.int p3), .val (.int p4), .val (.int p5), .val (.int y1), .val (.int (p1 &&& (127 : Int32))), .val (.int (p2 &&& (127 : Int32))), .val (.int (p3 &&& (127 : Int32))), .val (.int (p4 &&& (127 : Int32))), .val (.ref b2), .val (.long (((0 : Int64) + ((p1 &&& (127 : Int32)).toInt64)) + ((p2 &&& (127 : Int32)).toInt64))), .second, .val (.int (own_max (own_max (0 : Int32) (p1 &&& (127 : Int32))) (p2 &&& (127 : Int32)))), .unset] [])) _
          refine XS.aload X21.here hx rfl (hb hby at_114) rfl rfl ?_
          show Steps p.tables e below (T21.setTop (mkF m 116 #[.val (.int p1), .val (.int p2), .val (.int p3), .val (.int p4), .val (.int p5), .val (.int y1), .val (.int (p1 &&& (127 : Int32))), .val (.int (p2 &&& (127 : Int32))), .val (.int (p3 &&& (127 : Int32))), .val (.int (p4 &&& (127 : Int32))), .val (.ref b2), .val (.long (((0 : Int64) + ((p1 &&& (127 : Int32)).toInt64)) + ((p2 &&& (127 : Int32)).toInt64))), .second, .val (.int (own_max (own_max (0 : Int32) (p1 &&& (127 : Int32))) (p2 &&& (127 : Int32)))), .unset] [(.ref b2)])) _
          refine XS.iload X21.here hx rfl (hb hby at_116) rfl ?_
          show Steps p.tables e below (T21.setTop (mkF m 118 #[.val (.int p1), .val (.int p2), .val (.int p3), .val (.int p4), .val (.int p5), .val (.int y1), .val (.int (p1 &&& (127 : Int32))), .val (.int (p2 &&& (127 : Int32))), .val (.int (p3 &&& (127 : Int32))), .val (.int (p4 &&& (127 : Int32))), .val (.ref b2), .val (.long (((0 : Int64) + ((p1 &&& (127 : Int32)).toInt64)) + ((p2 &&& (127 : Int32)).toInt64))), .second, .val (.int (own_max (own_max (0 : Int32) (p1 &&& (127 : Int32))) (p2 &&& (127 : Int32)))), .unset] [(.int (p3 &&& (127 : Int32))), (.ref b2)])) _
          refine st29.trans ?_
          show Steps p.tables e below (T29.setTop (mkF m 121 #[.val (.int p1), .val (.int p2), .val (.int p3), .val (.int p4), .val (.int p5), .val (.int y1), .val (.int (p1 &&& (127 : Int32))), .val (.int (p2 &&& (127 : Int32))), .val (.int (p3 &&& (127 : Int32))), .val (.int (p4 &&& (127 : Int32))), .val (.ref b2), .val (.long (((0 : Int64) + ((p1 &&& (127 : Int32)).toInt64)) + ((p2 &&& (127 : Int32)).toInt64))), .second, .val (.int (own_max (own_max (0 : Int32) (p1 &&& (127 : Int32))) (p2 &&& (127 : Int32)))), .unset] [])) _
          refine XS.lload X29.here hx rfl (hb hby at_121) rfl ?_
          show Steps p.tables e below (T29.setTop (mkF m 123 #[.val (.int p1), .val (.int p2), .val (.int p3), .val (.int p4), .val (.int p5), .val (.int y1), .val (.int (p1 &&& (127 : Int32))), .val (.int (p2 &&& (127 : Int32))), .val (.int (p3 &&& (127 : Int32))), .val (.int (p4 &&& (127 : Int32))), .val (.ref b2), .val (.long (((0 : Int64) + ((p1 &&& (127 : Int32)).toInt64)) + ((p2 &&& (127 : Int32)).toInt64))), .second, .val (.int (own_max (own_max (0 : Int32) (p1 &&& (127 : Int32))) (p2 &&& (127 : Int32)))), .unset] [(.long (((0 : Int64) + ((p1 &&& (127 : Int32)).toInt64)) + ((p2 &&& (127 : Int32)).toInt64)))])) _
          refine XS.iload X29.here hx rfl (hb hby at_123) rfl ?_
          show Steps p.tables e below (T29.setTop (mkF m 125 #[.val (.int p1), .val (.int p2), .val (.int p3), .val (.int p4), .val (.int p5), .val (.int y1), .val (.int (p1 &&& (127 : Int32))), .val (.int (p2 &&& (127 : Int32))), .val (.int (p3 &&& (127 : Int32))), .val (.int (p4 &&& (127 : Int32))), .val (.ref b2), .val (.long (((0 : Int64) + ((p1 &&& (127 : Int32)).toInt64)) + ((p2 &&& (127 : Int32)).toInt64))), .second, .val (.int (own_max (own_max (0 : Int32) (p1 &&& (127 : Int32))) (p2 &&& (127 : Int32)))), .unset] [(.int (p3 &&& (127 : Int32))), (.long (((0 : Int64) + ((p1 &&& (127 : Int32)).toInt64)) + ((p2 &&& (127 : Int32)).toInt64)))])) _
          refine XS.i2l X29.here hx rfl (hb hby at_125) rfl ?_
          show Steps p.tables e below (T29.setTop (mkF m 126 #[.val (.int p1), .val (.int p2), .val (.int p3), .val (.int p4), .val (.int p5), .val (.int y1), .val (.int (p1 &&& (127 : Int32))), .val (.int (p2 &&& (127 : Int32))), .val (.int (p3 &&& (127 : Int32))), .val (.int (p4 &&& (127 : Int32))), .val (.ref b2), .val (.long (((0 : Int64) + ((p1 &&& (127 : Int32)).toInt64)) + ((p2 &&& (127 : Int32)).toInt64))), .second, .val (.int (own_max (own_max (0 : Int32) (p1 &&& (127 : Int32))) (p2 &&& (127 : Int32)))), .unset] [(.long ((p3 &&& (127 : Int32)).toInt64)), (.long (((0 : Int64) + ((p1 &&& (127 : Int32)).toInt64)) + ((p2 &&& (127 : Int32)).toInt64)))])) _
          refine XS.ladd X29.here hx rfl (hb hby at_126) rfl ?_
          show Steps p.tables e below (T29.setTop (mkF m 127 #[.val (.int p1), .val (.int p2), .val (.int p3), .val (.int p4), .val (.int p5), .val (.int y1), .val (.int (p1 &&& (127 : Int32))), .val (.int (p2 &&& (127 : Int32))), .val (.int (p3 &&& (127 : Int32))), .val (.int (p4 &&& (127 : Int32))), .val (.ref b2), .val (.long (((0 : Int64) + ((p1 &&& (127 : Int32)).toInt64)) + ((p2 &&& (127 : Int32)).toInt64))), .second, .val (.int (own_max (own_max (0 : Int32) (p1 &&& (127 : Int32))) (p2 &&& (127 : Int32)))), .unset] [(.long ((((0 : Int64) + ((p1 &&& (127 : Int32)).toInt64)) + ((p2 &&& (127 : Int32)).toInt64)) + ((p3 &&& (127 : Int32)).toInt64)))])) _
          refine XS.lstore X29.here hx rfl (hb hby at_127) rfl (l' := #[.val (.int p1), .val (.int p2), .val (.int p3), .val (.int p4), .val (.int p5), .val (.int y1), .val (.int (p1 &&& (127 : Int32))), .val (.int (p2 &&& (127 : Int32))), .val (.int (p3 &&& (127 : Int32))), .val (.int (p4 &&& (127 : Int32))), .val (.ref b2), .val (.long ((((0 : Int64) + ((p1 &&& (127 : Int32)).toInt64)) + ((p2 &&& (127 : Int32)).toInt64)) + ((p3 &&& (127 : Int32)).toInt64))), .second, .val (.int (own_max (own_max (0 : Int32) (p1 &&& (127 : Int32))) (p2 &&& (127 : Int32)))), .unset]) rfl ?_
          show Steps p.tables e below (T29.setTop (mkF m 129 #[.val (.int p1), .val (.int p2), .val (.int p3), .val (.int p4), .val (.int p5), .val (.int y1), .val (.int (p1 &&& (127 : Int32))), .val (.int (p2 &&& (127 : Int32))), .val (.int (p3 &&& (127 : Int32))), .val (.int (p4 &&& (127 : Int32))), .val (.ref b2), .val (.long ((((0 : Int64) + ((p1 &&& (127 : Int32)).toInt64)) + ((p2 &&& (127 : Int32)).toInt64)) + ((p3 &&& (127 : Int32)).toInt64))), .second, .val (.int (own_max (own_max (0 : Int32) (p1 &&& (127 : Int32))) (p2 &&& (127 : Int32)))), .unset] [])) _
          refine XS.iload X29.here hx rfl (hb hby at_129) rfl ?_
          show Steps p.tables e below (T29.setTop (mkF m 131 #[.val (.int p1), .val (.int p2), .val (.int p3), .val (.int p4), .val (.int p5), .val (.int y1), .val (.int (p1 &&& (127 : Int32))), .val (.int (p2 &&& (127 : Int32))), .val (.int (p3 &&& (127 : Int32))), .val (.int (p4 &&& (127 : Int32))), .val (.ref b2), .val (.long ((((0 : Int64) + ((p1 &&& (127 : Int32)).toInt64)) + ((p2 &&& (127 : Int32)).toInt64)) + ((p3 &&& (127 : Int32)).toInt64))), .second, .val (.int (own_max (own_max (0 : Int32) (p1 &&& (127 : Int32))) (p2 &&& (127 : Int32)))), .unset] [(.int (own_max (own_max (0 : Int32) (p1 &&& (127 : Int32))) (p2 &&& (127 : Int32))))])) _
          refine XS.iload X29.here hx rfl (hb hby at_131) rfl ?_
          show Steps p.tables e below (T29.setTop (mkF m 133 #[.val (.int p1), .val (.int p2), .val (.int p3), .val (.int p4), .val (.int p5), .val (.int y1), .val (.int (p1 &&& (127 : Int32))), .val (.int (p2 &&& (127 : Int32))), .val (.int (p3 &&& (127 : Int32))), .val (.int (p4 &&& (127 : Int32))), .val (.ref b2), .val (.long ((((0 : Int64) + ((p1 &&& (127 : Int32)).toInt64)) + ((p2 &&& (127 : Int32)).toInt64)) + ((p3 &&& (127 : Int32)).toInt64))), .second, .val (.int (own_max (own_max (0 : Int32) (p1 &&& (127 : Int32))) (p2 &&& (127 : Int32)))), .unset] [(.int (p3 &&& (127 : Int32))), (.int (own_max (own_max (0 : Int32) (p1 &&& (127 : Int32))) (p2 &&& (127 : Int32))))])) _
          refine st30 _ ?_
          show Steps p.tables e below (T30.setTop (mkF m 136 #[.val (.int p1), .val (.int p2), .val (.int p3), .val (.int p4), .val (.int p5), .val (.int y1), .val (.int (p1 &&& (127 : Int32))), .val (.int (p2 &&& (127 : Int32))), .val (.int (p3 &&& (127 : Int32))), .val (.int (p4 &&& (127 : Int32))), .val (.ref b2), .val (.long ((((0 : Int64) + ((p1 &&& (127 : Int32)).toInt64)) + ((p2 &&& (127 : Int32)).toInt64)) + ((p3 &&& (127 : Int32)).toInt64))), .second, .val (.int (own_max (own_max (0 : Int32) (p1 &&& (127 : Int32))) (p2 &&& (127 : Int32)))), .unset] [(.int (own_max (own_max (own_max (0 : Int32) (p1 &&& (127 : Int32))) (p2 &&& (127 : Int32))) (p3 &&& (127 : Int32))))])) _
          refine XS.istore X30.here hx rfl (hb hby at_136) rfl (l' := #[.val (.int p1), .val (.int p2), .val (.int p3), .val (.int p4), .val (.int p5), .val (.int y1), .val (.int (p1 &&& (127 : Int32))), .val (.int (p2 &&& (127 : Int32))), .val (.int (p3 &&& (127 : Int32))), .val (.int (p4 &&& (127 : Int32))), .val (.ref b2), .val (.long ((((0 : Int64) + ((p1 &&& (127 : Int32)).toInt64)) + ((p2 &&& (127 : Int32)).toInt64)) + ((p3 &&& (127 : Int32)).toInt64))), .second, .val (.int (own_max (own_max (own_max (0 : Int32) (p1 &&& (127 : Int32))) (p2 &&& (127 : Int32))) (p3 &&& (127 : Int32)))), .unset]) rfl ?_
          show Steps p.tables e below (T30.setTop (mkF m 138 #[.val (.int p1), .val (.int p2), .val (.int p3), .val (.int p4), .val (.int p5), .val (.int y1), .val (.int (p1 &&& (127 : Int32))), .val (.int (p2 &&& (127 : Int32))), .val (.int (p3 &&& (127 : Int32))), .val (.int (p4 &&& (127 : Int32))), .val (.ref b2), .val (.long ((((0 : Int64) + ((p1 &&& (127 : Int32)).toInt64)) + ((p2 &&& (127 : Int32)).toInt64)) + ((p3 &&& (127 : Int32)).toInt64))), .second, .val (.int (own_max (own_max (own_max (0 : Int32) (p1 &&& (127 : Int32))) (p2 &&& (127 : Int32))) (p3 &&& (127 : Int32)))), .unset] [])) _
          refine XS.iload X30.here hx rfl (hb hby at_138) rfl ?_
          show Steps p.tables e below (T30.setTop (mkF m 140 #[.val (.int p1), .val (.int p2), .val (.int p3), .val (.int p4), .val (.int p5), .val (.int y1), .val (.int (p1 &&& (127 : Int32))), .val (.int (p2 &&& (127 : Int32))), .val (.int (p3 &&& (127 : Int32))), .val (.int (p4 &&& (127 : Int32))), .val (.ref b2), .val (.long ((((0 : Int64) + ((p1 &&& (127 : Int32)).toInt64)) + ((p2 &&& (127 : Int32)).toInt64)) + ((p3 &&& (127 : Int32)).toInt64))), .second, .val (.int (own_max (own_max (own_max (0 : Int32) (p1 &&& (127 : Int32))) (p2 &&& (127 : Int32))) (p3 &&& (127 : Int32)))), .unset] [(.int y1)])) _
          refine XS.iconst X30.here hx rfl (hb hby at_140) ?_
          exact k
        by_cases hc141_32 : y1 < (4 : Int32)
        · obtain ⟨hr1, hr2, hr3⟩ := own_top3 hx1a hx1b hx2a hx2b hx3a hx3b
          obtain ⟨cq33, kq33, q33a, q33b, q33c⟩ := isOf hZ e30 Ex2_v29
          obtain ⟨_, _, ⟨T33, L33, k33, n33⟩, -, X33, ⟨Lc33, hQ33, l33, y33, z33⟩, st33⟩ := X30.virtualBack hx (y := (⟨"nachbar/sim/Tally", "summary", "()Lnachbar/sim/Summary;"⟩ : MethodName)) (z := (⟨"nachbar/sim/Tally", "summary", "()Lnachbar/sim/Summary;"⟩ : MethodName)) hown (mvT hZ (hw _ (List.mem_of_getElem? (i := 13) rfl))) (mvT hZ (hw _ (List.mem_of_getElem? (i := 14) rfl))) (notFace_of_selects (args := #[]) (mvT hZ (hw _ (List.mem_of_getElem? (i := 16) rfl)))) (mvT hZ (hw _ (List.mem_of_getElem? (i := 16) rfl))) (mvT hZ (hw _ (List.mem_of_getElem? (i := 15) rfl))) (by decide) (backOf (W := 0) (rmu l Z a0 hw [] b2 c29 (own_z (p3 &&& (127 : Int32)) (own_z (p2 &&& (127 : Int32)) (own_z (p1 &&& (127 : Int32)) (16 : Int32)))) (own_inc (own_inc (own_inc own_zero (p1 &&& (127 : Int32))) (p2 &&& (127 : Int32))) (p3 &&& (127 : Int32))) (3 : Int64) ((((0 : Int64) + ((p1 &&& (127 : Int32)).toInt64)) + ((p2 &&& (127 : Int32)).toInt64)) + ((p3 &&& (127 : Int32)).toInt64)) (own_max (own_max (own_max (0 : Int32) (p1 &&& (127 : Int32))) (p2 &&& (127 : Int32))) (p3 &&& (127 : Int32))) ((own_max (own_max (own_max (0 : Int32) (p1 &&& (127 : Int32))) (p2 &&& (127 : Int32))) (p3 &&& (127 : Int32)))).toNatClampNeg T29.heap n0 Z29 Ex2_v29 nf29_0_v29 nf29_1_v29 nf29_2_v29 nf29_3_v29 nf29_4_v29 I3.2.2.1 hr1 hr2 (Nat.lt_of_lt_of_le hr3 I3.2.2.2.2)) hZ (hw _ (List.mem_of_getElem? (i := 17) rfl)) (hw _ (List.mem_of_getElem? (i := 3) rfl)) (Nat.le_of_ble_eq_true rfl) (Nat.le_of_ble_eq_true rfl)) q33a q33c (g := (mkF m 170 #[.val (.int p1), .val (.int p2), .val (.int p3), .val (.int p4), .val (.int p5), .val (.int y1), .val (.int (p1 &&& (127 : Int32))), .val (.int (p2 &&& (127 : Int32))), .val (.int (p3 &&& (127 : Int32))), .val (.int (p4 &&& (127 : Int32))), .val (.ref b2), .val (.long ((((0 : Int64) + ((p1 &&& (127 : Int32)).toInt64)) + ((p2 &&& (127 : Int32)).toInt64)) + ((p3 &&& (127 : Int32)).toInt64))), .second, .val (.int (own_max (own_max (own_max (0 : Int32) (p1 &&& (127 : Int32))) (p2 &&& (127 : Int32))) (p3 &&& (127 : Int32)))), .unset] [(.ref b2)])) rfl (by rw [hml]; rfl) (Steps.refl _) (argsL := []) (rest := []) (lenOf pd_5 rfl) rfl (by show 2 * 0 + _ ≤ _; exact Nat.le_of_eq rfl) (hb hby at_170) (fun _ _ => ⟨rfl, e30, (Nat.le_of_ble_eq_true rfl), (show 20 + cap1 + cap2 + cap3 + 4 ≤ 896 from by omega)⟩)
          dsimp only [Pt.U, Pt.locs, Pt.cells, Pt.slots] at X33 l33 y33 z33 st33 hQ33
          subst l33 y33 z33
          obtain ⟨b33, rfl, N33q, Kc33, sb33, nfE33_v33, nf33_0_v33, nf33_1_v33, nf33_2_v33, nf33_3_v33⟩ := hQ33
          have N33 := Fr.app N30 N33q
          have Ex2_v33 := Ex2_v29.keep Kc33
          have nf29_0_v33 := nf29_0_v29.keep Kc33 nin0
          have nf29_1_v33 := nf29_1_v29.keep Kc33 nin0
          have nf29_2_v33 := nf29_2_v29.keep Kc33 nin0
          have nf29_3_v33 := nf29_3_v29.keep Kc33 nin0
          have nf29_4_v33 := nf29_4_v29.keep Kc33 nin0
          have Z33 : n0 ≤ T33.heap.size := Nat.le_trans Z29 Kc33.1
          obtain ⟨cq34, kq34, q34a, q34b, q34c⟩ := isOf hZ rfl nfE33_v33
          obtain ⟨_, _, ⟨T34, L34, k34, n34⟩, -, X34, ⟨Lc34, hQ34, l34, y34, z34⟩, st34⟩ := X33.virtualBack hx (y := (⟨"nachbar/sim/Summary", "count", "()J"⟩ : MethodName)) (z := (⟨"nachbar/sim/Summary", "count", "()J"⟩ : MethodName)) hown (mvT hZ (hw _ (List.mem_of_getElem? (i := 49) rfl))) (mvT hZ (hw _ (List.mem_of_getElem? (i := 50) rfl))) (notFace_of_selects (args := #[]) (mvT hZ (hw _ (List.mem_of_getElem? (i := 52) rfl)))) (mvT hZ (hw _ (List.mem_of_getElem? (i := 52) rfl))) (mvT hZ (hw _ (List.mem_of_getElem? (i := 51) rfl))) (by decide) (backOf (W := 0) (rg_count l Z a0 hw [] b33 (3 : Int64) T33.heap n0 Z33 nf33_0_v33) hZ (hw _ (List.mem_of_getElem? (i := 53) rfl)) (hw _ (List.mem_of_getElem? (i := 22) rfl)) (Nat.le_of_ble_eq_true rfl) (Nat.le_of_ble_eq_true rfl)) q34a q34c (g := (mkF m 177 #[.val (.int p1), .val (.int p2), .val (.int p3), .val (.int p4), .val (.int p5), .val (.int y1), .val (.int (p1 &&& (127 : Int32))), .val (.int (p2 &&& (127 : Int32))), .val (.int (p3 &&& (127 : Int32))), .val (.int (p4 &&& (127 : Int32))), .val (.ref b2), .val (.long ((((0 : Int64) + ((p1 &&& (127 : Int32)).toInt64)) + ((p2 &&& (127 : Int32)).toInt64)) + ((p3 &&& (127 : Int32)).toInt64))), .second, .val (.int (own_max (own_max (own_max (0 : Int32) (p1 &&& (127 : Int32))) (p2 &&& (127 : Int32))) (p3 &&& (127 : Int32)))), .val (.ref b33)] [(.ref b33)])) rfl (by rw [hml]; rfl) (Steps.refl _) (argsL := []) (rest := []) (lenOf pd_6 rfl) rfl (by show 2 * 0 + _ ≤ _; exact Nat.le_of_eq rfl) (hb hby at_177) (fun _ _ => ⟨rfl, rfl, (Nat.le_of_ble_eq_true rfl), (show 20 + cap1 + cap2 + cap3 + 4 + 0 ≤ 896 from by omega)⟩)
          dsimp only [Pt.U, Pt.locs, Pt.cells, Pt.slots] at X34 l34 y34 z34 st34 hQ34
          subst l34 y34 z34
          obtain ⟨rfl, N34q, e34⟩ := hQ34
          have N34 := Fr.app N33 N34q
          obtain ⟨cq35, kq35, q35a, q35b, q35c⟩ := isOf hZ e34 nfE33_v33
          obtain ⟨_, _, ⟨T35, L35, k35, n35⟩, -, X35, ⟨Lc35, hQ35, l35, y35, z35⟩, st35⟩ := X34.virtualBack hx (y := (⟨"nachbar/sim/Summary", "sum", "()J"⟩ : MethodName)) (z := (⟨"nachbar/sim/Summary", "sum", "()J"⟩ : MethodName)) hown (mvT hZ (hw _ (List.mem_of_getElem? (i := 54) rfl))) (mvT hZ (hw _ (List.mem_of_getElem? (i := 55) rfl))) (notFace_of_selects (args := #[]) (mvT hZ (hw _ (List.mem_of_getElem? (i := 57) rfl)))) (mvT hZ (hw _ (List.mem_of_getElem? (i := 57) rfl))) (mvT hZ (hw _ (List.mem_of_getElem? (i := 56) rfl))) (by decide) (backOf (W := 0) (rg_sum l Z a0 hw [] b33 ((((0 : Int64) + ((p1 &&& (127 : Int32)).toInt64)) + ((p2 &&& (127 : Int32)).toInt64)) + ((p3 &&& (127 : Int32)).toInt64)) T33.heap n0 Z33 nf33_1_v33) hZ (hw _ (List.mem_of_getElem? (i := 58) rfl)) (hw _ (List.mem_of_getElem? (i := 22) rfl)) (Nat.le_of_ble_eq_true rfl) (Nat.le_of_ble_eq_true rfl)) q35a q35c (g := (mkF m 189 #[.val (.int p1), .val (.int p2), .val (.int p3), .val (.int p4), .val (.int p5), .val (.int y1), .val (.int (p1 &&& (127 : Int32))), .val (.int (p2 &&& (127 : Int32))), .val (.int (p3 &&& (127 : Int32))), .val (.int (p4 &&& (127 : Int32))), .val (.ref b2), .val (.long ((((0 : Int64) + ((p1 &&& (127 : Int32)).toInt64)) + ((p2 &&& (127 : Int32)).toInt64)) + ((p3 &&& (127 : Int32)).toInt64))), .second, .val (.int (own_max (own_max (own_max (0 : Int32) (p1 &&& (127 : Int32))) (p2 &&& (127 : Int32))) (p3 &&& (127 : Int32)))), .val (.ref b33)] [(.ref b33)])) rfl (by rw [hml]; rfl) (Steps.refl _) (argsL := []) (rest := []) (lenOf pd_6 rfl) rfl (by show 2 * 0 + _ ≤ _; exact Nat.le_of_eq rfl) (hb hby at_189) (fun _ _ => ⟨rfl, e34, (Nat.le_of_ble_eq_true rfl), (show 20 + cap1 + cap2 + cap3 + 4 + 0 ≤ 896 from by omega)⟩)
          dsimp only [Pt.U, Pt.locs, Pt.cells, Pt.slots] at X35 l35 y35 z35 st35 hQ35
          subst l35 y35 z35
          obtain ⟨rfl, N35q, e35⟩ := hQ35
          have N35 := Fr.app N34 N35q
          obtain ⟨cq36, kq36, q36a, q36b, q36c⟩ := isOf hZ e35 nfE33_v33
          obtain ⟨_, _, ⟨T36, L36, k36, n36⟩, -, X36, ⟨Lc36, hQ36, l36, y36, z36⟩, st36⟩ := X35.virtualBack hx (y := (⟨"nachbar/sim/Summary", "max", "()J"⟩ : MethodName)) (z := (⟨"nachbar/sim/Summary", "max", "()J"⟩ : MethodName)) hown (mvT hZ (hw _ (List.mem_of_getElem? (i := 59) rfl))) (mvT hZ (hw _ (List.mem_of_getElem? (i := 60) rfl))) (notFace_of_selects (args := #[]) (mvT hZ (hw _ (List.mem_of_getElem? (i := 62) rfl)))) (mvT hZ (hw _ (List.mem_of_getElem? (i := 62) rfl))) (mvT hZ (hw _ (List.mem_of_getElem? (i := 61) rfl))) (by decide) (backOf (W := 0) (rg_max l Z a0 hw [] b33 ((own_max (own_max (own_max (0 : Int32) (p1 &&& (127 : Int32))) (p2 &&& (127 : Int32))) (p3 &&& (127 : Int32))).toInt64) T33.heap n0 Z33 nf33_3_v33) hZ (hw _ (List.mem_of_getElem? (i := 63) rfl)) (hw _ (List.mem_of_getElem? (i := 22) rfl)) (Nat.le_of_ble_eq_true rfl) (Nat.le_of_ble_eq_true rfl)) q36a q36c (g := (mkF m 200 #[.val (.int p1), .val (.int p2), .val (.int p3), .val (.int p4), .val (.int p5), .val (.int y1), .val (.int (p1 &&& (127 : Int32))), .val (.int (p2 &&& (127 : Int32))), .val (.int (p3 &&& (127 : Int32))), .val (.int (p4 &&& (127 : Int32))), .val (.ref b2), .val (.long ((((0 : Int64) + ((p1 &&& (127 : Int32)).toInt64)) + ((p2 &&& (127 : Int32)).toInt64)) + ((p3 &&& (127 : Int32)).toInt64))), .second, .val (.int (own_max (own_max (own_max (0 : Int32) (p1 &&& (127 : Int32))) (p2 &&& (127 : Int32))) (p3 &&& (127 : Int32)))), .val (.ref b33)] [(.ref b33)])) rfl (by rw [hml]; rfl) (Steps.refl _) (argsL := []) (rest := []) (lenOf pd_6 rfl) rfl (by show 2 * 0 + _ ≤ _; exact Nat.le_of_eq rfl) (hb hby at_200) (fun _ _ => ⟨rfl, e35, (Nat.le_of_ble_eq_true rfl), (show 20 + cap1 + cap2 + cap3 + 4 + 0 ≤ 896 from by omega)⟩)
          dsimp only [Pt.U, Pt.locs, Pt.cells, Pt.slots] at X36 l36 y36 z36 st36 hQ36
          subst l36 y36 z36
          obtain ⟨rfl, N36q, e36⟩ := hQ36
          have N36 := Fr.app N35 N36q
          obtain ⟨cq37, kq37, q37a, q37b, q37c⟩ := isOf hZ e36 nfE33_v33
          obtain ⟨_, _, ⟨T37, L37, k37, n37⟩, -, X37, ⟨Lc37, hQ37, l37, y37, z37⟩, st37⟩ := X36.virtualBack hx (y := (⟨"nachbar/sim/Summary", "p99", "()J"⟩ : MethodName)) (z := (⟨"nachbar/sim/Summary", "p99", "()J"⟩ : MethodName)) hown (mvT hZ (hw _ (List.mem_of_getElem? (i := 64) rfl))) (mvT hZ (hw _ (List.mem_of_getElem? (i := 65) rfl))) (notFace_of_selects (args := #[]) (mvT hZ (hw _ (List.mem_of_getElem? (i := 67) rfl)))) (mvT hZ (hw _ (List.mem_of_getElem? (i := 67) rfl))) (mvT hZ (hw _ (List.mem_of_getElem? (i := 66) rfl))) (by decide) (backOf (W := 0) (rg_p99 l Z a0 hw [] b33 ((Int32.ofNat ((own_max (own_max (own_max (0 : Int32) (p1 &&& (127 : Int32))) (p2 &&& (127 : Int32))) (p3 &&& (127 : Int32)))).toNatClampNeg).toInt64) T33.heap n0 Z33 nf33_2_v33) hZ (hw _ (List.mem_of_getElem? (i := 68) rfl)) (hw _ (List.mem_of_getElem? (i := 22) rfl)) (Nat.le_of_ble_eq_true rfl) (Nat.le_of_ble_eq_true rfl)) q37a q37c (g := (mkF m 212 #[.val (.int p1), .val (.int p2), .val (.int p3), .val (.int p4), .val (.int p5), .val (.int y1), .val (.int (p1 &&& (127 : Int32))), .val (.int (p2 &&& (127 : Int32))), .val (.int (p3 &&& (127 : Int32))), .val (.int (p4 &&& (127 : Int32))), .val (.ref b2), .val (.long ((((0 : Int64) + ((p1 &&& (127 : Int32)).toInt64)) + ((p2 &&& (127 : Int32)).toInt64)) + ((p3 &&& (127 : Int32)).toInt64))), .second, .val (.int (own_max (own_max (own_max (0 : Int32) (p1 &&& (127 : Int32))) (p2 &&& (127 : Int32))) (p3 &&& (127 : Int32)))), .val (.ref b33)] [(.ref b33)])) rfl (by rw [hml]; rfl) (Steps.refl _) (argsL := []) (rest := []) (lenOf pd_6 rfl) rfl (by show 2 * 0 + _ ≤ _; exact Nat.le_of_eq rfl) (hb hby at_212) (fun _ _ => ⟨rfl, e36, (Nat.le_of_ble_eq_true rfl), (show 20 + cap1 + cap2 + cap3 + 4 + 0 ≤ 896 from by omega)⟩)
          dsimp only [Pt.U, Pt.locs, Pt.cells, Pt.slots] at X37 l37 y37 z37 st37 hQ37
          subst l37 y37 z37
          obtain ⟨rfl, N37q, e37⟩ := hQ37
          have N37 := Fr.app N36 N37q
          obtain ⟨fs, hr, hrun, hended, hW, hsame⟩ := X37.leave (v := some (.int (1 : Int32))) (fun h => by rw [Bd.returns] at h; cases h)
          refine ⟨_, _, pre31 _ ?_, hrun, hended, _, _, rfl, ?_, ⟨_, rfl⟩, hW, hsame.mono (Nat.le_of_ble_eq_true rfl) (show 20 + cap1 + cap2 + cap3 + 4 ≤ 896 from by omega)⟩
          · show Steps p.tables e below (T30.setTop (mkF m 141 #[.val (.int p1), .val (.int p2), .val (.int p3), .val (.int p4), .val (.int p5), .val (.int y1), .val (.int (p1 &&& (127 : Int32))), .val (.int (p2 &&& (127 : Int32))), .val (.int (p3 &&& (127 : Int32))), .val (.int (p4 &&& (127 : Int32))), .val (.ref b2), .val (.long ((((0 : Int64) + ((p1 &&& (127 : Int32)).toInt64)) + ((p2 &&& (127 : Int32)).toInt64)) + ((p3 &&& (127 : Int32)).toInt64))), .second, .val (.int (own_max (own_max (own_max (0 : Int32) (p1 &&& (127 : Int32))) (p2 &&& (127 : Int32))) (p3 &&& (127 : Int32)))), .unset] [(.int (4 : Int32)), (.int y1)])) _
            refine XS.icmpYes X30.here hx rfl (pc0 := 141) (pc' := 168) rfl (hb hby at_141) rfl (tlt hc141_32).1 (by decide) (by decide) ?_
            show Steps p.tables e below (T30.setTop (mkF m 168 #[.val (.int p1), .val (.int p2), .val (.int p3), .val (.int p4), .val (.int p5), .val (.int y1), .val (.int (p1 &&& (127 : Int32))), .val (.int (p2 &&& (127 : Int32))), .val (.int (p3 &&& (127 : Int32))), .val (.int (p4 &&& (127 : Int32))), .val (.ref b2), .val (.long ((((0 : Int64) + ((p1 &&& (127 : Int32)).toInt64)) + ((p2 &&& (127 : Int32)).toInt64)) + ((p3 &&& (127 : Int32)).toInt64))), .second, .val (.int (own_max (own_max (own_max (0 : Int32) (p1 &&& (127 : Int32))) (p2 &&& (127 : Int32))) (p3 &&& (127 : Int32)))), .unset] [])) _
            refine XS.aload X30.here hx rfl (hb hby at_168) rfl rfl ?_
            show Steps p.tables e below (T30.setTop (mkF m 170 #[.val (.int p1), .val (.int p2), .val (.int p3), .val (.int p4), .val (.int p5), .val (.int y1), .val (.int (p1 &&& (127 : Int32))), .val (.int (p2 &&& (127 : Int32))), .val (.int (p3 &&& (127 : Int32))), .val (.int (p4 &&& (127 : Int32))), .val (.ref b2), .val (.long ((((0 : Int64) + ((p1 &&& (127 : Int32)).toInt64)) + ((p2 &&& (127 : Int32)).toInt64)) + ((p3 &&& (127 : Int32)).toInt64))), .second, .val (.int (own_max (own_max (own_max (0 : Int32) (p1 &&& (127 : Int32))) (p2 &&& (127 : Int32))) (p3 &&& (127 : Int32)))), .unset] [(.ref b2)])) _
            refine st33.trans ?_
            show Steps p.tables e below (T33.setTop (mkF m 173 #[.val (.int p1), .val (.int p2), .val (.int p3), .val (.int p4), .val (.int p5), .val (.int y1), .val (.int (p1 &&& (127 : Int32))), .val (.int (p2 &&& (127 : Int32))), .val (.int (p3 &&& (127 : Int32))), .val (.int (p4 &&& (127 : Int32))), .val (.ref b2), .val (.long ((((0 : Int64) + ((p1 &&& (127 : Int32)).toInt64)) + ((p2 &&& (127 : Int32)).toInt64)) + ((p3 &&& (127 : Int32)).toInt64))), .second, .val (.int (own_max (own_max (own_max (0 : Int32) (p1 &&& (127 : Int32))) (p2 &&& (127 : Int32))) (p3 &&& (127 : Int32)))), .unset] [(.ref b33)])) _
            refine XS.astore X33.here hx rfl (hb hby at_173) rfl rfl (l' := #[.val (.int p1), .val (.int p2), .val (.int p3), .val (.int p4), .val (.int p5), .val (.int y1), .val (.int (p1 &&& (127 : Int32))), .val (.int (p2 &&& (127 : Int32))), .val (.int (p3 &&& (127 : Int32))), .val (.int (p4 &&& (127 : Int32))), .val (.ref b2), .val (.long ((((0 : Int64) + ((p1 &&& (127 : Int32)).toInt64)) + ((p2 &&& (127 : Int32)).toInt64)) + ((p3 &&& (127 : Int32)).toInt64))), .second, .val (.int (own_max (own_max (own_max (0 : Int32) (p1 &&& (127 : Int32))) (p2 &&& (127 : Int32))) (p3 &&& (127 : Int32)))), .val (.ref b33)]) rfl ?_
            show Steps p.tables e below (T33.setTop (mkF m 175 #[.val (.int p1), .val (.int p2), .val (.int p3), .val (.int p4), .val (.int p5), .val (.int y1), .val (.int (p1 &&& (127 : Int32))), .val (.int (p2 &&& (127 : Int32))), .val (.int (p3 &&& (127 : Int32))), .val (.int (p4 &&& (127 : Int32))), .val (.ref b2), .val (.long ((((0 : Int64) + ((p1 &&& (127 : Int32)).toInt64)) + ((p2 &&& (127 : Int32)).toInt64)) + ((p3 &&& (127 : Int32)).toInt64))), .second, .val (.int (own_max (own_max (own_max (0 : Int32) (p1 &&& (127 : Int32))) (p2 &&& (127 : Int32))) (p3 &&& (127 : Int32)))), .val (.ref b33)] [])) _
            refine XS.aload X33.here hx rfl (hb hby at_175) rfl rfl ?_
            show Steps p.tables e below (T33.setTop (mkF m 177 #[.val (.int p1), .val (.int p2), .val (.int p3), .val (.int p4), .val (.int p5), .val (.int y1), .val (.int (p1 &&& (127 : Int32))), .val (.int (p2 &&& (127 : Int32))), .val (.int (p3 &&& (127 : Int32))), .val (.int (p4 &&& (127 : Int32))), .val (.ref b2), .val (.long ((((0 : Int64) + ((p1 &&& (127 : Int32)).toInt64)) + ((p2 &&& (127 : Int32)).toInt64)) + ((p3 &&& (127 : Int32)).toInt64))), .second, .val (.int (own_max (own_max (own_max (0 : Int32) (p1 &&& (127 : Int32))) (p2 &&& (127 : Int32))) (p3 &&& (127 : Int32)))), .val (.ref b33)] [(.ref b33)])) _
            refine st34.trans ?_
            show Steps p.tables e below (T34.setTop (mkF m 180 #[.val (.int p1), .val (.int p2), .val (.int p3), .val (.int p4), .val (.int p5), .val (.int y1), .val (.int (p1 &&& (127 : Int32))), .val (.int (p2 &&& (127 : Int32))), .val (.int (p3 &&& (127 : Int32))), .val (.int (p4 &&& (127 : Int32))), .val (.ref b2), .val (.long ((((0 : Int64) + ((p1 &&& (127 : Int32)).toInt64)) + ((p2 &&& (127 : Int32)).toInt64)) + ((p3 &&& (127 : Int32)).toInt64))), .second, .val (.int (own_max (own_max (own_max (0 : Int32) (p1 &&& (127 : Int32))) (p2 &&& (127 : Int32))) (p3 &&& (127 : Int32)))), .val (.ref b33)] [(.long (3 : Int64))])) _
            refine XS.iload X34.here hx rfl (hb hby at_180) rfl ?_
            show Steps p.tables e below (T34.setTop (mkF m 182 #[.val (.int p1), .val (.int p2), .val (.int p3), .val (.int p4), .val (.int p5), .val (.int y1), .val (.int (p1 &&& (127 : Int32))), .val (.int (p2 &&& (127 : Int32))), .val (.int (p3 &&& (127 : Int32))), .val (.int (p4 &&& (127 : Int32))), .val (.ref b2), .val (.long ((((0 : Int64) + ((p1 &&& (127 : Int32)).toInt64)) + ((p2 &&& (127 : Int32)).toInt64)) + ((p3 &&& (127 : Int32)).toInt64))), .second, .val (.int (own_max (own_max (own_max (0 : Int32) (p1 &&& (127 : Int32))) (p2 &&& (127 : Int32))) (p3 &&& (127 : Int32)))), .val (.ref b33)] [(.int y1), (.long (3 : Int64))])) _
            refine XS.i2l X34.here hx rfl (hb hby at_182) rfl ?_
            show Steps p.tables e below (T34.setTop (mkF m 183 #[.val (.int p1), .val (.int p2), .val (.int p3), .val (.int p4), .val (.int p5), .val (.int y1), .val (.int (p1 &&& (127 : Int32))), .val (.int (p2 &&& (127 : Int32))), .val (.int (p3 &&& (127 : Int32))), .val (.int (p4 &&& (127 : Int32))), .val (.ref b2), .val (.long ((((0 : Int64) + ((p1 &&& (127 : Int32)).toInt64)) + ((p2 &&& (127 : Int32)).toInt64)) + ((p3 &&& (127 : Int32)).toInt64))), .second, .val (.int (own_max (own_max (own_max (0 : Int32) (p1 &&& (127 : Int32))) (p2 &&& (127 : Int32))) (p3 &&& (127 : Int32)))), .val (.ref b33)] [(.long (y1.toInt64)), (.long (3 : Int64))])) _
            refine XS.lcmp X34.here hx rfl (hb hby at_183) rfl ?_
            show Steps p.tables e below (T34.setTop (mkF m 184 #[.val (.int p1), .val (.int p2), .val (.int p3), .val (.int p4), .val (.int p5), .val (.int y1), .val (.int (p1 &&& (127 : Int32))), .val (.int (p2 &&& (127 : Int32))), .val (.int (p3 &&& (127 : Int32))), .val (.int (p4 &&& (127 : Int32))), .val (.ref b2), .val (.long ((((0 : Int64) + ((p1 &&& (127 : Int32)).toInt64)) + ((p2 &&& (127 : Int32)).toInt64)) + ((p3 &&& (127 : Int32)).toInt64))), .second, .val (.int (own_max (own_max (own_max (0 : Int32) (p1 &&& (127 : Int32))) (p2 &&& (127 : Int32))) (p3 &&& (127 : Int32)))), .val (.ref b33)] [(.int (lcmpW (3 : Int64) (y1.toInt64)))])) _
            refine XS.ifNo X34.here hx rfl (hb hby at_184) rfl ((if0 _ _).trans (teq (own_cnt (3 : Int64) 3 (by decide) (by decide) (own_ge hc111_23) (own_lt5 hc141_32))).2) ?_
            show Steps p.tables e below (T34.setTop (mkF m 187 #[.val (.int p1), .val (.int p2), .val (.int p3), .val (.int p4), .val (.int p5), .val (.int y1), .val (.int (p1 &&& (127 : Int32))), .val (.int (p2 &&& (127 : Int32))), .val (.int (p3 &&& (127 : Int32))), .val (.int (p4 &&& (127 : Int32))), .val (.ref b2), .val (.long ((((0 : Int64) + ((p1 &&& (127 : Int32)).toInt64)) + ((p2 &&& (127 : Int32)).toInt64)) + ((p3 &&& (127 : Int32)).toInt64))), .second, .val (.int (own_max (own_max (own_max (0 : Int32) (p1 &&& (127 : Int32))) (p2 &&& (127 : Int32))) (p3 &&& (127 : Int32)))), .val (.ref b33)] [])) _
            refine XS.aload X34.here hx rfl (hb hby at_187) rfl rfl ?_
            show Steps p.tables e below (T34.setTop (mkF m 189 #[.val (.int p1), .val (.int p2), .val (.int p3), .val (.int p4), .val (.int p5), .val (.int y1), .val (.int (p1 &&& (127 : Int32))), .val (.int (p2 &&& (127 : Int32))), .val (.int (p3 &&& (127 : Int32))), .val (.int (p4 &&& (127 : Int32))), .val (.ref b2), .val (.long ((((0 : Int64) + ((p1 &&& (127 : Int32)).toInt64)) + ((p2 &&& (127 : Int32)).toInt64)) + ((p3 &&& (127 : Int32)).toInt64))), .second, .val (.int (own_max (own_max (own_max (0 : Int32) (p1 &&& (127 : Int32))) (p2 &&& (127 : Int32))) (p3 &&& (127 : Int32)))), .val (.ref b33)] [(.ref b33)])) _
            refine st35.trans ?_
            show Steps p.tables e below (T35.setTop (mkF m 192 #[.val (.int p1), .val (.int p2), .val (.int p3), .val (.int p4), .val (.int p5), .val (.int y1), .val (.int (p1 &&& (127 : Int32))), .val (.int (p2 &&& (127 : Int32))), .val (.int (p3 &&& (127 : Int32))), .val (.int (p4 &&& (127 : Int32))), .val (.ref b2), .val (.long ((((0 : Int64) + ((p1 &&& (127 : Int32)).toInt64)) + ((p2 &&& (127 : Int32)).toInt64)) + ((p3 &&& (127 : Int32)).toInt64))), .second, .val (.int (own_max (own_max (own_max (0 : Int32) (p1 &&& (127 : Int32))) (p2 &&& (127 : Int32))) (p3 &&& (127 : Int32)))), .val (.ref b33)] [(.long ((((0 : Int64) + ((p1 &&& (127 : Int32)).toInt64)) + ((p2 &&& (127 : Int32)).toInt64)) + ((p3 &&& (127 : Int32)).toInt64)))])) _
            refine XS.lload X35.here hx rfl (hb hby at_192) rfl ?_
            show Steps p.tables e below (T35.setTop (mkF m 194 #[.val (.int p1), .val (.int p2), .val (.int p3), .val (.int p4), .val (.int p5), .val (.int y1), .val (.int (p1 &&& (127 : Int32))), .val (.int (p2 &&& (127 : Int32))), .val (.int (p3 &&& (127 : Int32))), .val (.int (p4 &&& (127 : Int32))), .val (.ref b2), .val (.long ((((0 : Int64) + ((p1 &&& (127 : Int32)).toInt64)) + ((p2 &&& (127 : Int32)).toInt64)) + ((p3 &&& (127 : Int32)).toInt64))), .second, .val (.int (own_max (own_max (own_max (0 : Int32) (p1 &&& (127 : Int32))) (p2 &&& (127 : Int32))) (p3 &&& (127 : Int32)))), .val (.ref b33)] [(.long ((((0 : Int64) + ((p1 &&& (127 : Int32)).toInt64)) + ((p2 &&& (127 : Int32)).toInt64)) + ((p3 &&& (127 : Int32)).toInt64))), (.long ((((0 : Int64) + ((p1 &&& (127 : Int32)).toInt64)) + ((p2 &&& (127 : Int32)).toInt64)) + ((p3 &&& (127 : Int32)).toInt64)))])) _
            refine XS.lcmp X35.here hx rfl (hb hby at_194) rfl ?_
            show Steps p.tables e below (T35.setTop (mkF m 195 #[.val (.int p1), .val (.int p2), .val (.int p3), .val (.int p4), .val (.int p5), .val (.int y1), .val (.int (p1 &&& (127 : Int32))), .val (.int (p2 &&& (127 : Int32))), .val (.int (p3 &&& (127 : Int32))), .val (.int (p4 &&& (127 : Int32))), .val (.ref b2), .val (.long ((((0 : Int64) + ((p1 &&& (127 : Int32)).toInt64)) + ((p2 &&& (127 : Int32)).toInt64)) + ((p3 &&& (127 : Int32)).toInt64))), .second, .val (.int (own_max (own_max (own_max (0 : Int32) (p1 &&& (127 : Int32))) (p2 &&& (127 : Int32))) (p3 &&& (127 : Int32)))), .val (.ref b33)] [(.int (lcmpW ((((0 : Int64) + ((p1 &&& (127 : Int32)).toInt64)) + ((p2 &&& (127 : Int32)).toInt64)) + ((p3 &&& (127 : Int32)).toInt64)) ((((0 : Int64) + ((p1 &&& (127 : Int32)).toInt64)) + ((p2 &&& (127 : Int32)).toInt64)) + ((p3 &&& (127 : Int32)).toInt64))))])) _
            refine XS.ifNo X35.here hx rfl (hb hby at_195) rfl ((if0 _ _).trans (teq (((lw_eq _ _).mpr rfl) : ((lcmpW ((((0 : Int64) + ((p1 &&& (127 : Int32)).toInt64)) + ((p2 &&& (127 : Int32)).toInt64)) + ((p3 &&& (127 : Int32)).toInt64)) ((((0 : Int64) + ((p1 &&& (127 : Int32)).toInt64)) + ((p2 &&& (127 : Int32)).toInt64)) + ((p3 &&& (127 : Int32)).toInt64))) = (0 : Int32)))).2) ?_
            show Steps p.tables e below (T35.setTop (mkF m 198 #[.val (.int p1), .val (.int p2), .val (.int p3), .val (.int p4), .val (.int p5), .val (.int y1), .val (.int (p1 &&& (127 : Int32))), .val (.int (p2 &&& (127 : Int32))), .val (.int (p3 &&& (127 : Int32))), .val (.int (p4 &&& (127 : Int32))), .val (.ref b2), .val (.long ((((0 : Int64) + ((p1 &&& (127 : Int32)).toInt64)) + ((p2 &&& (127 : Int32)).toInt64)) + ((p3 &&& (127 : Int32)).toInt64))), .second, .val (.int (own_max (own_max (own_max (0 : Int32) (p1 &&& (127 : Int32))) (p2 &&& (127 : Int32))) (p3 &&& (127 : Int32)))), .val (.ref b33)] [])) _
            refine XS.aload X35.here hx rfl (hb hby at_198) rfl rfl ?_
            show Steps p.tables e below (T35.setTop (mkF m 200 #[.val (.int p1), .val (.int p2), .val (.int p3), .val (.int p4), .val (.int p5), .val (.int y1), .val (.int (p1 &&& (127 : Int32))), .val (.int (p2 &&& (127 : Int32))), .val (.int (p3 &&& (127 : Int32))), .val (.int (p4 &&& (127 : Int32))), .val (.ref b2), .val (.long ((((0 : Int64) + ((p1 &&& (127 : Int32)).toInt64)) + ((p2 &&& (127 : Int32)).toInt64)) + ((p3 &&& (127 : Int32)).toInt64))), .second, .val (.int (own_max (own_max (own_max (0 : Int32) (p1 &&& (127 : Int32))) (p2 &&& (127 : Int32))) (p3 &&& (127 : Int32)))), .val (.ref b33)] [(.ref b33)])) _
            refine st36.trans ?_
            show Steps p.tables e below (T36.setTop (mkF m 203 #[.val (.int p1), .val (.int p2), .val (.int p3), .val (.int p4), .val (.int p5), .val (.int y1), .val (.int (p1 &&& (127 : Int32))), .val (.int (p2 &&& (127 : Int32))), .val (.int (p3 &&& (127 : Int32))), .val (.int (p4 &&& (127 : Int32))), .val (.ref b2), .val (.long ((((0 : Int64) + ((p1 &&& (127 : Int32)).toInt64)) + ((p2 &&& (127 : Int32)).toInt64)) + ((p3 &&& (127 : Int32)).toInt64))), .second, .val (.int (own_max (own_max (own_max (0 : Int32) (p1 &&& (127 : Int32))) (p2 &&& (127 : Int32))) (p3 &&& (127 : Int32)))), .val (.ref b33)] [(.long ((own_max (own_max (own_max (0 : Int32) (p1 &&& (127 : Int32))) (p2 &&& (127 : Int32))) (p3 &&& (127 : Int32))).toInt64))])) _
            refine XS.iload X36.here hx rfl (hb hby at_203) rfl ?_
            show Steps p.tables e below (T36.setTop (mkF m 205 #[.val (.int p1), .val (.int p2), .val (.int p3), .val (.int p4), .val (.int p5), .val (.int y1), .val (.int (p1 &&& (127 : Int32))), .val (.int (p2 &&& (127 : Int32))), .val (.int (p3 &&& (127 : Int32))), .val (.int (p4 &&& (127 : Int32))), .val (.ref b2), .val (.long ((((0 : Int64) + ((p1 &&& (127 : Int32)).toInt64)) + ((p2 &&& (127 : Int32)).toInt64)) + ((p3 &&& (127 : Int32)).toInt64))), .second, .val (.int (own_max (own_max (own_max (0 : Int32) (p1 &&& (127 : Int32))) (p2 &&& (127 : Int32))) (p3 &&& (127 : Int32)))), .val (.ref b33)] [(.int (own_max (own_max (own_max (0 : Int32) (p1 &&& (127 : Int32))) (p2 &&& (127 : Int32))) (p3 &&& (127 : Int32)))), (.long ((own_max (own_max (own_max (0 : Int32) (p1 &&& (127 : Int32))) (p2 &&& (127 : Int32))) (p3 &&& (127 : Int32))).toInt64))])) _
            refine XS.i2l X36.here hx rfl (hb hby at_205) rfl ?_
            show Steps p.tables e below (T36.setTop (mkF m 206 #[.val (.int p1), .val (.int p2), .val (.int p3), .val (.int p4), .val (.int p5), .val (.int y1), .val (.int (p1 &&& (127 : Int32))), .val (.int (p2 &&& (127 : Int32))), .val (.int (p3 &&& (127 : Int32))), .val (.int (p4 &&& (127 : Int32))), .val (.ref b2), .val (.long ((((0 : Int64) + ((p1 &&& (127 : Int32)).toInt64)) + ((p2 &&& (127 : Int32)).toInt64)) + ((p3 &&& (127 : Int32)).toInt64))), .second, .val (.int (own_max (own_max (own_max (0 : Int32) (p1 &&& (127 : Int32))) (p2 &&& (127 : Int32))) (p3 &&& (127 : Int32)))), .val (.ref b33)] [(.long ((own_max (own_max (own_max (0 : Int32) (p1 &&& (127 : Int32))) (p2 &&& (127 : Int32))) (p3 &&& (127 : Int32))).toInt64)), (.long ((own_max (own_max (own_max (0 : Int32) (p1 &&& (127 : Int32))) (p2 &&& (127 : Int32))) (p3 &&& (127 : Int32))).toInt64))])) _
            refine XS.lcmp X36.here hx rfl (hb hby at_206) rfl ?_
            show Steps p.tables e below (T36.setTop (mkF m 207 #[.val (.int p1), .val (.int p2), .val (.int p3), .val (.int p4), .val (.int p5), .val (.int y1), .val (.int (p1 &&& (127 : Int32))), .val (.int (p2 &&& (127 : Int32))), .val (.int (p3 &&& (127 : Int32))), .val (.int (p4 &&& (127 : Int32))), .val (.ref b2), .val (.long ((((0 : Int64) + ((p1 &&& (127 : Int32)).toInt64)) + ((p2 &&& (127 : Int32)).toInt64)) + ((p3 &&& (127 : Int32)).toInt64))), .second, .val (.int (own_max (own_max (own_max (0 : Int32) (p1 &&& (127 : Int32))) (p2 &&& (127 : Int32))) (p3 &&& (127 : Int32)))), .val (.ref b33)] [(.int (lcmpW ((own_max (own_max (own_max (0 : Int32) (p1 &&& (127 : Int32))) (p2 &&& (127 : Int32))) (p3 &&& (127 : Int32))).toInt64) ((own_max (own_max (own_max (0 : Int32) (p1 &&& (127 : Int32))) (p2 &&& (127 : Int32))) (p3 &&& (127 : Int32))).toInt64)))])) _
            refine XS.ifNo X36.here hx rfl (hb hby at_207) rfl ((if0 _ _).trans (teq (((lw_eq _ _).mpr rfl) : ((lcmpW ((own_max (own_max (own_max (0 : Int32) (p1 &&& (127 : Int32))) (p2 &&& (127 : Int32))) (p3 &&& (127 : Int32))).toInt64) ((own_max (own_max (own_max (0 : Int32) (p1 &&& (127 : Int32))) (p2 &&& (127 : Int32))) (p3 &&& (127 : Int32))).toInt64)) = (0 : Int32)))).2) ?_
            show Steps p.tables e below (T36.setTop (mkF m 210 #[.val (.int p1), .val (.int p2), .val (.int p3), .val (.int p4), .val (.int p5), .val (.int y1), .val (.int (p1 &&& (127 : Int32))), .val (.int (p2 &&& (127 : Int32))), .val (.int (p3 &&& (127 : Int32))), .val (.int (p4 &&& (127 : Int32))), .val (.ref b2), .val (.long ((((0 : Int64) + ((p1 &&& (127 : Int32)).toInt64)) + ((p2 &&& (127 : Int32)).toInt64)) + ((p3 &&& (127 : Int32)).toInt64))), .second, .val (.int (own_max (own_max (own_max (0 : Int32) (p1 &&& (127 : Int32))) (p2 &&& (127 : Int32))) (p3 &&& (127 : Int32)))), .val (.ref b33)] [])) _
            refine XS.aload X36.here hx rfl (hb hby at_210) rfl rfl ?_
            show Steps p.tables e below (T36.setTop (mkF m 212 #[.val (.int p1), .val (.int p2), .val (.int p3), .val (.int p4), .val (.int p5), .val (.int y1), .val (.int (p1 &&& (127 : Int32))), .val (.int (p2 &&& (127 : Int32))), .val (.int (p3 &&& (127 : Int32))), .val (.int (p4 &&& (127 : Int32))), .val (.ref b2), .val (.long ((((0 : Int64) + ((p1 &&& (127 : Int32)).toInt64)) + ((p2 &&& (127 : Int32)).toInt64)) + ((p3 &&& (127 : Int32)).toInt64))), .second, .val (.int (own_max (own_max (own_max (0 : Int32) (p1 &&& (127 : Int32))) (p2 &&& (127 : Int32))) (p3 &&& (127 : Int32)))), .val (.ref b33)] [(.ref b33)])) _
            refine st37.trans ?_
            show Steps p.tables e below (T37.setTop (mkF m 215 #[.val (.int p1), .val (.int p2), .val (.int p3), .val (.int p4), .val (.int p5), .val (.int y1), .val (.int (p1 &&& (127 : Int32))), .val (.int (p2 &&& (127 : Int32))), .val (.int (p3 &&& (127 : Int32))), .val (.int (p4 &&& (127 : Int32))), .val (.ref b2), .val (.long ((((0 : Int64) + ((p1 &&& (127 : Int32)).toInt64)) + ((p2 &&& (127 : Int32)).toInt64)) + ((p3 &&& (127 : Int32)).toInt64))), .second, .val (.int (own_max (own_max (own_max (0 : Int32) (p1 &&& (127 : Int32))) (p2 &&& (127 : Int32))) (p3 &&& (127 : Int32)))), .val (.ref b33)] [(.long ((Int32.ofNat ((own_max (own_max (own_max (0 : Int32) (p1 &&& (127 : Int32))) (p2 &&& (127 : Int32))) (p3 &&& (127 : Int32)))).toNatClampNeg).toInt64))])) _
            refine XS.iload X37.here hx rfl (hb hby at_215) rfl ?_
            show Steps p.tables e below (T37.setTop (mkF m 217 #[.val (.int p1), .val (.int p2), .val (.int p3), .val (.int p4), .val (.int p5), .val (.int y1), .val (.int (p1 &&& (127 : Int32))), .val (.int (p2 &&& (127 : Int32))), .val (.int (p3 &&& (127 : Int32))), .val (.int (p4 &&& (127 : Int32))), .val (.ref b2), .val (.long ((((0 : Int64) + ((p1 &&& (127 : Int32)).toInt64)) + ((p2 &&& (127 : Int32)).toInt64)) + ((p3 &&& (127 : Int32)).toInt64))), .second, .val (.int (own_max (own_max (own_max (0 : Int32) (p1 &&& (127 : Int32))) (p2 &&& (127 : Int32))) (p3 &&& (127 : Int32)))), .val (.ref b33)] [(.int (own_max (own_max (own_max (0 : Int32) (p1 &&& (127 : Int32))) (p2 &&& (127 : Int32))) (p3 &&& (127 : Int32)))), (.long ((Int32.ofNat ((own_max (own_max (own_max (0 : Int32) (p1 &&& (127 : Int32))) (p2 &&& (127 : Int32))) (p3 &&& (127 : Int32)))).toNatClampNeg).toInt64))])) _
            refine XS.i2l X37.here hx rfl (hb hby at_217) rfl ?_
            show Steps p.tables e below (T37.setTop (mkF m 218 #[.val (.int p1), .val (.int p2), .val (.int p3), .val (.int p4), .val (.int p5), .val (.int y1), .val (.int (p1 &&& (127 : Int32))), .val (.int (p2 &&& (127 : Int32))), .val (.int (p3 &&& (127 : Int32))), .val (.int (p4 &&& (127 : Int32))), .val (.ref b2), .val (.long ((((0 : Int64) + ((p1 &&& (127 : Int32)).toInt64)) + ((p2 &&& (127 : Int32)).toInt64)) + ((p3 &&& (127 : Int32)).toInt64))), .second, .val (.int (own_max (own_max (own_max (0 : Int32) (p1 &&& (127 : Int32))) (p2 &&& (127 : Int32))) (p3 &&& (127 : Int32)))), .val (.ref b33)] [(.long ((own_max (own_max (own_max (0 : Int32) (p1 &&& (127 : Int32))) (p2 &&& (127 : Int32))) (p3 &&& (127 : Int32))).toInt64)), (.long ((Int32.ofNat ((own_max (own_max (own_max (0 : Int32) (p1 &&& (127 : Int32))) (p2 &&& (127 : Int32))) (p3 &&& (127 : Int32)))).toNatClampNeg).toInt64))])) _
            refine XS.lcmp X37.here hx rfl (hb hby at_218) rfl ?_
            show Steps p.tables e below (T37.setTop (mkF m 219 #[.val (.int p1), .val (.int p2), .val (.int p3), .val (.int p4), .val (.int p5), .val (.int y1), .val (.int (p1 &&& (127 : Int32))), .val (.int (p2 &&& (127 : Int32))), .val (.int (p3 &&& (127 : Int32))), .val (.int (p4 &&& (127 : Int32))), .val (.ref b2), .val (.long ((((0 : Int64) + ((p1 &&& (127 : Int32)).toInt64)) + ((p2 &&& (127 : Int32)).toInt64)) + ((p3 &&& (127 : Int32)).toInt64))), .second, .val (.int (own_max (own_max (own_max (0 : Int32) (p1 &&& (127 : Int32))) (p2 &&& (127 : Int32))) (p3 &&& (127 : Int32)))), .val (.ref b33)] [(.int (lcmpW ((Int32.ofNat ((own_max (own_max (own_max (0 : Int32) (p1 &&& (127 : Int32))) (p2 &&& (127 : Int32))) (p3 &&& (127 : Int32)))).toNatClampNeg).toInt64) ((own_max (own_max (own_max (0 : Int32) (p1 &&& (127 : Int32))) (p2 &&& (127 : Int32))) (p3 &&& (127 : Int32))).toInt64)))])) _
            refine XS.ifNo X37.here hx rfl (hb hby at_219) rfl ((if0 _ _).trans (teq (((lw_eq _ _).mpr (own_back (own_mx (own_mx (own_mx own_mx0 hx1a) hx2a) hx3a))) : ((lcmpW ((Int32.ofNat ((own_max (own_max (own_max (0 : Int32) (p1 &&& (127 : Int32))) (p2 &&& (127 : Int32))) (p3 &&& (127 : Int32)))).toNatClampNeg).toInt64) ((own_max (own_max (own_max (0 : Int32) (p1 &&& (127 : Int32))) (p2 &&& (127 : Int32))) (p3 &&& (127 : Int32))).toInt64)) = (0 : Int32)))).2) ?_
            show Steps p.tables e below (T37.setTop (mkF m 222 #[.val (.int p1), .val (.int p2), .val (.int p3), .val (.int p4), .val (.int p5), .val (.int y1), .val (.int (p1 &&& (127 : Int32))), .val (.int (p2 &&& (127 : Int32))), .val (.int (p3 &&& (127 : Int32))), .val (.int (p4 &&& (127 : Int32))), .val (.ref b2), .val (.long ((((0 : Int64) + ((p1 &&& (127 : Int32)).toInt64)) + ((p2 &&& (127 : Int32)).toInt64)) + ((p3 &&& (127 : Int32)).toInt64))), .second, .val (.int (own_max (own_max (own_max (0 : Int32) (p1 &&& (127 : Int32))) (p2 &&& (127 : Int32))) (p3 &&& (127 : Int32)))), .val (.ref b33)] [])) _
            refine XS.iconst X37.here hx rfl (hb hby at_222) ?_
            show Steps p.tables e below (T37.setTop (mkF m 223 #[.val (.int p1), .val (.int p2), .val (.int p3), .val (.int p4), .val (.int p5), .val (.int y1), .val (.int (p1 &&& (127 : Int32))), .val (.int (p2 &&& (127 : Int32))), .val (.int (p3 &&& (127 : Int32))), .val (.int (p4 &&& (127 : Int32))), .val (.ref b2), .val (.long ((((0 : Int64) + ((p1 &&& (127 : Int32)).toInt64)) + ((p2 &&& (127 : Int32)).toInt64)) + ((p3 &&& (127 : Int32)).toInt64))), .second, .val (.int (own_max (own_max (own_max (0 : Int32) (p1 &&& (127 : Int32))) (p2 &&& (127 : Int32))) (p3 &&& (127 : Int32)))), .val (.ref b33)] [(.int (1 : Int32))])) _
            refine XS.goto X37.here hx rfl (pc0 := 223) (pc' := 227) rfl (hb hby at_223) (by decide) (by decide) ?_
            show Steps p.tables e below (T37.setTop (mkF m 227 #[.val (.int p1), .val (.int p2), .val (.int p3), .val (.int p4), .val (.int p5), .val (.int y1), .val (.int (p1 &&& (127 : Int32))), .val (.int (p2 &&& (127 : Int32))), .val (.int (p3 &&& (127 : Int32))), .val (.int (p4 &&& (127 : Int32))), .val (.ref b2), .val (.long ((((0 : Int64) + ((p1 &&& (127 : Int32)).toInt64)) + ((p2 &&& (127 : Int32)).toInt64)) + ((p3 &&& (127 : Int32)).toInt64))), .second, .val (.int (own_max (own_max (own_max (0 : Int32) (p1 &&& (127 : Int32))) (p2 &&& (127 : Int32))) (p3 &&& (127 : Int32)))), .val (.ref b33)] [(.int (1 : Int32))])) _
            exact retN X37 hx (t := .boolean) Bd.returns (by simp) (hb hby at_227) hr
          · show Q_rm0 Z p1 p2 p3 p4 p5 h0 n0 _ T37.heap _
            rw [e37]
            exact ⟨rfl, N37⟩
        · obtain ⟨hx4a, hx4b⟩ := own_x p4
          obtain ⟨cap4, hcp4, hce4⟩ := own_cap (p4 &&& (127 : Int32)) (own_z (p3 &&& (127 : Int32)) (own_z (p2 &&& (127 : Int32)) (own_z (p1 &&& (127 : Int32)) (16 : Int32)))) I3.1 I3.2.1 hx4a hx4b
          have I4 := own_step I3 hx4a hx4b
          obtain ⟨cq38, kq38, q38a, q38b, q38c⟩ := isOf hZ e30 Ex2_v29
          obtain ⟨_, _, ⟨T38, L38, k38, n38⟩, -, X38, ⟨Lc38, hQ38, l38, y38, z38⟩, st38⟩ := X30.virtualBack hx (y := (⟨"nachbar/sim/Tally", "add", "(I)V"⟩ : MethodName)) (z := (⟨"nachbar/sim/Tally", "add", "(I)V"⟩ : MethodName)) hown (mvT hZ (hw _ (List.mem_of_getElem? (i := 69) rfl))) (mvT hZ (hw _ (List.mem_of_getElem? (i := 70) rfl))) (notFace_of_selects (args := #[]) (mvT hZ (hw _ (List.mem_of_getElem? (i := 72) rfl)))) (mvT hZ (hw _ (List.mem_of_getElem? (i := 72) rfl))) (mvT hZ (hw _ (List.mem_of_getElem? (i := 71) rfl))) (by decide) (backOf (W := 0) (rma l Z a0 hw [] b2 (p4 &&& (127 : Int32)) c29 (own_z (p3 &&& (127 : Int32)) (own_z (p2 &&& (127 : Int32)) (own_z (p1 &&& (127 : Int32)) (16 : Int32)))) (own_inc (own_inc (own_inc own_zero (p1 &&& (127 : Int32))) (p2 &&& (127 : Int32))) (p3 &&& (127 : Int32))) (3 : Int64) ((((0 : Int64) + ((p1 &&& (127 : Int32)).toInt64)) + ((p2 &&& (127 : Int32)).toInt64)) + ((p3 &&& (127 : Int32)).toInt64)) (own_max (own_max (own_max (0 : Int32) (p1 &&& (127 : Int32))) (p2 &&& (127 : Int32))) (p3 &&& (127 : Int32))) cap4 T29.heap n0 Z29 Ex2_v29 nf29_0_v29 nf29_1_v29 nf29_2_v29 nf29_3_v29 nf29_4_v29 g_b2 g_c29 ne_b2_c29 I3.2.2.1 I3.1 I3.2.1 hx4a hx4b I3.2.2.2.1 hcp4 (by omega)) hZ (hw _ (List.mem_of_getElem? (i := 73) rfl)) (hw _ (List.mem_of_getElem? (i := 3) rfl)) (Nat.le_of_ble_eq_true rfl) (Nat.le_of_ble_eq_true rfl)) q38a q38c (g := (mkF m 148 #[.val (.int p1), .val (.int p2), .val (.int p3), .val (.int p4), .val (.int p5), .val (.int y1), .val (.int (p1 &&& (127 : Int32))), .val (.int (p2 &&& (127 : Int32))), .val (.int (p3 &&& (127 : Int32))), .val (.int (p4 &&& (127 : Int32))), .val (.ref b2), .val (.long ((((0 : Int64) + ((p1 &&& (127 : Int32)).toInt64)) + ((p2 &&& (127 : Int32)).toInt64)) + ((p3 &&& (127 : Int32)).toInt64))), .second, .val (.int (own_max (own_max (own_max (0 : Int32) (p1 &&& (127 : Int32))) (p2 &&& (127 : Int32))) (p3 &&& (127 : Int32)))), .unset] [(.int (p4 &&& (127 : Int32))), (.ref b2)])) rfl (by rw [hml]; rfl) (Steps.refl _) (argsL := [(.int (p4 &&& (127 : Int32)))]) (rest := []) (lenOf pd_7 rfl) rfl (by show 2 * 0 + _ ≤ _; exact Nat.le_of_eq rfl) (hb hby at_148) (fun _ _ => ⟨rfl, e30, (Nat.le_of_ble_eq_true rfl), (show 20 + cap1 + cap2 + cap3 + cap4 ≤ 896 from by omega)⟩)
          dsimp only [Pt.U, Pt.locs, Pt.cells, Pt.slots] at X38 l38 y38 z38 st38 hQ38
          subst l38 y38 z38
          obtain ⟨c38, rfl, N38q, Kc38, g_c38, ne_b2_c38, nf38_0_v38, nf38_1_v38, nf38_2_v38, nf38_3_v38, nf38_4_v38⟩ := hQ38
          have N38 := Fr.app N30 N38q
          have Ex2_v38 := Ex2_v29.keep Kc38
          have Z38 : n0 ≤ T38.heap.size := Nat.le_trans Z29 Kc38.1
          obtain ⟨_, _, ⟨T39, L39, k39, n39⟩, -, X39, ⟨Lc39, hQ39, l39, y39, z39⟩, st39⟩ := Jvm.LawKit.callS X38 hx (y := (⟨"java/lang/Math", "max", "(II)I"⟩ : MethodName)) hown (mvT hZ (hw _ (List.mem_of_getElem? (i := 78) rfl))) (mvT hZ (hw _ (List.mem_of_getElem? (i := 75) rfl))) (mvT hZ (hw _ (List.mem_of_getElem? (i := 76) rfl))) (mvT hZ (hw _ (List.mem_of_getElem? (i := 77) rfl))) (by decide) (backOf (W := 0) (rmx l Z a0 hw [] (own_max (own_max (own_max (0 : Int32) (p1 &&& (127 : Int32))) (p2 &&& (127 : Int32))) (p3 &&& (127 : Int32))) (p4 &&& (127 : Int32)) T38.heap n0 Z38) hZ (hw _ (List.mem_of_getElem? (i := 77) rfl)) (hw _ (List.mem_of_getElem? (i := 76) rfl)) (Nat.le_of_ble_eq_true rfl) (Nat.le_of_ble_eq_true rfl)) (g := (mkF m 163 #[.val (.int p1), .val (.int p2), .val (.int p3), .val (.int p4), .val (.int p5), .val (.int y1), .val (.int (p1 &&& (127 : Int32))), .val (.int (p2 &&& (127 : Int32))), .val (.int (p3 &&& (127 : Int32))), .val (.int (p4 &&& (127 : Int32))), .val (.ref b2), .val (.long (((((0 : Int64) + ((p1 &&& (127 : Int32)).toInt64)) + ((p2 &&& (127 : Int32)).toInt64)) + ((p3 &&& (127 : Int32)).toInt64)) + ((p4 &&& (127 : Int32)).toInt64))), .second, .val (.int (own_max (own_max (own_max (0 : Int32) (p1 &&& (127 : Int32))) (p2 &&& (127 : Int32))) (p3 &&& (127 : Int32)))), .unset] [(.int (p4 &&& (127 : Int32))), (.int (own_max (own_max (own_max (0 : Int32) (p1 &&& (127 : Int32))) (p2 &&& (127 : Int32))) (p3 &&& (127 : Int32))))])) rfl (by rw [hml]; rfl) (argsL := [(.int (own_max (own_max (own_max (0 : Int32) (p1 &&& (127 : Int32))) (p2 &&& (127 : Int32))) (p3 &&& (127 : Int32)))), (.int (p4 &&& (127 : Int32)))]) (rest := []) (lenOf pd_0 rfl) rfl (by show 2 * 0 + _ ≤ _; exact Nat.le_of_eq rfl) (hb hby at_163) (fun _ _ => ⟨rfl, rfl, (Nat.le_of_ble_eq_true rfl), (show 20 + cap1 + cap2 + cap3 + cap4 + 0 ≤ 896 from by omega)⟩)
          dsimp only [Pt.U, Pt.locs, Pt.cells, Pt.slots] at X39 l39 y39 z39 st39 hQ39
          subst l39 y39 z39
          obtain ⟨rfl, N39q, e39⟩ := hQ39
          have N39 := Fr.app N38 N39q
          obtain ⟨hr1, hr2, hr3⟩ := own_top4 hx1a hx1b hx2a hx2b hx3a hx3b hx4a hx4b
          obtain ⟨cq40, kq40, q40a, q40b, q40c⟩ := isOf hZ e39 Ex2_v38
          obtain ⟨_, _, ⟨T40, L40, k40, n40⟩, -, X40, ⟨Lc40, hQ40, l40, y40, z40⟩, st40⟩ := X39.virtualBack hx (y := (⟨"nachbar/sim/Tally", "summary", "()Lnachbar/sim/Summary;"⟩ : MethodName)) (z := (⟨"nachbar/sim/Tally", "summary", "()Lnachbar/sim/Summary;"⟩ : MethodName)) hown (mvT hZ (hw _ (List.mem_of_getElem? (i := 13) rfl))) (mvT hZ (hw _ (List.mem_of_getElem? (i := 14) rfl))) (notFace_of_selects (args := #[]) (mvT hZ (hw _ (List.mem_of_getElem? (i := 16) rfl)))) (mvT hZ (hw _ (List.mem_of_getElem? (i := 16) rfl))) (mvT hZ (hw _ (List.mem_of_getElem? (i := 15) rfl))) (by decide) (backOf (W := 0) (rmu l Z a0 hw [] b2 c38 (own_z (p4 &&& (127 : Int32)) (own_z (p3 &&& (127 : Int32)) (own_z (p2 &&& (127 : Int32)) (own_z (p1 &&& (127 : Int32)) (16 : Int32))))) (own_inc (own_inc (own_inc (own_inc own_zero (p1 &&& (127 : Int32))) (p2 &&& (127 : Int32))) (p3 &&& (127 : Int32))) (p4 &&& (127 : Int32))) (4 : Int64) (((((0 : Int64) + ((p1 &&& (127 : Int32)).toInt64)) + ((p2 &&& (127 : Int32)).toInt64)) + ((p3 &&& (127 : Int32)).toInt64)) + ((p4 &&& (127 : Int32)).toInt64)) (own_max (own_max (own_max (own_max (0 : Int32) (p1 &&& (127 : Int32))) (p2 &&& (127 : Int32))) (p3 &&& (127 : Int32))) (p4 &&& (127 : Int32))) ((own_max (own_max (own_max (own_max (0 : Int32) (p1 &&& (127 : Int32))) (p2 &&& (127 : Int32))) (p3 &&& (127 : Int32))) (p4 &&& (127 : Int32)))).toNatClampNeg T38.heap n0 Z38 Ex2_v38 nf38_0_v38 nf38_1_v38 nf38_2_v38 nf38_3_v38 nf38_4_v38 I4.2.2.1 hr1 hr2 (Nat.lt_of_lt_of_le hr3 I4.2.2.2.2)) hZ (hw _ (List.mem_of_getElem? (i := 17) rfl)) (hw _ (List.mem_of_getElem? (i := 3) rfl)) (Nat.le_of_ble_eq_true rfl) (Nat.le_of_ble_eq_true rfl)) q40a q40c (g := (mkF m 170 #[.val (.int p1), .val (.int p2), .val (.int p3), .val (.int p4), .val (.int p5), .val (.int y1), .val (.int (p1 &&& (127 : Int32))), .val (.int (p2 &&& (127 : Int32))), .val (.int (p3 &&& (127 : Int32))), .val (.int (p4 &&& (127 : Int32))), .val (.ref b2), .val (.long (((((0 : Int64) + ((p1 &&& (127 : Int32)).toInt64)) + ((p2 &&& (127 : Int32)).toInt64)) + ((p3 &&& (127 : Int32)).toInt64)) + ((p4 &&& (127 : Int32)).toInt64))), .second, .val (.int (own_max (own_max (own_max (own_max (0 : Int32) (p1 &&& (127 : Int32))) (p2 &&& (127 : Int32))) (p3 &&& (127 : Int32))) (p4 &&& (127 : Int32)))), .unset] [(.ref b2)])) rfl (by rw [hml]; rfl) (Steps.refl _) (argsL := []) (rest := []) (lenOf pd_5 rfl) rfl (by show 2 * 0 + _ ≤ _; exact Nat.le_of_eq rfl) (hb hby at_170) (fun _ _ => ⟨rfl, e39, (Nat.le_of_ble_eq_true rfl), (show 20 + cap1 + cap2 + cap3 + cap4 + 4 ≤ 896 from by omega)⟩)
          dsimp only [Pt.U, Pt.locs, Pt.cells, Pt.slots] at X40 l40 y40 z40 st40 hQ40
          subst l40 y40 z40
          obtain ⟨b40, rfl, N40q, Kc40, sb40, nfE40_v40, nf40_0_v40, nf40_1_v40, nf40_2_v40, nf40_3_v40⟩ := hQ40
          have N40 := Fr.app N39 N40q
          have Ex2_v40 := Ex2_v38.keep Kc40
          have nf38_0_v40 := nf38_0_v38.keep Kc40 nin0
          have nf38_1_v40 := nf38_1_v38.keep Kc40 nin0
          have nf38_2_v40 := nf38_2_v38.keep Kc40 nin0
          have nf38_3_v40 := nf38_3_v38.keep Kc40 nin0
          have nf38_4_v40 := nf38_4_v38.keep Kc40 nin0
          have Z40 : n0 ≤ T40.heap.size := Nat.le_trans Z38 Kc40.1
          obtain ⟨cq41, kq41, q41a, q41b, q41c⟩ := isOf hZ rfl nfE40_v40
          obtain ⟨_, _, ⟨T41, L41, k41, n41⟩, -, X41, ⟨Lc41, hQ41, l41, y41, z41⟩, st41⟩ := X40.virtualBack hx (y := (⟨"nachbar/sim/Summary", "count", "()J"⟩ : MethodName)) (z := (⟨"nachbar/sim/Summary", "count", "()J"⟩ : MethodName)) hown (mvT hZ (hw _ (List.mem_of_getElem? (i := 49) rfl))) (mvT hZ (hw _ (List.mem_of_getElem? (i := 50) rfl))) (notFace_of_selects (args := #[]) (mvT hZ (hw _ (List.mem_of_getElem? (i := 52) rfl)))) (mvT hZ (hw _ (List.mem_of_getElem? (i := 52) rfl))) (mvT hZ (hw _ (List.mem_of_getElem? (i := 51) rfl))) (by decide) (backOf (W := 0) (rg_count l Z a0 hw [] b40 (4 : Int64) T40.heap n0 Z40 nf40_0_v40) hZ (hw _ (List.mem_of_getElem? (i := 53) rfl)) (hw _ (List.mem_of_getElem? (i := 22) rfl)) (Nat.le_of_ble_eq_true rfl) (Nat.le_of_ble_eq_true rfl)) q41a q41c (g := (mkF m 177 #[.val (.int p1), .val (.int p2), .val (.int p3), .val (.int p4), .val (.int p5), .val (.int y1), .val (.int (p1 &&& (127 : Int32))), .val (.int (p2 &&& (127 : Int32))), .val (.int (p3 &&& (127 : Int32))), .val (.int (p4 &&& (127 : Int32))), .val (.ref b2), .val (.long (((((0 : Int64) + ((p1 &&& (127 : Int32)).toInt64)) + ((p2 &&& (127 : Int32)).toInt64)) + ((p3 &&& (127 : Int32)).toInt64)) + ((p4 &&& (127 : Int32)).toInt64))), .second, .val (.int (own_max (own_max (own_max (own_max (0 : Int32) (p1 &&& (127 : Int32))) (p2 &&& (127 : Int32))) (p3 &&& (127 : Int32))) (p4 &&& (127 : Int32)))), .val (.ref b40)] [(.ref b40)])) rfl (by rw [hml]; rfl) (Steps.refl _) (argsL := []) (rest := []) (lenOf pd_6 rfl) rfl (by show 2 * 0 + _ ≤ _; exact Nat.le_of_eq rfl) (hb hby at_177) (fun _ _ => ⟨rfl, rfl, (Nat.le_of_ble_eq_true rfl), (show 20 + cap1 + cap2 + cap3 + cap4 + 4 + 0 ≤ 896 from by omega)⟩)
          dsimp only [Pt.U, Pt.locs, Pt.cells, Pt.slots] at X41 l41 y41 z41 st41 hQ41
          subst l41 y41 z41
          obtain ⟨rfl, N41q, e41⟩ := hQ41
          have N41 := Fr.app N40 N41q
          obtain ⟨cq42, kq42, q42a, q42b, q42c⟩ := isOf hZ e41 nfE40_v40
          obtain ⟨_, _, ⟨T42, L42, k42, n42⟩, -, X42, ⟨Lc42, hQ42, l42, y42, z42⟩, st42⟩ := X41.virtualBack hx (y := (⟨"nachbar/sim/Summary", "sum", "()J"⟩ : MethodName)) (z := (⟨"nachbar/sim/Summary", "sum", "()J"⟩ : MethodName)) hown (mvT hZ (hw _ (List.mem_of_getElem? (i := 54) rfl))) (mvT hZ (hw _ (List.mem_of_getElem? (i := 55) rfl))) (notFace_of_selects (args := #[]) (mvT hZ (hw _ (List.mem_of_getElem? (i := 57) rfl)))) (mvT hZ (hw _ (List.mem_of_getElem? (i := 57) rfl))) (mvT hZ (hw _ (List.mem_of_getElem? (i := 56) rfl))) (by decide) (backOf (W := 0) (rg_sum l Z a0 hw [] b40 (((((0 : Int64) + ((p1 &&& (127 : Int32)).toInt64)) + ((p2 &&& (127 : Int32)).toInt64)) + ((p3 &&& (127 : Int32)).toInt64)) + ((p4 &&& (127 : Int32)).toInt64)) T40.heap n0 Z40 nf40_1_v40) hZ (hw _ (List.mem_of_getElem? (i := 58) rfl)) (hw _ (List.mem_of_getElem? (i := 22) rfl)) (Nat.le_of_ble_eq_true rfl) (Nat.le_of_ble_eq_true rfl)) q42a q42c (g := (mkF m 189 #[.val (.int p1), .val (.int p2), .val (.int p3), .val (.int p4), .val (.int p5), .val (.int y1), .val (.int (p1 &&& (127 : Int32))), .val (.int (p2 &&& (127 : Int32))), .val (.int (p3 &&& (127 : Int32))), .val (.int (p4 &&& (127 : Int32))), .val (.ref b2), .val (.long (((((0 : Int64) + ((p1 &&& (127 : Int32)).toInt64)) + ((p2 &&& (127 : Int32)).toInt64)) + ((p3 &&& (127 : Int32)).toInt64)) + ((p4 &&& (127 : Int32)).toInt64))), .second, .val (.int (own_max (own_max (own_max (own_max (0 : Int32) (p1 &&& (127 : Int32))) (p2 &&& (127 : Int32))) (p3 &&& (127 : Int32))) (p4 &&& (127 : Int32)))), .val (.ref b40)] [(.ref b40)])) rfl (by rw [hml]; rfl) (Steps.refl _) (argsL := []) (rest := []) (lenOf pd_6 rfl) rfl (by show 2 * 0 + _ ≤ _; exact Nat.le_of_eq rfl) (hb hby at_189) (fun _ _ => ⟨rfl, e41, (Nat.le_of_ble_eq_true rfl), (show 20 + cap1 + cap2 + cap3 + cap4 + 4 + 0 ≤ 896 from by omega)⟩)
          dsimp only [Pt.U, Pt.locs, Pt.cells, Pt.slots] at X42 l42 y42 z42 st42 hQ42
          subst l42 y42 z42
          obtain ⟨rfl, N42q, e42⟩ := hQ42
          have N42 := Fr.app N41 N42q
          obtain ⟨cq43, kq43, q43a, q43b, q43c⟩ := isOf hZ e42 nfE40_v40
          obtain ⟨_, _, ⟨T43, L43, k43, n43⟩, -, X43, ⟨Lc43, hQ43, l43, y43, z43⟩, st43⟩ := X42.virtualBack hx (y := (⟨"nachbar/sim/Summary", "max", "()J"⟩ : MethodName)) (z := (⟨"nachbar/sim/Summary", "max", "()J"⟩ : MethodName)) hown (mvT hZ (hw _ (List.mem_of_getElem? (i := 59) rfl))) (mvT hZ (hw _ (List.mem_of_getElem? (i := 60) rfl))) (notFace_of_selects (args := #[]) (mvT hZ (hw _ (List.mem_of_getElem? (i := 62) rfl)))) (mvT hZ (hw _ (List.mem_of_getElem? (i := 62) rfl))) (mvT hZ (hw _ (List.mem_of_getElem? (i := 61) rfl))) (by decide) (backOf (W := 0) (rg_max l Z a0 hw [] b40 ((own_max (own_max (own_max (own_max (0 : Int32) (p1 &&& (127 : Int32))) (p2 &&& (127 : Int32))) (p3 &&& (127 : Int32))) (p4 &&& (127 : Int32))).toInt64) T40.heap n0 Z40 nf40_3_v40) hZ (hw _ (List.mem_of_getElem? (i := 63) rfl)) (hw _ (List.mem_of_getElem? (i := 22) rfl)) (Nat.le_of_ble_eq_true rfl) (Nat.le_of_ble_eq_true rfl)) q43a q43c (g := (mkF m 200 #[.val (.int p1), .val (.int p2), .val (.int p3), .val (.int p4), .val (.int p5), .val (.int y1), .val (.int (p1 &&& (127 : Int32))), .val (.int (p2 &&& (127 : Int32))), .val (.int (p3 &&& (127 : Int32))), .val (.int (p4 &&& (127 : Int32))), .val (.ref b2), .val (.long (((((0 : Int64) + ((p1 &&& (127 : Int32)).toInt64)) + ((p2 &&& (127 : Int32)).toInt64)) + ((p3 &&& (127 : Int32)).toInt64)) + ((p4 &&& (127 : Int32)).toInt64))), .second, .val (.int (own_max (own_max (own_max (own_max (0 : Int32) (p1 &&& (127 : Int32))) (p2 &&& (127 : Int32))) (p3 &&& (127 : Int32))) (p4 &&& (127 : Int32)))), .val (.ref b40)] [(.ref b40)])) rfl (by rw [hml]; rfl) (Steps.refl _) (argsL := []) (rest := []) (lenOf pd_6 rfl) rfl (by show 2 * 0 + _ ≤ _; exact Nat.le_of_eq rfl) (hb hby at_200) (fun _ _ => ⟨rfl, e42, (Nat.le_of_ble_eq_true rfl), (show 20 + cap1 + cap2 + cap3 + cap4 + 4 + 0 ≤ 896 from by omega)⟩)
          dsimp only [Pt.U, Pt.locs, Pt.cells, Pt.slots] at X43 l43 y43 z43 st43 hQ43
          subst l43 y43 z43
          obtain ⟨rfl, N43q, e43⟩ := hQ43
          have N43 := Fr.app N42 N43q
          obtain ⟨cq44, kq44, q44a, q44b, q44c⟩ := isOf hZ e43 nfE40_v40
          obtain ⟨_, _, ⟨T44, L44, k44, n44⟩, -, X44, ⟨Lc44, hQ44, l44, y44, z44⟩, st44⟩ := X43.virtualBack hx (y := (⟨"nachbar/sim/Summary", "p99", "()J"⟩ : MethodName)) (z := (⟨"nachbar/sim/Summary", "p99", "()J"⟩ : MethodName)) hown (mvT hZ (hw _ (List.mem_of_getElem? (i := 64) rfl))) (mvT hZ (hw _ (List.mem_of_getElem? (i := 65) rfl))) (notFace_of_selects (args := #[]) (mvT hZ (hw _ (List.mem_of_getElem? (i := 67) rfl)))) (mvT hZ (hw _ (List.mem_of_getElem? (i := 67) rfl))) (mvT hZ (hw _ (List.mem_of_getElem? (i := 66) rfl))) (by decide) (backOf (W := 0) (rg_p99 l Z a0 hw [] b40 ((Int32.ofNat ((own_max (own_max (own_max (own_max (0 : Int32) (p1 &&& (127 : Int32))) (p2 &&& (127 : Int32))) (p3 &&& (127 : Int32))) (p4 &&& (127 : Int32)))).toNatClampNeg).toInt64) T40.heap n0 Z40 nf40_2_v40) hZ (hw _ (List.mem_of_getElem? (i := 68) rfl)) (hw _ (List.mem_of_getElem? (i := 22) rfl)) (Nat.le_of_ble_eq_true rfl) (Nat.le_of_ble_eq_true rfl)) q44a q44c (g := (mkF m 212 #[.val (.int p1), .val (.int p2), .val (.int p3), .val (.int p4), .val (.int p5), .val (.int y1), .val (.int (p1 &&& (127 : Int32))), .val (.int (p2 &&& (127 : Int32))), .val (.int (p3 &&& (127 : Int32))), .val (.int (p4 &&& (127 : Int32))), .val (.ref b2), .val (.long (((((0 : Int64) + ((p1 &&& (127 : Int32)).toInt64)) + ((p2 &&& (127 : Int32)).toInt64)) + ((p3 &&& (127 : Int32)).toInt64)) + ((p4 &&& (127 : Int32)).toInt64))), .second, .val (.int (own_max (own_max (own_max (own_max (0 : Int32) (p1 &&& (127 : Int32))) (p2 &&& (127 : Int32))) (p3 &&& (127 : Int32))) (p4 &&& (127 : Int32)))), .val (.ref b40)] [(.ref b40)])) rfl (by rw [hml]; rfl) (Steps.refl _) (argsL := []) (rest := []) (lenOf pd_6 rfl) rfl (by show 2 * 0 + _ ≤ _; exact Nat.le_of_eq rfl) (hb hby at_212) (fun _ _ => ⟨rfl, e43, (Nat.le_of_ble_eq_true rfl), (show 20 + cap1 + cap2 + cap3 + cap4 + 4 + 0 ≤ 896 from by omega)⟩)
          dsimp only [Pt.U, Pt.locs, Pt.cells, Pt.slots] at X44 l44 y44 z44 st44 hQ44
          subst l44 y44 z44
          obtain ⟨rfl, N44q, e44⟩ := hQ44
          have N44 := Fr.app N43 N44q
          obtain ⟨fs, hr, hrun, hended, hW, hsame⟩ := X44.leave (v := some (.int (1 : Int32))) (fun h => by rw [Bd.returns] at h; cases h)
          refine ⟨_, _, pre31 _ ?_, hrun, hended, _, _, rfl, ?_, ⟨_, rfl⟩, hW, hsame.mono (Nat.le_of_ble_eq_true rfl) (show 20 + cap1 + cap2 + cap3 + cap4 + 4 ≤ 896 from by omega)⟩
          · show Steps p.tables e below (T30.setTop (mkF m 141 #[.val (.int p1), .val (.int p2), .val (.int p3), .val (.int p4), .val (.int p5), .val (.int y1), .val (.int (p1 &&& (127 : Int32))), .val (.int (p2 &&& (127 : Int32))), .val (.int (p3 &&& (127 : Int32))), .val (.int (p4 &&& (127 : Int32))), .val (.ref b2), .val (.long ((((0 : Int64) + ((p1 &&& (127 : Int32)).toInt64)) + ((p2 &&& (127 : Int32)).toInt64)) + ((p3 &&& (127 : Int32)).toInt64))), .second, .val (.int (own_max (own_max (own_max (0 : Int32) (p1 &&& (127 : Int32))) (p2 &&& (127 : Int32))) (p3 &&& (127 : Int32)))), .unset] [(.int (4 : Int32)), (.int y1)])) _
            refine XS.icmpNo X30.here hx rfl (hb hby at_141) rfl (flt hc141_32).1 ?_
            show Steps p.tables e below (T30.setTop (mkF m 144 #[.val (.int p1), .val (.int p2), .val (.int p3), .val (.int p4), .val (.int p5), .val (.int y1), .val (.int (p1 &&& (127 : Int32))), .val (.int (p2 &&& (127 : Int32))), .val (.int (p3 &&& (127 : Int32))), .val (.int (p4 &&& (127 : Int32))), .val (.ref b2), .val (.long ((((0 : Int64) + ((p1 &&& (127 : Int32)).toInt64)) + ((p2 &&& (127 : Int32)).toInt64)) + ((p3 &&& (127 : Int32)).toInt64))), .second, .val (.int (own_max (own_max (own_max (0 : Int32) (p1 &&& (127 : Int32))) (p2 &&& (127 : Int32))) (p3 &&& (127 : Int32)))), .unset] [])) _
            refine XS.aload X30.here hx rfl (hb hby at_144) rfl rfl ?_
            show Steps p.tables e below (T30.setTop (mkF m 146 #[.val (.int p1), .val (.int p2), .val (.int p3), .val (.int p4), .val (.int p5), .val (.int y1), .val (.int (p1 &&& (127 : Int32))), .val (.int (p2 &&& (127 : Int32))), .val (.int (p3 &&& (127 : Int32))), .val (.int (p4 &&& (127 : Int32))), .val (.ref b2), .val (.long ((((0 : Int64) + ((p1 &&& (127 : Int32)).toInt64)) + ((p2 &&& (127 : Int32)).toInt64)) + ((p3 &&& (127 : Int32)).toInt64))), .second, .val (.int (own_max (own_max (own_max (0 : Int32) (p1 &&& (127 : Int32))) (p2 &&& (127 : Int32))) (p3 &&& (127 : Int32)))), .unset] [(.ref b2)])) _
            refine XS.iload X30.here hx rfl (hb hby at_146) rfl ?_
            show Steps p.tables e below (T30.setTop (mkF m 148 #[.val (.int p1), .val (.int p2), .val (.int p3), .val (.int p4), .val (.int p5), .val (.int y1), .val (.int (p1 &&& (127 : Int32))), .val (.int (p2 &&& (127 : Int32))), .val (.int (p3 &&& (127 : Int32))), .val (.int (p4 &&& (127 : Int32))), .val (.ref b2), .val (.long ((((0 : Int64) + ((p1 &&& (127 : Int32)).toInt64)) + ((p2 &&& (127 : Int32)).toInt64)) + ((p3 &&& (127 : Int32)).toInt64))), .second, .val (.int (own_max (own_max (own_max (0 : Int32) (p1 &&& (127 : Int32))) (p2 &&& (127 : Int32))) (p3 &&& (127 : Int32)))), .unset] [(.int (p4 &&& (127 : Int32))), (.ref b2)])) _
            refine st38.trans ?_
            show Steps p.tables e below (T38.setTop (mkF m 151 #[.val (.int p1), .val (.int p2), .val (.int p3), .val (.int p4), .val (.int p5), .val (.int y1), .val (.int (p1 &&& (127 : Int32))), .val (.int (p2 &&& (127 : Int32))), .val (.int (p3 &&& (127 : Int32))), .val (.int (p4 &&& (127 : Int32))), .val (.ref b2), .val (.long ((((0 : Int64) + ((p1 &&& (127 : Int32)).toInt64)) + ((p2 &&& (127 : Int32)).toInt64)) + ((p3 &&& (127 : Int32)).toInt64))), .second, .val (.int (own_max (own_max (own_max (0 : Int32) (p1 &&& (127 : Int32))) (p2 &&& (127 : Int32))) (p3 &&& (127 : Int32)))), .unset] [])) _
            refine XS.lload X38.here hx rfl (hb hby at_151) rfl ?_
            show Steps p.tables e below (T38.setTop (mkF m 153 #[.val (.int p1), .val (.int p2), .val (.int p3), .val (.int p4), .val (.int p5), .val (.int y1), .val (.int (p1 &&& (127 : Int32))), .val (.int (p2 &&& (127 : Int32))), .val (.int (p3 &&& (127 : Int32))), .val (.int (p4 &&& (127 : Int32))), .val (.ref b2), .val (.long ((((0 : Int64) + ((p1 &&& (127 : Int32)).toInt64)) + ((p2 &&& (127 : Int32)).toInt64)) + ((p3 &&& (127 : Int32)).toInt64))), .second, .val (.int (own_max (own_max (own_max (0 : Int32) (p1 &&& (127 : Int32))) (p2 &&& (127 : Int32))) (p3 &&& (127 : Int32)))), .unset] [(.long ((((0 : Int64) + ((p1 &&& (127 : Int32)).toInt64)) + ((p2 &&& (127 : Int32)).toInt64)) + ((p3 &&& (127 : Int32)).toInt64)))])) _
            refine XS.iload X38.here hx rfl (hb hby at_153) rfl ?_
            show Steps p.tables e below (T38.setTop (mkF m 155 #[.val (.int p1), .val (.int p2), .val (.int p3), .val (.int p4), .val (.int p5), .val (.int y1), .val (.int (p1 &&& (127 : Int32))), .val (.int (p2 &&& (127 : Int32))), .val (.int (p3 &&& (127 : Int32))), .val (.int (p4 &&& (127 : Int32))), .val (.ref b2), .val (.long ((((0 : Int64) + ((p1 &&& (127 : Int32)).toInt64)) + ((p2 &&& (127 : Int32)).toInt64)) + ((p3 &&& (127 : Int32)).toInt64))), .second, .val (.int (own_max (own_max (own_max (0 : Int32) (p1 &&& (127 : Int32))) (p2 &&& (127 : Int32))) (p3 &&& (127 : Int32)))), .unset] [(.int (p4 &&& (127 : Int32))), (.long ((((0 : Int64) + ((p1 &&& (127 : Int32)).toInt64)) + ((p2 &&& (127 : Int32)).toInt64)) + ((p3 &&& (127 : Int32)).toInt64)))])) _
            refine XS.i2l X38.here hx rfl (hb hby at_155) rfl ?_
            show Steps p.tables e below (T38.setTop (mkF m 156 #[.val (.int p1), .val (.int p2), .val (.int p3), .val (.int p4), .val (.int p5), .val (.int y1), .val (.int (p1 &&& (127 : Int32))), .val (.int (p2 &&& (127 : Int32))), .val (.int (p3 &&& (127 : Int32))), .val (.int (p4 &&& (127 : Int32))), .val (.ref b2), .val (.long ((((0 : Int64) + ((p1 &&& (127 : Int32)).toInt64)) + ((p2 &&& (127 : Int32)).toInt64)) + ((p3 &&& (127 : Int32)).toInt64))), .second, .val (.int (own_max (own_max (own_max (0 : Int32) (p1 &&& (127 : Int32))) (p2 &&& (127 : Int32))) (p3 &&& (127 : Int32)))), .unset] [(.long ((p4 &&& (127 : Int32)).toInt64)), (.long ((((0 : Int64) + ((p1 &&& (127 : Int32)).toInt64)) + ((p2 &&& (127 : Int32)).toInt64)) + ((p3 &&& (127 : Int32)).toInt64)))])) _
            refine XS.ladd X38.here hx rfl (hb hby at_156) rfl ?_
            show Steps p.tables e below (T38.setTop (mkF m 157 #[.val (.int p1), .val (.int p2), .val (.int p3), .val (.int p4), .val (.int p5), .val (.int y1), .val (.int (p1 &&& (127 : Int32))), .val (.int (p2 &&& (127 : Int32))), .val (.int (p3 &&& (127 : Int32))), .val (.int (p4 &&& (127 : Int32))), .val (.ref b2), .val (.long ((((0 : Int64) + ((p1 &&& (127 : Int32)).toInt64)) + ((p2 &&& (127 : Int32)).toInt64)) + ((p3 &&& (127 : Int32)).toInt64))), .second, .val (.int (own_max (own_max (own_max (0 : Int32) (p1 &&& (127 : Int32))) (p2 &&& (127 : Int32))) (p3 &&& (127 : Int32)))), .unset] [(.long (((((0 : Int64) + ((p1 &&& (127 : Int32)).toInt64)) + ((p2 &&& (127 : Int32)).toInt64)) + ((p3 &&& (127 : Int32)).toInt64)) + ((p4 &&& (127 : Int32)).toInt64)))])) _
            refine XS.lstore X38.here hx rfl (hb hby at_157) rfl (l' := #[.val (.int p1), .val (.int p2), .val (.int p3), .val (.int p4), .val (.int p5), .val (.int y1), .val (.int (p1 &&& (127 : Int32))), .val (.int (p2 &&& (127 : Int32))), .val (.int (p3 &&& (127 : Int32))), .val (.int (p4 &&& (127 : Int32))), .val (.ref b2), .val (.long (((((0 : Int64) + ((p1 &&& (127 : Int32)).toInt64)) + ((p2 &&& (127 : Int32)).toInt64)) + ((p3 &&& (127 : Int32)).toInt64)) + ((p4 &&& (127 : Int32)).toInt64))), .second, .val (.int (own_max (own_max (own_max (0 : Int32) (p1 &&& (127 : Int32))) (p2 &&& (127 : Int32))) (p3 &&& (127 : Int32)))), .unset]) rfl ?_
            show Steps p.tables e below (T38.setTop (mkF m 159 #[.val (.int p1), .val (.int p2), .val (.int p3), .val (.int p4), .val (.int p5), .val (.int y1), .val (.int (p1 &&& (127 : Int32))), .val (.int (p2 &&& (127 : Int32))), .val (.int (p3 &&& (127 : Int32))), .val (.int (p4 &&& (127 : Int32))), .val (.ref b2), .val (.long (((((0 : Int64) + ((p1 &&& (127 : Int32)).toInt64)) + ((p2 &&& (127 : Int32)).toInt64)) + ((p3 &&& (127 : Int32)).toInt64)) + ((p4 &&& (127 : Int32)).toInt64))), .second, .val (.int (own_max (own_max (own_max (0 : Int32) (p1 &&& (127 : Int32))) (p2 &&& (127 : Int32))) (p3 &&& (127 : Int32)))), .unset] [])) _
            refine XS.iload X38.here hx rfl (hb hby at_159) rfl ?_
            show Steps p.tables e below (T38.setTop (mkF m 161 #[.val (.int p1), .val (.int p2), .val (.int p3), .val (.int p4), .val (.int p5), .val (.int y1), .val (.int (p1 &&& (127 : Int32))), .val (.int (p2 &&& (127 : Int32))), .val (.int (p3 &&& (127 : Int32))), .val (.int (p4 &&& (127 : Int32))), .val (.ref b2), .val (.long (((((0 : Int64) + ((p1 &&& (127 : Int32)).toInt64)) + ((p2 &&& (127 : Int32)).toInt64)) + ((p3 &&& (127 : Int32)).toInt64)) + ((p4 &&& (127 : Int32)).toInt64))), .second, .val (.int (own_max (own_max (own_max (0 : Int32) (p1 &&& (127 : Int32))) (p2 &&& (127 : Int32))) (p3 &&& (127 : Int32)))), .unset] [(.int (own_max (own_max (own_max (0 : Int32) (p1 &&& (127 : Int32))) (p2 &&& (127 : Int32))) (p3 &&& (127 : Int32))))])) _
            refine XS.iload X38.here hx rfl (hb hby at_161) rfl ?_
            show Steps p.tables e below (T38.setTop (mkF m 163 #[.val (.int p1), .val (.int p2), .val (.int p3), .val (.int p4), .val (.int p5), .val (.int y1), .val (.int (p1 &&& (127 : Int32))), .val (.int (p2 &&& (127 : Int32))), .val (.int (p3 &&& (127 : Int32))), .val (.int (p4 &&& (127 : Int32))), .val (.ref b2), .val (.long (((((0 : Int64) + ((p1 &&& (127 : Int32)).toInt64)) + ((p2 &&& (127 : Int32)).toInt64)) + ((p3 &&& (127 : Int32)).toInt64)) + ((p4 &&& (127 : Int32)).toInt64))), .second, .val (.int (own_max (own_max (own_max (0 : Int32) (p1 &&& (127 : Int32))) (p2 &&& (127 : Int32))) (p3 &&& (127 : Int32)))), .unset] [(.int (p4 &&& (127 : Int32))), (.int (own_max (own_max (own_max (0 : Int32) (p1 &&& (127 : Int32))) (p2 &&& (127 : Int32))) (p3 &&& (127 : Int32))))])) _
            refine st39 _ ?_
            show Steps p.tables e below (T39.setTop (mkF m 166 #[.val (.int p1), .val (.int p2), .val (.int p3), .val (.int p4), .val (.int p5), .val (.int y1), .val (.int (p1 &&& (127 : Int32))), .val (.int (p2 &&& (127 : Int32))), .val (.int (p3 &&& (127 : Int32))), .val (.int (p4 &&& (127 : Int32))), .val (.ref b2), .val (.long (((((0 : Int64) + ((p1 &&& (127 : Int32)).toInt64)) + ((p2 &&& (127 : Int32)).toInt64)) + ((p3 &&& (127 : Int32)).toInt64)) + ((p4 &&& (127 : Int32)).toInt64))), .second, .val (.int (own_max (own_max (own_max (0 : Int32) (p1 &&& (127 : Int32))) (p2 &&& (127 : Int32))) (p3 &&& (127 : Int32)))), .unset] [(.int (own_max (own_max (own_max (own_max (0 : Int32) (p1 &&& (127 : Int32))) (p2 &&& (127 : Int32))) (p3 &&& (127 : Int32))) (p4 &&& (127 : Int32))))])) _
            refine XS.istore X39.here hx rfl (hb hby at_166) rfl (l' := #[.val (.int p1), .val (.int p2), .val (.int p3), .val (.int p4), .val (.int p5), .val (.int y1), .val (.int (p1 &&& (127 : Int32))), .val (.int (p2 &&& (127 : Int32))), .val (.int (p3 &&& (127 : Int32))), .val (.int (p4 &&& (127 : Int32))), .val (.ref b2), .val (.long (((((0 : Int64) + ((p1 &&& (127 : Int32)).toInt64)) + ((p2 &&& (127 : Int32)).toInt64)) + ((p3 &&& (127 : Int32)).toInt64)) + ((p4 &&& (127 : Int32)).toInt64))), .second, .val (.int (own_max (own_max (own_max (own_max (0 : Int32) (p1 &&& (127 : Int32))) (p2 &&& (127 : Int32))) (p3 &&& (127 : Int32))) (p4 &&& (127 : Int32)))), .unset]) rfl ?_
            show Steps p.tables e below (T39.setTop (mkF m 168 #[.val (.int p1), .val (.int p2), .val (.int p3), .val (.int p4), .val (.int p5), .val (.int y1), .val (.int (p1 &&& (127 : Int32))), .val (.int (p2 &&& (127 : Int32))), .val (.int (p3 &&& (127 : Int32))), .val (.int (p4 &&& (127 : Int32))), .val (.ref b2), .val (.long (((((0 : Int64) + ((p1 &&& (127 : Int32)).toInt64)) + ((p2 &&& (127 : Int32)).toInt64)) + ((p3 &&& (127 : Int32)).toInt64)) + ((p4 &&& (127 : Int32)).toInt64))), .second, .val (.int (own_max (own_max (own_max (own_max (0 : Int32) (p1 &&& (127 : Int32))) (p2 &&& (127 : Int32))) (p3 &&& (127 : Int32))) (p4 &&& (127 : Int32)))), .unset] [])) _
            refine XS.aload X39.here hx rfl (hb hby at_168) rfl rfl ?_
            show Steps p.tables e below (T39.setTop (mkF m 170 #[.val (.int p1), .val (.int p2), .val (.int p3), .val (.int p4), .val (.int p5), .val (.int y1), .val (.int (p1 &&& (127 : Int32))), .val (.int (p2 &&& (127 : Int32))), .val (.int (p3 &&& (127 : Int32))), .val (.int (p4 &&& (127 : Int32))), .val (.ref b2), .val (.long (((((0 : Int64) + ((p1 &&& (127 : Int32)).toInt64)) + ((p2 &&& (127 : Int32)).toInt64)) + ((p3 &&& (127 : Int32)).toInt64)) + ((p4 &&& (127 : Int32)).toInt64))), .second, .val (.int (own_max (own_max (own_max (own_max (0 : Int32) (p1 &&& (127 : Int32))) (p2 &&& (127 : Int32))) (p3 &&& (127 : Int32))) (p4 &&& (127 : Int32)))), .unset] [(.ref b2)])) _
            refine st40.trans ?_
            show Steps p.tables e below (T40.setTop (mkF m 173 #[.val (.int p1), .val (.int p2), .val (.int p3), .val (.int p4), .val (.int p5), .val (.int y1), .val (.int (p1 &&& (127 : Int32))), .val (.int (p2 &&& (127 : Int32))), .val (.int (p3 &&& (127 : Int32))), .val (.int (p4 &&& (127 : Int32))), .val (.ref b2), .val (.long (((((0 : Int64) + ((p1 &&& (127 : Int32)).toInt64)) + ((p2 &&& (127 : Int32)).toInt64)) + ((p3 &&& (127 : Int32)).toInt64)) + ((p4 &&& (127 : Int32)).toInt64))), .second, .val (.int (own_max (own_max (own_max (own_max (0 : Int32) (p1 &&& (127 : Int32))) (p2 &&& (127 : Int32))) (p3 &&& (127 : Int32))) (p4 &&& (127 : Int32)))), .unset] [(.ref b40)])) _
            refine XS.astore X40.here hx rfl (hb hby at_173) rfl rfl (l' := #[.val (.int p1), .val (.int p2), .val (.int p3), .val (.int p4), .val (.int p5), .val (.int y1), .val (.int (p1 &&& (127 : Int32))), .val (.int (p2 &&& (127 : Int32))), .val (.int (p3 &&& (127 : Int32))), .val (.int (p4 &&& (127 : Int32))), .val (.ref b2), .val (.long (((((0 : Int64) + ((p1 &&& (127 : Int32)).toInt64)) + ((p2 &&& (127 : Int32)).toInt64)) + ((p3 &&& (127 : Int32)).toInt64)) + ((p4 &&& (127 : Int32)).toInt64))), .second, .val (.int (own_max (own_max (own_max (own_max (0 : Int32) (p1 &&& (127 : Int32))) (p2 &&& (127 : Int32))) (p3 &&& (127 : Int32))) (p4 &&& (127 : Int32)))), .val (.ref b40)]) rfl ?_
            show Steps p.tables e below (T40.setTop (mkF m 175 #[.val (.int p1), .val (.int p2), .val (.int p3), .val (.int p4), .val (.int p5), .val (.int y1), .val (.int (p1 &&& (127 : Int32))), .val (.int (p2 &&& (127 : Int32))), .val (.int (p3 &&& (127 : Int32))), .val (.int (p4 &&& (127 : Int32))), .val (.ref b2), .val (.long (((((0 : Int64) + ((p1 &&& (127 : Int32)).toInt64)) + ((p2 &&& (127 : Int32)).toInt64)) + ((p3 &&& (127 : Int32)).toInt64)) + ((p4 &&& (127 : Int32)).toInt64))), .second, .val (.int (own_max (own_max (own_max (own_max (0 : Int32) (p1 &&& (127 : Int32))) (p2 &&& (127 : Int32))) (p3 &&& (127 : Int32))) (p4 &&& (127 : Int32)))), .val (.ref b40)] [])) _
            refine XS.aload X40.here hx rfl (hb hby at_175) rfl rfl ?_
            show Steps p.tables e below (T40.setTop (mkF m 177 #[.val (.int p1), .val (.int p2), .val (.int p3), .val (.int p4), .val (.int p5), .val (.int y1), .val (.int (p1 &&& (127 : Int32))), .val (.int (p2 &&& (127 : Int32))), .val (.int (p3 &&& (127 : Int32))), .val (.int (p4 &&& (127 : Int32))), .val (.ref b2), .val (.long (((((0 : Int64) + ((p1 &&& (127 : Int32)).toInt64)) + ((p2 &&& (127 : Int32)).toInt64)) + ((p3 &&& (127 : Int32)).toInt64)) + ((p4 &&& (127 : Int32)).toInt64))), .second, .val (.int (own_max (own_max (own_max (own_max (0 : Int32) (p1 &&& (127 : Int32))) (p2 &&& (127 : Int32))) (p3 &&& (127 : Int32))) (p4 &&& (127 : Int32)))), .val (.ref b40)] [(.ref b40)])) _
            refine st41.trans ?_
            show Steps p.tables e below (T41.setTop (mkF m 180 #[.val (.int p1), .val (.int p2), .val (.int p3), .val (.int p4), .val (.int p5), .val (.int y1), .val (.int (p1 &&& (127 : Int32))), .val (.int (p2 &&& (127 : Int32))), .val (.int (p3 &&& (127 : Int32))), .val (.int (p4 &&& (127 : Int32))), .val (.ref b2), .val (.long (((((0 : Int64) + ((p1 &&& (127 : Int32)).toInt64)) + ((p2 &&& (127 : Int32)).toInt64)) + ((p3 &&& (127 : Int32)).toInt64)) + ((p4 &&& (127 : Int32)).toInt64))), .second, .val (.int (own_max (own_max (own_max (own_max (0 : Int32) (p1 &&& (127 : Int32))) (p2 &&& (127 : Int32))) (p3 &&& (127 : Int32))) (p4 &&& (127 : Int32)))), .val (.ref b40)] [(.long (4 : Int64))])) _
            refine XS.iload X41.here hx rfl (hb hby at_180) rfl ?_
            show Steps p.tables e below (T41.setTop (mkF m 182 #[.val (.int p1), .val (.int p2), .val (.int p3), .val (.int p4), .val (.int p5), .val (.int y1), .val (.int (p1 &&& (127 : Int32))), .val (.int (p2 &&& (127 : Int32))), .val (.int (p3 &&& (127 : Int32))), .val (.int (p4 &&& (127 : Int32))), .val (.ref b2), .val (.long (((((0 : Int64) + ((p1 &&& (127 : Int32)).toInt64)) + ((p2 &&& (127 : Int32)).toInt64)) + ((p3 &&& (127 : Int32)).toInt64)) + ((p4 &&& (127 : Int32)).toInt64))), .second, .val (.int (own_max (own_max (own_max (own_max (0 : Int32) (p1 &&& (127 : Int32))) (p2 &&& (127 : Int32))) (p3 &&& (127 : Int32))) (p4 &&& (127 : Int32)))), .val (.ref b40)] [(.int y1), (.long (4 : Int64))])) _
            refine XS.i2l X41.here hx rfl (hb hby at_182) rfl ?_
            show Steps p.tables e below (T41.setTop (mkF m 183 #[.val (.int p1), .val (.int p2), .val (.int p3), .val (.int p4), .val (.int p5), .val (.int y1), .val (.int (p1 &&& (127 : Int32))), .val (.int (p2 &&& (127 : Int32))), .val (.int (p3 &&& (127 : Int32))), .val (.int (p4 &&& (127 : Int32))), .val (.ref b2), .val (.long (((((0 : Int64) + ((p1 &&& (127 : Int32)).toInt64)) + ((p2 &&& (127 : Int32)).toInt64)) + ((p3 &&& (127 : Int32)).toInt64)) + ((p4 &&& (127 : Int32)).toInt64))), .second, .val (.int (own_max (own_max (own_max (own_max (0 : Int32) (p1 &&& (127 : Int32))) (p2 &&& (127 : Int32))) (p3 &&& (127 : Int32))) (p4 &&& (127 : Int32)))), .val (.ref b40)] [(.long (y1.toInt64)), (.long (4 : Int64))])) _
            refine XS.lcmp X41.here hx rfl (hb hby at_183) rfl ?_
            show Steps p.tables e below (T41.setTop (mkF m 184 #[.val (.int p1), .val (.int p2), .val (.int p3), .val (.int p4), .val (.int p5), .val (.int y1), .val (.int (p1 &&& (127 : Int32))), .val (.int (p2 &&& (127 : Int32))), .val (.int (p3 &&& (127 : Int32))), .val (.int (p4 &&& (127 : Int32))), .val (.ref b2), .val (.long (((((0 : Int64) + ((p1 &&& (127 : Int32)).toInt64)) + ((p2 &&& (127 : Int32)).toInt64)) + ((p3 &&& (127 : Int32)).toInt64)) + ((p4 &&& (127 : Int32)).toInt64))), .second, .val (.int (own_max (own_max (own_max (own_max (0 : Int32) (p1 &&& (127 : Int32))) (p2 &&& (127 : Int32))) (p3 &&& (127 : Int32))) (p4 &&& (127 : Int32)))), .val (.ref b40)] [(.int (lcmpW (4 : Int64) (y1.toInt64)))])) _
            refine XS.ifNo X41.here hx rfl (hb hby at_184) rfl ((if0 _ _).trans (teq (own_cnt (4 : Int64) 4 (by decide) (by decide) (own_ge hc141_32) hk4)).2) ?_
            show Steps p.tables e below (T41.setTop (mkF m 187 #[.val (.int p1), .val (.int p2), .val (.int p3), .val (.int p4), .val (.int p5), .val (.int y1), .val (.int (p1 &&& (127 : Int32))), .val (.int (p2 &&& (127 : Int32))), .val (.int (p3 &&& (127 : Int32))), .val (.int (p4 &&& (127 : Int32))), .val (.ref b2), .val (.long (((((0 : Int64) + ((p1 &&& (127 : Int32)).toInt64)) + ((p2 &&& (127 : Int32)).toInt64)) + ((p3 &&& (127 : Int32)).toInt64)) + ((p4 &&& (127 : Int32)).toInt64))), .second, .val (.int (own_max (own_max (own_max (own_max (0 : Int32) (p1 &&& (127 : Int32))) (p2 &&& (127 : Int32))) (p3 &&& (127 : Int32))) (p4 &&& (127 : Int32)))), .val (.ref b40)] [])) _
            refine XS.aload X41.here hx rfl (hb hby at_187) rfl rfl ?_
            show Steps p.tables e below (T41.setTop (mkF m 189 #[.val (.int p1), .val (.int p2), .val (.int p3), .val (.int p4), .val (.int p5), .val (.int y1), .val (.int (p1 &&& (127 : Int32))), .val (.int (p2 &&& (127 : Int32))), .val (.int (p3 &&& (127 : Int32))), .val (.int (p4 &&& (127 : Int32))), .val (.ref b2), .val (.long (((((0 : Int64) + ((p1 &&& (127 : Int32)).toInt64)) + ((p2 &&& (127 : Int32)).toInt64)) + ((p3 &&& (127 : Int32)).toInt64)) + ((p4 &&& (127 : Int32)).toInt64))), .second, .val (.int (own_max (own_max (own_max (own_max (0 : Int32) (p1 &&& (127 : Int32))) (p2 &&& (127 : Int32))) (p3 &&& (127 : Int32))) (p4 &&& (127 : Int32)))), .val (.ref b40)] [(.ref b40)])) _
            refine st42.trans ?_
            show Steps p.tables e below (T42.setTop (mkF m 192 #[.val (.int p1), .val (.int p2), .val (.int p3), .val (.int p4), .val (.int p5), .val (.int y1), .val (.int (p1 &&& (127 : Int32))), .val (.int (p2 &&& (127 : Int32))), .val (.int (p3 &&& (127 : Int32))), .val (.int (p4 &&& (127 : Int32))), .val (.ref b2), .val (.long (((((0 : Int64) + ((p1 &&& (127 : Int32)).toInt64)) + ((p2 &&& (127 : Int32)).toInt64)) + ((p3 &&& (127 : Int32)).toInt64)) + ((p4 &&& (127 : Int32)).toInt64))), .second, .val (.int (own_max (own_max (own_max (own_max (0 : Int32) (p1 &&& (127 : Int32))) (p2 &&& (127 : Int32))) (p3 &&& (127 : Int32))) (p4 &&& (127 : Int32)))), .val (.ref b40)] [(.long (((((0 : Int64) + ((p1 &&& (127 : Int32)).toInt64)) + ((p2 &&& (127 : Int32)).toInt64)) + ((p3 &&& (127 : Int32)).toInt64)) + ((p4 &&& (127 : Int32)).toInt64)))])) _
            refine XS.lload X42.here hx rfl (hb hby at_192) rfl ?_
            show Steps p.tables e below (T42.setTop (mkF m 194 #[.val (.int p1), .val (.int p2), .val (.int p3), .val (.int p4), .val (.int p5), .val (.int y1), .val (.int (p1 &&& (127 : Int32))), .val (.int (p2 &&& (127 : Int32))), .val (.int (p3 &&& (127 : Int32))), .val (.int (p4 &&& (127 : Int32))), .val (.ref b2), .val (.long (((((0 : Int64) + ((p1 &&& (127 : Int32)).toInt64)) + ((p2 &&& (127 : Int32)).toInt64)) + ((p3 &&& (127 : Int32)).toInt64)) + ((p4 &&& (127 : Int32)).toInt64))), .second, .val (.int (own_max (own_max (own_max (own_max (0 : Int32) (p1 &&& (127 : Int32))) (p2 &&& (127 : Int32))) (p3 &&& (127 : Int32))) (p4 &&& (127 : Int32)))), .val (.ref b40)] [(.long (((((0 : Int64) + ((p1 &&& (127 : Int32)).toInt64)) + ((p2 &&& (127 : Int32)).toInt64)) + ((p3 &&& (127 : Int32)).toInt64)) + ((p4 &&& (127 : Int32)).toInt64))), (.long (((((0 : Int64) + ((p1 &&& (127 : Int32)).toInt64)) + ((p2 &&& (127 : Int32)).toInt64)) + ((p3 &&& (127 : Int32)).toInt64)) + ((p4 &&& (127 : Int32)).toInt64)))])) _
            refine XS.lcmp X42.here hx rfl (hb hby at_194) rfl ?_
            show Steps p.tables e below (T42.setTop (mkF m 195 #[.val (.int p1), .val (.int p2), .val (.int p3), .val (.int p4), .val (.int p5), .val (.int y1), .val (.int (p1 &&& (127 : Int32))), .val (.int (p2 &&& (127 : Int32))), .val (.int (p3 &&& (127 : Int32))), .val (.int (p4 &&& (127 : Int32))), .val (.ref b2), .val (.long (((((0 : Int64) + ((p1 &&& (127 : Int32)).toInt64)) + ((p2 &&& (127 : Int32)).toInt64)) + ((p3 &&& (127 : Int32)).toInt64)) + ((p4 &&& (127 : Int32)).toInt64))), .second, .val (.int (own_max (own_max (own_max (own_max (0 : Int32) (p1 &&& (127 : Int32))) (p2 &&& (127 : Int32))) (p3 &&& (127 : Int32))) (p4 &&& (127 : Int32)))), .val (.ref b40)] [(.int (lcmpW (((((0 : Int64) + ((p1 &&& (127 : Int32)).toInt64)) + ((p2 &&& (127 : Int32)).toInt64)) + ((p3 &&& (127 : Int32)).toInt64)) + ((p4 &&& (127 : Int32)).toInt64)) (((((0 : Int64) + ((p1 &&& (127 : Int32)).toInt64)) + ((p2 &&& (127 : Int32)).toInt64)) + ((p3 &&& (127 : Int32)).toInt64)) + ((p4 &&& (127 : Int32)).toInt64))))])) _
            refine XS.ifNo X42.here hx rfl (hb hby at_195) rfl ((if0 _ _).trans (teq (((lw_eq _ _).mpr rfl) : ((lcmpW (((((0 : Int64) + ((p1 &&& (127 : Int32)).toInt64)) + ((p2 &&& (127 : Int32)).toInt64)) + ((p3 &&& (127 : Int32)).toInt64)) + ((p4 &&& (127 : Int32)).toInt64)) (((((0 : Int64) + ((p1 &&& (127 : Int32)).toInt64)) + ((p2 &&& (127 : Int32)).toInt64)) + ((p3 &&& (127 : Int32)).toInt64)) + ((p4 &&& (127 : Int32)).toInt64))) = (0 : Int32)))).2) ?_
            show Steps p.tables e below (T42.setTop (mkF m 198 #[.val (.int p1), .val (.int p2), .val (.int p3), .val (.int p4), .val (.int p5), .val (.int y1), .val (.int (p1 &&& (127 : Int32))), .val (.int (p2 &&& (127 : Int32))), .val (.int (p3 &&& (127 : Int32))), .val (.int (p4 &&& (127 : Int32))), .val (.ref b2), .val (.long (((((0 : Int64) + ((p1 &&& (127 : Int32)).toInt64)) + ((p2 &&& (127 : Int32)).toInt64)) + ((p3 &&& (127 : Int32)).toInt64)) + ((p4 &&& (127 : Int32)).toInt64))), .second, .val (.int (own_max (own_max (own_max (own_max (0 : Int32) (p1 &&& (127 : Int32))) (p2 &&& (127 : Int32))) (p3 &&& (127 : Int32))) (p4 &&& (127 : Int32)))), .val (.ref b40)] [])) _
            refine XS.aload X42.here hx rfl (hb hby at_198) rfl rfl ?_
            show Steps p.tables e below (T42.setTop (mkF m 200 #[.val (.int p1), .val (.int p2), .val (.int p3), .val (.int p4), .val (.int p5), .val (.int y1), .val (.int (p1 &&& (127 : Int32))), .val (.int (p2 &&& (127 : Int32))), .val (.int (p3 &&& (127 : Int32))), .val (.int (p4 &&& (127 : Int32))), .val (.ref b2), .val (.long (((((0 : Int64) + ((p1 &&& (127 : Int32)).toInt64)) + ((p2 &&& (127 : Int32)).toInt64)) + ((p3 &&& (127 : Int32)).toInt64)) + ((p4 &&& (127 : Int32)).toInt64))), .second, .val (.int (own_max (own_max (own_max (own_max (0 : Int32) (p1 &&& (127 : Int32))) (p2 &&& (127 : Int32))) (p3 &&& (127 : Int32))) (p4 &&& (127 : Int32)))), .val (.ref b40)] [(.ref b40)])) _
            refine st43.trans ?_
            show Steps p.tables e below (T43.setTop (mkF m 203 #[.val (.int p1), .val (.int p2), .val (.int p3), .val (.int p4), .val (.int p5), .val (.int y1), .val (.int (p1 &&& (127 : Int32))), .val (.int (p2 &&& (127 : Int32))), .val (.int (p3 &&& (127 : Int32))), .val (.int (p4 &&& (127 : Int32))), .val (.ref b2), .val (.long (((((0 : Int64) + ((p1 &&& (127 : Int32)).toInt64)) + ((p2 &&& (127 : Int32)).toInt64)) + ((p3 &&& (127 : Int32)).toInt64)) + ((p4 &&& (127 : Int32)).toInt64))), .second, .val (.int (own_max (own_max (own_max (own_max (0 : Int32) (p1 &&& (127 : Int32))) (p2 &&& (127 : Int32))) (p3 &&& (127 : Int32))) (p4 &&& (127 : Int32)))), .val (.ref b40)] [(.long ((own_max (own_max (own_max (own_max (0 : Int32) (p1 &&& (127 : Int32))) (p2 &&& (127 : Int32))) (p3 &&& (127 : Int32))) (p4 &&& (127 : Int32))).toInt64))])) _
            refine XS.iload X43.here hx rfl (hb hby at_203) rfl ?_
            show Steps p.tables e below (T43.setTop (mkF m 205 #[.val (.int p1), .val (.int p2), .val (.int p3), .val (.int p4), .val (.int p5), .val (.int y1), .val (.int (p1 &&& (127 : Int32))), .val (.int (p2 &&& (127 : Int32))), .val (.int (p3 &&& (127 : Int32))), .val (.int (p4 &&& (127 : Int32))), .val (.ref b2), .val (.long (((((0 : Int64) + ((p1 &&& (127 : Int32)).toInt64)) + ((p2 &&& (127 : Int32)).toInt64)) + ((p3 &&& (127 : Int32)).toInt64)) + ((p4 &&& (127 : Int32)).toInt64))), .second, .val (.int (own_max (own_max (own_max (own_max (0 : Int32) (p1 &&& (127 : Int32))) (p2 &&& (127 : Int32))) (p3 &&& (127 : Int32))) (p4 &&& (127 : Int32)))), .val (.ref b40)] [(.int (own_max (own_max (own_max (own_max (0 : Int32) (p1 &&& (127 : Int32))) (p2 &&& (127 : Int32))) (p3 &&& (127 : Int32))) (p4 &&& (127 : Int32)))), (.long ((own_max (own_max (own_max (own_max (0 : Int32) (p1 &&& (127 : Int32))) (p2 &&& (127 : Int32))) (p3 &&& (127 : Int32))) (p4 &&& (127 : Int32))).toInt64))])) _
            refine XS.i2l X43.here hx rfl (hb hby at_205) rfl ?_
            show Steps p.tables e below (T43.setTop (mkF m 206 #[.val (.int p1), .val (.int p2), .val (.int p3), .val (.int p4), .val (.int p5), .val (.int y1), .val (.int (p1 &&& (127 : Int32))), .val (.int (p2 &&& (127 : Int32))), .val (.int (p3 &&& (127 : Int32))), .val (.int (p4 &&& (127 : Int32))), .val (.ref b2), .val (.long (((((0 : Int64) + ((p1 &&& (127 : Int32)).toInt64)) + ((p2 &&& (127 : Int32)).toInt64)) + ((p3 &&& (127 : Int32)).toInt64)) + ((p4 &&& (127 : Int32)).toInt64))), .second, .val (.int (own_max (own_max (own_max (own_max (0 : Int32) (p1 &&& (127 : Int32))) (p2 &&& (127 : Int32))) (p3 &&& (127 : Int32))) (p4 &&& (127 : Int32)))), .val (.ref b40)] [(.long ((own_max (own_max (own_max (own_max (0 : Int32) (p1 &&& (127 : Int32))) (p2 &&& (127 : Int32))) (p3 &&& (127 : Int32))) (p4 &&& (127 : Int32))).toInt64)), (.long ((own_max (own_max (own_max (own_max (0 : Int32) (p1 &&& (127 : Int32))) (p2 &&& (127 : Int32))) (p3 &&& (127 : Int32))) (p4 &&& (127 : Int32))).toInt64))])) _
            refine XS.lcmp X43.here hx rfl (hb hby at_206) rfl ?_
            show Steps p.tables e below (T43.setTop (mkF m 207 #[.val (.int p1), .val (.int p2), .val (.int p3), .val (.int p4), .val (.int p5), .val (.int y1), .val (.int (p1 &&& (127 : Int32))), .val (.int (p2 &&& (127 : Int32))), .val (.int (p3 &&& (127 : Int32))), .val (.int (p4 &&& (127 : Int32))), .val (.ref b2), .val (.long (((((0 : Int64) + ((p1 &&& (127 : Int32)).toInt64)) + ((p2 &&& (127 : Int32)).toInt64)) + ((p3 &&& (127 : Int32)).toInt64)) + ((p4 &&& (127 : Int32)).toInt64))), .second, .val (.int (own_max (own_max (own_max (own_max (0 : Int32) (p1 &&& (127 : Int32))) (p2 &&& (127 : Int32))) (p3 &&& (127 : Int32))) (p4 &&& (127 : Int32)))), .val (.ref b40)] [(.int (lcmpW ((own_max (own_max (own_max (own_max (0 : Int32) (p1 &&& (127 : Int32))) (p2 &&& (127 : Int32))) (p3 &&& (127 : Int32))) (p4 &&& (127 : Int32))).toInt64) ((own_max (own_max (own_max (own_max (0 : Int32) (p1 &&& (127 : Int32))) (p2 &&& (127 : Int32))) (p3 &&& (127 : Int32))) (p4 &&& (127 : Int32))).toInt64)))])) _
            refine XS.ifNo X43.here hx rfl (hb hby at_207) rfl ((if0 _ _).trans (teq (((lw_eq _ _).mpr rfl) : ((lcmpW ((own_max (own_max (own_max (own_max (0 : Int32) (p1 &&& (127 : Int32))) (p2 &&& (127 : Int32))) (p3 &&& (127 : Int32))) (p4 &&& (127 : Int32))).toInt64) ((own_max (own_max (own_max (own_max (0 : Int32) (p1 &&& (127 : Int32))) (p2 &&& (127 : Int32))) (p3 &&& (127 : Int32))) (p4 &&& (127 : Int32))).toInt64)) = (0 : Int32)))).2) ?_
            show Steps p.tables e below (T43.setTop (mkF m 210 #[.val (.int p1), .val (.int p2), .val (.int p3), .val (.int p4), .val (.int p5), .val (.int y1), .val (.int (p1 &&& (127 : Int32))), .val (.int (p2 &&& (127 : Int32))), .val (.int (p3 &&& (127 : Int32))), .val (.int (p4 &&& (127 : Int32))), .val (.ref b2), .val (.long (((((0 : Int64) + ((p1 &&& (127 : Int32)).toInt64)) + ((p2 &&& (127 : Int32)).toInt64)) + ((p3 &&& (127 : Int32)).toInt64)) + ((p4 &&& (127 : Int32)).toInt64))), .second, .val (.int (own_max (own_max (own_max (own_max (0 : Int32) (p1 &&& (127 : Int32))) (p2 &&& (127 : Int32))) (p3 &&& (127 : Int32))) (p4 &&& (127 : Int32)))), .val (.ref b40)] [])) _
            refine XS.aload X43.here hx rfl (hb hby at_210) rfl rfl ?_
            show Steps p.tables e below (T43.setTop (mkF m 212 #[.val (.int p1), .val (.int p2), .val (.int p3), .val (.int p4), .val (.int p5), .val (.int y1), .val (.int (p1 &&& (127 : Int32))), .val (.int (p2 &&& (127 : Int32))), .val (.int (p3 &&& (127 : Int32))), .val (.int (p4 &&& (127 : Int32))), .val (.ref b2), .val (.long (((((0 : Int64) + ((p1 &&& (127 : Int32)).toInt64)) + ((p2 &&& (127 : Int32)).toInt64)) + ((p3 &&& (127 : Int32)).toInt64)) + ((p4 &&& (127 : Int32)).toInt64))), .second, .val (.int (own_max (own_max (own_max (own_max (0 : Int32) (p1 &&& (127 : Int32))) (p2 &&& (127 : Int32))) (p3 &&& (127 : Int32))) (p4 &&& (127 : Int32)))), .val (.ref b40)] [(.ref b40)])) _
            refine st44.trans ?_
            show Steps p.tables e below (T44.setTop (mkF m 215 #[.val (.int p1), .val (.int p2), .val (.int p3), .val (.int p4), .val (.int p5), .val (.int y1), .val (.int (p1 &&& (127 : Int32))), .val (.int (p2 &&& (127 : Int32))), .val (.int (p3 &&& (127 : Int32))), .val (.int (p4 &&& (127 : Int32))), .val (.ref b2), .val (.long (((((0 : Int64) + ((p1 &&& (127 : Int32)).toInt64)) + ((p2 &&& (127 : Int32)).toInt64)) + ((p3 &&& (127 : Int32)).toInt64)) + ((p4 &&& (127 : Int32)).toInt64))), .second, .val (.int (own_max (own_max (own_max (own_max (0 : Int32) (p1 &&& (127 : Int32))) (p2 &&& (127 : Int32))) (p3 &&& (127 : Int32))) (p4 &&& (127 : Int32)))), .val (.ref b40)] [(.long ((Int32.ofNat ((own_max (own_max (own_max (own_max (0 : Int32) (p1 &&& (127 : Int32))) (p2 &&& (127 : Int32))) (p3 &&& (127 : Int32))) (p4 &&& (127 : Int32)))).toNatClampNeg).toInt64))])) _
            refine XS.iload X44.here hx rfl (hb hby at_215) rfl ?_
            show Steps p.tables e below (T44.setTop (mkF m 217 #[.val (.int p1), .val (.int p2), .val (.int p3), .val (.int p4), .val (.int p5), .val (.int y1), .val (.int (p1 &&& (127 : Int32))), .val (.int (p2 &&& (127 : Int32))), .val (.int (p3 &&& (127 : Int32))), .val (.int (p4 &&& (127 : Int32))), .val (.ref b2), .val (.long (((((0 : Int64) + ((p1 &&& (127 : Int32)).toInt64)) + ((p2 &&& (127 : Int32)).toInt64)) + ((p3 &&& (127 : Int32)).toInt64)) + ((p4 &&& (127 : Int32)).toInt64))), .second, .val (.int (own_max (own_max (own_max (own_max (0 : Int32) (p1 &&& (127 : Int32))) (p2 &&& (127 : Int32))) (p3 &&& (127 : Int32))) (p4 &&& (127 : Int32)))), .val (.ref b40)] [(.int (own_max (own_max (own_max (own_max (0 : Int32) (p1 &&& (127 : Int32))) (p2 &&& (127 : Int32))) (p3 &&& (127 : Int32))) (p4 &&& (127 : Int32)))), (.long ((Int32.ofNat ((own_max (own_max (own_max (own_max (0 : Int32) (p1 &&& (127 : Int32))) (p2 &&& (127 : Int32))) (p3 &&& (127 : Int32))) (p4 &&& (127 : Int32)))).toNatClampNeg).toInt64))])) _
            refine XS.i2l X44.here hx rfl (hb hby at_217) rfl ?_
            show Steps p.tables e below (T44.setTop (mkF m 218 #[.val (.int p1), .val (.int p2), .val (.int p3), .val (.int p4), .val (.int p5), .val (.int y1), .val (.int (p1 &&& (127 : Int32))), .val (.int (p2 &&& (127 : Int32))), .val (.int (p3 &&& (127 : Int32))), .val (.int (p4 &&& (127 : Int32))), .val (.ref b2), .val (.long (((((0 : Int64) + ((p1 &&& (127 : Int32)).toInt64)) + ((p2 &&& (127 : Int32)).toInt64)) + ((p3 &&& (127 : Int32)).toInt64)) + ((p4 &&& (127 : Int32)).toInt64))), .second, .val (.int (own_max (own_max (own_max (own_max (0 : Int32) (p1 &&& (127 : Int32))) (p2 &&& (127 : Int32))) (p3 &&& (127 : Int32))) (p4 &&& (127 : Int32)))), .val (.ref b40)] [(.long ((own_max (own_max (own_max (own_max (0 : Int32) (p1 &&& (127 : Int32))) (p2 &&& (127 : Int32))) (p3 &&& (127 : Int32))) (p4 &&& (127 : Int32))).toInt64)), (.long ((Int32.ofNat ((own_max (own_max (own_max (own_max (0 : Int32) (p1 &&& (127 : Int32))) (p2 &&& (127 : Int32))) (p3 &&& (127 : Int32))) (p4 &&& (127 : Int32)))).toNatClampNeg).toInt64))])) _
            refine XS.lcmp X44.here hx rfl (hb hby at_218) rfl ?_
            show Steps p.tables e below (T44.setTop (mkF m 219 #[.val (.int p1), .val (.int p2), .val (.int p3), .val (.int p4), .val (.int p5), .val (.int y1), .val (.int (p1 &&& (127 : Int32))), .val (.int (p2 &&& (127 : Int32))), .val (.int (p3 &&& (127 : Int32))), .val (.int (p4 &&& (127 : Int32))), .val (.ref b2), .val (.long (((((0 : Int64) + ((p1 &&& (127 : Int32)).toInt64)) + ((p2 &&& (127 : Int32)).toInt64)) + ((p3 &&& (127 : Int32)).toInt64)) + ((p4 &&& (127 : Int32)).toInt64))), .second, .val (.int (own_max (own_max (own_max (own_max (0 : Int32) (p1 &&& (127 : Int32))) (p2 &&& (127 : Int32))) (p3 &&& (127 : Int32))) (p4 &&& (127 : Int32)))), .val (.ref b40)] [(.int (lcmpW ((Int32.ofNat ((own_max (own_max (own_max (own_max (0 : Int32) (p1 &&& (127 : Int32))) (p2 &&& (127 : Int32))) (p3 &&& (127 : Int32))) (p4 &&& (127 : Int32)))).toNatClampNeg).toInt64) ((own_max (own_max (own_max (own_max (0 : Int32) (p1 &&& (127 : Int32))) (p2 &&& (127 : Int32))) (p3 &&& (127 : Int32))) (p4 &&& (127 : Int32))).toInt64)))])) _
            refine XS.ifNo X44.here hx rfl (hb hby at_219) rfl ((if0 _ _).trans (teq (((lw_eq _ _).mpr (own_back (own_mx (own_mx (own_mx (own_mx own_mx0 hx1a) hx2a) hx3a) hx4a))) : ((lcmpW ((Int32.ofNat ((own_max (own_max (own_max (own_max (0 : Int32) (p1 &&& (127 : Int32))) (p2 &&& (127 : Int32))) (p3 &&& (127 : Int32))) (p4 &&& (127 : Int32)))).toNatClampNeg).toInt64) ((own_max (own_max (own_max (own_max (0 : Int32) (p1 &&& (127 : Int32))) (p2 &&& (127 : Int32))) (p3 &&& (127 : Int32))) (p4 &&& (127 : Int32))).toInt64)) = (0 : Int32)))).2) ?_
            show Steps p.tables e below (T44.setTop (mkF m 222 #[.val (.int p1), .val (.int p2), .val (.int p3), .val (.int p4), .val (.int p5), .val (.int y1), .val (.int (p1 &&& (127 : Int32))), .val (.int (p2 &&& (127 : Int32))), .val (.int (p3 &&& (127 : Int32))), .val (.int (p4 &&& (127 : Int32))), .val (.ref b2), .val (.long (((((0 : Int64) + ((p1 &&& (127 : Int32)).toInt64)) + ((p2 &&& (127 : Int32)).toInt64)) + ((p3 &&& (127 : Int32)).toInt64)) + ((p4 &&& (127 : Int32)).toInt64))), .second, .val (.int (own_max (own_max (own_max (own_max (0 : Int32) (p1 &&& (127 : Int32))) (p2 &&& (127 : Int32))) (p3 &&& (127 : Int32))) (p4 &&& (127 : Int32)))), .val (.ref b40)] [])) _
            refine XS.iconst X44.here hx rfl (hb hby at_222) ?_
            show Steps p.tables e below (T44.setTop (mkF m 223 #[.val (.int p1), .val (.int p2), .val (.int p3), .val (.int p4), .val (.int p5), .val (.int y1), .val (.int (p1 &&& (127 : Int32))), .val (.int (p2 &&& (127 : Int32))), .val (.int (p3 &&& (127 : Int32))), .val (.int (p4 &&& (127 : Int32))), .val (.ref b2), .val (.long (((((0 : Int64) + ((p1 &&& (127 : Int32)).toInt64)) + ((p2 &&& (127 : Int32)).toInt64)) + ((p3 &&& (127 : Int32)).toInt64)) + ((p4 &&& (127 : Int32)).toInt64))), .second, .val (.int (own_max (own_max (own_max (own_max (0 : Int32) (p1 &&& (127 : Int32))) (p2 &&& (127 : Int32))) (p3 &&& (127 : Int32))) (p4 &&& (127 : Int32)))), .val (.ref b40)] [(.int (1 : Int32))])) _
            refine XS.goto X44.here hx rfl (pc0 := 223) (pc' := 227) rfl (hb hby at_223) (by decide) (by decide) ?_
            show Steps p.tables e below (T44.setTop (mkF m 227 #[.val (.int p1), .val (.int p2), .val (.int p3), .val (.int p4), .val (.int p5), .val (.int y1), .val (.int (p1 &&& (127 : Int32))), .val (.int (p2 &&& (127 : Int32))), .val (.int (p3 &&& (127 : Int32))), .val (.int (p4 &&& (127 : Int32))), .val (.ref b2), .val (.long (((((0 : Int64) + ((p1 &&& (127 : Int32)).toInt64)) + ((p2 &&& (127 : Int32)).toInt64)) + ((p3 &&& (127 : Int32)).toInt64)) + ((p4 &&& (127 : Int32)).toInt64))), .second, .val (.int (own_max (own_max (own_max (own_max (0 : Int32) (p1 &&& (127 : Int32))) (p2 &&& (127 : Int32))) (p3 &&& (127 : Int32))) (p4 &&& (127 : Int32)))), .val (.ref b40)] [(.int (1 : Int32))])) _
            exact retN X44 hx (t := .boolean) Bd.returns (by simp) (hb hby at_227) hr
          · show Q_rm0 Z p1 p2 p3 p4 p5 h0 n0 _ T44.heap _
            rw [e44]
            exact ⟨rfl, N44⟩
set_option maxRecDepth 65536 in
set_option maxHeartbeats 40000000 in
theorem comes_1 {Post : Tables → Env → Array Value → State → Outcome → State → Prop} (hpost : ∀ tb e args s v u, (limb_1_1.after args s (.returned v) u = true ∧ limb_1_2.after args s (.returned v) u = true ∧ True) → FrameEnd s (.returned v) u (Jvm.fieldLocs frame_1_writes args s ++ Jvm.arrayLocs frame_1_arrays args s ++ Jvm.staticLocs frame_1_statics s) 24 896 → Post tb e args s (.returned v) u) :
    ArmFor flags0 classFile x code maxLocals ret World_1 tables_1 room_1 Calls_1 rest_1 Pre_1 Post := by
  intro l hfl _ _ p e ha hc hk s m args below hf hA hF happ hP
  obtain ⟨hcalls, hrest, hpre⟩ := hP
  obtain ⟨-, -, -, hnamed, -, -, -, hat⟩ := (Spec.applies_iff hf).mp happ
  obtain ⟨hg, hn⟩ := and_e (Cond.before_iff.mp (show (Jvm.Cond.and given_1 narrow_1).before args s = true from hpre))
  obtain ⟨g0, gr0⟩ := and_e hg
  obtain ⟨ga0, gr1⟩ := and_e gr0
  obtain ⟨ga1, gr2⟩ := and_e gr1
  obtain ⟨ga2, gr3⟩ := and_e gr2
  obtain ⟨ga3, gr4⟩ := and_e gr3
  obtain ⟨w0, w1, w2, w3, w4, rfl⟩ : ∃ w0 w1 w2 w3 w4 : Value, args = #[w0, w1, w2, w3, w4] := by
    have hs : args.size = 5 := by simpa [Cond.value, given_1] using g0
    obtain ⟨L⟩ := args
    match L, hs with
    | [w0, w1, w2, w3, w4], _ => exact ⟨w0, w1, w2, w3, w4, rfl⟩
  have hw := fun d (hd : d ∈ tables_1) => atoms_spec (ws := Jvm.Cond.code x code maxLocals ret :: tables_1) hat d (List.mem_cons_of_mem _ hd)
  have hfit : Fit s := fun {y c} hc i hi => by
    obtain ⟨ha, rfl⟩ := Array.getElem?_eq_some_iff.mp hc
    have q := List.all_eq_true.mp ((Array.all_eq_true_iff_forall_mem.mp hF) _ (Array.getElem_mem ha)) i (List.mem_range.mpr hi)
    simpa [Array.getElem?_eq_getElem hi] using q
  obtain ⟨i0, ei0⟩ := is_v ga0
  obtain rfl : w0 = (.int i0) := Option.some.inj ei0
  obtain ⟨i1, ei1⟩ := is_v ga1
  obtain rfl : w1 = (.int i1) := Option.some.inj ei1
  obtain ⟨i2, ei2⟩ := is_v ga2
  obtain rfl : w2 = (.int i2) := Option.some.inj ei2
  obtain ⟨i3, ei3⟩ := is_v ga3
  obtain rfl : w3 = (.int i3) := Option.some.inj ei3
  obtain ⟨i4, ei4⟩ := is_v gr4
  obtain rfl : w4 = (.int i4) := Option.some.inj ei4
  obtain ⟨n, o, h1, h2, h3, _, L, rfl, ⟨rfl, N⟩, hq⟩ := rm0 l s _ hw tables_1 i0 i1 i2 i3 i4 s.heap s.heap.size (Nat.le_refl _) p e ha hc hk s m _ below hf ((Spec.applies_iff_loose hf).mp happ).1 ⟨rfl, State.Warmed39.refl s, rfl⟩ trivial
  refine ⟨n, _, h1, h2, h3, hpost _ _ _ _ _ _ ⟨Cond.after_iff.mpr rfl, Cond.after_iff.mpr (eq_i res_at (Term.int_eval (1)) rfl), trivial⟩ ⟨hq.1, hq.2.1, (hq.2.2.sift fun y hy => Or.inr (N y hy)).mono (by decide) (by decide)⟩⟩
theorem main_1_1 : Claimed_1_1 := comes_1 fun _ _ _ _ _ _ h hF => ⟨h.1, hF⟩
theorem main_1_2 : Claimed_1_2 := comes_1 fun _ _ _ _ _ _ h hF => ⟨h.2.1, hF⟩
end Jvm.Pilot.@@N@@
namespace Jvm.Pilot.@@N@@
open Jvm Jvm.ClassFile Sem Op Lib Jvm.Free Jvm.Stand Jvm.Pilot.@@N@@.Jvm.D
/-! MADE BY PROGRAM (witnessworld.py) out of the Statement's table words and the real class files: 16 classes; the members and pool entries that the words name. The judged class is class 1, her method 1. -/
namespace start1
open Jvm.ClassFile
def u (s : String) : CpInfo := .utf8 (stringToUtf16 s)
/-- a pool by its gaps: so many unusable entries, then the entry; so many at the end -/
def gap : Nat → List CpInfo → List CpInfo
  | 0, r => r
  | n + 1, r => .unusable :: gap n r
def poolList (es : List (Nat × CpInfo)) (last : Nat) : List CpInfo := es.foldr (fun e r => gap e.1 (e.2 :: r)) (gap last [])
def pool (es : List (Nat × CpInfo)) (last : Nat) : Array CpInfo := ⟨poolList es last⟩
def fileOf (pool : Array CpInfo) (this : Nat) (attrs : Array Attribute := #[]) (ms : Array MethodInfo := #[]) (fl : Nat := 33) (sup : Nat := 0) (ifs : Array Nat := #[]) (fds : Array FieldInfo := #[]) : ClassFile where
  minorVersion := 0
  majorVersion := 65
  constantPool := pool
  accessFlags := fl
  thisClass := this
  superClass := sup
  interfaces := ifs
  fields := fds
  methods := ms
  attributes := attrs
def plain (name : String) (sup : Option ClassId) : Class where
  name := name
  kind := .ordinary
  loader := none
  accessFlags := 33
  super := sup
  interfaces := #[]
  cf := none
  fields := #[]
  methods := #[]
  instanceTypes := #[]
  staticTypes := #[]
  resolved := #[]
  callSites := []
  init := .initialized
  statics := none
  mirror := none

def pool0 : Array CpInfo := pool [(5, u "<init>"), (0, u "()V"), (1, .class_ 10), (1, u "java/lang/Object")] 113

def k0c0 : Code := { maxStack := 0, maxLocals := 1, code := object_method_1_code, exceptionTable := #[], attributes := #[] }
def k0m0 : Method := { name := "<init>", desc := "()V", sig := { parameters := [], returnType := none }, accessFlags := 1, code := some k0c0 }
/-- java/lang/Object -/
def k0 : Class := { plain "java/lang/Object" none with
  accessFlags := 33
  interfaces := #[]
  cf := some (fileOf pool0 8 #[] #[{ accessFlags := 1, nameIndex := 5, descriptorIndex := 6, attributes := #[] }] 33 0 #[] #[])
  fields := #[]
  methods := #[k0m0]
  instanceTypes := #[]
  staticTypes := #[]
  resolved := Array.replicate 124 none
  statics := none }

def pool1 : Array CpInfo := pool [(2, .class_ 4), (0, .nameAndType 5 6), (0, u "java/lang/Object"), (0, u "<init>"), (0, u "()V"), (0, .integer 2147483647), (0, .class_ 9), (0, u "nachbar/sim/Tally"), (0, .methodref 8 3), (0, .methodref 8 12), (0, .nameAndType 13 14), (0, u "add"), (0, u "(I)V"), (0, .methodref 16 17), (0, .class_ 18), (0, .nameAndType 19 20), (0, u "java/lang/Math"), (0, u "max"), (0, u "(II)I"), (0, .methodref 8 22), (0, .nameAndType 23 24), (0, u "summary"), (0, u "()Lnachbar/sim/Summary;"), (0, .methodref 26 27), (0, .class_ 28), (0, .nameAndType 29 30), (0, u "nachbar/sim/Summary"), (0, u "count"), (0, u "()J"), (0, .methodref 26 32), (0, .nameAndType 33 30), (0, u "sum"), (0, .methodref 26 35), (0, .nameAndType 19 30), (0, .methodref 26 37), (0, .nameAndType 38 30), (0, u "p99"), (0, .class_ 40), (0, u "nachbar/sim/TallySummaryPinLaw"), (2, u "law"), (0, u "(IIIII)Z")] 3

def k1m0 : Method := { name := "<init>", desc := "()V", sig := { parameters := [], returnType := none }, accessFlags := 1, code := none }
def k1c1 : Code := { maxStack := 4, maxLocals := 15, code := code, exceptionTable := #[], attributes := #[] }
def k1m1 : Method := { name := "law", desc := "(IIIII)Z", sig := { parameters := [.int, .int, .int, .int, .int], returnType := some .boolean }, accessFlags := 9, code := some k1c1 }
/-- nachbar/sim/TallySummaryPinLaw -/
def k1 : Class := { plain "nachbar/sim/TallySummaryPinLaw" (some 0) with
  accessFlags := 49
  interfaces := #[]
  cf := some (fileOf pool1 39 #[] #[{ accessFlags := 1, nameIndex := 5, descriptorIndex := 6, attributes := #[] }, { accessFlags := 9, nameIndex := 43, descriptorIndex := 44, attributes := #[] }] 49 2 #[] #[])
  fields := #[]
  methods := #[k1m0, k1m1]
  instanceTypes := #[]
  staticTypes := #[]
  resolved := Array.replicate 48 none
  statics := none }

def pool2 : Array CpInfo := pool [(1, .methodref 2 3), (0, .class_ 4), (0, .nameAndType 5 6), (0, u "java/lang/Object"), (0, u "<init>"), (0, u "()V"), (0, .fieldref 8 9), (0, .class_ 10), (0, .nameAndType 11 12), (0, u "nachbar/sim/Tally"), (0, u "counts"), (0, u "[J"), (9, .methodref 23 24), (0, .class_ 25), (0, .nameAndType 26 27), (0, u "java/lang/Math"), (0, u "max"), (0, u "(II)I"), (0, .methodref 29 30), (0, .class_ 31), (0, .nameAndType 32 33), (0, u "java/util/Arrays"), (0, u "copyOf"), (0, u "([JI)[J"), (0, .fieldref 8 35), (0, .nameAndType 36 37), (0, u "count"), (0, u "J"), (0, .fieldref 8 39), (0, .nameAndType 40 37), (0, u "sum"), (0, .fieldref 8 42), (0, .nameAndType 26 43), (0, u "I"), (0, .methodref 45 46), (0, .class_ 47), (0, .nameAndType 48 49), (0, u "nachbar/sim/Summary"), (0, u "p99Rank"), (0, u "(J)J"), (0, .methodref 45 51), (0, .nameAndType 5 52), (0, u "(JJJJ)V"), (10, u "summary"), (0, u "()Lnachbar/sim/Summary;"), (5, u "add"), (0, u "(I)V")] 20

def k2c0 : Code := { maxStack := 2, maxLocals := 1, code := prog_146_method_1_code, exceptionTable := #[], attributes := #[] }
def k2m0 : Method := { name := "<init>", desc := "()V", sig := { parameters := [], returnType := none }, accessFlags := 0, code := some k2c0 }
def k2c1 : Code := { maxStack := 6, maxLocals := 2, code := prog_146_method_2_code, exceptionTable := #[], attributes := #[] }
def k2m1 : Method := { name := "add", desc := "(I)V", sig := { parameters := [.int], returnType := none }, accessFlags := 0, code := some k2c1 }
def k2c2 : Code := { maxStack := 10, maxLocals := 6, code := prog_146_method_3_code, exceptionTable := #[], attributes := #[] }
def k2m2 : Method := { name := "summary", desc := "()Lnachbar/sim/Summary;", sig := { parameters := [], returnType := some (.object "nachbar/sim/Summary") }, accessFlags := 0, code := some k2c2 }
/-- nachbar/sim/Tally -/
def k2 : Class := { plain "nachbar/sim/Tally" (some 0) with
  accessFlags := 48
  interfaces := #[]
  cf := some (fileOf pool2 8 #[] #[{ accessFlags := 0, nameIndex := 5, descriptorIndex := 6, attributes := #[] }, { accessFlags := 0, nameIndex := 70, descriptorIndex := 71, attributes := #[] }, { accessFlags := 0, nameIndex := 63, descriptorIndex := 64, attributes := #[] }] 48 2 #[] #[{ accessFlags := 2, nameIndex := 11, descriptorIndex := 12, attributes := #[] }, { accessFlags := 2, nameIndex := 36, descriptorIndex := 37, attributes := #[] }, { accessFlags := 2, nameIndex := 40, descriptorIndex := 37, attributes := #[] }, { accessFlags := 2, nameIndex := 26, descriptorIndex := 43, attributes := #[] }])
  fields := #[{ name := "counts", type := (.array .long), accessFlags := 2, slot := 0, constantValue := 0 }, { name := "count", type := .long, accessFlags := 2, slot := 1, constantValue := 0 }, { name := "sum", type := .long, accessFlags := 2, slot := 2, constantValue := 0 }, { name := "max", type := .int, accessFlags := 2, slot := 3, constantValue := 0 }]
  methods := #[k2m0, k2m1, k2m2]
  instanceTypes := #[(.array .long), .long, .long, .int]
  staticTypes := #[]
  resolved := Array.replicate 92 none
  statics := none }

def pool3 : Array CpInfo := pool [(1, .methodref 2 3), (0, .class_ 4), (0, .nameAndType 5 6), (0, u "java/lang/Object"), (0, u "<init>"), (0, u "()V"), (0, .class_ 8), (0, u "java/lang/Record")] 13

def k3c0 : Code := { maxStack := 1, maxLocals := 1, code := jdk_30_method_1_code, exceptionTable := #[], attributes := #[] }
def k3m0 : Method := { name := "<init>", desc := "()V", sig := { parameters := [], returnType := none }, accessFlags := 4, code := some k3c0 }
/-- java/lang/Record -/
def k3 : Class := { plain "java/lang/Record" (some 0) with
  accessFlags := 1057
  interfaces := #[]
  cf := some (fileOf pool3 7 #[] #[{ accessFlags := 4, nameIndex := 5, descriptorIndex := 6, attributes := #[] }] 1057 2 #[] #[])
  fields := #[]
  methods := #[k3m0]
  instanceTypes := #[]
  staticTypes := #[]
  resolved := Array.replicate 22 none
  statics := none }

def pool4 : Array CpInfo := pool [(1, .methodref 2 3), (0, .class_ 4), (0, .nameAndType 5 6), (0, u "java/lang/Record"), (0, u "<init>"), (0, u "()V"), (0, .fieldref 8 9), (0, .class_ 10), (0, .nameAndType 11 12), (0, u "nachbar/sim/Summary"), (0, u "count"), (0, u "J"), (0, .fieldref 8 14), (0, .nameAndType 15 12), (0, u "sum"), (0, .fieldref 8 17), (0, .nameAndType 18 12), (0, u "p99"), (0, .fieldref 8 20), (0, .nameAndType 21 12), (0, u "max"), (16, .long 99), (1, .long 100), (13, u "(JJJJ)V"), (4, u "p99Rank"), (0, u "(J)J"), (3, u "()J")] 23

def k4c0 : Code := { maxStack := 3, maxLocals := 9, code := prog_144_method_1_code, exceptionTable := #[], attributes := #[] }
def k4m0 : Method := { name := "<init>", desc := "(JJJJ)V", sig := { parameters := [.long, .long, .long, .long], returnType := none }, accessFlags := 1, code := some k4c0 }
def k4c1 : Code := { maxStack := 4, maxLocals := 2, code := prog_144_method_4_code, exceptionTable := #[], attributes := #[] }
def k4m1 : Method := { name := "p99Rank", desc := "(J)J", sig := { parameters := [.long], returnType := some .long }, accessFlags := 8, code := some k4c1 }
def k4c2 : Code := { maxStack := 2, maxLocals := 1, code := prog_144_method_8_code, exceptionTable := #[], attributes := #[] }
def k4m2 : Method := { name := "count", desc := "()J", sig := { parameters := [], returnType := some .long }, accessFlags := 1, code := some k4c2 }
def k4c3 : Code := { maxStack := 2, maxLocals := 1, code := prog_144_method_9_code, exceptionTable := #[], attributes := #[] }
def k4m3 : Method := { name := "sum", desc := "()J", sig := { parameters := [], returnType := some .long }, accessFlags := 1, code := some k4c3 }
def k4c4 : Code := { maxStack := 2, maxLocals := 1, code := prog_144_method_10_code, exceptionTable := #[], attributes := #[] }
def k4m4 : Method := { name := "p99", desc := "()J", sig := { parameters := [], returnType := some .long }, accessFlags := 1, code := some k4c4 }
def k4c5 : Code := { maxStack := 2, maxLocals := 1, code := prog_144_method_11_code, exceptionTable := #[], attributes := #[] }
def k4m5 : Method := { name := "max", desc := "()J", sig := { parameters := [], returnType := some .long }, accessFlags := 1, code := some k4c5 }
/-- nachbar/sim/Summary -/
def k4 : Class := { plain "nachbar/sim/Summary" (some 3) with
  accessFlags := 49
  interfaces := #[]
  cf := some (fileOf pool4 8 #[] #[{ accessFlags := 1, nameIndex := 5, descriptorIndex := 54, attributes := #[] }, { accessFlags := 8, nameIndex := 59, descriptorIndex := 60, attributes := #[] }, { accessFlags := 1, nameIndex := 11, descriptorIndex := 64, attributes := #[] }, { accessFlags := 1, nameIndex := 15, descriptorIndex := 64, attributes := #[] }, { accessFlags := 1, nameIndex := 18, descriptorIndex := 64, attributes := #[] }, { accessFlags := 1, nameIndex := 21, descriptorIndex := 64, attributes := #[] }] 49 2 #[] #[{ accessFlags := 18, nameIndex := 11, descriptorIndex := 12, attributes := #[] }, { accessFlags := 18, nameIndex := 15, descriptorIndex := 12, attributes := #[] }, { accessFlags := 18, nameIndex := 18, descriptorIndex := 12, attributes := #[] }, { accessFlags := 18, nameIndex := 21, descriptorIndex := 12, attributes := #[] }])
  fields := #[{ name := "count", type := .long, accessFlags := 18, slot := 0, constantValue := 0 }, { name := "sum", type := .long, accessFlags := 18, slot := 1, constantValue := 0 }, { name := "p99", type := .long, accessFlags := 18, slot := 2, constantValue := 0 }, { name := "max", type := .long, accessFlags := 18, slot := 3, constantValue := 0 }]
  methods := #[k4m0, k4m1, k4m2, k4m3, k4m4, k4m5]
  instanceTypes := #[.long, .long, .long, .long]
  staticTypes := #[]
  resolved := Array.replicate 88 none
  statics := none }

def pool5 : Array CpInfo := pool [(1, .class_ 2), (0, u "java/lang/Math"), (1, .class_ 6), (1, u "java/lang/Object"), (0, u "<init>"), (0, u "()V"), (89, .class_ 100), (1, u "java/lang/Math$RandomNumberGeneratorHolder"), (71, u "negativeZeroFloatBits"), (0, u "J"), (2, u "negativeZeroDoubleBits"), (21, u "max"), (2, u "min"), (43, u "$assertionsDisabled"), (0, u "Z"), (88, u "(II)I"), (2, u "twoToTheDoubleScaleDown"), (0, u "D"), (4, u "twoToTheDoubleScaleUp"), (9, u "E"), (3, u "PI"), (2, u "TAU"), (2, u "DEGREES_TO_RADIANS"), (0, u "RADIANS_TO_DEGREES")] 94

def k5m0 : Method := { name := "<init>", desc := "()V", sig := { parameters := [], returnType := none }, accessFlags := 2, code := none }
def k5c1 : Code := { maxStack := 2, maxLocals := 2, code := jdk_29_method_65_code, exceptionTable := #[], attributes := #[] }
def k5m1 : Method := { name := "max", desc := "(II)I", sig := { parameters := [.int, .int], returnType := some .int }, accessFlags := 9, code := some k5c1 }
def k5c2 : Code := { maxStack := 2, maxLocals := 2, code := jdk_29_method_69_code, exceptionTable := #[], attributes := #[] }
def k5m2 : Method := { name := "min", desc := "(II)I", sig := { parameters := [.int, .int], returnType := some .int }, accessFlags := 9, code := some k5c2 }
/-- java/lang/Math -/
def k5 : Class := { plain "java/lang/Math" (some 0) with
  accessFlags := 49
  interfaces := #[]
  cf := some (fileOf pool5 1 #[.nestMembers #[98]] #[{ accessFlags := 2, nameIndex := 7, descriptorIndex := 8, attributes := #[] }, { accessFlags := 9, nameIndex := 198, descriptorIndex := 335, attributes := #[] }, { accessFlags := 9, nameIndex := 201, descriptorIndex := 335, attributes := #[] }] 49 4 #[] #[{ accessFlags := 25, nameIndex := 354, descriptorIndex := 339, attributes := #[] }, { accessFlags := 25, nameIndex := 358, descriptorIndex := 339, attributes := #[] }, { accessFlags := 25, nameIndex := 361, descriptorIndex := 339, attributes := #[] }, { accessFlags := 26, nameIndex := 364, descriptorIndex := 339, attributes := #[] }, { accessFlags := 26, nameIndex := 365, descriptorIndex := 339, attributes := #[] }, { accessFlags := 26, nameIndex := 172, descriptorIndex := 173, attributes := #[] }, { accessFlags := 26, nameIndex := 176, descriptorIndex := 173, attributes := #[] }, { accessFlags := 8, nameIndex := 344, descriptorIndex := 339, attributes := #[] }, { accessFlags := 8, nameIndex := 338, descriptorIndex := 339, attributes := #[] }, { accessFlags := 4120, nameIndex := 245, descriptorIndex := 246, attributes := #[] }])
  fields := #[{ name := "E", type := .double, accessFlags := 25, slot := 0, constantValue := 0 }, { name := "PI", type := .double, accessFlags := 25, slot := 1, constantValue := 0 }, { name := "TAU", type := .double, accessFlags := 25, slot := 2, constantValue := 0 }, { name := "DEGREES_TO_RADIANS", type := .double, accessFlags := 26, slot := 3, constantValue := 0 }, { name := "RADIANS_TO_DEGREES", type := .double, accessFlags := 26, slot := 4, constantValue := 0 }, { name := "negativeZeroFloatBits", type := .long, accessFlags := 26, slot := 5, constantValue := 0 }, { name := "negativeZeroDoubleBits", type := .long, accessFlags := 26, slot := 6, constantValue := 0 }, { name := "twoToTheDoubleScaleUp", type := .double, accessFlags := 8, slot := 7, constantValue := 0 }, { name := "twoToTheDoubleScaleDown", type := .double, accessFlags := 8, slot := 8, constantValue := 0 }, { name := "$assertionsDisabled", type := .boolean, accessFlags := 4120, slot := 9, constantValue := 0 }]
  methods := #[k5m0, k5m1, k5m2]
  instanceTypes := #[]
  staticTypes := #[.double, .double, .double, .double, .double, .long, .long, .double, .double, .boolean]
  resolved := Array.replicate 460 none
  statics := none }

def pool6 : Array CpInfo := pool [(2, .class_ 4), (1, u "java/lang/Object"), (0, u "<init>"), (0, u "()V"), (7, .class_ 16), (1, u "java/util/Arrays"), (57, .class_ 76), (1, u "java/util/Arrays$NaturalOrder"), (36, .class_ 115), (1, u "java/util/Arrays$LegacyMergeSort"), (1, u "Z"), (32, .methodref 151 152), (0, .class_ 153), (0, .nameAndType 154 155), (0, u "java/lang/System"), (0, u "arraycopy"), (0, u "(Ljava/lang/Object;ILjava/lang/Object;II)V"), (146, u "copyOf"), (1, .methodref 305 306), (0, .class_ 307), (0, .nameAndType 308 309), (0, u "java/lang/Math"), (0, u "min"), (0, u "(II)I"), (65, .class_ 376), (0, u "java/util/Arrays$ArrayList"), (68, u "$assertionsDisabled"), (269, u "MIN_ARRAY_SORT_GRAN"), (0, u "I"), (2, u "INSERTIONSORT_THRESHOLD"), (152, u "([JI)[J"), (102, .class_ 976), (0, u "java/util/Arrays$ArrayItr")] 52

def k6m0 : Method := { name := "<init>", desc := "()V", sig := { parameters := [], returnType := none }, accessFlags := 2, code := none }
def k6c1 : Code := { maxStack := 6, maxLocals := 3, code := jdk_65_method_124_code, exceptionTable := #[], attributes := #[] }
def k6m1 : Method := { name := "copyOf", desc := "([JI)[J", sig := { parameters := [(.array .long), .int], returnType := some (.array .long) }, accessFlags := 9, code := some k6c1 }
/-- java/util/Arrays -/
def k6 : Class := { plain "java/util/Arrays" (some 0) with
  accessFlags := 49
  interfaces := #[]
  cf := some (fileOf pool6 14 #[.nestMembers #[975, 375, 113, 74]] #[{ accessFlags := 2, nameIndex := 5, descriptorIndex := 6, attributes := #[] }, { accessFlags := 9, nameIndex := 302, descriptorIndex := 872, attributes := #[] }] 49 2 #[] #[{ accessFlags := 26, nameIndex := 715, descriptorIndex := 716, attributes := #[] }, { accessFlags := 26, nameIndex := 719, descriptorIndex := 716, attributes := #[] }, { accessFlags := 4120, nameIndex := 445, descriptorIndex := 117, attributes := #[] }])
  fields := #[{ name := "MIN_ARRAY_SORT_GRAN", type := .int, accessFlags := 26, slot := 0, constantValue := 0 }, { name := "INSERTIONSORT_THRESHOLD", type := .int, accessFlags := 26, slot := 1, constantValue := 0 }, { name := "$assertionsDisabled", type := .boolean, accessFlags := 4120, slot := 2, constantValue := 0 }]
  methods := #[k6m0, k6m1]
  instanceTypes := #[]
  staticTypes := #[.int, .int, .boolean]
  resolved := Array.replicate 1029 none
  statics := none }

def pool7 : Array CpInfo := pool [(2, .class_ 4), (1, u "java/lang/Object"), (0, u "<init>"), (0, u "()V"), (1, .class_ 10), (1, u "java/lang/System"), (0, u "allowSecurityManager"), (0, u "I"), (16, u "cons"), (0, u "Ljava/io/Console;"), (77, .class_ 110), (1, u "java/lang/System$CallersHolder"), (43, u "initialErrStream"), (0, u "Ljava/io/PrintStream;"), (19, u "security"), (0, u "Ljava/lang/SecurityManager;"), (31, .class_ 209), (0, u "java/lang/System$1"), (7, u "props"), (0, u "Ljava/util/Properties;"), (2, u "lineSeparator"), (0, u "Ljava/lang/String;"), (96, .class_ 321), (1, u "java/lang/System$LoggerFinder"), (5, .class_ 328), (0, u "java/lang/System$Logger"), (67, u "err"), (2, u "out"), (91, u "notSupportedJnuEncoding"), (15, u "in"), (17, u "initialIn"), (0, u "Ljava/io/InputStream;"), (35, u "bootLayer"), (0, u "Ljava/lang/ModuleLayer;"), (99, .class_ 664), (0, u "java/lang/System$2"), (9, u "NEVER"), (2, u "MAYBE"), (49, u "arraycopy"), (0, u "(Ljava/lang/Object;ILjava/lang/Object;II)V"), (72, .class_ 802), (0, u "java/lang/System$Logger$Level")] 31

def k7m0 : Method := { name := "<init>", desc := "()V", sig := { parameters := [], returnType := none }, accessFlags := 2, code := none }
def k7m1 : Method := { name := "arraycopy", desc := "(Ljava/lang/Object;ILjava/lang/Object;II)V", sig := { parameters := [(.object "java/lang/Object"), .int, (.object "java/lang/Object"), .int, .int], returnType := none }, accessFlags := 265, code := none }
/-- java/lang/System -/
def k7 : Class := { plain "java/lang/System" (some 0) with
  accessFlags := 49
  interfaces := #[]
  cf := some (fileOf pool7 8 #[.nestMembers #[319, 327, 801, 108, 663, 208]] #[{ accessFlags := 2, nameIndex := 5, descriptorIndex := 6, attributes := #[] }, { accessFlags := 265, nameIndex := 727, descriptorIndex := 728, attributes := #[] }] 49 2 #[] #[{ accessFlags := 25, nameIndex := 507, descriptorIndex := 526, attributes := #[] }, { accessFlags := 25, nameIndex := 399, descriptorIndex := 155, attributes := #[] }, { accessFlags := 25, nameIndex := 396, descriptorIndex := 155, attributes := #[] }, { accessFlags := 10, nameIndex := 525, descriptorIndex := 526, attributes := #[] }, { accessFlags := 26, nameIndex := 674, descriptorIndex := 12, attributes := #[] }, { accessFlags := 26, nameIndex := 677, descriptorIndex := 12, attributes := #[] }, { accessFlags := 10, nameIndex := 11, descriptorIndex := 12, attributes := #[] }, { accessFlags := 74, nameIndex := 175, descriptorIndex := 176, attributes := #[] }, { accessFlags := 10, nameIndex := 491, descriptorIndex := 222, attributes := #[] }, { accessFlags := 74, nameIndex := 29, descriptorIndex := 30, attributes := #[] }, { accessFlags := 74, nameIndex := 154, descriptorIndex := 155, attributes := #[] }, { accessFlags := 10, nameIndex := 217, descriptorIndex := 218, attributes := #[] }, { accessFlags := 10, nameIndex := 221, descriptorIndex := 222, attributes := #[] }, { accessFlags := 8, nameIndex := 562, descriptorIndex := 563, attributes := #[] }])
  fields := #[{ name := "in", type := (.object "java/io/InputStream"), accessFlags := 25, slot := 0, constantValue := 0 }, { name := "out", type := (.object "java/io/PrintStream"), accessFlags := 25, slot := 1, constantValue := 0 }, { name := "err", type := (.object "java/io/PrintStream"), accessFlags := 25, slot := 2, constantValue := 0 }, { name := "initialIn", type := (.object "java/io/InputStream"), accessFlags := 10, slot := 3, constantValue := 0 }, { name := "NEVER", type := .int, accessFlags := 26, slot := 4, constantValue := 0 }, { name := "MAYBE", type := .int, accessFlags := 26, slot := 5, constantValue := 0 }, { name := "allowSecurityManager", type := .int, accessFlags := 10, slot := 6, constantValue := 0 }, { name := "security", type := (.object "java/lang/SecurityManager"), accessFlags := 74, slot := 7, constantValue := 0 }, { name := "notSupportedJnuEncoding", type := (.object "java/lang/String"), accessFlags := 10, slot := 8, constantValue := 0 }, { name := "cons", type := (.object "java/io/Console"), accessFlags := 74, slot := 9, constantValue := 0 }, { name := "initialErrStream", type := (.object "java/io/PrintStream"), accessFlags := 74, slot := 10, constantValue := 0 }, { name := "props", type := (.object "java/util/Properties"), accessFlags := 10, slot := 11, constantValue := 0 }, { name := "lineSeparator", type := (.object "java/lang/String"), accessFlags := 10, slot := 12, constantValue := 0 }, { name := "bootLayer", type := (.object "java/lang/ModuleLayer"), accessFlags := 8, slot := 13, constantValue := 0 }]
  methods := #[k7m0, k7m1]
  instanceTypes := #[]
  staticTypes := #[(.object "java/io/InputStream"), (.object "java/io/PrintStream"), (.object "java/io/PrintStream"), (.object "java/io/InputStream"), .int, .int, .int, (.object "java/lang/SecurityManager"), (.object "java/lang/String"), (.object "java/io/Console"), (.object "java/io/PrintStream"), (.object "java/util/Properties"), (.object "java/lang/String"), (.object "java/lang/ModuleLayer")]
  resolved := Array.replicate 834 none
  statics := none }

def pool8 : Array CpInfo := pool [(1, u "java/lang/Cloneable"), (0, .class_ 1), (0, u "java/lang/Object"), (0, .class_ 3)] 3

/-- java/lang/Cloneable -/
def k8 : Class := { plain "java/lang/Cloneable" (some 0) with
  accessFlags := 1537
  interfaces := #[]
  cf := some (fileOf pool8 2 #[] #[] 1537 4 #[] #[])
  fields := #[]
  methods := #[]
  instanceTypes := #[]
  staticTypes := #[]
  resolved := Array.replicate 8 none
  statics := none }

def pool9 : Array CpInfo := pool [(1, u "java/io/Serializable"), (0, .class_ 1), (0, u "java/lang/Object"), (0, .class_ 3)] 3

/-- java/io/Serializable -/
def k9 : Class := { plain "java/io/Serializable" (some 0) with
  accessFlags := 1537
  interfaces := #[]
  cf := some (fileOf pool9 2 #[] #[] 1537 4 #[] #[])
  fields := #[]
  methods := #[]
  instanceTypes := #[]
  staticTypes := #[]
  resolved := Array.replicate 8 none
  statics := none }

/-- the primitive byte -/
def k10 : Class := { plain "byte" none with kind := .primitive 'B', accessFlags := 0x411 }
/-- [B -/
def k11 : Class := { plain "[B" (some 0) with kind := .array 10 .byte, interfaces := #[8, 9], accessFlags := 1041 }

/-- the primitive int -/
def k12 : Class := { plain "int" none with kind := .primitive 'I', accessFlags := 0x411 }
/-- [I -/
def k13 : Class := { plain "[I" (some 0) with kind := .array 12 .int, interfaces := #[8, 9], accessFlags := 1041 }

/-- the primitive long -/
def k14 : Class := { plain "long" none with kind := .primitive 'J', accessFlags := 0x411 }
/-- [J -/
def k15 : Class := { plain "[J" (some 0) with kind := .array 14 .long, interfaces := #[8, 9], accessFlags := 1041 }

def heap : Heap := #[]
def classes : Array Class := #[k0, k1, k2, k3, k4, k5, k6, k7, k8, k9, k10, k11, k12, k13, k14, k15]
def interned : List (Array UInt16 × Addr) := []
def slotsUsed : Nat := 0
def theMethod : MethodId := ⟨1, 1⟩
def args0 : Array Value := #[.int 5, .int 7, .int 5, .int 7, .int 3]
def aboutOver (below : List Frame) : State where
  vm := { classes := classes, interned := interned.toArray }
  heap := heap
  slotsUsed := slotsUsed
  threads := #[{ frames := .invoking theMethod args0 :: below }]
def below0 : List Frame := [.native { method := ⟨0, 0⟩, args := #[] }]
def about1 : State := aboutOver below0
def p0 : Program := .bare "" "" ""
def e0 : Env := launch0.env 0 0 0
theorem w_frames : about1.frames = Frame.invoking theMethod args0 :: below0 := rfl
set_option maxRecDepth 65536 in
theorem w_args : argsFit about1.vm theMethod args0 = true := by decide +kernel
set_option maxRecDepth 65536 in
theorem w_heap : heapFits about1 = true := by decide +kernel
set_option maxRecDepth 65536 in
theorem w_runnable : about1.curStatus? = some .runnable := by decide +kernel
set_option maxRecDepth 65536 in
theorem w_alone : about1.alone = true := by decide +kernel
set_option maxRecDepth 65536 in
theorem w_named : about1.methodNamed? x = some theMethod := by decide +kernel
set_option maxRecDepth 65536 in
theorem w_hears : about1.hears theMethod below0 = true := by decide +kernel
set_option maxRecDepth 65536 in
theorem w_ripe : about1.ripe theMethod args0 below0 = true := by decide +kernel
theorem w_running : about1.status = .running := rfl
set_option maxRecDepth 65536 in
theorem w_room : about1.hasRoom e0.platform room_1 = true :=
  launch0.hasRoom_least _ room_1 (by decide +kernel) (by decide +kernel) (by decide +kernel) (by decide +kernel) (by decide +kernel) (by decide +kernel)
theorem allAtoms_all (ts : List Jvm.Cond) (a : Array Jvm.Value) (st : Jvm.State) : (allAtoms ts).before a st = ts.all (fun c => c.before a st) := by
  induction ts with
  | nil => rfl
  | cons c t ih =>
    show (Jvm.Cond.and c (allAtoms t)).before a st = _
    rw [Jvm.Cond.before_and, ih, List.all_cons]
def words1 : List Jvm.Cond := Jvm.Cond.code x code maxLocals ret :: tables_1
/-- a 'code' word, met by the world's own term for the bytes: nothing is compared byte by byte -/
theorem code_word {y : MethodName} {bytes : ByteArray} {mx : Nat} {rt : Option FieldType} {a : Array Value} {s : State} {m : MethodId} {meth : Method} {c : Code} (h1 : s.methodNamed? y = some m) (h2 : s.vm.method? m = some meth) (h3 : meth.code = some c) (h4 : c.code = bytes)
    (h5 : (c.maxLocals == mx && c.exceptionTable.isEmpty && decide (c.maxStack ≤ mostOperands) && decide (meth.sig.returnType = rt) && !meth.locks && decide (parseMethodDescriptor y.desc = some meth.sig)) = true) : (Jvm.Cond.code y bytes mx rt).before a s = true := by
  simp only [Bool.and_eq_true, beq_iff_eq, Bool.not_eq_true', decide_eq_true_eq] at h5
  obtain ⟨⟨⟨⟨⟨g1, g2⟩, g3⟩, g4⟩, g5⟩, g6⟩ := h5
  simp [Cond.before, Cond.holds, Cond.value, h1, h2, h3, h4, g1, g2, g3, g4, g5, g6]
def isCode : Jvm.Cond → Bool
  | .code _ _ _ _ => true
  | _ => false
theorem all_split {L : List Jvm.Cond} {P : Jvm.Cond → Bool} (h1 : L.all (fun c => isCode c || P c) = true) (h2 : ∀ c ∈ L.filter isCode, P c = true) : L.all P = true := by
  refine List.all_eq_true.mpr fun c hc => ?_
  have h := List.all_eq_true.mp h1 c hc
  rcases Bool.eq_false_or_eq_true (isCode c) with hi | hi
  · exact h2 c (List.mem_filter.mpr ⟨hc, hi⟩)
  · simpa [hi] using h
set_option maxRecDepth 65536 in
theorem w_c0 : (Jvm.Cond.code x code maxLocals ret).before args0 about1 = true := code_word (m := ⟨1, 1⟩) (meth := k1m1) (c := k1c1) (by decide +kernel) rfl rfl rfl (by decide +kernel)
set_option maxRecDepth 65536 in
theorem w_c1 : (Jvm.Cond.code ({ cls := "nachbar/sim/Tally", name := "<init>", desc := "()V" } : Jvm.MethodName) prog_146_method_1_code (1 : Nat) (Option.none : Option Jvm.ClassFile.FieldType)).before args0 about1 = true := code_word (m := ⟨2, 0⟩) (meth := k2m0) (c := k2c0) (by decide +kernel) rfl rfl rfl (by decide +kernel)
set_option maxRecDepth 65536 in
theorem w_c2 : (Jvm.Cond.code ({ cls := "java/lang/Object", name := "<init>", desc := "()V" } : Jvm.MethodName) object_method_1_code (1 : Nat) (Option.none : Option Jvm.ClassFile.FieldType)).before args0 about1 = true := code_word (m := ⟨0, 0⟩) (meth := k0m0) (c := k0c0) (by decide +kernel) rfl rfl rfl (by decide +kernel)
set_option maxRecDepth 65536 in
theorem w_c3 : (Jvm.Cond.code ({ cls := "nachbar/sim/Tally", name := "summary", desc := "()Lnachbar/sim/Summary;" } : Jvm.MethodName) prog_146_method_3_code (6 : Nat) (Option.some (Jvm.ClassFile.FieldType.object "nachbar/sim/Summary"))).before args0 about1 = true := code_word (m := ⟨2, 2⟩) (meth := k2m2) (c := k2c2) (by decide +kernel) rfl rfl rfl (by decide +kernel)
set_option maxRecDepth 65536 in
theorem w_c4 : (Jvm.Cond.code ({ cls := "nachbar/sim/Summary", name := "p99Rank", desc := "(J)J" } : Jvm.MethodName) prog_144_method_4_code (2 : Nat) (Option.some Jvm.ClassFile.FieldType.long)).before args0 about1 = true := code_word (m := ⟨4, 1⟩) (meth := k4m1) (c := k4c1) (by decide +kernel) rfl rfl rfl (by decide +kernel)
set_option maxRecDepth 65536 in
theorem w_c5 : (Jvm.Cond.code ({ cls := "nachbar/sim/Summary", name := "<init>", desc := "(JJJJ)V" } : Jvm.MethodName) prog_144_method_1_code (9 : Nat) (Option.none : Option Jvm.ClassFile.FieldType)).before args0 about1 = true := code_word (m := ⟨4, 0⟩) (meth := k4m0) (c := k4c0) (by decide +kernel) rfl rfl rfl (by decide +kernel)
set_option maxRecDepth 65536 in
theorem w_c6 : (Jvm.Cond.code ({ cls := "java/lang/Record", name := "<init>", desc := "()V" } : Jvm.MethodName) jdk_30_method_1_code (1 : Nat) (Option.none : Option Jvm.ClassFile.FieldType)).before args0 about1 = true := code_word (m := ⟨3, 0⟩) (meth := k3m0) (c := k3c0) (by decide +kernel) rfl rfl rfl (by decide +kernel)
set_option maxRecDepth 65536 in
theorem w_c7 : (Jvm.Cond.code ({ cls := "nachbar/sim/Summary", name := "count", desc := "()J" } : Jvm.MethodName) prog_144_method_8_code (1 : Nat) (Option.some Jvm.ClassFile.FieldType.long)).before args0 about1 = true := code_word (m := ⟨4, 2⟩) (meth := k4m2) (c := k4c2) (by decide +kernel) rfl rfl rfl (by decide +kernel)
set_option maxRecDepth 65536 in
theorem w_c8 : (Jvm.Cond.code ({ cls := "nachbar/sim/Summary", name := "sum", desc := "()J" } : Jvm.MethodName) prog_144_method_9_code (1 : Nat) (Option.some Jvm.ClassFile.FieldType.long)).before args0 about1 = true := code_word (m := ⟨4, 3⟩) (meth := k4m3) (c := k4c3) (by decide +kernel) rfl rfl rfl (by decide +kernel)
set_option maxRecDepth 65536 in
theorem w_c9 : (Jvm.Cond.code ({ cls := "nachbar/sim/Summary", name := "max", desc := "()J" } : Jvm.MethodName) prog_144_method_11_code (1 : Nat) (Option.some Jvm.ClassFile.FieldType.long)).before args0 about1 = true := code_word (m := ⟨4, 5⟩) (meth := k4m5) (c := k4c5) (by decide +kernel) rfl rfl rfl (by decide +kernel)
set_option maxRecDepth 65536 in
theorem w_c10 : (Jvm.Cond.code ({ cls := "nachbar/sim/Summary", name := "p99", desc := "()J" } : Jvm.MethodName) prog_144_method_10_code (1 : Nat) (Option.some Jvm.ClassFile.FieldType.long)).before args0 about1 = true := code_word (m := ⟨4, 4⟩) (meth := k4m4) (c := k4c4) (by decide +kernel) rfl rfl rfl (by decide +kernel)
set_option maxRecDepth 65536 in
theorem w_c11 : (Jvm.Cond.code ({ cls := "nachbar/sim/Tally", name := "add", desc := "(I)V" } : Jvm.MethodName) prog_146_method_2_code (2 : Nat) (Option.none : Option Jvm.ClassFile.FieldType)).before args0 about1 = true := code_word (m := ⟨2, 1⟩) (meth := k2m1) (c := k2c1) (by decide +kernel) rfl rfl rfl (by decide +kernel)
set_option maxRecDepth 65536 in
theorem w_c12 : (Jvm.Cond.code ({ cls := "java/lang/Math", name := "max", desc := "(II)I" } : Jvm.MethodName) jdk_29_method_65_code (2 : Nat) (Option.some Jvm.ClassFile.FieldType.int)).before args0 about1 = true := code_word (m := ⟨5, 1⟩) (meth := k5m1) (c := k5c1) (by decide +kernel) rfl rfl rfl (by decide +kernel)
set_option maxRecDepth 65536 in
theorem w_c13 : (Jvm.Cond.code ({ cls := "java/util/Arrays", name := "copyOf", desc := "([JI)[J" } : Jvm.MethodName) jdk_65_method_124_code (3 : Nat) (Option.some (Jvm.ClassFile.FieldType.array Jvm.ClassFile.FieldType.long))).before args0 about1 = true := code_word (m := ⟨6, 1⟩) (meth := k6m1) (c := k6c1) (by decide +kernel) rfl rfl rfl (by decide +kernel)
set_option maxRecDepth 65536 in
theorem w_c14 : (Jvm.Cond.code ({ cls := "java/lang/Math", name := "min", desc := "(II)I" } : Jvm.MethodName) jdk_29_method_69_code (2 : Nat) (Option.some Jvm.ClassFile.FieldType.int)).before args0 about1 = true := code_word (m := ⟨5, 2⟩) (meth := k5m2) (c := k5c2) (by decide +kernel) rfl rfl rfl (by decide +kernel)
def codes1 : List Jvm.Cond := [Jvm.Cond.code x code maxLocals ret, Jvm.Cond.code ({ cls := "nachbar/sim/Tally", name := "<init>", desc := "()V" } : Jvm.MethodName) prog_146_method_1_code (1 : Nat) (Option.none : Option Jvm.ClassFile.FieldType), Jvm.Cond.code ({ cls := "java/lang/Object", name := "<init>", desc := "()V" } : Jvm.MethodName) object_method_1_code (1 : Nat) (Option.none : Option Jvm.ClassFile.FieldType), Jvm.Cond.code ({ cls := "nachbar/sim/Tally", name := "summary", desc := "()Lnachbar/sim/Summary;" } : Jvm.MethodName) prog_146_method_3_code (6 : Nat) (Option.some (Jvm.ClassFile.FieldType.object "nachbar/sim/Summary")), Jvm.Cond.code ({ cls := "nachbar/sim/Summary", name := "p99Rank", desc := "(J)J" } : Jvm.MethodName) prog_144_method_4_code (2 : Nat) (Option.some Jvm.ClassFile.FieldType.long), Jvm.Cond.code ({ cls := "nachbar/sim/Summary", name := "<init>", desc := "(JJJJ)V" } : Jvm.MethodName) prog_144_method_1_code (9 : Nat) (Option.none : Option Jvm.ClassFile.FieldType), Jvm.Cond.code ({ cls := "java/lang/Record", name := "<init>", desc := "()V" } : Jvm.MethodName) jdk_30_method_1_code (1 : Nat) (Option.none : Option Jvm.ClassFile.FieldType), Jvm.Cond.code ({ cls := "nachbar/sim/Summary", name := "count", desc := "()J" } : Jvm.MethodName) prog_144_method_8_code (1 : Nat) (Option.some Jvm.ClassFile.FieldType.long), Jvm.Cond.code ({ cls := "nachbar/sim/Summary", name := "sum", desc := "()J" } : Jvm.MethodName) prog_144_method_9_code (1 : Nat) (Option.some Jvm.ClassFile.FieldType.long), Jvm.Cond.code ({ cls := "nachbar/sim/Summary", name := "max", desc := "()J" } : Jvm.MethodName) prog_144_method_11_code (1 : Nat) (Option.some Jvm.ClassFile.FieldType.long), Jvm.Cond.code ({ cls := "nachbar/sim/Summary", name := "p99", desc := "()J" } : Jvm.MethodName) prog_144_method_10_code (1 : Nat) (Option.some Jvm.ClassFile.FieldType.long), Jvm.Cond.code ({ cls := "nachbar/sim/Tally", name := "add", desc := "(I)V" } : Jvm.MethodName) prog_146_method_2_code (2 : Nat) (Option.none : Option Jvm.ClassFile.FieldType), Jvm.Cond.code ({ cls := "java/lang/Math", name := "max", desc := "(II)I" } : Jvm.MethodName) jdk_29_method_65_code (2 : Nat) (Option.some Jvm.ClassFile.FieldType.int), Jvm.Cond.code ({ cls := "java/util/Arrays", name := "copyOf", desc := "([JI)[J" } : Jvm.MethodName) jdk_65_method_124_code (3 : Nat) (Option.some (Jvm.ClassFile.FieldType.array Jvm.ClassFile.FieldType.long)), Jvm.Cond.code ({ cls := "java/lang/Math", name := "min", desc := "(II)I" } : Jvm.MethodName) jdk_29_method_69_code (2 : Nat) (Option.some Jvm.ClassFile.FieldType.int)]
set_option maxRecDepth 65536 in
theorem codes_eq : words1.filter isCode = codes1 := rfl
theorem w_codes : ∀ c ∈ words1.filter isCode, c.before args0 about1 = true := by
  rw [codes_eq]
  intro c hc
  simp only [codes1, List.mem_cons, List.not_mem_nil, or_false] at hc
  rcases hc with rfl | rfl | rfl | rfl | rfl | rfl | rfl | rfl | rfl | rfl | rfl | rfl | rfl | rfl | rfl
  · exact w_c0
  · exact w_c1
  · exact w_c2
  · exact w_c3
  · exact w_c4
  · exact w_c5
  · exact w_c6
  · exact w_c7
  · exact w_c8
  · exact w_c9
  · exact w_c10
  · exact w_c11
  · exact w_c12
  · exact w_c13
  · exact w_c14
set_option maxRecDepth 65536 in
theorem w_t1 : (words1.take 24).all (fun c => isCode c || c.before args0 about1) = true := by decide +kernel
set_option maxRecDepth 65536 in
theorem w_t2 : ((words1.drop 24).take 24).all (fun c => isCode c || c.before args0 about1) = true := by decide +kernel
set_option maxRecDepth 65536 in
theorem w_t3 : (((words1.drop 24).drop 24).take 24).all (fun c => isCode c || c.before args0 about1) = true := by decide +kernel
set_option maxRecDepth 65536 in
theorem w_t4 : (((words1.drop 24).drop 24).drop 24).all (fun c => isCode c || c.before args0 about1) = true := by decide +kernel
theorem w_tables : (allAtoms (Jvm.Cond.code x code maxLocals ret :: tables_1)).before args0 about1 = true := by
  rw [allAtoms_all]
  show words1.all (fun c => c.before args0 about1) = true
  refine all_split ?_ w_codes
  rw [← List.take_append_drop 24 words1, List.all_append, w_t1, ← List.take_append_drop 24 (words1.drop 24), List.all_append, w_t2, ← List.take_append_drop 24 ((words1.drop 24).drop 24), List.all_append, w_t3, w_t4]
  rfl
set_option maxRecDepth 65536 in
theorem w_case : (Jvm.Cond.and given_1 narrow_1).before args0 about1 = true := by decide +kernel
theorem w_applies : (headSpec (Jvm.Cond.code x code maxLocals ret :: tables_1) room_1).applies x e0.platform about1 = true :=
  (Spec.applies_iff w_frames).mpr ⟨w_running, w_runnable, w_alone, w_named, w_hears, w_ripe, w_room, w_tables⟩
theorem atStart : AtStart classFile x code maxLocals ret World_1 tables_1 room_1 Calls_1 rest_1 Pre_1 launch0 p0 e0 about1 theMethod args0 below0 :=
  ⟨lists_1, trivial, launch0.admits_env _ _ _, launch0.least_env, fairChoices_fair.cas, fairChoices_fair.clock, w_frames, w_args, w_heap, w_applies, trivial, trivial, w_case⟩
end start1
theorem witness_1 : WitnessClaimed_1 := ⟨start1.p0, start1.e0, start1.about1, start1.theMethod, start1.args0, start1.below0, start1.atStart⟩
end Jvm.Pilot.@@N@@
