import JvmDerived
import JvmDerived.Pilot.@@N@@Statement
import JvmDerived.Pilot.@@N@@Code
set_option linter.unusedVariables false
set_option linter.unusedSimpArgs false
namespace Jvm.RoadKit
open Sem ClassFile Op Lib Jvm.Stand Jvm.Free Jvm.LawKit
section New
variable {p : Program} {l : Launch} {e : Env} {R : Room} {s : State} {m : MethodId} {args : Array Value} {below : List Frame} {meth : Method} {c : Code} {T : State} {locs : List Loc} {cells slots : Nat}
theorem retI (X : Stand p l e R s m args below meth c T locs cells slots) (hx : p.tables.exec = Jvm.exec) {pc : Nat} {Ls : Array Slot} {z : Int32} {rest : List Value} (hret : meth.sig.returnType = some .int) (hd : decode c.code pc = .ok (.ireturn, 1)) {fs : List Frame}
    (hl : ∀ (f : JFrame) (acts : List Action), f.method = m → f.locked = none → f.entered = [] → (doReturn e (T.setTop f) acts (some (.int z))).1 = T.setFrames fs) : Steps p.tables e below (T.setTop (mkF m pc Ls (.int z :: rest))) (T.setFrames fs) := by
  have hm' : T.vm.method? m = some meth := X.method'
  have hn : narrow .int (.int z) = .int z := rfl
  show Steps p.tables e below (T.setTop { method := m, pc := pc, locals := Ls, stack := _ :: rest, locked := none }) _
  jvm_step X.here [X.here.top, hx, hd, hm', hret, hn]
  first | (intro acts; rw [hl _ acts rfl rfl rfl]) | rw [hl _ _ rfl rfl rfl]
  exact Steps.refl _
theorem retJ (X : Stand p l e R s m args below meth c T locs cells slots) (hx : p.tables.exec = Jvm.exec) {pc : Nat} {Ls : Array Slot} {z : Int64} {rest : List Value} (hret : meth.sig.returnType = some .long) (hd : decode c.code pc = .ok (.lreturn, 1)) {fs : List Frame}
    (hl : ∀ (f : JFrame) (acts : List Action), f.method = m → f.locked = none → f.entered = [] → (doReturn e (T.setTop f) acts (some (.long z))).1 = T.setFrames fs) : Steps p.tables e below (T.setTop (mkF m pc Ls (.long z :: rest))) (T.setFrames fs) := by
  have hm' : T.vm.method? m = some meth := X.method'
  have hn : narrow .long (.long z) = .long z := rfl
  show Steps p.tables e below (T.setTop { method := m, pc := pc, locals := Ls, stack := _ :: rest, locked := none }) _
  jvm_step X.here [X.here.top, hx, hd, hm', hret, hn]
  first | (intro acts; rw [hl _ acts rfl rfl rfl]) | rw [hl _ _ rfl rfl rfl]
  exact Steps.refl _
end New
end Jvm.RoadKit
namespace Jvm.Pilot.@@N@@
open Jvm Jvm.ClassFile Sem Op Lib Jvm.Free Jvm.Stand Jvm.LawKit Jvm.RoadKit Bundle Jvm.Pilot.@@N@@.Jvm.D
def ArF (Z : State) (h : Heap) (a : Addr) (ty : FieldType) (n : Nat) (f : Nat → Value) : Prop := ∃ c : Cell, Arr Z h a c ty ∧ c.slots.size = n ∧ ∀ i, i < n → c.slots[i]? = some (f i)
theorem ArF.lt {Z : State} {h : Heap} {a : Addr} {ty : FieldType} {n : Nat} {f : Nat → Value} (F : ArF Z h a ty n f) : a < h.size := by obtain ⟨c, A, -⟩ := F; exact A.lt
theorem ArF.ext {Z : State} {h h' : Heap} {a : Addr} {ty : FieldType} {n : Nat} {f : Nat → Value} (F : ArF Z h a ty n f) (E : Ext h h') : ArF Z h' a ty n f := by obtain ⟨c, A, r⟩ := F; exact ⟨c, A.ext E, r⟩
theorem ArF.other {Z : State} {h h' : Heap} {a b : Addr} {ty : FieldType} {n sl : Nat} {f : Nat → Value} {v : Value} (F : ArF Z h b ty n f) (W : Wr h h' a sl v) (q : b ≠ a) : ArF Z h' b ty n f := by obtain ⟨c, A, r⟩ := F; exact ⟨c, A.other W q, r⟩
theorem ArF.keep {Z : State} {h h' : Heap} {a : Addr} {ty : FieldType} {n : Nat} {f : Nat → Value} {ws : List Addr} (F : ArF Z h a ty n f) (K : Keep h h' ws) (q : a ∉ ws) : ArF Z h' a ty n f := by obtain ⟨c, A, r⟩ := F; exact ⟨c, ⟨K.2.1 a c A.1 q, A.2⟩, r⟩
theorem ArF.mk0 {Z : State} {h : Heap} {a : Addr} {ty : FieldType} {k : ClassId} {z : Int32} {n : Nat} {v : Value} (A : Arr Z h a (newA k ty z) ty) (hn : z.toNatClampNeg = n) (hv : defaultValue ty = v) : ArF Z h a ty n (fun _ => v) := by
  subst hn hv
  refine ⟨_, A, sz_new _ _ _, fun i hi => ?_⟩
  show (Array.replicate _ _)[i]? = _
  rw [Array.getElem?_replicate, if_pos hi]
theorem ArF.set {Z : State} {h h' : Heap} {a : Addr} {ty : FieldType} {n : Nat} {f : Nat → Value} {c : Cell} {j : Int32} {v : Value} (A : Arr Z h a c ty) (S : c.slots.size = n) (H : ∀ i, i < n → c.slots[i]? = some (f i)) (W : Wr h h' a j.toNatClampNeg v) (hj : ¬ (j < 0 ∨ c.slots.size ≤ j.toNatClampNeg)) : ArF Z h' a ty n (fun i => if i = j.toNatClampNeg then v else f i) := by
  refine ⟨_, A.same W, by rw [sz_set]; exact S, fun i hi => ?_⟩
  have hjl : j.toNatClampNeg < c.slots.size := Nat.lt_of_not_le fun y => hj (Or.inr y)
  show (c.slots.setIfInBounds j.toNatClampNeg v)[i]? = some (if i = j.toNatClampNeg then v else f i)
  rw [Array.getElem?_setIfInBounds]
  by_cases e : j.toNatClampNeg = i
  · rw [if_pos e, if_pos hjl, if_pos e.symm]
  · rw [if_neg e, if_neg (Ne.symm e)]; exact H i hi
theorem ArF.at {n : Nat} {f : Nat → Value} {c : Cell} {j : Int32} {v : Value} (S : c.slots.size = n) (H : ∀ i, i < n → c.slots[i]? = some (f i)) (hj : ¬ (j < 0 ∨ c.slots.size ≤ j.toNatClampNeg)) (e : f j.toNatClampNeg = v) : c.slots[j.toNatClampNeg]? = some v := by
  rw [← e]; exact H _ (S ▸ Nat.lt_of_not_le fun y => hj (Or.inr y))
theorem inA {n : Nat} {c : Cell} {j : Int32} (S : c.slots.size = n) (h0 : ¬ j < 0) (h1 : j.toNatClampNeg < n) : ¬ (j < 0 ∨ c.slots.size ≤ j.toNatClampNeg) := fun q => q.elim h0 fun r => Nat.not_lt.mpr (S ▸ r) h1
theorem ArF.congr {Z : State} {h : Heap} {a : Addr} {ty : FieldType} {n : Nat} {f g : Nat → Value} (F : ArF Z h a ty n f) (q : ∀ i, i < n → f i = g i) : ArF Z h a ty n g := by obtain ⟨c, A, S, H⟩ := F; exact ⟨c, A, S, fun i hi => (H i hi).trans (congrArg some (q i hi))⟩
theorem Sta.keep0 {Z : State} {h h' : Heap} {C n d : String} {v : Value} (F : Sta Z h C n d v) (K : Keep h h' []) : Sta Z h' C n d v := by obtain ⟨cf, i, k, f, st, cell, h1, h2, h3, h4, h5, r⟩ := F; exact ⟨cf, i, k, f, st, cell, h1, h2, h3, h4, K.2.1 _ _ h5 nin0, r⟩
def own_w (c : Int32) : Int32 := ((c.toUInt32 >>> ((6 : Int32) &&& 31).toUInt32).toInt32)
def own_j (c : Int32) : Nat := (own_w c).toNatClampNeg
def own_m (c : Int32) : Int64 := (1 : Int64) <<< (c &&& 0x3f).toInt64
def own_op (fl : Int32) (x y : Int64) : Int64 := if fl = (0 : Int32) then x ||| y else x ^^^ y
def own_st (fl c : Int32) (g : Nat → Int64) (i : Nat) : Int64 := if i = own_j c then own_op fl (g (own_j c)) (own_m c) else g i
def own_wr (fl n : Int32) (f : Nat → Int32) (g : Nat → Int64) : Nat → Int64 := if n = 0 then g else if n = 1 then own_st fl (f 0) g else if n = 2 then own_st fl (f 1) (own_st fl (f 0) g) else own_st fl (f 2) (own_st fl (f 1) (own_st fl (f 0) g))
theorem own_wr0 {fl n : Int32} {f : Nat → Int32} {g : Nat → Int64} (h : n = 0) : own_wr fl n f g = g := by subst h; rfl
theorem own_wr1 {fl n : Int32} {f : Nat → Int32} {g : Nat → Int64} (h : n = 1) : own_wr fl n f g = own_st fl (f 0) g := by subst h; rfl
theorem own_wr2 {fl n : Int32} {f : Nat → Int32} {g : Nat → Int64} (h : n = 2) : own_wr fl n f g = own_st fl (f 1) (own_st fl (f 0) g) := by subst h; rfl
theorem own_wr3 {fl n : Int32} {f : Nat → Int32} {g : Nat → Int64} (h : n = 3) : own_wr fl n f g = own_st fl (f 2) (own_st fl (f 1) (own_st fl (f 0) g)) := by subst h; rfl
theorem own_stV (fl c : Int32) (g : Nat → Int64) (i : Nat) (x : Int64) (hx : x = own_op fl (g (own_j c)) (own_m c)) : (if i = own_j c then Value.long x else Value.long (g i)) = Value.long (own_st fl c g i) := by
  unfold own_st; subst hx; split <;> rfl
def own_B (c : Int32) : Prop := 0 ≤ c.toInt ∧ c.toInt < 65536
theorem own_wx {c : Int32} (h : own_B c) : ¬ own_w c < 0 ∧ (own_w c).toNatClampNeg < 1024 := by
  have hu := c_iushr c 6 6 (by decide) (by decide)
  rw [show ((2 ^ 6 : Nat) : Int) = 64 from by decide, Int.emod_eq_of_lt h.1 (by have := h.2; omega)] at hu
  have h1 := h.1
  have h2 := h.2
  change (own_w c).toInt = _ at hu
  have a2 : ¬ own_w c < 0 := by rw [Int32.lt_iff_toInt_lt, show (0 : Int32).toInt = 0 from by decide]; omega
  have n2 := nat_of a2
  exact ⟨a2, by omega⟩
theorem pd_0 : parseMethodDescriptor "(CIZ)J" = some ⟨[.char, .int, .boolean], some .long⟩ := by decide +kernel
theorem pd_1 : parseMethodDescriptor "([CI[JZ)V" = some ⟨[(.array .char), .int, (.array .long), .boolean], none⟩ := by decide +kernel
theorem pd_2 : parseMethodDescriptor "(JICCCIZ)J" = some ⟨[.long, .int, .char, .char, .char, .int, .boolean], some .long⟩ := by decide +kernel
def own_bit (p1 : Int32) (p2 : Int32) (p3 : Int32) : Int64 := if p3 = (0 : Int32) then (0 : Int64) else if ((p1.toUInt32 >>> ((6 : Int32) &&& 31).toUInt32).toInt32) = p2 then ((1 : Int64) <<< ((p1 &&& (63 : Int32)) &&& 0x3f).toInt64) else (0 : Int64)
theorem d3_0 : decode method_3_code 0 = .ok (.iload_n 2, 1) := by decide +kernel
theorem d3_1 : decode method_3_code 1 = .ok (.ifCond .eq 20, 3) := by decide +kernel
theorem d3_4 : decode method_3_code 4 = .ok (.iload_n 0, 1) := by decide +kernel
theorem d3_5 : decode method_3_code 5 = .ok (.bipush 6, 2) := by decide +kernel
theorem d3_7 : decode method_3_code 7 = .ok (.iushr, 1) := by decide +kernel
theorem d3_8 : decode method_3_code 8 = .ok (.iload_n 1, 1) := by decide +kernel
theorem d3_9 : decode method_3_code 9 = .ok (.if_icmp .ne 12, 3) := by decide +kernel
theorem d3_12 : decode method_3_code 12 = .ok (.lconst 1, 1) := by decide +kernel
theorem d3_13 : decode method_3_code 13 = .ok (.iload_n 0, 1) := by decide +kernel
theorem d3_14 : decode method_3_code 14 = .ok (.bipush 63, 2) := by decide +kernel
theorem d3_16 : decode method_3_code 16 = .ok (.iand, 1) := by decide +kernel
theorem d3_17 : decode method_3_code 17 = .ok (.lshl, 1) := by decide +kernel
theorem d3_18 : decode method_3_code 18 = .ok (.goto 4, 3) := by decide +kernel
theorem d3_21 : decode method_3_code 21 = .ok (.lconst 0, 1) := by decide +kernel
theorem d3_22 : decode method_3_code 22 = .ok (.lreturn, 1) := by decide +kernel
theorem pn_rm3 : plainName "com/example/bitstrata/bitstrata/ArrayChunkWriteEachPinLaw" = true := by first | (simp [plainName, overriddenIn]; done) | decide +kernel
theorem ef_rm3 (m : MethodId) (x0 : Int32) (x1 : Int32) (x2 : Int32) : entryFrame m #[(.int x0), (.int x1), (.int x2)] 3 = mkF m 0 #[.val (.int x0), .val (.int x1), .val (.int x2)] [] := by first | (simp [entryFrame, mkF, argsToLocals, Value.category]; done) | rfl
def Q_rm3 (Z : State) (p1 : Int32) (p2 : Int32) (p3 : Int32) (h0 : Heap) (n0 : Nat) (v : Option Value) (h : Heap) (L : List Loc) : Prop := v = some (.long (own_bit p1 p2 p3)) ∧ Fr n0 L ∧ h = h0
set_option maxRecDepth 65536 in
set_option maxHeartbeats 40000000 in
theorem rm3 (l : Launch) (Z : State) (a0 : Array Value) (hw : ∀ d ∈ tables_1, d.before a0 Z = true) (ws : List Jvm.Cond) (p1 : Int32) (p2 : Int32) (p3 : Int32) (h0 : Heap) (n0 : Nat) (Z0 : n0 ≤ h0.size) :
    MetFree l (⟨"com/example/bitstrata/bitstrata/ArrayChunkWriteEachPinLaw", "bit", "(CIZ)J"⟩ : MethodName) (head1 (Jvm.Cond.code (⟨"com/example/bitstrata/bitstrata/ArrayChunkWriteEachPinLaw", "bit", "(CIZ)J"⟩ : MethodName) method_3_code 3 (some .long) :: ws) ({ frames := 0, cells := 0, slots := 0, locals := 0 } : Room)) (fun a U => a = #[(.int p1), (.int p2), (.int p3)] ∧ Z.Warmed39 U.vm ∧ U.heap = h0) (fun _ _ _ _ _ => True) (fun _ U o U' => ∃ v L, o = .returned v ∧ Q_rm3 Z p1 p2 p3 h0 n0 v U'.heap L ∧ FrameEnd U o U' L ({ frames := 0, cells := 0, slots := 0, locals := 0 } : Room).cells ({ frames := 0, cells := 0, slots := 0, locals := 0 } : Room).slots) := by
  refine MetFree.of_bodySF (plainFor_of_name pn_rm3) hisR ?_
  intro p e s m args below meth c s₁ Bd hml0 hP hK
  obtain ⟨rfl, hZ, hh⟩ := hP
  have hx := Bd.exec
  have hby := Bd.bytes
  have hml : c.maxLocals = 3 := hml0
  have hown : s.vm.findClass "com/example/bitstrata/bitstrata/ArrayChunkWriteEachPinLaw" = some m.cls := findClass_of_methodNamed Bd.named
  have hnm := (name_of_methodNamed Bd.named Bd.method).1
  have X0 : Stand p l e ({ frames := 0, cells := 0, slots := 0, locals := 0 } : Room) s m #[(.int p1), (.int p2), (.int p3)] below meth c s₁ [] 0 0 := Stand.of_body Bd
  have e0 : s₁.heap = h0 := by rw [← hh, Bd.state]; rfl
  have N0 := Fr.nil n0
  have pre0 : ∀ t, Steps p.tables e below (s₁.setTop (mkF m 0 #[.val (.int p1), .val (.int p2), .val (.int p3)] [])) t → Steps p.tables e below (s₁.setTop (entryFrame m #[(.int p1), (.int p2), (.int p3)] 3)) t := fun t k => castTop (ef_rm3 m p1 p2 p3) k
  have pre1 : ∀ t, Steps p.tables e below (s₁.setTop (mkF m 1 #[.val (.int p1), .val (.int p2), .val (.int p3)] [(.int p3)])) t → Steps p.tables e below (s₁.setTop (entryFrame m #[(.int p1), (.int p2), (.int p3)] 3)) t := by
    intro t k
    refine pre0 t ?_
    show Steps p.tables e below (s₁.setTop (mkF m 0 #[.val (.int p1), .val (.int p2), .val (.int p3)] [])) _
    refine XS.iloadN X0.here hx rfl (hb hby d3_0) rfl ?_
    exact k
  by_cases hc1_2 : p3 = (0 : Int32)
  · obtain ⟨fs, hr, hrun, hended, hW, hsame⟩ := X0.leave (v := some (.long (0 : Int64))) (fun h => by rw [Bd.returns] at h; cases h)
    refine ⟨_, _, pre1 _ ?_, hrun, hended, _, _, rfl, ?_, ⟨_, rfl⟩, hW, hsame.mono (by decide) (by decide)⟩
    · show Steps p.tables e below (s₁.setTop (mkF m 1 #[.val (.int p1), .val (.int p2), .val (.int p3)] [(.int p3)])) _
      refine XS.ifYes X0.here hx rfl (pc0 := 1) (pc' := 21) rfl (hb hby d3_1) rfl ((if0 _ _).trans (teq hc1_2).1) (by decide) (by decide) ?_
      show Steps p.tables e below (s₁.setTop (mkF m 21 #[.val (.int p1), .val (.int p2), .val (.int p3)] [])) _
      refine XS.lconst X0.here hx rfl (hb hby d3_21) ?_
      show Steps p.tables e below (s₁.setTop (mkF m 22 #[.val (.int p1), .val (.int p2), .val (.int p3)] [(.long (0 : Int64))])) _
      exact retJ X0 hx Bd.returns (hb hby d3_22) hr
    · show Q_rm3 Z p1 p2 p3 h0 n0 _ s₁.heap _
      rw [e0]
      exact ⟨by rw [own_bit, if_pos hc1_2], N0, rfl⟩
  · have pre3 : ∀ t, Steps p.tables e below (s₁.setTop (mkF m 9 #[.val (.int p1), .val (.int p2), .val (.int p3)] [(.int p2), (.int ((p1.toUInt32 >>> ((6 : Int32) &&& 31).toUInt32).toInt32))])) t → Steps p.tables e below (s₁.setTop (entryFrame m #[(.int p1), (.int p2), (.int p3)] 3)) t := by
      intro t k
      refine pre1 t ?_
      show Steps p.tables e below (s₁.setTop (mkF m 1 #[.val (.int p1), .val (.int p2), .val (.int p3)] [(.int p3)])) _
      refine XS.ifNo X0.here hx rfl (hb hby d3_1) rfl ((if0 _ _).trans (feq hc1_2).1) ?_
      show Steps p.tables e below (s₁.setTop (mkF m 4 #[.val (.int p1), .val (.int p2), .val (.int p3)] [])) _
      refine XS.iloadN X0.here hx rfl (hb hby d3_4) rfl ?_
      show Steps p.tables e below (s₁.setTop (mkF m 5 #[.val (.int p1), .val (.int p2), .val (.int p3)] [(.int p1)])) _
      refine XS.bipush X0.here hx rfl (hb hby d3_5) ?_
      show Steps p.tables e below (s₁.setTop (mkF m 7 #[.val (.int p1), .val (.int p2), .val (.int p3)] [(.int (6 : Int32)), (.int p1)])) _
      refine XS.iushr X0.here hx rfl (hb hby d3_7) rfl ?_
      show Steps p.tables e below (s₁.setTop (mkF m 8 #[.val (.int p1), .val (.int p2), .val (.int p3)] [(.int ((p1.toUInt32 >>> ((6 : Int32) &&& 31).toUInt32).toInt32))])) _
      refine XS.iloadN X0.here hx rfl (hb hby d3_8) rfl ?_
      exact k
    by_cases hc9_4 : ((p1.toUInt32 >>> ((6 : Int32) &&& 31).toUInt32).toInt32) = p2
    · obtain ⟨fs, hr, hrun, hended, hW, hsame⟩ := X0.leave (v := some (.long ((1 : Int64) <<< ((p1 &&& (63 : Int32)) &&& 0x3f).toInt64))) (fun h => by rw [Bd.returns] at h; cases h)
      refine ⟨_, _, pre3 _ ?_, hrun, hended, _, _, rfl, ?_, ⟨_, rfl⟩, hW, hsame.mono (by decide) (by decide)⟩
      · show Steps p.tables e below (s₁.setTop (mkF m 9 #[.val (.int p1), .val (.int p2), .val (.int p3)] [(.int p2), (.int ((p1.toUInt32 >>> ((6 : Int32) &&& 31).toUInt32).toInt32))])) _
        refine XS.icmpNo X0.here hx rfl (hb hby d3_9) rfl (teq hc9_4).2 ?_
        show Steps p.tables e below (s₁.setTop (mkF m 12 #[.val (.int p1), .val (.int p2), .val (.int p3)] [])) _
        refine XS.lconst X0.here hx rfl (hb hby d3_12) ?_
        show Steps p.tables e below (s₁.setTop (mkF m 13 #[.val (.int p1), .val (.int p2), .val (.int p3)] [(.long (1 : Int64))])) _
        refine XS.iloadN X0.here hx rfl (hb hby d3_13) rfl ?_
        show Steps p.tables e below (s₁.setTop (mkF m 14 #[.val (.int p1), .val (.int p2), .val (.int p3)] [(.int p1), (.long (1 : Int64))])) _
        refine XS.bipush X0.here hx rfl (hb hby d3_14) ?_
        show Steps p.tables e below (s₁.setTop (mkF m 16 #[.val (.int p1), .val (.int p2), .val (.int p3)] [(.int (63 : Int32)), (.int p1), (.long (1 : Int64))])) _
        refine XS.iand X0.here hx rfl (hb hby d3_16) rfl ?_
        show Steps p.tables e below (s₁.setTop (mkF m 17 #[.val (.int p1), .val (.int p2), .val (.int p3)] [(.int (p1 &&& (63 : Int32))), (.long (1 : Int64))])) _
        refine XS.lshl X0.here hx rfl (hb hby d3_17) rfl ?_
        show Steps p.tables e below (s₁.setTop (mkF m 18 #[.val (.int p1), .val (.int p2), .val (.int p3)] [(.long ((1 : Int64) <<< ((p1 &&& (63 : Int32)) &&& 0x3f).toInt64))])) _
        refine XS.goto X0.here hx rfl (pc0 := 18) (pc' := 22) rfl (hb hby d3_18) (by decide) (by decide) ?_
        show Steps p.tables e below (s₁.setTop (mkF m 22 #[.val (.int p1), .val (.int p2), .val (.int p3)] [(.long ((1 : Int64) <<< ((p1 &&& (63 : Int32)) &&& 0x3f).toInt64))])) _
        exact retJ X0 hx Bd.returns (hb hby d3_22) hr
      · show Q_rm3 Z p1 p2 p3 h0 n0 _ s₁.heap _
        rw [e0]
        exact ⟨by rw [own_bit, if_neg hc1_2, if_pos hc9_4], N0, rfl⟩
    · obtain ⟨fs, hr, hrun, hended, hW, hsame⟩ := X0.leave (v := some (.long (0 : Int64))) (fun h => by rw [Bd.returns] at h; cases h)
      refine ⟨_, _, pre3 _ ?_, hrun, hended, _, _, rfl, ?_, ⟨_, rfl⟩, hW, hsame.mono (by decide) (by decide)⟩
      · show Steps p.tables e below (s₁.setTop (mkF m 9 #[.val (.int p1), .val (.int p2), .val (.int p3)] [(.int p2), (.int ((p1.toUInt32 >>> ((6 : Int32) &&& 31).toUInt32).toInt32))])) _
        refine XS.icmpYes X0.here hx rfl (pc0 := 9) (pc' := 21) rfl (hb hby d3_9) rfl (feq hc9_4).2 (by decide) (by decide) ?_
        show Steps p.tables e below (s₁.setTop (mkF m 21 #[.val (.int p1), .val (.int p2), .val (.int p3)] [])) _
        refine XS.lconst X0.here hx rfl (hb hby d3_21) ?_
        show Steps p.tables e below (s₁.setTop (mkF m 22 #[.val (.int p1), .val (.int p2), .val (.int p3)] [(.long (0 : Int64))])) _
        exact retJ X0 hx Bd.returns (hb hby d3_22) hr
      · show Q_rm3 Z p1 p2 p3 h0 n0 _ s₁.heap _
        rw [e0]
        exact ⟨by rw [own_bit, if_neg hc1_2, if_neg hc9_4], N0, rfl⟩
def own_g1 (p6 : Int32) : Int32 := if p6 < (1 : Int32) then (0 : Int32) else (1 : Int32)
def own_g2 (p6 : Int32) : Int32 := if p6 < (2 : Int32) then (0 : Int32) else (1 : Int32)
def own_g3 (p6 : Int32) : Int32 := if p6 < (3 : Int32) then (0 : Int32) else (1 : Int32)
def own_exp (q1 : Int64) (p2 : Int32) (p3 : Int32) (p4 : Int32) (p5 : Int32) (p6 : Int32) (p7 : Int32) : Int64 := if p7 = (0 : Int32) then (((q1 ||| (own_bit p3 p2 (own_g1 p6))) ||| (own_bit p4 p2 (own_g2 p6))) ||| (own_bit p5 p2 (own_g3 p6))) else (((q1 ^^^ (own_bit p3 p2 (own_g1 p6))) ^^^ (own_bit p4 p2 (own_g2 p6))) ^^^ (own_bit p5 p2 (own_g3 p6)))
theorem d2_0 : decode method_4_code 0 = .ok (.iload_n 3, 1) := by decide +kernel
theorem d2_1 : decode method_4_code 1 = .ok (.iload_n 2, 1) := by decide +kernel
theorem d2_2 : decode method_4_code 2 = .ok (.iload 6, 2) := by decide +kernel
theorem d2_4 : decode method_4_code 4 = .ok (.iconst 1, 1) := by decide +kernel
theorem d2_5 : decode method_4_code 5 = .ok (.if_icmp .lt 7, 3) := by decide +kernel
theorem d2_8 : decode method_4_code 8 = .ok (.iconst 1, 1) := by decide +kernel
theorem d2_9 : decode method_4_code 9 = .ok (.goto 4, 3) := by decide +kernel
theorem d2_12 : decode method_4_code 12 = .ok (.iconst 0, 1) := by decide +kernel
theorem d2_13 : decode method_4_code 13 = .ok (.invokestatic 22, 3) := by decide +kernel
theorem d2_16 : decode method_4_code 16 = .ok (.lstore 8, 2) := by decide +kernel
theorem d2_18 : decode method_4_code 18 = .ok (.iload 4, 2) := by decide +kernel
theorem d2_20 : decode method_4_code 20 = .ok (.iload_n 2, 1) := by decide +kernel
theorem d2_21 : decode method_4_code 21 = .ok (.iload 6, 2) := by decide +kernel
theorem d2_23 : decode method_4_code 23 = .ok (.iconst 2, 1) := by decide +kernel
theorem d2_24 : decode method_4_code 24 = .ok (.if_icmp .lt 7, 3) := by decide +kernel
theorem d2_27 : decode method_4_code 27 = .ok (.iconst 1, 1) := by decide +kernel
theorem d2_28 : decode method_4_code 28 = .ok (.goto 4, 3) := by decide +kernel
theorem d2_31 : decode method_4_code 31 = .ok (.iconst 0, 1) := by decide +kernel
theorem d2_32 : decode method_4_code 32 = .ok (.invokestatic 22, 3) := by decide +kernel
theorem d2_35 : decode method_4_code 35 = .ok (.lstore 10, 2) := by decide +kernel
theorem d2_37 : decode method_4_code 37 = .ok (.iload 5, 2) := by decide +kernel
theorem d2_39 : decode method_4_code 39 = .ok (.iload_n 2, 1) := by decide +kernel
theorem d2_40 : decode method_4_code 40 = .ok (.iload 6, 2) := by decide +kernel
theorem d2_42 : decode method_4_code 42 = .ok (.iconst 3, 1) := by decide +kernel
theorem d2_43 : decode method_4_code 43 = .ok (.if_icmp .lt 7, 3) := by decide +kernel
theorem d2_46 : decode method_4_code 46 = .ok (.iconst 1, 1) := by decide +kernel
theorem d2_47 : decode method_4_code 47 = .ok (.goto 4, 3) := by decide +kernel
theorem d2_50 : decode method_4_code 50 = .ok (.iconst 0, 1) := by decide +kernel
theorem d2_51 : decode method_4_code 51 = .ok (.invokestatic 22, 3) := by decide +kernel
theorem d2_54 : decode method_4_code 54 = .ok (.lstore 12, 2) := by decide +kernel
theorem d2_56 : decode method_4_code 56 = .ok (.iload 7, 2) := by decide +kernel
theorem d2_58 : decode method_4_code 58 = .ok (.ifCond .eq 16, 3) := by decide +kernel
theorem d2_61 : decode method_4_code 61 = .ok (.lload_n 0, 1) := by decide +kernel
theorem d2_62 : decode method_4_code 62 = .ok (.lload 8, 2) := by decide +kernel
theorem d2_64 : decode method_4_code 64 = .ok (.lxor, 1) := by decide +kernel
theorem d2_65 : decode method_4_code 65 = .ok (.lload 10, 2) := by decide +kernel
theorem d2_67 : decode method_4_code 67 = .ok (.lxor, 1) := by decide +kernel
theorem d2_68 : decode method_4_code 68 = .ok (.lload 12, 2) := by decide +kernel
theorem d2_70 : decode method_4_code 70 = .ok (.lxor, 1) := by decide +kernel
theorem d2_71 : decode method_4_code 71 = .ok (.goto 13, 3) := by decide +kernel
theorem d2_74 : decode method_4_code 74 = .ok (.lload_n 0, 1) := by decide +kernel
theorem d2_75 : decode method_4_code 75 = .ok (.lload 8, 2) := by decide +kernel
theorem d2_77 : decode method_4_code 77 = .ok (.lor, 1) := by decide +kernel
theorem d2_78 : decode method_4_code 78 = .ok (.lload 10, 2) := by decide +kernel
theorem d2_80 : decode method_4_code 80 = .ok (.lor, 1) := by decide +kernel
theorem d2_81 : decode method_4_code 81 = .ok (.lload 12, 2) := by decide +kernel
theorem d2_83 : decode method_4_code 83 = .ok (.lor, 1) := by decide +kernel
theorem d2_84 : decode method_4_code 84 = .ok (.lreturn, 1) := by decide +kernel
theorem pn_rm2 : plainName "com/example/bitstrata/bitstrata/ArrayChunkWriteEachPinLaw" = true := by first | (simp [plainName, overriddenIn]; done) | decide +kernel
theorem ef_rm2 (m : MethodId) (x0 : Int64) (x1 : Int32) (x2 : Int32) (x3 : Int32) (x4 : Int32) (x5 : Int32) (x6 : Int32) : entryFrame m #[(.long x0), (.int x1), (.int x2), (.int x3), (.int x4), (.int x5), (.int x6)] 14 = mkF m 0 #[.val (.long x0), .second, .val (.int x1), .val (.int x2), .val (.int x3), .val (.int x4), .val (.int x5), .val (.int x6), .unset, .unset, .unset, .unset, .unset, .unset] [] := by first | (simp [entryFrame, mkF, argsToLocals, Value.category]; done) | rfl
def Q_rm2 (Z : State) (q1 : Int64) (p2 : Int32) (p3 : Int32) (p4 : Int32) (p5 : Int32) (p6 : Int32) (p7 : Int32) (h0 : Heap) (n0 : Nat) (v : Option Value) (h : Heap) (L : List Loc) : Prop := v = some (.long (own_exp q1 p2 p3 p4 p5 p6 p7)) ∧ Fr n0 L ∧ h = h0
set_option maxRecDepth 65536 in
set_option maxHeartbeats 40000000 in
theorem rm2 (l : Launch) (Z : State) (a0 : Array Value) (hw : ∀ d ∈ tables_1, d.before a0 Z = true) (ws : List Jvm.Cond) (q1 : Int64) (p2 : Int32) (p3 : Int32) (p4 : Int32) (p5 : Int32) (p6 : Int32) (p7 : Int32) (h0 : Heap) (n0 : Nat) (Z0 : n0 ≤ h0.size) :
    MetFree l (⟨"com/example/bitstrata/bitstrata/ArrayChunkWriteEachPinLaw", "expected", "(JICCCIZ)J"⟩ : MethodName) (head1 (Jvm.Cond.code (⟨"com/example/bitstrata/bitstrata/ArrayChunkWriteEachPinLaw", "expected", "(JICCCIZ)J"⟩ : MethodName) method_4_code 14 (some .long) :: ws) ({ frames := 1, cells := 0, slots := 0, locals := 14 } : Room)) (fun a U => a = #[(.long q1), (.int p2), (.int p3), (.int p4), (.int p5), (.int p6), (.int p7)] ∧ Z.Warmed39 U.vm ∧ U.heap = h0) (fun _ _ _ _ _ => True) (fun _ U o U' => ∃ v L, o = .returned v ∧ Q_rm2 Z q1 p2 p3 p4 p5 p6 p7 h0 n0 v U'.heap L ∧ FrameEnd U o U' L ({ frames := 1, cells := 0, slots := 0, locals := 14 } : Room).cells ({ frames := 1, cells := 0, slots := 0, locals := 14 } : Room).slots) := by
  refine MetFree.of_bodySF (plainFor_of_name pn_rm2) hisR ?_
  intro p e s m args below meth c s₁ Bd hml0 hP hK
  obtain ⟨rfl, hZ, hh⟩ := hP
  have hx := Bd.exec
  have hby := Bd.bytes
  have hml : c.maxLocals = 14 := hml0
  have hown : s.vm.findClass "com/example/bitstrata/bitstrata/ArrayChunkWriteEachPinLaw" = some m.cls := findClass_of_methodNamed Bd.named
  have hnm := (name_of_methodNamed Bd.named Bd.method).1
  have X0 : Stand p l e ({ frames := 1, cells := 0, slots := 0, locals := 14 } : Room) s m #[(.long q1), (.int p2), (.int p3), (.int p4), (.int p5), (.int p6), (.int p7)] below meth c s₁ [] 0 0 := Stand.of_body Bd
  have e0 : s₁.heap = h0 := by rw [← hh, Bd.state]; rfl
  have N0 := Fr.nil n0
  have pre0 : ∀ t, Steps p.tables e below (s₁.setTop (mkF m 0 #[.val (.long q1), .second, .val (.int p2), .val (.int p3), .val (.int p4), .val (.int p5), .val (.int p6), .val (.int p7), .unset, .unset, .unset, .unset, .unset, .unset] [])) t → Steps p.tables e below (s₁.setTop (entryFrame m #[(.long q1), (.int p2), (.int p3), (.int p4), (.int p5), (.int p6), (.int p7)] 14)) t := fun t k => castTop (ef_rm2 m q1 p2 p3 p4 p5 p6 p7) k
  have pre1 : ∀ t, Steps p.tables e below (s₁.setTop (mkF m 5 #[.val (.long q1), .second, .val (.int p2), .val (.int p3), .val (.int p4), .val (.int p5), .val (.int p6), .val (.int p7), .unset, .unset, .unset, .unset, .unset, .unset] [(.int (1 : Int32)), (.int p6), (.int p2), (.int p3)])) t → Steps p.tables e below (s₁.setTop (entryFrame m #[(.long q1), (.int p2), (.int p3), (.int p4), (.int p5), (.int p6), (.int p7)] 14)) t := by
    intro t k
    refine pre0 t ?_
    show Steps p.tables e below (s₁.setTop (mkF m 0 #[.val (.long q1), .second, .val (.int p2), .val (.int p3), .val (.int p4), .val (.int p5), .val (.int p6), .val (.int p7), .unset, .unset, .unset, .unset, .unset, .unset] [])) _
    refine XS.iloadN X0.here hx rfl (hb hby d2_0) rfl ?_
    show Steps p.tables e below (s₁.setTop (mkF m 1 #[.val (.long q1), .second, .val (.int p2), .val (.int p3), .val (.int p4), .val (.int p5), .val (.int p6), .val (.int p7), .unset, .unset, .unset, .unset, .unset, .unset] [(.int p3)])) _
    refine XS.iloadN X0.here hx rfl (hb hby d2_1) rfl ?_
    show Steps p.tables e below (s₁.setTop (mkF m 2 #[.val (.long q1), .second, .val (.int p2), .val (.int p3), .val (.int p4), .val (.int p5), .val (.int p6), .val (.int p7), .unset, .unset, .unset, .unset, .unset, .unset] [(.int p2), (.int p3)])) _
    refine XS.iload X0.here hx rfl (hb hby d2_2) rfl ?_
    show Steps p.tables e below (s₁.setTop (mkF m 4 #[.val (.long q1), .second, .val (.int p2), .val (.int p3), .val (.int p4), .val (.int p5), .val (.int p6), .val (.int p7), .unset, .unset, .unset, .unset, .unset, .unset] [(.int p6), (.int p2), (.int p3)])) _
    refine XS.iconst X0.here hx rfl (hb hby d2_4) ?_
    exact k
  have pre2 : ∀ t, Steps p.tables e below (s₁.setTop (mkF m 13 #[.val (.long q1), .second, .val (.int p2), .val (.int p3), .val (.int p4), .val (.int p5), .val (.int p6), .val (.int p7), .unset, .unset, .unset, .unset, .unset, .unset] [(.int (own_g1 p6)), (.int p2), (.int p3)])) t → Steps p.tables e below (s₁.setTop (entryFrame m #[(.long q1), (.int p2), (.int p3), (.int p4), (.int p5), (.int p6), (.int p7)] 14)) t := by
    intro t k
    by_cases hd2 : p6 < (1 : Int32)
    · rw [show (own_g1 p6) = (0 : Int32) from if_pos hd2] at k
      refine pre1 t ?_
      show Steps p.tables e below (s₁.setTop (mkF m 5 #[.val (.long q1), .second, .val (.int p2), .val (.int p3), .val (.int p4), .val (.int p5), .val (.int p6), .val (.int p7), .unset, .unset, .unset, .unset, .unset, .unset] [(.int (1 : Int32)), (.int p6), (.int p2), (.int p3)])) _
      refine XS.icmpYes X0.here hx rfl (pc0 := 5) (pc' := 12) rfl (hb hby d2_5) rfl (tlt (hd2 : (p6 < (1 : Int32)))).1 (by decide) (by decide) ?_
      show Steps p.tables e below (s₁.setTop (mkF m 12 #[.val (.long q1), .second, .val (.int p2), .val (.int p3), .val (.int p4), .val (.int p5), .val (.int p6), .val (.int p7), .unset, .unset, .unset, .unset, .unset, .unset] [(.int p2), (.int p3)])) _
      refine XS.iconst X0.here hx rfl (hb hby d2_12) ?_
      exact k
    · rw [show (own_g1 p6) = (1 : Int32) from if_neg hd2] at k
      refine pre1 t ?_
      show Steps p.tables e below (s₁.setTop (mkF m 5 #[.val (.long q1), .second, .val (.int p2), .val (.int p3), .val (.int p4), .val (.int p5), .val (.int p6), .val (.int p7), .unset, .unset, .unset, .unset, .unset, .unset] [(.int (1 : Int32)), (.int p6), (.int p2), (.int p3)])) _
      refine XS.icmpNo X0.here hx rfl (hb hby d2_5) rfl (flt (hd2 : ¬ (p6 < (1 : Int32)))).1 ?_
      show Steps p.tables e below (s₁.setTop (mkF m 8 #[.val (.long q1), .second, .val (.int p2), .val (.int p3), .val (.int p4), .val (.int p5), .val (.int p6), .val (.int p7), .unset, .unset, .unset, .unset, .unset, .unset] [(.int p2), (.int p3)])) _
      refine XS.iconst X0.here hx rfl (hb hby d2_8) ?_
      show Steps p.tables e below (s₁.setTop (mkF m 9 #[.val (.long q1), .second, .val (.int p2), .val (.int p3), .val (.int p4), .val (.int p5), .val (.int p6), .val (.int p7), .unset, .unset, .unset, .unset, .unset, .unset] [(.int (1 : Int32)), (.int p2), (.int p3)])) _
      refine XS.goto X0.here hx rfl (pc0 := 9) (pc' := 13) rfl (hb hby d2_9) (by decide) (by decide) ?_
      exact k
  obtain ⟨_, _, ⟨T3, L3, k3, n3⟩, -, X3, ⟨Lc3, hQ3, l3, y3, z3⟩, st3⟩ := Jvm.LawKit.callS X0 hx (y := (⟨"com/example/bitstrata/bitstrata/ArrayChunkWriteEachPinLaw", "bit", "(CIZ)J"⟩ : MethodName)) hown (mvT hZ (hw _ (List.mem_of_getElem? (i := 11) rfl))) (mvT hZ (hw _ (List.mem_of_getElem? (i := 12) rfl))) (mvT hZ (hw _ (List.mem_of_getElem? (i := 9) rfl))) (mvT hZ (hw _ (List.mem_of_getElem? (i := 13) rfl))) (by decide) (backOf (W := 0) (rm3 l Z a0 hw [] p3 p2 (own_g1 p6) h0 n0 Z0) hZ (hw _ (List.mem_of_getElem? (i := 13) rfl)) (hw _ (List.mem_of_getElem? (i := 9) rfl)) (by decide) (by decide)) (g := (mkF m 13 #[.val (.long q1), .second, .val (.int p2), .val (.int p3), .val (.int p4), .val (.int p5), .val (.int p6), .val (.int p7), .unset, .unset, .unset, .unset, .unset, .unset] [(.int (own_g1 p6)), (.int p2), (.int p3)])) rfl (by rw [hml]; rfl) (argsL := [(.int p3), (.int p2), (.int (own_g1 p6))]) (rest := []) (lenOf pd_0 rfl) rfl (by show 2 * 0 + _ ≤ _; exact Nat.le_of_eq rfl) (hb hby d2_13) (fun _ _ => ⟨rfl, e0, (by decide : 0 + 0 ≤ _), (by decide : 0 + 0 ≤ _)⟩)
  dsimp only [Pt.U, Pt.locs, Pt.cells, Pt.slots] at X3 l3 y3 z3 st3 hQ3
  subst l3 y3 z3
  obtain ⟨rfl, N3q, e3⟩ := hQ3
  have N3 := Fr.app N0 N3q
  have pre4 : ∀ t, Steps p.tables e below (T3.setTop (mkF m 24 #[.val (.long q1), .second, .val (.int p2), .val (.int p3), .val (.int p4), .val (.int p5), .val (.int p6), .val (.int p7), .val (.long (own_bit p3 p2 (own_g1 p6))), .second, .unset, .unset, .unset, .unset] [(.int (2 : Int32)), (.int p6), (.int p2), (.int p4)])) t → Steps p.tables e below (s₁.setTop (entryFrame m #[(.long q1), (.int p2), (.int p3), (.int p4), (.int p5), (.int p6), (.int p7)] 14)) t := by
    intro t k
    refine pre2 t ?_
    show Steps p.tables e below (s₁.setTop (mkF m 13 #[.val (.long q1), .second, .val (.int p2), .val (.int p3), .val (.int p4), .val (.int p5), .val (.int p6), .val (.int p7), .unset, .unset, .unset, .unset, .unset, .unset] [(.int (own_g1 p6)), (.int p2), (.int p3)])) _
    refine st3 _ ?_
    show Steps p.tables e below (T3.setTop (mkF m 16 #[.val (.long q1), .second, .val (.int p2), .val (.int p3), .val (.int p4), .val (.int p5), .val (.int p6), .val (.int p7), .unset, .unset, .unset, .unset, .unset, .unset] [(.long (own_bit p3 p2 (own_g1 p6)))])) _
    refine XS.lstore X3.here hx rfl (hb hby d2_16) rfl (l' := #[.val (.long q1), .second, .val (.int p2), .val (.int p3), .val (.int p4), .val (.int p5), .val (.int p6), .val (.int p7), .val (.long (own_bit p3 p2 (own_g1 p6))), .second, .unset, .unset, .unset, .unset]) rfl ?_
    show Steps p.tables e below (T3.setTop (mkF m 18 #[.val (.long q1), .second, .val (.int p2), .val (.int p3), .val (.int p4), .val (.int p5), .val (.int p6), .val (.int p7), .val (.long (own_bit p3 p2 (own_g1 p6))), .second, .unset, .unset, .unset, .unset] [])) _
    refine XS.iload X3.here hx rfl (hb hby d2_18) rfl ?_
    show Steps p.tables e below (T3.setTop (mkF m 20 #[.val (.long q1), .second, .val (.int p2), .val (.int p3), .val (.int p4), .val (.int p5), .val (.int p6), .val (.int p7), .val (.long (own_bit p3 p2 (own_g1 p6))), .second, .unset, .unset, .unset, .unset] [(.int p4)])) _
    refine XS.iloadN X3.here hx rfl (hb hby d2_20) rfl ?_
    show Steps p.tables e below (T3.setTop (mkF m 21 #[.val (.long q1), .second, .val (.int p2), .val (.int p3), .val (.int p4), .val (.int p5), .val (.int p6), .val (.int p7), .val (.long (own_bit p3 p2 (own_g1 p6))), .second, .unset, .unset, .unset, .unset] [(.int p2), (.int p4)])) _
    refine XS.iload X3.here hx rfl (hb hby d2_21) rfl ?_
    show Steps p.tables e below (T3.setTop (mkF m 23 #[.val (.long q1), .second, .val (.int p2), .val (.int p3), .val (.int p4), .val (.int p5), .val (.int p6), .val (.int p7), .val (.long (own_bit p3 p2 (own_g1 p6))), .second, .unset, .unset, .unset, .unset] [(.int p6), (.int p2), (.int p4)])) _
    refine XS.iconst X3.here hx rfl (hb hby d2_23) ?_
    exact k
  have pre5 : ∀ t, Steps p.tables e below (T3.setTop (mkF m 32 #[.val (.long q1), .second, .val (.int p2), .val (.int p3), .val (.int p4), .val (.int p5), .val (.int p6), .val (.int p7), .val (.long (own_bit p3 p2 (own_g1 p6))), .second, .unset, .unset, .unset, .unset] [(.int (own_g2 p6)), (.int p2), (.int p4)])) t → Steps p.tables e below (s₁.setTop (entryFrame m #[(.long q1), (.int p2), (.int p3), (.int p4), (.int p5), (.int p6), (.int p7)] 14)) t := by
    intro t k
    by_cases hd5 : p6 < (2 : Int32)
    · rw [show (own_g2 p6) = (0 : Int32) from if_pos hd5] at k
      refine pre4 t ?_
      show Steps p.tables e below (T3.setTop (mkF m 24 #[.val (.long q1), .second, .val (.int p2), .val (.int p3), .val (.int p4), .val (.int p5), .val (.int p6), .val (.int p7), .val (.long (own_bit p3 p2 (own_g1 p6))), .second, .unset, .unset, .unset, .unset] [(.int (2 : Int32)), (.int p6), (.int p2), (.int p4)])) _
      refine XS.icmpYes X3.here hx rfl (pc0 := 24) (pc' := 31) rfl (hb hby d2_24) rfl (tlt (hd5 : (p6 < (2 : Int32)))).1 (by decide) (by decide) ?_
      show Steps p.tables e below (T3.setTop (mkF m 31 #[.val (.long q1), .second, .val (.int p2), .val (.int p3), .val (.int p4), .val (.int p5), .val (.int p6), .val (.int p7), .val (.long (own_bit p3 p2 (own_g1 p6))), .second, .unset, .unset, .unset, .unset] [(.int p2), (.int p4)])) _
      refine XS.iconst X3.here hx rfl (hb hby d2_31) ?_
      exact k
    · rw [show (own_g2 p6) = (1 : Int32) from if_neg hd5] at k
      refine pre4 t ?_
      show Steps p.tables e below (T3.setTop (mkF m 24 #[.val (.long q1), .second, .val (.int p2), .val (.int p3), .val (.int p4), .val (.int p5), .val (.int p6), .val (.int p7), .val (.long (own_bit p3 p2 (own_g1 p6))), .second, .unset, .unset, .unset, .unset] [(.int (2 : Int32)), (.int p6), (.int p2), (.int p4)])) _
      refine XS.icmpNo X3.here hx rfl (hb hby d2_24) rfl (flt (hd5 : ¬ (p6 < (2 : Int32)))).1 ?_
      show Steps p.tables e below (T3.setTop (mkF m 27 #[.val (.long q1), .second, .val (.int p2), .val (.int p3), .val (.int p4), .val (.int p5), .val (.int p6), .val (.int p7), .val (.long (own_bit p3 p2 (own_g1 p6))), .second, .unset, .unset, .unset, .unset] [(.int p2), (.int p4)])) _
      refine XS.iconst X3.here hx rfl (hb hby d2_27) ?_
      show Steps p.tables e below (T3.setTop (mkF m 28 #[.val (.long q1), .second, .val (.int p2), .val (.int p3), .val (.int p4), .val (.int p5), .val (.int p6), .val (.int p7), .val (.long (own_bit p3 p2 (own_g1 p6))), .second, .unset, .unset, .unset, .unset] [(.int (1 : Int32)), (.int p2), (.int p4)])) _
      refine XS.goto X3.here hx rfl (pc0 := 28) (pc' := 32) rfl (hb hby d2_28) (by decide) (by decide) ?_
      exact k
  obtain ⟨_, _, ⟨T6, L6, k6, n6⟩, -, X6, ⟨Lc6, hQ6, l6, y6, z6⟩, st6⟩ := Jvm.LawKit.callS X3 hx (y := (⟨"com/example/bitstrata/bitstrata/ArrayChunkWriteEachPinLaw", "bit", "(CIZ)J"⟩ : MethodName)) hown (mvT hZ (hw _ (List.mem_of_getElem? (i := 11) rfl))) (mvT hZ (hw _ (List.mem_of_getElem? (i := 12) rfl))) (mvT hZ (hw _ (List.mem_of_getElem? (i := 9) rfl))) (mvT hZ (hw _ (List.mem_of_getElem? (i := 13) rfl))) (by decide) (backOf (W := 0) (rm3 l Z a0 hw [] p4 p2 (own_g2 p6) h0 n0 Z0) hZ (hw _ (List.mem_of_getElem? (i := 13) rfl)) (hw _ (List.mem_of_getElem? (i := 9) rfl)) (by decide) (by decide)) (g := (mkF m 32 #[.val (.long q1), .second, .val (.int p2), .val (.int p3), .val (.int p4), .val (.int p5), .val (.int p6), .val (.int p7), .val (.long (own_bit p3 p2 (own_g1 p6))), .second, .unset, .unset, .unset, .unset] [(.int (own_g2 p6)), (.int p2), (.int p4)])) rfl (by rw [hml]; rfl) (argsL := [(.int p4), (.int p2), (.int (own_g2 p6))]) (rest := []) (lenOf pd_0 rfl) rfl (by show 2 * 0 + _ ≤ _; exact Nat.le_of_eq rfl) (hb hby d2_32) (fun _ _ => ⟨rfl, e3, (by decide : 0 + 0 ≤ _), (by decide : 0 + 0 ≤ _)⟩)
  dsimp only [Pt.U, Pt.locs, Pt.cells, Pt.slots] at X6 l6 y6 z6 st6 hQ6
  subst l6 y6 z6
  obtain ⟨rfl, N6q, e6⟩ := hQ6
  have N6 := Fr.app N3 N6q
  have pre7 : ∀ t, Steps p.tables e below (T6.setTop (mkF m 43 #[.val (.long q1), .second, .val (.int p2), .val (.int p3), .val (.int p4), .val (.int p5), .val (.int p6), .val (.int p7), .val (.long (own_bit p3 p2 (own_g1 p6))), .second, .val (.long (own_bit p4 p2 (own_g2 p6))), .second, .unset, .unset] [(.int (3 : Int32)), (.int p6), (.int p2), (.int p5)])) t → Steps p.tables e below (s₁.setTop (entryFrame m #[(.long q1), (.int p2), (.int p3), (.int p4), (.int p5), (.int p6), (.int p7)] 14)) t := by
    intro t k
    refine pre5 t ?_
    show Steps p.tables e below (T3.setTop (mkF m 32 #[.val (.long q1), .second, .val (.int p2), .val (.int p3), .val (.int p4), .val (.int p5), .val (.int p6), .val (.int p7), .val (.long (own_bit p3 p2 (own_g1 p6))), .second, .unset, .unset, .unset, .unset] [(.int (own_g2 p6)), (.int p2), (.int p4)])) _
    refine st6 _ ?_
    show Steps p.tables e below (T6.setTop (mkF m 35 #[.val (.long q1), .second, .val (.int p2), .val (.int p3), .val (.int p4), .val (.int p5), .val (.int p6), .val (.int p7), .val (.long (own_bit p3 p2 (own_g1 p6))), .second, .unset, .unset, .unset, .unset] [(.long (own_bit p4 p2 (own_g2 p6)))])) _
    refine XS.lstore X6.here hx rfl (hb hby d2_35) rfl (l' := #[.val (.long q1), .second, .val (.int p2), .val (.int p3), .val (.int p4), .val (.int p5), .val (.int p6), .val (.int p7), .val (.long (own_bit p3 p2 (own_g1 p6))), .second, .val (.long (own_bit p4 p2 (own_g2 p6))), .second, .unset, .unset]) rfl ?_
    show Steps p.tables e below (T6.setTop (mkF m 37 #[.val (.long q1), .second, .val (.int p2), .val (.int p3), .val (.int p4), .val (.int p5), .val (.int p6), .val (.int p7), .val (.long (own_bit p3 p2 (own_g1 p6))), .second, .val (.long (own_bit p4 p2 (own_g2 p6))), .second, .unset, .unset] [])) _
    refine XS.iload X6.here hx rfl (hb hby d2_37) rfl ?_
    show Steps p.tables e below (T6.setTop (mkF m 39 #[.val (.long q1), .second, .val (.int p2), .val (.int p3), .val (.int p4), .val (.int p5), .val (.int p6), .val (.int p7), .val (.long (own_bit p3 p2 (own_g1 p6))), .second, .val (.long (own_bit p4 p2 (own_g2 p6))), .second, .unset, .unset] [(.int p5)])) _
    refine XS.iloadN X6.here hx rfl (hb hby d2_39) rfl ?_
    show Steps p.tables e below (T6.setTop (mkF m 40 #[.val (.long q1), .second, .val (.int p2), .val (.int p3), .val (.int p4), .val (.int p5), .val (.int p6), .val (.int p7), .val (.long (own_bit p3 p2 (own_g1 p6))), .second, .val (.long (own_bit p4 p2 (own_g2 p6))), .second, .unset, .unset] [(.int p2), (.int p5)])) _
    refine XS.iload X6.here hx rfl (hb hby d2_40) rfl ?_
    show Steps p.tables e below (T6.setTop (mkF m 42 #[.val (.long q1), .second, .val (.int p2), .val (.int p3), .val (.int p4), .val (.int p5), .val (.int p6), .val (.int p7), .val (.long (own_bit p3 p2 (own_g1 p6))), .second, .val (.long (own_bit p4 p2 (own_g2 p6))), .second, .unset, .unset] [(.int p6), (.int p2), (.int p5)])) _
    refine XS.iconst X6.here hx rfl (hb hby d2_42) ?_
    exact k
  have pre8 : ∀ t, Steps p.tables e below (T6.setTop (mkF m 51 #[.val (.long q1), .second, .val (.int p2), .val (.int p3), .val (.int p4), .val (.int p5), .val (.int p6), .val (.int p7), .val (.long (own_bit p3 p2 (own_g1 p6))), .second, .val (.long (own_bit p4 p2 (own_g2 p6))), .second, .unset, .unset] [(.int (own_g3 p6)), (.int p2), (.int p5)])) t → Steps p.tables e below (s₁.setTop (entryFrame m #[(.long q1), (.int p2), (.int p3), (.int p4), (.int p5), (.int p6), (.int p7)] 14)) t := by
    intro t k
    by_cases hd8 : p6 < (3 : Int32)
    · rw [show (own_g3 p6) = (0 : Int32) from if_pos hd8] at k
      refine pre7 t ?_
      show Steps p.tables e below (T6.setTop (mkF m 43 #[.val (.long q1), .second, .val (.int p2), .val (.int p3), .val (.int p4), .val (.int p5), .val (.int p6), .val (.int p7), .val (.long (own_bit p3 p2 (own_g1 p6))), .second, .val (.long (own_bit p4 p2 (own_g2 p6))), .second, .unset, .unset] [(.int (3 : Int32)), (.int p6), (.int p2), (.int p5)])) _
      refine XS.icmpYes X6.here hx rfl (pc0 := 43) (pc' := 50) rfl (hb hby d2_43) rfl (tlt (hd8 : (p6 < (3 : Int32)))).1 (by decide) (by decide) ?_
      show Steps p.tables e below (T6.setTop (mkF m 50 #[.val (.long q1), .second, .val (.int p2), .val (.int p3), .val (.int p4), .val (.int p5), .val (.int p6), .val (.int p7), .val (.long (own_bit p3 p2 (own_g1 p6))), .second, .val (.long (own_bit p4 p2 (own_g2 p6))), .second, .unset, .unset] [(.int p2), (.int p5)])) _
      refine XS.iconst X6.here hx rfl (hb hby d2_50) ?_
      exact k
    · rw [show (own_g3 p6) = (1 : Int32) from if_neg hd8] at k
      refine pre7 t ?_
      show Steps p.tables e below (T6.setTop (mkF m 43 #[.val (.long q1), .second, .val (.int p2), .val (.int p3), .val (.int p4), .val (.int p5), .val (.int p6), .val (.int p7), .val (.long (own_bit p3 p2 (own_g1 p6))), .second, .val (.long (own_bit p4 p2 (own_g2 p6))), .second, .unset, .unset] [(.int (3 : Int32)), (.int p6), (.int p2), (.int p5)])) _
      refine XS.icmpNo X6.here hx rfl (hb hby d2_43) rfl (flt (hd8 : ¬ (p6 < (3 : Int32)))).1 ?_
      show Steps p.tables e below (T6.setTop (mkF m 46 #[.val (.long q1), .second, .val (.int p2), .val (.int p3), .val (.int p4), .val (.int p5), .val (.int p6), .val (.int p7), .val (.long (own_bit p3 p2 (own_g1 p6))), .second, .val (.long (own_bit p4 p2 (own_g2 p6))), .second, .unset, .unset] [(.int p2), (.int p5)])) _
      refine XS.iconst X6.here hx rfl (hb hby d2_46) ?_
      show Steps p.tables e below (T6.setTop (mkF m 47 #[.val (.long q1), .second, .val (.int p2), .val (.int p3), .val (.int p4), .val (.int p5), .val (.int p6), .val (.int p7), .val (.long (own_bit p3 p2 (own_g1 p6))), .second, .val (.long (own_bit p4 p2 (own_g2 p6))), .second, .unset, .unset] [(.int (1 : Int32)), (.int p2), (.int p5)])) _
      refine XS.goto X6.here hx rfl (pc0 := 47) (pc' := 51) rfl (hb hby d2_47) (by decide) (by decide) ?_
      exact k
  obtain ⟨_, _, ⟨T9, L9, k9, n9⟩, -, X9, ⟨Lc9, hQ9, l9, y9, z9⟩, st9⟩ := Jvm.LawKit.callS X6 hx (y := (⟨"com/example/bitstrata/bitstrata/ArrayChunkWriteEachPinLaw", "bit", "(CIZ)J"⟩ : MethodName)) hown (mvT hZ (hw _ (List.mem_of_getElem? (i := 11) rfl))) (mvT hZ (hw _ (List.mem_of_getElem? (i := 12) rfl))) (mvT hZ (hw _ (List.mem_of_getElem? (i := 9) rfl))) (mvT hZ (hw _ (List.mem_of_getElem? (i := 13) rfl))) (by decide) (backOf (W := 0) (rm3 l Z a0 hw [] p5 p2 (own_g3 p6) h0 n0 Z0) hZ (hw _ (List.mem_of_getElem? (i := 13) rfl)) (hw _ (List.mem_of_getElem? (i := 9) rfl)) (by decide) (by decide)) (g := (mkF m 51 #[.val (.long q1), .second, .val (.int p2), .val (.int p3), .val (.int p4), .val (.int p5), .val (.int p6), .val (.int p7), .val (.long (own_bit p3 p2 (own_g1 p6))), .second, .val (.long (own_bit p4 p2 (own_g2 p6))), .second, .unset, .unset] [(.int (own_g3 p6)), (.int p2), (.int p5)])) rfl (by rw [hml]; rfl) (argsL := [(.int p5), (.int p2), (.int (own_g3 p6))]) (rest := []) (lenOf pd_0 rfl) rfl (by show 2 * 0 + _ ≤ _; exact Nat.le_of_eq rfl) (hb hby d2_51) (fun _ _ => ⟨rfl, e6, (by decide : 0 + 0 ≤ _), (by decide : 0 + 0 ≤ _)⟩)
  dsimp only [Pt.U, Pt.locs, Pt.cells, Pt.slots] at X9 l9 y9 z9 st9 hQ9
  subst l9 y9 z9
  obtain ⟨rfl, N9q, e9⟩ := hQ9
  have N9 := Fr.app N6 N9q
  have pre10 : ∀ t, Steps p.tables e below (T9.setTop (mkF m 58 #[.val (.long q1), .second, .val (.int p2), .val (.int p3), .val (.int p4), .val (.int p5), .val (.int p6), .val (.int p7), .val (.long (own_bit p3 p2 (own_g1 p6))), .second, .val (.long (own_bit p4 p2 (own_g2 p6))), .second, .val (.long (own_bit p5 p2 (own_g3 p6))), .second] [(.int p7)])) t → Steps p.tables e below (s₁.setTop (entryFrame m #[(.long q1), (.int p2), (.int p3), (.int p4), (.int p5), (.int p6), (.int p7)] 14)) t := by
    intro t k
    refine pre8 t ?_
    show Steps p.tables e below (T6.setTop (mkF m 51 #[.val (.long q1), .second, .val (.int p2), .val (.int p3), .val (.int p4), .val (.int p5), .val (.int p6), .val (.int p7), .val (.long (own_bit p3 p2 (own_g1 p6))), .second, .val (.long (own_bit p4 p2 (own_g2 p6))), .second, .unset, .unset] [(.int (own_g3 p6)), (.int p2), (.int p5)])) _
    refine st9 _ ?_
    show Steps p.tables e below (T9.setTop (mkF m 54 #[.val (.long q1), .second, .val (.int p2), .val (.int p3), .val (.int p4), .val (.int p5), .val (.int p6), .val (.int p7), .val (.long (own_bit p3 p2 (own_g1 p6))), .second, .val (.long (own_bit p4 p2 (own_g2 p6))), .second, .unset, .unset] [(.long (own_bit p5 p2 (own_g3 p6)))])) _
    refine XS.lstore X9.here hx rfl (hb hby d2_54) rfl (l' := #[.val (.long q1), .second, .val (.int p2), .val (.int p3), .val (.int p4), .val (.int p5), .val (.int p6), .val (.int p7), .val (.long (own_bit p3 p2 (own_g1 p6))), .second, .val (.long (own_bit p4 p2 (own_g2 p6))), .second, .val (.long (own_bit p5 p2 (own_g3 p6))), .second]) rfl ?_
    show Steps p.tables e below (T9.setTop (mkF m 56 #[.val (.long q1), .second, .val (.int p2), .val (.int p3), .val (.int p4), .val (.int p5), .val (.int p6), .val (.int p7), .val (.long (own_bit p3 p2 (own_g1 p6))), .second, .val (.long (own_bit p4 p2 (own_g2 p6))), .second, .val (.long (own_bit p5 p2 (own_g3 p6))), .second] [])) _
    refine XS.iload X9.here hx rfl (hb hby d2_56) rfl ?_
    exact k
  by_cases hc58_11 : p7 = (0 : Int32)
  · obtain ⟨fs, hr, hrun, hended, hW, hsame⟩ := X9.leave (v := some (.long (((q1 ||| (own_bit p3 p2 (own_g1 p6))) ||| (own_bit p4 p2 (own_g2 p6))) ||| (own_bit p5 p2 (own_g3 p6))))) (fun h => by rw [Bd.returns] at h; cases h)
    refine ⟨_, _, pre10 _ ?_, hrun, hended, _, _, rfl, ?_, ⟨_, rfl⟩, hW, hsame.mono (by decide) (by decide)⟩
    · show Steps p.tables e below (T9.setTop (mkF m 58 #[.val (.long q1), .second, .val (.int p2), .val (.int p3), .val (.int p4), .val (.int p5), .val (.int p6), .val (.int p7), .val (.long (own_bit p3 p2 (own_g1 p6))), .second, .val (.long (own_bit p4 p2 (own_g2 p6))), .second, .val (.long (own_bit p5 p2 (own_g3 p6))), .second] [(.int p7)])) _
      refine XS.ifYes X9.here hx rfl (pc0 := 58) (pc' := 74) rfl (hb hby d2_58) rfl ((if0 _ _).trans (teq hc58_11).1) (by decide) (by decide) ?_
      show Steps p.tables e below (T9.setTop (mkF m 74 #[.val (.long q1), .second, .val (.int p2), .val (.int p3), .val (.int p4), .val (.int p5), .val (.int p6), .val (.int p7), .val (.long (own_bit p3 p2 (own_g1 p6))), .second, .val (.long (own_bit p4 p2 (own_g2 p6))), .second, .val (.long (own_bit p5 p2 (own_g3 p6))), .second] [])) _
      refine XS.lloadN X9.here hx rfl (hb hby d2_74) rfl ?_
      show Steps p.tables e below (T9.setTop (mkF m 75 #[.val (.long q1), .second, .val (.int p2), .val (.int p3), .val (.int p4), .val (.int p5), .val (.int p6), .val (.int p7), .val (.long (own_bit p3 p2 (own_g1 p6))), .second, .val (.long (own_bit p4 p2 (own_g2 p6))), .second, .val (.long (own_bit p5 p2 (own_g3 p6))), .second] [(.long q1)])) _
      refine XS.lload X9.here hx rfl (hb hby d2_75) rfl ?_
      show Steps p.tables e below (T9.setTop (mkF m 77 #[.val (.long q1), .second, .val (.int p2), .val (.int p3), .val (.int p4), .val (.int p5), .val (.int p6), .val (.int p7), .val (.long (own_bit p3 p2 (own_g1 p6))), .second, .val (.long (own_bit p4 p2 (own_g2 p6))), .second, .val (.long (own_bit p5 p2 (own_g3 p6))), .second] [(.long (own_bit p3 p2 (own_g1 p6))), (.long q1)])) _
      refine XS.lor X9.here hx rfl (hb hby d2_77) rfl ?_
      show Steps p.tables e below (T9.setTop (mkF m 78 #[.val (.long q1), .second, .val (.int p2), .val (.int p3), .val (.int p4), .val (.int p5), .val (.int p6), .val (.int p7), .val (.long (own_bit p3 p2 (own_g1 p6))), .second, .val (.long (own_bit p4 p2 (own_g2 p6))), .second, .val (.long (own_bit p5 p2 (own_g3 p6))), .second] [(.long (q1 ||| (own_bit p3 p2 (own_g1 p6))))])) _
      refine XS.lload X9.here hx rfl (hb hby d2_78) rfl ?_
      show Steps p.tables e below (T9.setTop (mkF m 80 #[.val (.long q1), .second, .val (.int p2), .val (.int p3), .val (.int p4), .val (.int p5), .val (.int p6), .val (.int p7), .val (.long (own_bit p3 p2 (own_g1 p6))), .second, .val (.long (own_bit p4 p2 (own_g2 p6))), .second, .val (.long (own_bit p5 p2 (own_g3 p6))), .second] [(.long (own_bit p4 p2 (own_g2 p6))), (.long (q1 ||| (own_bit p3 p2 (own_g1 p6))))])) _
      refine XS.lor X9.here hx rfl (hb hby d2_80) rfl ?_
      show Steps p.tables e below (T9.setTop (mkF m 81 #[.val (.long q1), .second, .val (.int p2), .val (.int p3), .val (.int p4), .val (.int p5), .val (.int p6), .val (.int p7), .val (.long (own_bit p3 p2 (own_g1 p6))), .second, .val (.long (own_bit p4 p2 (own_g2 p6))), .second, .val (.long (own_bit p5 p2 (own_g3 p6))), .second] [(.long ((q1 ||| (own_bit p3 p2 (own_g1 p6))) ||| (own_bit p4 p2 (own_g2 p6))))])) _
      refine XS.lload X9.here hx rfl (hb hby d2_81) rfl ?_
      show Steps p.tables e below (T9.setTop (mkF m 83 #[.val (.long q1), .second, .val (.int p2), .val (.int p3), .val (.int p4), .val (.int p5), .val (.int p6), .val (.int p7), .val (.long (own_bit p3 p2 (own_g1 p6))), .second, .val (.long (own_bit p4 p2 (own_g2 p6))), .second, .val (.long (own_bit p5 p2 (own_g3 p6))), .second] [(.long (own_bit p5 p2 (own_g3 p6))), (.long ((q1 ||| (own_bit p3 p2 (own_g1 p6))) ||| (own_bit p4 p2 (own_g2 p6))))])) _
      refine XS.lor X9.here hx rfl (hb hby d2_83) rfl ?_
      show Steps p.tables e below (T9.setTop (mkF m 84 #[.val (.long q1), .second, .val (.int p2), .val (.int p3), .val (.int p4), .val (.int p5), .val (.int p6), .val (.int p7), .val (.long (own_bit p3 p2 (own_g1 p6))), .second, .val (.long (own_bit p4 p2 (own_g2 p6))), .second, .val (.long (own_bit p5 p2 (own_g3 p6))), .second] [(.long (((q1 ||| (own_bit p3 p2 (own_g1 p6))) ||| (own_bit p4 p2 (own_g2 p6))) ||| (own_bit p5 p2 (own_g3 p6))))])) _
      exact retJ X9 hx Bd.returns (hb hby d2_84) hr
    · show Q_rm2 Z q1 p2 p3 p4 p5 p6 p7 h0 n0 _ T9.heap _
      rw [e9]
      exact ⟨by rw [own_exp, if_pos hc58_11], N9, rfl⟩
  · obtain ⟨fs, hr, hrun, hended, hW, hsame⟩ := X9.leave (v := some (.long (((q1 ^^^ (own_bit p3 p2 (own_g1 p6))) ^^^ (own_bit p4 p2 (own_g2 p6))) ^^^ (own_bit p5 p2 (own_g3 p6))))) (fun h => by rw [Bd.returns] at h; cases h)
    refine ⟨_, _, pre10 _ ?_, hrun, hended, _, _, rfl, ?_, ⟨_, rfl⟩, hW, hsame.mono (by decide) (by decide)⟩
    · show Steps p.tables e below (T9.setTop (mkF m 58 #[.val (.long q1), .second, .val (.int p2), .val (.int p3), .val (.int p4), .val (.int p5), .val (.int p6), .val (.int p7), .val (.long (own_bit p3 p2 (own_g1 p6))), .second, .val (.long (own_bit p4 p2 (own_g2 p6))), .second, .val (.long (own_bit p5 p2 (own_g3 p6))), .second] [(.int p7)])) _
      refine XS.ifNo X9.here hx rfl (hb hby d2_58) rfl ((if0 _ _).trans (feq hc58_11).1) ?_
      show Steps p.tables e below (T9.setTop (mkF m 61 #[.val (.long q1), .second, .val (.int p2), .val (.int p3), .val (.int p4), .val (.int p5), .val (.int p6), .val (.int p7), .val (.long (own_bit p3 p2 (own_g1 p6))), .second, .val (.long (own_bit p4 p2 (own_g2 p6))), .second, .val (.long (own_bit p5 p2 (own_g3 p6))), .second] [])) _
      refine XS.lloadN X9.here hx rfl (hb hby d2_61) rfl ?_
      show Steps p.tables e below (T9.setTop (mkF m 62 #[.val (.long q1), .second, .val (.int p2), .val (.int p3), .val (.int p4), .val (.int p5), .val (.int p6), .val (.int p7), .val (.long (own_bit p3 p2 (own_g1 p6))), .second, .val (.long (own_bit p4 p2 (own_g2 p6))), .second, .val (.long (own_bit p5 p2 (own_g3 p6))), .second] [(.long q1)])) _
      refine XS.lload X9.here hx rfl (hb hby d2_62) rfl ?_
      show Steps p.tables e below (T9.setTop (mkF m 64 #[.val (.long q1), .second, .val (.int p2), .val (.int p3), .val (.int p4), .val (.int p5), .val (.int p6), .val (.int p7), .val (.long (own_bit p3 p2 (own_g1 p6))), .second, .val (.long (own_bit p4 p2 (own_g2 p6))), .second, .val (.long (own_bit p5 p2 (own_g3 p6))), .second] [(.long (own_bit p3 p2 (own_g1 p6))), (.long q1)])) _
      refine XS.lxor X9.here hx rfl (hb hby d2_64) rfl ?_
      show Steps p.tables e below (T9.setTop (mkF m 65 #[.val (.long q1), .second, .val (.int p2), .val (.int p3), .val (.int p4), .val (.int p5), .val (.int p6), .val (.int p7), .val (.long (own_bit p3 p2 (own_g1 p6))), .second, .val (.long (own_bit p4 p2 (own_g2 p6))), .second, .val (.long (own_bit p5 p2 (own_g3 p6))), .second] [(.long (q1 ^^^ (own_bit p3 p2 (own_g1 p6))))])) _
      refine XS.lload X9.here hx rfl (hb hby d2_65) rfl ?_
      show Steps p.tables e below (T9.setTop (mkF m 67 #[.val (.long q1), .second, .val (.int p2), .val (.int p3), .val (.int p4), .val (.int p5), .val (.int p6), .val (.int p7), .val (.long (own_bit p3 p2 (own_g1 p6))), .second, .val (.long (own_bit p4 p2 (own_g2 p6))), .second, .val (.long (own_bit p5 p2 (own_g3 p6))), .second] [(.long (own_bit p4 p2 (own_g2 p6))), (.long (q1 ^^^ (own_bit p3 p2 (own_g1 p6))))])) _
      refine XS.lxor X9.here hx rfl (hb hby d2_67) rfl ?_
      show Steps p.tables e below (T9.setTop (mkF m 68 #[.val (.long q1), .second, .val (.int p2), .val (.int p3), .val (.int p4), .val (.int p5), .val (.int p6), .val (.int p7), .val (.long (own_bit p3 p2 (own_g1 p6))), .second, .val (.long (own_bit p4 p2 (own_g2 p6))), .second, .val (.long (own_bit p5 p2 (own_g3 p6))), .second] [(.long ((q1 ^^^ (own_bit p3 p2 (own_g1 p6))) ^^^ (own_bit p4 p2 (own_g2 p6))))])) _
      refine XS.lload X9.here hx rfl (hb hby d2_68) rfl ?_
      show Steps p.tables e below (T9.setTop (mkF m 70 #[.val (.long q1), .second, .val (.int p2), .val (.int p3), .val (.int p4), .val (.int p5), .val (.int p6), .val (.int p7), .val (.long (own_bit p3 p2 (own_g1 p6))), .second, .val (.long (own_bit p4 p2 (own_g2 p6))), .second, .val (.long (own_bit p5 p2 (own_g3 p6))), .second] [(.long (own_bit p5 p2 (own_g3 p6))), (.long ((q1 ^^^ (own_bit p3 p2 (own_g1 p6))) ^^^ (own_bit p4 p2 (own_g2 p6))))])) _
      refine XS.lxor X9.here hx rfl (hb hby d2_70) rfl ?_
      show Steps p.tables e below (T9.setTop (mkF m 71 #[.val (.long q1), .second, .val (.int p2), .val (.int p3), .val (.int p4), .val (.int p5), .val (.int p6), .val (.int p7), .val (.long (own_bit p3 p2 (own_g1 p6))), .second, .val (.long (own_bit p4 p2 (own_g2 p6))), .second, .val (.long (own_bit p5 p2 (own_g3 p6))), .second] [(.long (((q1 ^^^ (own_bit p3 p2 (own_g1 p6))) ^^^ (own_bit p4 p2 (own_g2 p6))) ^^^ (own_bit p5 p2 (own_g3 p6))))])) _
      refine XS.goto X9.here hx rfl (pc0 := 71) (pc' := 84) rfl (hb hby d2_71) (by decide) (by decide) ?_
      show Steps p.tables e below (T9.setTop (mkF m 84 #[.val (.long q1), .second, .val (.int p2), .val (.int p3), .val (.int p4), .val (.int p5), .val (.int p6), .val (.int p7), .val (.long (own_bit p3 p2 (own_g1 p6))), .second, .val (.long (own_bit p4 p2 (own_g2 p6))), .second, .val (.long (own_bit p5 p2 (own_g3 p6))), .second] [(.long (((q1 ^^^ (own_bit p3 p2 (own_g1 p6))) ^^^ (own_bit p4 p2 (own_g2 p6))) ^^^ (own_bit p5 p2 (own_g3 p6))))])) _
      exact retJ X9 hx Bd.returns (hb hby d2_84) hr
    · show Q_rm2 Z q1 p2 p3 p4 p5 p6 p7 h0 n0 _ T9.heap _
      rw [e9]
      exact ⟨by rw [own_exp, if_neg hc58_11], N9, rfl⟩
theorem d1_0 : decode prog_2_method_74_code 0 = .ok (.iload_n 3, 1) := by decide +kernel
theorem d1_1 : decode prog_2_method_74_code 1 = .ok (.ifCond .eq 39, 3) := by decide +kernel
theorem d1_4 : decode prog_2_method_74_code 4 = .ok (.iconst 0, 1) := by decide +kernel
theorem d1_5 : decode prog_2_method_74_code 5 = .ok (.istore 4, 2) := by decide +kernel
theorem d1_7 : decode prog_2_method_74_code 7 = .ok (.iload 4, 2) := by decide +kernel
theorem d1_9 : decode prog_2_method_74_code 9 = .ok (.iload_n 1, 1) := by decide +kernel
theorem d1_10 : decode prog_2_method_74_code 10 = .ok (.if_icmp .ge 27, 3) := by decide +kernel
theorem d1_13 : decode prog_2_method_74_code 13 = .ok (.aload_n 2, 1) := by decide +kernel
theorem d1_14 : decode prog_2_method_74_code 14 = .ok (.aload_n 0, 1) := by decide +kernel
theorem d1_15 : decode prog_2_method_74_code 15 = .ok (.iload 4, 2) := by decide +kernel
theorem d1_17 : decode prog_2_method_74_code 17 = .ok (.caload, 1) := by decide +kernel
theorem d1_18 : decode prog_2_method_74_code 18 = .ok (.bipush 6, 2) := by decide +kernel
theorem d1_20 : decode prog_2_method_74_code 20 = .ok (.iushr, 1) := by decide +kernel
theorem d1_21 : decode prog_2_method_74_code 21 = .ok (.dup2, 1) := by decide +kernel
theorem d1_22 : decode prog_2_method_74_code 22 = .ok (.laload, 1) := by decide +kernel
theorem d1_23 : decode prog_2_method_74_code 23 = .ok (.lconst 1, 1) := by decide +kernel
theorem d1_24 : decode prog_2_method_74_code 24 = .ok (.aload_n 0, 1) := by decide +kernel
theorem d1_25 : decode prog_2_method_74_code 25 = .ok (.iload 4, 2) := by decide +kernel
theorem d1_27 : decode prog_2_method_74_code 27 = .ok (.caload, 1) := by decide +kernel
theorem d1_28 : decode prog_2_method_74_code 28 = .ok (.lshl, 1) := by decide +kernel
theorem d1_29 : decode prog_2_method_74_code 29 = .ok (.lxor, 1) := by decide +kernel
theorem d1_30 : decode prog_2_method_74_code 30 = .ok (.lastore, 1) := by decide +kernel
theorem d1_31 : decode prog_2_method_74_code 31 = .ok (.iinc 4 1, 3) := by decide +kernel
theorem d1_34 : decode prog_2_method_74_code 34 = .ok (.goto (-27), 3) := by decide +kernel
theorem d1_37 : decode prog_2_method_74_code 37 = .ok (.goto 36, 3) := by decide +kernel
theorem d1_40 : decode prog_2_method_74_code 40 = .ok (.iconst 0, 1) := by decide +kernel
theorem d1_41 : decode prog_2_method_74_code 41 = .ok (.istore 4, 2) := by decide +kernel
theorem d1_43 : decode prog_2_method_74_code 43 = .ok (.iload 4, 2) := by decide +kernel
theorem d1_45 : decode prog_2_method_74_code 45 = .ok (.iload_n 1, 1) := by decide +kernel
theorem d1_46 : decode prog_2_method_74_code 46 = .ok (.if_icmp .ge 27, 3) := by decide +kernel
theorem d1_49 : decode prog_2_method_74_code 49 = .ok (.aload_n 2, 1) := by decide +kernel
theorem d1_50 : decode prog_2_method_74_code 50 = .ok (.aload_n 0, 1) := by decide +kernel
theorem d1_51 : decode prog_2_method_74_code 51 = .ok (.iload 4, 2) := by decide +kernel
theorem d1_53 : decode prog_2_method_74_code 53 = .ok (.caload, 1) := by decide +kernel
theorem d1_54 : decode prog_2_method_74_code 54 = .ok (.bipush 6, 2) := by decide +kernel
theorem d1_56 : decode prog_2_method_74_code 56 = .ok (.iushr, 1) := by decide +kernel
theorem d1_57 : decode prog_2_method_74_code 57 = .ok (.dup2, 1) := by decide +kernel
theorem d1_58 : decode prog_2_method_74_code 58 = .ok (.laload, 1) := by decide +kernel
theorem d1_59 : decode prog_2_method_74_code 59 = .ok (.lconst 1, 1) := by decide +kernel
theorem d1_60 : decode prog_2_method_74_code 60 = .ok (.aload_n 0, 1) := by decide +kernel
theorem d1_61 : decode prog_2_method_74_code 61 = .ok (.iload 4, 2) := by decide +kernel
theorem d1_63 : decode prog_2_method_74_code 63 = .ok (.caload, 1) := by decide +kernel
theorem d1_64 : decode prog_2_method_74_code 64 = .ok (.lshl, 1) := by decide +kernel
theorem d1_65 : decode prog_2_method_74_code 65 = .ok (.lor, 1) := by decide +kernel
theorem d1_66 : decode prog_2_method_74_code 66 = .ok (.lastore, 1) := by decide +kernel
theorem d1_67 : decode prog_2_method_74_code 67 = .ok (.iinc 4 1, 3) := by decide +kernel
theorem d1_70 : decode prog_2_method_74_code 70 = .ok (.goto (-27), 3) := by decide +kernel
theorem d1_73 : decode prog_2_method_74_code 73 = .ok (.return_, 1) := by decide +kernel
theorem pn_rm1 : plainName "com/example/bitstrata/bitstrata/ArrayChunk" = true := by first | (simp [plainName, overriddenIn]; done) | decide +kernel
theorem ef_rm1 (m : MethodId) (x0 : Addr) (x1 : Int32) (x2 : Addr) (x3 : Int32) : entryFrame m #[(.ref x0), (.int x1), (.ref x2), (.int x3)] 5 = mkF m 0 #[.val (.ref x0), .val (.int x1), .val (.ref x2), .val (.int x3), .unset] [] := by first | (simp [entryFrame, mkF, argsToLocals, Value.category]; done) | rfl
def Q_rm1 (Z : State) (a1 : Addr) (p2 : Int32) (a3 : Addr) (p4 : Int32) (f : Nat → Int32) (g : Nat → Int64) (h0 : Heap) (n0 : Nat) (v : Option Value) (h : Heap) (L : List Loc) : Prop := v = none ∧ Fr n0 L ∧ Keep h0 h [a3] ∧ ArF Z h a3 .long 1024 (fun i => .long (own_wr p4 p2 f g i))
set_option maxRecDepth 65536 in
set_option maxHeartbeats 40000000 in
theorem rm1 (l : Launch) (Z : State) (a0 : Array Value) (hw : ∀ d ∈ tables_1, d.before a0 Z = true) (ws : List Jvm.Cond) (a1 : Addr) (p2 : Int32) (a3 : Addr) (p4 : Int32) (f : Nat → Int32) (g : Nat → Int64) (h0 : Heap) (n0 : Nat) (Z0 : n0 ≤ h0.size) (V0 : ArF Z h0 a1 .char 4 (fun i => .int (f i))) (W0 : ArF Z h0 a3 .long 1024 (fun i => .long (g i))) (fc : ∀ i, i < 3 → own_B (f i)) (hne : a1 ≠ a3) (ga : n0 ≤ a3) (hcnt : p2 = 0 ∨ p2 = 1 ∨ p2 = 2 ∨ p2 = 3) :
    MetFree l (⟨"com/example/bitstrata/bitstrata/ArrayChunk", "writeEach", "([CI[JZ)V"⟩ : MethodName) (head1 (Jvm.Cond.code (⟨"com/example/bitstrata/bitstrata/ArrayChunk", "writeEach", "([CI[JZ)V"⟩ : MethodName) prog_2_method_74_code 5 none :: ws) ({ frames := 0, cells := 0, slots := 0, locals := 0 } : Room)) (fun a U => a = #[(.ref a1), (.int p2), (.ref a3), (.int p4)] ∧ Z.Warmed39 U.vm ∧ U.heap = h0) (fun _ _ _ _ _ => True) (fun _ U o U' => ∃ v L, o = .returned v ∧ Q_rm1 Z a1 p2 a3 p4 f g h0 n0 v U'.heap L ∧ FrameEnd U o U' L ({ frames := 0, cells := 0, slots := 0, locals := 0 } : Room).cells ({ frames := 0, cells := 0, slots := 0, locals := 0 } : Room).slots) := by
  refine MetFree.of_bodySF (plainFor_of_name pn_rm1) hisR ?_
  intro p e s m args below meth c s₁ Bd hml0 hP hK
  obtain ⟨rfl, hZ, hh⟩ := hP
  have hx := Bd.exec
  have hby := Bd.bytes
  have hml : c.maxLocals = 5 := hml0
  have hown : s.vm.findClass "com/example/bitstrata/bitstrata/ArrayChunk" = some m.cls := findClass_of_methodNamed Bd.named
  have hnm := (name_of_methodNamed Bd.named Bd.method).1
  have X0 : Stand p l e ({ frames := 0, cells := 0, slots := 0, locals := 0 } : Room) s m #[(.ref a1), (.int p2), (.ref a3), (.int p4)] below meth c s₁ [] 0 0 := Stand.of_body Bd
  have e0 : s₁.heap = h0 := by rw [← hh, Bd.state]; rfl
  have N0 := Fr.nil n0
  have pre0 : ∀ t, Steps p.tables e below (s₁.setTop (mkF m 0 #[.val (.ref a1), .val (.int p2), .val (.ref a3), .val (.int p4), .unset] [])) t → Steps p.tables e below (s₁.setTop (entryFrame m #[(.ref a1), (.int p2), (.ref a3), (.int p4)] 5)) t := fun t k => castTop (ef_rm1 m a1 p2 a3 p4) k
  have K0 := Keep.refl h0 [a3]
  rcases hcnt with hk | hk | hk | hk
  · have pre1 : ∀ t, Steps p.tables e below (s₁.setTop (mkF m 1 #[.val (.ref a1), .val (.int p2), .val (.ref a3), .val (.int p4), .unset] [(.int p4)])) t → Steps p.tables e below (s₁.setTop (entryFrame m #[(.ref a1), (.int p2), (.ref a3), (.int p4)] 5)) t := by
      intro t k
      refine pre0 t ?_
      show Steps p.tables e below (s₁.setTop (mkF m 0 #[.val (.ref a1), .val (.int p2), .val (.ref a3), .val (.int p4), .unset] [])) _
      refine XS.iloadN X0.here hx rfl (hb hby d1_0) rfl ?_
      exact k
    by_cases hc1_2 : p4 = (0 : Int32)
    · obtain ⟨fs, hr, hrun, hended, hW, hsame⟩ := X0.leave (v := none) (fun _ => rfl)
      refine ⟨_, _, pre1 _ ?_, hrun, hended, _, _, rfl, ?_, ⟨_, rfl⟩, hW, hsame.mono (by decide) (by decide)⟩
      · show Steps p.tables e below (s₁.setTop (mkF m 1 #[.val (.ref a1), .val (.int p2), .val (.ref a3), .val (.int p4), .unset] [(.int p4)])) _
        refine XS.ifYes X0.here hx rfl (pc0 := 1) (pc' := 40) rfl (hb hby d1_1) rfl ((if0 _ _).trans (teq hc1_2).1) (by decide) (by decide) ?_
        show Steps p.tables e below (s₁.setTop (mkF m 40 #[.val (.ref a1), .val (.int p2), .val (.ref a3), .val (.int p4), .unset] [])) _
        refine XS.iconst X0.here hx rfl (hb hby d1_40) ?_
        show Steps p.tables e below (s₁.setTop (mkF m 41 #[.val (.ref a1), .val (.int p2), .val (.ref a3), .val (.int p4), .unset] [(.int (0 : Int32))])) _
        refine XS.istore X0.here hx rfl (hb hby d1_41) rfl (l' := #[.val (.ref a1), .val (.int p2), .val (.ref a3), .val (.int p4), .val (.int (0 : Int32))]) rfl ?_
        show Steps p.tables e below (s₁.setTop (mkF m 43 #[.val (.ref a1), .val (.int p2), .val (.ref a3), .val (.int p4), .val (.int (0 : Int32))] [])) _
        refine XS.iload X0.here hx rfl (hb hby d1_43) rfl ?_
        show Steps p.tables e below (s₁.setTop (mkF m 45 #[.val (.ref a1), .val (.int p2), .val (.ref a3), .val (.int p4), .val (.int (0 : Int32))] [(.int (0 : Int32))])) _
        refine XS.iloadN X0.here hx rfl (hb hby d1_45) rfl ?_
        show Steps p.tables e below (s₁.setTop (mkF m 46 #[.val (.ref a1), .val (.int p2), .val (.ref a3), .val (.int p4), .val (.int (0 : Int32))] [(.int p2), (.int (0 : Int32))])) _
        refine XS.icmpYes X0.here hx rfl (pc0 := 46) (pc' := 73) rfl (hb hby d1_46) rfl (flt ((by rw [hk]; decide) : ¬ ((0 : Int32) < p2))).2.1 (by decide) (by decide) ?_
        show Steps p.tables e below (s₁.setTop (mkF m 73 #[.val (.ref a1), .val (.int p2), .val (.ref a3), .val (.int p4), .val (.int (0 : Int32))] [])) _
        exact X0.returnOut hx Bd.returns (hb hby d1_73) hr
      · show Q_rm1 Z a1 p2 a3 p4 f g h0 n0 _ s₁.heap _
        rw [e0]
        exact ⟨rfl, N0, K0, (by rw [own_wr0 hk]; exact W0)⟩
    · obtain ⟨fs, hr, hrun, hended, hW, hsame⟩ := X0.leave (v := none) (fun _ => rfl)
      refine ⟨_, _, pre1 _ ?_, hrun, hended, _, _, rfl, ?_, ⟨_, rfl⟩, hW, hsame.mono (by decide) (by decide)⟩
      · show Steps p.tables e below (s₁.setTop (mkF m 1 #[.val (.ref a1), .val (.int p2), .val (.ref a3), .val (.int p4), .unset] [(.int p4)])) _
        refine XS.ifNo X0.here hx rfl (hb hby d1_1) rfl ((if0 _ _).trans (feq hc1_2).1) ?_
        show Steps p.tables e below (s₁.setTop (mkF m 4 #[.val (.ref a1), .val (.int p2), .val (.ref a3), .val (.int p4), .unset] [])) _
        refine XS.iconst X0.here hx rfl (hb hby d1_4) ?_
        show Steps p.tables e below (s₁.setTop (mkF m 5 #[.val (.ref a1), .val (.int p2), .val (.ref a3), .val (.int p4), .unset] [(.int (0 : Int32))])) _
        refine XS.istore X0.here hx rfl (hb hby d1_5) rfl (l' := #[.val (.ref a1), .val (.int p2), .val (.ref a3), .val (.int p4), .val (.int (0 : Int32))]) rfl ?_
        show Steps p.tables e below (s₁.setTop (mkF m 7 #[.val (.ref a1), .val (.int p2), .val (.ref a3), .val (.int p4), .val (.int (0 : Int32))] [])) _
        refine XS.iload X0.here hx rfl (hb hby d1_7) rfl ?_
        show Steps p.tables e below (s₁.setTop (mkF m 9 #[.val (.ref a1), .val (.int p2), .val (.ref a3), .val (.int p4), .val (.int (0 : Int32))] [(.int (0 : Int32))])) _
        refine XS.iloadN X0.here hx rfl (hb hby d1_9) rfl ?_
        show Steps p.tables e below (s₁.setTop (mkF m 10 #[.val (.ref a1), .val (.int p2), .val (.ref a3), .val (.int p4), .val (.int (0 : Int32))] [(.int p2), (.int (0 : Int32))])) _
        refine XS.icmpYes X0.here hx rfl (pc0 := 10) (pc' := 37) rfl (hb hby d1_10) rfl (flt ((by rw [hk]; decide) : ¬ ((0 : Int32) < p2))).2.1 (by decide) (by decide) ?_
        show Steps p.tables e below (s₁.setTop (mkF m 37 #[.val (.ref a1), .val (.int p2), .val (.ref a3), .val (.int p4), .val (.int (0 : Int32))] [])) _
        refine XS.goto X0.here hx rfl (pc0 := 37) (pc' := 73) rfl (hb hby d1_37) (by decide) (by decide) ?_
        show Steps p.tables e below (s₁.setTop (mkF m 73 #[.val (.ref a1), .val (.int p2), .val (.ref a3), .val (.int p4), .val (.int (0 : Int32))] [])) _
        exact X0.returnOut hx Bd.returns (hb hby d1_73) hr
      · show Q_rm1 Z a1 p2 a3 p4 f g h0 n0 _ s₁.heap _
        rw [e0]
        exact ⟨rfl, N0, K0, (by rw [own_wr0 hk]; exact W0)⟩
  · have pre3 : ∀ t, Steps p.tables e below (s₁.setTop (mkF m 1 #[.val (.ref a1), .val (.int p2), .val (.ref a3), .val (.int p4), .unset] [(.int p4)])) t → Steps p.tables e below (s₁.setTop (entryFrame m #[(.ref a1), (.int p2), (.ref a3), (.int p4)] 5)) t := by
      intro t k
      refine pre0 t ?_
      show Steps p.tables e below (s₁.setTop (mkF m 0 #[.val (.ref a1), .val (.int p2), .val (.ref a3), .val (.int p4), .unset] [])) _
      refine XS.iloadN X0.here hx rfl (hb hby d1_0) rfl ?_
      exact k
    by_cases hc1_4 : p4 = (0 : Int32)
    · obtain ⟨cl5, Ar5, S5, H5⟩ := id V0
      have hin5 : ¬ ((0 : Int32) < 0 ∨ cl5.slots.size ≤ ((0 : Int32)).toNatClampNeg) := inA S5 (by decide) (by decide)
      have hat5 : cl5.slots[((0 : Int32)).toNatClampNeg]? = some (.int (f 0)) := ArF.at S5 H5 hin5 rfl
      obtain ⟨cl6, Ar6, S6, H6⟩ := id W0
      have hin6 : ¬ ((((f 0).toUInt32 >>> ((6 : Int32) &&& 31).toUInt32).toInt32) < 0 ∨ cl6.slots.size ≤ ((((f 0).toUInt32 >>> ((6 : Int32) &&& 31).toUInt32).toInt32)).toNatClampNeg) := inA S6 (own_wx (fc 0 (by decide))).1 (own_wx (fc 0 (by decide))).2
      have hat6 : cl6.slots[((((f 0).toUInt32 >>> ((6 : Int32) &&& 31).toUInt32).toInt32)).toNatClampNeg]? = some (.long (g (own_j (f 0)))) := ArF.at S6 H6 hin6 rfl
      obtain ⟨cl7, Ar7, S7, H7⟩ := id V0
      have hin7 : ¬ ((0 : Int32) < 0 ∨ cl7.slots.size ≤ ((0 : Int32)).toNatClampNeg) := inA S7 (by decide) (by decide)
      have hat7 : cl7.slots[((0 : Int32)).toNatClampNeg]? = some (.int (f 0)) := ArF.at S7 H7 hin7 rfl
      obtain ⟨cl8, Ar8, S8, H8⟩ := id W0
      have hin8 : ¬ ((((f 0).toUInt32 >>> ((6 : Int32) &&& 31).toUInt32).toInt32) < 0 ∨ cl8.slots.size ≤ ((((f 0).toUInt32 >>> ((6 : Int32) &&& 31).toUInt32).toInt32)).toNatClampNeg) := inA S8 (own_wx (fc 0 (by decide))).1 (own_wx (fc 0 (by decide))).2
      obtain ⟨T8, h8, X8, e8, W8, st8⟩ := stJ X0 hx hZ e0 Ar8 (j := (((f 0).toUInt32 >>> ((6 : Int32) &&& 31).toUInt32).toInt32)) hin8 (g := (mkF m 66 #[.val (.ref a1), .val (.int p2), .val (.ref a3), .val (.int p4), .val (.int (0 : Int32))] [(.long ((g (own_j (f 0))) ||| ((1 : Int64) <<< ((f 0) &&& 0x3f).toInt64))), (.int (((f 0).toUInt32 >>> ((6 : Int32) &&& 31).toUInt32).toInt32)), (.ref a3)])) rfl rfl (hb hby d1_66)
      have V0_v8 := V0.other W8 hne
      have Z8 : n0 ≤ h8.size := Nat.le_trans Z0 (Nat.le_of_eq W8.size.symm)
      have K8 := K0.wr W8 (Or.inl (by simp))
      have V8_v8 := ArF.set Ar8 S8 H8 W8 hin8
      have N8 := Fr.snoc X8 N0 ga
      have VU9_v9 : ArF Z h8 a3 .long 1024 (fun i => .long ((own_st p4 (f 0) g) i)) := V8_v8.congr (fun i hi => own_stV p4 (f 0) g i _ (by rw [own_op, if_pos hc1_4]; rfl))
      obtain ⟨fs, hr, hrun, hended, hW, hsame⟩ := X8.leave (v := none) (fun _ => rfl)
      refine ⟨_, _, pre3 _ ?_, hrun, hended, _, _, rfl, ?_, ⟨_, rfl⟩, hW, hsame.mono (by decide) (by decide)⟩
      · show Steps p.tables e below (s₁.setTop (mkF m 1 #[.val (.ref a1), .val (.int p2), .val (.ref a3), .val (.int p4), .unset] [(.int p4)])) _
        refine XS.ifYes X0.here hx rfl (pc0 := 1) (pc' := 40) rfl (hb hby d1_1) rfl ((if0 _ _).trans (teq hc1_4).1) (by decide) (by decide) ?_
        show Steps p.tables e below (s₁.setTop (mkF m 40 #[.val (.ref a1), .val (.int p2), .val (.ref a3), .val (.int p4), .unset] [])) _
        refine XS.iconst X0.here hx rfl (hb hby d1_40) ?_
        show Steps p.tables e below (s₁.setTop (mkF m 41 #[.val (.ref a1), .val (.int p2), .val (.ref a3), .val (.int p4), .unset] [(.int (0 : Int32))])) _
        refine XS.istore X0.here hx rfl (hb hby d1_41) rfl (l' := #[.val (.ref a1), .val (.int p2), .val (.ref a3), .val (.int p4), .val (.int (0 : Int32))]) rfl ?_
        show Steps p.tables e below (s₁.setTop (mkF m 43 #[.val (.ref a1), .val (.int p2), .val (.ref a3), .val (.int p4), .val (.int (0 : Int32))] [])) _
        refine XS.iload X0.here hx rfl (hb hby d1_43) rfl ?_
        show Steps p.tables e below (s₁.setTop (mkF m 45 #[.val (.ref a1), .val (.int p2), .val (.ref a3), .val (.int p4), .val (.int (0 : Int32))] [(.int (0 : Int32))])) _
        refine XS.iloadN X0.here hx rfl (hb hby d1_45) rfl ?_
        show Steps p.tables e below (s₁.setTop (mkF m 46 #[.val (.ref a1), .val (.int p2), .val (.ref a3), .val (.int p4), .val (.int (0 : Int32))] [(.int p2), (.int (0 : Int32))])) _
        refine XS.icmpNo X0.here hx rfl (hb hby d1_46) rfl (tlt ((by rw [hk]; decide) : ((0 : Int32) < p2))).2.1 ?_
        show Steps p.tables e below (s₁.setTop (mkF m 49 #[.val (.ref a1), .val (.int p2), .val (.ref a3), .val (.int p4), .val (.int (0 : Int32))] [])) _
        refine XS.aloadN X0.here hx rfl (hb hby d1_49) rfl rfl ?_
        show Steps p.tables e below (s₁.setTop (mkF m 50 #[.val (.ref a1), .val (.int p2), .val (.ref a3), .val (.int p4), .val (.int (0 : Int32))] [(.ref a3)])) _
        refine XS.aloadN X0.here hx rfl (hb hby d1_50) rfl rfl ?_
        show Steps p.tables e below (s₁.setTop (mkF m 51 #[.val (.ref a1), .val (.int p2), .val (.ref a3), .val (.int p4), .val (.int (0 : Int32))] [(.ref a1), (.ref a3)])) _
        refine XS.iload X0.here hx rfl (hb hby d1_51) rfl ?_
        show Steps p.tables e below (s₁.setTop (mkF m 53 #[.val (.ref a1), .val (.int p2), .val (.ref a3), .val (.int p4), .val (.int (0 : Int32))] [(.int (0 : Int32)), (.ref a1), (.ref a3)])) _
        refine X0.caload hx (j := (0 : Int32)) (v := (.int (f 0))) (by rw [e0]; exact Ar5.1) (State.isArrayOf_alike hZ.alike Ar5.2.1) Ar5.2.2 hin5 hat5 (g := (mkF m 53 #[.val (.ref a1), .val (.int p2), .val (.ref a3), .val (.int p4), .val (.int (0 : Int32))] [(.int (0 : Int32)), (.ref a1), (.ref a3)])) rfl rfl (hb hby d1_53) _ ?_
        show Steps p.tables e below (s₁.setTop (mkF m 54 #[.val (.ref a1), .val (.int p2), .val (.ref a3), .val (.int p4), .val (.int (0 : Int32))] [(.int (f 0)), (.ref a3)])) _
        refine XS.bipush X0.here hx rfl (hb hby d1_54) ?_
        show Steps p.tables e below (s₁.setTop (mkF m 56 #[.val (.ref a1), .val (.int p2), .val (.ref a3), .val (.int p4), .val (.int (0 : Int32))] [(.int (6 : Int32)), (.int (f 0)), (.ref a3)])) _
        refine XS.iushr X0.here hx rfl (hb hby d1_56) rfl ?_
        show Steps p.tables e below (s₁.setTop (mkF m 57 #[.val (.ref a1), .val (.int p2), .val (.ref a3), .val (.int p4), .val (.int (0 : Int32))] [(.int (((f 0).toUInt32 >>> ((6 : Int32) &&& 31).toUInt32).toInt32)), (.ref a3)])) _
        refine Jvm.Free.XT.dup2 X0.here hx rfl (hb hby d1_57) rfl rfl rfl ?_
        show Steps p.tables e below (s₁.setTop (mkF m 58 #[.val (.ref a1), .val (.int p2), .val (.ref a3), .val (.int p4), .val (.int (0 : Int32))] [(.int (((f 0).toUInt32 >>> ((6 : Int32) &&& 31).toUInt32).toInt32)), (.ref a3), (.int (((f 0).toUInt32 >>> ((6 : Int32) &&& 31).toUInt32).toInt32)), (.ref a3)])) _
        refine X0.laload hx (j := (((f 0).toUInt32 >>> ((6 : Int32) &&& 31).toUInt32).toInt32)) (v := (.long (g (own_j (f 0))))) (by rw [e0]; exact Ar6.1) (State.isArrayOf_alike hZ.alike Ar6.2.1) Ar6.2.2 hin6 hat6 (g := (mkF m 58 #[.val (.ref a1), .val (.int p2), .val (.ref a3), .val (.int p4), .val (.int (0 : Int32))] [(.int (((f 0).toUInt32 >>> ((6 : Int32) &&& 31).toUInt32).toInt32)), (.ref a3), (.int (((f 0).toUInt32 >>> ((6 : Int32) &&& 31).toUInt32).toInt32)), (.ref a3)])) rfl rfl (hb hby d1_58) _ ?_
        show Steps p.tables e below (s₁.setTop (mkF m 59 #[.val (.ref a1), .val (.int p2), .val (.ref a3), .val (.int p4), .val (.int (0 : Int32))] [(.long (g (own_j (f 0)))), (.int (((f 0).toUInt32 >>> ((6 : Int32) &&& 31).toUInt32).toInt32)), (.ref a3)])) _
        refine XS.lconst X0.here hx rfl (hb hby d1_59) ?_
        show Steps p.tables e below (s₁.setTop (mkF m 60 #[.val (.ref a1), .val (.int p2), .val (.ref a3), .val (.int p4), .val (.int (0 : Int32))] [(.long (1 : Int64)), (.long (g (own_j (f 0)))), (.int (((f 0).toUInt32 >>> ((6 : Int32) &&& 31).toUInt32).toInt32)), (.ref a3)])) _
        refine XS.aloadN X0.here hx rfl (hb hby d1_60) rfl rfl ?_
        show Steps p.tables e below (s₁.setTop (mkF m 61 #[.val (.ref a1), .val (.int p2), .val (.ref a3), .val (.int p4), .val (.int (0 : Int32))] [(.ref a1), (.long (1 : Int64)), (.long (g (own_j (f 0)))), (.int (((f 0).toUInt32 >>> ((6 : Int32) &&& 31).toUInt32).toInt32)), (.ref a3)])) _
        refine XS.iload X0.here hx rfl (hb hby d1_61) rfl ?_
        show Steps p.tables e below (s₁.setTop (mkF m 63 #[.val (.ref a1), .val (.int p2), .val (.ref a3), .val (.int p4), .val (.int (0 : Int32))] [(.int (0 : Int32)), (.ref a1), (.long (1 : Int64)), (.long (g (own_j (f 0)))), (.int (((f 0).toUInt32 >>> ((6 : Int32) &&& 31).toUInt32).toInt32)), (.ref a3)])) _
        refine X0.caload hx (j := (0 : Int32)) (v := (.int (f 0))) (by rw [e0]; exact Ar7.1) (State.isArrayOf_alike hZ.alike Ar7.2.1) Ar7.2.2 hin7 hat7 (g := (mkF m 63 #[.val (.ref a1), .val (.int p2), .val (.ref a3), .val (.int p4), .val (.int (0 : Int32))] [(.int (0 : Int32)), (.ref a1), (.long (1 : Int64)), (.long (g (own_j (f 0)))), (.int (((f 0).toUInt32 >>> ((6 : Int32) &&& 31).toUInt32).toInt32)), (.ref a3)])) rfl rfl (hb hby d1_63) _ ?_
        show Steps p.tables e below (s₁.setTop (mkF m 64 #[.val (.ref a1), .val (.int p2), .val (.ref a3), .val (.int p4), .val (.int (0 : Int32))] [(.int (f 0)), (.long (1 : Int64)), (.long (g (own_j (f 0)))), (.int (((f 0).toUInt32 >>> ((6 : Int32) &&& 31).toUInt32).toInt32)), (.ref a3)])) _
        refine XS.lshl X0.here hx rfl (hb hby d1_64) rfl ?_
        show Steps p.tables e below (s₁.setTop (mkF m 65 #[.val (.ref a1), .val (.int p2), .val (.ref a3), .val (.int p4), .val (.int (0 : Int32))] [(.long ((1 : Int64) <<< ((f 0) &&& 0x3f).toInt64)), (.long (g (own_j (f 0)))), (.int (((f 0).toUInt32 >>> ((6 : Int32) &&& 31).toUInt32).toInt32)), (.ref a3)])) _
        refine XS.lor X0.here hx rfl (hb hby d1_65) rfl ?_
        show Steps p.tables e below (s₁.setTop (mkF m 66 #[.val (.ref a1), .val (.int p2), .val (.ref a3), .val (.int p4), .val (.int (0 : Int32))] [(.long ((g (own_j (f 0))) ||| ((1 : Int64) <<< ((f 0) &&& 0x3f).toInt64))), (.int (((f 0).toUInt32 >>> ((6 : Int32) &&& 31).toUInt32).toInt32)), (.ref a3)])) _
        refine st8 _ ?_
        show Steps p.tables e below (T8.setTop (mkF m 67 #[.val (.ref a1), .val (.int p2), .val (.ref a3), .val (.int p4), .val (.int (0 : Int32))] [])) _
        refine XS.iinc X8.here hx rfl (hb hby d1_67) rfl (l' := #[.val (.ref a1), .val (.int p2), .val (.ref a3), .val (.int p4), .val (.int (1 : Int32))]) rfl ?_
        show Steps p.tables e below (T8.setTop (mkF m 70 #[.val (.ref a1), .val (.int p2), .val (.ref a3), .val (.int p4), .val (.int (1 : Int32))] [])) _
        refine XS.goto X8.here hx rfl (pc0 := 70) (pc' := 43) rfl (hb hby d1_70) (by decide) (by decide) ?_
        show Steps p.tables e below (T8.setTop (mkF m 43 #[.val (.ref a1), .val (.int p2), .val (.ref a3), .val (.int p4), .val (.int (1 : Int32))] [])) _
        refine XS.iload X8.here hx rfl (hb hby d1_43) rfl ?_
        show Steps p.tables e below (T8.setTop (mkF m 45 #[.val (.ref a1), .val (.int p2), .val (.ref a3), .val (.int p4), .val (.int (1 : Int32))] [(.int (1 : Int32))])) _
        refine XS.iloadN X8.here hx rfl (hb hby d1_45) rfl ?_
        show Steps p.tables e below (T8.setTop (mkF m 46 #[.val (.ref a1), .val (.int p2), .val (.ref a3), .val (.int p4), .val (.int (1 : Int32))] [(.int p2), (.int (1 : Int32))])) _
        refine XS.icmpYes X8.here hx rfl (pc0 := 46) (pc' := 73) rfl (hb hby d1_46) rfl (flt ((by rw [hk]; decide) : ¬ ((1 : Int32) < p2))).2.1 (by decide) (by decide) ?_
        show Steps p.tables e below (T8.setTop (mkF m 73 #[.val (.ref a1), .val (.int p2), .val (.ref a3), .val (.int p4), .val (.int (1 : Int32))] [])) _
        exact X8.returnOut hx Bd.returns (hb hby d1_73) hr
      · show Q_rm1 Z a1 p2 a3 p4 f g h0 n0 _ T8.heap _
        rw [e8]
        exact ⟨rfl, N8, K8, (by rw [own_wr1 hk]; exact VU9_v9)⟩
    · obtain ⟨cl10, Ar10, S10, H10⟩ := id V0
      have hin10 : ¬ ((0 : Int32) < 0 ∨ cl10.slots.size ≤ ((0 : Int32)).toNatClampNeg) := inA S10 (by decide) (by decide)
      have hat10 : cl10.slots[((0 : Int32)).toNatClampNeg]? = some (.int (f 0)) := ArF.at S10 H10 hin10 rfl
      obtain ⟨cl11, Ar11, S11, H11⟩ := id W0
      have hin11 : ¬ ((((f 0).toUInt32 >>> ((6 : Int32) &&& 31).toUInt32).toInt32) < 0 ∨ cl11.slots.size ≤ ((((f 0).toUInt32 >>> ((6 : Int32) &&& 31).toUInt32).toInt32)).toNatClampNeg) := inA S11 (own_wx (fc 0 (by decide))).1 (own_wx (fc 0 (by decide))).2
      have hat11 : cl11.slots[((((f 0).toUInt32 >>> ((6 : Int32) &&& 31).toUInt32).toInt32)).toNatClampNeg]? = some (.long (g (own_j (f 0)))) := ArF.at S11 H11 hin11 rfl
      obtain ⟨cl12, Ar12, S12, H12⟩ := id V0
      have hin12 : ¬ ((0 : Int32) < 0 ∨ cl12.slots.size ≤ ((0 : Int32)).toNatClampNeg) := inA S12 (by decide) (by decide)
      have hat12 : cl12.slots[((0 : Int32)).toNatClampNeg]? = some (.int (f 0)) := ArF.at S12 H12 hin12 rfl
      obtain ⟨cl13, Ar13, S13, H13⟩ := id W0
      have hin13 : ¬ ((((f 0).toUInt32 >>> ((6 : Int32) &&& 31).toUInt32).toInt32) < 0 ∨ cl13.slots.size ≤ ((((f 0).toUInt32 >>> ((6 : Int32) &&& 31).toUInt32).toInt32)).toNatClampNeg) := inA S13 (own_wx (fc 0 (by decide))).1 (own_wx (fc 0 (by decide))).2
      obtain ⟨T13, h13, X13, e13, W13, st13⟩ := stJ X0 hx hZ e0 Ar13 (j := (((f 0).toUInt32 >>> ((6 : Int32) &&& 31).toUInt32).toInt32)) hin13 (g := (mkF m 30 #[.val (.ref a1), .val (.int p2), .val (.ref a3), .val (.int p4), .val (.int (0 : Int32))] [(.long ((g (own_j (f 0))) ^^^ ((1 : Int64) <<< ((f 0) &&& 0x3f).toInt64))), (.int (((f 0).toUInt32 >>> ((6 : Int32) &&& 31).toUInt32).toInt32)), (.ref a3)])) rfl rfl (hb hby d1_30)
      have V0_v13 := V0.other W13 hne
      have Z13 : n0 ≤ h13.size := Nat.le_trans Z0 (Nat.le_of_eq W13.size.symm)
      have K13 := K0.wr W13 (Or.inl (by simp))
      have V13_v13 := ArF.set Ar13 S13 H13 W13 hin13
      have N13 := Fr.snoc X13 N0 ga
      have VU14_v14 : ArF Z h13 a3 .long 1024 (fun i => .long ((own_st p4 (f 0) g) i)) := V13_v13.congr (fun i hi => own_stV p4 (f 0) g i _ (by rw [own_op, if_neg hc1_4]; rfl))
      obtain ⟨fs, hr, hrun, hended, hW, hsame⟩ := X13.leave (v := none) (fun _ => rfl)
      refine ⟨_, _, pre3 _ ?_, hrun, hended, _, _, rfl, ?_, ⟨_, rfl⟩, hW, hsame.mono (by decide) (by decide)⟩
      · show Steps p.tables e below (s₁.setTop (mkF m 1 #[.val (.ref a1), .val (.int p2), .val (.ref a3), .val (.int p4), .unset] [(.int p4)])) _
        refine XS.ifNo X0.here hx rfl (hb hby d1_1) rfl ((if0 _ _).trans (feq hc1_4).1) ?_
        show Steps p.tables e below (s₁.setTop (mkF m 4 #[.val (.ref a1), .val (.int p2), .val (.ref a3), .val (.int p4), .unset] [])) _
        refine XS.iconst X0.here hx rfl (hb hby d1_4) ?_
        show Steps p.tables e below (s₁.setTop (mkF m 5 #[.val (.ref a1), .val (.int p2), .val (.ref a3), .val (.int p4), .unset] [(.int (0 : Int32))])) _
        refine XS.istore X0.here hx rfl (hb hby d1_5) rfl (l' := #[.val (.ref a1), .val (.int p2), .val (.ref a3), .val (.int p4), .val (.int (0 : Int32))]) rfl ?_
        show Steps p.tables e below (s₁.setTop (mkF m 7 #[.val (.ref a1), .val (.int p2), .val (.ref a3), .val (.int p4), .val (.int (0 : Int32))] [])) _
        refine XS.iload X0.here hx rfl (hb hby d1_7) rfl ?_
        show Steps p.tables e below (s₁.setTop (mkF m 9 #[.val (.ref a1), .val (.int p2), .val (.ref a3), .val (.int p4), .val (.int (0 : Int32))] [(.int (0 : Int32))])) _
        refine XS.iloadN X0.here hx rfl (hb hby d1_9) rfl ?_
        show Steps p.tables e below (s₁.setTop (mkF m 10 #[.val (.ref a1), .val (.int p2), .val (.ref a3), .val (.int p4), .val (.int (0 : Int32))] [(.int p2), (.int (0 : Int32))])) _
        refine XS.icmpNo X0.here hx rfl (hb hby d1_10) rfl (tlt ((by rw [hk]; decide) : ((0 : Int32) < p2))).2.1 ?_
        show Steps p.tables e below (s₁.setTop (mkF m 13 #[.val (.ref a1), .val (.int p2), .val (.ref a3), .val (.int p4), .val (.int (0 : Int32))] [])) _
        refine XS.aloadN X0.here hx rfl (hb hby d1_13) rfl rfl ?_
        show Steps p.tables e below (s₁.setTop (mkF m 14 #[.val (.ref a1), .val (.int p2), .val (.ref a3), .val (.int p4), .val (.int (0 : Int32))] [(.ref a3)])) _
        refine XS.aloadN X0.here hx rfl (hb hby d1_14) rfl rfl ?_
        show Steps p.tables e below (s₁.setTop (mkF m 15 #[.val (.ref a1), .val (.int p2), .val (.ref a3), .val (.int p4), .val (.int (0 : Int32))] [(.ref a1), (.ref a3)])) _
        refine XS.iload X0.here hx rfl (hb hby d1_15) rfl ?_
        show Steps p.tables e below (s₁.setTop (mkF m 17 #[.val (.ref a1), .val (.int p2), .val (.ref a3), .val (.int p4), .val (.int (0 : Int32))] [(.int (0 : Int32)), (.ref a1), (.ref a3)])) _
        refine X0.caload hx (j := (0 : Int32)) (v := (.int (f 0))) (by rw [e0]; exact Ar10.1) (State.isArrayOf_alike hZ.alike Ar10.2.1) Ar10.2.2 hin10 hat10 (g := (mkF m 17 #[.val (.ref a1), .val (.int p2), .val (.ref a3), .val (.int p4), .val (.int (0 : Int32))] [(.int (0 : Int32)), (.ref a1), (.ref a3)])) rfl rfl (hb hby d1_17) _ ?_
        show Steps p.tables e below (s₁.setTop (mkF m 18 #[.val (.ref a1), .val (.int p2), .val (.ref a3), .val (.int p4), .val (.int (0 : Int32))] [(.int (f 0)), (.ref a3)])) _
        refine XS.bipush X0.here hx rfl (hb hby d1_18) ?_
        show Steps p.tables e below (s₁.setTop (mkF m 20 #[.val (.ref a1), .val (.int p2), .val (.ref a3), .val (.int p4), .val (.int (0 : Int32))] [(.int (6 : Int32)), (.int (f 0)), (.ref a3)])) _
        refine XS.iushr X0.here hx rfl (hb hby d1_20) rfl ?_
        show Steps p.tables e below (s₁.setTop (mkF m 21 #[.val (.ref a1), .val (.int p2), .val (.ref a3), .val (.int p4), .val (.int (0 : Int32))] [(.int (((f 0).toUInt32 >>> ((6 : Int32) &&& 31).toUInt32).toInt32)), (.ref a3)])) _
        refine Jvm.Free.XT.dup2 X0.here hx rfl (hb hby d1_21) rfl rfl rfl ?_
        show Steps p.tables e below (s₁.setTop (mkF m 22 #[.val (.ref a1), .val (.int p2), .val (.ref a3), .val (.int p4), .val (.int (0 : Int32))] [(.int (((f 0).toUInt32 >>> ((6 : Int32) &&& 31).toUInt32).toInt32)), (.ref a3), (.int (((f 0).toUInt32 >>> ((6 : Int32) &&& 31).toUInt32).toInt32)), (.ref a3)])) _
        refine X0.laload hx (j := (((f 0).toUInt32 >>> ((6 : Int32) &&& 31).toUInt32).toInt32)) (v := (.long (g (own_j (f 0))))) (by rw [e0]; exact Ar11.1) (State.isArrayOf_alike hZ.alike Ar11.2.1) Ar11.2.2 hin11 hat11 (g := (mkF m 22 #[.val (.ref a1), .val (.int p2), .val (.ref a3), .val (.int p4), .val (.int (0 : Int32))] [(.int (((f 0).toUInt32 >>> ((6 : Int32) &&& 31).toUInt32).toInt32)), (.ref a3), (.int (((f 0).toUInt32 >>> ((6 : Int32) &&& 31).toUInt32).toInt32)), (.ref a3)])) rfl rfl (hb hby d1_22) _ ?_
        show Steps p.tables e below (s₁.setTop (mkF m 23 #[.val (.ref a1), .val (.int p2), .val (.ref a3), .val (.int p4), .val (.int (0 : Int32))] [(.long (g (own_j (f 0)))), (.int (((f 0).toUInt32 >>> ((6 : Int32) &&& 31).toUInt32).toInt32)), (.ref a3)])) _
        refine XS.lconst X0.here hx rfl (hb hby d1_23) ?_
        show Steps p.tables e below (s₁.setTop (mkF m 24 #[.val (.ref a1), .val (.int p2), .val (.ref a3), .val (.int p4), .val (.int (0 : Int32))] [(.long (1 : Int64)), (.long (g (own_j (f 0)))), (.int (((f 0).toUInt32 >>> ((6 : Int32) &&& 31).toUInt32).toInt32)), (.ref a3)])) _
        refine XS.aloadN X0.here hx rfl (hb hby d1_24) rfl rfl ?_
        show Steps p.tables e below (s₁.setTop (mkF m 25 #[.val (.ref a1), .val (.int p2), .val (.ref a3), .val (.int p4), .val (.int (0 : Int32))] [(.ref a1), (.long (1 : Int64)), (.long (g (own_j (f 0)))), (.int (((f 0).toUInt32 >>> ((6 : Int32) &&& 31).toUInt32).toInt32)), (.ref a3)])) _
        refine XS.iload X0.here hx rfl (hb hby d1_25) rfl ?_
        show Steps p.tables e below (s₁.setTop (mkF m 27 #[.val (.ref a1), .val (.int p2), .val (.ref a3), .val (.int p4), .val (.int (0 : Int32))] [(.int (0 : Int32)), (.ref a1), (.long (1 : Int64)), (.long (g (own_j (f 0)))), (.int (((f 0).toUInt32 >>> ((6 : Int32) &&& 31).toUInt32).toInt32)), (.ref a3)])) _
        refine X0.caload hx (j := (0 : Int32)) (v := (.int (f 0))) (by rw [e0]; exact Ar12.1) (State.isArrayOf_alike hZ.alike Ar12.2.1) Ar12.2.2 hin12 hat12 (g := (mkF m 27 #[.val (.ref a1), .val (.int p2), .val (.ref a3), .val (.int p4), .val (.int (0 : Int32))] [(.int (0 : Int32)), (.ref a1), (.long (1 : Int64)), (.long (g (own_j (f 0)))), (.int (((f 0).toUInt32 >>> ((6 : Int32) &&& 31).toUInt32).toInt32)), (.ref a3)])) rfl rfl (hb hby d1_27) _ ?_
        show Steps p.tables e below (s₁.setTop (mkF m 28 #[.val (.ref a1), .val (.int p2), .val (.ref a3), .val (.int p4), .val (.int (0 : Int32))] [(.int (f 0)), (.long (1 : Int64)), (.long (g (own_j (f 0)))), (.int (((f 0).toUInt32 >>> ((6 : Int32) &&& 31).toUInt32).toInt32)), (.ref a3)])) _
        refine XS.lshl X0.here hx rfl (hb hby d1_28) rfl ?_
        show Steps p.tables e below (s₁.setTop (mkF m 29 #[.val (.ref a1), .val (.int p2), .val (.ref a3), .val (.int p4), .val (.int (0 : Int32))] [(.long ((1 : Int64) <<< ((f 0) &&& 0x3f).toInt64)), (.long (g (own_j (f 0)))), (.int (((f 0).toUInt32 >>> ((6 : Int32) &&& 31).toUInt32).toInt32)), (.ref a3)])) _
        refine XS.lxor X0.here hx rfl (hb hby d1_29) rfl ?_
        show Steps p.tables e below (s₁.setTop (mkF m 30 #[.val (.ref a1), .val (.int p2), .val (.ref a3), .val (.int p4), .val (.int (0 : Int32))] [(.long ((g (own_j (f 0))) ^^^ ((1 : Int64) <<< ((f 0) &&& 0x3f).toInt64))), (.int (((f 0).toUInt32 >>> ((6 : Int32) &&& 31).toUInt32).toInt32)), (.ref a3)])) _
        refine st13 _ ?_
        show Steps p.tables e below (T13.setTop (mkF m 31 #[.val (.ref a1), .val (.int p2), .val (.ref a3), .val (.int p4), .val (.int (0 : Int32))] [])) _
        refine XS.iinc X13.here hx rfl (hb hby d1_31) rfl (l' := #[.val (.ref a1), .val (.int p2), .val (.ref a3), .val (.int p4), .val (.int (1 : Int32))]) rfl ?_
        show Steps p.tables e below (T13.setTop (mkF m 34 #[.val (.ref a1), .val (.int p2), .val (.ref a3), .val (.int p4), .val (.int (1 : Int32))] [])) _
        refine XS.goto X13.here hx rfl (pc0 := 34) (pc' := 7) rfl (hb hby d1_34) (by decide) (by decide) ?_
        show Steps p.tables e below (T13.setTop (mkF m 7 #[.val (.ref a1), .val (.int p2), .val (.ref a3), .val (.int p4), .val (.int (1 : Int32))] [])) _
        refine XS.iload X13.here hx rfl (hb hby d1_7) rfl ?_
        show Steps p.tables e below (T13.setTop (mkF m 9 #[.val (.ref a1), .val (.int p2), .val (.ref a3), .val (.int p4), .val (.int (1 : Int32))] [(.int (1 : Int32))])) _
        refine XS.iloadN X13.here hx rfl (hb hby d1_9) rfl ?_
        show Steps p.tables e below (T13.setTop (mkF m 10 #[.val (.ref a1), .val (.int p2), .val (.ref a3), .val (.int p4), .val (.int (1 : Int32))] [(.int p2), (.int (1 : Int32))])) _
        refine XS.icmpYes X13.here hx rfl (pc0 := 10) (pc' := 37) rfl (hb hby d1_10) rfl (flt ((by rw [hk]; decide) : ¬ ((1 : Int32) < p2))).2.1 (by decide) (by decide) ?_
        show Steps p.tables e below (T13.setTop (mkF m 37 #[.val (.ref a1), .val (.int p2), .val (.ref a3), .val (.int p4), .val (.int (1 : Int32))] [])) _
        refine XS.goto X13.here hx rfl (pc0 := 37) (pc' := 73) rfl (hb hby d1_37) (by decide) (by decide) ?_
        show Steps p.tables e below (T13.setTop (mkF m 73 #[.val (.ref a1), .val (.int p2), .val (.ref a3), .val (.int p4), .val (.int (1 : Int32))] [])) _
        exact X13.returnOut hx Bd.returns (hb hby d1_73) hr
      · show Q_rm1 Z a1 p2 a3 p4 f g h0 n0 _ T13.heap _
        rw [e13]
        exact ⟨rfl, N13, K13, (by rw [own_wr1 hk]; exact VU14_v14)⟩
  · have pre15 : ∀ t, Steps p.tables e below (s₁.setTop (mkF m 1 #[.val (.ref a1), .val (.int p2), .val (.ref a3), .val (.int p4), .unset] [(.int p4)])) t → Steps p.tables e below (s₁.setTop (entryFrame m #[(.ref a1), (.int p2), (.ref a3), (.int p4)] 5)) t := by
      intro t k
      refine pre0 t ?_
      show Steps p.tables e below (s₁.setTop (mkF m 0 #[.val (.ref a1), .val (.int p2), .val (.ref a3), .val (.int p4), .unset] [])) _
      refine XS.iloadN X0.here hx rfl (hb hby d1_0) rfl ?_
      exact k
    by_cases hc1_16 : p4 = (0 : Int32)
    · obtain ⟨cl17, Ar17, S17, H17⟩ := id V0
      have hin17 : ¬ ((0 : Int32) < 0 ∨ cl17.slots.size ≤ ((0 : Int32)).toNatClampNeg) := inA S17 (by decide) (by decide)
      have hat17 : cl17.slots[((0 : Int32)).toNatClampNeg]? = some (.int (f 0)) := ArF.at S17 H17 hin17 rfl
      obtain ⟨cl18, Ar18, S18, H18⟩ := id W0
      have hin18 : ¬ ((((f 0).toUInt32 >>> ((6 : Int32) &&& 31).toUInt32).toInt32) < 0 ∨ cl18.slots.size ≤ ((((f 0).toUInt32 >>> ((6 : Int32) &&& 31).toUInt32).toInt32)).toNatClampNeg) := inA S18 (own_wx (fc 0 (by decide))).1 (own_wx (fc 0 (by decide))).2
      have hat18 : cl18.slots[((((f 0).toUInt32 >>> ((6 : Int32) &&& 31).toUInt32).toInt32)).toNatClampNeg]? = some (.long (g (own_j (f 0)))) := ArF.at S18 H18 hin18 rfl
      obtain ⟨cl19, Ar19, S19, H19⟩ := id V0
      have hin19 : ¬ ((0 : Int32) < 0 ∨ cl19.slots.size ≤ ((0 : Int32)).toNatClampNeg) := inA S19 (by decide) (by decide)
      have hat19 : cl19.slots[((0 : Int32)).toNatClampNeg]? = some (.int (f 0)) := ArF.at S19 H19 hin19 rfl
      obtain ⟨cl20, Ar20, S20, H20⟩ := id W0
      have hin20 : ¬ ((((f 0).toUInt32 >>> ((6 : Int32) &&& 31).toUInt32).toInt32) < 0 ∨ cl20.slots.size ≤ ((((f 0).toUInt32 >>> ((6 : Int32) &&& 31).toUInt32).toInt32)).toNatClampNeg) := inA S20 (own_wx (fc 0 (by decide))).1 (own_wx (fc 0 (by decide))).2
      obtain ⟨T20, h20, X20, e20, W20, st20⟩ := stJ X0 hx hZ e0 Ar20 (j := (((f 0).toUInt32 >>> ((6 : Int32) &&& 31).toUInt32).toInt32)) hin20 (g := (mkF m 66 #[.val (.ref a1), .val (.int p2), .val (.ref a3), .val (.int p4), .val (.int (0 : Int32))] [(.long ((g (own_j (f 0))) ||| ((1 : Int64) <<< ((f 0) &&& 0x3f).toInt64))), (.int (((f 0).toUInt32 >>> ((6 : Int32) &&& 31).toUInt32).toInt32)), (.ref a3)])) rfl rfl (hb hby d1_66)
      have V0_v20 := V0.other W20 hne
      have Z20 : n0 ≤ h20.size := Nat.le_trans Z0 (Nat.le_of_eq W20.size.symm)
      have K20 := K0.wr W20 (Or.inl (by simp))
      have V20_v20 := ArF.set Ar20 S20 H20 W20 hin20
      have N20 := Fr.snoc X20 N0 ga
      have VU21_v21 : ArF Z h20 a3 .long 1024 (fun i => .long ((own_st p4 (f 0) g) i)) := V20_v20.congr (fun i hi => own_stV p4 (f 0) g i _ (by rw [own_op, if_pos hc1_16]; rfl))
      obtain ⟨cl22, Ar22, S22, H22⟩ := id V0_v20
      have hin22 : ¬ ((1 : Int32) < 0 ∨ cl22.slots.size ≤ ((1 : Int32)).toNatClampNeg) := inA S22 (by decide) (by decide)
      have hat22 : cl22.slots[((1 : Int32)).toNatClampNeg]? = some (.int (f 1)) := ArF.at S22 H22 hin22 rfl
      obtain ⟨cl23, Ar23, S23, H23⟩ := id VU21_v21
      have hin23 : ¬ ((((f 1).toUInt32 >>> ((6 : Int32) &&& 31).toUInt32).toInt32) < 0 ∨ cl23.slots.size ≤ ((((f 1).toUInt32 >>> ((6 : Int32) &&& 31).toUInt32).toInt32)).toNatClampNeg) := inA S23 (own_wx (fc 1 (by decide))).1 (own_wx (fc 1 (by decide))).2
      have hat23 : cl23.slots[((((f 1).toUInt32 >>> ((6 : Int32) &&& 31).toUInt32).toInt32)).toNatClampNeg]? = some (.long ((own_st p4 (f 0) g) (own_j (f 1)))) := ArF.at S23 H23 hin23 rfl
      obtain ⟨cl24, Ar24, S24, H24⟩ := id V0_v20
      have hin24 : ¬ ((1 : Int32) < 0 ∨ cl24.slots.size ≤ ((1 : Int32)).toNatClampNeg) := inA S24 (by decide) (by decide)
      have hat24 : cl24.slots[((1 : Int32)).toNatClampNeg]? = some (.int (f 1)) := ArF.at S24 H24 hin24 rfl
      obtain ⟨cl25, Ar25, S25, H25⟩ := id VU21_v21
      have hin25 : ¬ ((((f 1).toUInt32 >>> ((6 : Int32) &&& 31).toUInt32).toInt32) < 0 ∨ cl25.slots.size ≤ ((((f 1).toUInt32 >>> ((6 : Int32) &&& 31).toUInt32).toInt32)).toNatClampNeg) := inA S25 (own_wx (fc 1 (by decide))).1 (own_wx (fc 1 (by decide))).2
      obtain ⟨T25, h25, X25, e25, W25, st25⟩ := stJ X20 hx hZ e20 Ar25 (j := (((f 1).toUInt32 >>> ((6 : Int32) &&& 31).toUInt32).toInt32)) hin25 (g := (mkF m 66 #[.val (.ref a1), .val (.int p2), .val (.ref a3), .val (.int p4), .val (.int (1 : Int32))] [(.long (((own_st p4 (f 0) g) (own_j (f 1))) ||| ((1 : Int64) <<< ((f 1) &&& 0x3f).toInt64))), (.int (((f 1).toUInt32 >>> ((6 : Int32) &&& 31).toUInt32).toInt32)), (.ref a3)])) rfl rfl (hb hby d1_66)
      have V0_v25 := V0_v20.other W25 hne
      have Z25 : n0 ≤ h25.size := Nat.le_trans Z20 (Nat.le_of_eq W25.size.symm)
      have K25 := K20.wr W25 (Or.inl (by simp))
      have V25_v25 := ArF.set Ar25 S25 H25 W25 hin25
      have N25 := Fr.snoc X25 N20 ga
      have VU26_v26 : ArF Z h25 a3 .long 1024 (fun i => .long ((own_st p4 (f 1) (own_st p4 (f 0) g)) i)) := V25_v25.congr (fun i hi => own_stV p4 (f 1) (own_st p4 (f 0) g) i _ (by rw [own_op, if_pos hc1_16]; rfl))
      obtain ⟨fs, hr, hrun, hended, hW, hsame⟩ := X25.leave (v := none) (fun _ => rfl)
      refine ⟨_, _, pre15 _ ?_, hrun, hended, _, _, rfl, ?_, ⟨_, rfl⟩, hW, hsame.mono (by decide) (by decide)⟩
      · show Steps p.tables e below (s₁.setTop (mkF m 1 #[.val (.ref a1), .val (.int p2), .val (.ref a3), .val (.int p4), .unset] [(.int p4)])) _
        refine XS.ifYes X0.here hx rfl (pc0 := 1) (pc' := 40) rfl (hb hby d1_1) rfl ((if0 _ _).trans (teq hc1_16).1) (by decide) (by decide) ?_
        show Steps p.tables e below (s₁.setTop (mkF m 40 #[.val (.ref a1), .val (.int p2), .val (.ref a3), .val (.int p4), .unset] [])) _
        refine XS.iconst X0.here hx rfl (hb hby d1_40) ?_
        show Steps p.tables e below (s₁.setTop (mkF m 41 #[.val (.ref a1), .val (.int p2), .val (.ref a3), .val (.int p4), .unset] [(.int (0 : Int32))])) _
        refine XS.istore X0.here hx rfl (hb hby d1_41) rfl (l' := #[.val (.ref a1), .val (.int p2), .val (.ref a3), .val (.int p4), .val (.int (0 : Int32))]) rfl ?_
        show Steps p.tables e below (s₁.setTop (mkF m 43 #[.val (.ref a1), .val (.int p2), .val (.ref a3), .val (.int p4), .val (.int (0 : Int32))] [])) _
        refine XS.iload X0.here hx rfl (hb hby d1_43) rfl ?_
        show Steps p.tables e below (s₁.setTop (mkF m 45 #[.val (.ref a1), .val (.int p2), .val (.ref a3), .val (.int p4), .val (.int (0 : Int32))] [(.int (0 : Int32))])) _
        refine XS.iloadN X0.here hx rfl (hb hby d1_45) rfl ?_
        show Steps p.tables e below (s₁.setTop (mkF m 46 #[.val (.ref a1), .val (.int p2), .val (.ref a3), .val (.int p4), .val (.int (0 : Int32))] [(.int p2), (.int (0 : Int32))])) _
        refine XS.icmpNo X0.here hx rfl (hb hby d1_46) rfl (tlt ((by rw [hk]; decide) : ((0 : Int32) < p2))).2.1 ?_
        show Steps p.tables e below (s₁.setTop (mkF m 49 #[.val (.ref a1), .val (.int p2), .val (.ref a3), .val (.int p4), .val (.int (0 : Int32))] [])) _
        refine XS.aloadN X0.here hx rfl (hb hby d1_49) rfl rfl ?_
        show Steps p.tables e below (s₁.setTop (mkF m 50 #[.val (.ref a1), .val (.int p2), .val (.ref a3), .val (.int p4), .val (.int (0 : Int32))] [(.ref a3)])) _
        refine XS.aloadN X0.here hx rfl (hb hby d1_50) rfl rfl ?_
        show Steps p.tables e below (s₁.setTop (mkF m 51 #[.val (.ref a1), .val (.int p2), .val (.ref a3), .val (.int p4), .val (.int (0 : Int32))] [(.ref a1), (.ref a3)])) _
        refine XS.iload X0.here hx rfl (hb hby d1_51) rfl ?_
        show Steps p.tables e below (s₁.setTop (mkF m 53 #[.val (.ref a1), .val (.int p2), .val (.ref a3), .val (.int p4), .val (.int (0 : Int32))] [(.int (0 : Int32)), (.ref a1), (.ref a3)])) _
        refine X0.caload hx (j := (0 : Int32)) (v := (.int (f 0))) (by rw [e0]; exact Ar17.1) (State.isArrayOf_alike hZ.alike Ar17.2.1) Ar17.2.2 hin17 hat17 (g := (mkF m 53 #[.val (.ref a1), .val (.int p2), .val (.ref a3), .val (.int p4), .val (.int (0 : Int32))] [(.int (0 : Int32)), (.ref a1), (.ref a3)])) rfl rfl (hb hby d1_53) _ ?_
        show Steps p.tables e below (s₁.setTop (mkF m 54 #[.val (.ref a1), .val (.int p2), .val (.ref a3), .val (.int p4), .val (.int (0 : Int32))] [(.int (f 0)), (.ref a3)])) _
        refine XS.bipush X0.here hx rfl (hb hby d1_54) ?_
        show Steps p.tables e below (s₁.setTop (mkF m 56 #[.val (.ref a1), .val (.int p2), .val (.ref a3), .val (.int p4), .val (.int (0 : Int32))] [(.int (6 : Int32)), (.int (f 0)), (.ref a3)])) _
        refine XS.iushr X0.here hx rfl (hb hby d1_56) rfl ?_
        show Steps p.tables e below (s₁.setTop (mkF m 57 #[.val (.ref a1), .val (.int p2), .val (.ref a3), .val (.int p4), .val (.int (0 : Int32))] [(.int (((f 0).toUInt32 >>> ((6 : Int32) &&& 31).toUInt32).toInt32)), (.ref a3)])) _
        refine Jvm.Free.XT.dup2 X0.here hx rfl (hb hby d1_57) rfl rfl rfl ?_
        show Steps p.tables e below (s₁.setTop (mkF m 58 #[.val (.ref a1), .val (.int p2), .val (.ref a3), .val (.int p4), .val (.int (0 : Int32))] [(.int (((f 0).toUInt32 >>> ((6 : Int32) &&& 31).toUInt32).toInt32)), (.ref a3), (.int (((f 0).toUInt32 >>> ((6 : Int32) &&& 31).toUInt32).toInt32)), (.ref a3)])) _
        refine X0.laload hx (j := (((f 0).toUInt32 >>> ((6 : Int32) &&& 31).toUInt32).toInt32)) (v := (.long (g (own_j (f 0))))) (by rw [e0]; exact Ar18.1) (State.isArrayOf_alike hZ.alike Ar18.2.1) Ar18.2.2 hin18 hat18 (g := (mkF m 58 #[.val (.ref a1), .val (.int p2), .val (.ref a3), .val (.int p4), .val (.int (0 : Int32))] [(.int (((f 0).toUInt32 >>> ((6 : Int32) &&& 31).toUInt32).toInt32)), (.ref a3), (.int (((f 0).toUInt32 >>> ((6 : Int32) &&& 31).toUInt32).toInt32)), (.ref a3)])) rfl rfl (hb hby d1_58) _ ?_
        show Steps p.tables e below (s₁.setTop (mkF m 59 #[.val (.ref a1), .val (.int p2), .val (.ref a3), .val (.int p4), .val (.int (0 : Int32))] [(.long (g (own_j (f 0)))), (.int (((f 0).toUInt32 >>> ((6 : Int32) &&& 31).toUInt32).toInt32)), (.ref a3)])) _
        refine XS.lconst X0.here hx rfl (hb hby d1_59) ?_
        show Steps p.tables e below (s₁.setTop (mkF m 60 #[.val (.ref a1), .val (.int p2), .val (.ref a3), .val (.int p4), .val (.int (0 : Int32))] [(.long (1 : Int64)), (.long (g (own_j (f 0)))), (.int (((f 0).toUInt32 >>> ((6 : Int32) &&& 31).toUInt32).toInt32)), (.ref a3)])) _
        refine XS.aloadN X0.here hx rfl (hb hby d1_60) rfl rfl ?_
        show Steps p.tables e below (s₁.setTop (mkF m 61 #[.val (.ref a1), .val (.int p2), .val (.ref a3), .val (.int p4), .val (.int (0 : Int32))] [(.ref a1), (.long (1 : Int64)), (.long (g (own_j (f 0)))), (.int (((f 0).toUInt32 >>> ((6 : Int32) &&& 31).toUInt32).toInt32)), (.ref a3)])) _
        refine XS.iload X0.here hx rfl (hb hby d1_61) rfl ?_
        show Steps p.tables e below (s₁.setTop (mkF m 63 #[.val (.ref a1), .val (.int p2), .val (.ref a3), .val (.int p4), .val (.int (0 : Int32))] [(.int (0 : Int32)), (.ref a1), (.long (1 : Int64)), (.long (g (own_j (f 0)))), (.int (((f 0).toUInt32 >>> ((6 : Int32) &&& 31).toUInt32).toInt32)), (.ref a3)])) _
        refine X0.caload hx (j := (0 : Int32)) (v := (.int (f 0))) (by rw [e0]; exact Ar19.1) (State.isArrayOf_alike hZ.alike Ar19.2.1) Ar19.2.2 hin19 hat19 (g := (mkF m 63 #[.val (.ref a1), .val (.int p2), .val (.ref a3), .val (.int p4), .val (.int (0 : Int32))] [(.int (0 : Int32)), (.ref a1), (.long (1 : Int64)), (.long (g (own_j (f 0)))), (.int (((f 0).toUInt32 >>> ((6 : Int32) &&& 31).toUInt32).toInt32)), (.ref a3)])) rfl rfl (hb hby d1_63) _ ?_
        show Steps p.tables e below (s₁.setTop (mkF m 64 #[.val (.ref a1), .val (.int p2), .val (.ref a3), .val (.int p4), .val (.int (0 : Int32))] [(.int (f 0)), (.long (1 : Int64)), (.long (g (own_j (f 0)))), (.int (((f 0).toUInt32 >>> ((6 : Int32) &&& 31).toUInt32).toInt32)), (.ref a3)])) _
        refine XS.lshl X0.here hx rfl (hb hby d1_64) rfl ?_
        show Steps p.tables e below (s₁.setTop (mkF m 65 #[.val (.ref a1), .val (.int p2), .val (.ref a3), .val (.int p4), .val (.int (0 : Int32))] [(.long ((1 : Int64) <<< ((f 0) &&& 0x3f).toInt64)), (.long (g (own_j (f 0)))), (.int (((f 0).toUInt32 >>> ((6 : Int32) &&& 31).toUInt32).toInt32)), (.ref a3)])) _
        refine XS.lor X0.here hx rfl (hb hby d1_65) rfl ?_
        show Steps p.tables e below (s₁.setTop (mkF m 66 #[.val (.ref a1), .val (.int p2), .val (.ref a3), .val (.int p4), .val (.int (0 : Int32))] [(.long ((g (own_j (f 0))) ||| ((1 : Int64) <<< ((f 0) &&& 0x3f).toInt64))), (.int (((f 0).toUInt32 >>> ((6 : Int32) &&& 31).toUInt32).toInt32)), (.ref a3)])) _
        refine st20 _ ?_
        show Steps p.tables e below (T20.setTop (mkF m 67 #[.val (.ref a1), .val (.int p2), .val (.ref a3), .val (.int p4), .val (.int (0 : Int32))] [])) _
        refine XS.iinc X20.here hx rfl (hb hby d1_67) rfl (l' := #[.val (.ref a1), .val (.int p2), .val (.ref a3), .val (.int p4), .val (.int (1 : Int32))]) rfl ?_
        show Steps p.tables e below (T20.setTop (mkF m 70 #[.val (.ref a1), .val (.int p2), .val (.ref a3), .val (.int p4), .val (.int (1 : Int32))] [])) _
        refine XS.goto X20.here hx rfl (pc0 := 70) (pc' := 43) rfl (hb hby d1_70) (by decide) (by decide) ?_
        show Steps p.tables e below (T20.setTop (mkF m 43 #[.val (.ref a1), .val (.int p2), .val (.ref a3), .val (.int p4), .val (.int (1 : Int32))] [])) _
        refine XS.iload X20.here hx rfl (hb hby d1_43) rfl ?_
        show Steps p.tables e below (T20.setTop (mkF m 45 #[.val (.ref a1), .val (.int p2), .val (.ref a3), .val (.int p4), .val (.int (1 : Int32))] [(.int (1 : Int32))])) _
        refine XS.iloadN X20.here hx rfl (hb hby d1_45) rfl ?_
        show Steps p.tables e below (T20.setTop (mkF m 46 #[.val (.ref a1), .val (.int p2), .val (.ref a3), .val (.int p4), .val (.int (1 : Int32))] [(.int p2), (.int (1 : Int32))])) _
        refine XS.icmpNo X20.here hx rfl (hb hby d1_46) rfl (tlt ((by rw [hk]; decide) : ((1 : Int32) < p2))).2.1 ?_
        show Steps p.tables e below (T20.setTop (mkF m 49 #[.val (.ref a1), .val (.int p2), .val (.ref a3), .val (.int p4), .val (.int (1 : Int32))] [])) _
        refine XS.aloadN X20.here hx rfl (hb hby d1_49) rfl rfl ?_
        show Steps p.tables e below (T20.setTop (mkF m 50 #[.val (.ref a1), .val (.int p2), .val (.ref a3), .val (.int p4), .val (.int (1 : Int32))] [(.ref a3)])) _
        refine XS.aloadN X20.here hx rfl (hb hby d1_50) rfl rfl ?_
        show Steps p.tables e below (T20.setTop (mkF m 51 #[.val (.ref a1), .val (.int p2), .val (.ref a3), .val (.int p4), .val (.int (1 : Int32))] [(.ref a1), (.ref a3)])) _
        refine XS.iload X20.here hx rfl (hb hby d1_51) rfl ?_
        show Steps p.tables e below (T20.setTop (mkF m 53 #[.val (.ref a1), .val (.int p2), .val (.ref a3), .val (.int p4), .val (.int (1 : Int32))] [(.int (1 : Int32)), (.ref a1), (.ref a3)])) _
        refine X20.caload hx (j := (1 : Int32)) (v := (.int (f 1))) (by rw [e20]; exact Ar22.1) (State.isArrayOf_alike hZ.alike Ar22.2.1) Ar22.2.2 hin22 hat22 (g := (mkF m 53 #[.val (.ref a1), .val (.int p2), .val (.ref a3), .val (.int p4), .val (.int (1 : Int32))] [(.int (1 : Int32)), (.ref a1), (.ref a3)])) rfl rfl (hb hby d1_53) _ ?_
        show Steps p.tables e below (T20.setTop (mkF m 54 #[.val (.ref a1), .val (.int p2), .val (.ref a3), .val (.int p4), .val (.int (1 : Int32))] [(.int (f 1)), (.ref a3)])) _
        refine XS.bipush X20.here hx rfl (hb hby d1_54) ?_
        show Steps p.tables e below (T20.setTop (mkF m 56 #[.val (.ref a1), .val (.int p2), .val (.ref a3), .val (.int p4), .val (.int (1 : Int32))] [(.int (6 : Int32)), (.int (f 1)), (.ref a3)])) _
        refine XS.iushr X20.here hx rfl (hb hby d1_56) rfl ?_
        show Steps p.tables e below (T20.setTop (mkF m 57 #[.val (.ref a1), .val (.int p2), .val (.ref a3), .val (.int p4), .val (.int (1 : Int32))] [(.int (((f 1).toUInt32 >>> ((6 : Int32) &&& 31).toUInt32).toInt32)), (.ref a3)])) _
        refine Jvm.Free.XT.dup2 X20.here hx rfl (hb hby d1_57) rfl rfl rfl ?_
        show Steps p.tables e below (T20.setTop (mkF m 58 #[.val (.ref a1), .val (.int p2), .val (.ref a3), .val (.int p4), .val (.int (1 : Int32))] [(.int (((f 1).toUInt32 >>> ((6 : Int32) &&& 31).toUInt32).toInt32)), (.ref a3), (.int (((f 1).toUInt32 >>> ((6 : Int32) &&& 31).toUInt32).toInt32)), (.ref a3)])) _
        refine X20.laload hx (j := (((f 1).toUInt32 >>> ((6 : Int32) &&& 31).toUInt32).toInt32)) (v := (.long ((own_st p4 (f 0) g) (own_j (f 1))))) (by rw [e20]; exact Ar23.1) (State.isArrayOf_alike hZ.alike Ar23.2.1) Ar23.2.2 hin23 hat23 (g := (mkF m 58 #[.val (.ref a1), .val (.int p2), .val (.ref a3), .val (.int p4), .val (.int (1 : Int32))] [(.int (((f 1).toUInt32 >>> ((6 : Int32) &&& 31).toUInt32).toInt32)), (.ref a3), (.int (((f 1).toUInt32 >>> ((6 : Int32) &&& 31).toUInt32).toInt32)), (.ref a3)])) rfl rfl (hb hby d1_58) _ ?_
        show Steps p.tables e below (T20.setTop (mkF m 59 #[.val (.ref a1), .val (.int p2), .val (.ref a3), .val (.int p4), .val (.int (1 : Int32))] [(.long ((own_st p4 (f 0) g) (own_j (f 1)))), (.int (((f 1).toUInt32 >>> ((6 : Int32) &&& 31).toUInt32).toInt32)), (.ref a3)])) _
        refine XS.lconst X20.here hx rfl (hb hby d1_59) ?_
        show Steps p.tables e below (T20.setTop (mkF m 60 #[.val (.ref a1), .val (.int p2), .val (.ref a3), .val (.int p4), .val (.int (1 : Int32))] [(.long (1 : Int64)), (.long ((own_st p4 (f 0) g) (own_j (f 1)))), (.int (((f 1).toUInt32 >>> ((6 : Int32) &&& 31).toUInt32).toInt32)), (.ref a3)])) _
        refine XS.aloadN X20.here hx rfl (hb hby d1_60) rfl rfl ?_
        show Steps p.tables e below (T20.setTop (mkF m 61 #[.val (.ref a1), .val (.int p2), .val (.ref a3), .val (.int p4), .val (.int (1 : Int32))] [(.ref a1), (.long (1 : Int64)), (.long ((own_st p4 (f 0) g) (own_j (f 1)))), (.int (((f 1).toUInt32 >>> ((6 : Int32) &&& 31).toUInt32).toInt32)), (.ref a3)])) _
        refine XS.iload X20.here hx rfl (hb hby d1_61) rfl ?_
        show Steps p.tables e below (T20.setTop (mkF m 63 #[.val (.ref a1), .val (.int p2), .val (.ref a3), .val (.int p4), .val (.int (1 : Int32))] [(.int (1 : Int32)), (.ref a1), (.long (1 : Int64)), (.long ((own_st p4 (f 0) g) (own_j (f 1)))), (.int (((f 1).toUInt32 >>> ((6 : Int32) &&& 31).toUInt32).toInt32)), (.ref a3)])) _
        refine X20.caload hx (j := (1 : Int32)) (v := (.int (f 1))) (by rw [e20]; exact Ar24.1) (State.isArrayOf_alike hZ.alike Ar24.2.1) Ar24.2.2 hin24 hat24 (g := (mkF m 63 #[.val (.ref a1), .val (.int p2), .val (.ref a3), .val (.int p4), .val (.int (1 : Int32))] [(.int (1 : Int32)), (.ref a1), (.long (1 : Int64)), (.long ((own_st p4 (f 0) g) (own_j (f 1)))), (.int (((f 1).toUInt32 >>> ((6 : Int32) &&& 31).toUInt32).toInt32)), (.ref a3)])) rfl rfl (hb hby d1_63) _ ?_
        show Steps p.tables e below (T20.setTop (mkF m 64 #[.val (.ref a1), .val (.int p2), .val (.ref a3), .val (.int p4), .val (.int (1 : Int32))] [(.int (f 1)), (.long (1 : Int64)), (.long ((own_st p4 (f 0) g) (own_j (f 1)))), (.int (((f 1).toUInt32 >>> ((6 : Int32) &&& 31).toUInt32).toInt32)), (.ref a3)])) _
        refine XS.lshl X20.here hx rfl (hb hby d1_64) rfl ?_
        show Steps p.tables e below (T20.setTop (mkF m 65 #[.val (.ref a1), .val (.int p2), .val (.ref a3), .val (.int p4), .val (.int (1 : Int32))] [(.long ((1 : Int64) <<< ((f 1) &&& 0x3f).toInt64)), (.long ((own_st p4 (f 0) g) (own_j (f 1)))), (.int (((f 1).toUInt32 >>> ((6 : Int32) &&& 31).toUInt32).toInt32)), (.ref a3)])) _
        refine XS.lor X20.here hx rfl (hb hby d1_65) rfl ?_
        show Steps p.tables e below (T20.setTop (mkF m 66 #[.val (.ref a1), .val (.int p2), .val (.ref a3), .val (.int p4), .val (.int (1 : Int32))] [(.long (((own_st p4 (f 0) g) (own_j (f 1))) ||| ((1 : Int64) <<< ((f 1) &&& 0x3f).toInt64))), (.int (((f 1).toUInt32 >>> ((6 : Int32) &&& 31).toUInt32).toInt32)), (.ref a3)])) _
        refine st25 _ ?_
        show Steps p.tables e below (T25.setTop (mkF m 67 #[.val (.ref a1), .val (.int p2), .val (.ref a3), .val (.int p4), .val (.int (1 : Int32))] [])) _
        refine XS.iinc X25.here hx rfl (hb hby d1_67) rfl (l' := #[.val (.ref a1), .val (.int p2), .val (.ref a3), .val (.int p4), .val (.int (2 : Int32))]) rfl ?_
        show Steps p.tables e below (T25.setTop (mkF m 70 #[.val (.ref a1), .val (.int p2), .val (.ref a3), .val (.int p4), .val (.int (2 : Int32))] [])) _
        refine XS.goto X25.here hx rfl (pc0 := 70) (pc' := 43) rfl (hb hby d1_70) (by decide) (by decide) ?_
        show Steps p.tables e below (T25.setTop (mkF m 43 #[.val (.ref a1), .val (.int p2), .val (.ref a3), .val (.int p4), .val (.int (2 : Int32))] [])) _
        refine XS.iload X25.here hx rfl (hb hby d1_43) rfl ?_
        show Steps p.tables e below (T25.setTop (mkF m 45 #[.val (.ref a1), .val (.int p2), .val (.ref a3), .val (.int p4), .val (.int (2 : Int32))] [(.int (2 : Int32))])) _
        refine XS.iloadN X25.here hx rfl (hb hby d1_45) rfl ?_
        show Steps p.tables e below (T25.setTop (mkF m 46 #[.val (.ref a1), .val (.int p2), .val (.ref a3), .val (.int p4), .val (.int (2 : Int32))] [(.int p2), (.int (2 : Int32))])) _
        refine XS.icmpYes X25.here hx rfl (pc0 := 46) (pc' := 73) rfl (hb hby d1_46) rfl (flt ((by rw [hk]; decide) : ¬ ((2 : Int32) < p2))).2.1 (by decide) (by decide) ?_
        show Steps p.tables e below (T25.setTop (mkF m 73 #[.val (.ref a1), .val (.int p2), .val (.ref a3), .val (.int p4), .val (.int (2 : Int32))] [])) _
        exact X25.returnOut hx Bd.returns (hb hby d1_73) hr
      · show Q_rm1 Z a1 p2 a3 p4 f g h0 n0 _ T25.heap _
        rw [e25]
        exact ⟨rfl, N25, K25, (by rw [own_wr2 hk]; exact VU26_v26)⟩
    · obtain ⟨cl27, Ar27, S27, H27⟩ := id V0
      have hin27 : ¬ ((0 : Int32) < 0 ∨ cl27.slots.size ≤ ((0 : Int32)).toNatClampNeg) := inA S27 (by decide) (by decide)
      have hat27 : cl27.slots[((0 : Int32)).toNatClampNeg]? = some (.int (f 0)) := ArF.at S27 H27 hin27 rfl
      obtain ⟨cl28, Ar28, S28, H28⟩ := id W0
      have hin28 : ¬ ((((f 0).toUInt32 >>> ((6 : Int32) &&& 31).toUInt32).toInt32) < 0 ∨ cl28.slots.size ≤ ((((f 0).toUInt32 >>> ((6 : Int32) &&& 31).toUInt32).toInt32)).toNatClampNeg) := inA S28 (own_wx (fc 0 (by decide))).1 (own_wx (fc 0 (by decide))).2
      have hat28 : cl28.slots[((((f 0).toUInt32 >>> ((6 : Int32) &&& 31).toUInt32).toInt32)).toNatClampNeg]? = some (.long (g (own_j (f 0)))) := ArF.at S28 H28 hin28 rfl
      obtain ⟨cl29, Ar29, S29, H29⟩ := id V0
      have hin29 : ¬ ((0 : Int32) < 0 ∨ cl29.slots.size ≤ ((0 : Int32)).toNatClampNeg) := inA S29 (by decide) (by decide)
      have hat29 : cl29.slots[((0 : Int32)).toNatClampNeg]? = some (.int (f 0)) := ArF.at S29 H29 hin29 rfl
      obtain ⟨cl30, Ar30, S30, H30⟩ := id W0
      have hin30 : ¬ ((((f 0).toUInt32 >>> ((6 : Int32) &&& 31).toUInt32).toInt32) < 0 ∨ cl30.slots.size ≤ ((((f 0).toUInt32 >>> ((6 : Int32) &&& 31).toUInt32).toInt32)).toNatClampNeg) := inA S30 (own_wx (fc 0 (by decide))).1 (own_wx (fc 0 (by decide))).2
      obtain ⟨T30, h30, X30, e30, W30, st30⟩ := stJ X0 hx hZ e0 Ar30 (j := (((f 0).toUInt32 >>> ((6 : Int32) &&& 31).toUInt32).toInt32)) hin30 (g := (mkF m 30 #[.val (.ref a1), .val (.int p2), .val (.ref a3), .val (.int p4), .val (.int (0 : Int32))] [(.long ((g (own_j (f 0))) ^^^ ((1 : Int64) <<< ((f 0) &&& 0x3f).toInt64))), (.int (((f 0).toUInt32 >>> ((6 : Int32) &&& 31).toUInt32).toInt32)), (.ref a3)])) rfl rfl (hb hby d1_30)
      have V0_v30 := V0.other W30 hne
      have Z30 : n0 ≤ h30.size := Nat.le_trans Z0 (Nat.le_of_eq W30.size.symm)
      have K30 := K0.wr W30 (Or.inl (by simp))
      have V30_v30 := ArF.set Ar30 S30 H30 W30 hin30
      have N30 := Fr.snoc X30 N0 ga
      have VU31_v31 : ArF Z h30 a3 .long 1024 (fun i => .long ((own_st p4 (f 0) g) i)) := V30_v30.congr (fun i hi => own_stV p4 (f 0) g i _ (by rw [own_op, if_neg hc1_16]; rfl))
      obtain ⟨cl32, Ar32, S32, H32⟩ := id V0_v30
      have hin32 : ¬ ((1 : Int32) < 0 ∨ cl32.slots.size ≤ ((1 : Int32)).toNatClampNeg) := inA S32 (by decide) (by decide)
      have hat32 : cl32.slots[((1 : Int32)).toNatClampNeg]? = some (.int (f 1)) := ArF.at S32 H32 hin32 rfl
      obtain ⟨cl33, Ar33, S33, H33⟩ := id VU31_v31
      have hin33 : ¬ ((((f 1).toUInt32 >>> ((6 : Int32) &&& 31).toUInt32).toInt32) < 0 ∨ cl33.slots.size ≤ ((((f 1).toUInt32 >>> ((6 : Int32) &&& 31).toUInt32).toInt32)).toNatClampNeg) := inA S33 (own_wx (fc 1 (by decide))).1 (own_wx (fc 1 (by decide))).2
      have hat33 : cl33.slots[((((f 1).toUInt32 >>> ((6 : Int32) &&& 31).toUInt32).toInt32)).toNatClampNeg]? = some (.long ((own_st p4 (f 0) g) (own_j (f 1)))) := ArF.at S33 H33 hin33 rfl
      obtain ⟨cl34, Ar34, S34, H34⟩ := id V0_v30
      have hin34 : ¬ ((1 : Int32) < 0 ∨ cl34.slots.size ≤ ((1 : Int32)).toNatClampNeg) := inA S34 (by decide) (by decide)
      have hat34 : cl34.slots[((1 : Int32)).toNatClampNeg]? = some (.int (f 1)) := ArF.at S34 H34 hin34 rfl
      obtain ⟨cl35, Ar35, S35, H35⟩ := id VU31_v31
      have hin35 : ¬ ((((f 1).toUInt32 >>> ((6 : Int32) &&& 31).toUInt32).toInt32) < 0 ∨ cl35.slots.size ≤ ((((f 1).toUInt32 >>> ((6 : Int32) &&& 31).toUInt32).toInt32)).toNatClampNeg) := inA S35 (own_wx (fc 1 (by decide))).1 (own_wx (fc 1 (by decide))).2
      obtain ⟨T35, h35, X35, e35, W35, st35⟩ := stJ X30 hx hZ e30 Ar35 (j := (((f 1).toUInt32 >>> ((6 : Int32) &&& 31).toUInt32).toInt32)) hin35 (g := (mkF m 30 #[.val (.ref a1), .val (.int p2), .val (.ref a3), .val (.int p4), .val (.int (1 : Int32))] [(.long (((own_st p4 (f 0) g) (own_j (f 1))) ^^^ ((1 : Int64) <<< ((f 1) &&& 0x3f).toInt64))), (.int (((f 1).toUInt32 >>> ((6 : Int32) &&& 31).toUInt32).toInt32)), (.ref a3)])) rfl rfl (hb hby d1_30)
      have V0_v35 := V0_v30.other W35 hne
      have Z35 : n0 ≤ h35.size := Nat.le_trans Z30 (Nat.le_of_eq W35.size.symm)
      have K35 := K30.wr W35 (Or.inl (by simp))
      have V35_v35 := ArF.set Ar35 S35 H35 W35 hin35
      have N35 := Fr.snoc X35 N30 ga
      have VU36_v36 : ArF Z h35 a3 .long 1024 (fun i => .long ((own_st p4 (f 1) (own_st p4 (f 0) g)) i)) := V35_v35.congr (fun i hi => own_stV p4 (f 1) (own_st p4 (f 0) g) i _ (by rw [own_op, if_neg hc1_16]; rfl))
      obtain ⟨fs, hr, hrun, hended, hW, hsame⟩ := X35.leave (v := none) (fun _ => rfl)
      refine ⟨_, _, pre15 _ ?_, hrun, hended, _, _, rfl, ?_, ⟨_, rfl⟩, hW, hsame.mono (by decide) (by decide)⟩
      · show Steps p.tables e below (s₁.setTop (mkF m 1 #[.val (.ref a1), .val (.int p2), .val (.ref a3), .val (.int p4), .unset] [(.int p4)])) _
        refine XS.ifNo X0.here hx rfl (hb hby d1_1) rfl ((if0 _ _).trans (feq hc1_16).1) ?_
        show Steps p.tables e below (s₁.setTop (mkF m 4 #[.val (.ref a1), .val (.int p2), .val (.ref a3), .val (.int p4), .unset] [])) _
        refine XS.iconst X0.here hx rfl (hb hby d1_4) ?_
        show Steps p.tables e below (s₁.setTop (mkF m 5 #[.val (.ref a1), .val (.int p2), .val (.ref a3), .val (.int p4), .unset] [(.int (0 : Int32))])) _
        refine XS.istore X0.here hx rfl (hb hby d1_5) rfl (l' := #[.val (.ref a1), .val (.int p2), .val (.ref a3), .val (.int p4), .val (.int (0 : Int32))]) rfl ?_
        show Steps p.tables e below (s₁.setTop (mkF m 7 #[.val (.ref a1), .val (.int p2), .val (.ref a3), .val (.int p4), .val (.int (0 : Int32))] [])) _
        refine XS.iload X0.here hx rfl (hb hby d1_7) rfl ?_
        show Steps p.tables e below (s₁.setTop (mkF m 9 #[.val (.ref a1), .val (.int p2), .val (.ref a3), .val (.int p4), .val (.int (0 : Int32))] [(.int (0 : Int32))])) _
        refine XS.iloadN X0.here hx rfl (hb hby d1_9) rfl ?_
        show Steps p.tables e below (s₁.setTop (mkF m 10 #[.val (.ref a1), .val (.int p2), .val (.ref a3), .val (.int p4), .val (.int (0 : Int32))] [(.int p2), (.int (0 : Int32))])) _
        refine XS.icmpNo X0.here hx rfl (hb hby d1_10) rfl (tlt ((by rw [hk]; decide) : ((0 : Int32) < p2))).2.1 ?_
        show Steps p.tables e below (s₁.setTop (mkF m 13 #[.val (.ref a1), .val (.int p2), .val (.ref a3), .val (.int p4), .val (.int (0 : Int32))] [])) _
        refine XS.aloadN X0.here hx rfl (hb hby d1_13) rfl rfl ?_
        show Steps p.tables e below (s₁.setTop (mkF m 14 #[.val (.ref a1), .val (.int p2), .val (.ref a3), .val (.int p4), .val (.int (0 : Int32))] [(.ref a3)])) _
        refine XS.aloadN X0.here hx rfl (hb hby d1_14) rfl rfl ?_
        show Steps p.tables e below (s₁.setTop (mkF m 15 #[.val (.ref a1), .val (.int p2), .val (.ref a3), .val (.int p4), .val (.int (0 : Int32))] [(.ref a1), (.ref a3)])) _
        refine XS.iload X0.here hx rfl (hb hby d1_15) rfl ?_
        show Steps p.tables e below (s₁.setTop (mkF m 17 #[.val (.ref a1), .val (.int p2), .val (.ref a3), .val (.int p4), .val (.int (0 : Int32))] [(.int (0 : Int32)), (.ref a1), (.ref a3)])) _
        refine X0.caload hx (j := (0 : Int32)) (v := (.int (f 0))) (by rw [e0]; exact Ar27.1) (State.isArrayOf_alike hZ.alike Ar27.2.1) Ar27.2.2 hin27 hat27 (g := (mkF m 17 #[.val (.ref a1), .val (.int p2), .val (.ref a3), .val (.int p4), .val (.int (0 : Int32))] [(.int (0 : Int32)), (.ref a1), (.ref a3)])) rfl rfl (hb hby d1_17) _ ?_
        show Steps p.tables e below (s₁.setTop (mkF m 18 #[.val (.ref a1), .val (.int p2), .val (.ref a3), .val (.int p4), .val (.int (0 : Int32))] [(.int (f 0)), (.ref a3)])) _
        refine XS.bipush X0.here hx rfl (hb hby d1_18) ?_
        show Steps p.tables e below (s₁.setTop (mkF m 20 #[.val (.ref a1), .val (.int p2), .val (.ref a3), .val (.int p4), .val (.int (0 : Int32))] [(.int (6 : Int32)), (.int (f 0)), (.ref a3)])) _
        refine XS.iushr X0.here hx rfl (hb hby d1_20) rfl ?_
        show Steps p.tables e below (s₁.setTop (mkF m 21 #[.val (.ref a1), .val (.int p2), .val (.ref a3), .val (.int p4), .val (.int (0 : Int32))] [(.int (((f 0).toUInt32 >>> ((6 : Int32) &&& 31).toUInt32).toInt32)), (.ref a3)])) _
        refine Jvm.Free.XT.dup2 X0.here hx rfl (hb hby d1_21) rfl rfl rfl ?_
        show Steps p.tables e below (s₁.setTop (mkF m 22 #[.val (.ref a1), .val (.int p2), .val (.ref a3), .val (.int p4), .val (.int (0 : Int32))] [(.int (((f 0).toUInt32 >>> ((6 : Int32) &&& 31).toUInt32).toInt32)), (.ref a3), (.int (((f 0).toUInt32 >>> ((6 : Int32) &&& 31).toUInt32).toInt32)), (.ref a3)])) _
        refine X0.laload hx (j := (((f 0).toUInt32 >>> ((6 : Int32) &&& 31).toUInt32).toInt32)) (v := (.long (g (own_j (f 0))))) (by rw [e0]; exact Ar28.1) (State.isArrayOf_alike hZ.alike Ar28.2.1) Ar28.2.2 hin28 hat28 (g := (mkF m 22 #[.val (.ref a1), .val (.int p2), .val (.ref a3), .val (.int p4), .val (.int (0 : Int32))] [(.int (((f 0).toUInt32 >>> ((6 : Int32) &&& 31).toUInt32).toInt32)), (.ref a3), (.int (((f 0).toUInt32 >>> ((6 : Int32) &&& 31).toUInt32).toInt32)), (.ref a3)])) rfl rfl (hb hby d1_22) _ ?_
        show Steps p.tables e below (s₁.setTop (mkF m 23 #[.val (.ref a1), .val (.int p2), .val (.ref a3), .val (.int p4), .val (.int (0 : Int32))] [(.long (g (own_j (f 0)))), (.int (((f 0).toUInt32 >>> ((6 : Int32) &&& 31).toUInt32).toInt32)), (.ref a3)])) _
        refine XS.lconst X0.here hx rfl (hb hby d1_23) ?_
        show Steps p.tables e below (s₁.setTop (mkF m 24 #[.val (.ref a1), .val (.int p2), .val (.ref a3), .val (.int p4), .val (.int (0 : Int32))] [(.long (1 : Int64)), (.long (g (own_j (f 0)))), (.int (((f 0).toUInt32 >>> ((6 : Int32) &&& 31).toUInt32).toInt32)), (.ref a3)])) _
        refine XS.aloadN X0.here hx rfl (hb hby d1_24) rfl rfl ?_
        show Steps p.tables e below (s₁.setTop (mkF m 25 #[.val (.ref a1), .val (.int p2), .val (.ref a3), .val (.int p4), .val (.int (0 : Int32))] [(.ref a1), (.long (1 : Int64)), (.long (g (own_j (f 0)))), (.int (((f 0).toUInt32 >>> ((6 : Int32) &&& 31).toUInt32).toInt32)), (.ref a3)])) _
        refine XS.iload X0.here hx rfl (hb hby d1_25) rfl ?_
        show Steps p.tables e below (s₁.setTop (mkF m 27 #[.val (.ref a1), .val (.int p2), .val (.ref a3), .val (.int p4), .val (.int (0 : Int32))] [(.int (0 : Int32)), (.ref a1), (.long (1 : Int64)), (.long (g (own_j (f 0)))), (.int (((f 0).toUInt32 >>> ((6 : Int32) &&& 31).toUInt32).toInt32)), (.ref a3)])) _
        refine X0.caload hx (j := (0 : Int32)) (v := (.int (f 0))) (by rw [e0]; exact Ar29.1) (State.isArrayOf_alike hZ.alike Ar29.2.1) Ar29.2.2 hin29 hat29 (g := (mkF m 27 #[.val (.ref a1), .val (.int p2), .val (.ref a3), .val (.int p4), .val (.int (0 : Int32))] [(.int (0 : Int32)), (.ref a1), (.long (1 : Int64)), (.long (g (own_j (f 0)))), (.int (((f 0).toUInt32 >>> ((6 : Int32) &&& 31).toUInt32).toInt32)), (.ref a3)])) rfl rfl (hb hby d1_27) _ ?_
        show Steps p.tables e below (s₁.setTop (mkF m 28 #[.val (.ref a1), .val (.int p2), .val (.ref a3), .val (.int p4), .val (.int (0 : Int32))] [(.int (f 0)), (.long (1 : Int64)), (.long (g (own_j (f 0)))), (.int (((f 0).toUInt32 >>> ((6 : Int32) &&& 31).toUInt32).toInt32)), (.ref a3)])) _
        refine XS.lshl X0.here hx rfl (hb hby d1_28) rfl ?_
        show Steps p.tables e below (s₁.setTop (mkF m 29 #[.val (.ref a1), .val (.int p2), .val (.ref a3), .val (.int p4), .val (.int (0 : Int32))] [(.long ((1 : Int64) <<< ((f 0) &&& 0x3f).toInt64)), (.long (g (own_j (f 0)))), (.int (((f 0).toUInt32 >>> ((6 : Int32) &&& 31).toUInt32).toInt32)), (.ref a3)])) _
        refine XS.lxor X0.here hx rfl (hb hby d1_29) rfl ?_
        show Steps p.tables e below (s₁.setTop (mkF m 30 #[.val (.ref a1), .val (.int p2), .val (.ref a3), .val (.int p4), .val (.int (0 : Int32))] [(.long ((g (own_j (f 0))) ^^^ ((1 : Int64) <<< ((f 0) &&& 0x3f).toInt64))), (.int (((f 0).toUInt32 >>> ((6 : Int32) &&& 31).toUInt32).toInt32)), (.ref a3)])) _
        refine st30 _ ?_
        show Steps p.tables e below (T30.setTop (mkF m 31 #[.val (.ref a1), .val (.int p2), .val (.ref a3), .val (.int p4), .val (.int (0 : Int32))] [])) _
        refine XS.iinc X30.here hx rfl (hb hby d1_31) rfl (l' := #[.val (.ref a1), .val (.int p2), .val (.ref a3), .val (.int p4), .val (.int (1 : Int32))]) rfl ?_
        show Steps p.tables e below (T30.setTop (mkF m 34 #[.val (.ref a1), .val (.int p2), .val (.ref a3), .val (.int p4), .val (.int (1 : Int32))] [])) _
        refine XS.goto X30.here hx rfl (pc0 := 34) (pc' := 7) rfl (hb hby d1_34) (by decide) (by decide) ?_
        show Steps p.tables e below (T30.setTop (mkF m 7 #[.val (.ref a1), .val (.int p2), .val (.ref a3), .val (.int p4), .val (.int (1 : Int32))] [])) _
        refine XS.iload X30.here hx rfl (hb hby d1_7) rfl ?_
        show Steps p.tables e below (T30.setTop (mkF m 9 #[.val (.ref a1), .val (.int p2), .val (.ref a3), .val (.int p4), .val (.int (1 : Int32))] [(.int (1 : Int32))])) _
        refine XS.iloadN X30.here hx rfl (hb hby d1_9) rfl ?_
        show Steps p.tables e below (T30.setTop (mkF m 10 #[.val (.ref a1), .val (.int p2), .val (.ref a3), .val (.int p4), .val (.int (1 : Int32))] [(.int p2), (.int (1 : Int32))])) _
        refine XS.icmpNo X30.here hx rfl (hb hby d1_10) rfl (tlt ((by rw [hk]; decide) : ((1 : Int32) < p2))).2.1 ?_
        show Steps p.tables e below (T30.setTop (mkF m 13 #[.val (.ref a1), .val (.int p2), .val (.ref a3), .val (.int p4), .val (.int (1 : Int32))] [])) _
        refine XS.aloadN X30.here hx rfl (hb hby d1_13) rfl rfl ?_
        show Steps p.tables e below (T30.setTop (mkF m 14 #[.val (.ref a1), .val (.int p2), .val (.ref a3), .val (.int p4), .val (.int (1 : Int32))] [(.ref a3)])) _
        refine XS.aloadN X30.here hx rfl (hb hby d1_14) rfl rfl ?_
        show Steps p.tables e below (T30.setTop (mkF m 15 #[.val (.ref a1), .val (.int p2), .val (.ref a3), .val (.int p4), .val (.int (1 : Int32))] [(.ref a1), (.ref a3)])) _
        refine XS.iload X30.here hx rfl (hb hby d1_15) rfl ?_
        show Steps p.tables e below (T30.setTop (mkF m 17 #[.val (.ref a1), .val (.int p2), .val (.ref a3), .val (.int p4), .val (.int (1 : Int32))] [(.int (1 : Int32)), (.ref a1), (.ref a3)])) _
        refine X30.caload hx (j := (1 : Int32)) (v := (.int (f 1))) (by rw [e30]; exact Ar32.1) (State.isArrayOf_alike hZ.alike Ar32.2.1) Ar32.2.2 hin32 hat32 (g := (mkF m 17 #[.val (.ref a1), .val (.int p2), .val (.ref a3), .val (.int p4), .val (.int (1 : Int32))] [(.int (1 : Int32)), (.ref a1), (.ref a3)])) rfl rfl (hb hby d1_17) _ ?_
        show Steps p.tables e below (T30.setTop (mkF m 18 #[.val (.ref a1), .val (.int p2), .val (.ref a3), .val (.int p4), .val (.int (1 : Int32))] [(.int (f 1)), (.ref a3)])) _
        refine XS.bipush X30.here hx rfl (hb hby d1_18) ?_
        show Steps p.tables e below (T30.setTop (mkF m 20 #[.val (.ref a1), .val (.int p2), .val (.ref a3), .val (.int p4), .val (.int (1 : Int32))] [(.int (6 : Int32)), (.int (f 1)), (.ref a3)])) _
        refine XS.iushr X30.here hx rfl (hb hby d1_20) rfl ?_
        show Steps p.tables e below (T30.setTop (mkF m 21 #[.val (.ref a1), .val (.int p2), .val (.ref a3), .val (.int p4), .val (.int (1 : Int32))] [(.int (((f 1).toUInt32 >>> ((6 : Int32) &&& 31).toUInt32).toInt32)), (.ref a3)])) _
        refine Jvm.Free.XT.dup2 X30.here hx rfl (hb hby d1_21) rfl rfl rfl ?_
        show Steps p.tables e below (T30.setTop (mkF m 22 #[.val (.ref a1), .val (.int p2), .val (.ref a3), .val (.int p4), .val (.int (1 : Int32))] [(.int (((f 1).toUInt32 >>> ((6 : Int32) &&& 31).toUInt32).toInt32)), (.ref a3), (.int (((f 1).toUInt32 >>> ((6 : Int32) &&& 31).toUInt32).toInt32)), (.ref a3)])) _
        refine X30.laload hx (j := (((f 1).toUInt32 >>> ((6 : Int32) &&& 31).toUInt32).toInt32)) (v := (.long ((own_st p4 (f 0) g) (own_j (f 1))))) (by rw [e30]; exact Ar33.1) (State.isArrayOf_alike hZ.alike Ar33.2.1) Ar33.2.2 hin33 hat33 (g := (mkF m 22 #[.val (.ref a1), .val (.int p2), .val (.ref a3), .val (.int p4), .val (.int (1 : Int32))] [(.int (((f 1).toUInt32 >>> ((6 : Int32) &&& 31).toUInt32).toInt32)), (.ref a3), (.int (((f 1).toUInt32 >>> ((6 : Int32) &&& 31).toUInt32).toInt32)), (.ref a3)])) rfl rfl (hb hby d1_22) _ ?_
        show Steps p.tables e below (T30.setTop (mkF m 23 #[.val (.ref a1), .val (.int p2), .val (.ref a3), .val (.int p4), .val (.int (1 : Int32))] [(.long ((own_st p4 (f 0) g) (own_j (f 1)))), (.int (((f 1).toUInt32 >>> ((6 : Int32) &&& 31).toUInt32).toInt32)), (.ref a3)])) _
        refine XS.lconst X30.here hx rfl (hb hby d1_23) ?_
        show Steps p.tables e below (T30.setTop (mkF m 24 #[.val (.ref a1), .val (.int p2), .val (.ref a3), .val (.int p4), .val (.int (1 : Int32))] [(.long (1 : Int64)), (.long ((own_st p4 (f 0) g) (own_j (f 1)))), (.int (((f 1).toUInt32 >>> ((6 : Int32) &&& 31).toUInt32).toInt32)), (.ref a3)])) _
        refine XS.aloadN X30.here hx rfl (hb hby d1_24) rfl rfl ?_
        show Steps p.tables e below (T30.setTop (mkF m 25 #[.val (.ref a1), .val (.int p2), .val (.ref a3), .val (.int p4), .val (.int (1 : Int32))] [(.ref a1), (.long (1 : Int64)), (.long ((own_st p4 (f 0) g) (own_j (f 1)))), (.int (((f 1).toUInt32 >>> ((6 : Int32) &&& 31).toUInt32).toInt32)), (.ref a3)])) _
        refine XS.iload X30.here hx rfl (hb hby d1_25) rfl ?_
        show Steps p.tables e below (T30.setTop (mkF m 27 #[.val (.ref a1), .val (.int p2), .val (.ref a3), .val (.int p4), .val (.int (1 : Int32))] [(.int (1 : Int32)), (.ref a1), (.long (1 : Int64)), (.long ((own_st p4 (f 0) g) (own_j (f 1)))), (.int (((f 1).toUInt32 >>> ((6 : Int32) &&& 31).toUInt32).toInt32)), (.ref a3)])) _
        refine X30.caload hx (j := (1 : Int32)) (v := (.int (f 1))) (by rw [e30]; exact Ar34.1) (State.isArrayOf_alike hZ.alike Ar34.2.1) Ar34.2.2 hin34 hat34 (g := (mkF m 27 #[.val (.ref a1), .val (.int p2), .val (.ref a3), .val (.int p4), .val (.int (1 : Int32))] [(.int (1 : Int32)), (.ref a1), (.long (1 : Int64)), (.long ((own_st p4 (f 0) g) (own_j (f 1)))), (.int (((f 1).toUInt32 >>> ((6 : Int32) &&& 31).toUInt32).toInt32)), (.ref a3)])) rfl rfl (hb hby d1_27) _ ?_
        show Steps p.tables e below (T30.setTop (mkF m 28 #[.val (.ref a1), .val (.int p2), .val (.ref a3), .val (.int p4), .val (.int (1 : Int32))] [(.int (f 1)), (.long (1 : Int64)), (.long ((own_st p4 (f 0) g) (own_j (f 1)))), (.int (((f 1).toUInt32 >>> ((6 : Int32) &&& 31).toUInt32).toInt32)), (.ref a3)])) _
        refine XS.lshl X30.here hx rfl (hb hby d1_28) rfl ?_
        show Steps p.tables e below (T30.setTop (mkF m 29 #[.val (.ref a1), .val (.int p2), .val (.ref a3), .val (.int p4), .val (.int (1 : Int32))] [(.long ((1 : Int64) <<< ((f 1) &&& 0x3f).toInt64)), (.long ((own_st p4 (f 0) g) (own_j (f 1)))), (.int (((f 1).toUInt32 >>> ((6 : Int32) &&& 31).toUInt32).toInt32)), (.ref a3)])) _
        refine XS.lxor X30.here hx rfl (hb hby d1_29) rfl ?_
        show Steps p.tables e below (T30.setTop (mkF m 30 #[.val (.ref a1), .val (.int p2), .val (.ref a3), .val (.int p4), .val (.int (1 : Int32))] [(.long (((own_st p4 (f 0) g) (own_j (f 1))) ^^^ ((1 : Int64) <<< ((f 1) &&& 0x3f).toInt64))), (.int (((f 1).toUInt32 >>> ((6 : Int32) &&& 31).toUInt32).toInt32)), (.ref a3)])) _
        refine st35 _ ?_
        show Steps p.tables e below (T35.setTop (mkF m 31 #[.val (.ref a1), .val (.int p2), .val (.ref a3), .val (.int p4), .val (.int (1 : Int32))] [])) _
        refine XS.iinc X35.here hx rfl (hb hby d1_31) rfl (l' := #[.val (.ref a1), .val (.int p2), .val (.ref a3), .val (.int p4), .val (.int (2 : Int32))]) rfl ?_
        show Steps p.tables e below (T35.setTop (mkF m 34 #[.val (.ref a1), .val (.int p2), .val (.ref a3), .val (.int p4), .val (.int (2 : Int32))] [])) _
        refine XS.goto X35.here hx rfl (pc0 := 34) (pc' := 7) rfl (hb hby d1_34) (by decide) (by decide) ?_
        show Steps p.tables e below (T35.setTop (mkF m 7 #[.val (.ref a1), .val (.int p2), .val (.ref a3), .val (.int p4), .val (.int (2 : Int32))] [])) _
        refine XS.iload X35.here hx rfl (hb hby d1_7) rfl ?_
        show Steps p.tables e below (T35.setTop (mkF m 9 #[.val (.ref a1), .val (.int p2), .val (.ref a3), .val (.int p4), .val (.int (2 : Int32))] [(.int (2 : Int32))])) _
        refine XS.iloadN X35.here hx rfl (hb hby d1_9) rfl ?_
        show Steps p.tables e below (T35.setTop (mkF m 10 #[.val (.ref a1), .val (.int p2), .val (.ref a3), .val (.int p4), .val (.int (2 : Int32))] [(.int p2), (.int (2 : Int32))])) _
        refine XS.icmpYes X35.here hx rfl (pc0 := 10) (pc' := 37) rfl (hb hby d1_10) rfl (flt ((by rw [hk]; decide) : ¬ ((2 : Int32) < p2))).2.1 (by decide) (by decide) ?_
        show Steps p.tables e below (T35.setTop (mkF m 37 #[.val (.ref a1), .val (.int p2), .val (.ref a3), .val (.int p4), .val (.int (2 : Int32))] [])) _
        refine XS.goto X35.here hx rfl (pc0 := 37) (pc' := 73) rfl (hb hby d1_37) (by decide) (by decide) ?_
        show Steps p.tables e below (T35.setTop (mkF m 73 #[.val (.ref a1), .val (.int p2), .val (.ref a3), .val (.int p4), .val (.int (2 : Int32))] [])) _
        exact X35.returnOut hx Bd.returns (hb hby d1_73) hr
      · show Q_rm1 Z a1 p2 a3 p4 f g h0 n0 _ T35.heap _
        rw [e35]
        exact ⟨rfl, N35, K35, (by rw [own_wr2 hk]; exact VU36_v36)⟩
  · have pre37 : ∀ t, Steps p.tables e below (s₁.setTop (mkF m 1 #[.val (.ref a1), .val (.int p2), .val (.ref a3), .val (.int p4), .unset] [(.int p4)])) t → Steps p.tables e below (s₁.setTop (entryFrame m #[(.ref a1), (.int p2), (.ref a3), (.int p4)] 5)) t := by
      intro t k
      refine pre0 t ?_
      show Steps p.tables e below (s₁.setTop (mkF m 0 #[.val (.ref a1), .val (.int p2), .val (.ref a3), .val (.int p4), .unset] [])) _
      refine XS.iloadN X0.here hx rfl (hb hby d1_0) rfl ?_
      exact k
    by_cases hc1_38 : p4 = (0 : Int32)
    · obtain ⟨cl39, Ar39, S39, H39⟩ := id V0
      have hin39 : ¬ ((0 : Int32) < 0 ∨ cl39.slots.size ≤ ((0 : Int32)).toNatClampNeg) := inA S39 (by decide) (by decide)
      have hat39 : cl39.slots[((0 : Int32)).toNatClampNeg]? = some (.int (f 0)) := ArF.at S39 H39 hin39 rfl
      obtain ⟨cl40, Ar40, S40, H40⟩ := id W0
      have hin40 : ¬ ((((f 0).toUInt32 >>> ((6 : Int32) &&& 31).toUInt32).toInt32) < 0 ∨ cl40.slots.size ≤ ((((f 0).toUInt32 >>> ((6 : Int32) &&& 31).toUInt32).toInt32)).toNatClampNeg) := inA S40 (own_wx (fc 0 (by decide))).1 (own_wx (fc 0 (by decide))).2
      have hat40 : cl40.slots[((((f 0).toUInt32 >>> ((6 : Int32) &&& 31).toUInt32).toInt32)).toNatClampNeg]? = some (.long (g (own_j (f 0)))) := ArF.at S40 H40 hin40 rfl
      obtain ⟨cl41, Ar41, S41, H41⟩ := id V0
      have hin41 : ¬ ((0 : Int32) < 0 ∨ cl41.slots.size ≤ ((0 : Int32)).toNatClampNeg) := inA S41 (by decide) (by decide)
      have hat41 : cl41.slots[((0 : Int32)).toNatClampNeg]? = some (.int (f 0)) := ArF.at S41 H41 hin41 rfl
      obtain ⟨cl42, Ar42, S42, H42⟩ := id W0
      have hin42 : ¬ ((((f 0).toUInt32 >>> ((6 : Int32) &&& 31).toUInt32).toInt32) < 0 ∨ cl42.slots.size ≤ ((((f 0).toUInt32 >>> ((6 : Int32) &&& 31).toUInt32).toInt32)).toNatClampNeg) := inA S42 (own_wx (fc 0 (by decide))).1 (own_wx (fc 0 (by decide))).2
      obtain ⟨T42, h42, X42, e42, W42, st42⟩ := stJ X0 hx hZ e0 Ar42 (j := (((f 0).toUInt32 >>> ((6 : Int32) &&& 31).toUInt32).toInt32)) hin42 (g := (mkF m 66 #[.val (.ref a1), .val (.int p2), .val (.ref a3), .val (.int p4), .val (.int (0 : Int32))] [(.long ((g (own_j (f 0))) ||| ((1 : Int64) <<< ((f 0) &&& 0x3f).toInt64))), (.int (((f 0).toUInt32 >>> ((6 : Int32) &&& 31).toUInt32).toInt32)), (.ref a3)])) rfl rfl (hb hby d1_66)
      have V0_v42 := V0.other W42 hne
      have Z42 : n0 ≤ h42.size := Nat.le_trans Z0 (Nat.le_of_eq W42.size.symm)
      have K42 := K0.wr W42 (Or.inl (by simp))
      have V42_v42 := ArF.set Ar42 S42 H42 W42 hin42
      have N42 := Fr.snoc X42 N0 ga
      have VU43_v43 : ArF Z h42 a3 .long 1024 (fun i => .long ((own_st p4 (f 0) g) i)) := V42_v42.congr (fun i hi => own_stV p4 (f 0) g i _ (by rw [own_op, if_pos hc1_38]; rfl))
      obtain ⟨cl44, Ar44, S44, H44⟩ := id V0_v42
      have hin44 : ¬ ((1 : Int32) < 0 ∨ cl44.slots.size ≤ ((1 : Int32)).toNatClampNeg) := inA S44 (by decide) (by decide)
      have hat44 : cl44.slots[((1 : Int32)).toNatClampNeg]? = some (.int (f 1)) := ArF.at S44 H44 hin44 rfl
      obtain ⟨cl45, Ar45, S45, H45⟩ := id VU43_v43
      have hin45 : ¬ ((((f 1).toUInt32 >>> ((6 : Int32) &&& 31).toUInt32).toInt32) < 0 ∨ cl45.slots.size ≤ ((((f 1).toUInt32 >>> ((6 : Int32) &&& 31).toUInt32).toInt32)).toNatClampNeg) := inA S45 (own_wx (fc 1 (by decide))).1 (own_wx (fc 1 (by decide))).2
      have hat45 : cl45.slots[((((f 1).toUInt32 >>> ((6 : Int32) &&& 31).toUInt32).toInt32)).toNatClampNeg]? = some (.long ((own_st p4 (f 0) g) (own_j (f 1)))) := ArF.at S45 H45 hin45 rfl
      obtain ⟨cl46, Ar46, S46, H46⟩ := id V0_v42
      have hin46 : ¬ ((1 : Int32) < 0 ∨ cl46.slots.size ≤ ((1 : Int32)).toNatClampNeg) := inA S46 (by decide) (by decide)
      have hat46 : cl46.slots[((1 : Int32)).toNatClampNeg]? = some (.int (f 1)) := ArF.at S46 H46 hin46 rfl
      obtain ⟨cl47, Ar47, S47, H47⟩ := id VU43_v43
      have hin47 : ¬ ((((f 1).toUInt32 >>> ((6 : Int32) &&& 31).toUInt32).toInt32) < 0 ∨ cl47.slots.size ≤ ((((f 1).toUInt32 >>> ((6 : Int32) &&& 31).toUInt32).toInt32)).toNatClampNeg) := inA S47 (own_wx (fc 1 (by decide))).1 (own_wx (fc 1 (by decide))).2
      obtain ⟨T47, h47, X47, e47, W47, st47⟩ := stJ X42 hx hZ e42 Ar47 (j := (((f 1).toUInt32 >>> ((6 : Int32) &&& 31).toUInt32).toInt32)) hin47 (g := (mkF m 66 #[.val (.ref a1), .val (.int p2), .val (.ref a3), .val (.int p4), .val (.int (1 : Int32))] [(.long (((own_st p4 (f 0) g) (own_j (f 1))) ||| ((1 : Int64) <<< ((f 1) &&& 0x3f).toInt64))), (.int (((f 1).toUInt32 >>> ((6 : Int32) &&& 31).toUInt32).toInt32)), (.ref a3)])) rfl rfl (hb hby d1_66)
      have V0_v47 := V0_v42.other W47 hne
      have Z47 : n0 ≤ h47.size := Nat.le_trans Z42 (Nat.le_of_eq W47.size.symm)
      have K47 := K42.wr W47 (Or.inl (by simp))
      have V47_v47 := ArF.set Ar47 S47 H47 W47 hin47
      have N47 := Fr.snoc X47 N42 ga
      have VU48_v48 : ArF Z h47 a3 .long 1024 (fun i => .long ((own_st p4 (f 1) (own_st p4 (f 0) g)) i)) := V47_v47.congr (fun i hi => own_stV p4 (f 1) (own_st p4 (f 0) g) i _ (by rw [own_op, if_pos hc1_38]; rfl))
      obtain ⟨cl49, Ar49, S49, H49⟩ := id V0_v47
      have hin49 : ¬ ((2 : Int32) < 0 ∨ cl49.slots.size ≤ ((2 : Int32)).toNatClampNeg) := inA S49 (by decide) (by decide)
      have hat49 : cl49.slots[((2 : Int32)).toNatClampNeg]? = some (.int (f 2)) := ArF.at S49 H49 hin49 rfl
      obtain ⟨cl50, Ar50, S50, H50⟩ := id VU48_v48
      have hin50 : ¬ ((((f 2).toUInt32 >>> ((6 : Int32) &&& 31).toUInt32).toInt32) < 0 ∨ cl50.slots.size ≤ ((((f 2).toUInt32 >>> ((6 : Int32) &&& 31).toUInt32).toInt32)).toNatClampNeg) := inA S50 (own_wx (fc 2 (by decide))).1 (own_wx (fc 2 (by decide))).2
      have hat50 : cl50.slots[((((f 2).toUInt32 >>> ((6 : Int32) &&& 31).toUInt32).toInt32)).toNatClampNeg]? = some (.long ((own_st p4 (f 1) (own_st p4 (f 0) g)) (own_j (f 2)))) := ArF.at S50 H50 hin50 rfl
      obtain ⟨cl51, Ar51, S51, H51⟩ := id V0_v47
      have hin51 : ¬ ((2 : Int32) < 0 ∨ cl51.slots.size ≤ ((2 : Int32)).toNatClampNeg) := inA S51 (by decide) (by decide)
      have hat51 : cl51.slots[((2 : Int32)).toNatClampNeg]? = some (.int (f 2)) := ArF.at S51 H51 hin51 rfl
      obtain ⟨cl52, Ar52, S52, H52⟩ := id VU48_v48
      have hin52 : ¬ ((((f 2).toUInt32 >>> ((6 : Int32) &&& 31).toUInt32).toInt32) < 0 ∨ cl52.slots.size ≤ ((((f 2).toUInt32 >>> ((6 : Int32) &&& 31).toUInt32).toInt32)).toNatClampNeg) := inA S52 (own_wx (fc 2 (by decide))).1 (own_wx (fc 2 (by decide))).2
      obtain ⟨T52, h52, X52, e52, W52, st52⟩ := stJ X47 hx hZ e47 Ar52 (j := (((f 2).toUInt32 >>> ((6 : Int32) &&& 31).toUInt32).toInt32)) hin52 (g := (mkF m 66 #[.val (.ref a1), .val (.int p2), .val (.ref a3), .val (.int p4), .val (.int (2 : Int32))] [(.long (((own_st p4 (f 1) (own_st p4 (f 0) g)) (own_j (f 2))) ||| ((1 : Int64) <<< ((f 2) &&& 0x3f).toInt64))), (.int (((f 2).toUInt32 >>> ((6 : Int32) &&& 31).toUInt32).toInt32)), (.ref a3)])) rfl rfl (hb hby d1_66)
      have V0_v52 := V0_v47.other W52 hne
      have Z52 : n0 ≤ h52.size := Nat.le_trans Z47 (Nat.le_of_eq W52.size.symm)
      have K52 := K47.wr W52 (Or.inl (by simp))
      have V52_v52 := ArF.set Ar52 S52 H52 W52 hin52
      have N52 := Fr.snoc X52 N47 ga
      have VU53_v53 : ArF Z h52 a3 .long 1024 (fun i => .long ((own_st p4 (f 2) (own_st p4 (f 1) (own_st p4 (f 0) g))) i)) := V52_v52.congr (fun i hi => own_stV p4 (f 2) (own_st p4 (f 1) (own_st p4 (f 0) g)) i _ (by rw [own_op, if_pos hc1_38]; rfl))
      obtain ⟨fs, hr, hrun, hended, hW, hsame⟩ := X52.leave (v := none) (fun _ => rfl)
      refine ⟨_, _, pre37 _ ?_, hrun, hended, _, _, rfl, ?_, ⟨_, rfl⟩, hW, hsame.mono (by decide) (by decide)⟩
      · show Steps p.tables e below (s₁.setTop (mkF m 1 #[.val (.ref a1), .val (.int p2), .val (.ref a3), .val (.int p4), .unset] [(.int p4)])) _
        refine XS.ifYes X0.here hx rfl (pc0 := 1) (pc' := 40) rfl (hb hby d1_1) rfl ((if0 _ _).trans (teq hc1_38).1) (by decide) (by decide) ?_
        show Steps p.tables e below (s₁.setTop (mkF m 40 #[.val (.ref a1), .val (.int p2), .val (.ref a3), .val (.int p4), .unset] [])) _
        refine XS.iconst X0.here hx rfl (hb hby d1_40) ?_
        show Steps p.tables e below (s₁.setTop (mkF m 41 #[.val (.ref a1), .val (.int p2), .val (.ref a3), .val (.int p4), .unset] [(.int (0 : Int32))])) _
        refine XS.istore X0.here hx rfl (hb hby d1_41) rfl (l' := #[.val (.ref a1), .val (.int p2), .val (.ref a3), .val (.int p4), .val (.int (0 : Int32))]) rfl ?_
        show Steps p.tables e below (s₁.setTop (mkF m 43 #[.val (.ref a1), .val (.int p2), .val (.ref a3), .val (.int p4), .val (.int (0 : Int32))] [])) _
        refine XS.iload X0.here hx rfl (hb hby d1_43) rfl ?_
        show Steps p.tables e below (s₁.setTop (mkF m 45 #[.val (.ref a1), .val (.int p2), .val (.ref a3), .val (.int p4), .val (.int (0 : Int32))] [(.int (0 : Int32))])) _
        refine XS.iloadN X0.here hx rfl (hb hby d1_45) rfl ?_
        show Steps p.tables e below (s₁.setTop (mkF m 46 #[.val (.ref a1), .val (.int p2), .val (.ref a3), .val (.int p4), .val (.int (0 : Int32))] [(.int p2), (.int (0 : Int32))])) _
        refine XS.icmpNo X0.here hx rfl (hb hby d1_46) rfl (tlt ((by rw [hk]; decide) : ((0 : Int32) < p2))).2.1 ?_
        show Steps p.tables e below (s₁.setTop (mkF m 49 #[.val (.ref a1), .val (.int p2), .val (.ref a3), .val (.int p4), .val (.int (0 : Int32))] [])) _
        refine XS.aloadN X0.here hx rfl (hb hby d1_49) rfl rfl ?_
        show Steps p.tables e below (s₁.setTop (mkF m 50 #[.val (.ref a1), .val (.int p2), .val (.ref a3), .val (.int p4), .val (.int (0 : Int32))] [(.ref a3)])) _
        refine XS.aloadN X0.here hx rfl (hb hby d1_50) rfl rfl ?_
        show Steps p.tables e below (s₁.setTop (mkF m 51 #[.val (.ref a1), .val (.int p2), .val (.ref a3), .val (.int p4), .val (.int (0 : Int32))] [(.ref a1), (.ref a3)])) _
        refine XS.iload X0.here hx rfl (hb hby d1_51) rfl ?_
        show Steps p.tables e below (s₁.setTop (mkF m 53 #[.val (.ref a1), .val (.int p2), .val (.ref a3), .val (.int p4), .val (.int (0 : Int32))] [(.int (0 : Int32)), (.ref a1), (.ref a3)])) _
        refine X0.caload hx (j := (0 : Int32)) (v := (.int (f 0))) (by rw [e0]; exact Ar39.1) (State.isArrayOf_alike hZ.alike Ar39.2.1) Ar39.2.2 hin39 hat39 (g := (mkF m 53 #[.val (.ref a1), .val (.int p2), .val (.ref a3), .val (.int p4), .val (.int (0 : Int32))] [(.int (0 : Int32)), (.ref a1), (.ref a3)])) rfl rfl (hb hby d1_53) _ ?_
        show Steps p.tables e below (s₁.setTop (mkF m 54 #[.val (.ref a1), .val (.int p2), .val (.ref a3), .val (.int p4), .val (.int (0 : Int32))] [(.int (f 0)), (.ref a3)])) _
        refine XS.bipush X0.here hx rfl (hb hby d1_54) ?_
        show Steps p.tables e below (s₁.setTop (mkF m 56 #[.val (.ref a1), .val (.int p2), .val (.ref a3), .val (.int p4), .val (.int (0 : Int32))] [(.int (6 : Int32)), (.int (f 0)), (.ref a3)])) _
        refine XS.iushr X0.here hx rfl (hb hby d1_56) rfl ?_
        show Steps p.tables e below (s₁.setTop (mkF m 57 #[.val (.ref a1), .val (.int p2), .val (.ref a3), .val (.int p4), .val (.int (0 : Int32))] [(.int (((f 0).toUInt32 >>> ((6 : Int32) &&& 31).toUInt32).toInt32)), (.ref a3)])) _
        refine Jvm.Free.XT.dup2 X0.here hx rfl (hb hby d1_57) rfl rfl rfl ?_
        show Steps p.tables e below (s₁.setTop (mkF m 58 #[.val (.ref a1), .val (.int p2), .val (.ref a3), .val (.int p4), .val (.int (0 : Int32))] [(.int (((f 0).toUInt32 >>> ((6 : Int32) &&& 31).toUInt32).toInt32)), (.ref a3), (.int (((f 0).toUInt32 >>> ((6 : Int32) &&& 31).toUInt32).toInt32)), (.ref a3)])) _
        refine X0.laload hx (j := (((f 0).toUInt32 >>> ((6 : Int32) &&& 31).toUInt32).toInt32)) (v := (.long (g (own_j (f 0))))) (by rw [e0]; exact Ar40.1) (State.isArrayOf_alike hZ.alike Ar40.2.1) Ar40.2.2 hin40 hat40 (g := (mkF m 58 #[.val (.ref a1), .val (.int p2), .val (.ref a3), .val (.int p4), .val (.int (0 : Int32))] [(.int (((f 0).toUInt32 >>> ((6 : Int32) &&& 31).toUInt32).toInt32)), (.ref a3), (.int (((f 0).toUInt32 >>> ((6 : Int32) &&& 31).toUInt32).toInt32)), (.ref a3)])) rfl rfl (hb hby d1_58) _ ?_
        show Steps p.tables e below (s₁.setTop (mkF m 59 #[.val (.ref a1), .val (.int p2), .val (.ref a3), .val (.int p4), .val (.int (0 : Int32))] [(.long (g (own_j (f 0)))), (.int (((f 0).toUInt32 >>> ((6 : Int32) &&& 31).toUInt32).toInt32)), (.ref a3)])) _
        refine XS.lconst X0.here hx rfl (hb hby d1_59) ?_
        show Steps p.tables e below (s₁.setTop (mkF m 60 #[.val (.ref a1), .val (.int p2), .val (.ref a3), .val (.int p4), .val (.int (0 : Int32))] [(.long (1 : Int64)), (.long (g (own_j (f 0)))), (.int (((f 0).toUInt32 >>> ((6 : Int32) &&& 31).toUInt32).toInt32)), (.ref a3)])) _
        refine XS.aloadN X0.here hx rfl (hb hby d1_60) rfl rfl ?_
        show Steps p.tables e below (s₁.setTop (mkF m 61 #[.val (.ref a1), .val (.int p2), .val (.ref a3), .val (.int p4), .val (.int (0 : Int32))] [(.ref a1), (.long (1 : Int64)), (.long (g (own_j (f 0)))), (.int (((f 0).toUInt32 >>> ((6 : Int32) &&& 31).toUInt32).toInt32)), (.ref a3)])) _
        refine XS.iload X0.here hx rfl (hb hby d1_61) rfl ?_
        show Steps p.tables e below (s₁.setTop (mkF m 63 #[.val (.ref a1), .val (.int p2), .val (.ref a3), .val (.int p4), .val (.int (0 : Int32))] [(.int (0 : Int32)), (.ref a1), (.long (1 : Int64)), (.long (g (own_j (f 0)))), (.int (((f 0).toUInt32 >>> ((6 : Int32) &&& 31).toUInt32).toInt32)), (.ref a3)])) _
        refine X0.caload hx (j := (0 : Int32)) (v := (.int (f 0))) (by rw [e0]; exact Ar41.1) (State.isArrayOf_alike hZ.alike Ar41.2.1) Ar41.2.2 hin41 hat41 (g := (mkF m 63 #[.val (.ref a1), .val (.int p2), .val (.ref a3), .val (.int p4), .val (.int (0 : Int32))] [(.int (0 : Int32)), (.ref a1), (.long (1 : Int64)), (.long (g (own_j (f 0)))), (.int (((f 0).toUInt32 >>> ((6 : Int32) &&& 31).toUInt32).toInt32)), (.ref a3)])) rfl rfl (hb hby d1_63) _ ?_
        show Steps p.tables e below (s₁.setTop (mkF m 64 #[.val (.ref a1), .val (.int p2), .val (.ref a3), .val (.int p4), .val (.int (0 : Int32))] [(.int (f 0)), (.long (1 : Int64)), (.long (g (own_j (f 0)))), (.int (((f 0).toUInt32 >>> ((6 : Int32) &&& 31).toUInt32).toInt32)), (.ref a3)])) _
        refine XS.lshl X0.here hx rfl (hb hby d1_64) rfl ?_
        show Steps p.tables e below (s₁.setTop (mkF m 65 #[.val (.ref a1), .val (.int p2), .val (.ref a3), .val (.int p4), .val (.int (0 : Int32))] [(.long ((1 : Int64) <<< ((f 0) &&& 0x3f).toInt64)), (.long (g (own_j (f 0)))), (.int (((f 0).toUInt32 >>> ((6 : Int32) &&& 31).toUInt32).toInt32)), (.ref a3)])) _
        refine XS.lor X0.here hx rfl (hb hby d1_65) rfl ?_
        show Steps p.tables e below (s₁.setTop (mkF m 66 #[.val (.ref a1), .val (.int p2), .val (.ref a3), .val (.int p4), .val (.int (0 : Int32))] [(.long ((g (own_j (f 0))) ||| ((1 : Int64) <<< ((f 0) &&& 0x3f).toInt64))), (.int (((f 0).toUInt32 >>> ((6 : Int32) &&& 31).toUInt32).toInt32)), (.ref a3)])) _
        refine st42 _ ?_
        show Steps p.tables e below (T42.setTop (mkF m 67 #[.val (.ref a1), .val (.int p2), .val (.ref a3), .val (.int p4), .val (.int (0 : Int32))] [])) _
        refine XS.iinc X42.here hx rfl (hb hby d1_67) rfl (l' := #[.val (.ref a1), .val (.int p2), .val (.ref a3), .val (.int p4), .val (.int (1 : Int32))]) rfl ?_
        show Steps p.tables e below (T42.setTop (mkF m 70 #[.val (.ref a1), .val (.int p2), .val (.ref a3), .val (.int p4), .val (.int (1 : Int32))] [])) _
        refine XS.goto X42.here hx rfl (pc0 := 70) (pc' := 43) rfl (hb hby d1_70) (by decide) (by decide) ?_
        show Steps p.tables e below (T42.setTop (mkF m 43 #[.val (.ref a1), .val (.int p2), .val (.ref a3), .val (.int p4), .val (.int (1 : Int32))] [])) _
        refine XS.iload X42.here hx rfl (hb hby d1_43) rfl ?_
        show Steps p.tables e below (T42.setTop (mkF m 45 #[.val (.ref a1), .val (.int p2), .val (.ref a3), .val (.int p4), .val (.int (1 : Int32))] [(.int (1 : Int32))])) _
        refine XS.iloadN X42.here hx rfl (hb hby d1_45) rfl ?_
        show Steps p.tables e below (T42.setTop (mkF m 46 #[.val (.ref a1), .val (.int p2), .val (.ref a3), .val (.int p4), .val (.int (1 : Int32))] [(.int p2), (.int (1 : Int32))])) _
        refine XS.icmpNo X42.here hx rfl (hb hby d1_46) rfl (tlt ((by rw [hk]; decide) : ((1 : Int32) < p2))).2.1 ?_
        show Steps p.tables e below (T42.setTop (mkF m 49 #[.val (.ref a1), .val (.int p2), .val (.ref a3), .val (.int p4), .val (.int (1 : Int32))] [])) _
        refine XS.aloadN X42.here hx rfl (hb hby d1_49) rfl rfl ?_
        show Steps p.tables e below (T42.setTop (mkF m 50 #[.val (.ref a1), .val (.int p2), .val (.ref a3), .val (.int p4), .val (.int (1 : Int32))] [(.ref a3)])) _
        refine XS.aloadN X42.here hx rfl (hb hby d1_50) rfl rfl ?_
        show Steps p.tables e below (T42.setTop (mkF m 51 #[.val (.ref a1), .val (.int p2), .val (.ref a3), .val (.int p4), .val (.int (1 : Int32))] [(.ref a1), (.ref a3)])) _
        refine XS.iload X42.here hx rfl (hb hby d1_51) rfl ?_
        show Steps p.tables e below (T42.setTop (mkF m 53 #[.val (.ref a1), .val (.int p2), .val (.ref a3), .val (.int p4), .val (.int (1 : Int32))] [(.int (1 : Int32)), (.ref a1), (.ref a3)])) _
        refine X42.caload hx (j := (1 : Int32)) (v := (.int (f 1))) (by rw [e42]; exact Ar44.1) (State.isArrayOf_alike hZ.alike Ar44.2.1) Ar44.2.2 hin44 hat44 (g := (mkF m 53 #[.val (.ref a1), .val (.int p2), .val (.ref a3), .val (.int p4), .val (.int (1 : Int32))] [(.int (1 : Int32)), (.ref a1), (.ref a3)])) rfl rfl (hb hby d1_53) _ ?_
        show Steps p.tables e below (T42.setTop (mkF m 54 #[.val (.ref a1), .val (.int p2), .val (.ref a3), .val (.int p4), .val (.int (1 : Int32))] [(.int (f 1)), (.ref a3)])) _
        refine XS.bipush X42.here hx rfl (hb hby d1_54) ?_
        show Steps p.tables e below (T42.setTop (mkF m 56 #[.val (.ref a1), .val (.int p2), .val (.ref a3), .val (.int p4), .val (.int (1 : Int32))] [(.int (6 : Int32)), (.int (f 1)), (.ref a3)])) _
        refine XS.iushr X42.here hx rfl (hb hby d1_56) rfl ?_
        show Steps p.tables e below (T42.setTop (mkF m 57 #[.val (.ref a1), .val (.int p2), .val (.ref a3), .val (.int p4), .val (.int (1 : Int32))] [(.int (((f 1).toUInt32 >>> ((6 : Int32) &&& 31).toUInt32).toInt32)), (.ref a3)])) _
        refine Jvm.Free.XT.dup2 X42.here hx rfl (hb hby d1_57) rfl rfl rfl ?_
        show Steps p.tables e below (T42.setTop (mkF m 58 #[.val (.ref a1), .val (.int p2), .val (.ref a3), .val (.int p4), .val (.int (1 : Int32))] [(.int (((f 1).toUInt32 >>> ((6 : Int32) &&& 31).toUInt32).toInt32)), (.ref a3), (.int (((f 1).toUInt32 >>> ((6 : Int32) &&& 31).toUInt32).toInt32)), (.ref a3)])) _
        refine X42.laload hx (j := (((f 1).toUInt32 >>> ((6 : Int32) &&& 31).toUInt32).toInt32)) (v := (.long ((own_st p4 (f 0) g) (own_j (f 1))))) (by rw [e42]; exact Ar45.1) (State.isArrayOf_alike hZ.alike Ar45.2.1) Ar45.2.2 hin45 hat45 (g := (mkF m 58 #[.val (.ref a1), .val (.int p2), .val (.ref a3), .val (.int p4), .val (.int (1 : Int32))] [(.int (((f 1).toUInt32 >>> ((6 : Int32) &&& 31).toUInt32).toInt32)), (.ref a3), (.int (((f 1).toUInt32 >>> ((6 : Int32) &&& 31).toUInt32).toInt32)), (.ref a3)])) rfl rfl (hb hby d1_58) _ ?_
        show Steps p.tables e below (T42.setTop (mkF m 59 #[.val (.ref a1), .val (.int p2), .val (.ref a3), .val (.int p4), .val (.int (1 : Int32))] [(.long ((own_st p4 (f 0) g) (own_j (f 1)))), (.int (((f 1).toUInt32 >>> ((6 : Int32) &&& 31).toUInt32).toInt32)), (.ref a3)])) _
        refine XS.lconst X42.here hx rfl (hb hby d1_59) ?_
        show Steps p.tables e below (T42.setTop (mkF m 60 #[.val (.ref a1), .val (.int p2), .val (.ref a3), .val (.int p4), .val (.int (1 : Int32))] [(.long (1 : Int64)), (.long ((own_st p4 (f 0) g) (own_j (f 1)))), (.int (((f 1).toUInt32 >>> ((6 : Int32) &&& 31).toUInt32).toInt32)), (.ref a3)])) _
        refine XS.aloadN X42.here hx rfl (hb hby d1_60) rfl rfl ?_
        show Steps p.tables e below (T42.setTop (mkF m 61 #[.val (.ref a1), .val (.int p2), .val (.ref a3), .val (.int p4), .val (.int (1 : Int32))] [(.ref a1), (.long (1 : Int64)), (.long ((own_st p4 (f 0) g) (own_j (f 1)))), (.int (((f 1).toUInt32 >>> ((6 : Int32) &&& 31).toUInt32).toInt32)), (.ref a3)])) _
        refine XS.iload X42.here hx rfl (hb hby d1_61) rfl ?_
        show Steps p.tables e below (T42.setTop (mkF m 63 #[.val (.ref a1), .val (.int p2), .val (.ref a3), .val (.int p4), .val (.int (1 : Int32))] [(.int (1 : Int32)), (.ref a1), (.long (1 : Int64)), (.long ((own_st p4 (f 0) g) (own_j (f 1)))), (.int (((f 1).toUInt32 >>> ((6 : Int32) &&& 31).toUInt32).toInt32)), (.ref a3)])) _
        refine X42.caload hx (j := (1 : Int32)) (v := (.int (f 1))) (by rw [e42]; exact Ar46.1) (State.isArrayOf_alike hZ.alike Ar46.2.1) Ar46.2.2 hin46 hat46 (g := (mkF m 63 #[.val (.ref a1), .val (.int p2), .val (.ref a3), .val (.int p4), .val (.int (1 : Int32))] [(.int (1 : Int32)), (.ref a1), (.long (1 : Int64)), (.long ((own_st p4 (f 0) g) (own_j (f 1)))), (.int (((f 1).toUInt32 >>> ((6 : Int32) &&& 31).toUInt32).toInt32)), (.ref a3)])) rfl rfl (hb hby d1_63) _ ?_
        show Steps p.tables e below (T42.setTop (mkF m 64 #[.val (.ref a1), .val (.int p2), .val (.ref a3), .val (.int p4), .val (.int (1 : Int32))] [(.int (f 1)), (.long (1 : Int64)), (.long ((own_st p4 (f 0) g) (own_j (f 1)))), (.int (((f 1).toUInt32 >>> ((6 : Int32) &&& 31).toUInt32).toInt32)), (.ref a3)])) _
        refine XS.lshl X42.here hx rfl (hb hby d1_64) rfl ?_
        show Steps p.tables e below (T42.setTop (mkF m 65 #[.val (.ref a1), .val (.int p2), .val (.ref a3), .val (.int p4), .val (.int (1 : Int32))] [(.long ((1 : Int64) <<< ((f 1) &&& 0x3f).toInt64)), (.long ((own_st p4 (f 0) g) (own_j (f 1)))), (.int (((f 1).toUInt32 >>> ((6 : Int32) &&& 31).toUInt32).toInt32)), (.ref a3)])) _
        refine XS.lor X42.here hx rfl (hb hby d1_65) rfl ?_
        show Steps p.tables e below (T42.setTop (mkF m 66 #[.val (.ref a1), .val (.int p2), .val (.ref a3), .val (.int p4), .val (.int (1 : Int32))] [(.long (((own_st p4 (f 0) g) (own_j (f 1))) ||| ((1 : Int64) <<< ((f 1) &&& 0x3f).toInt64))), (.int (((f 1).toUInt32 >>> ((6 : Int32) &&& 31).toUInt32).toInt32)), (.ref a3)])) _
        refine st47 _ ?_
        show Steps p.tables e below (T47.setTop (mkF m 67 #[.val (.ref a1), .val (.int p2), .val (.ref a3), .val (.int p4), .val (.int (1 : Int32))] [])) _
        refine XS.iinc X47.here hx rfl (hb hby d1_67) rfl (l' := #[.val (.ref a1), .val (.int p2), .val (.ref a3), .val (.int p4), .val (.int (2 : Int32))]) rfl ?_
        show Steps p.tables e below (T47.setTop (mkF m 70 #[.val (.ref a1), .val (.int p2), .val (.ref a3), .val (.int p4), .val (.int (2 : Int32))] [])) _
        refine XS.goto X47.here hx rfl (pc0 := 70) (pc' := 43) rfl (hb hby d1_70) (by decide) (by decide) ?_
        show Steps p.tables e below (T47.setTop (mkF m 43 #[.val (.ref a1), .val (.int p2), .val (.ref a3), .val (.int p4), .val (.int (2 : Int32))] [])) _
        refine XS.iload X47.here hx rfl (hb hby d1_43) rfl ?_
        show Steps p.tables e below (T47.setTop (mkF m 45 #[.val (.ref a1), .val (.int p2), .val (.ref a3), .val (.int p4), .val (.int (2 : Int32))] [(.int (2 : Int32))])) _
        refine XS.iloadN X47.here hx rfl (hb hby d1_45) rfl ?_
        show Steps p.tables e below (T47.setTop (mkF m 46 #[.val (.ref a1), .val (.int p2), .val (.ref a3), .val (.int p4), .val (.int (2 : Int32))] [(.int p2), (.int (2 : Int32))])) _
        refine XS.icmpNo X47.here hx rfl (hb hby d1_46) rfl (tlt ((by rw [hk]; decide) : ((2 : Int32) < p2))).2.1 ?_
        show Steps p.tables e below (T47.setTop (mkF m 49 #[.val (.ref a1), .val (.int p2), .val (.ref a3), .val (.int p4), .val (.int (2 : Int32))] [])) _
        refine XS.aloadN X47.here hx rfl (hb hby d1_49) rfl rfl ?_
        show Steps p.tables e below (T47.setTop (mkF m 50 #[.val (.ref a1), .val (.int p2), .val (.ref a3), .val (.int p4), .val (.int (2 : Int32))] [(.ref a3)])) _
        refine XS.aloadN X47.here hx rfl (hb hby d1_50) rfl rfl ?_
        show Steps p.tables e below (T47.setTop (mkF m 51 #[.val (.ref a1), .val (.int p2), .val (.ref a3), .val (.int p4), .val (.int (2 : Int32))] [(.ref a1), (.ref a3)])) _
        refine XS.iload X47.here hx rfl (hb hby d1_51) rfl ?_
        show Steps p.tables e below (T47.setTop (mkF m 53 #[.val (.ref a1), .val (.int p2), .val (.ref a3), .val (.int p4), .val (.int (2 : Int32))] [(.int (2 : Int32)), (.ref a1), (.ref a3)])) _
        refine X47.caload hx (j := (2 : Int32)) (v := (.int (f 2))) (by rw [e47]; exact Ar49.1) (State.isArrayOf_alike hZ.alike Ar49.2.1) Ar49.2.2 hin49 hat49 (g := (mkF m 53 #[.val (.ref a1), .val (.int p2), .val (.ref a3), .val (.int p4), .val (.int (2 : Int32))] [(.int (2 : Int32)), (.ref a1), (.ref a3)])) rfl rfl (hb hby d1_53) _ ?_
        show Steps p.tables e below (T47.setTop (mkF m 54 #[.val (.ref a1), .val (.int p2), .val (.ref a3), .val (.int p4), .val (.int (2 : Int32))] [(.int (f 2)), (.ref a3)])) _
        refine XS.bipush X47.here hx rfl (hb hby d1_54) ?_
        show Steps p.tables e below (T47.setTop (mkF m 56 #[.val (.ref a1), .val (.int p2), .val (.ref a3), .val (.int p4), .val (.int (2 : Int32))] [(.int (6 : Int32)), (.int (f 2)), (.ref a3)])) _
        refine XS.iushr X47.here hx rfl (hb hby d1_56) rfl ?_
        show Steps p.tables e below (T47.setTop (mkF m 57 #[.val (.ref a1), .val (.int p2), .val (.ref a3), .val (.int p4), .val (.int (2 : Int32))] [(.int (((f 2).toUInt32 >>> ((6 : Int32) &&& 31).toUInt32).toInt32)), (.ref a3)])) _
        refine Jvm.Free.XT.dup2 X47.here hx rfl (hb hby d1_57) rfl rfl rfl ?_
        show Steps p.tables e below (T47.setTop (mkF m 58 #[.val (.ref a1), .val (.int p2), .val (.ref a3), .val (.int p4), .val (.int (2 : Int32))] [(.int (((f 2).toUInt32 >>> ((6 : Int32) &&& 31).toUInt32).toInt32)), (.ref a3), (.int (((f 2).toUInt32 >>> ((6 : Int32) &&& 31).toUInt32).toInt32)), (.ref a3)])) _
        refine X47.laload hx (j := (((f 2).toUInt32 >>> ((6 : Int32) &&& 31).toUInt32).toInt32)) (v := (.long ((own_st p4 (f 1) (own_st p4 (f 0) g)) (own_j (f 2))))) (by rw [e47]; exact Ar50.1) (State.isArrayOf_alike hZ.alike Ar50.2.1) Ar50.2.2 hin50 hat50 (g := (mkF m 58 #[.val (.ref a1), .val (.int p2), .val (.ref a3), .val (.int p4), .val (.int (2 : Int32))] [(.int (((f 2).toUInt32 >>> ((6 : Int32) &&& 31).toUInt32).toInt32)), (.ref a3), (.int (((f 2).toUInt32 >>> ((6 : Int32) &&& 31).toUInt32).toInt32)), (.ref a3)])) rfl rfl (hb hby d1_58) _ ?_
        show Steps p.tables e below (T47.setTop (mkF m 59 #[.val (.ref a1), .val (.int p2), .val (.ref a3), .val (.int p4), .val (.int (2 : Int32))] [(.long ((own_st p4 (f 1) (own_st p4 (f 0) g)) (own_j (f 2)))), (.int (((f 2).toUInt32 >>> ((6 : Int32) &&& 31).toUInt32).toInt32)), (.ref a3)])) _
        refine XS.lconst X47.here hx rfl (hb hby d1_59) ?_
        show Steps p.tables e below (T47.setTop (mkF m 60 #[.val (.ref a1), .val (.int p2), .val (.ref a3), .val (.int p4), .val (.int (2 : Int32))] [(.long (1 : Int64)), (.long ((own_st p4 (f 1) (own_st p4 (f 0) g)) (own_j (f 2)))), (.int (((f 2).toUInt32 >>> ((6 : Int32) &&& 31).toUInt32).toInt32)), (.ref a3)])) _
        refine XS.aloadN X47.here hx rfl (hb hby d1_60) rfl rfl ?_
        show Steps p.tables e below (T47.setTop (mkF m 61 #[.val (.ref a1), .val (.int p2), .val (.ref a3), .val (.int p4), .val (.int (2 : Int32))] [(.ref a1), (.long (1 : Int64)), (.long ((own_st p4 (f 1) (own_st p4 (f 0) g)) (own_j (f 2)))), (.int (((f 2).toUInt32 >>> ((6 : Int32) &&& 31).toUInt32).toInt32)), (.ref a3)])) _
        refine XS.iload X47.here hx rfl (hb hby d1_61) rfl ?_
        show Steps p.tables e below (T47.setTop (mkF m 63 #[.val (.ref a1), .val (.int p2), .val (.ref a3), .val (.int p4), .val (.int (2 : Int32))] [(.int (2 : Int32)), (.ref a1), (.long (1 : Int64)), (.long ((own_st p4 (f 1) (own_st p4 (f 0) g)) (own_j (f 2)))), (.int (((f 2).toUInt32 >>> ((6 : Int32) &&& 31).toUInt32).toInt32)), (.ref a3)])) _
        refine X47.caload hx (j := (2 : Int32)) (v := (.int (f 2))) (by rw [e47]; exact Ar51.1) (State.isArrayOf_alike hZ.alike Ar51.2.1) Ar51.2.2 hin51 hat51 (g := (mkF m 63 #[.val (.ref a1), .val (.int p2), .val (.ref a3), .val (.int p4), .val (.int (2 : Int32))] [(.int (2 : Int32)), (.ref a1), (.long (1 : Int64)), (.long ((own_st p4 (f 1) (own_st p4 (f 0) g)) (own_j (f 2)))), (.int (((f 2).toUInt32 >>> ((6 : Int32) &&& 31).toUInt32).toInt32)), (.ref a3)])) rfl rfl (hb hby d1_63) _ ?_
        show Steps p.tables e below (T47.setTop (mkF m 64 #[.val (.ref a1), .val (.int p2), .val (.ref a3), .val (.int p4), .val (.int (2 : Int32))] [(.int (f 2)), (.long (1 : Int64)), (.long ((own_st p4 (f 1) (own_st p4 (f 0) g)) (own_j (f 2)))), (.int (((f 2).toUInt32 >>> ((6 : Int32) &&& 31).toUInt32).toInt32)), (.ref a3)])) _
        refine XS.lshl X47.here hx rfl (hb hby d1_64) rfl ?_
        show Steps p.tables e below (T47.setTop (mkF m 65 #[.val (.ref a1), .val (.int p2), .val (.ref a3), .val (.int p4), .val (.int (2 : Int32))] [(.long ((1 : Int64) <<< ((f 2) &&& 0x3f).toInt64)), (.long ((own_st p4 (f 1) (own_st p4 (f 0) g)) (own_j (f 2)))), (.int (((f 2).toUInt32 >>> ((6 : Int32) &&& 31).toUInt32).toInt32)), (.ref a3)])) _
        refine XS.lor X47.here hx rfl (hb hby d1_65) rfl ?_
        show Steps p.tables e below (T47.setTop (mkF m 66 #[.val (.ref a1), .val (.int p2), .val (.ref a3), .val (.int p4), .val (.int (2 : Int32))] [(.long (((own_st p4 (f 1) (own_st p4 (f 0) g)) (own_j (f 2))) ||| ((1 : Int64) <<< ((f 2) &&& 0x3f).toInt64))), (.int (((f 2).toUInt32 >>> ((6 : Int32) &&& 31).toUInt32).toInt32)), (.ref a3)])) _
        refine st52 _ ?_
        show Steps p.tables e below (T52.setTop (mkF m 67 #[.val (.ref a1), .val (.int p2), .val (.ref a3), .val (.int p4), .val (.int (2 : Int32))] [])) _
        refine XS.iinc X52.here hx rfl (hb hby d1_67) rfl (l' := #[.val (.ref a1), .val (.int p2), .val (.ref a3), .val (.int p4), .val (.int (3 : Int32))]) rfl ?_
        show Steps p.tables e below (T52.setTop (mkF m 70 #[.val (.ref a1), .val (.int p2), .val (.ref a3), .val (.int p4), .val (.int (3 : Int32))] [])) _
        refine XS.goto X52.here hx rfl (pc0 := 70) (pc' := 43) rfl (hb hby d1_70) (by decide) (by decide) ?_
        show Steps p.tables e below (T52.setTop (mkF m 43 #[.val (.ref a1), .val (.int p2), .val (.ref a3), .val (.int p4), .val (.int (3 : Int32))] [])) _
        refine XS.iload X52.here hx rfl (hb hby d1_43) rfl ?_
        show Steps p.tables e below (T52.setTop (mkF m 45 #[.val (.ref a1), .val (.int p2), .val (.ref a3), .val (.int p4), .val (.int (3 : Int32))] [(.int (3 : Int32))])) _
        refine XS.iloadN X52.here hx rfl (hb hby d1_45) rfl ?_
        show Steps p.tables e below (T52.setTop (mkF m 46 #[.val (.ref a1), .val (.int p2), .val (.ref a3), .val (.int p4), .val (.int (3 : Int32))] [(.int p2), (.int (3 : Int32))])) _
        refine XS.icmpYes X52.here hx rfl (pc0 := 46) (pc' := 73) rfl (hb hby d1_46) rfl (flt ((by rw [hk]; decide) : ¬ ((3 : Int32) < p2))).2.1 (by decide) (by decide) ?_
        show Steps p.tables e below (T52.setTop (mkF m 73 #[.val (.ref a1), .val (.int p2), .val (.ref a3), .val (.int p4), .val (.int (3 : Int32))] [])) _
        exact X52.returnOut hx Bd.returns (hb hby d1_73) hr
      · show Q_rm1 Z a1 p2 a3 p4 f g h0 n0 _ T52.heap _
        rw [e52]
        exact ⟨rfl, N52, K52, (by rw [own_wr3 hk]; exact VU53_v53)⟩
    · obtain ⟨cl54, Ar54, S54, H54⟩ := id V0
      have hin54 : ¬ ((0 : Int32) < 0 ∨ cl54.slots.size ≤ ((0 : Int32)).toNatClampNeg) := inA S54 (by decide) (by decide)
      have hat54 : cl54.slots[((0 : Int32)).toNatClampNeg]? = some (.int (f 0)) := ArF.at S54 H54 hin54 rfl
      obtain ⟨cl55, Ar55, S55, H55⟩ := id W0
      have hin55 : ¬ ((((f 0).toUInt32 >>> ((6 : Int32) &&& 31).toUInt32).toInt32) < 0 ∨ cl55.slots.size ≤ ((((f 0).toUInt32 >>> ((6 : Int32) &&& 31).toUInt32).toInt32)).toNatClampNeg) := inA S55 (own_wx (fc 0 (by decide))).1 (own_wx (fc 0 (by decide))).2
      have hat55 : cl55.slots[((((f 0).toUInt32 >>> ((6 : Int32) &&& 31).toUInt32).toInt32)).toNatClampNeg]? = some (.long (g (own_j (f 0)))) := ArF.at S55 H55 hin55 rfl
      obtain ⟨cl56, Ar56, S56, H56⟩ := id V0
      have hin56 : ¬ ((0 : Int32) < 0 ∨ cl56.slots.size ≤ ((0 : Int32)).toNatClampNeg) := inA S56 (by decide) (by decide)
      have hat56 : cl56.slots[((0 : Int32)).toNatClampNeg]? = some (.int (f 0)) := ArF.at S56 H56 hin56 rfl
      obtain ⟨cl57, Ar57, S57, H57⟩ := id W0
      have hin57 : ¬ ((((f 0).toUInt32 >>> ((6 : Int32) &&& 31).toUInt32).toInt32) < 0 ∨ cl57.slots.size ≤ ((((f 0).toUInt32 >>> ((6 : Int32) &&& 31).toUInt32).toInt32)).toNatClampNeg) := inA S57 (own_wx (fc 0 (by decide))).1 (own_wx (fc 0 (by decide))).2
      obtain ⟨T57, h57, X57, e57, W57, st57⟩ := stJ X0 hx hZ e0 Ar57 (j := (((f 0).toUInt32 >>> ((6 : Int32) &&& 31).toUInt32).toInt32)) hin57 (g := (mkF m 30 #[.val (.ref a1), .val (.int p2), .val (.ref a3), .val (.int p4), .val (.int (0 : Int32))] [(.long ((g (own_j (f 0))) ^^^ ((1 : Int64) <<< ((f 0) &&& 0x3f).toInt64))), (.int (((f 0).toUInt32 >>> ((6 : Int32) &&& 31).toUInt32).toInt32)), (.ref a3)])) rfl rfl (hb hby d1_30)
      have V0_v57 := V0.other W57 hne
      have Z57 : n0 ≤ h57.size := Nat.le_trans Z0 (Nat.le_of_eq W57.size.symm)
      have K57 := K0.wr W57 (Or.inl (by simp))
      have V57_v57 := ArF.set Ar57 S57 H57 W57 hin57
      have N57 := Fr.snoc X57 N0 ga
      have VU58_v58 : ArF Z h57 a3 .long 1024 (fun i => .long ((own_st p4 (f 0) g) i)) := V57_v57.congr (fun i hi => own_stV p4 (f 0) g i _ (by rw [own_op, if_neg hc1_38]; rfl))
      obtain ⟨cl59, Ar59, S59, H59⟩ := id V0_v57
      have hin59 : ¬ ((1 : Int32) < 0 ∨ cl59.slots.size ≤ ((1 : Int32)).toNatClampNeg) := inA S59 (by decide) (by decide)
      have hat59 : cl59.slots[((1 : Int32)).toNatClampNeg]? = some (.int (f 1)) := ArF.at S59 H59 hin59 rfl
      obtain ⟨cl60, Ar60, S60, H60⟩ := id VU58_v58
      have hin60 : ¬ ((((f 1).toUInt32 >>> ((6 : Int32) &&& 31).toUInt32).toInt32) < 0 ∨ cl60.slots.size ≤ ((((f 1).toUInt32 >>> ((6 : Int32) &&& 31).toUInt32).toInt32)).toNatClampNeg) := inA S60 (own_wx (fc 1 (by decide))).1 (own_wx (fc 1 (by decide))).2
      have hat60 : cl60.slots[((((f 1).toUInt32 >>> ((6 : Int32) &&& 31).toUInt32).toInt32)).toNatClampNeg]? = some (.long ((own_st p4 (f 0) g) (own_j (f 1)))) := ArF.at S60 H60 hin60 rfl
      obtain ⟨cl61, Ar61, S61, H61⟩ := id V0_v57
      have hin61 : ¬ ((1 : Int32) < 0 ∨ cl61.slots.size ≤ ((1 : Int32)).toNatClampNeg) := inA S61 (by decide) (by decide)
      have hat61 : cl61.slots[((1 : Int32)).toNatClampNeg]? = some (.int (f 1)) := ArF.at S61 H61 hin61 rfl
      obtain ⟨cl62, Ar62, S62, H62⟩ := id VU58_v58
      have hin62 : ¬ ((((f 1).toUInt32 >>> ((6 : Int32) &&& 31).toUInt32).toInt32) < 0 ∨ cl62.slots.size ≤ ((((f 1).toUInt32 >>> ((6 : Int32) &&& 31).toUInt32).toInt32)).toNatClampNeg) := inA S62 (own_wx (fc 1 (by decide))).1 (own_wx (fc 1 (by decide))).2
      obtain ⟨T62, h62, X62, e62, W62, st62⟩ := stJ X57 hx hZ e57 Ar62 (j := (((f 1).toUInt32 >>> ((6 : Int32) &&& 31).toUInt32).toInt32)) hin62 (g := (mkF m 30 #[.val (.ref a1), .val (.int p2), .val (.ref a3), .val (.int p4), .val (.int (1 : Int32))] [(.long (((own_st p4 (f 0) g) (own_j (f 1))) ^^^ ((1 : Int64) <<< ((f 1) &&& 0x3f).toInt64))), (.int (((f 1).toUInt32 >>> ((6 : Int32) &&& 31).toUInt32).toInt32)), (.ref a3)])) rfl rfl (hb hby d1_30)
      have V0_v62 := V0_v57.other W62 hne
      have Z62 : n0 ≤ h62.size := Nat.le_trans Z57 (Nat.le_of_eq W62.size.symm)
      have K62 := K57.wr W62 (Or.inl (by simp))
      have V62_v62 := ArF.set Ar62 S62 H62 W62 hin62
      have N62 := Fr.snoc X62 N57 ga
      have VU63_v63 : ArF Z h62 a3 .long 1024 (fun i => .long ((own_st p4 (f 1) (own_st p4 (f 0) g)) i)) := V62_v62.congr (fun i hi => own_stV p4 (f 1) (own_st p4 (f 0) g) i _ (by rw [own_op, if_neg hc1_38]; rfl))
      obtain ⟨cl64, Ar64, S64, H64⟩ := id V0_v62
      have hin64 : ¬ ((2 : Int32) < 0 ∨ cl64.slots.size ≤ ((2 : Int32)).toNatClampNeg) := inA S64 (by decide) (by decide)
      have hat64 : cl64.slots[((2 : Int32)).toNatClampNeg]? = some (.int (f 2)) := ArF.at S64 H64 hin64 rfl
      obtain ⟨cl65, Ar65, S65, H65⟩ := id VU63_v63
      have hin65 : ¬ ((((f 2).toUInt32 >>> ((6 : Int32) &&& 31).toUInt32).toInt32) < 0 ∨ cl65.slots.size ≤ ((((f 2).toUInt32 >>> ((6 : Int32) &&& 31).toUInt32).toInt32)).toNatClampNeg) := inA S65 (own_wx (fc 2 (by decide))).1 (own_wx (fc 2 (by decide))).2
      have hat65 : cl65.slots[((((f 2).toUInt32 >>> ((6 : Int32) &&& 31).toUInt32).toInt32)).toNatClampNeg]? = some (.long ((own_st p4 (f 1) (own_st p4 (f 0) g)) (own_j (f 2)))) := ArF.at S65 H65 hin65 rfl
      obtain ⟨cl66, Ar66, S66, H66⟩ := id V0_v62
      have hin66 : ¬ ((2 : Int32) < 0 ∨ cl66.slots.size ≤ ((2 : Int32)).toNatClampNeg) := inA S66 (by decide) (by decide)
      have hat66 : cl66.slots[((2 : Int32)).toNatClampNeg]? = some (.int (f 2)) := ArF.at S66 H66 hin66 rfl
      obtain ⟨cl67, Ar67, S67, H67⟩ := id VU63_v63
      have hin67 : ¬ ((((f 2).toUInt32 >>> ((6 : Int32) &&& 31).toUInt32).toInt32) < 0 ∨ cl67.slots.size ≤ ((((f 2).toUInt32 >>> ((6 : Int32) &&& 31).toUInt32).toInt32)).toNatClampNeg) := inA S67 (own_wx (fc 2 (by decide))).1 (own_wx (fc 2 (by decide))).2
      obtain ⟨T67, h67, X67, e67, W67, st67⟩ := stJ X62 hx hZ e62 Ar67 (j := (((f 2).toUInt32 >>> ((6 : Int32) &&& 31).toUInt32).toInt32)) hin67 (g := (mkF m 30 #[.val (.ref a1), .val (.int p2), .val (.ref a3), .val (.int p4), .val (.int (2 : Int32))] [(.long (((own_st p4 (f 1) (own_st p4 (f 0) g)) (own_j (f 2))) ^^^ ((1 : Int64) <<< ((f 2) &&& 0x3f).toInt64))), (.int (((f 2).toUInt32 >>> ((6 : Int32) &&& 31).toUInt32).toInt32)), (.ref a3)])) rfl rfl (hb hby d1_30)
      have V0_v67 := V0_v62.other W67 hne
      have Z67 : n0 ≤ h67.size := Nat.le_trans Z62 (Nat.le_of_eq W67.size.symm)
      have K67 := K62.wr W67 (Or.inl (by simp))
      have V67_v67 := ArF.set Ar67 S67 H67 W67 hin67
      have N67 := Fr.snoc X67 N62 ga
      have VU68_v68 : ArF Z h67 a3 .long 1024 (fun i => .long ((own_st p4 (f 2) (own_st p4 (f 1) (own_st p4 (f 0) g))) i)) := V67_v67.congr (fun i hi => own_stV p4 (f 2) (own_st p4 (f 1) (own_st p4 (f 0) g)) i _ (by rw [own_op, if_neg hc1_38]; rfl))
      obtain ⟨fs, hr, hrun, hended, hW, hsame⟩ := X67.leave (v := none) (fun _ => rfl)
      refine ⟨_, _, pre37 _ ?_, hrun, hended, _, _, rfl, ?_, ⟨_, rfl⟩, hW, hsame.mono (by decide) (by decide)⟩
      · show Steps p.tables e below (s₁.setTop (mkF m 1 #[.val (.ref a1), .val (.int p2), .val (.ref a3), .val (.int p4), .unset] [(.int p4)])) _
        refine XS.ifNo X0.here hx rfl (hb hby d1_1) rfl ((if0 _ _).trans (feq hc1_38).1) ?_
        show Steps p.tables e below (s₁.setTop (mkF m 4 #[.val (.ref a1), .val (.int p2), .val (.ref a3), .val (.int p4), .unset] [])) _
        refine XS.iconst X0.here hx rfl (hb hby d1_4) ?_
        show Steps p.tables e below (s₁.setTop (mkF m 5 #[.val (.ref a1), .val (.int p2), .val (.ref a3), .val (.int p4), .unset] [(.int (0 : Int32))])) _
        refine XS.istore X0.here hx rfl (hb hby d1_5) rfl (l' := #[.val (.ref a1), .val (.int p2), .val (.ref a3), .val (.int p4), .val (.int (0 : Int32))]) rfl ?_
        show Steps p.tables e below (s₁.setTop (mkF m 7 #[.val (.ref a1), .val (.int p2), .val (.ref a3), .val (.int p4), .val (.int (0 : Int32))] [])) _
        refine XS.iload X0.here hx rfl (hb hby d1_7) rfl ?_
        show Steps p.tables e below (s₁.setTop (mkF m 9 #[.val (.ref a1), .val (.int p2), .val (.ref a3), .val (.int p4), .val (.int (0 : Int32))] [(.int (0 : Int32))])) _
        refine XS.iloadN X0.here hx rfl (hb hby d1_9) rfl ?_
        show Steps p.tables e below (s₁.setTop (mkF m 10 #[.val (.ref a1), .val (.int p2), .val (.ref a3), .val (.int p4), .val (.int (0 : Int32))] [(.int p2), (.int (0 : Int32))])) _
        refine XS.icmpNo X0.here hx rfl (hb hby d1_10) rfl (tlt ((by rw [hk]; decide) : ((0 : Int32) < p2))).2.1 ?_
        show Steps p.tables e below (s₁.setTop (mkF m 13 #[.val (.ref a1), .val (.int p2), .val (.ref a3), .val (.int p4), .val (.int (0 : Int32))] [])) _
        refine XS.aloadN X0.here hx rfl (hb hby d1_13) rfl rfl ?_
        show Steps p.tables e below (s₁.setTop (mkF m 14 #[.val (.ref a1), .val (.int p2), .val (.ref a3), .val (.int p4), .val (.int (0 : Int32))] [(.ref a3)])) _
        refine XS.aloadN X0.here hx rfl (hb hby d1_14) rfl rfl ?_
        show Steps p.tables e below (s₁.setTop (mkF m 15 #[.val (.ref a1), .val (.int p2), .val (.ref a3), .val (.int p4), .val (.int (0 : Int32))] [(.ref a1), (.ref a3)])) _
        refine XS.iload X0.here hx rfl (hb hby d1_15) rfl ?_
        show Steps p.tables e below (s₁.setTop (mkF m 17 #[.val (.ref a1), .val (.int p2), .val (.ref a3), .val (.int p4), .val (.int (0 : Int32))] [(.int (0 : Int32)), (.ref a1), (.ref a3)])) _
        refine X0.caload hx (j := (0 : Int32)) (v := (.int (f 0))) (by rw [e0]; exact Ar54.1) (State.isArrayOf_alike hZ.alike Ar54.2.1) Ar54.2.2 hin54 hat54 (g := (mkF m 17 #[.val (.ref a1), .val (.int p2), .val (.ref a3), .val (.int p4), .val (.int (0 : Int32))] [(.int (0 : Int32)), (.ref a1), (.ref a3)])) rfl rfl (hb hby d1_17) _ ?_
        show Steps p.tables e below (s₁.setTop (mkF m 18 #[.val (.ref a1), .val (.int p2), .val (.ref a3), .val (.int p4), .val (.int (0 : Int32))] [(.int (f 0)), (.ref a3)])) _
        refine XS.bipush X0.here hx rfl (hb hby d1_18) ?_
        show Steps p.tables e below (s₁.setTop (mkF m 20 #[.val (.ref a1), .val (.int p2), .val (.ref a3), .val (.int p4), .val (.int (0 : Int32))] [(.int (6 : Int32)), (.int (f 0)), (.ref a3)])) _
        refine XS.iushr X0.here hx rfl (hb hby d1_20) rfl ?_
        show Steps p.tables e below (s₁.setTop (mkF m 21 #[.val (.ref a1), .val (.int p2), .val (.ref a3), .val (.int p4), .val (.int (0 : Int32))] [(.int (((f 0).toUInt32 >>> ((6 : Int32) &&& 31).toUInt32).toInt32)), (.ref a3)])) _
        refine Jvm.Free.XT.dup2 X0.here hx rfl (hb hby d1_21) rfl rfl rfl ?_
        show Steps p.tables e below (s₁.setTop (mkF m 22 #[.val (.ref a1), .val (.int p2), .val (.ref a3), .val (.int p4), .val (.int (0 : Int32))] [(.int (((f 0).toUInt32 >>> ((6 : Int32) &&& 31).toUInt32).toInt32)), (.ref a3), (.int (((f 0).toUInt32 >>> ((6 : Int32) &&& 31).toUInt32).toInt32)), (.ref a3)])) _
        refine X0.laload hx (j := (((f 0).toUInt32 >>> ((6 : Int32) &&& 31).toUInt32).toInt32)) (v := (.long (g (own_j (f 0))))) (by rw [e0]; exact Ar55.1) (State.isArrayOf_alike hZ.alike Ar55.2.1) Ar55.2.2 hin55 hat55 (g := (mkF m 22 #[.val (.ref a1), .val (.int p2), .val (.ref a3), .val (.int p4), .val (.int (0 : Int32))] [(.int (((f 0).toUInt32 >>> ((6 : Int32) &&& 31).toUInt32).toInt32)), (.ref a3), (.int (((f 0).toUInt32 >>> ((6 : Int32) &&& 31).toUInt32).toInt32)), (.ref a3)])) rfl rfl (hb hby d1_22) _ ?_
        show Steps p.tables e below (s₁.setTop (mkF m 23 #[.val (.ref a1), .val (.int p2), .val (.ref a3), .val (.int p4), .val (.int (0 : Int32))] [(.long (g (own_j (f 0)))), (.int (((f 0).toUInt32 >>> ((6 : Int32) &&& 31).toUInt32).toInt32)), (.ref a3)])) _
        refine XS.lconst X0.here hx rfl (hb hby d1_23) ?_
        show Steps p.tables e below (s₁.setTop (mkF m 24 #[.val (.ref a1), .val (.int p2), .val (.ref a3), .val (.int p4), .val (.int (0 : Int32))] [(.long (1 : Int64)), (.long (g (own_j (f 0)))), (.int (((f 0).toUInt32 >>> ((6 : Int32) &&& 31).toUInt32).toInt32)), (.ref a3)])) _
        refine XS.aloadN X0.here hx rfl (hb hby d1_24) rfl rfl ?_
        show Steps p.tables e below (s₁.setTop (mkF m 25 #[.val (.ref a1), .val (.int p2), .val (.ref a3), .val (.int p4), .val (.int (0 : Int32))] [(.ref a1), (.long (1 : Int64)), (.long (g (own_j (f 0)))), (.int (((f 0).toUInt32 >>> ((6 : Int32) &&& 31).toUInt32).toInt32)), (.ref a3)])) _
        refine XS.iload X0.here hx rfl (hb hby d1_25) rfl ?_
        show Steps p.tables e below (s₁.setTop (mkF m 27 #[.val (.ref a1), .val (.int p2), .val (.ref a3), .val (.int p4), .val (.int (0 : Int32))] [(.int (0 : Int32)), (.ref a1), (.long (1 : Int64)), (.long (g (own_j (f 0)))), (.int (((f 0).toUInt32 >>> ((6 : Int32) &&& 31).toUInt32).toInt32)), (.ref a3)])) _
        refine X0.caload hx (j := (0 : Int32)) (v := (.int (f 0))) (by rw [e0]; exact Ar56.1) (State.isArrayOf_alike hZ.alike Ar56.2.1) Ar56.2.2 hin56 hat56 (g := (mkF m 27 #[.val (.ref a1), .val (.int p2), .val (.ref a3), .val (.int p4), .val (.int (0 : Int32))] [(.int (0 : Int32)), (.ref a1), (.long (1 : Int64)), (.long (g (own_j (f 0)))), (.int (((f 0).toUInt32 >>> ((6 : Int32) &&& 31).toUInt32).toInt32)), (.ref a3)])) rfl rfl (hb hby d1_27) _ ?_
        show Steps p.tables e below (s₁.setTop (mkF m 28 #[.val (.ref a1), .val (.int p2), .val (.ref a3), .val (.int p4), .val (.int (0 : Int32))] [(.int (f 0)), (.long (1 : Int64)), (.long (g (own_j (f 0)))), (.int (((f 0).toUInt32 >>> ((6 : Int32) &&& 31).toUInt32).toInt32)), (.ref a3)])) _
        refine XS.lshl X0.here hx rfl (hb hby d1_28) rfl ?_
        show Steps p.tables e below (s₁.setTop (mkF m 29 #[.val (.ref a1), .val (.int p2), .val (.ref a3), .val (.int p4), .val (.int (0 : Int32))] [(.long ((1 : Int64) <<< ((f 0) &&& 0x3f).toInt64)), (.long (g (own_j (f 0)))), (.int (((f 0).toUInt32 >>> ((6 : Int32) &&& 31).toUInt32).toInt32)), (.ref a3)])) _
        refine XS.lxor X0.here hx rfl (hb hby d1_29) rfl ?_
        show Steps p.tables e below (s₁.setTop (mkF m 30 #[.val (.ref a1), .val (.int p2), .val (.ref a3), .val (.int p4), .val (.int (0 : Int32))] [(.long ((g (own_j (f 0))) ^^^ ((1 : Int64) <<< ((f 0) &&& 0x3f).toInt64))), (.int (((f 0).toUInt32 >>> ((6 : Int32) &&& 31).toUInt32).toInt32)), (.ref a3)])) _
        refine st57 _ ?_
        show Steps p.tables e below (T57.setTop (mkF m 31 #[.val (.ref a1), .val (.int p2), .val (.ref a3), .val (.int p4), .val (.int (0 : Int32))] [])) _
        refine XS.iinc X57.here hx rfl (hb hby d1_31) rfl (l' := #[.val (.ref a1), .val (.int p2), .val (.ref a3), .val (.int p4), .val (.int (1 : Int32))]) rfl ?_
        show Steps p.tables e below (T57.setTop (mkF m 34 #[.val (.ref a1), .val (.int p2), .val (.ref a3), .val (.int p4), .val (.int (1 : Int32))] [])) _
        refine XS.goto X57.here hx rfl (pc0 := 34) (pc' := 7) rfl (hb hby d1_34) (by decide) (by decide) ?_
        show Steps p.tables e below (T57.setTop (mkF m 7 #[.val (.ref a1), .val (.int p2), .val (.ref a3), .val (.int p4), .val (.int (1 : Int32))] [])) _
        refine XS.iload X57.here hx rfl (hb hby d1_7) rfl ?_
        show Steps p.tables e below (T57.setTop (mkF m 9 #[.val (.ref a1), .val (.int p2), .val (.ref a3), .val (.int p4), .val (.int (1 : Int32))] [(.int (1 : Int32))])) _
        refine XS.iloadN X57.here hx rfl (hb hby d1_9) rfl ?_
        show Steps p.tables e below (T57.setTop (mkF m 10 #[.val (.ref a1), .val (.int p2), .val (.ref a3), .val (.int p4), .val (.int (1 : Int32))] [(.int p2), (.int (1 : Int32))])) _
        refine XS.icmpNo X57.here hx rfl (hb hby d1_10) rfl (tlt ((by rw [hk]; decide) : ((1 : Int32) < p2))).2.1 ?_
        show Steps p.tables e below (T57.setTop (mkF m 13 #[.val (.ref a1), .val (.int p2), .val (.ref a3), .val (.int p4), .val (.int (1 : Int32))] [])) _
        refine XS.aloadN X57.here hx rfl (hb hby d1_13) rfl rfl ?_
        show Steps p.tables e below (T57.setTop (mkF m 14 #[.val (.ref a1), .val (.int p2), .val (.ref a3), .val (.int p4), .val (.int (1 : Int32))] [(.ref a3)])) _
        refine XS.aloadN X57.here hx rfl (hb hby d1_14) rfl rfl ?_
        show Steps p.tables e below (T57.setTop (mkF m 15 #[.val (.ref a1), .val (.int p2), .val (.ref a3), .val (.int p4), .val (.int (1 : Int32))] [(.ref a1), (.ref a3)])) _
        refine XS.iload X57.here hx rfl (hb hby d1_15) rfl ?_
        show Steps p.tables e below (T57.setTop (mkF m 17 #[.val (.ref a1), .val (.int p2), .val (.ref a3), .val (.int p4), .val (.int (1 : Int32))] [(.int (1 : Int32)), (.ref a1), (.ref a3)])) _
        refine X57.caload hx (j := (1 : Int32)) (v := (.int (f 1))) (by rw [e57]; exact Ar59.1) (State.isArrayOf_alike hZ.alike Ar59.2.1) Ar59.2.2 hin59 hat59 (g := (mkF m 17 #[.val (.ref a1), .val (.int p2), .val (.ref a3), .val (.int p4), .val (.int (1 : Int32))] [(.int (1 : Int32)), (.ref a1), (.ref a3)])) rfl rfl (hb hby d1_17) _ ?_
        show Steps p.tables e below (T57.setTop (mkF m 18 #[.val (.ref a1), .val (.int p2), .val (.ref a3), .val (.int p4), .val (.int (1 : Int32))] [(.int (f 1)), (.ref a3)])) _
        refine XS.bipush X57.here hx rfl (hb hby d1_18) ?_
        show Steps p.tables e below (T57.setTop (mkF m 20 #[.val (.ref a1), .val (.int p2), .val (.ref a3), .val (.int p4), .val (.int (1 : Int32))] [(.int (6 : Int32)), (.int (f 1)), (.ref a3)])) _
        refine XS.iushr X57.here hx rfl (hb hby d1_20) rfl ?_
        show Steps p.tables e below (T57.setTop (mkF m 21 #[.val (.ref a1), .val (.int p2), .val (.ref a3), .val (.int p4), .val (.int (1 : Int32))] [(.int (((f 1).toUInt32 >>> ((6 : Int32) &&& 31).toUInt32).toInt32)), (.ref a3)])) _
        refine Jvm.Free.XT.dup2 X57.here hx rfl (hb hby d1_21) rfl rfl rfl ?_
        show Steps p.tables e below (T57.setTop (mkF m 22 #[.val (.ref a1), .val (.int p2), .val (.ref a3), .val (.int p4), .val (.int (1 : Int32))] [(.int (((f 1).toUInt32 >>> ((6 : Int32) &&& 31).toUInt32).toInt32)), (.ref a3), (.int (((f 1).toUInt32 >>> ((6 : Int32) &&& 31).toUInt32).toInt32)), (.ref a3)])) _
        refine X57.laload hx (j := (((f 1).toUInt32 >>> ((6 : Int32) &&& 31).toUInt32).toInt32)) (v := (.long ((own_st p4 (f 0) g) (own_j (f 1))))) (by rw [e57]; exact Ar60.1) (State.isArrayOf_alike hZ.alike Ar60.2.1) Ar60.2.2 hin60 hat60 (g := (mkF m 22 #[.val (.ref a1), .val (.int p2), .val (.ref a3), .val (.int p4), .val (.int (1 : Int32))] [(.int (((f 1).toUInt32 >>> ((6 : Int32) &&& 31).toUInt32).toInt32)), (.ref a3), (.int (((f 1).toUInt32 >>> ((6 : Int32) &&& 31).toUInt32).toInt32)), (.ref a3)])) rfl rfl (hb hby d1_22) _ ?_
        show Steps p.tables e below (T57.setTop (mkF m 23 #[.val (.ref a1), .val (.int p2), .val (.ref a3), .val (.int p4), .val (.int (1 : Int32))] [(.long ((own_st p4 (f 0) g) (own_j (f 1)))), (.int (((f 1).toUInt32 >>> ((6 : Int32) &&& 31).toUInt32).toInt32)), (.ref a3)])) _
        refine XS.lconst X57.here hx rfl (hb hby d1_23) ?_
        show Steps p.tables e below (T57.setTop (mkF m 24 #[.val (.ref a1), .val (.int p2), .val (.ref a3), .val (.int p4), .val (.int (1 : Int32))] [(.long (1 : Int64)), (.long ((own_st p4 (f 0) g) (own_j (f 1)))), (.int (((f 1).toUInt32 >>> ((6 : Int32) &&& 31).toUInt32).toInt32)), (.ref a3)])) _
        refine XS.aloadN X57.here hx rfl (hb hby d1_24) rfl rfl ?_
        show Steps p.tables e below (T57.setTop (mkF m 25 #[.val (.ref a1), .val (.int p2), .val (.ref a3), .val (.int p4), .val (.int (1 : Int32))] [(.ref a1), (.long (1 : Int64)), (.long ((own_st p4 (f 0) g) (own_j (f 1)))), (.int (((f 1).toUInt32 >>> ((6 : Int32) &&& 31).toUInt32).toInt32)), (.ref a3)])) _
        refine XS.iload X57.here hx rfl (hb hby d1_25) rfl ?_
        show Steps p.tables e below (T57.setTop (mkF m 27 #[.val (.ref a1), .val (.int p2), .val (.ref a3), .val (.int p4), .val (.int (1 : Int32))] [(.int (1 : Int32)), (.ref a1), (.long (1 : Int64)), (.long ((own_st p4 (f 0) g) (own_j (f 1)))), (.int (((f 1).toUInt32 >>> ((6 : Int32) &&& 31).toUInt32).toInt32)), (.ref a3)])) _
        refine X57.caload hx (j := (1 : Int32)) (v := (.int (f 1))) (by rw [e57]; exact Ar61.1) (State.isArrayOf_alike hZ.alike Ar61.2.1) Ar61.2.2 hin61 hat61 (g := (mkF m 27 #[.val (.ref a1), .val (.int p2), .val (.ref a3), .val (.int p4), .val (.int (1 : Int32))] [(.int (1 : Int32)), (.ref a1), (.long (1 : Int64)), (.long ((own_st p4 (f 0) g) (own_j (f 1)))), (.int (((f 1).toUInt32 >>> ((6 : Int32) &&& 31).toUInt32).toInt32)), (.ref a3)])) rfl rfl (hb hby d1_27) _ ?_
        show Steps p.tables e below (T57.setTop (mkF m 28 #[.val (.ref a1), .val (.int p2), .val (.ref a3), .val (.int p4), .val (.int (1 : Int32))] [(.int (f 1)), (.long (1 : Int64)), (.long ((own_st p4 (f 0) g) (own_j (f 1)))), (.int (((f 1).toUInt32 >>> ((6 : Int32) &&& 31).toUInt32).toInt32)), (.ref a3)])) _
        refine XS.lshl X57.here hx rfl (hb hby d1_28) rfl ?_
        show Steps p.tables e below (T57.setTop (mkF m 29 #[.val (.ref a1), .val (.int p2), .val (.ref a3), .val (.int p4), .val (.int (1 : Int32))] [(.long ((1 : Int64) <<< ((f 1) &&& 0x3f).toInt64)), (.long ((own_st p4 (f 0) g) (own_j (f 1)))), (.int (((f 1).toUInt32 >>> ((6 : Int32) &&& 31).toUInt32).toInt32)), (.ref a3)])) _
        refine XS.lxor X57.here hx rfl (hb hby d1_29) rfl ?_
        show Steps p.tables e below (T57.setTop (mkF m 30 #[.val (.ref a1), .val (.int p2), .val (.ref a3), .val (.int p4), .val (.int (1 : Int32))] [(.long (((own_st p4 (f 0) g) (own_j (f 1))) ^^^ ((1 : Int64) <<< ((f 1) &&& 0x3f).toInt64))), (.int (((f 1).toUInt32 >>> ((6 : Int32) &&& 31).toUInt32).toInt32)), (.ref a3)])) _
        refine st62 _ ?_
        show Steps p.tables e below (T62.setTop (mkF m 31 #[.val (.ref a1), .val (.int p2), .val (.ref a3), .val (.int p4), .val (.int (1 : Int32))] [])) _
        refine XS.iinc X62.here hx rfl (hb hby d1_31) rfl (l' := #[.val (.ref a1), .val (.int p2), .val (.ref a3), .val (.int p4), .val (.int (2 : Int32))]) rfl ?_
        show Steps p.tables e below (T62.setTop (mkF m 34 #[.val (.ref a1), .val (.int p2), .val (.ref a3), .val (.int p4), .val (.int (2 : Int32))] [])) _
        refine XS.goto X62.here hx rfl (pc0 := 34) (pc' := 7) rfl (hb hby d1_34) (by decide) (by decide) ?_
        show Steps p.tables e below (T62.setTop (mkF m 7 #[.val (.ref a1), .val (.int p2), .val (.ref a3), .val (.int p4), .val (.int (2 : Int32))] [])) _
        refine XS.iload X62.here hx rfl (hb hby d1_7) rfl ?_
        show Steps p.tables e below (T62.setTop (mkF m 9 #[.val (.ref a1), .val (.int p2), .val (.ref a3), .val (.int p4), .val (.int (2 : Int32))] [(.int (2 : Int32))])) _
        refine XS.iloadN X62.here hx rfl (hb hby d1_9) rfl ?_
        show Steps p.tables e below (T62.setTop (mkF m 10 #[.val (.ref a1), .val (.int p2), .val (.ref a3), .val (.int p4), .val (.int (2 : Int32))] [(.int p2), (.int (2 : Int32))])) _
        refine XS.icmpNo X62.here hx rfl (hb hby d1_10) rfl (tlt ((by rw [hk]; decide) : ((2 : Int32) < p2))).2.1 ?_
        show Steps p.tables e below (T62.setTop (mkF m 13 #[.val (.ref a1), .val (.int p2), .val (.ref a3), .val (.int p4), .val (.int (2 : Int32))] [])) _
        refine XS.aloadN X62.here hx rfl (hb hby d1_13) rfl rfl ?_
        show Steps p.tables e below (T62.setTop (mkF m 14 #[.val (.ref a1), .val (.int p2), .val (.ref a3), .val (.int p4), .val (.int (2 : Int32))] [(.ref a3)])) _
        refine XS.aloadN X62.here hx rfl (hb hby d1_14) rfl rfl ?_
        show Steps p.tables e below (T62.setTop (mkF m 15 #[.val (.ref a1), .val (.int p2), .val (.ref a3), .val (.int p4), .val (.int (2 : Int32))] [(.ref a1), (.ref a3)])) _
        refine XS.iload X62.here hx rfl (hb hby d1_15) rfl ?_
        show Steps p.tables e below (T62.setTop (mkF m 17 #[.val (.ref a1), .val (.int p2), .val (.ref a3), .val (.int p4), .val (.int (2 : Int32))] [(.int (2 : Int32)), (.ref a1), (.ref a3)])) _
        refine X62.caload hx (j := (2 : Int32)) (v := (.int (f 2))) (by rw [e62]; exact Ar64.1) (State.isArrayOf_alike hZ.alike Ar64.2.1) Ar64.2.2 hin64 hat64 (g := (mkF m 17 #[.val (.ref a1), .val (.int p2), .val (.ref a3), .val (.int p4), .val (.int (2 : Int32))] [(.int (2 : Int32)), (.ref a1), (.ref a3)])) rfl rfl (hb hby d1_17) _ ?_
        show Steps p.tables e below (T62.setTop (mkF m 18 #[.val (.ref a1), .val (.int p2), .val (.ref a3), .val (.int p4), .val (.int (2 : Int32))] [(.int (f 2)), (.ref a3)])) _
        refine XS.bipush X62.here hx rfl (hb hby d1_18) ?_
        show Steps p.tables e below (T62.setTop (mkF m 20 #[.val (.ref a1), .val (.int p2), .val (.ref a3), .val (.int p4), .val (.int (2 : Int32))] [(.int (6 : Int32)), (.int (f 2)), (.ref a3)])) _
        refine XS.iushr X62.here hx rfl (hb hby d1_20) rfl ?_
        show Steps p.tables e below (T62.setTop (mkF m 21 #[.val (.ref a1), .val (.int p2), .val (.ref a3), .val (.int p4), .val (.int (2 : Int32))] [(.int (((f 2).toUInt32 >>> ((6 : Int32) &&& 31).toUInt32).toInt32)), (.ref a3)])) _
        refine Jvm.Free.XT.dup2 X62.here hx rfl (hb hby d1_21) rfl rfl rfl ?_
        show Steps p.tables e below (T62.setTop (mkF m 22 #[.val (.ref a1), .val (.int p2), .val (.ref a3), .val (.int p4), .val (.int (2 : Int32))] [(.int (((f 2).toUInt32 >>> ((6 : Int32) &&& 31).toUInt32).toInt32)), (.ref a3), (.int (((f 2).toUInt32 >>> ((6 : Int32) &&& 31).toUInt32).toInt32)), (.ref a3)])) _
        refine X62.laload hx (j := (((f 2).toUInt32 >>> ((6 : Int32) &&& 31).toUInt32).toInt32)) (v := (.long ((own_st p4 (f 1) (own_st p4 (f 0) g)) (own_j (f 2))))) (by rw [e62]; exact Ar65.1) (State.isArrayOf_alike hZ.alike Ar65.2.1) Ar65.2.2 hin65 hat65 (g := (mkF m 22 #[.val (.ref a1), .val (.int p2), .val (.ref a3), .val (.int p4), .val (.int (2 : Int32))] [(.int (((f 2).toUInt32 >>> ((6 : Int32) &&& 31).toUInt32).toInt32)), (.ref a3), (.int (((f 2).toUInt32 >>> ((6 : Int32) &&& 31).toUInt32).toInt32)), (.ref a3)])) rfl rfl (hb hby d1_22) _ ?_
        show Steps p.tables e below (T62.setTop (mkF m 23 #[.val (.ref a1), .val (.int p2), .val (.ref a3), .val (.int p4), .val (.int (2 : Int32))] [(.long ((own_st p4 (f 1) (own_st p4 (f 0) g)) (own_j (f 2)))), (.int (((f 2).toUInt32 >>> ((6 : Int32) &&& 31).toUInt32).toInt32)), (.ref a3)])) _
        refine XS.lconst X62.here hx rfl (hb hby d1_23) ?_
        show Steps p.tables e below (T62.setTop (mkF m 24 #[.val (.ref a1), .val (.int p2), .val (.ref a3), .val (.int p4), .val (.int (2 : Int32))] [(.long (1 : Int64)), (.long ((own_st p4 (f 1) (own_st p4 (f 0) g)) (own_j (f 2)))), (.int (((f 2).toUInt32 >>> ((6 : Int32) &&& 31).toUInt32).toInt32)), (.ref a3)])) _
        refine XS.aloadN X62.here hx rfl (hb hby d1_24) rfl rfl ?_
        show Steps p.tables e below (T62.setTop (mkF m 25 #[.val (.ref a1), .val (.int p2), .val (.ref a3), .val (.int p4), .val (.int (2 : Int32))] [(.ref a1), (.long (1 : Int64)), (.long ((own_st p4 (f 1) (own_st p4 (f 0) g)) (own_j (f 2)))), (.int (((f 2).toUInt32 >>> ((6 : Int32) &&& 31).toUInt32).toInt32)), (.ref a3)])) _
        refine XS.iload X62.here hx rfl (hb hby d1_25) rfl ?_
        show Steps p.tables e below (T62.setTop (mkF m 27 #[.val (.ref a1), .val (.int p2), .val (.ref a3), .val (.int p4), .val (.int (2 : Int32))] [(.int (2 : Int32)), (.ref a1), (.long (1 : Int64)), (.long ((own_st p4 (f 1) (own_st p4 (f 0) g)) (own_j (f 2)))), (.int (((f 2).toUInt32 >>> ((6 : Int32) &&& 31).toUInt32).toInt32)), (.ref a3)])) _
        refine X62.caload hx (j := (2 : Int32)) (v := (.int (f 2))) (by rw [e62]; exact Ar66.1) (State.isArrayOf_alike hZ.alike Ar66.2.1) Ar66.2.2 hin66 hat66 (g := (mkF m 27 #[.val (.ref a1), .val (.int p2), .val (.ref a3), .val (.int p4), .val (.int (2 : Int32))] [(.int (2 : Int32)), (.ref a1), (.long (1 : Int64)), (.long ((own_st p4 (f 1) (own_st p4 (f 0) g)) (own_j (f 2)))), (.int (((f 2).toUInt32 >>> ((6 : Int32) &&& 31).toUInt32).toInt32)), (.ref a3)])) rfl rfl (hb hby d1_27) _ ?_
        show Steps p.tables e below (T62.setTop (mkF m 28 #[.val (.ref a1), .val (.int p2), .val (.ref a3), .val (.int p4), .val (.int (2 : Int32))] [(.int (f 2)), (.long (1 : Int64)), (.long ((own_st p4 (f 1) (own_st p4 (f 0) g)) (own_j (f 2)))), (.int (((f 2).toUInt32 >>> ((6 : Int32) &&& 31).toUInt32).toInt32)), (.ref a3)])) _
        refine XS.lshl X62.here hx rfl (hb hby d1_28) rfl ?_
        show Steps p.tables e below (T62.setTop (mkF m 29 #[.val (.ref a1), .val (.int p2), .val (.ref a3), .val (.int p4), .val (.int (2 : Int32))] [(.long ((1 : Int64) <<< ((f 2) &&& 0x3f).toInt64)), (.long ((own_st p4 (f 1) (own_st p4 (f 0) g)) (own_j (f 2)))), (.int (((f 2).toUInt32 >>> ((6 : Int32) &&& 31).toUInt32).toInt32)), (.ref a3)])) _
        refine XS.lxor X62.here hx rfl (hb hby d1_29) rfl ?_
        show Steps p.tables e below (T62.setTop (mkF m 30 #[.val (.ref a1), .val (.int p2), .val (.ref a3), .val (.int p4), .val (.int (2 : Int32))] [(.long (((own_st p4 (f 1) (own_st p4 (f 0) g)) (own_j (f 2))) ^^^ ((1 : Int64) <<< ((f 2) &&& 0x3f).toInt64))), (.int (((f 2).toUInt32 >>> ((6 : Int32) &&& 31).toUInt32).toInt32)), (.ref a3)])) _
        refine st67 _ ?_
        show Steps p.tables e below (T67.setTop (mkF m 31 #[.val (.ref a1), .val (.int p2), .val (.ref a3), .val (.int p4), .val (.int (2 : Int32))] [])) _
        refine XS.iinc X67.here hx rfl (hb hby d1_31) rfl (l' := #[.val (.ref a1), .val (.int p2), .val (.ref a3), .val (.int p4), .val (.int (3 : Int32))]) rfl ?_
        show Steps p.tables e below (T67.setTop (mkF m 34 #[.val (.ref a1), .val (.int p2), .val (.ref a3), .val (.int p4), .val (.int (3 : Int32))] [])) _
        refine XS.goto X67.here hx rfl (pc0 := 34) (pc' := 7) rfl (hb hby d1_34) (by decide) (by decide) ?_
        show Steps p.tables e below (T67.setTop (mkF m 7 #[.val (.ref a1), .val (.int p2), .val (.ref a3), .val (.int p4), .val (.int (3 : Int32))] [])) _
        refine XS.iload X67.here hx rfl (hb hby d1_7) rfl ?_
        show Steps p.tables e below (T67.setTop (mkF m 9 #[.val (.ref a1), .val (.int p2), .val (.ref a3), .val (.int p4), .val (.int (3 : Int32))] [(.int (3 : Int32))])) _
        refine XS.iloadN X67.here hx rfl (hb hby d1_9) rfl ?_
        show Steps p.tables e below (T67.setTop (mkF m 10 #[.val (.ref a1), .val (.int p2), .val (.ref a3), .val (.int p4), .val (.int (3 : Int32))] [(.int p2), (.int (3 : Int32))])) _
        refine XS.icmpYes X67.here hx rfl (pc0 := 10) (pc' := 37) rfl (hb hby d1_10) rfl (flt ((by rw [hk]; decide) : ¬ ((3 : Int32) < p2))).2.1 (by decide) (by decide) ?_
        show Steps p.tables e below (T67.setTop (mkF m 37 #[.val (.ref a1), .val (.int p2), .val (.ref a3), .val (.int p4), .val (.int (3 : Int32))] [])) _
        refine XS.goto X67.here hx rfl (pc0 := 37) (pc' := 73) rfl (hb hby d1_37) (by decide) (by decide) ?_
        show Steps p.tables e below (T67.setTop (mkF m 73 #[.val (.ref a1), .val (.int p2), .val (.ref a3), .val (.int p4), .val (.int (3 : Int32))] [])) _
        exact X67.returnOut hx Bd.returns (hb hby d1_73) hr
      · show Q_rm1 Z a1 p2 a3 p4 f g h0 n0 _ T67.heap _
        rw [e67]
        exact ⟨rfl, N67, K67, (by rw [own_wr3 hk]; exact VU68_v68)⟩
def own_c1 (p4 : Int32) (y1 : Int32) (p2 : Int32) : Int32 := if (p4 &&& (8 : Int32)) = (0 : Int32) then (p2.toUInt32.toUInt16.toUInt32.toInt32) else y1
def own_c2 (p4 : Int32) (y1 : Int32) (p3 : Int32) : Int32 := if (p4 &&& (16 : Int32)) = (0 : Int32) then (p3.toUInt32.toUInt16.toUInt32.toInt32) else (((y1 &&& (65472 : Int32)) ||| (p3 &&& (63 : Int32))).toUInt32.toUInt16.toUInt32.toInt32)
def own_fl (p4 : Int32) : Int32 := if (p4 &&& (4 : Int32)) = (0 : Int32) then (0 : Int32) else (1 : Int32)
def own_f4 (c0 c1 c2 c3 : Int32) (i : Nat) : Int32 := if i = 0 then c0 else if i = 1 then c1 else if i = 2 then c2 else c3
theorem own_Bc {x c : Int32} (h : c = (x.toUInt32.toUInt16.toUInt32.toInt32)) : own_B c := by subst h; exact (c_i2c x).2
theorem own_nar {c : Int32} (h : own_B c) : nar .char c = c := Int32.toInt_inj.mp (by
  have := c_i2c c
  have h1 := h.1
  have h2 := h.2
  show (c.toUInt32.toUInt16.toUInt32.toInt32).toInt = c.toInt
  omega)
theorem own_fc {c0 c1 c2 c3 : Int32} (h0 : own_B c0) (h1 : own_B c1) (h2 : own_B c2) : ∀ i, i < 3 → own_B (own_f4 c0 c1 c2 c3 i)
  | 0, _ => h0
  | 1, _ => h1
  | 2, _ => h2
theorem own_B1 {p4 c p2 : Int32} (h : own_B c) : own_B (own_c1 p4 c p2) := by
  unfold own_c1; split
  · exact (c_i2c p2).2
  · exact h
theorem own_B2 (p4 c p3 : Int32) : own_B (own_c2 p4 c p3) := by
  unfold own_c2; split
  · exact (c_i2c _).2
  · exact (c_i2c _).2
theorem own_px {p4 y : Int32} (h : y = (((p4.toUInt32 >>> ((5 : Int32) &&& 31).toUInt32).toInt32) &&& (1023 : Int32))) : ¬ y < 0 ∧ y.toNatClampNeg < 1024 := by
  have hm := c_and ((p4.toUInt32 >>> ((5 : Int32) &&& 31).toUInt32).toInt32) 1023 (by decide)
  rw [← h, show (1023 : Int32).toInt = 1023 from by decide] at hm
  have a2 : ¬ y < 0 := by rw [Int32.lt_iff_toInt_lt, show (0 : Int32).toInt = 0 from by decide]; omega
  have n2 := nat_of a2
  exact ⟨a2, by omega⟩
theorem own_cn (p : Int32) : (p &&& (3 : Int32)) = 0 ∨ (p &&& (3 : Int32)) = 1 ∨ (p &&& (3 : Int32)) = 2 ∨ (p &&& (3 : Int32)) = 3 := by
  have hm := c_mask p 3 2 (by decide) (by decide)
  rw [show ((2 ^ 2 : Nat) : Int) = 4 from by decide] at hm
  generalize p &&& (3 : Int32) = q at hm ⊢
  have : q.toInt = 0 ∨ q.toInt = 1 ∨ q.toInt = 2 ∨ q.toInt = 3 := by omega
  rcases this with h | h | h | h
  · exact Or.inl (Int32.toInt_inj.mp (h.trans (by decide)))
  · exact Or.inr (Or.inl (Int32.toInt_inj.mp (h.trans (by decide))))
  · exact Or.inr (Or.inr (Or.inl (Int32.toInt_inj.mp (h.trans (by decide)))))
  · exact Or.inr (Or.inr (Or.inr (Int32.toInt_inj.mp (h.trans (by decide)))))
theorem own_G {Z : State} {h : Heap} {a : Addr} {j1 j2 j3 j4 : Nat} {v1 v2 v3 v4 v0 : Int64} (F : ArF Z h a .long 1024 (fun i => if i = j4 then .long v4 else (fun i => if i = j3 then .long v3 else (fun i => if i = j2 then .long v2 else (fun i => if i = j1 then .long v1 else (fun _ => .long v0) i) i) i) i)) : ∃ G : Nat → Int64, ArF Z h a .long 1024 (fun i => .long (G i)) :=
  ⟨fun i => if i = j4 then v4 else if i = j3 then v3 else if i = j2 then v2 else if i = j1 then v1 else v0, F.congr fun i hi => by
    dsimp only
    repeat (first | rfl | split)⟩
theorem own_op0 (fl : Int32) (x : Int64) : own_op fl x 0 = x := by
  unfold own_op; split
  · exact Int64.or_zero
  · exact Int64.xor_zero
theorem own_mask (c : Int32) : (c &&& (63 : Int32)) &&& 0x3f = c &&& 0x3f := by rw [Int32.and_assoc]; rfl
theorem own_one (fl c : Int32) (g : Nat → Int64) (w : Int32) (hw : ¬ w < 0) (hc : ¬ own_w c < 0) : own_st fl c g w.toNatClampNeg = own_op fl (g w.toNatClampNeg) (own_bit c w 1) := by
  have hb : own_bit c w 1 = if own_w c = w then own_m c else 0 := by
    unfold own_bit own_w own_m
    rw [if_neg (by decide), own_mask]
  rw [hb]
  unfold own_st own_j
  by_cases e : own_w c = w
  · rw [if_pos e, e, if_pos rfl]
  · have ne : ¬ w.toNatClampNeg = (own_w c).toNatClampNeg := fun q => e (Int32.toInt_inj.mp (by rw [nat_of hw, nat_of hc, q]))
    rw [if_neg e, if_neg ne, own_op0]
theorem own_b0 (c w : Int32) : own_bit c w 0 = 0 := by unfold own_bit; rw [if_pos rfl]
theorem own_expE (b : Int64) (w c0 c1 c2 n fl : Int32) : own_exp b w c0 c1 c2 n fl = own_op fl (own_op fl (own_op fl b (own_bit c0 w (own_g1 n))) (own_bit c1 w (own_g2 n))) (own_bit c2 w (own_g3 n)) := by
  unfold own_exp own_op
  by_cases h : fl = (0 : Int32)
  · simp only [if_pos h]
  · simp only [if_neg h]
theorem own_main0 (fl n c0 c1 c2 c3 : Int32) (G : Nat → Int64) (w : Int32) (hn : n = 0 ∨ n = 1 ∨ n = 2 ∨ n = 3) (hw : ¬ w < 0) (h0 : own_B c0) (h1 : own_B c1) (h2 : own_B c2) : own_wr fl n (own_f4 c0 c1 c2 c3) G w.toNatClampNeg = own_exp (G w.toNatClampNeg) w c0 c1 c2 n fl := by
  have k0 := (own_wx h0).1
  have k1 := (own_wx h1).1
  have k2 := (own_wx h2).1
  rw [own_expE]
  rcases hn with rfl | rfl | rfl | rfl
  · rw [own_wr0 rfl, show own_g1 0 = 0 from rfl, show own_g2 0 = 0 from rfl, show own_g3 0 = 0 from rfl, own_b0, own_b0, own_b0, own_op0, own_op0, own_op0]
  · rw [own_wr1 rfl, show own_g1 1 = 1 from rfl, show own_g2 1 = 0 from rfl, show own_g3 1 = 0 from rfl, own_b0, own_b0, own_op0, own_op0]
    exact own_one _ _ _ _ hw k0
  · rw [own_wr2 rfl, show own_g1 2 = 1 from rfl, show own_g2 2 = 1 from rfl, show own_g3 2 = 0 from rfl, own_b0, own_op0]
    refine (own_one _ _ _ _ hw k1).trans ?_
    rw [show own_st fl (own_f4 c0 c1 c2 c3 0) G w.toNatClampNeg = _ from own_one _ _ _ _ hw k0]; rfl
  · rw [own_wr3 rfl, show own_g1 3 = 1 from rfl, show own_g2 3 = 1 from rfl, show own_g3 3 = 1 from rfl]
    refine (own_one _ _ _ _ hw k2).trans ?_
    rw [show own_st fl (own_f4 c0 c1 c2 c3 1) (own_st fl (own_f4 c0 c1 c2 c3 0) G) w.toNatClampNeg = _ from own_one _ _ _ _ hw k1, show own_st fl (own_f4 c0 c1 c2 c3 0) G w.toNatClampNeg = _ from own_one _ _ _ _ hw k0]; rfl
theorem pn_rm0 : plainName "com/example/bitstrata/bitstrata/ArrayChunkWriteEachPinLaw" = true := by first | (simp [plainName, overriddenIn]; done) | decide +kernel
theorem ef_rm0 (m : MethodId) (x0 : Int32) (x1 : Int32) (x2 : Int32) (x3 : Int32) (x4 : Int64) (x5 : Int64) : entryFrame m #[(.int x0), (.int x1), (.int x2), (.int x3), (.long x4), (.long x5)] maxLocals = mkF m 0 #[.val (.int x0), .val (.int x1), .val (.int x2), .val (.int x3), .val (.long x4), .second, .val (.long x5), .second, .unset, .unset, .unset, .unset, .unset, .unset, .unset, .unset, .unset, .unset, .unset, .unset, .unset, .unset, .unset, .unset, .unset, .unset, .unset, .unset] [] := by first | (simp [entryFrame, mkF, argsToLocals, Value.category, maxLocals]; done) | rfl
def Q_rm0 (Z : State) (p1 : Int32) (p2 : Int32) (p3 : Int32) (p4 : Int32) (q5 : Int64) (q6 : Int64) (h0 : Heap) (n0 : Nat) (v : Option Value) (h : Heap) (L : List Loc) : Prop := v = some (.int 1) ∧ Fr n0 L
set_option maxRecDepth 65536 in
set_option maxHeartbeats 40000000 in
theorem rm0 (l : Launch) (Z : State) (a0 : Array Value) (hw : ∀ d ∈ tables_1, d.before a0 Z = true) (ws : List Jvm.Cond) (p1 : Int32) (p2 : Int32) (p3 : Int32) (p4 : Int32) (q5 : Int64) (q6 : Int64) (h0 : Heap) (n0 : Nat) (Z0 : n0 ≤ h0.size) :
    MetFree l x (head1 (Jvm.Cond.code x code maxLocals ret :: ws) room_1) (fun a U => a = #[(.int p1), (.int p2), (.int p3), (.int p4), (.long q5), (.long q6)] ∧ Z.Warmed39 U.vm ∧ U.heap = h0) (fun _ _ _ _ _ => True) (fun _ U o U' => ∃ v L, o = .returned v ∧ Q_rm0 Z p1 p2 p3 p4 q5 q6 h0 n0 v U'.heap L ∧ FrameEnd U o U' L room_1.cells room_1.slots) := by
  refine MetFree.of_bodySF (plainFor_of_name pn_rm0) hisR ?_
  intro p e s m args below meth c s₁ Bd hml0 hP hK
  obtain ⟨rfl, hZ, hh⟩ := hP
  have hx := Bd.exec
  have hby := Bd.bytes
  have hml : c.maxLocals = 28 := hml0
  have hown : s.vm.findClass "com/example/bitstrata/bitstrata/ArrayChunkWriteEachPinLaw" = some m.cls := findClass_of_methodNamed Bd.named
  have hnm := (name_of_methodNamed Bd.named Bd.method).1
  have X0 : Stand p l e room_1 s m #[(.int p1), (.int p2), (.int p3), (.int p4), (.long q5), (.long q6)] below meth c s₁ [] 0 0 := Stand.of_body Bd
  have e0 : s₁.heap = h0 := by rw [← hh, Bd.state]; rfl
  have N0 := Fr.nil n0
  have pre0 : ∀ t, Steps p.tables e below (s₁.setTop (mkF m 0 #[.val (.int p1), .val (.int p2), .val (.int p3), .val (.int p4), .val (.long q5), .second, .val (.long q6), .second, .unset, .unset, .unset, .unset, .unset, .unset, .unset, .unset, .unset, .unset, .unset, .unset, .unset, .unset, .unset, .unset, .unset, .unset, .unset, .unset] [])) t → Steps p.tables e below (s₁.setTop (entryFrame m #[(.int p1), (.int p2), (.int p3), (.int p4), (.long q5), (.long q6)] maxLocals)) t := fun t k => castTop (ef_rm0 m p1 p2 p3 p4 q5 q6) k
  obtain ⟨y1, hy1⟩ : ∃ z : Int32, z = (p1.toUInt32.toUInt16.toUInt32.toInt32) := ⟨_, rfl⟩
  have pre2 : ∀ t, Steps p.tables e below (s₁.setTop (mkF m 8 #[.val (.int p1), .val (.int p2), .val (.int p3), .val (.int p4), .val (.long q5), .second, .val (.long q6), .second, .val (.int y1), .unset, .unset, .unset, .unset, .unset, .unset, .unset, .unset, .unset, .unset, .unset, .unset, .unset, .unset, .unset, .unset, .unset, .unset, .unset] [(.int (p4 &&& (8 : Int32)))])) t → Steps p.tables e below (s₁.setTop (entryFrame m #[(.int p1), (.int p2), (.int p3), (.int p4), (.long q5), (.long q6)] maxLocals)) t := by
    intro t k
    refine pre0 t ?_
    show Steps p.tables e below (s₁.setTop (mkF m 0 #[.val (.int p1), .val (.int p2), .val (.int p3), .val (.int p4), .val (.long q5), .second, .val (.long q6), .second, .unset, .unset, .unset, .unset, .unset, .unset, .unset, .unset, .unset, .unset, .unset, .unset, .unset, .unset, .unset, .unset, .unset, .unset, .unset, .unset] [])) _
    refine XS.iloadN X0.here hx rfl (hb hby at_0) rfl ?_
    show Steps p.tables e below (s₁.setTop (mkF m 1 #[.val (.int p1), .val (.int p2), .val (.int p3), .val (.int p4), .val (.long q5), .second, .val (.long q6), .second, .unset, .unset, .unset, .unset, .unset, .unset, .unset, .unset, .unset, .unset, .unset, .unset, .unset, .unset, .unset, .unset, .unset, .unset, .unset, .unset] [(.int p1)])) _
    refine XS.i2c X0.here hx rfl (hb hby at_1) rfl ?_
    show Steps p.tables e below (s₁.setTop (mkF m 2 #[.val (.int p1), .val (.int p2), .val (.int p3), .val (.int p4), .val (.long q5), .second, .val (.long q6), .second, .unset, .unset, .unset, .unset, .unset, .unset, .unset, .unset, .unset, .unset, .unset, .unset, .unset, .unset, .unset, .unset, .unset, .unset, .unset, .unset] [(.int (p1.toUInt32.toUInt16.toUInt32.toInt32))])) _
    rw [← hy1]
    refine XS.istore X0.here hx rfl (hb hby at_2) rfl (l' := #[.val (.int p1), .val (.int p2), .val (.int p3), .val (.int p4), .val (.long q5), .second, .val (.long q6), .second, .val (.int y1), .unset, .unset, .unset, .unset, .unset, .unset, .unset, .unset, .unset, .unset, .unset, .unset, .unset, .unset, .unset, .unset, .unset, .unset, .unset]) rfl ?_
    show Steps p.tables e below (s₁.setTop (mkF m 4 #[.val (.int p1), .val (.int p2), .val (.int p3), .val (.int p4), .val (.long q5), .second, .val (.long q6), .second, .val (.int y1), .unset, .unset, .unset, .unset, .unset, .unset, .unset, .unset, .unset, .unset, .unset, .unset, .unset, .unset, .unset, .unset, .unset, .unset, .unset] [])) _
    refine XS.iloadN X0.here hx rfl (hb hby at_4) rfl ?_
    show Steps p.tables e below (s₁.setTop (mkF m 5 #[.val (.int p1), .val (.int p2), .val (.int p3), .val (.int p4), .val (.long q5), .second, .val (.long q6), .second, .val (.int y1), .unset, .unset, .unset, .unset, .unset, .unset, .unset, .unset, .unset, .unset, .unset, .unset, .unset, .unset, .unset, .unset, .unset, .unset, .unset] [(.int p4)])) _
    refine XS.bipush X0.here hx rfl (hb hby at_5) ?_
    show Steps p.tables e below (s₁.setTop (mkF m 7 #[.val (.int p1), .val (.int p2), .val (.int p3), .val (.int p4), .val (.long q5), .second, .val (.long q6), .second, .val (.int y1), .unset, .unset, .unset, .unset, .unset, .unset, .unset, .unset, .unset, .unset, .unset, .unset, .unset, .unset, .unset, .unset, .unset, .unset, .unset] [(.int (8 : Int32)), (.int p4)])) _
    refine XS.iand X0.here hx rfl (hb hby at_7) rfl ?_
    exact k
  have pre3 : ∀ t, Steps p.tables e below (s₁.setTop (mkF m 18 #[.val (.int p1), .val (.int p2), .val (.int p3), .val (.int p4), .val (.long q5), .second, .val (.long q6), .second, .val (.int y1), .unset, .unset, .unset, .unset, .unset, .unset, .unset, .unset, .unset, .unset, .unset, .unset, .unset, .unset, .unset, .unset, .unset, .unset, .unset] [(.int (own_c1 p4 y1 p2))])) t → Steps p.tables e below (s₁.setTop (entryFrame m #[(.int p1), (.int p2), (.int p3), (.int p4), (.long q5), (.long q6)] maxLocals)) t := by
    intro t k
    by_cases hd3 : (p4 &&& (8 : Int32)) = (0 : Int32)
    · rw [show (own_c1 p4 y1 p2) = (p2.toUInt32.toUInt16.toUInt32.toInt32) from if_pos hd3] at k
      refine pre2 t ?_
      show Steps p.tables e below (s₁.setTop (mkF m 8 #[.val (.int p1), .val (.int p2), .val (.int p3), .val (.int p4), .val (.long q5), .second, .val (.long q6), .second, .val (.int y1), .unset, .unset, .unset, .unset, .unset, .unset, .unset, .unset, .unset, .unset, .unset, .unset, .unset, .unset, .unset, .unset, .unset, .unset, .unset] [(.int (p4 &&& (8 : Int32)))])) _
      refine XS.ifYes X0.here hx rfl (pc0 := 8) (pc' := 16) rfl (hb hby at_8) rfl ((if0 _ _).trans (teq (hd3 : ((p4 &&& (8 : Int32)) = (0 : Int32)))).1) (by decide) (by decide) ?_
      show Steps p.tables e below (s₁.setTop (mkF m 16 #[.val (.int p1), .val (.int p2), .val (.int p3), .val (.int p4), .val (.long q5), .second, .val (.long q6), .second, .val (.int y1), .unset, .unset, .unset, .unset, .unset, .unset, .unset, .unset, .unset, .unset, .unset, .unset, .unset, .unset, .unset, .unset, .unset, .unset, .unset] [])) _
      refine XS.iloadN X0.here hx rfl (hb hby at_16) rfl ?_
      show Steps p.tables e below (s₁.setTop (mkF m 17 #[.val (.int p1), .val (.int p2), .val (.int p3), .val (.int p4), .val (.long q5), .second, .val (.long q6), .second, .val (.int y1), .unset, .unset, .unset, .unset, .unset, .unset, .unset, .unset, .unset, .unset, .unset, .unset, .unset, .unset, .unset, .unset, .unset, .unset, .unset] [(.int p2)])) _
      refine XS.i2c X0.here hx rfl (hb hby at_17) rfl ?_
      exact k
    · rw [show (own_c1 p4 y1 p2) = y1 from if_neg hd3] at k
      refine pre2 t ?_
      show Steps p.tables e below (s₁.setTop (mkF m 8 #[.val (.int p1), .val (.int p2), .val (.int p3), .val (.int p4), .val (.long q5), .second, .val (.long q6), .second, .val (.int y1), .unset, .unset, .unset, .unset, .unset, .unset, .unset, .unset, .unset, .unset, .unset, .unset, .unset, .unset, .unset, .unset, .unset, .unset, .unset] [(.int (p4 &&& (8 : Int32)))])) _
      refine XS.ifNo X0.here hx rfl (hb hby at_8) rfl ((if0 _ _).trans (feq (hd3 : ¬ ((p4 &&& (8 : Int32)) = (0 : Int32)))).1) ?_
      show Steps p.tables e below (s₁.setTop (mkF m 11 #[.val (.int p1), .val (.int p2), .val (.int p3), .val (.int p4), .val (.long q5), .second, .val (.long q6), .second, .val (.int y1), .unset, .unset, .unset, .unset, .unset, .unset, .unset, .unset, .unset, .unset, .unset, .unset, .unset, .unset, .unset, .unset, .unset, .unset, .unset] [])) _
      refine XS.iload X0.here hx rfl (hb hby at_11) rfl ?_
      show Steps p.tables e below (s₁.setTop (mkF m 13 #[.val (.int p1), .val (.int p2), .val (.int p3), .val (.int p4), .val (.long q5), .second, .val (.long q6), .second, .val (.int y1), .unset, .unset, .unset, .unset, .unset, .unset, .unset, .unset, .unset, .unset, .unset, .unset, .unset, .unset, .unset, .unset, .unset, .unset, .unset] [(.int y1)])) _
      refine XS.goto X0.here hx rfl (pc0 := 13) (pc' := 18) rfl (hb hby at_13) (by decide) (by decide) ?_
      exact k
  have pre4 : ∀ t, Steps p.tables e below (s₁.setTop (mkF m 24 #[.val (.int p1), .val (.int p2), .val (.int p3), .val (.int p4), .val (.long q5), .second, .val (.long q6), .second, .val (.int y1), .val (.int (own_c1 p4 y1 p2)), .unset, .unset, .unset, .unset, .unset, .unset, .unset, .unset, .unset, .unset, .unset, .unset, .unset, .unset, .unset, .unset, .unset, .unset] [(.int (p4 &&& (16 : Int32)))])) t → Steps p.tables e below (s₁.setTop (entryFrame m #[(.int p1), (.int p2), (.int p3), (.int p4), (.long q5), (.long q6)] maxLocals)) t := by
    intro t k
    refine pre3 t ?_
    show Steps p.tables e below (s₁.setTop (mkF m 18 #[.val (.int p1), .val (.int p2), .val (.int p3), .val (.int p4), .val (.long q5), .second, .val (.long q6), .second, .val (.int y1), .unset, .unset, .unset, .unset, .unset, .unset, .unset, .unset, .unset, .unset, .unset, .unset, .unset, .unset, .unset, .unset, .unset, .unset, .unset] [(.int (own_c1 p4 y1 p2))])) _
    refine XS.istore X0.here hx rfl (hb hby at_18) rfl (l' := #[.val (.int p1), .val (.int p2), .val (.int p3), .val (.int p4), .val (.long q5), .second, .val (.long q6), .second, .val (.int y1), .val (.int (own_c1 p4 y1 p2)), .unset, .unset, .unset, .unset, .unset, .unset, .unset, .unset, .unset, .unset, .unset, .unset, .unset, .unset, .unset, .unset, .unset, .unset]) rfl ?_
    show Steps p.tables e below (s₁.setTop (mkF m 20 #[.val (.int p1), .val (.int p2), .val (.int p3), .val (.int p4), .val (.long q5), .second, .val (.long q6), .second, .val (.int y1), .val (.int (own_c1 p4 y1 p2)), .unset, .unset, .unset, .unset, .unset, .unset, .unset, .unset, .unset, .unset, .unset, .unset, .unset, .unset, .unset, .unset, .unset, .unset] [])) _
    refine XS.iloadN X0.here hx rfl (hb hby at_20) rfl ?_
    show Steps p.tables e below (s₁.setTop (mkF m 21 #[.val (.int p1), .val (.int p2), .val (.int p3), .val (.int p4), .val (.long q5), .second, .val (.long q6), .second, .val (.int y1), .val (.int (own_c1 p4 y1 p2)), .unset, .unset, .unset, .unset, .unset, .unset, .unset, .unset, .unset, .unset, .unset, .unset, .unset, .unset, .unset, .unset, .unset, .unset] [(.int p4)])) _
    refine XS.bipush X0.here hx rfl (hb hby at_21) ?_
    show Steps p.tables e below (s₁.setTop (mkF m 23 #[.val (.int p1), .val (.int p2), .val (.int p3), .val (.int p4), .val (.long q5), .second, .val (.long q6), .second, .val (.int y1), .val (.int (own_c1 p4 y1 p2)), .unset, .unset, .unset, .unset, .unset, .unset, .unset, .unset, .unset, .unset, .unset, .unset, .unset, .unset, .unset, .unset, .unset, .unset] [(.int (16 : Int32)), (.int p4)])) _
    refine XS.iand X0.here hx rfl (hb hby at_23) rfl ?_
    exact k
  have pre5 : ∀ t, Steps p.tables e below (s₁.setTop (mkF m 43 #[.val (.int p1), .val (.int p2), .val (.int p3), .val (.int p4), .val (.long q5), .second, .val (.long q6), .second, .val (.int y1), .val (.int (own_c1 p4 y1 p2)), .unset, .unset, .unset, .unset, .unset, .unset, .unset, .unset, .unset, .unset, .unset, .unset, .unset, .unset, .unset, .unset, .unset, .unset] [(.int (own_c2 p4 y1 p3))])) t → Steps p.tables e below (s₁.setTop (entryFrame m #[(.int p1), (.int p2), (.int p3), (.int p4), (.long q5), (.long q6)] maxLocals)) t := by
    intro t k
    by_cases hd5 : (p4 &&& (16 : Int32)) = (0 : Int32)
    · rw [show (own_c2 p4 y1 p3) = (p3.toUInt32.toUInt16.toUInt32.toInt32) from if_pos hd5] at k
      refine pre4 t ?_
      show Steps p.tables e below (s₁.setTop (mkF m 24 #[.val (.int p1), .val (.int p2), .val (.int p3), .val (.int p4), .val (.long q5), .second, .val (.long q6), .second, .val (.int y1), .val (.int (own_c1 p4 y1 p2)), .unset, .unset, .unset, .unset, .unset, .unset, .unset, .unset, .unset, .unset, .unset, .unset, .unset, .unset, .unset, .unset, .unset, .unset] [(.int (p4 &&& (16 : Int32)))])) _
      refine XS.ifYes X0.here hx rfl (pc0 := 24) (pc' := 41) rfl (hb hby at_24) rfl ((if0 _ _).trans (teq (hd5 : ((p4 &&& (16 : Int32)) = (0 : Int32)))).1) (by decide) (by decide) ?_
      show Steps p.tables e below (s₁.setTop (mkF m 41 #[.val (.int p1), .val (.int p2), .val (.int p3), .val (.int p4), .val (.long q5), .second, .val (.long q6), .second, .val (.int y1), .val (.int (own_c1 p4 y1 p2)), .unset, .unset, .unset, .unset, .unset, .unset, .unset, .unset, .unset, .unset, .unset, .unset, .unset, .unset, .unset, .unset, .unset, .unset] [])) _
      refine XS.iloadN X0.here hx rfl (hb hby at_41) rfl ?_
      show Steps p.tables e below (s₁.setTop (mkF m 42 #[.val (.int p1), .val (.int p2), .val (.int p3), .val (.int p4), .val (.long q5), .second, .val (.long q6), .second, .val (.int y1), .val (.int (own_c1 p4 y1 p2)), .unset, .unset, .unset, .unset, .unset, .unset, .unset, .unset, .unset, .unset, .unset, .unset, .unset, .unset, .unset, .unset, .unset, .unset] [(.int p3)])) _
      refine XS.i2c X0.here hx rfl (hb hby at_42) rfl ?_
      exact k
    · rw [show (own_c2 p4 y1 p3) = (((y1 &&& (65472 : Int32)) ||| (p3 &&& (63 : Int32))).toUInt32.toUInt16.toUInt32.toInt32) from if_neg hd5] at k
      refine pre4 t ?_
      show Steps p.tables e below (s₁.setTop (mkF m 24 #[.val (.int p1), .val (.int p2), .val (.int p3), .val (.int p4), .val (.long q5), .second, .val (.long q6), .second, .val (.int y1), .val (.int (own_c1 p4 y1 p2)), .unset, .unset, .unset, .unset, .unset, .unset, .unset, .unset, .unset, .unset, .unset, .unset, .unset, .unset, .unset, .unset, .unset, .unset] [(.int (p4 &&& (16 : Int32)))])) _
      refine XS.ifNo X0.here hx rfl (hb hby at_24) rfl ((if0 _ _).trans (feq (hd5 : ¬ ((p4 &&& (16 : Int32)) = (0 : Int32)))).1) ?_
      show Steps p.tables e below (s₁.setTop (mkF m 27 #[.val (.int p1), .val (.int p2), .val (.int p3), .val (.int p4), .val (.long q5), .second, .val (.long q6), .second, .val (.int y1), .val (.int (own_c1 p4 y1 p2)), .unset, .unset, .unset, .unset, .unset, .unset, .unset, .unset, .unset, .unset, .unset, .unset, .unset, .unset, .unset, .unset, .unset, .unset] [])) _
      refine XS.iload X0.here hx rfl (hb hby at_27) rfl ?_
      show Steps p.tables e below (s₁.setTop (mkF m 29 #[.val (.int p1), .val (.int p2), .val (.int p3), .val (.int p4), .val (.long q5), .second, .val (.long q6), .second, .val (.int y1), .val (.int (own_c1 p4 y1 p2)), .unset, .unset, .unset, .unset, .unset, .unset, .unset, .unset, .unset, .unset, .unset, .unset, .unset, .unset, .unset, .unset, .unset, .unset] [(.int y1)])) _
      refine X0.ldcInt hx hown (mvT hZ (hw _ (List.mem_of_getElem? (i := 14) rfl))) (g := (mkF m 29 #[.val (.int p1), .val (.int p2), .val (.int p3), .val (.int p4), .val (.long q5), .second, .val (.long q6), .second, .val (.int y1), .val (.int (own_c1 p4 y1 p2)), .unset, .unset, .unset, .unset, .unset, .unset, .unset, .unset, .unset, .unset, .unset, .unset, .unset, .unset, .unset, .unset, .unset, .unset] [(.int y1)])) rfl (hb hby at_29) _ ?_
      show Steps p.tables e below (s₁.setTop (mkF m 31 #[.val (.int p1), .val (.int p2), .val (.int p3), .val (.int p4), .val (.long q5), .second, .val (.long q6), .second, .val (.int y1), .val (.int (own_c1 p4 y1 p2)), .unset, .unset, .unset, .unset, .unset, .unset, .unset, .unset, .unset, .unset, .unset, .unset, .unset, .unset, .unset, .unset, .unset, .unset] [(.int (65472 : Int32)), (.int y1)])) _
      refine XS.iand X0.here hx rfl (hb hby at_31) rfl ?_
      show Steps p.tables e below (s₁.setTop (mkF m 32 #[.val (.int p1), .val (.int p2), .val (.int p3), .val (.int p4), .val (.long q5), .second, .val (.long q6), .second, .val (.int y1), .val (.int (own_c1 p4 y1 p2)), .unset, .unset, .unset, .unset, .unset, .unset, .unset, .unset, .unset, .unset, .unset, .unset, .unset, .unset, .unset, .unset, .unset, .unset] [(.int (y1 &&& (65472 : Int32)))])) _
      refine XS.iloadN X0.here hx rfl (hb hby at_32) rfl ?_
      show Steps p.tables e below (s₁.setTop (mkF m 33 #[.val (.int p1), .val (.int p2), .val (.int p3), .val (.int p4), .val (.long q5), .second, .val (.long q6), .second, .val (.int y1), .val (.int (own_c1 p4 y1 p2)), .unset, .unset, .unset, .unset, .unset, .unset, .unset, .unset, .unset, .unset, .unset, .unset, .unset, .unset, .unset, .unset, .unset, .unset] [(.int p3), (.int (y1 &&& (65472 : Int32)))])) _
      refine XS.bipush X0.here hx rfl (hb hby at_33) ?_
      show Steps p.tables e below (s₁.setTop (mkF m 35 #[.val (.int p1), .val (.int p2), .val (.int p3), .val (.int p4), .val (.long q5), .second, .val (.long q6), .second, .val (.int y1), .val (.int (own_c1 p4 y1 p2)), .unset, .unset, .unset, .unset, .unset, .unset, .unset, .unset, .unset, .unset, .unset, .unset, .unset, .unset, .unset, .unset, .unset, .unset] [(.int (63 : Int32)), (.int p3), (.int (y1 &&& (65472 : Int32)))])) _
      refine XS.iand X0.here hx rfl (hb hby at_35) rfl ?_
      show Steps p.tables e below (s₁.setTop (mkF m 36 #[.val (.int p1), .val (.int p2), .val (.int p3), .val (.int p4), .val (.long q5), .second, .val (.long q6), .second, .val (.int y1), .val (.int (own_c1 p4 y1 p2)), .unset, .unset, .unset, .unset, .unset, .unset, .unset, .unset, .unset, .unset, .unset, .unset, .unset, .unset, .unset, .unset, .unset, .unset] [(.int (p3 &&& (63 : Int32))), (.int (y1 &&& (65472 : Int32)))])) _
      refine XS.ior X0.here hx rfl (hb hby at_36) rfl ?_
      show Steps p.tables e below (s₁.setTop (mkF m 37 #[.val (.int p1), .val (.int p2), .val (.int p3), .val (.int p4), .val (.long q5), .second, .val (.long q6), .second, .val (.int y1), .val (.int (own_c1 p4 y1 p2)), .unset, .unset, .unset, .unset, .unset, .unset, .unset, .unset, .unset, .unset, .unset, .unset, .unset, .unset, .unset, .unset, .unset, .unset] [(.int ((y1 &&& (65472 : Int32)) ||| (p3 &&& (63 : Int32))))])) _
      refine XS.i2c X0.here hx rfl (hb hby at_37) rfl ?_
      show Steps p.tables e below (s₁.setTop (mkF m 38 #[.val (.int p1), .val (.int p2), .val (.int p3), .val (.int p4), .val (.long q5), .second, .val (.long q6), .second, .val (.int y1), .val (.int (own_c1 p4 y1 p2)), .unset, .unset, .unset, .unset, .unset, .unset, .unset, .unset, .unset, .unset, .unset, .unset, .unset, .unset, .unset, .unset, .unset, .unset] [(.int (((y1 &&& (65472 : Int32)) ||| (p3 &&& (63 : Int32))).toUInt32.toUInt16.toUInt32.toInt32))])) _
      refine XS.goto X0.here hx rfl (pc0 := 38) (pc' := 43) rfl (hb hby at_38) (by decide) (by decide) ?_
      exact k
  obtain ⟨y6, hy6⟩ : ∃ z : Int32, z = (((p4.toUInt32 >>> ((16 : Int32) &&& 31).toUInt32).toInt32).toUInt32.toUInt16.toUInt32.toInt32) := ⟨_, rfl⟩
  have pre7 : ∀ t, Steps p.tables e below (s₁.setTop (mkF m 60 #[.val (.int p1), .val (.int p2), .val (.int p3), .val (.int p4), .val (.long q5), .second, .val (.long q6), .second, .val (.int y1), .val (.int (own_c1 p4 y1 p2)), .val (.int (own_c2 p4 y1 p3)), .val (.int y6), .val (.int (p4 &&& (3 : Int32))), .unset, .unset, .unset, .unset, .unset, .unset, .unset, .unset, .unset, .unset, .unset, .unset, .unset, .unset, .unset] [(.int (p4 &&& (4 : Int32)))])) t → Steps p.tables e below (s₁.setTop (entryFrame m #[(.int p1), (.int p2), (.int p3), (.int p4), (.long q5), (.long q6)] maxLocals)) t := by
    intro t k
    refine pre5 t ?_
    show Steps p.tables e below (s₁.setTop (mkF m 43 #[.val (.int p1), .val (.int p2), .val (.int p3), .val (.int p4), .val (.long q5), .second, .val (.long q6), .second, .val (.int y1), .val (.int (own_c1 p4 y1 p2)), .unset, .unset, .unset, .unset, .unset, .unset, .unset, .unset, .unset, .unset, .unset, .unset, .unset, .unset, .unset, .unset, .unset, .unset] [(.int (own_c2 p4 y1 p3))])) _
    refine XS.istore X0.here hx rfl (hb hby at_43) rfl (l' := #[.val (.int p1), .val (.int p2), .val (.int p3), .val (.int p4), .val (.long q5), .second, .val (.long q6), .second, .val (.int y1), .val (.int (own_c1 p4 y1 p2)), .val (.int (own_c2 p4 y1 p3)), .unset, .unset, .unset, .unset, .unset, .unset, .unset, .unset, .unset, .unset, .unset, .unset, .unset, .unset, .unset, .unset, .unset]) rfl ?_
    show Steps p.tables e below (s₁.setTop (mkF m 45 #[.val (.int p1), .val (.int p2), .val (.int p3), .val (.int p4), .val (.long q5), .second, .val (.long q6), .second, .val (.int y1), .val (.int (own_c1 p4 y1 p2)), .val (.int (own_c2 p4 y1 p3)), .unset, .unset, .unset, .unset, .unset, .unset, .unset, .unset, .unset, .unset, .unset, .unset, .unset, .unset, .unset, .unset, .unset] [])) _
    refine XS.iloadN X0.here hx rfl (hb hby at_45) rfl ?_
    show Steps p.tables e below (s₁.setTop (mkF m 46 #[.val (.int p1), .val (.int p2), .val (.int p3), .val (.int p4), .val (.long q5), .second, .val (.long q6), .second, .val (.int y1), .val (.int (own_c1 p4 y1 p2)), .val (.int (own_c2 p4 y1 p3)), .unset, .unset, .unset, .unset, .unset, .unset, .unset, .unset, .unset, .unset, .unset, .unset, .unset, .unset, .unset, .unset, .unset] [(.int p4)])) _
    refine XS.bipush X0.here hx rfl (hb hby at_46) ?_
    show Steps p.tables e below (s₁.setTop (mkF m 48 #[.val (.int p1), .val (.int p2), .val (.int p3), .val (.int p4), .val (.long q5), .second, .val (.long q6), .second, .val (.int y1), .val (.int (own_c1 p4 y1 p2)), .val (.int (own_c2 p4 y1 p3)), .unset, .unset, .unset, .unset, .unset, .unset, .unset, .unset, .unset, .unset, .unset, .unset, .unset, .unset, .unset, .unset, .unset] [(.int (16 : Int32)), (.int p4)])) _
    refine XS.iushr X0.here hx rfl (hb hby at_48) rfl ?_
    show Steps p.tables e below (s₁.setTop (mkF m 49 #[.val (.int p1), .val (.int p2), .val (.int p3), .val (.int p4), .val (.long q5), .second, .val (.long q6), .second, .val (.int y1), .val (.int (own_c1 p4 y1 p2)), .val (.int (own_c2 p4 y1 p3)), .unset, .unset, .unset, .unset, .unset, .unset, .unset, .unset, .unset, .unset, .unset, .unset, .unset, .unset, .unset, .unset, .unset] [(.int ((p4.toUInt32 >>> ((16 : Int32) &&& 31).toUInt32).toInt32))])) _
    refine XS.i2c X0.here hx rfl (hb hby at_49) rfl ?_
    show Steps p.tables e below (s₁.setTop (mkF m 50 #[.val (.int p1), .val (.int p2), .val (.int p3), .val (.int p4), .val (.long q5), .second, .val (.long q6), .second, .val (.int y1), .val (.int (own_c1 p4 y1 p2)), .val (.int (own_c2 p4 y1 p3)), .unset, .unset, .unset, .unset, .unset, .unset, .unset, .unset, .unset, .unset, .unset, .unset, .unset, .unset, .unset, .unset, .unset] [(.int (((p4.toUInt32 >>> ((16 : Int32) &&& 31).toUInt32).toInt32).toUInt32.toUInt16.toUInt32.toInt32))])) _
    rw [← hy6]
    refine XS.istore X0.here hx rfl (hb hby at_50) rfl (l' := #[.val (.int p1), .val (.int p2), .val (.int p3), .val (.int p4), .val (.long q5), .second, .val (.long q6), .second, .val (.int y1), .val (.int (own_c1 p4 y1 p2)), .val (.int (own_c2 p4 y1 p3)), .val (.int y6), .unset, .unset, .unset, .unset, .unset, .unset, .unset, .unset, .unset, .unset, .unset, .unset, .unset, .unset, .unset, .unset]) rfl ?_
    show Steps p.tables e below (s₁.setTop (mkF m 52 #[.val (.int p1), .val (.int p2), .val (.int p3), .val (.int p4), .val (.long q5), .second, .val (.long q6), .second, .val (.int y1), .val (.int (own_c1 p4 y1 p2)), .val (.int (own_c2 p4 y1 p3)), .val (.int y6), .unset, .unset, .unset, .unset, .unset, .unset, .unset, .unset, .unset, .unset, .unset, .unset, .unset, .unset, .unset, .unset] [])) _
    refine XS.iloadN X0.here hx rfl (hb hby at_52) rfl ?_
    show Steps p.tables e below (s₁.setTop (mkF m 53 #[.val (.int p1), .val (.int p2), .val (.int p3), .val (.int p4), .val (.long q5), .second, .val (.long q6), .second, .val (.int y1), .val (.int (own_c1 p4 y1 p2)), .val (.int (own_c2 p4 y1 p3)), .val (.int y6), .unset, .unset, .unset, .unset, .unset, .unset, .unset, .unset, .unset, .unset, .unset, .unset, .unset, .unset, .unset, .unset] [(.int p4)])) _
    refine XS.iconst X0.here hx rfl (hb hby at_53) ?_
    show Steps p.tables e below (s₁.setTop (mkF m 54 #[.val (.int p1), .val (.int p2), .val (.int p3), .val (.int p4), .val (.long q5), .second, .val (.long q6), .second, .val (.int y1), .val (.int (own_c1 p4 y1 p2)), .val (.int (own_c2 p4 y1 p3)), .val (.int y6), .unset, .unset, .unset, .unset, .unset, .unset, .unset, .unset, .unset, .unset, .unset, .unset, .unset, .unset, .unset, .unset] [(.int (3 : Int32)), (.int p4)])) _
    refine XS.iand X0.here hx rfl (hb hby at_54) rfl ?_
    show Steps p.tables e below (s₁.setTop (mkF m 55 #[.val (.int p1), .val (.int p2), .val (.int p3), .val (.int p4), .val (.long q5), .second, .val (.long q6), .second, .val (.int y1), .val (.int (own_c1 p4 y1 p2)), .val (.int (own_c2 p4 y1 p3)), .val (.int y6), .unset, .unset, .unset, .unset, .unset, .unset, .unset, .unset, .unset, .unset, .unset, .unset, .unset, .unset, .unset, .unset] [(.int (p4 &&& (3 : Int32)))])) _
    refine XS.istore X0.here hx rfl (hb hby at_55) rfl (l' := #[.val (.int p1), .val (.int p2), .val (.int p3), .val (.int p4), .val (.long q5), .second, .val (.long q6), .second, .val (.int y1), .val (.int (own_c1 p4 y1 p2)), .val (.int (own_c2 p4 y1 p3)), .val (.int y6), .val (.int (p4 &&& (3 : Int32))), .unset, .unset, .unset, .unset, .unset, .unset, .unset, .unset, .unset, .unset, .unset, .unset, .unset, .unset, .unset]) rfl ?_
    show Steps p.tables e below (s₁.setTop (mkF m 57 #[.val (.int p1), .val (.int p2), .val (.int p3), .val (.int p4), .val (.long q5), .second, .val (.long q6), .second, .val (.int y1), .val (.int (own_c1 p4 y1 p2)), .val (.int (own_c2 p4 y1 p3)), .val (.int y6), .val (.int (p4 &&& (3 : Int32))), .unset, .unset, .unset, .unset, .unset, .unset, .unset, .unset, .unset, .unset, .unset, .unset, .unset, .unset, .unset] [])) _
    refine XS.iloadN X0.here hx rfl (hb hby at_57) rfl ?_
    show Steps p.tables e below (s₁.setTop (mkF m 58 #[.val (.int p1), .val (.int p2), .val (.int p3), .val (.int p4), .val (.long q5), .second, .val (.long q6), .second, .val (.int y1), .val (.int (own_c1 p4 y1 p2)), .val (.int (own_c2 p4 y1 p3)), .val (.int y6), .val (.int (p4 &&& (3 : Int32))), .unset, .unset, .unset, .unset, .unset, .unset, .unset, .unset, .unset, .unset, .unset, .unset, .unset, .unset, .unset] [(.int p4)])) _
    refine XS.iconst X0.here hx rfl (hb hby at_58) ?_
    show Steps p.tables e below (s₁.setTop (mkF m 59 #[.val (.int p1), .val (.int p2), .val (.int p3), .val (.int p4), .val (.long q5), .second, .val (.long q6), .second, .val (.int y1), .val (.int (own_c1 p4 y1 p2)), .val (.int (own_c2 p4 y1 p3)), .val (.int y6), .val (.int (p4 &&& (3 : Int32))), .unset, .unset, .unset, .unset, .unset, .unset, .unset, .unset, .unset, .unset, .unset, .unset, .unset, .unset, .unset] [(.int (4 : Int32)), (.int p4)])) _
    refine XS.iand X0.here hx rfl (hb hby at_59) rfl ?_
    exact k
  have pre8 : ∀ t, Steps p.tables e below (s₁.setTop (mkF m 68 #[.val (.int p1), .val (.int p2), .val (.int p3), .val (.int p4), .val (.long q5), .second, .val (.long q6), .second, .val (.int y1), .val (.int (own_c1 p4 y1 p2)), .val (.int (own_c2 p4 y1 p3)), .val (.int y6), .val (.int (p4 &&& (3 : Int32))), .unset, .unset, .unset, .unset, .unset, .unset, .unset, .unset, .unset, .unset, .unset, .unset, .unset, .unset, .unset] [(.int (own_fl p4))])) t → Steps p.tables e below (s₁.setTop (entryFrame m #[(.int p1), (.int p2), (.int p3), (.int p4), (.long q5), (.long q6)] maxLocals)) t := by
    intro t k
    by_cases hd8 : (p4 &&& (4 : Int32)) = (0 : Int32)
    · rw [show (own_fl p4) = (0 : Int32) from if_pos hd8] at k
      refine pre7 t ?_
      show Steps p.tables e below (s₁.setTop (mkF m 60 #[.val (.int p1), .val (.int p2), .val (.int p3), .val (.int p4), .val (.long q5), .second, .val (.long q6), .second, .val (.int y1), .val (.int (own_c1 p4 y1 p2)), .val (.int (own_c2 p4 y1 p3)), .val (.int y6), .val (.int (p4 &&& (3 : Int32))), .unset, .unset, .unset, .unset, .unset, .unset, .unset, .unset, .unset, .unset, .unset, .unset, .unset, .unset, .unset] [(.int (p4 &&& (4 : Int32)))])) _
      refine XS.ifYes X0.here hx rfl (pc0 := 60) (pc' := 67) rfl (hb hby at_60) rfl ((if0 _ _).trans (teq (hd8 : ((p4 &&& (4 : Int32)) = (0 : Int32)))).1) (by decide) (by decide) ?_
      show Steps p.tables e below (s₁.setTop (mkF m 67 #[.val (.int p1), .val (.int p2), .val (.int p3), .val (.int p4), .val (.long q5), .second, .val (.long q6), .second, .val (.int y1), .val (.int (own_c1 p4 y1 p2)), .val (.int (own_c2 p4 y1 p3)), .val (.int y6), .val (.int (p4 &&& (3 : Int32))), .unset, .unset, .unset, .unset, .unset, .unset, .unset, .unset, .unset, .unset, .unset, .unset, .unset, .unset, .unset] [])) _
      refine XS.iconst X0.here hx rfl (hb hby at_67) ?_
      exact k
    · rw [show (own_fl p4) = (1 : Int32) from if_neg hd8] at k
      refine pre7 t ?_
      show Steps p.tables e below (s₁.setTop (mkF m 60 #[.val (.int p1), .val (.int p2), .val (.int p3), .val (.int p4), .val (.long q5), .second, .val (.long q6), .second, .val (.int y1), .val (.int (own_c1 p4 y1 p2)), .val (.int (own_c2 p4 y1 p3)), .val (.int y6), .val (.int (p4 &&& (3 : Int32))), .unset, .unset, .unset, .unset, .unset, .unset, .unset, .unset, .unset, .unset, .unset, .unset, .unset, .unset, .unset] [(.int (p4 &&& (4 : Int32)))])) _
      refine XS.ifNo X0.here hx rfl (hb hby at_60) rfl ((if0 _ _).trans (feq (hd8 : ¬ ((p4 &&& (4 : Int32)) = (0 : Int32)))).1) ?_
      show Steps p.tables e below (s₁.setTop (mkF m 63 #[.val (.int p1), .val (.int p2), .val (.int p3), .val (.int p4), .val (.long q5), .second, .val (.long q6), .second, .val (.int y1), .val (.int (own_c1 p4 y1 p2)), .val (.int (own_c2 p4 y1 p3)), .val (.int y6), .val (.int (p4 &&& (3 : Int32))), .unset, .unset, .unset, .unset, .unset, .unset, .unset, .unset, .unset, .unset, .unset, .unset, .unset, .unset, .unset] [])) _
      refine XS.iconst X0.here hx rfl (hb hby at_63) ?_
      show Steps p.tables e below (s₁.setTop (mkF m 64 #[.val (.int p1), .val (.int p2), .val (.int p3), .val (.int p4), .val (.long q5), .second, .val (.long q6), .second, .val (.int y1), .val (.int (own_c1 p4 y1 p2)), .val (.int (own_c2 p4 y1 p3)), .val (.int y6), .val (.int (p4 &&& (3 : Int32))), .unset, .unset, .unset, .unset, .unset, .unset, .unset, .unset, .unset, .unset, .unset, .unset, .unset, .unset, .unset] [(.int (1 : Int32))])) _
      refine XS.goto X0.here hx rfl (pc0 := 64) (pc' := 68) rfl (hb hby at_64) (by decide) (by decide) ?_
      exact k
  obtain ⟨y9, hy9⟩ : ∃ z : Int32, z = (((p4.toUInt32 >>> ((5 : Int32) &&& 31).toUInt32).toInt32) &&& (1023 : Int32)) := ⟨_, rfl⟩
  obtain ⟨T10, h10, k10, X10, e10, E10, A10, st10⟩ := newP X0 hx hZ (hw _ (List.mem_of_getElem? (i := 0) rfl)) e0 (g := (mkF m 80 #[.val (.int p1), .val (.int p2), .val (.int p3), .val (.int p4), .val (.long q5), .second, .val (.long q6), .second, .val (.int y1), .val (.int (own_c1 p4 y1 p2)), .val (.int (own_c2 p4 y1 p3)), .val (.int y6), .val (.int (p4 &&& (3 : Int32))), .val (.int (own_fl p4)), .val (.int y9), .unset, .unset, .unset, .unset, .unset, .unset, .unset, .unset, .unset, .unset, .unset, .unset, .unset] [(.int (4 : Int32))])) rfl (hb hby at_80) rfl (by decide) (cap := 4) (by decide) (by decide) (by decide) (by decide)
  obtain ⟨b10, g10⟩ : ∃ z, z = h0.size := ⟨_, rfl⟩
  rw [← g10] at A10 st10
  have g_b10 : n0 ≤ b10 := Nat.le_trans Z0 (Nat.le_of_eq g10.symm)
  have Z10 : n0 ≤ h10.size := Nat.le_trans Z0 E10.1
  have V10_v10 : ArF Z h10 b10 .char 4 (fun _ => (.int 0)) := ArF.mk0 A10 rfl rfl
  obtain ⟨cl11, Ar11, S11, H11⟩ := id V10_v10
  have hin11 : ¬ ((0 : Int32) < 0 ∨ cl11.slots.size ≤ ((0 : Int32)).toNatClampNeg) := inA S11 (by decide) (by decide)
  obtain ⟨T11, h11, X11, e11, W11, st11⟩ := stC X10 hx hZ e10 Ar11 (j := (0 : Int32)) hin11 (g := (mkF m 89 #[.val (.int p1), .val (.int p2), .val (.int p3), .val (.int p4), .val (.long q5), .second, .val (.long q6), .second, .val (.int y1), .val (.int (own_c1 p4 y1 p2)), .val (.int (own_c2 p4 y1 p3)), .val (.int y6), .val (.int (p4 &&& (3 : Int32))), .val (.int (own_fl p4)), .val (.int y9), .val (.ref b10), .unset, .unset, .unset, .unset, .unset, .unset, .unset, .unset, .unset, .unset, .unset, .unset] [(.int y1), (.int (0 : Int32)), (.ref b10)])) rfl rfl (hb hby at_89)
  have Z11 : n0 ≤ h11.size := Nat.le_trans Z10 (Nat.le_of_eq W11.size.symm)
  have V11_v11 := ArF.set Ar11 S11 H11 W11 hin11
  have N11 := Fr.snoc X11 N0 g_b10
  obtain ⟨cl12, Ar12, S12, H12⟩ := id V11_v11
  have hin12 : ¬ ((1 : Int32) < 0 ∨ cl12.slots.size ≤ ((1 : Int32)).toNatClampNeg) := inA S12 (by decide) (by decide)
  obtain ⟨T12, h12, X12, e12, W12, st12⟩ := stC X11 hx hZ e11 Ar12 (j := (1 : Int32)) hin12 (g := (mkF m 95 #[.val (.int p1), .val (.int p2), .val (.int p3), .val (.int p4), .val (.long q5), .second, .val (.long q6), .second, .val (.int y1), .val (.int (own_c1 p4 y1 p2)), .val (.int (own_c2 p4 y1 p3)), .val (.int y6), .val (.int (p4 &&& (3 : Int32))), .val (.int (own_fl p4)), .val (.int y9), .val (.ref b10), .unset, .unset, .unset, .unset, .unset, .unset, .unset, .unset, .unset, .unset, .unset, .unset] [(.int (own_c1 p4 y1 p2)), (.int (1 : Int32)), (.ref b10)])) rfl rfl (hb hby at_95)
  have Z12 : n0 ≤ h12.size := Nat.le_trans Z11 (Nat.le_of_eq W12.size.symm)
  have V12_v12 := ArF.set Ar12 S12 H12 W12 hin12
  have N12 := Fr.snoc X12 N11 g_b10
  obtain ⟨cl13, Ar13, S13, H13⟩ := id V12_v12
  have hin13 : ¬ ((2 : Int32) < 0 ∨ cl13.slots.size ≤ ((2 : Int32)).toNatClampNeg) := inA S13 (by decide) (by decide)
  obtain ⟨T13, h13, X13, e13, W13, st13⟩ := stC X12 hx hZ e12 Ar13 (j := (2 : Int32)) hin13 (g := (mkF m 101 #[.val (.int p1), .val (.int p2), .val (.int p3), .val (.int p4), .val (.long q5), .second, .val (.long q6), .second, .val (.int y1), .val (.int (own_c1 p4 y1 p2)), .val (.int (own_c2 p4 y1 p3)), .val (.int y6), .val (.int (p4 &&& (3 : Int32))), .val (.int (own_fl p4)), .val (.int y9), .val (.ref b10), .unset, .unset, .unset, .unset, .unset, .unset, .unset, .unset, .unset, .unset, .unset, .unset] [(.int (own_c2 p4 y1 p3)), (.int (2 : Int32)), (.ref b10)])) rfl rfl (hb hby at_101)
  have Z13 : n0 ≤ h13.size := Nat.le_trans Z12 (Nat.le_of_eq W13.size.symm)
  have V13_v13 := ArF.set Ar13 S13 H13 W13 hin13
  have N13 := Fr.snoc X13 N12 g_b10
  obtain ⟨cl14, Ar14, S14, H14⟩ := id V13_v13
  have hin14 : ¬ ((3 : Int32) < 0 ∨ cl14.slots.size ≤ ((3 : Int32)).toNatClampNeg) := inA S14 (by decide) (by decide)
  obtain ⟨T14, h14, X14, e14, W14, st14⟩ := stC X13 hx hZ e13 Ar14 (j := (3 : Int32)) hin14 (g := (mkF m 107 #[.val (.int p1), .val (.int p2), .val (.int p3), .val (.int p4), .val (.long q5), .second, .val (.long q6), .second, .val (.int y1), .val (.int (own_c1 p4 y1 p2)), .val (.int (own_c2 p4 y1 p3)), .val (.int y6), .val (.int (p4 &&& (3 : Int32))), .val (.int (own_fl p4)), .val (.int y9), .val (.ref b10), .unset, .unset, .unset, .unset, .unset, .unset, .unset, .unset, .unset, .unset, .unset, .unset] [(.int y6), (.int (3 : Int32)), (.ref b10)])) rfl rfl (hb hby at_107)
  have Z14 : n0 ≤ h14.size := Nat.le_trans Z13 (Nat.le_of_eq W14.size.symm)
  have V14_v14 := ArF.set Ar14 S14 H14 W14 hin14
  have N14 := Fr.snoc X14 N13 g_b10
  have hb0 : own_B y1 := own_Bc hy1
  have hb1 : own_B (own_c1 p4 y1 p2) := own_B1 hb0
  have hb2 : own_B (own_c2 p4 y1 p3) := own_B2 _ _ _
  have hb3 : own_B y6 := own_Bc hy6
  have VC_v0 : ArF Z h14 b10 .char 4 (fun i => .int ((own_f4 y1 (own_c1 p4 y1 p2) (own_c2 p4 y1 p3) y6) i)) := V14_v14.congr (fun i hi => by
    match i, hi with
    | 0, _ => exact congrArg Value.int (own_nar hb0)
    | 1, _ => exact congrArg Value.int (own_nar hb1)
    | 2, _ => exact congrArg Value.int (own_nar hb2)
    | 3, _ => exact congrArg Value.int (own_nar hb3))
  obtain ⟨T15, h15, k15, X15, e15, E15, A15, st15⟩ := newP X14 hx hZ (hw _ (List.mem_of_getElem? (i := 1) rfl)) e14 (g := (mkF m 111 #[.val (.int p1), .val (.int p2), .val (.int p3), .val (.int p4), .val (.long q5), .second, .val (.long q6), .second, .val (.int y1), .val (.int (own_c1 p4 y1 p2)), .val (.int (own_c2 p4 y1 p3)), .val (.int y6), .val (.int (p4 &&& (3 : Int32))), .val (.int (own_fl p4)), .val (.int y9), .val (.ref b10), .unset, .unset, .unset, .unset, .unset, .unset, .unset, .unset, .unset, .unset, .unset, .unset] [(.int (1024 : Int32))])) rfl (hb hby at_111) rfl (by decide) (cap := 1024) (by decide) (by decide) (by decide) (by decide)
  obtain ⟨b15, g15⟩ : ∃ z, z = h14.size := ⟨_, rfl⟩
  rw [← g15] at A15 st15
  have ne_b10_b15 : b10 ≠ b15 := Nat.ne_of_lt (Nat.lt_of_lt_of_le VC_v0.lt (Nat.le_of_eq g15.symm))
  have g_b15 : n0 ≤ b15 := Nat.le_trans Z14 (Nat.le_of_eq g15.symm)
  have VC_v15 := VC_v0.ext E15
  have Z15 : n0 ≤ h15.size := Nat.le_trans Z14 E15.1
  have V15_v15 : ArF Z h15 b15 .long 1024 (fun _ => (.long 0)) := ArF.mk0 A15 rfl rfl
  have hw0 := own_wx hb0
  have hw1 := own_wx hb1
  have hw2 := own_wx hb2
  have hpx := own_px hy9
  have hcn := own_cn p4
  obtain ⟨cl16, Ar16, S16, H16⟩ := id V15_v15
  have hin16 : ¬ (y9 < 0 ∨ cl16.slots.size ≤ (y9).toNatClampNeg) := inA S16 hpx.1 hpx.2
  obtain ⟨T16, h16, X16, e16, W16, st16⟩ := stJ X15 hx hZ e15 Ar16 (j := y9) hin16 (g := (mkF m 146 #[.val (.int p1), .val (.int p2), .val (.int p3), .val (.int p4), .val (.long q5), .second, .val (.long q6), .second, .val (.int y1), .val (.int (own_c1 p4 y1 p2)), .val (.int (own_c2 p4 y1 p3)), .val (.int y6), .val (.int (p4 &&& (3 : Int32))), .val (.int (own_fl p4)), .val (.int y9), .val (.ref b10), .val (.ref b15), .val (.int (own_w y1)), .val (.int (own_w (own_c1 p4 y1 p2))), .val (.int (own_w (own_c2 p4 y1 p3))), .unset, .unset, .unset, .unset, .unset, .unset, .unset, .unset] [(.long (q5 ^^^ (-1 : Int64))), (.int y9), (.ref b15)])) rfl rfl (hb hby at_146)
  have VC_v16 := VC_v15.other W16 ne_b10_b15
  have Z16 : n0 ≤ h16.size := Nat.le_trans Z15 (Nat.le_of_eq W16.size.symm)
  have V16_v16 := ArF.set Ar16 S16 H16 W16 hin16
  have N16 := Fr.snoc X16 N14 g_b15
  obtain ⟨cl17, Ar17, S17, H17⟩ := id V16_v16
  have hin17 : ¬ ((own_w y1) < 0 ∨ cl17.slots.size ≤ ((own_w y1)).toNatClampNeg) := inA S17 hw0.1 hw0.2
  obtain ⟨T17, h17, X17, e17, W17, st17⟩ := stJ X16 hx hZ e16 Ar17 (j := (own_w y1)) hin17 (g := (mkF m 153 #[.val (.int p1), .val (.int p2), .val (.int p3), .val (.int p4), .val (.long q5), .second, .val (.long q6), .second, .val (.int y1), .val (.int (own_c1 p4 y1 p2)), .val (.int (own_c2 p4 y1 p3)), .val (.int y6), .val (.int (p4 &&& (3 : Int32))), .val (.int (own_fl p4)), .val (.int y9), .val (.ref b10), .val (.ref b15), .val (.int (own_w y1)), .val (.int (own_w (own_c1 p4 y1 p2))), .val (.int (own_w (own_c2 p4 y1 p3))), .unset, .unset, .unset, .unset, .unset, .unset, .unset, .unset] [(.long q5), (.int (own_w y1)), (.ref b15)])) rfl rfl (hb hby at_153)
  have VC_v17 := VC_v16.other W17 ne_b10_b15
  have Z17 : n0 ≤ h17.size := Nat.le_trans Z16 (Nat.le_of_eq W17.size.symm)
  have V17_v17 := ArF.set Ar17 S17 H17 W17 hin17
  have N17 := Fr.snoc X17 N16 g_b15
  obtain ⟨cl18, Ar18, S18, H18⟩ := id V17_v17
  have hin18 : ¬ ((own_w (own_c1 p4 y1 p2)) < 0 ∨ cl18.slots.size ≤ ((own_w (own_c1 p4 y1 p2))).toNatClampNeg) := inA S18 hw1.1 hw1.2
  obtain ⟨T18, h18, X18, e18, W18, st18⟩ := stJ X17 hx hZ e17 Ar18 (j := (own_w (own_c1 p4 y1 p2))) hin18 (g := (mkF m 160 #[.val (.int p1), .val (.int p2), .val (.int p3), .val (.int p4), .val (.long q5), .second, .val (.long q6), .second, .val (.int y1), .val (.int (own_c1 p4 y1 p2)), .val (.int (own_c2 p4 y1 p3)), .val (.int y6), .val (.int (p4 &&& (3 : Int32))), .val (.int (own_fl p4)), .val (.int y9), .val (.ref b10), .val (.ref b15), .val (.int (own_w y1)), .val (.int (own_w (own_c1 p4 y1 p2))), .val (.int (own_w (own_c2 p4 y1 p3))), .unset, .unset, .unset, .unset, .unset, .unset, .unset, .unset] [(.long q6), (.int (own_w (own_c1 p4 y1 p2))), (.ref b15)])) rfl rfl (hb hby at_160)
  have VC_v18 := VC_v17.other W18 ne_b10_b15
  have Z18 : n0 ≤ h18.size := Nat.le_trans Z17 (Nat.le_of_eq W18.size.symm)
  have V18_v18 := ArF.set Ar18 S18 H18 W18 hin18
  have N18 := Fr.snoc X18 N17 g_b15
  obtain ⟨cl19, Ar19, S19, H19⟩ := id V18_v18
  have hin19 : ¬ ((own_w (own_c2 p4 y1 p3)) < 0 ∨ cl19.slots.size ≤ ((own_w (own_c2 p4 y1 p3))).toNatClampNeg) := inA S19 hw2.1 hw2.2
  obtain ⟨T19, h19, X19, e19, W19, st19⟩ := stJ X18 hx hZ e18 Ar19 (j := (own_w (own_c2 p4 y1 p3))) hin19 (g := (mkF m 170 #[.val (.int p1), .val (.int p2), .val (.int p3), .val (.int p4), .val (.long q5), .second, .val (.long q6), .second, .val (.int y1), .val (.int (own_c1 p4 y1 p2)), .val (.int (own_c2 p4 y1 p3)), .val (.int y6), .val (.int (p4 &&& (3 : Int32))), .val (.int (own_fl p4)), .val (.int y9), .val (.ref b10), .val (.ref b15), .val (.int (own_w y1)), .val (.int (own_w (own_c1 p4 y1 p2))), .val (.int (own_w (own_c2 p4 y1 p3))), .unset, .unset, .unset, .unset, .unset, .unset, .unset, .unset] [(.long (q5 ^^^ q6)), (.int (own_w (own_c2 p4 y1 p3))), (.ref b15)])) rfl rfl (hb hby at_170)
  have VC_v19 := VC_v18.other W19 ne_b10_b15
  have Z19 : n0 ≤ h19.size := Nat.le_trans Z18 (Nat.le_of_eq W19.size.symm)
  have V19_v19 := ArF.set Ar19 S19 H19 W19 hin19
  have N19 := Fr.snoc X19 N18 g_b15
  obtain ⟨G, VG_v0⟩ : ∃ G : Nat → Int64, ArF Z h19 b15 .long 1024 (fun i => .long (G i)) := own_G V19_v19
  obtain ⟨cl20, Ar20, S20, H20⟩ := id VG_v0
  have hin20 : ¬ ((own_w y1) < 0 ∨ cl20.slots.size ≤ ((own_w y1)).toNatClampNeg) := inA S20 hw0.1 hw0.2
  have hat20 : cl20.slots[((own_w y1)).toNatClampNeg]? = some (.long (G ((own_w y1)).toNatClampNeg)) := ArF.at S20 H20 hin20 rfl
  obtain ⟨cl21, Ar21, S21, H21⟩ := id VG_v0
  have hin21 : ¬ ((own_w (own_c1 p4 y1 p2)) < 0 ∨ cl21.slots.size ≤ ((own_w (own_c1 p4 y1 p2))).toNatClampNeg) := inA S21 hw1.1 hw1.2
  have hat21 : cl21.slots[((own_w (own_c1 p4 y1 p2))).toNatClampNeg]? = some (.long (G ((own_w (own_c1 p4 y1 p2))).toNatClampNeg)) := ArF.at S21 H21 hin21 rfl
  obtain ⟨cl22, Ar22, S22, H22⟩ := id VG_v0
  have hin22 : ¬ ((own_w (own_c2 p4 y1 p3)) < 0 ∨ cl22.slots.size ≤ ((own_w (own_c2 p4 y1 p3))).toNatClampNeg) := inA S22 hw2.1 hw2.2
  have hat22 : cl22.slots[((own_w (own_c2 p4 y1 p3))).toNatClampNeg]? = some (.long (G ((own_w (own_c2 p4 y1 p3))).toNatClampNeg)) := ArF.at S22 H22 hin22 rfl
  obtain ⟨cl23, Ar23, S23, H23⟩ := id VG_v0
  have hin23 : ¬ (y9 < 0 ∨ cl23.slots.size ≤ (y9).toNatClampNeg) := inA S23 hpx.1 hpx.2
  have hat23 : cl23.slots[(y9).toNatClampNeg]? = some (.long (G (y9).toNatClampNeg)) := ArF.at S23 H23 hin23 rfl
  obtain ⟨_, _, ⟨T24, L24, k24, n24⟩, -, X24, ⟨Lc24, hQ24, l24, y24, z24⟩, st24⟩ := Jvm.LawKit.callS X19 hx (y := (⟨"com/example/bitstrata/bitstrata/ArrayChunk", "writeEach", "([CI[JZ)V"⟩ : MethodName)) hown (mvT hZ (hw _ (List.mem_of_getElem? (i := 3) rfl))) (mvT hZ (hw _ (List.mem_of_getElem? (i := 4) rfl))) (mvT hZ (hw _ (List.mem_of_getElem? (i := 5) rfl))) (mvT hZ (hw _ (List.mem_of_getElem? (i := 6) rfl))) (by decide) (backOf (W := 0) (rm1 l Z a0 hw [] b10 (p4 &&& (3 : Int32)) b15 (own_fl p4) (own_f4 y1 (own_c1 p4 y1 p2) (own_c2 p4 y1 p3) y6) G h19 n0 Z19 VC_v19 VG_v0 (own_fc hb0 hb1 hb2) ne_b10_b15 g_b15 hcn) hZ (hw _ (List.mem_of_getElem? (i := 6) rfl)) (hw _ (List.mem_of_getElem? (i := 5) rfl)) (by decide) (by decide)) (g := (mkF m 207 #[.val (.int p1), .val (.int p2), .val (.int p3), .val (.int p4), .val (.long q5), .second, .val (.long q6), .second, .val (.int y1), .val (.int (own_c1 p4 y1 p2)), .val (.int (own_c2 p4 y1 p3)), .val (.int y6), .val (.int (p4 &&& (3 : Int32))), .val (.int (own_fl p4)), .val (.int y9), .val (.ref b10), .val (.ref b15), .val (.int (own_w y1)), .val (.int (own_w (own_c1 p4 y1 p2))), .val (.int (own_w (own_c2 p4 y1 p3))), .val (.long (G ((own_w y1)).toNatClampNeg)), .second, .val (.long (G ((own_w (own_c1 p4 y1 p2))).toNatClampNeg)), .second, .val (.long (G ((own_w (own_c2 p4 y1 p3))).toNatClampNeg)), .second, .val (.long (G (y9).toNatClampNeg)), .second] [(.int (own_fl p4)), (.ref b15), (.int (p4 &&& (3 : Int32))), (.ref b10)])) rfl (by rw [hml]; rfl) (argsL := [(.ref b10), (.int (p4 &&& (3 : Int32))), (.ref b15), (.int (own_fl p4))]) (rest := []) (lenOf pd_1 rfl) rfl (by show 2 * 0 + _ ≤ _; exact Nat.le_of_eq rfl) (hb hby at_207) (fun _ _ => ⟨rfl, e19, (by decide : 2 + 0 ≤ _), (by decide : 1028 + 0 ≤ _)⟩)
  dsimp only [Pt.U, Pt.locs, Pt.cells, Pt.slots] at X24 l24 y24 z24 st24 hQ24
  subst l24 y24 z24
  obtain ⟨rfl, N24q, Kc24, nf24_v24⟩ := hQ24
  have N24 := Fr.app N19 N24q
  have VC_v24 := VC_v19.keep Kc24 (ninS ne_b10_b15 nin0)
  have Z24 : n0 ≤ T24.heap.size := Nat.le_trans Z19 Kc24.1
  obtain ⟨cl25, Ar25, S25, H25⟩ := id nf24_v24
  have hin25 : ¬ ((own_w y1) < 0 ∨ cl25.slots.size ≤ ((own_w y1)).toNatClampNeg) := inA S25 hw0.1 hw0.2
  have hat25 : cl25.slots[((own_w y1)).toNatClampNeg]? = some (.long ((own_wr (own_fl p4) (p4 &&& (3 : Int32)) (own_f4 y1 (own_c1 p4 y1 p2) (own_c2 p4 y1 p3) y6) G) ((own_w y1)).toNatClampNeg)) := ArF.at S25 H25 hin25 rfl
  obtain ⟨_, _, ⟨T26, L26, k26, n26⟩, -, X26, ⟨Lc26, hQ26, l26, y26, z26⟩, st26⟩ := Jvm.LawKit.callS X24 hx (y := (⟨"com/example/bitstrata/bitstrata/ArrayChunkWriteEachPinLaw", "expected", "(JICCCIZ)J"⟩ : MethodName)) hown (mvT hZ (hw _ (List.mem_of_getElem? (i := 7) rfl))) (mvT hZ (hw _ (List.mem_of_getElem? (i := 8) rfl))) (mvT hZ (hw _ (List.mem_of_getElem? (i := 9) rfl))) (mvT hZ (hw _ (List.mem_of_getElem? (i := 10) rfl))) (by decide) (backOf (W := 2) (rm2 l Z a0 hw [] (G ((own_w y1)).toNatClampNeg) (own_w y1) y1 (own_c1 p4 y1 p2) (own_c2 p4 y1 p3) (p4 &&& (3 : Int32)) (own_fl p4) T24.heap n0 Z24) hZ (hw _ (List.mem_of_getElem? (i := 10) rfl)) (hw _ (List.mem_of_getElem? (i := 9) rfl)) (by decide) (by decide)) (g := (mkF m 229 #[.val (.int p1), .val (.int p2), .val (.int p3), .val (.int p4), .val (.long q5), .second, .val (.long q6), .second, .val (.int y1), .val (.int (own_c1 p4 y1 p2)), .val (.int (own_c2 p4 y1 p3)), .val (.int y6), .val (.int (p4 &&& (3 : Int32))), .val (.int (own_fl p4)), .val (.int y9), .val (.ref b10), .val (.ref b15), .val (.int (own_w y1)), .val (.int (own_w (own_c1 p4 y1 p2))), .val (.int (own_w (own_c2 p4 y1 p3))), .val (.long (G ((own_w y1)).toNatClampNeg)), .second, .val (.long (G ((own_w (own_c1 p4 y1 p2))).toNatClampNeg)), .second, .val (.long (G ((own_w (own_c2 p4 y1 p3))).toNatClampNeg)), .second, .val (.long (G (y9).toNatClampNeg)), .second] [(.int (own_fl p4)), (.int (p4 &&& (3 : Int32))), (.int (own_c2 p4 y1 p3)), (.int (own_c1 p4 y1 p2)), (.int y1), (.int (own_w y1)), (.long (G ((own_w y1)).toNatClampNeg)), (.long ((own_wr (own_fl p4) (p4 &&& (3 : Int32)) (own_f4 y1 (own_c1 p4 y1 p2) (own_c2 p4 y1 p3) y6) G) ((own_w y1)).toNatClampNeg))])) rfl (by rw [hml]; rfl) (argsL := [(.long (G ((own_w y1)).toNatClampNeg)), (.int (own_w y1)), (.int y1), (.int (own_c1 p4 y1 p2)), (.int (own_c2 p4 y1 p3)), (.int (p4 &&& (3 : Int32))), (.int (own_fl p4))]) (rest := [(.long ((own_wr (own_fl p4) (p4 &&& (3 : Int32)) (own_f4 y1 (own_c1 p4 y1 p2) (own_c2 p4 y1 p3) y6) G) ((own_w y1)).toNatClampNeg))]) (lenOf pd_2 rfl) rfl (by show 2 * 0 + _ ≤ _; exact Nat.le_of_eq rfl) (hb hby at_229) (fun _ _ => ⟨rfl, rfl, (by decide : 2 + 0 ≤ _), (by decide : 1028 + 0 ≤ _)⟩)
  dsimp only [Pt.U, Pt.locs, Pt.cells, Pt.slots] at X26 l26 y26 z26 st26 hQ26
  subst l26 y26 z26
  obtain ⟨rfl, N26q, e26⟩ := hQ26
  have N26 := Fr.app N24 N26q
  obtain ⟨cl27, Ar27, S27, H27⟩ := id nf24_v24
  have hin27 : ¬ ((own_w (own_c1 p4 y1 p2)) < 0 ∨ cl27.slots.size ≤ ((own_w (own_c1 p4 y1 p2))).toNatClampNeg) := inA S27 hw1.1 hw1.2
  have hat27 : cl27.slots[((own_w (own_c1 p4 y1 p2))).toNatClampNeg]? = some (.long ((own_wr (own_fl p4) (p4 &&& (3 : Int32)) (own_f4 y1 (own_c1 p4 y1 p2) (own_c2 p4 y1 p3) y6) G) ((own_w (own_c1 p4 y1 p2))).toNatClampNeg)) := ArF.at S27 H27 hin27 rfl
  obtain ⟨_, _, ⟨T28, L28, k28, n28⟩, -, X28, ⟨Lc28, hQ28, l28, y28, z28⟩, st28⟩ := Jvm.LawKit.callS X26 hx (y := (⟨"com/example/bitstrata/bitstrata/ArrayChunkWriteEachPinLaw", "expected", "(JICCCIZ)J"⟩ : MethodName)) hown (mvT hZ (hw _ (List.mem_of_getElem? (i := 7) rfl))) (mvT hZ (hw _ (List.mem_of_getElem? (i := 8) rfl))) (mvT hZ (hw _ (List.mem_of_getElem? (i := 9) rfl))) (mvT hZ (hw _ (List.mem_of_getElem? (i := 10) rfl))) (by decide) (backOf (W := 2) (rm2 l Z a0 hw [] (G ((own_w (own_c1 p4 y1 p2))).toNatClampNeg) (own_w (own_c1 p4 y1 p2)) y1 (own_c1 p4 y1 p2) (own_c2 p4 y1 p3) (p4 &&& (3 : Int32)) (own_fl p4) T24.heap n0 Z24) hZ (hw _ (List.mem_of_getElem? (i := 10) rfl)) (hw _ (List.mem_of_getElem? (i := 9) rfl)) (by decide) (by decide)) (g := (mkF m 255 #[.val (.int p1), .val (.int p2), .val (.int p3), .val (.int p4), .val (.long q5), .second, .val (.long q6), .second, .val (.int y1), .val (.int (own_c1 p4 y1 p2)), .val (.int (own_c2 p4 y1 p3)), .val (.int y6), .val (.int (p4 &&& (3 : Int32))), .val (.int (own_fl p4)), .val (.int y9), .val (.ref b10), .val (.ref b15), .val (.int (own_w y1)), .val (.int (own_w (own_c1 p4 y1 p2))), .val (.int (own_w (own_c2 p4 y1 p3))), .val (.long (G ((own_w y1)).toNatClampNeg)), .second, .val (.long (G ((own_w (own_c1 p4 y1 p2))).toNatClampNeg)), .second, .val (.long (G ((own_w (own_c2 p4 y1 p3))).toNatClampNeg)), .second, .val (.long (G (y9).toNatClampNeg)), .second] [(.int (own_fl p4)), (.int (p4 &&& (3 : Int32))), (.int (own_c2 p4 y1 p3)), (.int (own_c1 p4 y1 p2)), (.int y1), (.int (own_w (own_c1 p4 y1 p2))), (.long (G ((own_w (own_c1 p4 y1 p2))).toNatClampNeg)), (.long ((own_wr (own_fl p4) (p4 &&& (3 : Int32)) (own_f4 y1 (own_c1 p4 y1 p2) (own_c2 p4 y1 p3) y6) G) ((own_w (own_c1 p4 y1 p2))).toNatClampNeg))])) rfl (by rw [hml]; rfl) (argsL := [(.long (G ((own_w (own_c1 p4 y1 p2))).toNatClampNeg)), (.int (own_w (own_c1 p4 y1 p2))), (.int y1), (.int (own_c1 p4 y1 p2)), (.int (own_c2 p4 y1 p3)), (.int (p4 &&& (3 : Int32))), (.int (own_fl p4))]) (rest := [(.long ((own_wr (own_fl p4) (p4 &&& (3 : Int32)) (own_f4 y1 (own_c1 p4 y1 p2) (own_c2 p4 y1 p3) y6) G) ((own_w (own_c1 p4 y1 p2))).toNatClampNeg))]) (lenOf pd_2 rfl) rfl (by show 2 * 0 + _ ≤ _; exact Nat.le_of_eq rfl) (hb hby at_255) (fun _ _ => ⟨rfl, e26, (by decide : 2 + 0 ≤ _), (by decide : 1028 + 0 ≤ _)⟩)
  dsimp only [Pt.U, Pt.locs, Pt.cells, Pt.slots] at X28 l28 y28 z28 st28 hQ28
  subst l28 y28 z28
  obtain ⟨rfl, N28q, e28⟩ := hQ28
  have N28 := Fr.app N26 N28q
  obtain ⟨cl29, Ar29, S29, H29⟩ := id nf24_v24
  have hin29 : ¬ ((own_w (own_c2 p4 y1 p3)) < 0 ∨ cl29.slots.size ≤ ((own_w (own_c2 p4 y1 p3))).toNatClampNeg) := inA S29 hw2.1 hw2.2
  have hat29 : cl29.slots[((own_w (own_c2 p4 y1 p3))).toNatClampNeg]? = some (.long ((own_wr (own_fl p4) (p4 &&& (3 : Int32)) (own_f4 y1 (own_c1 p4 y1 p2) (own_c2 p4 y1 p3) y6) G) ((own_w (own_c2 p4 y1 p3))).toNatClampNeg)) := ArF.at S29 H29 hin29 rfl
  obtain ⟨_, _, ⟨T30, L30, k30, n30⟩, -, X30, ⟨Lc30, hQ30, l30, y30, z30⟩, st30⟩ := Jvm.LawKit.callS X28 hx (y := (⟨"com/example/bitstrata/bitstrata/ArrayChunkWriteEachPinLaw", "expected", "(JICCCIZ)J"⟩ : MethodName)) hown (mvT hZ (hw _ (List.mem_of_getElem? (i := 7) rfl))) (mvT hZ (hw _ (List.mem_of_getElem? (i := 8) rfl))) (mvT hZ (hw _ (List.mem_of_getElem? (i := 9) rfl))) (mvT hZ (hw _ (List.mem_of_getElem? (i := 10) rfl))) (by decide) (backOf (W := 2) (rm2 l Z a0 hw [] (G ((own_w (own_c2 p4 y1 p3))).toNatClampNeg) (own_w (own_c2 p4 y1 p3)) y1 (own_c1 p4 y1 p2) (own_c2 p4 y1 p3) (p4 &&& (3 : Int32)) (own_fl p4) T24.heap n0 Z24) hZ (hw _ (List.mem_of_getElem? (i := 10) rfl)) (hw _ (List.mem_of_getElem? (i := 9) rfl)) (by decide) (by decide)) (g := (mkF m 281 #[.val (.int p1), .val (.int p2), .val (.int p3), .val (.int p4), .val (.long q5), .second, .val (.long q6), .second, .val (.int y1), .val (.int (own_c1 p4 y1 p2)), .val (.int (own_c2 p4 y1 p3)), .val (.int y6), .val (.int (p4 &&& (3 : Int32))), .val (.int (own_fl p4)), .val (.int y9), .val (.ref b10), .val (.ref b15), .val (.int (own_w y1)), .val (.int (own_w (own_c1 p4 y1 p2))), .val (.int (own_w (own_c2 p4 y1 p3))), .val (.long (G ((own_w y1)).toNatClampNeg)), .second, .val (.long (G ((own_w (own_c1 p4 y1 p2))).toNatClampNeg)), .second, .val (.long (G ((own_w (own_c2 p4 y1 p3))).toNatClampNeg)), .second, .val (.long (G (y9).toNatClampNeg)), .second] [(.int (own_fl p4)), (.int (p4 &&& (3 : Int32))), (.int (own_c2 p4 y1 p3)), (.int (own_c1 p4 y1 p2)), (.int y1), (.int (own_w (own_c2 p4 y1 p3))), (.long (G ((own_w (own_c2 p4 y1 p3))).toNatClampNeg)), (.long ((own_wr (own_fl p4) (p4 &&& (3 : Int32)) (own_f4 y1 (own_c1 p4 y1 p2) (own_c2 p4 y1 p3) y6) G) ((own_w (own_c2 p4 y1 p3))).toNatClampNeg))])) rfl (by rw [hml]; rfl) (argsL := [(.long (G ((own_w (own_c2 p4 y1 p3))).toNatClampNeg)), (.int (own_w (own_c2 p4 y1 p3))), (.int y1), (.int (own_c1 p4 y1 p2)), (.int (own_c2 p4 y1 p3)), (.int (p4 &&& (3 : Int32))), (.int (own_fl p4))]) (rest := [(.long ((own_wr (own_fl p4) (p4 &&& (3 : Int32)) (own_f4 y1 (own_c1 p4 y1 p2) (own_c2 p4 y1 p3) y6) G) ((own_w (own_c2 p4 y1 p3))).toNatClampNeg))]) (lenOf pd_2 rfl) rfl (by show 2 * 0 + _ ≤ _; exact Nat.le_of_eq rfl) (hb hby at_281) (fun _ _ => ⟨rfl, e28, (by decide : 2 + 0 ≤ _), (by decide : 1028 + 0 ≤ _)⟩)
  dsimp only [Pt.U, Pt.locs, Pt.cells, Pt.slots] at X30 l30 y30 z30 st30 hQ30
  subst l30 y30 z30
  obtain ⟨rfl, N30q, e30⟩ := hQ30
  have N30 := Fr.app N28 N30q
  obtain ⟨cl31, Ar31, S31, H31⟩ := id nf24_v24
  have hin31 : ¬ (y9 < 0 ∨ cl31.slots.size ≤ (y9).toNatClampNeg) := inA S31 hpx.1 hpx.2
  have hat31 : cl31.slots[(y9).toNatClampNeg]? = some (.long ((own_wr (own_fl p4) (p4 &&& (3 : Int32)) (own_f4 y1 (own_c1 p4 y1 p2) (own_c2 p4 y1 p3) y6) G) (y9).toNatClampNeg)) := ArF.at S31 H31 hin31 rfl
  obtain ⟨_, _, ⟨T32, L32, k32, n32⟩, -, X32, ⟨Lc32, hQ32, l32, y32, z32⟩, st32⟩ := Jvm.LawKit.callS X30 hx (y := (⟨"com/example/bitstrata/bitstrata/ArrayChunkWriteEachPinLaw", "expected", "(JICCCIZ)J"⟩ : MethodName)) hown (mvT hZ (hw _ (List.mem_of_getElem? (i := 7) rfl))) (mvT hZ (hw _ (List.mem_of_getElem? (i := 8) rfl))) (mvT hZ (hw _ (List.mem_of_getElem? (i := 9) rfl))) (mvT hZ (hw _ (List.mem_of_getElem? (i := 10) rfl))) (by decide) (backOf (W := 2) (rm2 l Z a0 hw [] (G (y9).toNatClampNeg) y9 y1 (own_c1 p4 y1 p2) (own_c2 p4 y1 p3) (p4 &&& (3 : Int32)) (own_fl p4) T24.heap n0 Z24) hZ (hw _ (List.mem_of_getElem? (i := 10) rfl)) (hw _ (List.mem_of_getElem? (i := 9) rfl)) (by decide) (by decide)) (g := (mkF m 307 #[.val (.int p1), .val (.int p2), .val (.int p3), .val (.int p4), .val (.long q5), .second, .val (.long q6), .second, .val (.int y1), .val (.int (own_c1 p4 y1 p2)), .val (.int (own_c2 p4 y1 p3)), .val (.int y6), .val (.int (p4 &&& (3 : Int32))), .val (.int (own_fl p4)), .val (.int y9), .val (.ref b10), .val (.ref b15), .val (.int (own_w y1)), .val (.int (own_w (own_c1 p4 y1 p2))), .val (.int (own_w (own_c2 p4 y1 p3))), .val (.long (G ((own_w y1)).toNatClampNeg)), .second, .val (.long (G ((own_w (own_c1 p4 y1 p2))).toNatClampNeg)), .second, .val (.long (G ((own_w (own_c2 p4 y1 p3))).toNatClampNeg)), .second, .val (.long (G (y9).toNatClampNeg)), .second] [(.int (own_fl p4)), (.int (p4 &&& (3 : Int32))), (.int (own_c2 p4 y1 p3)), (.int (own_c1 p4 y1 p2)), (.int y1), (.int y9), (.long (G (y9).toNatClampNeg)), (.long ((own_wr (own_fl p4) (p4 &&& (3 : Int32)) (own_f4 y1 (own_c1 p4 y1 p2) (own_c2 p4 y1 p3) y6) G) (y9).toNatClampNeg))])) rfl (by rw [hml]; rfl) (argsL := [(.long (G (y9).toNatClampNeg)), (.int y9), (.int y1), (.int (own_c1 p4 y1 p2)), (.int (own_c2 p4 y1 p3)), (.int (p4 &&& (3 : Int32))), (.int (own_fl p4))]) (rest := [(.long ((own_wr (own_fl p4) (p4 &&& (3 : Int32)) (own_f4 y1 (own_c1 p4 y1 p2) (own_c2 p4 y1 p3) y6) G) (y9).toNatClampNeg))]) (lenOf pd_2 rfl) rfl (by show 2 * 0 + _ ≤ _; exact Nat.le_of_eq rfl) (hb hby at_307) (fun _ _ => ⟨rfl, e30, (by decide : 2 + 0 ≤ _), (by decide : 1028 + 0 ≤ _)⟩)
  dsimp only [Pt.U, Pt.locs, Pt.cells, Pt.slots] at X32 l32 y32 z32 st32 hQ32
  subst l32 y32 z32
  obtain ⟨rfl, N32q, e32⟩ := hQ32
  have N32 := Fr.app N30 N32q
  obtain ⟨cl33, Ar33, S33, H33⟩ := id VC_v24
  have hin33 : ¬ ((0 : Int32) < 0 ∨ cl33.slots.size ≤ ((0 : Int32)).toNatClampNeg) := inA S33 (by decide) (by decide)
  have hat33 : cl33.slots[((0 : Int32)).toNatClampNeg]? = some (.int y1) := ArF.at S33 H33 hin33 rfl
  obtain ⟨cl34, Ar34, S34, H34⟩ := id VC_v24
  have hin34 : ¬ ((1 : Int32) < 0 ∨ cl34.slots.size ≤ ((1 : Int32)).toNatClampNeg) := inA S34 (by decide) (by decide)
  have hat34 : cl34.slots[((1 : Int32)).toNatClampNeg]? = some (.int (own_c1 p4 y1 p2)) := ArF.at S34 H34 hin34 rfl
  obtain ⟨cl35, Ar35, S35, H35⟩ := id VC_v24
  have hin35 : ¬ ((2 : Int32) < 0 ∨ cl35.slots.size ≤ ((2 : Int32)).toNatClampNeg) := inA S35 (by decide) (by decide)
  have hat35 : cl35.slots[((2 : Int32)).toNatClampNeg]? = some (.int (own_c2 p4 y1 p3)) := ArF.at S35 H35 hin35 rfl
  obtain ⟨cl36, Ar36, S36, H36⟩ := id VC_v24
  have hin36 : ¬ ((3 : Int32) < 0 ∨ cl36.slots.size ≤ ((3 : Int32)).toNatClampNeg) := inA S36 (by decide) (by decide)
  have hat36 : cl36.slots[((3 : Int32)).toNatClampNeg]? = some (.int y6) := ArF.at S36 H36 hin36 rfl
  obtain ⟨fs, hr, hrun, hended, hW, hsame⟩ := X32.leave (v := some (.int (1 : Int32))) (fun h => by rw [Bd.returns] at h; cases h)
  refine ⟨_, _, pre8 _ ?_, hrun, hended, _, _, rfl, ?_, ⟨_, rfl⟩, hW, hsame.mono (by decide) (by decide)⟩
  · show Steps p.tables e below (s₁.setTop (mkF m 68 #[.val (.int p1), .val (.int p2), .val (.int p3), .val (.int p4), .val (.long q5), .second, .val (.long q6), .second, .val (.int y1), .val (.int (own_c1 p4 y1 p2)), .val (.int (own_c2 p4 y1 p3)), .val (.int y6), .val (.int (p4 &&& (3 : Int32))), .unset, .unset, .unset, .unset, .unset, .unset, .unset, .unset, .unset, .unset, .unset, .unset, .unset, .unset, .unset] [(.int (own_fl p4))])) _
    refine XS.istore X0.here hx rfl (hb hby at_68) rfl (l' := #[.val (.int p1), .val (.int p2), .val (.int p3), .val (.int p4), .val (.long q5), .second, .val (.long q6), .second, .val (.int y1), .val (.int (own_c1 p4 y1 p2)), .val (.int (own_c2 p4 y1 p3)), .val (.int y6), .val (.int (p4 &&& (3 : Int32))), .val (.int (own_fl p4)), .unset, .unset, .unset, .unset, .unset, .unset, .unset, .unset, .unset, .unset, .unset, .unset, .unset, .unset]) rfl ?_
    show Steps p.tables e below (s₁.setTop (mkF m 70 #[.val (.int p1), .val (.int p2), .val (.int p3), .val (.int p4), .val (.long q5), .second, .val (.long q6), .second, .val (.int y1), .val (.int (own_c1 p4 y1 p2)), .val (.int (own_c2 p4 y1 p3)), .val (.int y6), .val (.int (p4 &&& (3 : Int32))), .val (.int (own_fl p4)), .unset, .unset, .unset, .unset, .unset, .unset, .unset, .unset, .unset, .unset, .unset, .unset, .unset, .unset] [])) _
    refine XS.iloadN X0.here hx rfl (hb hby at_70) rfl ?_
    show Steps p.tables e below (s₁.setTop (mkF m 71 #[.val (.int p1), .val (.int p2), .val (.int p3), .val (.int p4), .val (.long q5), .second, .val (.long q6), .second, .val (.int y1), .val (.int (own_c1 p4 y1 p2)), .val (.int (own_c2 p4 y1 p3)), .val (.int y6), .val (.int (p4 &&& (3 : Int32))), .val (.int (own_fl p4)), .unset, .unset, .unset, .unset, .unset, .unset, .unset, .unset, .unset, .unset, .unset, .unset, .unset, .unset] [(.int p4)])) _
    refine XS.iconst X0.here hx rfl (hb hby at_71) ?_
    show Steps p.tables e below (s₁.setTop (mkF m 72 #[.val (.int p1), .val (.int p2), .val (.int p3), .val (.int p4), .val (.long q5), .second, .val (.long q6), .second, .val (.int y1), .val (.int (own_c1 p4 y1 p2)), .val (.int (own_c2 p4 y1 p3)), .val (.int y6), .val (.int (p4 &&& (3 : Int32))), .val (.int (own_fl p4)), .unset, .unset, .unset, .unset, .unset, .unset, .unset, .unset, .unset, .unset, .unset, .unset, .unset, .unset] [(.int (5 : Int32)), (.int p4)])) _
    refine XS.iushr X0.here hx rfl (hb hby at_72) rfl ?_
    show Steps p.tables e below (s₁.setTop (mkF m 73 #[.val (.int p1), .val (.int p2), .val (.int p3), .val (.int p4), .val (.long q5), .second, .val (.long q6), .second, .val (.int y1), .val (.int (own_c1 p4 y1 p2)), .val (.int (own_c2 p4 y1 p3)), .val (.int y6), .val (.int (p4 &&& (3 : Int32))), .val (.int (own_fl p4)), .unset, .unset, .unset, .unset, .unset, .unset, .unset, .unset, .unset, .unset, .unset, .unset, .unset, .unset] [(.int ((p4.toUInt32 >>> ((5 : Int32) &&& 31).toUInt32).toInt32))])) _
    refine XS.sipush X0.here hx rfl (hb hby at_73) ?_
    show Steps p.tables e below (s₁.setTop (mkF m 76 #[.val (.int p1), .val (.int p2), .val (.int p3), .val (.int p4), .val (.long q5), .second, .val (.long q6), .second, .val (.int y1), .val (.int (own_c1 p4 y1 p2)), .val (.int (own_c2 p4 y1 p3)), .val (.int y6), .val (.int (p4 &&& (3 : Int32))), .val (.int (own_fl p4)), .unset, .unset, .unset, .unset, .unset, .unset, .unset, .unset, .unset, .unset, .unset, .unset, .unset, .unset] [(.int (1023 : Int32)), (.int ((p4.toUInt32 >>> ((5 : Int32) &&& 31).toUInt32).toInt32))])) _
    refine XS.iand X0.here hx rfl (hb hby at_76) rfl ?_
    show Steps p.tables e below (s₁.setTop (mkF m 77 #[.val (.int p1), .val (.int p2), .val (.int p3), .val (.int p4), .val (.long q5), .second, .val (.long q6), .second, .val (.int y1), .val (.int (own_c1 p4 y1 p2)), .val (.int (own_c2 p4 y1 p3)), .val (.int y6), .val (.int (p4 &&& (3 : Int32))), .val (.int (own_fl p4)), .unset, .unset, .unset, .unset, .unset, .unset, .unset, .unset, .unset, .unset, .unset, .unset, .unset, .unset] [(.int (((p4.toUInt32 >>> ((5 : Int32) &&& 31).toUInt32).toInt32) &&& (1023 : Int32)))])) _
    rw [← hy9]
    refine XS.istore X0.here hx rfl (hb hby at_77) rfl (l' := #[.val (.int p1), .val (.int p2), .val (.int p3), .val (.int p4), .val (.long q5), .second, .val (.long q6), .second, .val (.int y1), .val (.int (own_c1 p4 y1 p2)), .val (.int (own_c2 p4 y1 p3)), .val (.int y6), .val (.int (p4 &&& (3 : Int32))), .val (.int (own_fl p4)), .val (.int y9), .unset, .unset, .unset, .unset, .unset, .unset, .unset, .unset, .unset, .unset, .unset, .unset, .unset]) rfl ?_
    show Steps p.tables e below (s₁.setTop (mkF m 79 #[.val (.int p1), .val (.int p2), .val (.int p3), .val (.int p4), .val (.long q5), .second, .val (.long q6), .second, .val (.int y1), .val (.int (own_c1 p4 y1 p2)), .val (.int (own_c2 p4 y1 p3)), .val (.int y6), .val (.int (p4 &&& (3 : Int32))), .val (.int (own_fl p4)), .val (.int y9), .unset, .unset, .unset, .unset, .unset, .unset, .unset, .unset, .unset, .unset, .unset, .unset, .unset] [])) _
    refine XS.iconst X0.here hx rfl (hb hby at_79) ?_
    show Steps p.tables e below (s₁.setTop (mkF m 80 #[.val (.int p1), .val (.int p2), .val (.int p3), .val (.int p4), .val (.long q5), .second, .val (.long q6), .second, .val (.int y1), .val (.int (own_c1 p4 y1 p2)), .val (.int (own_c2 p4 y1 p3)), .val (.int y6), .val (.int (p4 &&& (3 : Int32))), .val (.int (own_fl p4)), .val (.int y9), .unset, .unset, .unset, .unset, .unset, .unset, .unset, .unset, .unset, .unset, .unset, .unset, .unset] [(.int (4 : Int32))])) _
    refine st10 _ ?_
    show Steps p.tables e below (T10.setTop (mkF m 82 #[.val (.int p1), .val (.int p2), .val (.int p3), .val (.int p4), .val (.long q5), .second, .val (.long q6), .second, .val (.int y1), .val (.int (own_c1 p4 y1 p2)), .val (.int (own_c2 p4 y1 p3)), .val (.int y6), .val (.int (p4 &&& (3 : Int32))), .val (.int (own_fl p4)), .val (.int y9), .unset, .unset, .unset, .unset, .unset, .unset, .unset, .unset, .unset, .unset, .unset, .unset, .unset] [(.ref b10)])) _
    refine XS.astore X10.here hx rfl (hb hby at_82) rfl rfl (l' := #[.val (.int p1), .val (.int p2), .val (.int p3), .val (.int p4), .val (.long q5), .second, .val (.long q6), .second, .val (.int y1), .val (.int (own_c1 p4 y1 p2)), .val (.int (own_c2 p4 y1 p3)), .val (.int y6), .val (.int (p4 &&& (3 : Int32))), .val (.int (own_fl p4)), .val (.int y9), .val (.ref b10), .unset, .unset, .unset, .unset, .unset, .unset, .unset, .unset, .unset, .unset, .unset, .unset]) rfl ?_
    show Steps p.tables e below (T10.setTop (mkF m 84 #[.val (.int p1), .val (.int p2), .val (.int p3), .val (.int p4), .val (.long q5), .second, .val (.long q6), .second, .val (.int y1), .val (.int (own_c1 p4 y1 p2)), .val (.int (own_c2 p4 y1 p3)), .val (.int y6), .val (.int (p4 &&& (3 : Int32))), .val (.int (own_fl p4)), .val (.int y9), .val (.ref b10), .unset, .unset, .unset, .unset, .unset, .unset, .unset, .unset, .unset, .unset, .unset, .unset] [])) _
    refine XS.aload X10.here hx rfl (hb hby at_84) rfl rfl ?_
    show Steps p.tables e below (T10.setTop (mkF m 86 #[.val (.int p1), .val (.int p2), .val (.int p3), .val (.int p4), .val (.long q5), .second, .val (.long q6), .second, .val (.int y1), .val (.int (own_c1 p4 y1 p2)), .val (.int (own_c2 p4 y1 p3)), .val (.int y6), .val (.int (p4 &&& (3 : Int32))), .val (.int (own_fl p4)), .val (.int y9), .val (.ref b10), .unset, .unset, .unset, .unset, .unset, .unset, .unset, .unset, .unset, .unset, .unset, .unset] [(.ref b10)])) _
    refine XS.iconst X10.here hx rfl (hb hby at_86) ?_
    show Steps p.tables e below (T10.setTop (mkF m 87 #[.val (.int p1), .val (.int p2), .val (.int p3), .val (.int p4), .val (.long q5), .second, .val (.long q6), .second, .val (.int y1), .val (.int (own_c1 p4 y1 p2)), .val (.int (own_c2 p4 y1 p3)), .val (.int y6), .val (.int (p4 &&& (3 : Int32))), .val (.int (own_fl p4)), .val (.int y9), .val (.ref b10), .unset, .unset, .unset, .unset, .unset, .unset, .unset, .unset, .unset, .unset, .unset, .unset] [(.int (0 : Int32)), (.ref b10)])) _
    refine XS.iload X10.here hx rfl (hb hby at_87) rfl ?_
    show Steps p.tables e below (T10.setTop (mkF m 89 #[.val (.int p1), .val (.int p2), .val (.int p3), .val (.int p4), .val (.long q5), .second, .val (.long q6), .second, .val (.int y1), .val (.int (own_c1 p4 y1 p2)), .val (.int (own_c2 p4 y1 p3)), .val (.int y6), .val (.int (p4 &&& (3 : Int32))), .val (.int (own_fl p4)), .val (.int y9), .val (.ref b10), .unset, .unset, .unset, .unset, .unset, .unset, .unset, .unset, .unset, .unset, .unset, .unset] [(.int y1), (.int (0 : Int32)), (.ref b10)])) _
    refine st11 _ ?_
    show Steps p.tables e below (T11.setTop (mkF m 90 #[.val (.int p1), .val (.int p2), .val (.int p3), .val (.int p4), .val (.long q5), .second, .val (.long q6), .second, .val (.int y1), .val (.int (own_c1 p4 y1 p2)), .val (.int (own_c2 p4 y1 p3)), .val (.int y6), .val (.int (p4 &&& (3 : Int32))), .val (.int (own_fl p4)), .val (.int y9), .val (.ref b10), .unset, .unset, .unset, .unset, .unset, .unset, .unset, .unset, .unset, .unset, .unset, .unset] [])) _
    refine XS.aload X11.here hx rfl (hb hby at_90) rfl rfl ?_
    show Steps p.tables e below (T11.setTop (mkF m 92 #[.val (.int p1), .val (.int p2), .val (.int p3), .val (.int p4), .val (.long q5), .second, .val (.long q6), .second, .val (.int y1), .val (.int (own_c1 p4 y1 p2)), .val (.int (own_c2 p4 y1 p3)), .val (.int y6), .val (.int (p4 &&& (3 : Int32))), .val (.int (own_fl p4)), .val (.int y9), .val (.ref b10), .unset, .unset, .unset, .unset, .unset, .unset, .unset, .unset, .unset, .unset, .unset, .unset] [(.ref b10)])) _
    refine XS.iconst X11.here hx rfl (hb hby at_92) ?_
    show Steps p.tables e below (T11.setTop (mkF m 93 #[.val (.int p1), .val (.int p2), .val (.int p3), .val (.int p4), .val (.long q5), .second, .val (.long q6), .second, .val (.int y1), .val (.int (own_c1 p4 y1 p2)), .val (.int (own_c2 p4 y1 p3)), .val (.int y6), .val (.int (p4 &&& (3 : Int32))), .val (.int (own_fl p4)), .val (.int y9), .val (.ref b10), .unset, .unset, .unset, .unset, .unset, .unset, .unset, .unset, .unset, .unset, .unset, .unset] [(.int (1 : Int32)), (.ref b10)])) _
    refine XS.iload X11.here hx rfl (hb hby at_93) rfl ?_
    show Steps p.tables e below (T11.setTop (mkF m 95 #[.val (.int p1), .val (.int p2), .val (.int p3), .val (.int p4), .val (.long q5), .second, .val (.long q6), .second, .val (.int y1), .val (.int (own_c1 p4 y1 p2)), .val (.int (own_c2 p4 y1 p3)), .val (.int y6), .val (.int (p4 &&& (3 : Int32))), .val (.int (own_fl p4)), .val (.int y9), .val (.ref b10), .unset, .unset, .unset, .unset, .unset, .unset, .unset, .unset, .unset, .unset, .unset, .unset] [(.int (own_c1 p4 y1 p2)), (.int (1 : Int32)), (.ref b10)])) _
    refine st12 _ ?_
    show Steps p.tables e below (T12.setTop (mkF m 96 #[.val (.int p1), .val (.int p2), .val (.int p3), .val (.int p4), .val (.long q5), .second, .val (.long q6), .second, .val (.int y1), .val (.int (own_c1 p4 y1 p2)), .val (.int (own_c2 p4 y1 p3)), .val (.int y6), .val (.int (p4 &&& (3 : Int32))), .val (.int (own_fl p4)), .val (.int y9), .val (.ref b10), .unset, .unset, .unset, .unset, .unset, .unset, .unset, .unset, .unset, .unset, .unset, .unset] [])) _
    refine XS.aload X12.here hx rfl (hb hby at_96) rfl rfl ?_
    show Steps p.tables e below (T12.setTop (mkF m 98 #[.val (.int p1), .val (.int p2), .val (.int p3), .val (.int p4), .val (.long q5), .second, .val (.long q6), .second, .val (.int y1), .val (.int (own_c1 p4 y1 p2)), .val (.int (own_c2 p4 y1 p3)), .val (.int y6), .val (.int (p4 &&& (3 : Int32))), .val (.int (own_fl p4)), .val (.int y9), .val (.ref b10), .unset, .unset, .unset, .unset, .unset, .unset, .unset, .unset, .unset, .unset, .unset, .unset] [(.ref b10)])) _
    refine XS.iconst X12.here hx rfl (hb hby at_98) ?_
    show Steps p.tables e below (T12.setTop (mkF m 99 #[.val (.int p1), .val (.int p2), .val (.int p3), .val (.int p4), .val (.long q5), .second, .val (.long q6), .second, .val (.int y1), .val (.int (own_c1 p4 y1 p2)), .val (.int (own_c2 p4 y1 p3)), .val (.int y6), .val (.int (p4 &&& (3 : Int32))), .val (.int (own_fl p4)), .val (.int y9), .val (.ref b10), .unset, .unset, .unset, .unset, .unset, .unset, .unset, .unset, .unset, .unset, .unset, .unset] [(.int (2 : Int32)), (.ref b10)])) _
    refine XS.iload X12.here hx rfl (hb hby at_99) rfl ?_
    show Steps p.tables e below (T12.setTop (mkF m 101 #[.val (.int p1), .val (.int p2), .val (.int p3), .val (.int p4), .val (.long q5), .second, .val (.long q6), .second, .val (.int y1), .val (.int (own_c1 p4 y1 p2)), .val (.int (own_c2 p4 y1 p3)), .val (.int y6), .val (.int (p4 &&& (3 : Int32))), .val (.int (own_fl p4)), .val (.int y9), .val (.ref b10), .unset, .unset, .unset, .unset, .unset, .unset, .unset, .unset, .unset, .unset, .unset, .unset] [(.int (own_c2 p4 y1 p3)), (.int (2 : Int32)), (.ref b10)])) _
    refine st13 _ ?_
    show Steps p.tables e below (T13.setTop (mkF m 102 #[.val (.int p1), .val (.int p2), .val (.int p3), .val (.int p4), .val (.long q5), .second, .val (.long q6), .second, .val (.int y1), .val (.int (own_c1 p4 y1 p2)), .val (.int (own_c2 p4 y1 p3)), .val (.int y6), .val (.int (p4 &&& (3 : Int32))), .val (.int (own_fl p4)), .val (.int y9), .val (.ref b10), .unset, .unset, .unset, .unset, .unset, .unset, .unset, .unset, .unset, .unset, .unset, .unset] [])) _
    refine XS.aload X13.here hx rfl (hb hby at_102) rfl rfl ?_
    show Steps p.tables e below (T13.setTop (mkF m 104 #[.val (.int p1), .val (.int p2), .val (.int p3), .val (.int p4), .val (.long q5), .second, .val (.long q6), .second, .val (.int y1), .val (.int (own_c1 p4 y1 p2)), .val (.int (own_c2 p4 y1 p3)), .val (.int y6), .val (.int (p4 &&& (3 : Int32))), .val (.int (own_fl p4)), .val (.int y9), .val (.ref b10), .unset, .unset, .unset, .unset, .unset, .unset, .unset, .unset, .unset, .unset, .unset, .unset] [(.ref b10)])) _
    refine XS.iconst X13.here hx rfl (hb hby at_104) ?_
    show Steps p.tables e below (T13.setTop (mkF m 105 #[.val (.int p1), .val (.int p2), .val (.int p3), .val (.int p4), .val (.long q5), .second, .val (.long q6), .second, .val (.int y1), .val (.int (own_c1 p4 y1 p2)), .val (.int (own_c2 p4 y1 p3)), .val (.int y6), .val (.int (p4 &&& (3 : Int32))), .val (.int (own_fl p4)), .val (.int y9), .val (.ref b10), .unset, .unset, .unset, .unset, .unset, .unset, .unset, .unset, .unset, .unset, .unset, .unset] [(.int (3 : Int32)), (.ref b10)])) _
    refine XS.iload X13.here hx rfl (hb hby at_105) rfl ?_
    show Steps p.tables e below (T13.setTop (mkF m 107 #[.val (.int p1), .val (.int p2), .val (.int p3), .val (.int p4), .val (.long q5), .second, .val (.long q6), .second, .val (.int y1), .val (.int (own_c1 p4 y1 p2)), .val (.int (own_c2 p4 y1 p3)), .val (.int y6), .val (.int (p4 &&& (3 : Int32))), .val (.int (own_fl p4)), .val (.int y9), .val (.ref b10), .unset, .unset, .unset, .unset, .unset, .unset, .unset, .unset, .unset, .unset, .unset, .unset] [(.int y6), (.int (3 : Int32)), (.ref b10)])) _
    refine st14 _ ?_
    show Steps p.tables e below (T14.setTop (mkF m 108 #[.val (.int p1), .val (.int p2), .val (.int p3), .val (.int p4), .val (.long q5), .second, .val (.long q6), .second, .val (.int y1), .val (.int (own_c1 p4 y1 p2)), .val (.int (own_c2 p4 y1 p3)), .val (.int y6), .val (.int (p4 &&& (3 : Int32))), .val (.int (own_fl p4)), .val (.int y9), .val (.ref b10), .unset, .unset, .unset, .unset, .unset, .unset, .unset, .unset, .unset, .unset, .unset, .unset] [])) _
    refine XS.sipush X14.here hx rfl (hb hby at_108) ?_
    show Steps p.tables e below (T14.setTop (mkF m 111 #[.val (.int p1), .val (.int p2), .val (.int p3), .val (.int p4), .val (.long q5), .second, .val (.long q6), .second, .val (.int y1), .val (.int (own_c1 p4 y1 p2)), .val (.int (own_c2 p4 y1 p3)), .val (.int y6), .val (.int (p4 &&& (3 : Int32))), .val (.int (own_fl p4)), .val (.int y9), .val (.ref b10), .unset, .unset, .unset, .unset, .unset, .unset, .unset, .unset, .unset, .unset, .unset, .unset] [(.int (1024 : Int32))])) _
    refine st15 _ ?_
    show Steps p.tables e below (T15.setTop (mkF m 113 #[.val (.int p1), .val (.int p2), .val (.int p3), .val (.int p4), .val (.long q5), .second, .val (.long q6), .second, .val (.int y1), .val (.int (own_c1 p4 y1 p2)), .val (.int (own_c2 p4 y1 p3)), .val (.int y6), .val (.int (p4 &&& (3 : Int32))), .val (.int (own_fl p4)), .val (.int y9), .val (.ref b10), .unset, .unset, .unset, .unset, .unset, .unset, .unset, .unset, .unset, .unset, .unset, .unset] [(.ref b15)])) _
    refine XS.astore X15.here hx rfl (hb hby at_113) rfl rfl (l' := #[.val (.int p1), .val (.int p2), .val (.int p3), .val (.int p4), .val (.long q5), .second, .val (.long q6), .second, .val (.int y1), .val (.int (own_c1 p4 y1 p2)), .val (.int (own_c2 p4 y1 p3)), .val (.int y6), .val (.int (p4 &&& (3 : Int32))), .val (.int (own_fl p4)), .val (.int y9), .val (.ref b10), .val (.ref b15), .unset, .unset, .unset, .unset, .unset, .unset, .unset, .unset, .unset, .unset, .unset]) rfl ?_
    show Steps p.tables e below (T15.setTop (mkF m 115 #[.val (.int p1), .val (.int p2), .val (.int p3), .val (.int p4), .val (.long q5), .second, .val (.long q6), .second, .val (.int y1), .val (.int (own_c1 p4 y1 p2)), .val (.int (own_c2 p4 y1 p3)), .val (.int y6), .val (.int (p4 &&& (3 : Int32))), .val (.int (own_fl p4)), .val (.int y9), .val (.ref b10), .val (.ref b15), .unset, .unset, .unset, .unset, .unset, .unset, .unset, .unset, .unset, .unset, .unset] [])) _
    refine XS.iload X15.here hx rfl (hb hby at_115) rfl ?_
    show Steps p.tables e below (T15.setTop (mkF m 117 #[.val (.int p1), .val (.int p2), .val (.int p3), .val (.int p4), .val (.long q5), .second, .val (.long q6), .second, .val (.int y1), .val (.int (own_c1 p4 y1 p2)), .val (.int (own_c2 p4 y1 p3)), .val (.int y6), .val (.int (p4 &&& (3 : Int32))), .val (.int (own_fl p4)), .val (.int y9), .val (.ref b10), .val (.ref b15), .unset, .unset, .unset, .unset, .unset, .unset, .unset, .unset, .unset, .unset, .unset] [(.int y1)])) _
    refine XS.bipush X15.here hx rfl (hb hby at_117) ?_
    show Steps p.tables e below (T15.setTop (mkF m 119 #[.val (.int p1), .val (.int p2), .val (.int p3), .val (.int p4), .val (.long q5), .second, .val (.long q6), .second, .val (.int y1), .val (.int (own_c1 p4 y1 p2)), .val (.int (own_c2 p4 y1 p3)), .val (.int y6), .val (.int (p4 &&& (3 : Int32))), .val (.int (own_fl p4)), .val (.int y9), .val (.ref b10), .val (.ref b15), .unset, .unset, .unset, .unset, .unset, .unset, .unset, .unset, .unset, .unset, .unset] [(.int (6 : Int32)), (.int y1)])) _
    refine XS.iushr X15.here hx rfl (hb hby at_119) rfl ?_
    show Steps p.tables e below (T15.setTop (mkF m 120 #[.val (.int p1), .val (.int p2), .val (.int p3), .val (.int p4), .val (.long q5), .second, .val (.long q6), .second, .val (.int y1), .val (.int (own_c1 p4 y1 p2)), .val (.int (own_c2 p4 y1 p3)), .val (.int y6), .val (.int (p4 &&& (3 : Int32))), .val (.int (own_fl p4)), .val (.int y9), .val (.ref b10), .val (.ref b15), .unset, .unset, .unset, .unset, .unset, .unset, .unset, .unset, .unset, .unset, .unset] [(.int (own_w y1))])) _
    refine XS.istore X15.here hx rfl (hb hby at_120) rfl (l' := #[.val (.int p1), .val (.int p2), .val (.int p3), .val (.int p4), .val (.long q5), .second, .val (.long q6), .second, .val (.int y1), .val (.int (own_c1 p4 y1 p2)), .val (.int (own_c2 p4 y1 p3)), .val (.int y6), .val (.int (p4 &&& (3 : Int32))), .val (.int (own_fl p4)), .val (.int y9), .val (.ref b10), .val (.ref b15), .val (.int (own_w y1)), .unset, .unset, .unset, .unset, .unset, .unset, .unset, .unset, .unset, .unset]) rfl ?_
    show Steps p.tables e below (T15.setTop (mkF m 122 #[.val (.int p1), .val (.int p2), .val (.int p3), .val (.int p4), .val (.long q5), .second, .val (.long q6), .second, .val (.int y1), .val (.int (own_c1 p4 y1 p2)), .val (.int (own_c2 p4 y1 p3)), .val (.int y6), .val (.int (p4 &&& (3 : Int32))), .val (.int (own_fl p4)), .val (.int y9), .val (.ref b10), .val (.ref b15), .val (.int (own_w y1)), .unset, .unset, .unset, .unset, .unset, .unset, .unset, .unset, .unset, .unset] [])) _
    refine XS.iload X15.here hx rfl (hb hby at_122) rfl ?_
    show Steps p.tables e below (T15.setTop (mkF m 124 #[.val (.int p1), .val (.int p2), .val (.int p3), .val (.int p4), .val (.long q5), .second, .val (.long q6), .second, .val (.int y1), .val (.int (own_c1 p4 y1 p2)), .val (.int (own_c2 p4 y1 p3)), .val (.int y6), .val (.int (p4 &&& (3 : Int32))), .val (.int (own_fl p4)), .val (.int y9), .val (.ref b10), .val (.ref b15), .val (.int (own_w y1)), .unset, .unset, .unset, .unset, .unset, .unset, .unset, .unset, .unset, .unset] [(.int (own_c1 p4 y1 p2))])) _
    refine XS.bipush X15.here hx rfl (hb hby at_124) ?_
    show Steps p.tables e below (T15.setTop (mkF m 126 #[.val (.int p1), .val (.int p2), .val (.int p3), .val (.int p4), .val (.long q5), .second, .val (.long q6), .second, .val (.int y1), .val (.int (own_c1 p4 y1 p2)), .val (.int (own_c2 p4 y1 p3)), .val (.int y6), .val (.int (p4 &&& (3 : Int32))), .val (.int (own_fl p4)), .val (.int y9), .val (.ref b10), .val (.ref b15), .val (.int (own_w y1)), .unset, .unset, .unset, .unset, .unset, .unset, .unset, .unset, .unset, .unset] [(.int (6 : Int32)), (.int (own_c1 p4 y1 p2))])) _
    refine XS.iushr X15.here hx rfl (hb hby at_126) rfl ?_
    show Steps p.tables e below (T15.setTop (mkF m 127 #[.val (.int p1), .val (.int p2), .val (.int p3), .val (.int p4), .val (.long q5), .second, .val (.long q6), .second, .val (.int y1), .val (.int (own_c1 p4 y1 p2)), .val (.int (own_c2 p4 y1 p3)), .val (.int y6), .val (.int (p4 &&& (3 : Int32))), .val (.int (own_fl p4)), .val (.int y9), .val (.ref b10), .val (.ref b15), .val (.int (own_w y1)), .unset, .unset, .unset, .unset, .unset, .unset, .unset, .unset, .unset, .unset] [(.int (own_w (own_c1 p4 y1 p2)))])) _
    refine XS.istore X15.here hx rfl (hb hby at_127) rfl (l' := #[.val (.int p1), .val (.int p2), .val (.int p3), .val (.int p4), .val (.long q5), .second, .val (.long q6), .second, .val (.int y1), .val (.int (own_c1 p4 y1 p2)), .val (.int (own_c2 p4 y1 p3)), .val (.int y6), .val (.int (p4 &&& (3 : Int32))), .val (.int (own_fl p4)), .val (.int y9), .val (.ref b10), .val (.ref b15), .val (.int (own_w y1)), .val (.int (own_w (own_c1 p4 y1 p2))), .unset, .unset, .unset, .unset, .unset, .unset, .unset, .unset, .unset]) rfl ?_
    show Steps p.tables e below (T15.setTop (mkF m 129 #[.val (.int p1), .val (.int p2), .val (.int p3), .val (.int p4), .val (.long q5), .second, .val (.long q6), .second, .val (.int y1), .val (.int (own_c1 p4 y1 p2)), .val (.int (own_c2 p4 y1 p3)), .val (.int y6), .val (.int (p4 &&& (3 : Int32))), .val (.int (own_fl p4)), .val (.int y9), .val (.ref b10), .val (.ref b15), .val (.int (own_w y1)), .val (.int (own_w (own_c1 p4 y1 p2))), .unset, .unset, .unset, .unset, .unset, .unset, .unset, .unset, .unset] [])) _
    refine XS.iload X15.here hx rfl (hb hby at_129) rfl ?_
    show Steps p.tables e below (T15.setTop (mkF m 131 #[.val (.int p1), .val (.int p2), .val (.int p3), .val (.int p4), .val (.long q5), .second, .val (.long q6), .second, .val (.int y1), .val (.int (own_c1 p4 y1 p2)), .val (.int (own_c2 p4 y1 p3)), .val (.int y6), .val (.int (p4 &&& (3 : Int32))), .val (.int (own_fl p4)), .val (.int y9), .val (.ref b10), .val (.ref b15), .val (.int (own_w y1)), .val (.int (own_w (own_c1 p4 y1 p2))), .unset, .unset, .unset, .unset, .unset, .unset, .unset, .unset, .unset] [(.int (own_c2 p4 y1 p3))])) _
    refine XS.bipush X15.here hx rfl (hb hby at_131) ?_
    show Steps p.tables e below (T15.setTop (mkF m 133 #[.val (.int p1), .val (.int p2), .val (.int p3), .val (.int p4), .val (.long q5), .second, .val (.long q6), .second, .val (.int y1), .val (.int (own_c1 p4 y1 p2)), .val (.int (own_c2 p4 y1 p3)), .val (.int y6), .val (.int (p4 &&& (3 : Int32))), .val (.int (own_fl p4)), .val (.int y9), .val (.ref b10), .val (.ref b15), .val (.int (own_w y1)), .val (.int (own_w (own_c1 p4 y1 p2))), .unset, .unset, .unset, .unset, .unset, .unset, .unset, .unset, .unset] [(.int (6 : Int32)), (.int (own_c2 p4 y1 p3))])) _
    refine XS.iushr X15.here hx rfl (hb hby at_133) rfl ?_
    show Steps p.tables e below (T15.setTop (mkF m 134 #[.val (.int p1), .val (.int p2), .val (.int p3), .val (.int p4), .val (.long q5), .second, .val (.long q6), .second, .val (.int y1), .val (.int (own_c1 p4 y1 p2)), .val (.int (own_c2 p4 y1 p3)), .val (.int y6), .val (.int (p4 &&& (3 : Int32))), .val (.int (own_fl p4)), .val (.int y9), .val (.ref b10), .val (.ref b15), .val (.int (own_w y1)), .val (.int (own_w (own_c1 p4 y1 p2))), .unset, .unset, .unset, .unset, .unset, .unset, .unset, .unset, .unset] [(.int (own_w (own_c2 p4 y1 p3)))])) _
    refine XS.istore X15.here hx rfl (hb hby at_134) rfl (l' := #[.val (.int p1), .val (.int p2), .val (.int p3), .val (.int p4), .val (.long q5), .second, .val (.long q6), .second, .val (.int y1), .val (.int (own_c1 p4 y1 p2)), .val (.int (own_c2 p4 y1 p3)), .val (.int y6), .val (.int (p4 &&& (3 : Int32))), .val (.int (own_fl p4)), .val (.int y9), .val (.ref b10), .val (.ref b15), .val (.int (own_w y1)), .val (.int (own_w (own_c1 p4 y1 p2))), .val (.int (own_w (own_c2 p4 y1 p3))), .unset, .unset, .unset, .unset, .unset, .unset, .unset, .unset]) rfl ?_
    show Steps p.tables e below (T15.setTop (mkF m 136 #[.val (.int p1), .val (.int p2), .val (.int p3), .val (.int p4), .val (.long q5), .second, .val (.long q6), .second, .val (.int y1), .val (.int (own_c1 p4 y1 p2)), .val (.int (own_c2 p4 y1 p3)), .val (.int y6), .val (.int (p4 &&& (3 : Int32))), .val (.int (own_fl p4)), .val (.int y9), .val (.ref b10), .val (.ref b15), .val (.int (own_w y1)), .val (.int (own_w (own_c1 p4 y1 p2))), .val (.int (own_w (own_c2 p4 y1 p3))), .unset, .unset, .unset, .unset, .unset, .unset, .unset, .unset] [])) _
    refine XS.aload X15.here hx rfl (hb hby at_136) rfl rfl ?_
    show Steps p.tables e below (T15.setTop (mkF m 138 #[.val (.int p1), .val (.int p2), .val (.int p3), .val (.int p4), .val (.long q5), .second, .val (.long q6), .second, .val (.int y1), .val (.int (own_c1 p4 y1 p2)), .val (.int (own_c2 p4 y1 p3)), .val (.int y6), .val (.int (p4 &&& (3 : Int32))), .val (.int (own_fl p4)), .val (.int y9), .val (.ref b10), .val (.ref b15), .val (.int (own_w y1)), .val (.int (own_w (own_c1 p4 y1 p2))), .val (.int (own_w (own_c2 p4 y1 p3))), .unset, .unset, .unset, .unset, .unset, .unset, .unset, .unset] [(.ref b15)])) _
    refine XS.iload X15.here hx rfl (hb hby at_138) rfl ?_
    show Steps p.tables e below (T15.setTop (mkF m 140 #[.val (.int p1), .val (.int p2), .val (.int p3), .val (.int p4), .val (.long q5), .second, .val (.long q6), .second, .val (.int y1), .val (.int (own_c1 p4 y1 p2)), .val (.int (own_c2 p4 y1 p3)), .val (.int y6), .val (.int (p4 &&& (3 : Int32))), .val (.int (own_fl p4)), .val (.int y9), .val (.ref b10), .val (.ref b15), .val (.int (own_w y1)), .val (.int (own_w (own_c1 p4 y1 p2))), .val (.int (own_w (own_c2 p4 y1 p3))), .unset, .unset, .unset, .unset, .unset, .unset, .unset, .unset] [(.int y9), (.ref b15)])) _
    refine XS.lload X15.here hx rfl (hb hby at_140) rfl ?_
    show Steps p.tables e below (T15.setTop (mkF m 142 #[.val (.int p1), .val (.int p2), .val (.int p3), .val (.int p4), .val (.long q5), .second, .val (.long q6), .second, .val (.int y1), .val (.int (own_c1 p4 y1 p2)), .val (.int (own_c2 p4 y1 p3)), .val (.int y6), .val (.int (p4 &&& (3 : Int32))), .val (.int (own_fl p4)), .val (.int y9), .val (.ref b10), .val (.ref b15), .val (.int (own_w y1)), .val (.int (own_w (own_c1 p4 y1 p2))), .val (.int (own_w (own_c2 p4 y1 p3))), .unset, .unset, .unset, .unset, .unset, .unset, .unset, .unset] [(.long q5), (.int y9), (.ref b15)])) _
    refine X15.ldc2Long hx hown (mvT hZ (hw _ (List.mem_of_getElem? (i := 2) rfl))) (g := (mkF m 142 #[.val (.int p1), .val (.int p2), .val (.int p3), .val (.int p4), .val (.long q5), .second, .val (.long q6), .second, .val (.int y1), .val (.int (own_c1 p4 y1 p2)), .val (.int (own_c2 p4 y1 p3)), .val (.int y6), .val (.int (p4 &&& (3 : Int32))), .val (.int (own_fl p4)), .val (.int y9), .val (.ref b10), .val (.ref b15), .val (.int (own_w y1)), .val (.int (own_w (own_c1 p4 y1 p2))), .val (.int (own_w (own_c2 p4 y1 p3))), .unset, .unset, .unset, .unset, .unset, .unset, .unset, .unset] [(.long q5), (.int y9), (.ref b15)])) rfl (hb hby at_142) _ ?_
    show Steps p.tables e below (T15.setTop (mkF m 145 #[.val (.int p1), .val (.int p2), .val (.int p3), .val (.int p4), .val (.long q5), .second, .val (.long q6), .second, .val (.int y1), .val (.int (own_c1 p4 y1 p2)), .val (.int (own_c2 p4 y1 p3)), .val (.int y6), .val (.int (p4 &&& (3 : Int32))), .val (.int (own_fl p4)), .val (.int y9), .val (.ref b10), .val (.ref b15), .val (.int (own_w y1)), .val (.int (own_w (own_c1 p4 y1 p2))), .val (.int (own_w (own_c2 p4 y1 p3))), .unset, .unset, .unset, .unset, .unset, .unset, .unset, .unset] [(.long (-1 : Int64)), (.long q5), (.int y9), (.ref b15)])) _
    refine XS.lxor X15.here hx rfl (hb hby at_145) rfl ?_
    show Steps p.tables e below (T15.setTop (mkF m 146 #[.val (.int p1), .val (.int p2), .val (.int p3), .val (.int p4), .val (.long q5), .second, .val (.long q6), .second, .val (.int y1), .val (.int (own_c1 p4 y1 p2)), .val (.int (own_c2 p4 y1 p3)), .val (.int y6), .val (.int (p4 &&& (3 : Int32))), .val (.int (own_fl p4)), .val (.int y9), .val (.ref b10), .val (.ref b15), .val (.int (own_w y1)), .val (.int (own_w (own_c1 p4 y1 p2))), .val (.int (own_w (own_c2 p4 y1 p3))), .unset, .unset, .unset, .unset, .unset, .unset, .unset, .unset] [(.long (q5 ^^^ (-1 : Int64))), (.int y9), (.ref b15)])) _
    refine st16 _ ?_
    show Steps p.tables e below (T16.setTop (mkF m 147 #[.val (.int p1), .val (.int p2), .val (.int p3), .val (.int p4), .val (.long q5), .second, .val (.long q6), .second, .val (.int y1), .val (.int (own_c1 p4 y1 p2)), .val (.int (own_c2 p4 y1 p3)), .val (.int y6), .val (.int (p4 &&& (3 : Int32))), .val (.int (own_fl p4)), .val (.int y9), .val (.ref b10), .val (.ref b15), .val (.int (own_w y1)), .val (.int (own_w (own_c1 p4 y1 p2))), .val (.int (own_w (own_c2 p4 y1 p3))), .unset, .unset, .unset, .unset, .unset, .unset, .unset, .unset] [])) _
    refine XS.aload X16.here hx rfl (hb hby at_147) rfl rfl ?_
    show Steps p.tables e below (T16.setTop (mkF m 149 #[.val (.int p1), .val (.int p2), .val (.int p3), .val (.int p4), .val (.long q5), .second, .val (.long q6), .second, .val (.int y1), .val (.int (own_c1 p4 y1 p2)), .val (.int (own_c2 p4 y1 p3)), .val (.int y6), .val (.int (p4 &&& (3 : Int32))), .val (.int (own_fl p4)), .val (.int y9), .val (.ref b10), .val (.ref b15), .val (.int (own_w y1)), .val (.int (own_w (own_c1 p4 y1 p2))), .val (.int (own_w (own_c2 p4 y1 p3))), .unset, .unset, .unset, .unset, .unset, .unset, .unset, .unset] [(.ref b15)])) _
    refine XS.iload X16.here hx rfl (hb hby at_149) rfl ?_
    show Steps p.tables e below (T16.setTop (mkF m 151 #[.val (.int p1), .val (.int p2), .val (.int p3), .val (.int p4), .val (.long q5), .second, .val (.long q6), .second, .val (.int y1), .val (.int (own_c1 p4 y1 p2)), .val (.int (own_c2 p4 y1 p3)), .val (.int y6), .val (.int (p4 &&& (3 : Int32))), .val (.int (own_fl p4)), .val (.int y9), .val (.ref b10), .val (.ref b15), .val (.int (own_w y1)), .val (.int (own_w (own_c1 p4 y1 p2))), .val (.int (own_w (own_c2 p4 y1 p3))), .unset, .unset, .unset, .unset, .unset, .unset, .unset, .unset] [(.int (own_w y1)), (.ref b15)])) _
    refine XS.lload X16.here hx rfl (hb hby at_151) rfl ?_
    show Steps p.tables e below (T16.setTop (mkF m 153 #[.val (.int p1), .val (.int p2), .val (.int p3), .val (.int p4), .val (.long q5), .second, .val (.long q6), .second, .val (.int y1), .val (.int (own_c1 p4 y1 p2)), .val (.int (own_c2 p4 y1 p3)), .val (.int y6), .val (.int (p4 &&& (3 : Int32))), .val (.int (own_fl p4)), .val (.int y9), .val (.ref b10), .val (.ref b15), .val (.int (own_w y1)), .val (.int (own_w (own_c1 p4 y1 p2))), .val (.int (own_w (own_c2 p4 y1 p3))), .unset, .unset, .unset, .unset, .unset, .unset, .unset, .unset] [(.long q5), (.int (own_w y1)), (.ref b15)])) _
    refine st17 _ ?_
    show Steps p.tables e below (T17.setTop (mkF m 154 #[.val (.int p1), .val (.int p2), .val (.int p3), .val (.int p4), .val (.long q5), .second, .val (.long q6), .second, .val (.int y1), .val (.int (own_c1 p4 y1 p2)), .val (.int (own_c2 p4 y1 p3)), .val (.int y6), .val (.int (p4 &&& (3 : Int32))), .val (.int (own_fl p4)), .val (.int y9), .val (.ref b10), .val (.ref b15), .val (.int (own_w y1)), .val (.int (own_w (own_c1 p4 y1 p2))), .val (.int (own_w (own_c2 p4 y1 p3))), .unset, .unset, .unset, .unset, .unset, .unset, .unset, .unset] [])) _
    refine XS.aload X17.here hx rfl (hb hby at_154) rfl rfl ?_
    show Steps p.tables e below (T17.setTop (mkF m 156 #[.val (.int p1), .val (.int p2), .val (.int p3), .val (.int p4), .val (.long q5), .second, .val (.long q6), .second, .val (.int y1), .val (.int (own_c1 p4 y1 p2)), .val (.int (own_c2 p4 y1 p3)), .val (.int y6), .val (.int (p4 &&& (3 : Int32))), .val (.int (own_fl p4)), .val (.int y9), .val (.ref b10), .val (.ref b15), .val (.int (own_w y1)), .val (.int (own_w (own_c1 p4 y1 p2))), .val (.int (own_w (own_c2 p4 y1 p3))), .unset, .unset, .unset, .unset, .unset, .unset, .unset, .unset] [(.ref b15)])) _
    refine XS.iload X17.here hx rfl (hb hby at_156) rfl ?_
    show Steps p.tables e below (T17.setTop (mkF m 158 #[.val (.int p1), .val (.int p2), .val (.int p3), .val (.int p4), .val (.long q5), .second, .val (.long q6), .second, .val (.int y1), .val (.int (own_c1 p4 y1 p2)), .val (.int (own_c2 p4 y1 p3)), .val (.int y6), .val (.int (p4 &&& (3 : Int32))), .val (.int (own_fl p4)), .val (.int y9), .val (.ref b10), .val (.ref b15), .val (.int (own_w y1)), .val (.int (own_w (own_c1 p4 y1 p2))), .val (.int (own_w (own_c2 p4 y1 p3))), .unset, .unset, .unset, .unset, .unset, .unset, .unset, .unset] [(.int (own_w (own_c1 p4 y1 p2))), (.ref b15)])) _
    refine XS.lload X17.here hx rfl (hb hby at_158) rfl ?_
    show Steps p.tables e below (T17.setTop (mkF m 160 #[.val (.int p1), .val (.int p2), .val (.int p3), .val (.int p4), .val (.long q5), .second, .val (.long q6), .second, .val (.int y1), .val (.int (own_c1 p4 y1 p2)), .val (.int (own_c2 p4 y1 p3)), .val (.int y6), .val (.int (p4 &&& (3 : Int32))), .val (.int (own_fl p4)), .val (.int y9), .val (.ref b10), .val (.ref b15), .val (.int (own_w y1)), .val (.int (own_w (own_c1 p4 y1 p2))), .val (.int (own_w (own_c2 p4 y1 p3))), .unset, .unset, .unset, .unset, .unset, .unset, .unset, .unset] [(.long q6), (.int (own_w (own_c1 p4 y1 p2))), (.ref b15)])) _
    refine st18 _ ?_
    show Steps p.tables e below (T18.setTop (mkF m 161 #[.val (.int p1), .val (.int p2), .val (.int p3), .val (.int p4), .val (.long q5), .second, .val (.long q6), .second, .val (.int y1), .val (.int (own_c1 p4 y1 p2)), .val (.int (own_c2 p4 y1 p3)), .val (.int y6), .val (.int (p4 &&& (3 : Int32))), .val (.int (own_fl p4)), .val (.int y9), .val (.ref b10), .val (.ref b15), .val (.int (own_w y1)), .val (.int (own_w (own_c1 p4 y1 p2))), .val (.int (own_w (own_c2 p4 y1 p3))), .unset, .unset, .unset, .unset, .unset, .unset, .unset, .unset] [])) _
    refine XS.aload X18.here hx rfl (hb hby at_161) rfl rfl ?_
    show Steps p.tables e below (T18.setTop (mkF m 163 #[.val (.int p1), .val (.int p2), .val (.int p3), .val (.int p4), .val (.long q5), .second, .val (.long q6), .second, .val (.int y1), .val (.int (own_c1 p4 y1 p2)), .val (.int (own_c2 p4 y1 p3)), .val (.int y6), .val (.int (p4 &&& (3 : Int32))), .val (.int (own_fl p4)), .val (.int y9), .val (.ref b10), .val (.ref b15), .val (.int (own_w y1)), .val (.int (own_w (own_c1 p4 y1 p2))), .val (.int (own_w (own_c2 p4 y1 p3))), .unset, .unset, .unset, .unset, .unset, .unset, .unset, .unset] [(.ref b15)])) _
    refine XS.iload X18.here hx rfl (hb hby at_163) rfl ?_
    show Steps p.tables e below (T18.setTop (mkF m 165 #[.val (.int p1), .val (.int p2), .val (.int p3), .val (.int p4), .val (.long q5), .second, .val (.long q6), .second, .val (.int y1), .val (.int (own_c1 p4 y1 p2)), .val (.int (own_c2 p4 y1 p3)), .val (.int y6), .val (.int (p4 &&& (3 : Int32))), .val (.int (own_fl p4)), .val (.int y9), .val (.ref b10), .val (.ref b15), .val (.int (own_w y1)), .val (.int (own_w (own_c1 p4 y1 p2))), .val (.int (own_w (own_c2 p4 y1 p3))), .unset, .unset, .unset, .unset, .unset, .unset, .unset, .unset] [(.int (own_w (own_c2 p4 y1 p3))), (.ref b15)])) _
    refine XS.lload X18.here hx rfl (hb hby at_165) rfl ?_
    show Steps p.tables e below (T18.setTop (mkF m 167 #[.val (.int p1), .val (.int p2), .val (.int p3), .val (.int p4), .val (.long q5), .second, .val (.long q6), .second, .val (.int y1), .val (.int (own_c1 p4 y1 p2)), .val (.int (own_c2 p4 y1 p3)), .val (.int y6), .val (.int (p4 &&& (3 : Int32))), .val (.int (own_fl p4)), .val (.int y9), .val (.ref b10), .val (.ref b15), .val (.int (own_w y1)), .val (.int (own_w (own_c1 p4 y1 p2))), .val (.int (own_w (own_c2 p4 y1 p3))), .unset, .unset, .unset, .unset, .unset, .unset, .unset, .unset] [(.long q5), (.int (own_w (own_c2 p4 y1 p3))), (.ref b15)])) _
    refine XS.lload X18.here hx rfl (hb hby at_167) rfl ?_
    show Steps p.tables e below (T18.setTop (mkF m 169 #[.val (.int p1), .val (.int p2), .val (.int p3), .val (.int p4), .val (.long q5), .second, .val (.long q6), .second, .val (.int y1), .val (.int (own_c1 p4 y1 p2)), .val (.int (own_c2 p4 y1 p3)), .val (.int y6), .val (.int (p4 &&& (3 : Int32))), .val (.int (own_fl p4)), .val (.int y9), .val (.ref b10), .val (.ref b15), .val (.int (own_w y1)), .val (.int (own_w (own_c1 p4 y1 p2))), .val (.int (own_w (own_c2 p4 y1 p3))), .unset, .unset, .unset, .unset, .unset, .unset, .unset, .unset] [(.long q6), (.long q5), (.int (own_w (own_c2 p4 y1 p3))), (.ref b15)])) _
    refine XS.lxor X18.here hx rfl (hb hby at_169) rfl ?_
    show Steps p.tables e below (T18.setTop (mkF m 170 #[.val (.int p1), .val (.int p2), .val (.int p3), .val (.int p4), .val (.long q5), .second, .val (.long q6), .second, .val (.int y1), .val (.int (own_c1 p4 y1 p2)), .val (.int (own_c2 p4 y1 p3)), .val (.int y6), .val (.int (p4 &&& (3 : Int32))), .val (.int (own_fl p4)), .val (.int y9), .val (.ref b10), .val (.ref b15), .val (.int (own_w y1)), .val (.int (own_w (own_c1 p4 y1 p2))), .val (.int (own_w (own_c2 p4 y1 p3))), .unset, .unset, .unset, .unset, .unset, .unset, .unset, .unset] [(.long (q5 ^^^ q6)), (.int (own_w (own_c2 p4 y1 p3))), (.ref b15)])) _
    refine st19 _ ?_
    show Steps p.tables e below (T19.setTop (mkF m 171 #[.val (.int p1), .val (.int p2), .val (.int p3), .val (.int p4), .val (.long q5), .second, .val (.long q6), .second, .val (.int y1), .val (.int (own_c1 p4 y1 p2)), .val (.int (own_c2 p4 y1 p3)), .val (.int y6), .val (.int (p4 &&& (3 : Int32))), .val (.int (own_fl p4)), .val (.int y9), .val (.ref b10), .val (.ref b15), .val (.int (own_w y1)), .val (.int (own_w (own_c1 p4 y1 p2))), .val (.int (own_w (own_c2 p4 y1 p3))), .unset, .unset, .unset, .unset, .unset, .unset, .unset, .unset] [])) _
    refine XS.aload X19.here hx rfl (hb hby at_171) rfl rfl ?_
    show Steps p.tables e below (T19.setTop (mkF m 173 #[.val (.int p1), .val (.int p2), .val (.int p3), .val (.int p4), .val (.long q5), .second, .val (.long q6), .second, .val (.int y1), .val (.int (own_c1 p4 y1 p2)), .val (.int (own_c2 p4 y1 p3)), .val (.int y6), .val (.int (p4 &&& (3 : Int32))), .val (.int (own_fl p4)), .val (.int y9), .val (.ref b10), .val (.ref b15), .val (.int (own_w y1)), .val (.int (own_w (own_c1 p4 y1 p2))), .val (.int (own_w (own_c2 p4 y1 p3))), .unset, .unset, .unset, .unset, .unset, .unset, .unset, .unset] [(.ref b15)])) _
    refine XS.iload X19.here hx rfl (hb hby at_173) rfl ?_
    show Steps p.tables e below (T19.setTop (mkF m 175 #[.val (.int p1), .val (.int p2), .val (.int p3), .val (.int p4), .val (.long q5), .second, .val (.long q6), .second, .val (.int y1), .val (.int (own_c1 p4 y1 p2)), .val (.int (own_c2 p4 y1 p3)), .val (.int y6), .val (.int (p4 &&& (3 : Int32))), .val (.int (own_fl p4)), .val (.int y9), .val (.ref b10), .val (.ref b15), .val (.int (own_w y1)), .val (.int (own_w (own_c1 p4 y1 p2))), .val (.int (own_w (own_c2 p4 y1 p3))), .unset, .unset, .unset, .unset, .unset, .unset, .unset, .unset] [(.int (own_w y1)), (.ref b15)])) _
    refine X19.laload hx (j := (own_w y1)) (v := (.long (G ((own_w y1)).toNatClampNeg))) (by rw [e19]; exact Ar20.1) (State.isArrayOf_alike hZ.alike Ar20.2.1) Ar20.2.2 hin20 hat20 (g := (mkF m 175 #[.val (.int p1), .val (.int p2), .val (.int p3), .val (.int p4), .val (.long q5), .second, .val (.long q6), .second, .val (.int y1), .val (.int (own_c1 p4 y1 p2)), .val (.int (own_c2 p4 y1 p3)), .val (.int y6), .val (.int (p4 &&& (3 : Int32))), .val (.int (own_fl p4)), .val (.int y9), .val (.ref b10), .val (.ref b15), .val (.int (own_w y1)), .val (.int (own_w (own_c1 p4 y1 p2))), .val (.int (own_w (own_c2 p4 y1 p3))), .unset, .unset, .unset, .unset, .unset, .unset, .unset, .unset] [(.int (own_w y1)), (.ref b15)])) rfl rfl (hb hby at_175) _ ?_
    show Steps p.tables e below (T19.setTop (mkF m 176 #[.val (.int p1), .val (.int p2), .val (.int p3), .val (.int p4), .val (.long q5), .second, .val (.long q6), .second, .val (.int y1), .val (.int (own_c1 p4 y1 p2)), .val (.int (own_c2 p4 y1 p3)), .val (.int y6), .val (.int (p4 &&& (3 : Int32))), .val (.int (own_fl p4)), .val (.int y9), .val (.ref b10), .val (.ref b15), .val (.int (own_w y1)), .val (.int (own_w (own_c1 p4 y1 p2))), .val (.int (own_w (own_c2 p4 y1 p3))), .unset, .unset, .unset, .unset, .unset, .unset, .unset, .unset] [(.long (G ((own_w y1)).toNatClampNeg))])) _
    refine XS.lstore X19.here hx rfl (hb hby at_176) rfl (l' := #[.val (.int p1), .val (.int p2), .val (.int p3), .val (.int p4), .val (.long q5), .second, .val (.long q6), .second, .val (.int y1), .val (.int (own_c1 p4 y1 p2)), .val (.int (own_c2 p4 y1 p3)), .val (.int y6), .val (.int (p4 &&& (3 : Int32))), .val (.int (own_fl p4)), .val (.int y9), .val (.ref b10), .val (.ref b15), .val (.int (own_w y1)), .val (.int (own_w (own_c1 p4 y1 p2))), .val (.int (own_w (own_c2 p4 y1 p3))), .val (.long (G ((own_w y1)).toNatClampNeg)), .second, .unset, .unset, .unset, .unset, .unset, .unset]) rfl ?_
    show Steps p.tables e below (T19.setTop (mkF m 178 #[.val (.int p1), .val (.int p2), .val (.int p3), .val (.int p4), .val (.long q5), .second, .val (.long q6), .second, .val (.int y1), .val (.int (own_c1 p4 y1 p2)), .val (.int (own_c2 p4 y1 p3)), .val (.int y6), .val (.int (p4 &&& (3 : Int32))), .val (.int (own_fl p4)), .val (.int y9), .val (.ref b10), .val (.ref b15), .val (.int (own_w y1)), .val (.int (own_w (own_c1 p4 y1 p2))), .val (.int (own_w (own_c2 p4 y1 p3))), .val (.long (G ((own_w y1)).toNatClampNeg)), .second, .unset, .unset, .unset, .unset, .unset, .unset] [])) _
    refine XS.aload X19.here hx rfl (hb hby at_178) rfl rfl ?_
    show Steps p.tables e below (T19.setTop (mkF m 180 #[.val (.int p1), .val (.int p2), .val (.int p3), .val (.int p4), .val (.long q5), .second, .val (.long q6), .second, .val (.int y1), .val (.int (own_c1 p4 y1 p2)), .val (.int (own_c2 p4 y1 p3)), .val (.int y6), .val (.int (p4 &&& (3 : Int32))), .val (.int (own_fl p4)), .val (.int y9), .val (.ref b10), .val (.ref b15), .val (.int (own_w y1)), .val (.int (own_w (own_c1 p4 y1 p2))), .val (.int (own_w (own_c2 p4 y1 p3))), .val (.long (G ((own_w y1)).toNatClampNeg)), .second, .unset, .unset, .unset, .unset, .unset, .unset] [(.ref b15)])) _
    refine XS.iload X19.here hx rfl (hb hby at_180) rfl ?_
    show Steps p.tables e below (T19.setTop (mkF m 182 #[.val (.int p1), .val (.int p2), .val (.int p3), .val (.int p4), .val (.long q5), .second, .val (.long q6), .second, .val (.int y1), .val (.int (own_c1 p4 y1 p2)), .val (.int (own_c2 p4 y1 p3)), .val (.int y6), .val (.int (p4 &&& (3 : Int32))), .val (.int (own_fl p4)), .val (.int y9), .val (.ref b10), .val (.ref b15), .val (.int (own_w y1)), .val (.int (own_w (own_c1 p4 y1 p2))), .val (.int (own_w (own_c2 p4 y1 p3))), .val (.long (G ((own_w y1)).toNatClampNeg)), .second, .unset, .unset, .unset, .unset, .unset, .unset] [(.int (own_w (own_c1 p4 y1 p2))), (.ref b15)])) _
    refine X19.laload hx (j := (own_w (own_c1 p4 y1 p2))) (v := (.long (G ((own_w (own_c1 p4 y1 p2))).toNatClampNeg))) (by rw [e19]; exact Ar21.1) (State.isArrayOf_alike hZ.alike Ar21.2.1) Ar21.2.2 hin21 hat21 (g := (mkF m 182 #[.val (.int p1), .val (.int p2), .val (.int p3), .val (.int p4), .val (.long q5), .second, .val (.long q6), .second, .val (.int y1), .val (.int (own_c1 p4 y1 p2)), .val (.int (own_c2 p4 y1 p3)), .val (.int y6), .val (.int (p4 &&& (3 : Int32))), .val (.int (own_fl p4)), .val (.int y9), .val (.ref b10), .val (.ref b15), .val (.int (own_w y1)), .val (.int (own_w (own_c1 p4 y1 p2))), .val (.int (own_w (own_c2 p4 y1 p3))), .val (.long (G ((own_w y1)).toNatClampNeg)), .second, .unset, .unset, .unset, .unset, .unset, .unset] [(.int (own_w (own_c1 p4 y1 p2))), (.ref b15)])) rfl rfl (hb hby at_182) _ ?_
    show Steps p.tables e below (T19.setTop (mkF m 183 #[.val (.int p1), .val (.int p2), .val (.int p3), .val (.int p4), .val (.long q5), .second, .val (.long q6), .second, .val (.int y1), .val (.int (own_c1 p4 y1 p2)), .val (.int (own_c2 p4 y1 p3)), .val (.int y6), .val (.int (p4 &&& (3 : Int32))), .val (.int (own_fl p4)), .val (.int y9), .val (.ref b10), .val (.ref b15), .val (.int (own_w y1)), .val (.int (own_w (own_c1 p4 y1 p2))), .val (.int (own_w (own_c2 p4 y1 p3))), .val (.long (G ((own_w y1)).toNatClampNeg)), .second, .unset, .unset, .unset, .unset, .unset, .unset] [(.long (G ((own_w (own_c1 p4 y1 p2))).toNatClampNeg))])) _
    refine XS.lstore X19.here hx rfl (hb hby at_183) rfl (l' := #[.val (.int p1), .val (.int p2), .val (.int p3), .val (.int p4), .val (.long q5), .second, .val (.long q6), .second, .val (.int y1), .val (.int (own_c1 p4 y1 p2)), .val (.int (own_c2 p4 y1 p3)), .val (.int y6), .val (.int (p4 &&& (3 : Int32))), .val (.int (own_fl p4)), .val (.int y9), .val (.ref b10), .val (.ref b15), .val (.int (own_w y1)), .val (.int (own_w (own_c1 p4 y1 p2))), .val (.int (own_w (own_c2 p4 y1 p3))), .val (.long (G ((own_w y1)).toNatClampNeg)), .second, .val (.long (G ((own_w (own_c1 p4 y1 p2))).toNatClampNeg)), .second, .unset, .unset, .unset, .unset]) rfl ?_
    show Steps p.tables e below (T19.setTop (mkF m 185 #[.val (.int p1), .val (.int p2), .val (.int p3), .val (.int p4), .val (.long q5), .second, .val (.long q6), .second, .val (.int y1), .val (.int (own_c1 p4 y1 p2)), .val (.int (own_c2 p4 y1 p3)), .val (.int y6), .val (.int (p4 &&& (3 : Int32))), .val (.int (own_fl p4)), .val (.int y9), .val (.ref b10), .val (.ref b15), .val (.int (own_w y1)), .val (.int (own_w (own_c1 p4 y1 p2))), .val (.int (own_w (own_c2 p4 y1 p3))), .val (.long (G ((own_w y1)).toNatClampNeg)), .second, .val (.long (G ((own_w (own_c1 p4 y1 p2))).toNatClampNeg)), .second, .unset, .unset, .unset, .unset] [])) _
    refine XS.aload X19.here hx rfl (hb hby at_185) rfl rfl ?_
    show Steps p.tables e below (T19.setTop (mkF m 187 #[.val (.int p1), .val (.int p2), .val (.int p3), .val (.int p4), .val (.long q5), .second, .val (.long q6), .second, .val (.int y1), .val (.int (own_c1 p4 y1 p2)), .val (.int (own_c2 p4 y1 p3)), .val (.int y6), .val (.int (p4 &&& (3 : Int32))), .val (.int (own_fl p4)), .val (.int y9), .val (.ref b10), .val (.ref b15), .val (.int (own_w y1)), .val (.int (own_w (own_c1 p4 y1 p2))), .val (.int (own_w (own_c2 p4 y1 p3))), .val (.long (G ((own_w y1)).toNatClampNeg)), .second, .val (.long (G ((own_w (own_c1 p4 y1 p2))).toNatClampNeg)), .second, .unset, .unset, .unset, .unset] [(.ref b15)])) _
    refine XS.iload X19.here hx rfl (hb hby at_187) rfl ?_
    show Steps p.tables e below (T19.setTop (mkF m 189 #[.val (.int p1), .val (.int p2), .val (.int p3), .val (.int p4), .val (.long q5), .second, .val (.long q6), .second, .val (.int y1), .val (.int (own_c1 p4 y1 p2)), .val (.int (own_c2 p4 y1 p3)), .val (.int y6), .val (.int (p4 &&& (3 : Int32))), .val (.int (own_fl p4)), .val (.int y9), .val (.ref b10), .val (.ref b15), .val (.int (own_w y1)), .val (.int (own_w (own_c1 p4 y1 p2))), .val (.int (own_w (own_c2 p4 y1 p3))), .val (.long (G ((own_w y1)).toNatClampNeg)), .second, .val (.long (G ((own_w (own_c1 p4 y1 p2))).toNatClampNeg)), .second, .unset, .unset, .unset, .unset] [(.int (own_w (own_c2 p4 y1 p3))), (.ref b15)])) _
    refine X19.laload hx (j := (own_w (own_c2 p4 y1 p3))) (v := (.long (G ((own_w (own_c2 p4 y1 p3))).toNatClampNeg))) (by rw [e19]; exact Ar22.1) (State.isArrayOf_alike hZ.alike Ar22.2.1) Ar22.2.2 hin22 hat22 (g := (mkF m 189 #[.val (.int p1), .val (.int p2), .val (.int p3), .val (.int p4), .val (.long q5), .second, .val (.long q6), .second, .val (.int y1), .val (.int (own_c1 p4 y1 p2)), .val (.int (own_c2 p4 y1 p3)), .val (.int y6), .val (.int (p4 &&& (3 : Int32))), .val (.int (own_fl p4)), .val (.int y9), .val (.ref b10), .val (.ref b15), .val (.int (own_w y1)), .val (.int (own_w (own_c1 p4 y1 p2))), .val (.int (own_w (own_c2 p4 y1 p3))), .val (.long (G ((own_w y1)).toNatClampNeg)), .second, .val (.long (G ((own_w (own_c1 p4 y1 p2))).toNatClampNeg)), .second, .unset, .unset, .unset, .unset] [(.int (own_w (own_c2 p4 y1 p3))), (.ref b15)])) rfl rfl (hb hby at_189) _ ?_
    show Steps p.tables e below (T19.setTop (mkF m 190 #[.val (.int p1), .val (.int p2), .val (.int p3), .val (.int p4), .val (.long q5), .second, .val (.long q6), .second, .val (.int y1), .val (.int (own_c1 p4 y1 p2)), .val (.int (own_c2 p4 y1 p3)), .val (.int y6), .val (.int (p4 &&& (3 : Int32))), .val (.int (own_fl p4)), .val (.int y9), .val (.ref b10), .val (.ref b15), .val (.int (own_w y1)), .val (.int (own_w (own_c1 p4 y1 p2))), .val (.int (own_w (own_c2 p4 y1 p3))), .val (.long (G ((own_w y1)).toNatClampNeg)), .second, .val (.long (G ((own_w (own_c1 p4 y1 p2))).toNatClampNeg)), .second, .unset, .unset, .unset, .unset] [(.long (G ((own_w (own_c2 p4 y1 p3))).toNatClampNeg))])) _
    refine XS.lstore X19.here hx rfl (hb hby at_190) rfl (l' := #[.val (.int p1), .val (.int p2), .val (.int p3), .val (.int p4), .val (.long q5), .second, .val (.long q6), .second, .val (.int y1), .val (.int (own_c1 p4 y1 p2)), .val (.int (own_c2 p4 y1 p3)), .val (.int y6), .val (.int (p4 &&& (3 : Int32))), .val (.int (own_fl p4)), .val (.int y9), .val (.ref b10), .val (.ref b15), .val (.int (own_w y1)), .val (.int (own_w (own_c1 p4 y1 p2))), .val (.int (own_w (own_c2 p4 y1 p3))), .val (.long (G ((own_w y1)).toNatClampNeg)), .second, .val (.long (G ((own_w (own_c1 p4 y1 p2))).toNatClampNeg)), .second, .val (.long (G ((own_w (own_c2 p4 y1 p3))).toNatClampNeg)), .second, .unset, .unset]) rfl ?_
    show Steps p.tables e below (T19.setTop (mkF m 192 #[.val (.int p1), .val (.int p2), .val (.int p3), .val (.int p4), .val (.long q5), .second, .val (.long q6), .second, .val (.int y1), .val (.int (own_c1 p4 y1 p2)), .val (.int (own_c2 p4 y1 p3)), .val (.int y6), .val (.int (p4 &&& (3 : Int32))), .val (.int (own_fl p4)), .val (.int y9), .val (.ref b10), .val (.ref b15), .val (.int (own_w y1)), .val (.int (own_w (own_c1 p4 y1 p2))), .val (.int (own_w (own_c2 p4 y1 p3))), .val (.long (G ((own_w y1)).toNatClampNeg)), .second, .val (.long (G ((own_w (own_c1 p4 y1 p2))).toNatClampNeg)), .second, .val (.long (G ((own_w (own_c2 p4 y1 p3))).toNatClampNeg)), .second, .unset, .unset] [])) _
    refine XS.aload X19.here hx rfl (hb hby at_192) rfl rfl ?_
    show Steps p.tables e below (T19.setTop (mkF m 194 #[.val (.int p1), .val (.int p2), .val (.int p3), .val (.int p4), .val (.long q5), .second, .val (.long q6), .second, .val (.int y1), .val (.int (own_c1 p4 y1 p2)), .val (.int (own_c2 p4 y1 p3)), .val (.int y6), .val (.int (p4 &&& (3 : Int32))), .val (.int (own_fl p4)), .val (.int y9), .val (.ref b10), .val (.ref b15), .val (.int (own_w y1)), .val (.int (own_w (own_c1 p4 y1 p2))), .val (.int (own_w (own_c2 p4 y1 p3))), .val (.long (G ((own_w y1)).toNatClampNeg)), .second, .val (.long (G ((own_w (own_c1 p4 y1 p2))).toNatClampNeg)), .second, .val (.long (G ((own_w (own_c2 p4 y1 p3))).toNatClampNeg)), .second, .unset, .unset] [(.ref b15)])) _
    refine XS.iload X19.here hx rfl (hb hby at_194) rfl ?_
    show Steps p.tables e below (T19.setTop (mkF m 196 #[.val (.int p1), .val (.int p2), .val (.int p3), .val (.int p4), .val (.long q5), .second, .val (.long q6), .second, .val (.int y1), .val (.int (own_c1 p4 y1 p2)), .val (.int (own_c2 p4 y1 p3)), .val (.int y6), .val (.int (p4 &&& (3 : Int32))), .val (.int (own_fl p4)), .val (.int y9), .val (.ref b10), .val (.ref b15), .val (.int (own_w y1)), .val (.int (own_w (own_c1 p4 y1 p2))), .val (.int (own_w (own_c2 p4 y1 p3))), .val (.long (G ((own_w y1)).toNatClampNeg)), .second, .val (.long (G ((own_w (own_c1 p4 y1 p2))).toNatClampNeg)), .second, .val (.long (G ((own_w (own_c2 p4 y1 p3))).toNatClampNeg)), .second, .unset, .unset] [(.int y9), (.ref b15)])) _
    refine X19.laload hx (j := y9) (v := (.long (G (y9).toNatClampNeg))) (by rw [e19]; exact Ar23.1) (State.isArrayOf_alike hZ.alike Ar23.2.1) Ar23.2.2 hin23 hat23 (g := (mkF m 196 #[.val (.int p1), .val (.int p2), .val (.int p3), .val (.int p4), .val (.long q5), .second, .val (.long q6), .second, .val (.int y1), .val (.int (own_c1 p4 y1 p2)), .val (.int (own_c2 p4 y1 p3)), .val (.int y6), .val (.int (p4 &&& (3 : Int32))), .val (.int (own_fl p4)), .val (.int y9), .val (.ref b10), .val (.ref b15), .val (.int (own_w y1)), .val (.int (own_w (own_c1 p4 y1 p2))), .val (.int (own_w (own_c2 p4 y1 p3))), .val (.long (G ((own_w y1)).toNatClampNeg)), .second, .val (.long (G ((own_w (own_c1 p4 y1 p2))).toNatClampNeg)), .second, .val (.long (G ((own_w (own_c2 p4 y1 p3))).toNatClampNeg)), .second, .unset, .unset] [(.int y9), (.ref b15)])) rfl rfl (hb hby at_196) _ ?_
    show Steps p.tables e below (T19.setTop (mkF m 197 #[.val (.int p1), .val (.int p2), .val (.int p3), .val (.int p4), .val (.long q5), .second, .val (.long q6), .second, .val (.int y1), .val (.int (own_c1 p4 y1 p2)), .val (.int (own_c2 p4 y1 p3)), .val (.int y6), .val (.int (p4 &&& (3 : Int32))), .val (.int (own_fl p4)), .val (.int y9), .val (.ref b10), .val (.ref b15), .val (.int (own_w y1)), .val (.int (own_w (own_c1 p4 y1 p2))), .val (.int (own_w (own_c2 p4 y1 p3))), .val (.long (G ((own_w y1)).toNatClampNeg)), .second, .val (.long (G ((own_w (own_c1 p4 y1 p2))).toNatClampNeg)), .second, .val (.long (G ((own_w (own_c2 p4 y1 p3))).toNatClampNeg)), .second, .unset, .unset] [(.long (G (y9).toNatClampNeg))])) _
    refine XS.lstore X19.here hx rfl (hb hby at_197) rfl (l' := #[.val (.int p1), .val (.int p2), .val (.int p3), .val (.int p4), .val (.long q5), .second, .val (.long q6), .second, .val (.int y1), .val (.int (own_c1 p4 y1 p2)), .val (.int (own_c2 p4 y1 p3)), .val (.int y6), .val (.int (p4 &&& (3 : Int32))), .val (.int (own_fl p4)), .val (.int y9), .val (.ref b10), .val (.ref b15), .val (.int (own_w y1)), .val (.int (own_w (own_c1 p4 y1 p2))), .val (.int (own_w (own_c2 p4 y1 p3))), .val (.long (G ((own_w y1)).toNatClampNeg)), .second, .val (.long (G ((own_w (own_c1 p4 y1 p2))).toNatClampNeg)), .second, .val (.long (G ((own_w (own_c2 p4 y1 p3))).toNatClampNeg)), .second, .val (.long (G (y9).toNatClampNeg)), .second]) rfl ?_
    show Steps p.tables e below (T19.setTop (mkF m 199 #[.val (.int p1), .val (.int p2), .val (.int p3), .val (.int p4), .val (.long q5), .second, .val (.long q6), .second, .val (.int y1), .val (.int (own_c1 p4 y1 p2)), .val (.int (own_c2 p4 y1 p3)), .val (.int y6), .val (.int (p4 &&& (3 : Int32))), .val (.int (own_fl p4)), .val (.int y9), .val (.ref b10), .val (.ref b15), .val (.int (own_w y1)), .val (.int (own_w (own_c1 p4 y1 p2))), .val (.int (own_w (own_c2 p4 y1 p3))), .val (.long (G ((own_w y1)).toNatClampNeg)), .second, .val (.long (G ((own_w (own_c1 p4 y1 p2))).toNatClampNeg)), .second, .val (.long (G ((own_w (own_c2 p4 y1 p3))).toNatClampNeg)), .second, .val (.long (G (y9).toNatClampNeg)), .second] [])) _
    refine XS.aload X19.here hx rfl (hb hby at_199) rfl rfl ?_
    show Steps p.tables e below (T19.setTop (mkF m 201 #[.val (.int p1), .val (.int p2), .val (.int p3), .val (.int p4), .val (.long q5), .second, .val (.long q6), .second, .val (.int y1), .val (.int (own_c1 p4 y1 p2)), .val (.int (own_c2 p4 y1 p3)), .val (.int y6), .val (.int (p4 &&& (3 : Int32))), .val (.int (own_fl p4)), .val (.int y9), .val (.ref b10), .val (.ref b15), .val (.int (own_w y1)), .val (.int (own_w (own_c1 p4 y1 p2))), .val (.int (own_w (own_c2 p4 y1 p3))), .val (.long (G ((own_w y1)).toNatClampNeg)), .second, .val (.long (G ((own_w (own_c1 p4 y1 p2))).toNatClampNeg)), .second, .val (.long (G ((own_w (own_c2 p4 y1 p3))).toNatClampNeg)), .second, .val (.long (G (y9).toNatClampNeg)), .second] [(.ref b10)])) _
    refine XS.iload X19.here hx rfl (hb hby at_201) rfl ?_
    show Steps p.tables e below (T19.setTop (mkF m 203 #[.val (.int p1), .val (.int p2), .val (.int p3), .val (.int p4), .val (.long q5), .second, .val (.long q6), .second, .val (.int y1), .val (.int (own_c1 p4 y1 p2)), .val (.int (own_c2 p4 y1 p3)), .val (.int y6), .val (.int (p4 &&& (3 : Int32))), .val (.int (own_fl p4)), .val (.int y9), .val (.ref b10), .val (.ref b15), .val (.int (own_w y1)), .val (.int (own_w (own_c1 p4 y1 p2))), .val (.int (own_w (own_c2 p4 y1 p3))), .val (.long (G ((own_w y1)).toNatClampNeg)), .second, .val (.long (G ((own_w (own_c1 p4 y1 p2))).toNatClampNeg)), .second, .val (.long (G ((own_w (own_c2 p4 y1 p3))).toNatClampNeg)), .second, .val (.long (G (y9).toNatClampNeg)), .second] [(.int (p4 &&& (3 : Int32))), (.ref b10)])) _
    refine XS.aload X19.here hx rfl (hb hby at_203) rfl rfl ?_
    show Steps p.tables e below (T19.setTop (mkF m 205 #[.val (.int p1), .val (.int p2), .val (.int p3), .val (.int p4), .val (.long q5), .second, .val (.long q6), .second, .val (.int y1), .val (.int (own_c1 p4 y1 p2)), .val (.int (own_c2 p4 y1 p3)), .val (.int y6), .val (.int (p4 &&& (3 : Int32))), .val (.int (own_fl p4)), .val (.int y9), .val (.ref b10), .val (.ref b15), .val (.int (own_w y1)), .val (.int (own_w (own_c1 p4 y1 p2))), .val (.int (own_w (own_c2 p4 y1 p3))), .val (.long (G ((own_w y1)).toNatClampNeg)), .second, .val (.long (G ((own_w (own_c1 p4 y1 p2))).toNatClampNeg)), .second, .val (.long (G ((own_w (own_c2 p4 y1 p3))).toNatClampNeg)), .second, .val (.long (G (y9).toNatClampNeg)), .second] [(.ref b15), (.int (p4 &&& (3 : Int32))), (.ref b10)])) _
    refine XS.iload X19.here hx rfl (hb hby at_205) rfl ?_
    show Steps p.tables e below (T19.setTop (mkF m 207 #[.val (.int p1), .val (.int p2), .val (.int p3), .val (.int p4), .val (.long q5), .second, .val (.long q6), .second, .val (.int y1), .val (.int (own_c1 p4 y1 p2)), .val (.int (own_c2 p4 y1 p3)), .val (.int y6), .val (.int (p4 &&& (3 : Int32))), .val (.int (own_fl p4)), .val (.int y9), .val (.ref b10), .val (.ref b15), .val (.int (own_w y1)), .val (.int (own_w (own_c1 p4 y1 p2))), .val (.int (own_w (own_c2 p4 y1 p3))), .val (.long (G ((own_w y1)).toNatClampNeg)), .second, .val (.long (G ((own_w (own_c1 p4 y1 p2))).toNatClampNeg)), .second, .val (.long (G ((own_w (own_c2 p4 y1 p3))).toNatClampNeg)), .second, .val (.long (G (y9).toNatClampNeg)), .second] [(.int (own_fl p4)), (.ref b15), (.int (p4 &&& (3 : Int32))), (.ref b10)])) _
    refine st24 _ ?_
    show Steps p.tables e below (T24.setTop (mkF m 210 #[.val (.int p1), .val (.int p2), .val (.int p3), .val (.int p4), .val (.long q5), .second, .val (.long q6), .second, .val (.int y1), .val (.int (own_c1 p4 y1 p2)), .val (.int (own_c2 p4 y1 p3)), .val (.int y6), .val (.int (p4 &&& (3 : Int32))), .val (.int (own_fl p4)), .val (.int y9), .val (.ref b10), .val (.ref b15), .val (.int (own_w y1)), .val (.int (own_w (own_c1 p4 y1 p2))), .val (.int (own_w (own_c2 p4 y1 p3))), .val (.long (G ((own_w y1)).toNatClampNeg)), .second, .val (.long (G ((own_w (own_c1 p4 y1 p2))).toNatClampNeg)), .second, .val (.long (G ((own_w (own_c2 p4 y1 p3))).toNatClampNeg)), .second, .val (.long (G (y9).toNatClampNeg)), .second] [])) _
    refine XS.aload X24.here hx rfl (hb hby at_210) rfl rfl ?_
    show Steps p.tables e below (T24.setTop (mkF m 212 #[.val (.int p1), .val (.int p2), .val (.int p3), .val (.int p4), .val (.long q5), .second, .val (.long q6), .second, .val (.int y1), .val (.int (own_c1 p4 y1 p2)), .val (.int (own_c2 p4 y1 p3)), .val (.int y6), .val (.int (p4 &&& (3 : Int32))), .val (.int (own_fl p4)), .val (.int y9), .val (.ref b10), .val (.ref b15), .val (.int (own_w y1)), .val (.int (own_w (own_c1 p4 y1 p2))), .val (.int (own_w (own_c2 p4 y1 p3))), .val (.long (G ((own_w y1)).toNatClampNeg)), .second, .val (.long (G ((own_w (own_c1 p4 y1 p2))).toNatClampNeg)), .second, .val (.long (G ((own_w (own_c2 p4 y1 p3))).toNatClampNeg)), .second, .val (.long (G (y9).toNatClampNeg)), .second] [(.ref b15)])) _
    refine XS.iload X24.here hx rfl (hb hby at_212) rfl ?_
    show Steps p.tables e below (T24.setTop (mkF m 214 #[.val (.int p1), .val (.int p2), .val (.int p3), .val (.int p4), .val (.long q5), .second, .val (.long q6), .second, .val (.int y1), .val (.int (own_c1 p4 y1 p2)), .val (.int (own_c2 p4 y1 p3)), .val (.int y6), .val (.int (p4 &&& (3 : Int32))), .val (.int (own_fl p4)), .val (.int y9), .val (.ref b10), .val (.ref b15), .val (.int (own_w y1)), .val (.int (own_w (own_c1 p4 y1 p2))), .val (.int (own_w (own_c2 p4 y1 p3))), .val (.long (G ((own_w y1)).toNatClampNeg)), .second, .val (.long (G ((own_w (own_c1 p4 y1 p2))).toNatClampNeg)), .second, .val (.long (G ((own_w (own_c2 p4 y1 p3))).toNatClampNeg)), .second, .val (.long (G (y9).toNatClampNeg)), .second] [(.int (own_w y1)), (.ref b15)])) _
    refine X24.laload hx (j := (own_w y1)) (v := (.long ((own_wr (own_fl p4) (p4 &&& (3 : Int32)) (own_f4 y1 (own_c1 p4 y1 p2) (own_c2 p4 y1 p3) y6) G) ((own_w y1)).toNatClampNeg))) Ar25.1 (State.isArrayOf_alike hZ.alike Ar25.2.1) Ar25.2.2 hin25 hat25 (g := (mkF m 214 #[.val (.int p1), .val (.int p2), .val (.int p3), .val (.int p4), .val (.long q5), .second, .val (.long q6), .second, .val (.int y1), .val (.int (own_c1 p4 y1 p2)), .val (.int (own_c2 p4 y1 p3)), .val (.int y6), .val (.int (p4 &&& (3 : Int32))), .val (.int (own_fl p4)), .val (.int y9), .val (.ref b10), .val (.ref b15), .val (.int (own_w y1)), .val (.int (own_w (own_c1 p4 y1 p2))), .val (.int (own_w (own_c2 p4 y1 p3))), .val (.long (G ((own_w y1)).toNatClampNeg)), .second, .val (.long (G ((own_w (own_c1 p4 y1 p2))).toNatClampNeg)), .second, .val (.long (G ((own_w (own_c2 p4 y1 p3))).toNatClampNeg)), .second, .val (.long (G (y9).toNatClampNeg)), .second] [(.int (own_w y1)), (.ref b15)])) rfl rfl (hb hby at_214) _ ?_
    show Steps p.tables e below (T24.setTop (mkF m 215 #[.val (.int p1), .val (.int p2), .val (.int p3), .val (.int p4), .val (.long q5), .second, .val (.long q6), .second, .val (.int y1), .val (.int (own_c1 p4 y1 p2)), .val (.int (own_c2 p4 y1 p3)), .val (.int y6), .val (.int (p4 &&& (3 : Int32))), .val (.int (own_fl p4)), .val (.int y9), .val (.ref b10), .val (.ref b15), .val (.int (own_w y1)), .val (.int (own_w (own_c1 p4 y1 p2))), .val (.int (own_w (own_c2 p4 y1 p3))), .val (.long (G ((own_w y1)).toNatClampNeg)), .second, .val (.long (G ((own_w (own_c1 p4 y1 p2))).toNatClampNeg)), .second, .val (.long (G ((own_w (own_c2 p4 y1 p3))).toNatClampNeg)), .second, .val (.long (G (y9).toNatClampNeg)), .second] [(.long ((own_wr (own_fl p4) (p4 &&& (3 : Int32)) (own_f4 y1 (own_c1 p4 y1 p2) (own_c2 p4 y1 p3) y6) G) ((own_w y1)).toNatClampNeg))])) _
    refine XS.lload X24.here hx rfl (hb hby at_215) rfl ?_
    show Steps p.tables e below (T24.setTop (mkF m 217 #[.val (.int p1), .val (.int p2), .val (.int p3), .val (.int p4), .val (.long q5), .second, .val (.long q6), .second, .val (.int y1), .val (.int (own_c1 p4 y1 p2)), .val (.int (own_c2 p4 y1 p3)), .val (.int y6), .val (.int (p4 &&& (3 : Int32))), .val (.int (own_fl p4)), .val (.int y9), .val (.ref b10), .val (.ref b15), .val (.int (own_w y1)), .val (.int (own_w (own_c1 p4 y1 p2))), .val (.int (own_w (own_c2 p4 y1 p3))), .val (.long (G ((own_w y1)).toNatClampNeg)), .second, .val (.long (G ((own_w (own_c1 p4 y1 p2))).toNatClampNeg)), .second, .val (.long (G ((own_w (own_c2 p4 y1 p3))).toNatClampNeg)), .second, .val (.long (G (y9).toNatClampNeg)), .second] [(.long (G ((own_w y1)).toNatClampNeg)), (.long ((own_wr (own_fl p4) (p4 &&& (3 : Int32)) (own_f4 y1 (own_c1 p4 y1 p2) (own_c2 p4 y1 p3) y6) G) ((own_w y1)).toNatClampNeg))])) _
    refine XS.iload X24.here hx rfl (hb hby at_217) rfl ?_
    show Steps p.tables e below (T24.setTop (mkF m 219 #[.val (.int p1), .val (.int p2), .val (.int p3), .val (.int p4), .val (.long q5), .second, .val (.long q6), .second, .val (.int y1), .val (.int (own_c1 p4 y1 p2)), .val (.int (own_c2 p4 y1 p3)), .val (.int y6), .val (.int (p4 &&& (3 : Int32))), .val (.int (own_fl p4)), .val (.int y9), .val (.ref b10), .val (.ref b15), .val (.int (own_w y1)), .val (.int (own_w (own_c1 p4 y1 p2))), .val (.int (own_w (own_c2 p4 y1 p3))), .val (.long (G ((own_w y1)).toNatClampNeg)), .second, .val (.long (G ((own_w (own_c1 p4 y1 p2))).toNatClampNeg)), .second, .val (.long (G ((own_w (own_c2 p4 y1 p3))).toNatClampNeg)), .second, .val (.long (G (y9).toNatClampNeg)), .second] [(.int (own_w y1)), (.long (G ((own_w y1)).toNatClampNeg)), (.long ((own_wr (own_fl p4) (p4 &&& (3 : Int32)) (own_f4 y1 (own_c1 p4 y1 p2) (own_c2 p4 y1 p3) y6) G) ((own_w y1)).toNatClampNeg))])) _
    refine XS.iload X24.here hx rfl (hb hby at_219) rfl ?_
    show Steps p.tables e below (T24.setTop (mkF m 221 #[.val (.int p1), .val (.int p2), .val (.int p3), .val (.int p4), .val (.long q5), .second, .val (.long q6), .second, .val (.int y1), .val (.int (own_c1 p4 y1 p2)), .val (.int (own_c2 p4 y1 p3)), .val (.int y6), .val (.int (p4 &&& (3 : Int32))), .val (.int (own_fl p4)), .val (.int y9), .val (.ref b10), .val (.ref b15), .val (.int (own_w y1)), .val (.int (own_w (own_c1 p4 y1 p2))), .val (.int (own_w (own_c2 p4 y1 p3))), .val (.long (G ((own_w y1)).toNatClampNeg)), .second, .val (.long (G ((own_w (own_c1 p4 y1 p2))).toNatClampNeg)), .second, .val (.long (G ((own_w (own_c2 p4 y1 p3))).toNatClampNeg)), .second, .val (.long (G (y9).toNatClampNeg)), .second] [(.int y1), (.int (own_w y1)), (.long (G ((own_w y1)).toNatClampNeg)), (.long ((own_wr (own_fl p4) (p4 &&& (3 : Int32)) (own_f4 y1 (own_c1 p4 y1 p2) (own_c2 p4 y1 p3) y6) G) ((own_w y1)).toNatClampNeg))])) _
    refine XS.iload X24.here hx rfl (hb hby at_221) rfl ?_
    show Steps p.tables e below (T24.setTop (mkF m 223 #[.val (.int p1), .val (.int p2), .val (.int p3), .val (.int p4), .val (.long q5), .second, .val (.long q6), .second, .val (.int y1), .val (.int (own_c1 p4 y1 p2)), .val (.int (own_c2 p4 y1 p3)), .val (.int y6), .val (.int (p4 &&& (3 : Int32))), .val (.int (own_fl p4)), .val (.int y9), .val (.ref b10), .val (.ref b15), .val (.int (own_w y1)), .val (.int (own_w (own_c1 p4 y1 p2))), .val (.int (own_w (own_c2 p4 y1 p3))), .val (.long (G ((own_w y1)).toNatClampNeg)), .second, .val (.long (G ((own_w (own_c1 p4 y1 p2))).toNatClampNeg)), .second, .val (.long (G ((own_w (own_c2 p4 y1 p3))).toNatClampNeg)), .second, .val (.long (G (y9).toNatClampNeg)), .second] [(.int (own_c1 p4 y1 p2)), (.int y1), (.int (own_w y1)), (.long (G ((own_w y1)).toNatClampNeg)), (.long ((own_wr (own_fl p4) (p4 &&& (3 : Int32)) (own_f4 y1 (own_c1 p4 y1 p2) (own_c2 p4 y1 p3) y6) G) ((own_w y1)).toNatClampNeg))])) _
    refine XS.iload X24.here hx rfl (hb hby at_223) rfl ?_
    show Steps p.tables e below (T24.setTop (mkF m 225 #[.val (.int p1), .val (.int p2), .val (.int p3), .val (.int p4), .val (.long q5), .second, .val (.long q6), .second, .val (.int y1), .val (.int (own_c1 p4 y1 p2)), .val (.int (own_c2 p4 y1 p3)), .val (.int y6), .val (.int (p4 &&& (3 : Int32))), .val (.int (own_fl p4)), .val (.int y9), .val (.ref b10), .val (.ref b15), .val (.int (own_w y1)), .val (.int (own_w (own_c1 p4 y1 p2))), .val (.int (own_w (own_c2 p4 y1 p3))), .val (.long (G ((own_w y1)).toNatClampNeg)), .second, .val (.long (G ((own_w (own_c1 p4 y1 p2))).toNatClampNeg)), .second, .val (.long (G ((own_w (own_c2 p4 y1 p3))).toNatClampNeg)), .second, .val (.long (G (y9).toNatClampNeg)), .second] [(.int (own_c2 p4 y1 p3)), (.int (own_c1 p4 y1 p2)), (.int y1), (.int (own_w y1)), (.long (G ((own_w y1)).toNatClampNeg)), (.long ((own_wr (own_fl p4) (p4 &&& (3 : Int32)) (own_f4 y1 (own_c1 p4 y1 p2) (own_c2 p4 y1 p3) y6) G) ((own_w y1)).toNatClampNeg))])) _
    refine XS.iload X24.here hx rfl (hb hby at_225) rfl ?_
    show Steps p.tables e below (T24.setTop (mkF m 227 #[.val (.int p1), .val (.int p2), .val (.int p3), .val (.int p4), .val (.long q5), .second, .val (.long q6), .second, .val (.int y1), .val (.int (own_c1 p4 y1 p2)), .val (.int (own_c2 p4 y1 p3)), .val (.int y6), .val (.int (p4 &&& (3 : Int32))), .val (.int (own_fl p4)), .val (.int y9), .val (.ref b10), .val (.ref b15), .val (.int (own_w y1)), .val (.int (own_w (own_c1 p4 y1 p2))), .val (.int (own_w (own_c2 p4 y1 p3))), .val (.long (G ((own_w y1)).toNatClampNeg)), .second, .val (.long (G ((own_w (own_c1 p4 y1 p2))).toNatClampNeg)), .second, .val (.long (G ((own_w (own_c2 p4 y1 p3))).toNatClampNeg)), .second, .val (.long (G (y9).toNatClampNeg)), .second] [(.int (p4 &&& (3 : Int32))), (.int (own_c2 p4 y1 p3)), (.int (own_c1 p4 y1 p2)), (.int y1), (.int (own_w y1)), (.long (G ((own_w y1)).toNatClampNeg)), (.long ((own_wr (own_fl p4) (p4 &&& (3 : Int32)) (own_f4 y1 (own_c1 p4 y1 p2) (own_c2 p4 y1 p3) y6) G) ((own_w y1)).toNatClampNeg))])) _
    refine XS.iload X24.here hx rfl (hb hby at_227) rfl ?_
    show Steps p.tables e below (T24.setTop (mkF m 229 #[.val (.int p1), .val (.int p2), .val (.int p3), .val (.int p4), .val (.long q5), .second, .val (.long q6), .second, .val (.int y1), .val (.int (own_c1 p4 y1 p2)), .val (.int (own_c2 p4 y1 p3)), .val (.int y6), .val (.int (p4 &&& (3 : Int32))), .val (.int (own_fl p4)), .val (.int y9), .val (.ref b10), .val (.ref b15), .val (.int (own_w y1)), .val (.int (own_w (own_c1 p4 y1 p2))), .val (.int (own_w (own_c2 p4 y1 p3))), .val (.long (G ((own_w y1)).toNatClampNeg)), .second, .val (.long (G ((own_w (own_c1 p4 y1 p2))).toNatClampNeg)), .second, .val (.long (G ((own_w (own_c2 p4 y1 p3))).toNatClampNeg)), .second, .val (.long (G (y9).toNatClampNeg)), .second] [(.int (own_fl p4)), (.int (p4 &&& (3 : Int32))), (.int (own_c2 p4 y1 p3)), (.int (own_c1 p4 y1 p2)), (.int y1), (.int (own_w y1)), (.long (G ((own_w y1)).toNatClampNeg)), (.long ((own_wr (own_fl p4) (p4 &&& (3 : Int32)) (own_f4 y1 (own_c1 p4 y1 p2) (own_c2 p4 y1 p3) y6) G) ((own_w y1)).toNatClampNeg))])) _
    refine st26 _ ?_
    show Steps p.tables e below (T26.setTop (mkF m 232 #[.val (.int p1), .val (.int p2), .val (.int p3), .val (.int p4), .val (.long q5), .second, .val (.long q6), .second, .val (.int y1), .val (.int (own_c1 p4 y1 p2)), .val (.int (own_c2 p4 y1 p3)), .val (.int y6), .val (.int (p4 &&& (3 : Int32))), .val (.int (own_fl p4)), .val (.int y9), .val (.ref b10), .val (.ref b15), .val (.int (own_w y1)), .val (.int (own_w (own_c1 p4 y1 p2))), .val (.int (own_w (own_c2 p4 y1 p3))), .val (.long (G ((own_w y1)).toNatClampNeg)), .second, .val (.long (G ((own_w (own_c1 p4 y1 p2))).toNatClampNeg)), .second, .val (.long (G ((own_w (own_c2 p4 y1 p3))).toNatClampNeg)), .second, .val (.long (G (y9).toNatClampNeg)), .second] [(.long (own_exp (G ((own_w y1)).toNatClampNeg) (own_w y1) y1 (own_c1 p4 y1 p2) (own_c2 p4 y1 p3) (p4 &&& (3 : Int32)) (own_fl p4))), (.long ((own_wr (own_fl p4) (p4 &&& (3 : Int32)) (own_f4 y1 (own_c1 p4 y1 p2) (own_c2 p4 y1 p3) y6) G) ((own_w y1)).toNatClampNeg))])) _
    refine XS.lcmp X26.here hx rfl (hb hby at_232) rfl ?_
    show Steps p.tables e below (T26.setTop (mkF m 233 #[.val (.int p1), .val (.int p2), .val (.int p3), .val (.int p4), .val (.long q5), .second, .val (.long q6), .second, .val (.int y1), .val (.int (own_c1 p4 y1 p2)), .val (.int (own_c2 p4 y1 p3)), .val (.int y6), .val (.int (p4 &&& (3 : Int32))), .val (.int (own_fl p4)), .val (.int y9), .val (.ref b10), .val (.ref b15), .val (.int (own_w y1)), .val (.int (own_w (own_c1 p4 y1 p2))), .val (.int (own_w (own_c2 p4 y1 p3))), .val (.long (G ((own_w y1)).toNatClampNeg)), .second, .val (.long (G ((own_w (own_c1 p4 y1 p2))).toNatClampNeg)), .second, .val (.long (G ((own_w (own_c2 p4 y1 p3))).toNatClampNeg)), .second, .val (.long (G (y9).toNatClampNeg)), .second] [(.int (lcmpW ((own_wr (own_fl p4) (p4 &&& (3 : Int32)) (own_f4 y1 (own_c1 p4 y1 p2) (own_c2 p4 y1 p3) y6) G) ((own_w y1)).toNatClampNeg) (own_exp (G ((own_w y1)).toNatClampNeg) (own_w y1) y1 (own_c1 p4 y1 p2) (own_c2 p4 y1 p3) (p4 &&& (3 : Int32)) (own_fl p4))))])) _
    refine XS.ifNo X26.here hx rfl (hb hby at_233) rfl ((if0 _ _).trans (teq (((lw_eq _ _).mpr (own_main0 _ _ _ _ _ _ _ _ hcn hw0.1 hb0 hb1 hb2)) : ((lcmpW ((own_wr (own_fl p4) (p4 &&& (3 : Int32)) (own_f4 y1 (own_c1 p4 y1 p2) (own_c2 p4 y1 p3) y6) G) ((own_w y1)).toNatClampNeg) (own_exp (G ((own_w y1)).toNatClampNeg) (own_w y1) y1 (own_c1 p4 y1 p2) (own_c2 p4 y1 p3) (p4 &&& (3 : Int32)) (own_fl p4))) = (0 : Int32)))).2) ?_
    show Steps p.tables e below (T26.setTop (mkF m 236 #[.val (.int p1), .val (.int p2), .val (.int p3), .val (.int p4), .val (.long q5), .second, .val (.long q6), .second, .val (.int y1), .val (.int (own_c1 p4 y1 p2)), .val (.int (own_c2 p4 y1 p3)), .val (.int y6), .val (.int (p4 &&& (3 : Int32))), .val (.int (own_fl p4)), .val (.int y9), .val (.ref b10), .val (.ref b15), .val (.int (own_w y1)), .val (.int (own_w (own_c1 p4 y1 p2))), .val (.int (own_w (own_c2 p4 y1 p3))), .val (.long (G ((own_w y1)).toNatClampNeg)), .second, .val (.long (G ((own_w (own_c1 p4 y1 p2))).toNatClampNeg)), .second, .val (.long (G ((own_w (own_c2 p4 y1 p3))).toNatClampNeg)), .second, .val (.long (G (y9).toNatClampNeg)), .second] [])) _
    refine XS.aload X26.here hx rfl (hb hby at_236) rfl rfl ?_
    show Steps p.tables e below (T26.setTop (mkF m 238 #[.val (.int p1), .val (.int p2), .val (.int p3), .val (.int p4), .val (.long q5), .second, .val (.long q6), .second, .val (.int y1), .val (.int (own_c1 p4 y1 p2)), .val (.int (own_c2 p4 y1 p3)), .val (.int y6), .val (.int (p4 &&& (3 : Int32))), .val (.int (own_fl p4)), .val (.int y9), .val (.ref b10), .val (.ref b15), .val (.int (own_w y1)), .val (.int (own_w (own_c1 p4 y1 p2))), .val (.int (own_w (own_c2 p4 y1 p3))), .val (.long (G ((own_w y1)).toNatClampNeg)), .second, .val (.long (G ((own_w (own_c1 p4 y1 p2))).toNatClampNeg)), .second, .val (.long (G ((own_w (own_c2 p4 y1 p3))).toNatClampNeg)), .second, .val (.long (G (y9).toNatClampNeg)), .second] [(.ref b15)])) _
    refine XS.iload X26.here hx rfl (hb hby at_238) rfl ?_
    show Steps p.tables e below (T26.setTop (mkF m 240 #[.val (.int p1), .val (.int p2), .val (.int p3), .val (.int p4), .val (.long q5), .second, .val (.long q6), .second, .val (.int y1), .val (.int (own_c1 p4 y1 p2)), .val (.int (own_c2 p4 y1 p3)), .val (.int y6), .val (.int (p4 &&& (3 : Int32))), .val (.int (own_fl p4)), .val (.int y9), .val (.ref b10), .val (.ref b15), .val (.int (own_w y1)), .val (.int (own_w (own_c1 p4 y1 p2))), .val (.int (own_w (own_c2 p4 y1 p3))), .val (.long (G ((own_w y1)).toNatClampNeg)), .second, .val (.long (G ((own_w (own_c1 p4 y1 p2))).toNatClampNeg)), .second, .val (.long (G ((own_w (own_c2 p4 y1 p3))).toNatClampNeg)), .second, .val (.long (G (y9).toNatClampNeg)), .second] [(.int (own_w (own_c1 p4 y1 p2))), (.ref b15)])) _
    refine X26.laload hx (j := (own_w (own_c1 p4 y1 p2))) (v := (.long ((own_wr (own_fl p4) (p4 &&& (3 : Int32)) (own_f4 y1 (own_c1 p4 y1 p2) (own_c2 p4 y1 p3) y6) G) ((own_w (own_c1 p4 y1 p2))).toNatClampNeg))) (by rw [e26]; exact Ar27.1) (State.isArrayOf_alike hZ.alike Ar27.2.1) Ar27.2.2 hin27 hat27 (g := (mkF m 240 #[.val (.int p1), .val (.int p2), .val (.int p3), .val (.int p4), .val (.long q5), .second, .val (.long q6), .second, .val (.int y1), .val (.int (own_c1 p4 y1 p2)), .val (.int (own_c2 p4 y1 p3)), .val (.int y6), .val (.int (p4 &&& (3 : Int32))), .val (.int (own_fl p4)), .val (.int y9), .val (.ref b10), .val (.ref b15), .val (.int (own_w y1)), .val (.int (own_w (own_c1 p4 y1 p2))), .val (.int (own_w (own_c2 p4 y1 p3))), .val (.long (G ((own_w y1)).toNatClampNeg)), .second, .val (.long (G ((own_w (own_c1 p4 y1 p2))).toNatClampNeg)), .second, .val (.long (G ((own_w (own_c2 p4 y1 p3))).toNatClampNeg)), .second, .val (.long (G (y9).toNatClampNeg)), .second] [(.int (own_w (own_c1 p4 y1 p2))), (.ref b15)])) rfl rfl (hb hby at_240) _ ?_
    show Steps p.tables e below (T26.setTop (mkF m 241 #[.val (.int p1), .val (.int p2), .val (.int p3), .val (.int p4), .val (.long q5), .second, .val (.long q6), .second, .val (.int y1), .val (.int (own_c1 p4 y1 p2)), .val (.int (own_c2 p4 y1 p3)), .val (.int y6), .val (.int (p4 &&& (3 : Int32))), .val (.int (own_fl p4)), .val (.int y9), .val (.ref b10), .val (.ref b15), .val (.int (own_w y1)), .val (.int (own_w (own_c1 p4 y1 p2))), .val (.int (own_w (own_c2 p4 y1 p3))), .val (.long (G ((own_w y1)).toNatClampNeg)), .second, .val (.long (G ((own_w (own_c1 p4 y1 p2))).toNatClampNeg)), .second, .val (.long (G ((own_w (own_c2 p4 y1 p3))).toNatClampNeg)), .second, .val (.long (G (y9).toNatClampNeg)), .second] [(.long ((own_wr (own_fl p4) (p4 &&& (3 : Int32)) (own_f4 y1 (own_c1 p4 y1 p2) (own_c2 p4 y1 p3) y6) G) ((own_w (own_c1 p4 y1 p2))).toNatClampNeg))])) _
    refine XS.lload X26.here hx rfl (hb hby at_241) rfl ?_
    show Steps p.tables e below (T26.setTop (mkF m 243 #[.val (.int p1), .val (.int p2), .val (.int p3), .val (.int p4), .val (.long q5), .second, .val (.long q6), .second, .val (.int y1), .val (.int (own_c1 p4 y1 p2)), .val (.int (own_c2 p4 y1 p3)), .val (.int y6), .val (.int (p4 &&& (3 : Int32))), .val (.int (own_fl p4)), .val (.int y9), .val (.ref b10), .val (.ref b15), .val (.int (own_w y1)), .val (.int (own_w (own_c1 p4 y1 p2))), .val (.int (own_w (own_c2 p4 y1 p3))), .val (.long (G ((own_w y1)).toNatClampNeg)), .second, .val (.long (G ((own_w (own_c1 p4 y1 p2))).toNatClampNeg)), .second, .val (.long (G ((own_w (own_c2 p4 y1 p3))).toNatClampNeg)), .second, .val (.long (G (y9).toNatClampNeg)), .second] [(.long (G ((own_w (own_c1 p4 y1 p2))).toNatClampNeg)), (.long ((own_wr (own_fl p4) (p4 &&& (3 : Int32)) (own_f4 y1 (own_c1 p4 y1 p2) (own_c2 p4 y1 p3) y6) G) ((own_w (own_c1 p4 y1 p2))).toNatClampNeg))])) _
    refine XS.iload X26.here hx rfl (hb hby at_243) rfl ?_
    show Steps p.tables e below (T26.setTop (mkF m 245 #[.val (.int p1), .val (.int p2), .val (.int p3), .val (.int p4), .val (.long q5), .second, .val (.long q6), .second, .val (.int y1), .val (.int (own_c1 p4 y1 p2)), .val (.int (own_c2 p4 y1 p3)), .val (.int y6), .val (.int (p4 &&& (3 : Int32))), .val (.int (own_fl p4)), .val (.int y9), .val (.ref b10), .val (.ref b15), .val (.int (own_w y1)), .val (.int (own_w (own_c1 p4 y1 p2))), .val (.int (own_w (own_c2 p4 y1 p3))), .val (.long (G ((own_w y1)).toNatClampNeg)), .second, .val (.long (G ((own_w (own_c1 p4 y1 p2))).toNatClampNeg)), .second, .val (.long (G ((own_w (own_c2 p4 y1 p3))).toNatClampNeg)), .second, .val (.long (G (y9).toNatClampNeg)), .second] [(.int (own_w (own_c1 p4 y1 p2))), (.long (G ((own_w (own_c1 p4 y1 p2))).toNatClampNeg)), (.long ((own_wr (own_fl p4) (p4 &&& (3 : Int32)) (own_f4 y1 (own_c1 p4 y1 p2) (own_c2 p4 y1 p3) y6) G) ((own_w (own_c1 p4 y1 p2))).toNatClampNeg))])) _
    refine XS.iload X26.here hx rfl (hb hby at_245) rfl ?_
    show Steps p.tables e below (T26.setTop (mkF m 247 #[.val (.int p1), .val (.int p2), .val (.int p3), .val (.int p4), .val (.long q5), .second, .val (.long q6), .second, .val (.int y1), .val (.int (own_c1 p4 y1 p2)), .val (.int (own_c2 p4 y1 p3)), .val (.int y6), .val (.int (p4 &&& (3 : Int32))), .val (.int (own_fl p4)), .val (.int y9), .val (.ref b10), .val (.ref b15), .val (.int (own_w y1)), .val (.int (own_w (own_c1 p4 y1 p2))), .val (.int (own_w (own_c2 p4 y1 p3))), .val (.long (G ((own_w y1)).toNatClampNeg)), .second, .val (.long (G ((own_w (own_c1 p4 y1 p2))).toNatClampNeg)), .second, .val (.long (G ((own_w (own_c2 p4 y1 p3))).toNatClampNeg)), .second, .val (.long (G (y9).toNatClampNeg)), .second] [(.int y1), (.int (own_w (own_c1 p4 y1 p2))), (.long (G ((own_w (own_c1 p4 y1 p2))).toNatClampNeg)), (.long ((own_wr (own_fl p4) (p4 &&& (3 : Int32)) (own_f4 y1 (own_c1 p4 y1 p2) (own_c2 p4 y1 p3) y6) G) ((own_w (own_c1 p4 y1 p2))).toNatClampNeg))])) _
    refine XS.iload X26.here hx rfl (hb hby at_247) rfl ?_
    show Steps p.tables e below (T26.setTop (mkF m 249 #[.val (.int p1), .val (.int p2), .val (.int p3), .val (.int p4), .val (.long q5), .second, .val (.long q6), .second, .val (.int y1), .val (.int (own_c1 p4 y1 p2)), .val (.int (own_c2 p4 y1 p3)), .val (.int y6), .val (.int (p4 &&& (3 : Int32))), .val (.int (own_fl p4)), .val (.int y9), .val (.ref b10), .val (.ref b15), .val (.int (own_w y1)), .val (.int (own_w (own_c1 p4 y1 p2))), .val (.int (own_w (own_c2 p4 y1 p3))), .val (.long (G ((own_w y1)).toNatClampNeg)), .second, .val (.long (G ((own_w (own_c1 p4 y1 p2))).toNatClampNeg)), .second, .val (.long (G ((own_w (own_c2 p4 y1 p3))).toNatClampNeg)), .second, .val (.long (G (y9).toNatClampNeg)), .second] [(.int (own_c1 p4 y1 p2)), (.int y1), (.int (own_w (own_c1 p4 y1 p2))), (.long (G ((own_w (own_c1 p4 y1 p2))).toNatClampNeg)), (.long ((own_wr (own_fl p4) (p4 &&& (3 : Int32)) (own_f4 y1 (own_c1 p4 y1 p2) (own_c2 p4 y1 p3) y6) G) ((own_w (own_c1 p4 y1 p2))).toNatClampNeg))])) _
    refine XS.iload X26.here hx rfl (hb hby at_249) rfl ?_
    show Steps p.tables e below (T26.setTop (mkF m 251 #[.val (.int p1), .val (.int p2), .val (.int p3), .val (.int p4), .val (.long q5), .second, .val (.long q6), .second, .val (.int y1), .val (.int (own_c1 p4 y1 p2)), .val (.int (own_c2 p4 y1 p3)), .val (.int y6), .val (.int (p4 &&& (3 : Int32))), .val (.int (own_fl p4)), .val (.int y9), .val (.ref b10), .val (.ref b15), .val (.int (own_w y1)), .val (.int (own_w (own_c1 p4 y1 p2))), .val (.int (own_w (own_c2 p4 y1 p3))), .val (.long (G ((own_w y1)).toNatClampNeg)), .second, .val (.long (G ((own_w (own_c1 p4 y1 p2))).toNatClampNeg)), .second, .val (.long (G ((own_w (own_c2 p4 y1 p3))).toNatClampNeg)), .second, .val (.long (G (y9).toNatClampNeg)), .second] [(.int (own_c2 p4 y1 p3)), (.int (own_c1 p4 y1 p2)), (.int y1), (.int (own_w (own_c1 p4 y1 p2))), (.long (G ((own_w (own_c1 p4 y1 p2))).toNatClampNeg)), (.long ((own_wr (own_fl p4) (p4 &&& (3 : Int32)) (own_f4 y1 (own_c1 p4 y1 p2) (own_c2 p4 y1 p3) y6) G) ((own_w (own_c1 p4 y1 p2))).toNatClampNeg))])) _
    refine XS.iload X26.here hx rfl (hb hby at_251) rfl ?_
    show Steps p.tables e below (T26.setTop (mkF m 253 #[.val (.int p1), .val (.int p2), .val (.int p3), .val (.int p4), .val (.long q5), .second, .val (.long q6), .second, .val (.int y1), .val (.int (own_c1 p4 y1 p2)), .val (.int (own_c2 p4 y1 p3)), .val (.int y6), .val (.int (p4 &&& (3 : Int32))), .val (.int (own_fl p4)), .val (.int y9), .val (.ref b10), .val (.ref b15), .val (.int (own_w y1)), .val (.int (own_w (own_c1 p4 y1 p2))), .val (.int (own_w (own_c2 p4 y1 p3))), .val (.long (G ((own_w y1)).toNatClampNeg)), .second, .val (.long (G ((own_w (own_c1 p4 y1 p2))).toNatClampNeg)), .second, .val (.long (G ((own_w (own_c2 p4 y1 p3))).toNatClampNeg)), .second, .val (.long (G (y9).toNatClampNeg)), .second] [(.int (p4 &&& (3 : Int32))), (.int (own_c2 p4 y1 p3)), (.int (own_c1 p4 y1 p2)), (.int y1), (.int (own_w (own_c1 p4 y1 p2))), (.long (G ((own_w (own_c1 p4 y1 p2))).toNatClampNeg)), (.long ((own_wr (own_fl p4) (p4 &&& (3 : Int32)) (own_f4 y1 (own_c1 p4 y1 p2) (own_c2 p4 y1 p3) y6) G) ((own_w (own_c1 p4 y1 p2))).toNatClampNeg))])) _
    refine XS.iload X26.here hx rfl (hb hby at_253) rfl ?_
    show Steps p.tables e below (T26.setTop (mkF m 255 #[.val (.int p1), .val (.int p2), .val (.int p3), .val (.int p4), .val (.long q5), .second, .val (.long q6), .second, .val (.int y1), .val (.int (own_c1 p4 y1 p2)), .val (.int (own_c2 p4 y1 p3)), .val (.int y6), .val (.int (p4 &&& (3 : Int32))), .val (.int (own_fl p4)), .val (.int y9), .val (.ref b10), .val (.ref b15), .val (.int (own_w y1)), .val (.int (own_w (own_c1 p4 y1 p2))), .val (.int (own_w (own_c2 p4 y1 p3))), .val (.long (G ((own_w y1)).toNatClampNeg)), .second, .val (.long (G ((own_w (own_c1 p4 y1 p2))).toNatClampNeg)), .second, .val (.long (G ((own_w (own_c2 p4 y1 p3))).toNatClampNeg)), .second, .val (.long (G (y9).toNatClampNeg)), .second] [(.int (own_fl p4)), (.int (p4 &&& (3 : Int32))), (.int (own_c2 p4 y1 p3)), (.int (own_c1 p4 y1 p2)), (.int y1), (.int (own_w (own_c1 p4 y1 p2))), (.long (G ((own_w (own_c1 p4 y1 p2))).toNatClampNeg)), (.long ((own_wr (own_fl p4) (p4 &&& (3 : Int32)) (own_f4 y1 (own_c1 p4 y1 p2) (own_c2 p4 y1 p3) y6) G) ((own_w (own_c1 p4 y1 p2))).toNatClampNeg))])) _
    refine st28 _ ?_
    show Steps p.tables e below (T28.setTop (mkF m 258 #[.val (.int p1), .val (.int p2), .val (.int p3), .val (.int p4), .val (.long q5), .second, .val (.long q6), .second, .val (.int y1), .val (.int (own_c1 p4 y1 p2)), .val (.int (own_c2 p4 y1 p3)), .val (.int y6), .val (.int (p4 &&& (3 : Int32))), .val (.int (own_fl p4)), .val (.int y9), .val (.ref b10), .val (.ref b15), .val (.int (own_w y1)), .val (.int (own_w (own_c1 p4 y1 p2))), .val (.int (own_w (own_c2 p4 y1 p3))), .val (.long (G ((own_w y1)).toNatClampNeg)), .second, .val (.long (G ((own_w (own_c1 p4 y1 p2))).toNatClampNeg)), .second, .val (.long (G ((own_w (own_c2 p4 y1 p3))).toNatClampNeg)), .second, .val (.long (G (y9).toNatClampNeg)), .second] [(.long (own_exp (G ((own_w (own_c1 p4 y1 p2))).toNatClampNeg) (own_w (own_c1 p4 y1 p2)) y1 (own_c1 p4 y1 p2) (own_c2 p4 y1 p3) (p4 &&& (3 : Int32)) (own_fl p4))), (.long ((own_wr (own_fl p4) (p4 &&& (3 : Int32)) (own_f4 y1 (own_c1 p4 y1 p2) (own_c2 p4 y1 p3) y6) G) ((own_w (own_c1 p4 y1 p2))).toNatClampNeg))])) _
    refine XS.lcmp X28.here hx rfl (hb hby at_258) rfl ?_
    show Steps p.tables e below (T28.setTop (mkF m 259 #[.val (.int p1), .val (.int p2), .val (.int p3), .val (.int p4), .val (.long q5), .second, .val (.long q6), .second, .val (.int y1), .val (.int (own_c1 p4 y1 p2)), .val (.int (own_c2 p4 y1 p3)), .val (.int y6), .val (.int (p4 &&& (3 : Int32))), .val (.int (own_fl p4)), .val (.int y9), .val (.ref b10), .val (.ref b15), .val (.int (own_w y1)), .val (.int (own_w (own_c1 p4 y1 p2))), .val (.int (own_w (own_c2 p4 y1 p3))), .val (.long (G ((own_w y1)).toNatClampNeg)), .second, .val (.long (G ((own_w (own_c1 p4 y1 p2))).toNatClampNeg)), .second, .val (.long (G ((own_w (own_c2 p4 y1 p3))).toNatClampNeg)), .second, .val (.long (G (y9).toNatClampNeg)), .second] [(.int (lcmpW ((own_wr (own_fl p4) (p4 &&& (3 : Int32)) (own_f4 y1 (own_c1 p4 y1 p2) (own_c2 p4 y1 p3) y6) G) ((own_w (own_c1 p4 y1 p2))).toNatClampNeg) (own_exp (G ((own_w (own_c1 p4 y1 p2))).toNatClampNeg) (own_w (own_c1 p4 y1 p2)) y1 (own_c1 p4 y1 p2) (own_c2 p4 y1 p3) (p4 &&& (3 : Int32)) (own_fl p4))))])) _
    refine XS.ifNo X28.here hx rfl (hb hby at_259) rfl ((if0 _ _).trans (teq (((lw_eq _ _).mpr (own_main0 _ _ _ _ _ _ _ _ hcn hw1.1 hb0 hb1 hb2)) : ((lcmpW ((own_wr (own_fl p4) (p4 &&& (3 : Int32)) (own_f4 y1 (own_c1 p4 y1 p2) (own_c2 p4 y1 p3) y6) G) ((own_w (own_c1 p4 y1 p2))).toNatClampNeg) (own_exp (G ((own_w (own_c1 p4 y1 p2))).toNatClampNeg) (own_w (own_c1 p4 y1 p2)) y1 (own_c1 p4 y1 p2) (own_c2 p4 y1 p3) (p4 &&& (3 : Int32)) (own_fl p4))) = (0 : Int32)))).2) ?_
    show Steps p.tables e below (T28.setTop (mkF m 262 #[.val (.int p1), .val (.int p2), .val (.int p3), .val (.int p4), .val (.long q5), .second, .val (.long q6), .second, .val (.int y1), .val (.int (own_c1 p4 y1 p2)), .val (.int (own_c2 p4 y1 p3)), .val (.int y6), .val (.int (p4 &&& (3 : Int32))), .val (.int (own_fl p4)), .val (.int y9), .val (.ref b10), .val (.ref b15), .val (.int (own_w y1)), .val (.int (own_w (own_c1 p4 y1 p2))), .val (.int (own_w (own_c2 p4 y1 p3))), .val (.long (G ((own_w y1)).toNatClampNeg)), .second, .val (.long (G ((own_w (own_c1 p4 y1 p2))).toNatClampNeg)), .second, .val (.long (G ((own_w (own_c2 p4 y1 p3))).toNatClampNeg)), .second, .val (.long (G (y9).toNatClampNeg)), .second] [])) _
    refine XS.aload X28.here hx rfl (hb hby at_262) rfl rfl ?_
    show Steps p.tables e below (T28.setTop (mkF m 264 #[.val (.int p1), .val (.int p2), .val (.int p3), .val (.int p4), .val (.long q5), .second, .val (.long q6), .second, .val (.int y1), .val (.int (own_c1 p4 y1 p2)), .val (.int (own_c2 p4 y1 p3)), .val (.int y6), .val (.int (p4 &&& (3 : Int32))), .val (.int (own_fl p4)), .val (.int y9), .val (.ref b10), .val (.ref b15), .val (.int (own_w y1)), .val (.int (own_w (own_c1 p4 y1 p2))), .val (.int (own_w (own_c2 p4 y1 p3))), .val (.long (G ((own_w y1)).toNatClampNeg)), .second, .val (.long (G ((own_w (own_c1 p4 y1 p2))).toNatClampNeg)), .second, .val (.long (G ((own_w (own_c2 p4 y1 p3))).toNatClampNeg)), .second, .val (.long (G (y9).toNatClampNeg)), .second] [(.ref b15)])) _
    refine XS.iload X28.here hx rfl (hb hby at_264) rfl ?_
    show Steps p.tables e below (T28.setTop (mkF m 266 #[.val (.int p1), .val (.int p2), .val (.int p3), .val (.int p4), .val (.long q5), .second, .val (.long q6), .second, .val (.int y1), .val (.int (own_c1 p4 y1 p2)), .val (.int (own_c2 p4 y1 p3)), .val (.int y6), .val (.int (p4 &&& (3 : Int32))), .val (.int (own_fl p4)), .val (.int y9), .val (.ref b10), .val (.ref b15), .val (.int (own_w y1)), .val (.int (own_w (own_c1 p4 y1 p2))), .val (.int (own_w (own_c2 p4 y1 p3))), .val (.long (G ((own_w y1)).toNatClampNeg)), .second, .val (.long (G ((own_w (own_c1 p4 y1 p2))).toNatClampNeg)), .second, .val (.long (G ((own_w (own_c2 p4 y1 p3))).toNatClampNeg)), .second, .val (.long (G (y9).toNatClampNeg)), .second] [(.int (own_w (own_c2 p4 y1 p3))), (.ref b15)])) _
    refine X28.laload hx (j := (own_w (own_c2 p4 y1 p3))) (v := (.long ((own_wr (own_fl p4) (p4 &&& (3 : Int32)) (own_f4 y1 (own_c1 p4 y1 p2) (own_c2 p4 y1 p3) y6) G) ((own_w (own_c2 p4 y1 p3))).toNatClampNeg))) (by rw [e28]; exact Ar29.1) (State.isArrayOf_alike hZ.alike Ar29.2.1) Ar29.2.2 hin29 hat29 (g := (mkF m 266 #[.val (.int p1), .val (.int p2), .val (.int p3), .val (.int p4), .val (.long q5), .second, .val (.long q6), .second, .val (.int y1), .val (.int (own_c1 p4 y1 p2)), .val (.int (own_c2 p4 y1 p3)), .val (.int y6), .val (.int (p4 &&& (3 : Int32))), .val (.int (own_fl p4)), .val (.int y9), .val (.ref b10), .val (.ref b15), .val (.int (own_w y1)), .val (.int (own_w (own_c1 p4 y1 p2))), .val (.int (own_w (own_c2 p4 y1 p3))), .val (.long (G ((own_w y1)).toNatClampNeg)), .second, .val (.long (G ((own_w (own_c1 p4 y1 p2))).toNatClampNeg)), .second, .val (.long (G ((own_w (own_c2 p4 y1 p3))).toNatClampNeg)), .second, .val (.long (G (y9).toNatClampNeg)), .second] [(.int (own_w (own_c2 p4 y1 p3))), (.ref b15)])) rfl rfl (hb hby at_266) _ ?_
    show Steps p.tables e below (T28.setTop (mkF m 267 #[.val (.int p1), .val (.int p2), .val (.int p3), .val (.int p4), .val (.long q5), .second, .val (.long q6), .second, .val (.int y1), .val (.int (own_c1 p4 y1 p2)), .val (.int (own_c2 p4 y1 p3)), .val (.int y6), .val (.int (p4 &&& (3 : Int32))), .val (.int (own_fl p4)), .val (.int y9), .val (.ref b10), .val (.ref b15), .val (.int (own_w y1)), .val (.int (own_w (own_c1 p4 y1 p2))), .val (.int (own_w (own_c2 p4 y1 p3))), .val (.long (G ((own_w y1)).toNatClampNeg)), .second, .val (.long (G ((own_w (own_c1 p4 y1 p2))).toNatClampNeg)), .second, .val (.long (G ((own_w (own_c2 p4 y1 p3))).toNatClampNeg)), .second, .val (.long (G (y9).toNatClampNeg)), .second] [(.long ((own_wr (own_fl p4) (p4 &&& (3 : Int32)) (own_f4 y1 (own_c1 p4 y1 p2) (own_c2 p4 y1 p3) y6) G) ((own_w (own_c2 p4 y1 p3))).toNatClampNeg))])) _
    refine XS.lload X28.here hx rfl (hb hby at_267) rfl ?_
    show Steps p.tables e below (T28.setTop (mkF m 269 #[.val (.int p1), .val (.int p2), .val (.int p3), .val (.int p4), .val (.long q5), .second, .val (.long q6), .second, .val (.int y1), .val (.int (own_c1 p4 y1 p2)), .val (.int (own_c2 p4 y1 p3)), .val (.int y6), .val (.int (p4 &&& (3 : Int32))), .val (.int (own_fl p4)), .val (.int y9), .val (.ref b10), .val (.ref b15), .val (.int (own_w y1)), .val (.int (own_w (own_c1 p4 y1 p2))), .val (.int (own_w (own_c2 p4 y1 p3))), .val (.long (G ((own_w y1)).toNatClampNeg)), .second, .val (.long (G ((own_w (own_c1 p4 y1 p2))).toNatClampNeg)), .second, .val (.long (G ((own_w (own_c2 p4 y1 p3))).toNatClampNeg)), .second, .val (.long (G (y9).toNatClampNeg)), .second] [(.long (G ((own_w (own_c2 p4 y1 p3))).toNatClampNeg)), (.long ((own_wr (own_fl p4) (p4 &&& (3 : Int32)) (own_f4 y1 (own_c1 p4 y1 p2) (own_c2 p4 y1 p3) y6) G) ((own_w (own_c2 p4 y1 p3))).toNatClampNeg))])) _
    refine XS.iload X28.here hx rfl (hb hby at_269) rfl ?_
    show Steps p.tables e below (T28.setTop (mkF m 271 #[.val (.int p1), .val (.int p2), .val (.int p3), .val (.int p4), .val (.long q5), .second, .val (.long q6), .second, .val (.int y1), .val (.int (own_c1 p4 y1 p2)), .val (.int (own_c2 p4 y1 p3)), .val (.int y6), .val (.int (p4 &&& (3 : Int32))), .val (.int (own_fl p4)), .val (.int y9), .val (.ref b10), .val (.ref b15), .val (.int (own_w y1)), .val (.int (own_w (own_c1 p4 y1 p2))), .val (.int (own_w (own_c2 p4 y1 p3))), .val (.long (G ((own_w y1)).toNatClampNeg)), .second, .val (.long (G ((own_w (own_c1 p4 y1 p2))).toNatClampNeg)), .second, .val (.long (G ((own_w (own_c2 p4 y1 p3))).toNatClampNeg)), .second, .val (.long (G (y9).toNatClampNeg)), .second] [(.int (own_w (own_c2 p4 y1 p3))), (.long (G ((own_w (own_c2 p4 y1 p3))).toNatClampNeg)), (.long ((own_wr (own_fl p4) (p4 &&& (3 : Int32)) (own_f4 y1 (own_c1 p4 y1 p2) (own_c2 p4 y1 p3) y6) G) ((own_w (own_c2 p4 y1 p3))).toNatClampNeg))])) _
    refine XS.iload X28.here hx rfl (hb hby at_271) rfl ?_
    show Steps p.tables e below (T28.setTop (mkF m 273 #[.val (.int p1), .val (.int p2), .val (.int p3), .val (.int p4), .val (.long q5), .second, .val (.long q6), .second, .val (.int y1), .val (.int (own_c1 p4 y1 p2)), .val (.int (own_c2 p4 y1 p3)), .val (.int y6), .val (.int (p4 &&& (3 : Int32))), .val (.int (own_fl p4)), .val (.int y9), .val (.ref b10), .val (.ref b15), .val (.int (own_w y1)), .val (.int (own_w (own_c1 p4 y1 p2))), .val (.int (own_w (own_c2 p4 y1 p3))), .val (.long (G ((own_w y1)).toNatClampNeg)), .second, .val (.long (G ((own_w (own_c1 p4 y1 p2))).toNatClampNeg)), .second, .val (.long (G ((own_w (own_c2 p4 y1 p3))).toNatClampNeg)), .second, .val (.long (G (y9).toNatClampNeg)), .second] [(.int y1), (.int (own_w (own_c2 p4 y1 p3))), (.long (G ((own_w (own_c2 p4 y1 p3))).toNatClampNeg)), (.long ((own_wr (own_fl p4) (p4 &&& (3 : Int32)) (own_f4 y1 (own_c1 p4 y1 p2) (own_c2 p4 y1 p3) y6) G) ((own_w (own_c2 p4 y1 p3))).toNatClampNeg))])) _
    refine XS.iload X28.here hx rfl (hb hby at_273) rfl ?_
    show Steps p.tables e below (T28.setTop (mkF m 275 #[.val (.int p1), .val (.int p2), .val (.int p3), .val (.int p4), .val (.long q5), .second, .val (.long q6), .second, .val (.int y1), .val (.int (own_c1 p4 y1 p2)), .val (.int (own_c2 p4 y1 p3)), .val (.int y6), .val (.int (p4 &&& (3 : Int32))), .val (.int (own_fl p4)), .val (.int y9), .val (.ref b10), .val (.ref b15), .val (.int (own_w y1)), .val (.int (own_w (own_c1 p4 y1 p2))), .val (.int (own_w (own_c2 p4 y1 p3))), .val (.long (G ((own_w y1)).toNatClampNeg)), .second, .val (.long (G ((own_w (own_c1 p4 y1 p2))).toNatClampNeg)), .second, .val (.long (G ((own_w (own_c2 p4 y1 p3))).toNatClampNeg)), .second, .val (.long (G (y9).toNatClampNeg)), .second] [(.int (own_c1 p4 y1 p2)), (.int y1), (.int (own_w (own_c2 p4 y1 p3))), (.long (G ((own_w (own_c2 p4 y1 p3))).toNatClampNeg)), (.long ((own_wr (own_fl p4) (p4 &&& (3 : Int32)) (own_f4 y1 (own_c1 p4 y1 p2) (own_c2 p4 y1 p3) y6) G) ((own_w (own_c2 p4 y1 p3))).toNatClampNeg))])) _
    refine XS.iload X28.here hx rfl (hb hby at_275) rfl ?_
    show Steps p.tables e below (T28.setTop (mkF m 277 #[.val (.int p1), .val (.int p2), .val (.int p3), .val (.int p4), .val (.long q5), .second, .val (.long q6), .second, .val (.int y1), .val (.int (own_c1 p4 y1 p2)), .val (.int (own_c2 p4 y1 p3)), .val (.int y6), .val (.int (p4 &&& (3 : Int32))), .val (.int (own_fl p4)), .val (.int y9), .val (.ref b10), .val (.ref b15), .val (.int (own_w y1)), .val (.int (own_w (own_c1 p4 y1 p2))), .val (.int (own_w (own_c2 p4 y1 p3))), .val (.long (G ((own_w y1)).toNatClampNeg)), .second, .val (.long (G ((own_w (own_c1 p4 y1 p2))).toNatClampNeg)), .second, .val (.long (G ((own_w (own_c2 p4 y1 p3))).toNatClampNeg)), .second, .val (.long (G (y9).toNatClampNeg)), .second] [(.int (own_c2 p4 y1 p3)), (.int (own_c1 p4 y1 p2)), (.int y1), (.int (own_w (own_c2 p4 y1 p3))), (.long (G ((own_w (own_c2 p4 y1 p3))).toNatClampNeg)), (.long ((own_wr (own_fl p4) (p4 &&& (3 : Int32)) (own_f4 y1 (own_c1 p4 y1 p2) (own_c2 p4 y1 p3) y6) G) ((own_w (own_c2 p4 y1 p3))).toNatClampNeg))])) _
    refine XS.iload X28.here hx rfl (hb hby at_277) rfl ?_
    show Steps p.tables e below (T28.setTop (mkF m 279 #[.val (.int p1), .val (.int p2), .val (.int p3), .val (.int p4), .val (.long q5), .second, .val (.long q6), .second, .val (.int y1), .val (.int (own_c1 p4 y1 p2)), .val (.int (own_c2 p4 y1 p3)), .val (.int y6), .val (.int (p4 &&& (3 : Int32))), .val (.int (own_fl p4)), .val (.int y9), .val (.ref b10), .val (.ref b15), .val (.int (own_w y1)), .val (.int (own_w (own_c1 p4 y1 p2))), .val (.int (own_w (own_c2 p4 y1 p3))), .val (.long (G ((own_w y1)).toNatClampNeg)), .second, .val (.long (G ((own_w (own_c1 p4 y1 p2))).toNatClampNeg)), .second, .val (.long (G ((own_w (own_c2 p4 y1 p3))).toNatClampNeg)), .second, .val (.long (G (y9).toNatClampNeg)), .second] [(.int (p4 &&& (3 : Int32))), (.int (own_c2 p4 y1 p3)), (.int (own_c1 p4 y1 p2)), (.int y1), (.int (own_w (own_c2 p4 y1 p3))), (.long (G ((own_w (own_c2 p4 y1 p3))).toNatClampNeg)), (.long ((own_wr (own_fl p4) (p4 &&& (3 : Int32)) (own_f4 y1 (own_c1 p4 y1 p2) (own_c2 p4 y1 p3) y6) G) ((own_w (own_c2 p4 y1 p3))).toNatClampNeg))])) _
    refine XS.iload X28.here hx rfl (hb hby at_279) rfl ?_
    show Steps p.tables e below (T28.setTop (mkF m 281 #[.val (.int p1), .val (.int p2), .val (.int p3), .val (.int p4), .val (.long q5), .second, .val (.long q6), .second, .val (.int y1), .val (.int (own_c1 p4 y1 p2)), .val (.int (own_c2 p4 y1 p3)), .val (.int y6), .val (.int (p4 &&& (3 : Int32))), .val (.int (own_fl p4)), .val (.int y9), .val (.ref b10), .val (.ref b15), .val (.int (own_w y1)), .val (.int (own_w (own_c1 p4 y1 p2))), .val (.int (own_w (own_c2 p4 y1 p3))), .val (.long (G ((own_w y1)).toNatClampNeg)), .second, .val (.long (G ((own_w (own_c1 p4 y1 p2))).toNatClampNeg)), .second, .val (.long (G ((own_w (own_c2 p4 y1 p3))).toNatClampNeg)), .second, .val (.long (G (y9).toNatClampNeg)), .second] [(.int (own_fl p4)), (.int (p4 &&& (3 : Int32))), (.int (own_c2 p4 y1 p3)), (.int (own_c1 p4 y1 p2)), (.int y1), (.int (own_w (own_c2 p4 y1 p3))), (.long (G ((own_w (own_c2 p4 y1 p3))).toNatClampNeg)), (.long ((own_wr (own_fl p4) (p4 &&& (3 : Int32)) (own_f4 y1 (own_c1 p4 y1 p2) (own_c2 p4 y1 p3) y6) G) ((own_w (own_c2 p4 y1 p3))).toNatClampNeg))])) _
    refine st30 _ ?_
    show Steps p.tables e below (T30.setTop (mkF m 284 #[.val (.int p1), .val (.int p2), .val (.int p3), .val (.int p4), .val (.long q5), .second, .val (.long q6), .second, .val (.int y1), .val (.int (own_c1 p4 y1 p2)), .val (.int (own_c2 p4 y1 p3)), .val (.int y6), .val (.int (p4 &&& (3 : Int32))), .val (.int (own_fl p4)), .val (.int y9), .val (.ref b10), .val (.ref b15), .val (.int (own_w y1)), .val (.int (own_w (own_c1 p4 y1 p2))), .val (.int (own_w (own_c2 p4 y1 p3))), .val (.long (G ((own_w y1)).toNatClampNeg)), .second, .val (.long (G ((own_w (own_c1 p4 y1 p2))).toNatClampNeg)), .second, .val (.long (G ((own_w (own_c2 p4 y1 p3))).toNatClampNeg)), .second, .val (.long (G (y9).toNatClampNeg)), .second] [(.long (own_exp (G ((own_w (own_c2 p4 y1 p3))).toNatClampNeg) (own_w (own_c2 p4 y1 p3)) y1 (own_c1 p4 y1 p2) (own_c2 p4 y1 p3) (p4 &&& (3 : Int32)) (own_fl p4))), (.long ((own_wr (own_fl p4) (p4 &&& (3 : Int32)) (own_f4 y1 (own_c1 p4 y1 p2) (own_c2 p4 y1 p3) y6) G) ((own_w (own_c2 p4 y1 p3))).toNatClampNeg))])) _
    refine XS.lcmp X30.here hx rfl (hb hby at_284) rfl ?_
    show Steps p.tables e below (T30.setTop (mkF m 285 #[.val (.int p1), .val (.int p2), .val (.int p3), .val (.int p4), .val (.long q5), .second, .val (.long q6), .second, .val (.int y1), .val (.int (own_c1 p4 y1 p2)), .val (.int (own_c2 p4 y1 p3)), .val (.int y6), .val (.int (p4 &&& (3 : Int32))), .val (.int (own_fl p4)), .val (.int y9), .val (.ref b10), .val (.ref b15), .val (.int (own_w y1)), .val (.int (own_w (own_c1 p4 y1 p2))), .val (.int (own_w (own_c2 p4 y1 p3))), .val (.long (G ((own_w y1)).toNatClampNeg)), .second, .val (.long (G ((own_w (own_c1 p4 y1 p2))).toNatClampNeg)), .second, .val (.long (G ((own_w (own_c2 p4 y1 p3))).toNatClampNeg)), .second, .val (.long (G (y9).toNatClampNeg)), .second] [(.int (lcmpW ((own_wr (own_fl p4) (p4 &&& (3 : Int32)) (own_f4 y1 (own_c1 p4 y1 p2) (own_c2 p4 y1 p3) y6) G) ((own_w (own_c2 p4 y1 p3))).toNatClampNeg) (own_exp (G ((own_w (own_c2 p4 y1 p3))).toNatClampNeg) (own_w (own_c2 p4 y1 p3)) y1 (own_c1 p4 y1 p2) (own_c2 p4 y1 p3) (p4 &&& (3 : Int32)) (own_fl p4))))])) _
    refine XS.ifNo X30.here hx rfl (hb hby at_285) rfl ((if0 _ _).trans (teq (((lw_eq _ _).mpr (own_main0 _ _ _ _ _ _ _ _ hcn hw2.1 hb0 hb1 hb2)) : ((lcmpW ((own_wr (own_fl p4) (p4 &&& (3 : Int32)) (own_f4 y1 (own_c1 p4 y1 p2) (own_c2 p4 y1 p3) y6) G) ((own_w (own_c2 p4 y1 p3))).toNatClampNeg) (own_exp (G ((own_w (own_c2 p4 y1 p3))).toNatClampNeg) (own_w (own_c2 p4 y1 p3)) y1 (own_c1 p4 y1 p2) (own_c2 p4 y1 p3) (p4 &&& (3 : Int32)) (own_fl p4))) = (0 : Int32)))).2) ?_
    show Steps p.tables e below (T30.setTop (mkF m 288 #[.val (.int p1), .val (.int p2), .val (.int p3), .val (.int p4), .val (.long q5), .second, .val (.long q6), .second, .val (.int y1), .val (.int (own_c1 p4 y1 p2)), .val (.int (own_c2 p4 y1 p3)), .val (.int y6), .val (.int (p4 &&& (3 : Int32))), .val (.int (own_fl p4)), .val (.int y9), .val (.ref b10), .val (.ref b15), .val (.int (own_w y1)), .val (.int (own_w (own_c1 p4 y1 p2))), .val (.int (own_w (own_c2 p4 y1 p3))), .val (.long (G ((own_w y1)).toNatClampNeg)), .second, .val (.long (G ((own_w (own_c1 p4 y1 p2))).toNatClampNeg)), .second, .val (.long (G ((own_w (own_c2 p4 y1 p3))).toNatClampNeg)), .second, .val (.long (G (y9).toNatClampNeg)), .second] [])) _
    refine XS.aload X30.here hx rfl (hb hby at_288) rfl rfl ?_
    show Steps p.tables e below (T30.setTop (mkF m 290 #[.val (.int p1), .val (.int p2), .val (.int p3), .val (.int p4), .val (.long q5), .second, .val (.long q6), .second, .val (.int y1), .val (.int (own_c1 p4 y1 p2)), .val (.int (own_c2 p4 y1 p3)), .val (.int y6), .val (.int (p4 &&& (3 : Int32))), .val (.int (own_fl p4)), .val (.int y9), .val (.ref b10), .val (.ref b15), .val (.int (own_w y1)), .val (.int (own_w (own_c1 p4 y1 p2))), .val (.int (own_w (own_c2 p4 y1 p3))), .val (.long (G ((own_w y1)).toNatClampNeg)), .second, .val (.long (G ((own_w (own_c1 p4 y1 p2))).toNatClampNeg)), .second, .val (.long (G ((own_w (own_c2 p4 y1 p3))).toNatClampNeg)), .second, .val (.long (G (y9).toNatClampNeg)), .second] [(.ref b15)])) _
    refine XS.iload X30.here hx rfl (hb hby at_290) rfl ?_
    show Steps p.tables e below (T30.setTop (mkF m 292 #[.val (.int p1), .val (.int p2), .val (.int p3), .val (.int p4), .val (.long q5), .second, .val (.long q6), .second, .val (.int y1), .val (.int (own_c1 p4 y1 p2)), .val (.int (own_c2 p4 y1 p3)), .val (.int y6), .val (.int (p4 &&& (3 : Int32))), .val (.int (own_fl p4)), .val (.int y9), .val (.ref b10), .val (.ref b15), .val (.int (own_w y1)), .val (.int (own_w (own_c1 p4 y1 p2))), .val (.int (own_w (own_c2 p4 y1 p3))), .val (.long (G ((own_w y1)).toNatClampNeg)), .second, .val (.long (G ((own_w (own_c1 p4 y1 p2))).toNatClampNeg)), .second, .val (.long (G ((own_w (own_c2 p4 y1 p3))).toNatClampNeg)), .second, .val (.long (G (y9).toNatClampNeg)), .second] [(.int y9), (.ref b15)])) _
    refine X30.laload hx (j := y9) (v := (.long ((own_wr (own_fl p4) (p4 &&& (3 : Int32)) (own_f4 y1 (own_c1 p4 y1 p2) (own_c2 p4 y1 p3) y6) G) (y9).toNatClampNeg))) (by rw [e30]; exact Ar31.1) (State.isArrayOf_alike hZ.alike Ar31.2.1) Ar31.2.2 hin31 hat31 (g := (mkF m 292 #[.val (.int p1), .val (.int p2), .val (.int p3), .val (.int p4), .val (.long q5), .second, .val (.long q6), .second, .val (.int y1), .val (.int (own_c1 p4 y1 p2)), .val (.int (own_c2 p4 y1 p3)), .val (.int y6), .val (.int (p4 &&& (3 : Int32))), .val (.int (own_fl p4)), .val (.int y9), .val (.ref b10), .val (.ref b15), .val (.int (own_w y1)), .val (.int (own_w (own_c1 p4 y1 p2))), .val (.int (own_w (own_c2 p4 y1 p3))), .val (.long (G ((own_w y1)).toNatClampNeg)), .second, .val (.long (G ((own_w (own_c1 p4 y1 p2))).toNatClampNeg)), .second, .val (.long (G ((own_w (own_c2 p4 y1 p3))).toNatClampNeg)), .second, .val (.long (G (y9).toNatClampNeg)), .second] [(.int y9), (.ref b15)])) rfl rfl (hb hby at_292) _ ?_
    show Steps p.tables e below (T30.setTop (mkF m 293 #[.val (.int p1), .val (.int p2), .val (.int p3), .val (.int p4), .val (.long q5), .second, .val (.long q6), .second, .val (.int y1), .val (.int (own_c1 p4 y1 p2)), .val (.int (own_c2 p4 y1 p3)), .val (.int y6), .val (.int (p4 &&& (3 : Int32))), .val (.int (own_fl p4)), .val (.int y9), .val (.ref b10), .val (.ref b15), .val (.int (own_w y1)), .val (.int (own_w (own_c1 p4 y1 p2))), .val (.int (own_w (own_c2 p4 y1 p3))), .val (.long (G ((own_w y1)).toNatClampNeg)), .second, .val (.long (G ((own_w (own_c1 p4 y1 p2))).toNatClampNeg)), .second, .val (.long (G ((own_w (own_c2 p4 y1 p3))).toNatClampNeg)), .second, .val (.long (G (y9).toNatClampNeg)), .second] [(.long ((own_wr (own_fl p4) (p4 &&& (3 : Int32)) (own_f4 y1 (own_c1 p4 y1 p2) (own_c2 p4 y1 p3) y6) G) (y9).toNatClampNeg))])) _
    refine XS.lload X30.here hx rfl (hb hby at_293) rfl ?_
    show Steps p.tables e below (T30.setTop (mkF m 295 #[.val (.int p1), .val (.int p2), .val (.int p3), .val (.int p4), .val (.long q5), .second, .val (.long q6), .second, .val (.int y1), .val (.int (own_c1 p4 y1 p2)), .val (.int (own_c2 p4 y1 p3)), .val (.int y6), .val (.int (p4 &&& (3 : Int32))), .val (.int (own_fl p4)), .val (.int y9), .val (.ref b10), .val (.ref b15), .val (.int (own_w y1)), .val (.int (own_w (own_c1 p4 y1 p2))), .val (.int (own_w (own_c2 p4 y1 p3))), .val (.long (G ((own_w y1)).toNatClampNeg)), .second, .val (.long (G ((own_w (own_c1 p4 y1 p2))).toNatClampNeg)), .second, .val (.long (G ((own_w (own_c2 p4 y1 p3))).toNatClampNeg)), .second, .val (.long (G (y9).toNatClampNeg)), .second] [(.long (G (y9).toNatClampNeg)), (.long ((own_wr (own_fl p4) (p4 &&& (3 : Int32)) (own_f4 y1 (own_c1 p4 y1 p2) (own_c2 p4 y1 p3) y6) G) (y9).toNatClampNeg))])) _
    refine XS.iload X30.here hx rfl (hb hby at_295) rfl ?_
    show Steps p.tables e below (T30.setTop (mkF m 297 #[.val (.int p1), .val (.int p2), .val (.int p3), .val (.int p4), .val (.long q5), .second, .val (.long q6), .second, .val (.int y1), .val (.int (own_c1 p4 y1 p2)), .val (.int (own_c2 p4 y1 p3)), .val (.int y6), .val (.int (p4 &&& (3 : Int32))), .val (.int (own_fl p4)), .val (.int y9), .val (.ref b10), .val (.ref b15), .val (.int (own_w y1)), .val (.int (own_w (own_c1 p4 y1 p2))), .val (.int (own_w (own_c2 p4 y1 p3))), .val (.long (G ((own_w y1)).toNatClampNeg)), .second, .val (.long (G ((own_w (own_c1 p4 y1 p2))).toNatClampNeg)), .second, .val (.long (G ((own_w (own_c2 p4 y1 p3))).toNatClampNeg)), .second, .val (.long (G (y9).toNatClampNeg)), .second] [(.int y9), (.long (G (y9).toNatClampNeg)), (.long ((own_wr (own_fl p4) (p4 &&& (3 : Int32)) (own_f4 y1 (own_c1 p4 y1 p2) (own_c2 p4 y1 p3) y6) G) (y9).toNatClampNeg))])) _
    refine XS.iload X30.here hx rfl (hb hby at_297) rfl ?_
    show Steps p.tables e below (T30.setTop (mkF m 299 #[.val (.int p1), .val (.int p2), .val (.int p3), .val (.int p4), .val (.long q5), .second, .val (.long q6), .second, .val (.int y1), .val (.int (own_c1 p4 y1 p2)), .val (.int (own_c2 p4 y1 p3)), .val (.int y6), .val (.int (p4 &&& (3 : Int32))), .val (.int (own_fl p4)), .val (.int y9), .val (.ref b10), .val (.ref b15), .val (.int (own_w y1)), .val (.int (own_w (own_c1 p4 y1 p2))), .val (.int (own_w (own_c2 p4 y1 p3))), .val (.long (G ((own_w y1)).toNatClampNeg)), .second, .val (.long (G ((own_w (own_c1 p4 y1 p2))).toNatClampNeg)), .second, .val (.long (G ((own_w (own_c2 p4 y1 p3))).toNatClampNeg)), .second, .val (.long (G (y9).toNatClampNeg)), .second] [(.int y1), (.int y9), (.long (G (y9).toNatClampNeg)), (.long ((own_wr (own_fl p4) (p4 &&& (3 : Int32)) (own_f4 y1 (own_c1 p4 y1 p2) (own_c2 p4 y1 p3) y6) G) (y9).toNatClampNeg))])) _
    refine XS.iload X30.here hx rfl (hb hby at_299) rfl ?_
    show Steps p.tables e below (T30.setTop (mkF m 301 #[.val (.int p1), .val (.int p2), .val (.int p3), .val (.int p4), .val (.long q5), .second, .val (.long q6), .second, .val (.int y1), .val (.int (own_c1 p4 y1 p2)), .val (.int (own_c2 p4 y1 p3)), .val (.int y6), .val (.int (p4 &&& (3 : Int32))), .val (.int (own_fl p4)), .val (.int y9), .val (.ref b10), .val (.ref b15), .val (.int (own_w y1)), .val (.int (own_w (own_c1 p4 y1 p2))), .val (.int (own_w (own_c2 p4 y1 p3))), .val (.long (G ((own_w y1)).toNatClampNeg)), .second, .val (.long (G ((own_w (own_c1 p4 y1 p2))).toNatClampNeg)), .second, .val (.long (G ((own_w (own_c2 p4 y1 p3))).toNatClampNeg)), .second, .val (.long (G (y9).toNatClampNeg)), .second] [(.int (own_c1 p4 y1 p2)), (.int y1), (.int y9), (.long (G (y9).toNatClampNeg)), (.long ((own_wr (own_fl p4) (p4 &&& (3 : Int32)) (own_f4 y1 (own_c1 p4 y1 p2) (own_c2 p4 y1 p3) y6) G) (y9).toNatClampNeg))])) _
    refine XS.iload X30.here hx rfl (hb hby at_301) rfl ?_
    show Steps p.tables e below (T30.setTop (mkF m 303 #[.val (.int p1), .val (.int p2), .val (.int p3), .val (.int p4), .val (.long q5), .second, .val (.long q6), .second, .val (.int y1), .val (.int (own_c1 p4 y1 p2)), .val (.int (own_c2 p4 y1 p3)), .val (.int y6), .val (.int (p4 &&& (3 : Int32))), .val (.int (own_fl p4)), .val (.int y9), .val (.ref b10), .val (.ref b15), .val (.int (own_w y1)), .val (.int (own_w (own_c1 p4 y1 p2))), .val (.int (own_w (own_c2 p4 y1 p3))), .val (.long (G ((own_w y1)).toNatClampNeg)), .second, .val (.long (G ((own_w (own_c1 p4 y1 p2))).toNatClampNeg)), .second, .val (.long (G ((own_w (own_c2 p4 y1 p3))).toNatClampNeg)), .second, .val (.long (G (y9).toNatClampNeg)), .second] [(.int (own_c2 p4 y1 p3)), (.int (own_c1 p4 y1 p2)), (.int y1), (.int y9), (.long (G (y9).toNatClampNeg)), (.long ((own_wr (own_fl p4) (p4 &&& (3 : Int32)) (own_f4 y1 (own_c1 p4 y1 p2) (own_c2 p4 y1 p3) y6) G) (y9).toNatClampNeg))])) _
    refine XS.iload X30.here hx rfl (hb hby at_303) rfl ?_
    show Steps p.tables e below (T30.setTop (mkF m 305 #[.val (.int p1), .val (.int p2), .val (.int p3), .val (.int p4), .val (.long q5), .second, .val (.long q6), .second, .val (.int y1), .val (.int (own_c1 p4 y1 p2)), .val (.int (own_c2 p4 y1 p3)), .val (.int y6), .val (.int (p4 &&& (3 : Int32))), .val (.int (own_fl p4)), .val (.int y9), .val (.ref b10), .val (.ref b15), .val (.int (own_w y1)), .val (.int (own_w (own_c1 p4 y1 p2))), .val (.int (own_w (own_c2 p4 y1 p3))), .val (.long (G ((own_w y1)).toNatClampNeg)), .second, .val (.long (G ((own_w (own_c1 p4 y1 p2))).toNatClampNeg)), .second, .val (.long (G ((own_w (own_c2 p4 y1 p3))).toNatClampNeg)), .second, .val (.long (G (y9).toNatClampNeg)), .second] [(.int (p4 &&& (3 : Int32))), (.int (own_c2 p4 y1 p3)), (.int (own_c1 p4 y1 p2)), (.int y1), (.int y9), (.long (G (y9).toNatClampNeg)), (.long ((own_wr (own_fl p4) (p4 &&& (3 : Int32)) (own_f4 y1 (own_c1 p4 y1 p2) (own_c2 p4 y1 p3) y6) G) (y9).toNatClampNeg))])) _
    refine XS.iload X30.here hx rfl (hb hby at_305) rfl ?_
    show Steps p.tables e below (T30.setTop (mkF m 307 #[.val (.int p1), .val (.int p2), .val (.int p3), .val (.int p4), .val (.long q5), .second, .val (.long q6), .second, .val (.int y1), .val (.int (own_c1 p4 y1 p2)), .val (.int (own_c2 p4 y1 p3)), .val (.int y6), .val (.int (p4 &&& (3 : Int32))), .val (.int (own_fl p4)), .val (.int y9), .val (.ref b10), .val (.ref b15), .val (.int (own_w y1)), .val (.int (own_w (own_c1 p4 y1 p2))), .val (.int (own_w (own_c2 p4 y1 p3))), .val (.long (G ((own_w y1)).toNatClampNeg)), .second, .val (.long (G ((own_w (own_c1 p4 y1 p2))).toNatClampNeg)), .second, .val (.long (G ((own_w (own_c2 p4 y1 p3))).toNatClampNeg)), .second, .val (.long (G (y9).toNatClampNeg)), .second] [(.int (own_fl p4)), (.int (p4 &&& (3 : Int32))), (.int (own_c2 p4 y1 p3)), (.int (own_c1 p4 y1 p2)), (.int y1), (.int y9), (.long (G (y9).toNatClampNeg)), (.long ((own_wr (own_fl p4) (p4 &&& (3 : Int32)) (own_f4 y1 (own_c1 p4 y1 p2) (own_c2 p4 y1 p3) y6) G) (y9).toNatClampNeg))])) _
    refine st32 _ ?_
    show Steps p.tables e below (T32.setTop (mkF m 310 #[.val (.int p1), .val (.int p2), .val (.int p3), .val (.int p4), .val (.long q5), .second, .val (.long q6), .second, .val (.int y1), .val (.int (own_c1 p4 y1 p2)), .val (.int (own_c2 p4 y1 p3)), .val (.int y6), .val (.int (p4 &&& (3 : Int32))), .val (.int (own_fl p4)), .val (.int y9), .val (.ref b10), .val (.ref b15), .val (.int (own_w y1)), .val (.int (own_w (own_c1 p4 y1 p2))), .val (.int (own_w (own_c2 p4 y1 p3))), .val (.long (G ((own_w y1)).toNatClampNeg)), .second, .val (.long (G ((own_w (own_c1 p4 y1 p2))).toNatClampNeg)), .second, .val (.long (G ((own_w (own_c2 p4 y1 p3))).toNatClampNeg)), .second, .val (.long (G (y9).toNatClampNeg)), .second] [(.long (own_exp (G (y9).toNatClampNeg) y9 y1 (own_c1 p4 y1 p2) (own_c2 p4 y1 p3) (p4 &&& (3 : Int32)) (own_fl p4))), (.long ((own_wr (own_fl p4) (p4 &&& (3 : Int32)) (own_f4 y1 (own_c1 p4 y1 p2) (own_c2 p4 y1 p3) y6) G) (y9).toNatClampNeg))])) _
    refine XS.lcmp X32.here hx rfl (hb hby at_310) rfl ?_
    show Steps p.tables e below (T32.setTop (mkF m 311 #[.val (.int p1), .val (.int p2), .val (.int p3), .val (.int p4), .val (.long q5), .second, .val (.long q6), .second, .val (.int y1), .val (.int (own_c1 p4 y1 p2)), .val (.int (own_c2 p4 y1 p3)), .val (.int y6), .val (.int (p4 &&& (3 : Int32))), .val (.int (own_fl p4)), .val (.int y9), .val (.ref b10), .val (.ref b15), .val (.int (own_w y1)), .val (.int (own_w (own_c1 p4 y1 p2))), .val (.int (own_w (own_c2 p4 y1 p3))), .val (.long (G ((own_w y1)).toNatClampNeg)), .second, .val (.long (G ((own_w (own_c1 p4 y1 p2))).toNatClampNeg)), .second, .val (.long (G ((own_w (own_c2 p4 y1 p3))).toNatClampNeg)), .second, .val (.long (G (y9).toNatClampNeg)), .second] [(.int (lcmpW ((own_wr (own_fl p4) (p4 &&& (3 : Int32)) (own_f4 y1 (own_c1 p4 y1 p2) (own_c2 p4 y1 p3) y6) G) (y9).toNatClampNeg) (own_exp (G (y9).toNatClampNeg) y9 y1 (own_c1 p4 y1 p2) (own_c2 p4 y1 p3) (p4 &&& (3 : Int32)) (own_fl p4))))])) _
    refine XS.ifNo X32.here hx rfl (hb hby at_311) rfl ((if0 _ _).trans (teq (((lw_eq _ _).mpr (own_main0 _ _ _ _ _ _ _ _ hcn hpx.1 hb0 hb1 hb2)) : ((lcmpW ((own_wr (own_fl p4) (p4 &&& (3 : Int32)) (own_f4 y1 (own_c1 p4 y1 p2) (own_c2 p4 y1 p3) y6) G) (y9).toNatClampNeg) (own_exp (G (y9).toNatClampNeg) y9 y1 (own_c1 p4 y1 p2) (own_c2 p4 y1 p3) (p4 &&& (3 : Int32)) (own_fl p4))) = (0 : Int32)))).2) ?_
    show Steps p.tables e below (T32.setTop (mkF m 314 #[.val (.int p1), .val (.int p2), .val (.int p3), .val (.int p4), .val (.long q5), .second, .val (.long q6), .second, .val (.int y1), .val (.int (own_c1 p4 y1 p2)), .val (.int (own_c2 p4 y1 p3)), .val (.int y6), .val (.int (p4 &&& (3 : Int32))), .val (.int (own_fl p4)), .val (.int y9), .val (.ref b10), .val (.ref b15), .val (.int (own_w y1)), .val (.int (own_w (own_c1 p4 y1 p2))), .val (.int (own_w (own_c2 p4 y1 p3))), .val (.long (G ((own_w y1)).toNatClampNeg)), .second, .val (.long (G ((own_w (own_c1 p4 y1 p2))).toNatClampNeg)), .second, .val (.long (G ((own_w (own_c2 p4 y1 p3))).toNatClampNeg)), .second, .val (.long (G (y9).toNatClampNeg)), .second] [])) _
    refine XS.aload X32.here hx rfl (hb hby at_314) rfl rfl ?_
    show Steps p.tables e below (T32.setTop (mkF m 316 #[.val (.int p1), .val (.int p2), .val (.int p3), .val (.int p4), .val (.long q5), .second, .val (.long q6), .second, .val (.int y1), .val (.int (own_c1 p4 y1 p2)), .val (.int (own_c2 p4 y1 p3)), .val (.int y6), .val (.int (p4 &&& (3 : Int32))), .val (.int (own_fl p4)), .val (.int y9), .val (.ref b10), .val (.ref b15), .val (.int (own_w y1)), .val (.int (own_w (own_c1 p4 y1 p2))), .val (.int (own_w (own_c2 p4 y1 p3))), .val (.long (G ((own_w y1)).toNatClampNeg)), .second, .val (.long (G ((own_w (own_c1 p4 y1 p2))).toNatClampNeg)), .second, .val (.long (G ((own_w (own_c2 p4 y1 p3))).toNatClampNeg)), .second, .val (.long (G (y9).toNatClampNeg)), .second] [(.ref b10)])) _
    refine XS.iconst X32.here hx rfl (hb hby at_316) ?_
    show Steps p.tables e below (T32.setTop (mkF m 317 #[.val (.int p1), .val (.int p2), .val (.int p3), .val (.int p4), .val (.long q5), .second, .val (.long q6), .second, .val (.int y1), .val (.int (own_c1 p4 y1 p2)), .val (.int (own_c2 p4 y1 p3)), .val (.int y6), .val (.int (p4 &&& (3 : Int32))), .val (.int (own_fl p4)), .val (.int y9), .val (.ref b10), .val (.ref b15), .val (.int (own_w y1)), .val (.int (own_w (own_c1 p4 y1 p2))), .val (.int (own_w (own_c2 p4 y1 p3))), .val (.long (G ((own_w y1)).toNatClampNeg)), .second, .val (.long (G ((own_w (own_c1 p4 y1 p2))).toNatClampNeg)), .second, .val (.long (G ((own_w (own_c2 p4 y1 p3))).toNatClampNeg)), .second, .val (.long (G (y9).toNatClampNeg)), .second] [(.int (0 : Int32)), (.ref b10)])) _
    refine X32.caload hx (j := (0 : Int32)) (v := (.int y1)) (by rw [e32]; exact Ar33.1) (State.isArrayOf_alike hZ.alike Ar33.2.1) Ar33.2.2 hin33 hat33 (g := (mkF m 317 #[.val (.int p1), .val (.int p2), .val (.int p3), .val (.int p4), .val (.long q5), .second, .val (.long q6), .second, .val (.int y1), .val (.int (own_c1 p4 y1 p2)), .val (.int (own_c2 p4 y1 p3)), .val (.int y6), .val (.int (p4 &&& (3 : Int32))), .val (.int (own_fl p4)), .val (.int y9), .val (.ref b10), .val (.ref b15), .val (.int (own_w y1)), .val (.int (own_w (own_c1 p4 y1 p2))), .val (.int (own_w (own_c2 p4 y1 p3))), .val (.long (G ((own_w y1)).toNatClampNeg)), .second, .val (.long (G ((own_w (own_c1 p4 y1 p2))).toNatClampNeg)), .second, .val (.long (G ((own_w (own_c2 p4 y1 p3))).toNatClampNeg)), .second, .val (.long (G (y9).toNatClampNeg)), .second] [(.int (0 : Int32)), (.ref b10)])) rfl rfl (hb hby at_317) _ ?_
    show Steps p.tables e below (T32.setTop (mkF m 318 #[.val (.int p1), .val (.int p2), .val (.int p3), .val (.int p4), .val (.long q5), .second, .val (.long q6), .second, .val (.int y1), .val (.int (own_c1 p4 y1 p2)), .val (.int (own_c2 p4 y1 p3)), .val (.int y6), .val (.int (p4 &&& (3 : Int32))), .val (.int (own_fl p4)), .val (.int y9), .val (.ref b10), .val (.ref b15), .val (.int (own_w y1)), .val (.int (own_w (own_c1 p4 y1 p2))), .val (.int (own_w (own_c2 p4 y1 p3))), .val (.long (G ((own_w y1)).toNatClampNeg)), .second, .val (.long (G ((own_w (own_c1 p4 y1 p2))).toNatClampNeg)), .second, .val (.long (G ((own_w (own_c2 p4 y1 p3))).toNatClampNeg)), .second, .val (.long (G (y9).toNatClampNeg)), .second] [(.int y1)])) _
    refine XS.iload X32.here hx rfl (hb hby at_318) rfl ?_
    show Steps p.tables e below (T32.setTop (mkF m 320 #[.val (.int p1), .val (.int p2), .val (.int p3), .val (.int p4), .val (.long q5), .second, .val (.long q6), .second, .val (.int y1), .val (.int (own_c1 p4 y1 p2)), .val (.int (own_c2 p4 y1 p3)), .val (.int y6), .val (.int (p4 &&& (3 : Int32))), .val (.int (own_fl p4)), .val (.int y9), .val (.ref b10), .val (.ref b15), .val (.int (own_w y1)), .val (.int (own_w (own_c1 p4 y1 p2))), .val (.int (own_w (own_c2 p4 y1 p3))), .val (.long (G ((own_w y1)).toNatClampNeg)), .second, .val (.long (G ((own_w (own_c1 p4 y1 p2))).toNatClampNeg)), .second, .val (.long (G ((own_w (own_c2 p4 y1 p3))).toNatClampNeg)), .second, .val (.long (G (y9).toNatClampNeg)), .second] [(.int y1), (.int y1)])) _
    refine XS.icmpNo X32.here hx rfl (hb hby at_320) rfl (teq (rfl : (y1 = y1))).2 ?_
    show Steps p.tables e below (T32.setTop (mkF m 323 #[.val (.int p1), .val (.int p2), .val (.int p3), .val (.int p4), .val (.long q5), .second, .val (.long q6), .second, .val (.int y1), .val (.int (own_c1 p4 y1 p2)), .val (.int (own_c2 p4 y1 p3)), .val (.int y6), .val (.int (p4 &&& (3 : Int32))), .val (.int (own_fl p4)), .val (.int y9), .val (.ref b10), .val (.ref b15), .val (.int (own_w y1)), .val (.int (own_w (own_c1 p4 y1 p2))), .val (.int (own_w (own_c2 p4 y1 p3))), .val (.long (G ((own_w y1)).toNatClampNeg)), .second, .val (.long (G ((own_w (own_c1 p4 y1 p2))).toNatClampNeg)), .second, .val (.long (G ((own_w (own_c2 p4 y1 p3))).toNatClampNeg)), .second, .val (.long (G (y9).toNatClampNeg)), .second] [])) _
    refine XS.aload X32.here hx rfl (hb hby at_323) rfl rfl ?_
    show Steps p.tables e below (T32.setTop (mkF m 325 #[.val (.int p1), .val (.int p2), .val (.int p3), .val (.int p4), .val (.long q5), .second, .val (.long q6), .second, .val (.int y1), .val (.int (own_c1 p4 y1 p2)), .val (.int (own_c2 p4 y1 p3)), .val (.int y6), .val (.int (p4 &&& (3 : Int32))), .val (.int (own_fl p4)), .val (.int y9), .val (.ref b10), .val (.ref b15), .val (.int (own_w y1)), .val (.int (own_w (own_c1 p4 y1 p2))), .val (.int (own_w (own_c2 p4 y1 p3))), .val (.long (G ((own_w y1)).toNatClampNeg)), .second, .val (.long (G ((own_w (own_c1 p4 y1 p2))).toNatClampNeg)), .second, .val (.long (G ((own_w (own_c2 p4 y1 p3))).toNatClampNeg)), .second, .val (.long (G (y9).toNatClampNeg)), .second] [(.ref b10)])) _
    refine XS.iconst X32.here hx rfl (hb hby at_325) ?_
    show Steps p.tables e below (T32.setTop (mkF m 326 #[.val (.int p1), .val (.int p2), .val (.int p3), .val (.int p4), .val (.long q5), .second, .val (.long q6), .second, .val (.int y1), .val (.int (own_c1 p4 y1 p2)), .val (.int (own_c2 p4 y1 p3)), .val (.int y6), .val (.int (p4 &&& (3 : Int32))), .val (.int (own_fl p4)), .val (.int y9), .val (.ref b10), .val (.ref b15), .val (.int (own_w y1)), .val (.int (own_w (own_c1 p4 y1 p2))), .val (.int (own_w (own_c2 p4 y1 p3))), .val (.long (G ((own_w y1)).toNatClampNeg)), .second, .val (.long (G ((own_w (own_c1 p4 y1 p2))).toNatClampNeg)), .second, .val (.long (G ((own_w (own_c2 p4 y1 p3))).toNatClampNeg)), .second, .val (.long (G (y9).toNatClampNeg)), .second] [(.int (1 : Int32)), (.ref b10)])) _
    refine X32.caload hx (j := (1 : Int32)) (v := (.int (own_c1 p4 y1 p2))) (by rw [e32]; exact Ar34.1) (State.isArrayOf_alike hZ.alike Ar34.2.1) Ar34.2.2 hin34 hat34 (g := (mkF m 326 #[.val (.int p1), .val (.int p2), .val (.int p3), .val (.int p4), .val (.long q5), .second, .val (.long q6), .second, .val (.int y1), .val (.int (own_c1 p4 y1 p2)), .val (.int (own_c2 p4 y1 p3)), .val (.int y6), .val (.int (p4 &&& (3 : Int32))), .val (.int (own_fl p4)), .val (.int y9), .val (.ref b10), .val (.ref b15), .val (.int (own_w y1)), .val (.int (own_w (own_c1 p4 y1 p2))), .val (.int (own_w (own_c2 p4 y1 p3))), .val (.long (G ((own_w y1)).toNatClampNeg)), .second, .val (.long (G ((own_w (own_c1 p4 y1 p2))).toNatClampNeg)), .second, .val (.long (G ((own_w (own_c2 p4 y1 p3))).toNatClampNeg)), .second, .val (.long (G (y9).toNatClampNeg)), .second] [(.int (1 : Int32)), (.ref b10)])) rfl rfl (hb hby at_326) _ ?_
    show Steps p.tables e below (T32.setTop (mkF m 327 #[.val (.int p1), .val (.int p2), .val (.int p3), .val (.int p4), .val (.long q5), .second, .val (.long q6), .second, .val (.int y1), .val (.int (own_c1 p4 y1 p2)), .val (.int (own_c2 p4 y1 p3)), .val (.int y6), .val (.int (p4 &&& (3 : Int32))), .val (.int (own_fl p4)), .val (.int y9), .val (.ref b10), .val (.ref b15), .val (.int (own_w y1)), .val (.int (own_w (own_c1 p4 y1 p2))), .val (.int (own_w (own_c2 p4 y1 p3))), .val (.long (G ((own_w y1)).toNatClampNeg)), .second, .val (.long (G ((own_w (own_c1 p4 y1 p2))).toNatClampNeg)), .second, .val (.long (G ((own_w (own_c2 p4 y1 p3))).toNatClampNeg)), .second, .val (.long (G (y9).toNatClampNeg)), .second] [(.int (own_c1 p4 y1 p2))])) _
    refine XS.iload X32.here hx rfl (hb hby at_327) rfl ?_
    show Steps p.tables e below (T32.setTop (mkF m 329 #[.val (.int p1), .val (.int p2), .val (.int p3), .val (.int p4), .val (.long q5), .second, .val (.long q6), .second, .val (.int y1), .val (.int (own_c1 p4 y1 p2)), .val (.int (own_c2 p4 y1 p3)), .val (.int y6), .val (.int (p4 &&& (3 : Int32))), .val (.int (own_fl p4)), .val (.int y9), .val (.ref b10), .val (.ref b15), .val (.int (own_w y1)), .val (.int (own_w (own_c1 p4 y1 p2))), .val (.int (own_w (own_c2 p4 y1 p3))), .val (.long (G ((own_w y1)).toNatClampNeg)), .second, .val (.long (G ((own_w (own_c1 p4 y1 p2))).toNatClampNeg)), .second, .val (.long (G ((own_w (own_c2 p4 y1 p3))).toNatClampNeg)), .second, .val (.long (G (y9).toNatClampNeg)), .second] [(.int (own_c1 p4 y1 p2)), (.int (own_c1 p4 y1 p2))])) _
    refine XS.icmpNo X32.here hx rfl (hb hby at_329) rfl (teq (rfl : ((own_c1 p4 y1 p2) = (own_c1 p4 y1 p2)))).2 ?_
    show Steps p.tables e below (T32.setTop (mkF m 332 #[.val (.int p1), .val (.int p2), .val (.int p3), .val (.int p4), .val (.long q5), .second, .val (.long q6), .second, .val (.int y1), .val (.int (own_c1 p4 y1 p2)), .val (.int (own_c2 p4 y1 p3)), .val (.int y6), .val (.int (p4 &&& (3 : Int32))), .val (.int (own_fl p4)), .val (.int y9), .val (.ref b10), .val (.ref b15), .val (.int (own_w y1)), .val (.int (own_w (own_c1 p4 y1 p2))), .val (.int (own_w (own_c2 p4 y1 p3))), .val (.long (G ((own_w y1)).toNatClampNeg)), .second, .val (.long (G ((own_w (own_c1 p4 y1 p2))).toNatClampNeg)), .second, .val (.long (G ((own_w (own_c2 p4 y1 p3))).toNatClampNeg)), .second, .val (.long (G (y9).toNatClampNeg)), .second] [])) _
    refine XS.aload X32.here hx rfl (hb hby at_332) rfl rfl ?_
    show Steps p.tables e below (T32.setTop (mkF m 334 #[.val (.int p1), .val (.int p2), .val (.int p3), .val (.int p4), .val (.long q5), .second, .val (.long q6), .second, .val (.int y1), .val (.int (own_c1 p4 y1 p2)), .val (.int (own_c2 p4 y1 p3)), .val (.int y6), .val (.int (p4 &&& (3 : Int32))), .val (.int (own_fl p4)), .val (.int y9), .val (.ref b10), .val (.ref b15), .val (.int (own_w y1)), .val (.int (own_w (own_c1 p4 y1 p2))), .val (.int (own_w (own_c2 p4 y1 p3))), .val (.long (G ((own_w y1)).toNatClampNeg)), .second, .val (.long (G ((own_w (own_c1 p4 y1 p2))).toNatClampNeg)), .second, .val (.long (G ((own_w (own_c2 p4 y1 p3))).toNatClampNeg)), .second, .val (.long (G (y9).toNatClampNeg)), .second] [(.ref b10)])) _
    refine XS.iconst X32.here hx rfl (hb hby at_334) ?_
    show Steps p.tables e below (T32.setTop (mkF m 335 #[.val (.int p1), .val (.int p2), .val (.int p3), .val (.int p4), .val (.long q5), .second, .val (.long q6), .second, .val (.int y1), .val (.int (own_c1 p4 y1 p2)), .val (.int (own_c2 p4 y1 p3)), .val (.int y6), .val (.int (p4 &&& (3 : Int32))), .val (.int (own_fl p4)), .val (.int y9), .val (.ref b10), .val (.ref b15), .val (.int (own_w y1)), .val (.int (own_w (own_c1 p4 y1 p2))), .val (.int (own_w (own_c2 p4 y1 p3))), .val (.long (G ((own_w y1)).toNatClampNeg)), .second, .val (.long (G ((own_w (own_c1 p4 y1 p2))).toNatClampNeg)), .second, .val (.long (G ((own_w (own_c2 p4 y1 p3))).toNatClampNeg)), .second, .val (.long (G (y9).toNatClampNeg)), .second] [(.int (2 : Int32)), (.ref b10)])) _
    refine X32.caload hx (j := (2 : Int32)) (v := (.int (own_c2 p4 y1 p3))) (by rw [e32]; exact Ar35.1) (State.isArrayOf_alike hZ.alike Ar35.2.1) Ar35.2.2 hin35 hat35 (g := (mkF m 335 #[.val (.int p1), .val (.int p2), .val (.int p3), .val (.int p4), .val (.long q5), .second, .val (.long q6), .second, .val (.int y1), .val (.int (own_c1 p4 y1 p2)), .val (.int (own_c2 p4 y1 p3)), .val (.int y6), .val (.int (p4 &&& (3 : Int32))), .val (.int (own_fl p4)), .val (.int y9), .val (.ref b10), .val (.ref b15), .val (.int (own_w y1)), .val (.int (own_w (own_c1 p4 y1 p2))), .val (.int (own_w (own_c2 p4 y1 p3))), .val (.long (G ((own_w y1)).toNatClampNeg)), .second, .val (.long (G ((own_w (own_c1 p4 y1 p2))).toNatClampNeg)), .second, .val (.long (G ((own_w (own_c2 p4 y1 p3))).toNatClampNeg)), .second, .val (.long (G (y9).toNatClampNeg)), .second] [(.int (2 : Int32)), (.ref b10)])) rfl rfl (hb hby at_335) _ ?_
    show Steps p.tables e below (T32.setTop (mkF m 336 #[.val (.int p1), .val (.int p2), .val (.int p3), .val (.int p4), .val (.long q5), .second, .val (.long q6), .second, .val (.int y1), .val (.int (own_c1 p4 y1 p2)), .val (.int (own_c2 p4 y1 p3)), .val (.int y6), .val (.int (p4 &&& (3 : Int32))), .val (.int (own_fl p4)), .val (.int y9), .val (.ref b10), .val (.ref b15), .val (.int (own_w y1)), .val (.int (own_w (own_c1 p4 y1 p2))), .val (.int (own_w (own_c2 p4 y1 p3))), .val (.long (G ((own_w y1)).toNatClampNeg)), .second, .val (.long (G ((own_w (own_c1 p4 y1 p2))).toNatClampNeg)), .second, .val (.long (G ((own_w (own_c2 p4 y1 p3))).toNatClampNeg)), .second, .val (.long (G (y9).toNatClampNeg)), .second] [(.int (own_c2 p4 y1 p3))])) _
    refine XS.iload X32.here hx rfl (hb hby at_336) rfl ?_
    show Steps p.tables e below (T32.setTop (mkF m 338 #[.val (.int p1), .val (.int p2), .val (.int p3), .val (.int p4), .val (.long q5), .second, .val (.long q6), .second, .val (.int y1), .val (.int (own_c1 p4 y1 p2)), .val (.int (own_c2 p4 y1 p3)), .val (.int y6), .val (.int (p4 &&& (3 : Int32))), .val (.int (own_fl p4)), .val (.int y9), .val (.ref b10), .val (.ref b15), .val (.int (own_w y1)), .val (.int (own_w (own_c1 p4 y1 p2))), .val (.int (own_w (own_c2 p4 y1 p3))), .val (.long (G ((own_w y1)).toNatClampNeg)), .second, .val (.long (G ((own_w (own_c1 p4 y1 p2))).toNatClampNeg)), .second, .val (.long (G ((own_w (own_c2 p4 y1 p3))).toNatClampNeg)), .second, .val (.long (G (y9).toNatClampNeg)), .second] [(.int (own_c2 p4 y1 p3)), (.int (own_c2 p4 y1 p3))])) _
    refine XS.icmpNo X32.here hx rfl (hb hby at_338) rfl (teq (rfl : ((own_c2 p4 y1 p3) = (own_c2 p4 y1 p3)))).2 ?_
    show Steps p.tables e below (T32.setTop (mkF m 341 #[.val (.int p1), .val (.int p2), .val (.int p3), .val (.int p4), .val (.long q5), .second, .val (.long q6), .second, .val (.int y1), .val (.int (own_c1 p4 y1 p2)), .val (.int (own_c2 p4 y1 p3)), .val (.int y6), .val (.int (p4 &&& (3 : Int32))), .val (.int (own_fl p4)), .val (.int y9), .val (.ref b10), .val (.ref b15), .val (.int (own_w y1)), .val (.int (own_w (own_c1 p4 y1 p2))), .val (.int (own_w (own_c2 p4 y1 p3))), .val (.long (G ((own_w y1)).toNatClampNeg)), .second, .val (.long (G ((own_w (own_c1 p4 y1 p2))).toNatClampNeg)), .second, .val (.long (G ((own_w (own_c2 p4 y1 p3))).toNatClampNeg)), .second, .val (.long (G (y9).toNatClampNeg)), .second] [])) _
    refine XS.aload X32.here hx rfl (hb hby at_341) rfl rfl ?_
    show Steps p.tables e below (T32.setTop (mkF m 343 #[.val (.int p1), .val (.int p2), .val (.int p3), .val (.int p4), .val (.long q5), .second, .val (.long q6), .second, .val (.int y1), .val (.int (own_c1 p4 y1 p2)), .val (.int (own_c2 p4 y1 p3)), .val (.int y6), .val (.int (p4 &&& (3 : Int32))), .val (.int (own_fl p4)), .val (.int y9), .val (.ref b10), .val (.ref b15), .val (.int (own_w y1)), .val (.int (own_w (own_c1 p4 y1 p2))), .val (.int (own_w (own_c2 p4 y1 p3))), .val (.long (G ((own_w y1)).toNatClampNeg)), .second, .val (.long (G ((own_w (own_c1 p4 y1 p2))).toNatClampNeg)), .second, .val (.long (G ((own_w (own_c2 p4 y1 p3))).toNatClampNeg)), .second, .val (.long (G (y9).toNatClampNeg)), .second] [(.ref b10)])) _
    refine XS.iconst X32.here hx rfl (hb hby at_343) ?_
    show Steps p.tables e below (T32.setTop (mkF m 344 #[.val (.int p1), .val (.int p2), .val (.int p3), .val (.int p4), .val (.long q5), .second, .val (.long q6), .second, .val (.int y1), .val (.int (own_c1 p4 y1 p2)), .val (.int (own_c2 p4 y1 p3)), .val (.int y6), .val (.int (p4 &&& (3 : Int32))), .val (.int (own_fl p4)), .val (.int y9), .val (.ref b10), .val (.ref b15), .val (.int (own_w y1)), .val (.int (own_w (own_c1 p4 y1 p2))), .val (.int (own_w (own_c2 p4 y1 p3))), .val (.long (G ((own_w y1)).toNatClampNeg)), .second, .val (.long (G ((own_w (own_c1 p4 y1 p2))).toNatClampNeg)), .second, .val (.long (G ((own_w (own_c2 p4 y1 p3))).toNatClampNeg)), .second, .val (.long (G (y9).toNatClampNeg)), .second] [(.int (3 : Int32)), (.ref b10)])) _
    refine X32.caload hx (j := (3 : Int32)) (v := (.int y6)) (by rw [e32]; exact Ar36.1) (State.isArrayOf_alike hZ.alike Ar36.2.1) Ar36.2.2 hin36 hat36 (g := (mkF m 344 #[.val (.int p1), .val (.int p2), .val (.int p3), .val (.int p4), .val (.long q5), .second, .val (.long q6), .second, .val (.int y1), .val (.int (own_c1 p4 y1 p2)), .val (.int (own_c2 p4 y1 p3)), .val (.int y6), .val (.int (p4 &&& (3 : Int32))), .val (.int (own_fl p4)), .val (.int y9), .val (.ref b10), .val (.ref b15), .val (.int (own_w y1)), .val (.int (own_w (own_c1 p4 y1 p2))), .val (.int (own_w (own_c2 p4 y1 p3))), .val (.long (G ((own_w y1)).toNatClampNeg)), .second, .val (.long (G ((own_w (own_c1 p4 y1 p2))).toNatClampNeg)), .second, .val (.long (G ((own_w (own_c2 p4 y1 p3))).toNatClampNeg)), .second, .val (.long (G (y9).toNatClampNeg)), .second] [(.int (3 : Int32)), (.ref b10)])) rfl rfl (hb hby at_344) _ ?_
    show Steps p.tables e below (T32.setTop (mkF m 345 #[.val (.int p1), .val (.int p2), .val (.int p3), .val (.int p4), .val (.long q5), .second, .val (.long q6), .second, .val (.int y1), .val (.int (own_c1 p4 y1 p2)), .val (.int (own_c2 p4 y1 p3)), .val (.int y6), .val (.int (p4 &&& (3 : Int32))), .val (.int (own_fl p4)), .val (.int y9), .val (.ref b10), .val (.ref b15), .val (.int (own_w y1)), .val (.int (own_w (own_c1 p4 y1 p2))), .val (.int (own_w (own_c2 p4 y1 p3))), .val (.long (G ((own_w y1)).toNatClampNeg)), .second, .val (.long (G ((own_w (own_c1 p4 y1 p2))).toNatClampNeg)), .second, .val (.long (G ((own_w (own_c2 p4 y1 p3))).toNatClampNeg)), .second, .val (.long (G (y9).toNatClampNeg)), .second] [(.int y6)])) _
    refine XS.iload X32.here hx rfl (hb hby at_345) rfl ?_
    show Steps p.tables e below (T32.setTop (mkF m 347 #[.val (.int p1), .val (.int p2), .val (.int p3), .val (.int p4), .val (.long q5), .second, .val (.long q6), .second, .val (.int y1), .val (.int (own_c1 p4 y1 p2)), .val (.int (own_c2 p4 y1 p3)), .val (.int y6), .val (.int (p4 &&& (3 : Int32))), .val (.int (own_fl p4)), .val (.int y9), .val (.ref b10), .val (.ref b15), .val (.int (own_w y1)), .val (.int (own_w (own_c1 p4 y1 p2))), .val (.int (own_w (own_c2 p4 y1 p3))), .val (.long (G ((own_w y1)).toNatClampNeg)), .second, .val (.long (G ((own_w (own_c1 p4 y1 p2))).toNatClampNeg)), .second, .val (.long (G ((own_w (own_c2 p4 y1 p3))).toNatClampNeg)), .second, .val (.long (G (y9).toNatClampNeg)), .second] [(.int y6), (.int y6)])) _
    refine XS.icmpNo X32.here hx rfl (hb hby at_347) rfl (teq (rfl : (y6 = y6))).2 ?_
    show Steps p.tables e below (T32.setTop (mkF m 350 #[.val (.int p1), .val (.int p2), .val (.int p3), .val (.int p4), .val (.long q5), .second, .val (.long q6), .second, .val (.int y1), .val (.int (own_c1 p4 y1 p2)), .val (.int (own_c2 p4 y1 p3)), .val (.int y6), .val (.int (p4 &&& (3 : Int32))), .val (.int (own_fl p4)), .val (.int y9), .val (.ref b10), .val (.ref b15), .val (.int (own_w y1)), .val (.int (own_w (own_c1 p4 y1 p2))), .val (.int (own_w (own_c2 p4 y1 p3))), .val (.long (G ((own_w y1)).toNatClampNeg)), .second, .val (.long (G ((own_w (own_c1 p4 y1 p2))).toNatClampNeg)), .second, .val (.long (G ((own_w (own_c2 p4 y1 p3))).toNatClampNeg)), .second, .val (.long (G (y9).toNatClampNeg)), .second] [])) _
    refine XS.iconst X32.here hx rfl (hb hby at_350) ?_
    show Steps p.tables e below (T32.setTop (mkF m 351 #[.val (.int p1), .val (.int p2), .val (.int p3), .val (.int p4), .val (.long q5), .second, .val (.long q6), .second, .val (.int y1), .val (.int (own_c1 p4 y1 p2)), .val (.int (own_c2 p4 y1 p3)), .val (.int y6), .val (.int (p4 &&& (3 : Int32))), .val (.int (own_fl p4)), .val (.int y9), .val (.ref b10), .val (.ref b15), .val (.int (own_w y1)), .val (.int (own_w (own_c1 p4 y1 p2))), .val (.int (own_w (own_c2 p4 y1 p3))), .val (.long (G ((own_w y1)).toNatClampNeg)), .second, .val (.long (G ((own_w (own_c1 p4 y1 p2))).toNatClampNeg)), .second, .val (.long (G ((own_w (own_c2 p4 y1 p3))).toNatClampNeg)), .second, .val (.long (G (y9).toNatClampNeg)), .second] [(.int (1 : Int32))])) _
    refine XS.goto X32.here hx rfl (pc0 := 351) (pc' := 355) rfl (hb hby at_351) (by decide) (by decide) ?_
    show Steps p.tables e below (T32.setTop (mkF m 355 #[.val (.int p1), .val (.int p2), .val (.int p3), .val (.int p4), .val (.long q5), .second, .val (.long q6), .second, .val (.int y1), .val (.int (own_c1 p4 y1 p2)), .val (.int (own_c2 p4 y1 p3)), .val (.int y6), .val (.int (p4 &&& (3 : Int32))), .val (.int (own_fl p4)), .val (.int y9), .val (.ref b10), .val (.ref b15), .val (.int (own_w y1)), .val (.int (own_w (own_c1 p4 y1 p2))), .val (.int (own_w (own_c2 p4 y1 p3))), .val (.long (G ((own_w y1)).toNatClampNeg)), .second, .val (.long (G ((own_w (own_c1 p4 y1 p2))).toNatClampNeg)), .second, .val (.long (G ((own_w (own_c2 p4 y1 p3))).toNatClampNeg)), .second, .val (.long (G (y9).toNatClampNeg)), .second] [(.int (1 : Int32))])) _
    exact retN X32 hx (t := .boolean) Bd.returns (by simp) (hb hby at_355) hr
  · show Q_rm0 Z p1 p2 p3 p4 q5 q6 h0 n0 _ T32.heap _
    rw [e32]
    exact ⟨rfl, N32⟩
set_option maxRecDepth 65536 in
set_option maxHeartbeats 40000000 in
theorem comes_1 {Post : Tables → Env → Array Value → State → Outcome → State → Prop} (hpost : ∀ tb e args s v u, (limb_1_1.after args s (.returned v) u = true ∧ limb_1_2.after args s (.returned v) u = true ∧ True) → FrameEnd s (.returned v) u (Jvm.fieldLocs frame_1_writes args s ++ Jvm.arrayLocs frame_1_arrays args s ++ Jvm.staticLocs frame_1_statics s) 16 2176 → Post tb e args s (.returned v) u) :
    ArmFor flags0 classFile x code maxLocals ret World_1 tables_1 room_1 Calls_1 rest_1 Pre_1 Post := by
  intro l hfl _ _ p e ha hc hk s m args below hf hA hF happ hP
  obtain ⟨hcalls, hrest, hpre⟩ := hP
  obtain ⟨-, -, -, hnamed, -, -, -, hat⟩ := (Spec.applies_iff hf).mp happ
  obtain ⟨hg, hn⟩ := and_e (Cond.before_iff.mp (show (Jvm.Cond.and given_1 narrow_1).before args s = true from hpre))
  obtain ⟨g0, gr0⟩ := and_e hg
  obtain ⟨ga0, gr1⟩ := and_e gr0
  obtain ⟨ga1, gr2⟩ := and_e gr1
  obtain ⟨ga2, gr3⟩ := and_e gr2
  obtain ⟨ga3, gr4⟩ := and_e gr3
  obtain ⟨ga4, gr5⟩ := and_e gr4
  obtain ⟨w0, w1, w2, w3, w4, w5, rfl⟩ : ∃ w0 w1 w2 w3 w4 w5 : Value, args = #[w0, w1, w2, w3, w4, w5] := by
    have hs : args.size = 6 := by simpa [Cond.value, given_1] using g0
    obtain ⟨L⟩ := args
    match L, hs with
    | [w0, w1, w2, w3, w4, w5], _ => exact ⟨w0, w1, w2, w3, w4, w5, rfl⟩
  have hw := fun d (hd : d ∈ tables_1) => atoms_spec (ws := Jvm.Cond.code x code maxLocals ret :: tables_1) hat d (List.mem_cons_of_mem _ hd)
  have hfit : Fit s := fun {y c} hc i hi => by
    obtain ⟨ha, rfl⟩ := Array.getElem?_eq_some_iff.mp hc
    have q := List.all_eq_true.mp ((Array.all_eq_true_iff_forall_mem.mp hF) _ (Array.getElem_mem ha)) i (List.mem_range.mpr hi)
    simpa [Array.getElem?_eq_getElem hi] using q
  obtain ⟨i0, ei0⟩ := is_v ga0
  obtain rfl : w0 = (.int i0) := Option.some.inj ei0
  obtain ⟨i1, ei1⟩ := is_v ga1
  obtain rfl : w1 = (.int i1) := Option.some.inj ei1
  obtain ⟨i2, ei2⟩ := is_v ga2
  obtain rfl : w2 = (.int i2) := Option.some.inj ei2
  obtain ⟨i3, ei3⟩ := is_v ga3
  obtain rfl : w3 = (.int i3) := Option.some.inj ei3
  obtain ⟨i4, ei4⟩ := isL_v ga4
  obtain rfl : w4 = (.long i4) := Option.some.inj ei4
  obtain ⟨i5, ei5⟩ := isL_v gr5
  obtain rfl : w5 = (.long i5) := Option.some.inj ei5
  obtain ⟨n, o, h1, h2, h3, _, L, rfl, ⟨rfl, N⟩, hq⟩ := rm0 l s _ hw tables_1 i0 i1 i2 i3 i4 i5 s.heap s.heap.size (Nat.le_refl _) p e ha hc hk s m _ below hf ((Spec.applies_iff_loose hf).mp happ).1 ⟨rfl, State.Warmed39.refl s, rfl⟩ trivial
  refine ⟨n, _, h1, h2, h3, hpost _ _ _ _ _ _ ⟨Cond.after_iff.mpr rfl, Cond.after_iff.mpr (eq_i res_at (Term.int_eval (1)) rfl), trivial⟩ ⟨hq.1, hq.2.1, (hq.2.2.sift fun y hy => Or.inr (N y hy)).mono (by decide) (by decide)⟩⟩
theorem main_1_1 : Claimed_1_1 := comes_1 fun _ _ _ _ _ _ h hF => ⟨h.1, hF⟩
theorem main_1_2 : Claimed_1_2 := comes_1 fun _ _ _ _ _ _ h hF => ⟨h.2.1, hF⟩
end Jvm.Pilot.@@N@@
namespace Jvm.Pilot.@@N@@
open Jvm Jvm.ClassFile Sem Op Lib Jvm.Free Jvm.Stand Jvm.Pilot.@@N@@.Jvm.D
/-! MADE BY PROGRAM (witnessworld.py) out of the Statement's table words and the real class files: 14 classes; the members and pool entries that the words name. The judged class is class 1, her method 1. -/
namespace start1
open Jvm.ClassFile
def u (s : String) : CpInfo := .utf8 (stringToUtf16 s)
/-- a pool by its gaps: so many unusable entries, then the entry; so many at the end -/
def gap : Nat → List CpInfo → List CpInfo
  | 0, r => r
  | n + 1, r => .unusable :: gap n r
def poolList (es : List (Nat × CpInfo)) (last : Nat) : List CpInfo := es.foldr (fun e r => gap e.1 (e.2 :: r)) (gap last [])
def pool (es : List (Nat × CpInfo)) (last : Nat) : Array CpInfo := ⟨poolList es last⟩
def fileOf (pool : Array CpInfo) (this : Nat) (attrs : Array Attribute := #[]) (ms : Array MethodInfo := #[]) (fl : Nat := 33) (sup : Nat := 0) (ifs : Array Nat := #[]) (fds : Array FieldInfo := #[]) : ClassFile where
  minorVersion := 0
  majorVersion := 65
  constantPool := pool
  accessFlags := fl
  thisClass := this
  superClass := sup
  interfaces := ifs
  fields := fds
  methods := ms
  attributes := attrs
def plain (name : String) (sup : Option ClassId) : Class where
  name := name
  kind := .ordinary
  loader := none
  accessFlags := 33
  super := sup
  interfaces := #[]
  cf := none
  fields := #[]
  methods := #[]
  instanceTypes := #[]
  staticTypes := #[]
  resolved := #[]
  callSites := []
  init := .initialized
  statics := none
  mirror := none

def pool0 : Array CpInfo := pool [(5, u "<init>"), (0, u "()V"), (1, .class_ 10), (1, u "java/lang/Object")] 113

def k0m0 : Method := { name := "<init>", desc := "()V", sig := { parameters := [], returnType := none }, accessFlags := 1, code := none }
/-- java/lang/Object -/
def k0 : Class := { plain "java/lang/Object" none with
  accessFlags := 33
  interfaces := #[]
  cf := some (fileOf pool0 8 #[] #[{ accessFlags := 1, nameIndex := 5, descriptorIndex := 6, attributes := #[] }] 33 0 #[] #[])
  fields := #[]
  methods := #[k0m0]
  instanceTypes := #[]
  staticTypes := #[]
  resolved := Array.replicate 124 none
  statics := none }

def pool1 : Array CpInfo := pool [(2, .class_ 4), (1, u "java/lang/Object"), (0, u "<init>"), (0, u "()V"), (0, .integer 65472), (0, .long 18446744073709551615), (1, .methodref 11 12), (0, .class_ 13), (0, .nameAndType 14 15), (0, u "com/example/bitstrata/bitstrata/ArrayChunk"), (0, u "writeEach"), (0, u "([CI[JZ)V"), (0, .methodref 17 18), (0, .class_ 19), (0, .nameAndType 20 21), (0, u "com/example/bitstrata/bitstrata/ArrayChunkWriteEachPinLaw"), (0, u "expected"), (0, u "(JICCCIZ)J"), (0, .methodref 17 23), (0, .nameAndType 24 25), (0, u "bit"), (0, u "(CIZ)J"), (2, u "law"), (0, u "(IIIIJJ)Z")] 7

def k1m0 : Method := { name := "<init>", desc := "()V", sig := { parameters := [], returnType := none }, accessFlags := 1, code := none }
def k1c1 : Code := { maxStack := 10, maxLocals := 28, code := code, exceptionTable := #[], attributes := #[] }
def k1m1 : Method := { name := "law", desc := "(IIIIJJ)Z", sig := { parameters := [.int, .int, .int, .int, .long, .long], returnType := some .boolean }, accessFlags := 9, code := some k1c1 }
def k1c2 : Code := { maxStack := 4, maxLocals := 3, code := method_3_code, exceptionTable := #[], attributes := #[] }
def k1m2 : Method := { name := "bit", desc := "(CIZ)J", sig := { parameters := [.char, .int, .boolean], returnType := some .long }, accessFlags := 10, code := some k1c2 }
def k1c3 : Code := { maxStack := 4, maxLocals := 14, code := method_4_code, exceptionTable := #[], attributes := #[] }
def k1m3 : Method := { name := "expected", desc := "(JICCCIZ)J", sig := { parameters := [.long, .int, .char, .char, .char, .int, .boolean], returnType := some .long }, accessFlags := 10, code := some k1c3 }
/-- com/example/bitstrata/bitstrata/ArrayChunkWriteEachPinLaw -/
def k1 : Class := { plain "com/example/bitstrata/bitstrata/ArrayChunkWriteEachPinLaw" (some 0) with
  accessFlags := 49
  interfaces := #[]
  cf := some (fileOf pool1 17 #[] #[{ accessFlags := 1, nameIndex := 5, descriptorIndex := 6, attributes := #[] }, { accessFlags := 9, nameIndex := 28, descriptorIndex := 29, attributes := #[] }, { accessFlags := 10, nameIndex := 24, descriptorIndex := 25, attributes := #[] }, { accessFlags := 10, nameIndex := 20, descriptorIndex := 21, attributes := #[] }] 49 2 #[] #[])
  fields := #[]
  methods := #[k1m0, k1m1, k1m2, k1m3]
  instanceTypes := #[]
  staticTypes := #[]
  resolved := Array.replicate 37 none
  statics := none }

def pool2 : Array CpInfo := pool [(1, .class_ 2), (0, u "com/example/bitstrata/bitstrata/Chunk"), (3, .class_ 8), (1, u "java/lang/Object"), (0, u "<init>"), (0, u "()V"), (12, u "BITS_OF_WORD"), (0, u "[J"), (133, u "CAPACITY"), (0, u "I"), (1, u "MAX_ARRAY_CARDINALITY"), (1, u "UNCOUNTED"), (1, u "BITSET_BYTES"), (75, .class_ 242), (0, u "com/example/bitstrata/bitstrata/Chunk$WordHashSum")] 3

def k2m0 : Method := { name := "<init>", desc := "()V", sig := { parameters := [], returnType := none }, accessFlags := 0, code := none }
/-- com/example/bitstrata/bitstrata/Chunk -/
def k2 : Class := { plain "com/example/bitstrata/bitstrata/Chunk" (some 0) with
  accessFlags := 1056
  interfaces := #[]
  cf := some (fileOf pool2 1 #[.nestMembers #[241]] #[{ accessFlags := 0, nameIndex := 9, descriptorIndex := 10, attributes := #[] }] 1056 6 #[] #[{ accessFlags := 24, nameIndex := 158, descriptorIndex := 159, attributes := #[] }, { accessFlags := 24, nameIndex := 161, descriptorIndex := 159, attributes := #[] }, { accessFlags := 24, nameIndex := 163, descriptorIndex := 159, attributes := #[] }, { accessFlags := 26, nameIndex := 23, descriptorIndex := 24, attributes := #[] }, { accessFlags := 24, nameIndex := 165, descriptorIndex := 159, attributes := #[] }])
  fields := #[{ name := "CAPACITY", type := .int, accessFlags := 24, slot := 0, constantValue := 0 }, { name := "MAX_ARRAY_CARDINALITY", type := .int, accessFlags := 24, slot := 1, constantValue := 0 }, { name := "UNCOUNTED", type := .int, accessFlags := 24, slot := 2, constantValue := 0 }, { name := "BITS_OF_WORD", type := (.array .long), accessFlags := 26, slot := 3, constantValue := 0 }, { name := "BITSET_BYTES", type := .int, accessFlags := 24, slot := 4, constantValue := 0 }]
  methods := #[k2m0]
  instanceTypes := #[]
  staticTypes := #[.int, .int, .int, (.array .long), .int]
  resolved := Array.replicate 246 none
  statics := none }

def pool3 : Array CpInfo := pool [(5, .class_ 6), (0, u "com/example/bitstrata/bitstrata/ArrayChunk"), (2, u "<init>"), (2, .class_ 14), (1, u "com/example/bitstrata/bitstrata/Chunk"), (0, u "()V"), (2, u "countedRuns"), (0, u "I"), (2, u "values"), (0, u "[C"), (2, u "cardinality"), (84, u "keptWords"), (0, u "Lcom/example/bitstrata/bitstrata/ArrayChunk$KeptWords;"), (116, .class_ 231), (1, u "com/example/bitstrata/bitstrata/ArrayChunk$KeptWords"), (82, u "COUNTED_ONCE"), (89, u "INITIAL_CAPACITY"), (2, u "DENSE_VALUES_PER_WORD"), (1, u "VALUES_IN_A_WORDS_BYTES"), (0, u "VALUES_PER_WORD_MERGED"), (1, u "MARKS_CLEARED_EACH"), (1, u "SEARCH_RATIO"), (0, u "SEARCH_RATIO_COUNTED"), (1, u "INSERTION_RATIO"), (1, u "WORDS_PER_VALUE_FILTERED"), (1, u "WORDS_PER_VALUE_COUNTED"), (1, u "VALUES_COSTING_A_PASS"), (1, u "VALUES_COPIED_IN_BULK"), (45, u "writeEach"), (0, u "([CI[JZ)V")] 39

def k3m0 : Method := { name := "<init>", desc := "()V", sig := { parameters := [], returnType := none }, accessFlags := 0, code := none }
def k3c1 : Code := { maxStack := 8, maxLocals := 5, code := prog_2_method_74_code, exceptionTable := #[], attributes := #[] }
def k3m1 : Method := { name := "writeEach", desc := "([CI[JZ)V", sig := { parameters := [(.array .char), .int, (.array .long), .boolean], returnType := none }, accessFlags := 8, code := some k3c1 }
/-- com/example/bitstrata/bitstrata/ArrayChunk -/
def k3 : Class := { plain "com/example/bitstrata/bitstrata/ArrayChunk" (some 2) with
  accessFlags := 48
  interfaces := #[]
  cf := some (fileOf pool3 5 #[.nestMembers #[229]] #[{ accessFlags := 0, nameIndex := 9, descriptorIndex := 15, attributes := #[] }, { accessFlags := 8, nameIndex := 471, descriptorIndex := 472, attributes := #[] }] 48 12 #[] #[{ accessFlags := 26, nameIndex := 404, descriptorIndex := 19, attributes := #[] }, { accessFlags := 26, nameIndex := 407, descriptorIndex := 19, attributes := #[] }, { accessFlags := 26, nameIndex := 409, descriptorIndex := 19, attributes := #[] }, { accessFlags := 26, nameIndex := 314, descriptorIndex := 112, attributes := #[] }, { accessFlags := 26, nameIndex := 410, descriptorIndex := 19, attributes := #[] }, { accessFlags := 26, nameIndex := 412, descriptorIndex := 19, attributes := #[] }, { accessFlags := 26, nameIndex := 414, descriptorIndex := 19, attributes := #[] }, { accessFlags := 26, nameIndex := 415, descriptorIndex := 19, attributes := #[] }, { accessFlags := 26, nameIndex := 417, descriptorIndex := 19, attributes := #[] }, { accessFlags := 26, nameIndex := 419, descriptorIndex := 19, attributes := #[] }, { accessFlags := 26, nameIndex := 421, descriptorIndex := 19, attributes := #[] }, { accessFlags := 26, nameIndex := 423, descriptorIndex := 19, attributes := #[] }, { accessFlags := 24, nameIndex := 425, descriptorIndex := 19, attributes := #[] }, { accessFlags := 2, nameIndex := 22, descriptorIndex := 23, attributes := #[] }, { accessFlags := 2, nameIndex := 26, descriptorIndex := 19, attributes := #[] }, { accessFlags := 2, nameIndex := 18, descriptorIndex := 19, attributes := #[] }, { accessFlags := 2, nameIndex := 111, descriptorIndex := 112, attributes := #[] }])
  fields := #[{ name := "INITIAL_CAPACITY", type := .int, accessFlags := 26, slot := 0, constantValue := 0 }, { name := "DENSE_VALUES_PER_WORD", type := .int, accessFlags := 26, slot := 1, constantValue := 0 }, { name := "VALUES_IN_A_WORDS_BYTES", type := .int, accessFlags := 26, slot := 2, constantValue := 0 }, { name := "COUNTED_ONCE", type := (.object "com/example/bitstrata/bitstrata/ArrayChunk$KeptWords"), accessFlags := 26, slot := 3, constantValue := 0 }, { name := "VALUES_PER_WORD_MERGED", type := .int, accessFlags := 26, slot := 4, constantValue := 0 }, { name := "MARKS_CLEARED_EACH", type := .int, accessFlags := 26, slot := 5, constantValue := 0 }, { name := "SEARCH_RATIO", type := .int, accessFlags := 26, slot := 6, constantValue := 0 }, { name := "SEARCH_RATIO_COUNTED", type := .int, accessFlags := 26, slot := 7, constantValue := 0 }, { name := "INSERTION_RATIO", type := .int, accessFlags := 26, slot := 8, constantValue := 0 }, { name := "WORDS_PER_VALUE_FILTERED", type := .int, accessFlags := 26, slot := 9, constantValue := 0 }, { name := "WORDS_PER_VALUE_COUNTED", type := .int, accessFlags := 26, slot := 10, constantValue := 0 }, { name := "VALUES_COSTING_A_PASS", type := .int, accessFlags := 26, slot := 11, constantValue := 0 }, { name := "VALUES_COPIED_IN_BULK", type := .int, accessFlags := 24, slot := 12, constantValue := 0 }, { name := "values", type := (.array .char), accessFlags := 2, slot := 0, constantValue := 0 }, { name := "cardinality", type := .int, accessFlags := 2, slot := 1, constantValue := 0 }, { name := "countedRuns", type := .int, accessFlags := 2, slot := 2, constantValue := 0 }, { name := "keptWords", type := (.object "com/example/bitstrata/bitstrata/ArrayChunk$KeptWords"), accessFlags := 2, slot := 3, constantValue := 0 }]
  methods := #[k3m0, k3m1]
  instanceTypes := #[(.array .char), .int, .int, (.object "com/example/bitstrata/bitstrata/ArrayChunk$KeptWords")]
  staticTypes := #[.int, .int, .int, (.object "com/example/bitstrata/bitstrata/ArrayChunk$KeptWords"), .int, .int, .int, .int, .int, .int, .int, .int, .int]
  resolved := Array.replicate 512 none
  statics := none }

def pool4 : Array CpInfo := pool [(1, u "java/lang/Cloneable"), (0, .class_ 1), (0, u "java/lang/Object"), (0, .class_ 3)] 3

/-- java/lang/Cloneable -/
def k4 : Class := { plain "java/lang/Cloneable" (some 0) with
  accessFlags := 1537
  interfaces := #[]
  cf := some (fileOf pool4 2 #[] #[] 1537 4 #[] #[])
  fields := #[]
  methods := #[]
  instanceTypes := #[]
  staticTypes := #[]
  resolved := Array.replicate 8 none
  statics := none }

def pool5 : Array CpInfo := pool [(1, u "java/io/Serializable"), (0, .class_ 1), (0, u "java/lang/Object"), (0, .class_ 3)] 3

/-- java/io/Serializable -/
def k5 : Class := { plain "java/io/Serializable" (some 0) with
  accessFlags := 1537
  interfaces := #[]
  cf := some (fileOf pool5 2 #[] #[] 1537 4 #[] #[])
  fields := #[]
  methods := #[]
  instanceTypes := #[]
  staticTypes := #[]
  resolved := Array.replicate 8 none
  statics := none }

/-- the primitive byte -/
def k6 : Class := { plain "byte" none with kind := .primitive 'B', accessFlags := 0x411 }
/-- [B -/
def k7 : Class := { plain "[B" (some 0) with kind := .array 6 .byte, interfaces := #[4, 5], accessFlags := 1041 }

/-- the primitive char -/
def k8 : Class := { plain "char" none with kind := .primitive 'C', accessFlags := 0x411 }
/-- [C -/
def k9 : Class := { plain "[C" (some 0) with kind := .array 8 .char, interfaces := #[4, 5], accessFlags := 1041 }

/-- the primitive int -/
def k10 : Class := { plain "int" none with kind := .primitive 'I', accessFlags := 0x411 }
/-- [I -/
def k11 : Class := { plain "[I" (some 0) with kind := .array 10 .int, interfaces := #[4, 5], accessFlags := 1041 }

/-- the primitive long -/
def k12 : Class := { plain "long" none with kind := .primitive 'J', accessFlags := 0x411 }
/-- [J -/
def k13 : Class := { plain "[J" (some 0) with kind := .array 12 .long, interfaces := #[4, 5], accessFlags := 1041 }

def heap : Heap := #[]
def classes : Array Class := #[k0, k1, k2, k3, k4, k5, k6, k7, k8, k9, k10, k11, k12, k13]
def interned : List (Array UInt16 × Addr) := []
def slotsUsed : Nat := 0
def theMethod : MethodId := ⟨1, 1⟩
def args0 : Array Value := #[.int 5, .int 7, .int 5, .int 7, .long 5, .long 7]
def aboutOver (below : List Frame) : State where
  vm := { classes := classes, interned := interned.toArray }
  heap := heap
  slotsUsed := slotsUsed
  threads := #[{ frames := .invoking theMethod args0 :: below }]
def below0 : List Frame := [.native { method := ⟨0, 0⟩, args := #[] }]
def about1 : State := aboutOver below0
def p0 : Program := .bare "" "" ""
def e0 : Env := launch0.env 0 0 0
theorem w_frames : about1.frames = Frame.invoking theMethod args0 :: below0 := rfl
set_option maxRecDepth 65536 in
theorem w_args : argsFit about1.vm theMethod args0 = true := by decide +kernel
set_option maxRecDepth 65536 in
theorem w_heap : heapFits about1 = true := by decide +kernel
set_option maxRecDepth 65536 in
theorem w_runnable : about1.curStatus? = some .runnable := by decide +kernel
set_option maxRecDepth 65536 in
theorem w_alone : about1.alone = true := by decide +kernel
set_option maxRecDepth 65536 in
theorem w_named : about1.methodNamed? x = some theMethod := by decide +kernel
set_option maxRecDepth 65536 in
theorem w_hears : about1.hears theMethod below0 = true := by decide +kernel
set_option maxRecDepth 65536 in
theorem w_ripe : about1.ripe theMethod args0 below0 = true := by decide +kernel
theorem w_running : about1.status = .running := rfl
set_option maxRecDepth 65536 in
theorem w_room : about1.hasRoom e0.platform room_1 = true :=
  launch0.hasRoom_least _ room_1 (by decide +kernel) (by decide +kernel) (by decide +kernel) (by decide +kernel) (by decide +kernel) (by decide +kernel)
theorem allAtoms_all (ts : List Jvm.Cond) (a : Array Jvm.Value) (st : Jvm.State) : (allAtoms ts).before a st = ts.all (fun c => c.before a st) := by
  induction ts with
  | nil => rfl
  | cons c t ih =>
    show (Jvm.Cond.and c (allAtoms t)).before a st = _
    rw [Jvm.Cond.before_and, ih, List.all_cons]
def words1 : List Jvm.Cond := Jvm.Cond.code x code maxLocals ret :: tables_1
/-- a 'code' word, met by the world's own term for the bytes: nothing is compared byte by byte -/
theorem code_word {y : MethodName} {bytes : ByteArray} {mx : Nat} {rt : Option FieldType} {a : Array Value} {s : State} {m : MethodId} {meth : Method} {c : Code} (h1 : s.methodNamed? y = some m) (h2 : s.vm.method? m = some meth) (h3 : meth.code = some c) (h4 : c.code = bytes)
    (h5 : (c.maxLocals == mx && c.exceptionTable.isEmpty && decide (c.maxStack ≤ mostOperands) && decide (meth.sig.returnType = rt) && !meth.locks && decide (parseMethodDescriptor y.desc = some meth.sig)) = true) : (Jvm.Cond.code y bytes mx rt).before a s = true := by
  simp only [Bool.and_eq_true, beq_iff_eq, Bool.not_eq_true', decide_eq_true_eq] at h5
  obtain ⟨⟨⟨⟨⟨g1, g2⟩, g3⟩, g4⟩, g5⟩, g6⟩ := h5
  simp [Cond.before, Cond.holds, Cond.value, h1, h2, h3, h4, g1, g2, g3, g4, g5, g6]
def isCode : Jvm.Cond → Bool
  | .code _ _ _ _ => true
  | _ => false
theorem all_split {L : List Jvm.Cond} {P : Jvm.Cond → Bool} (h1 : L.all (fun c => isCode c || P c) = true) (h2 : ∀ c ∈ L.filter isCode, P c = true) : L.all P = true := by
  refine List.all_eq_true.mpr fun c hc => ?_
  have h := List.all_eq_true.mp h1 c hc
  rcases Bool.eq_false_or_eq_true (isCode c) with hi | hi
  · exact h2 c (List.mem_filter.mpr ⟨hc, hi⟩)
  · simpa [hi] using h
set_option maxRecDepth 65536 in
theorem w_c0 : (Jvm.Cond.code x code maxLocals ret).before args0 about1 = true := code_word (m := ⟨1, 1⟩) (meth := k1m1) (c := k1c1) (by decide +kernel) rfl rfl rfl (by decide +kernel)
set_option maxRecDepth 65536 in
theorem w_c1 : (Jvm.Cond.code ({ cls := "com/example/bitstrata/bitstrata/ArrayChunk", name := "writeEach", desc := "([CI[JZ)V" } : Jvm.MethodName) prog_2_method_74_code (5 : Nat) (Option.none : Option Jvm.ClassFile.FieldType)).before args0 about1 = true := code_word (m := ⟨3, 1⟩) (meth := k3m1) (c := k3c1) (by decide +kernel) rfl rfl rfl (by decide +kernel)
set_option maxRecDepth 65536 in
theorem w_c2 : (Jvm.Cond.code ({ cls := "com/example/bitstrata/bitstrata/ArrayChunkWriteEachPinLaw", name := "expected", desc := "(JICCCIZ)J" } : Jvm.MethodName) method_4_code (14 : Nat) (Option.some Jvm.ClassFile.FieldType.long)).before args0 about1 = true := code_word (m := ⟨1, 3⟩) (meth := k1m3) (c := k1c3) (by decide +kernel) rfl rfl rfl (by decide +kernel)
set_option maxRecDepth 65536 in
theorem w_c3 : (Jvm.Cond.code ({ cls := "com/example/bitstrata/bitstrata/ArrayChunkWriteEachPinLaw", name := "bit", desc := "(CIZ)J" } : Jvm.MethodName) method_3_code (3 : Nat) (Option.some Jvm.ClassFile.FieldType.long)).before args0 about1 = true := code_word (m := ⟨1, 2⟩) (meth := k1m2) (c := k1c2) (by decide +kernel) rfl rfl rfl (by decide +kernel)
def codes1 : List Jvm.Cond := [Jvm.Cond.code x code maxLocals ret, Jvm.Cond.code ({ cls := "com/example/bitstrata/bitstrata/ArrayChunk", name := "writeEach", desc := "([CI[JZ)V" } : Jvm.MethodName) prog_2_method_74_code (5 : Nat) (Option.none : Option Jvm.ClassFile.FieldType), Jvm.Cond.code ({ cls := "com/example/bitstrata/bitstrata/ArrayChunkWriteEachPinLaw", name := "expected", desc := "(JICCCIZ)J" } : Jvm.MethodName) method_4_code (14 : Nat) (Option.some Jvm.ClassFile.FieldType.long), Jvm.Cond.code ({ cls := "com/example/bitstrata/bitstrata/ArrayChunkWriteEachPinLaw", name := "bit", desc := "(CIZ)J" } : Jvm.MethodName) method_3_code (3 : Nat) (Option.some Jvm.ClassFile.FieldType.long)]
set_option maxRecDepth 65536 in
theorem codes_eq : words1.filter isCode = codes1 := rfl
theorem w_codes : ∀ c ∈ words1.filter isCode, c.before args0 about1 = true := by
  rw [codes_eq]
  intro c hc
  simp only [codes1, List.mem_cons, List.not_mem_nil, or_false] at hc
  rcases hc with rfl | rfl | rfl | rfl
  · exact w_c0
  · exact w_c1
  · exact w_c2
  · exact w_c3
set_option maxRecDepth 65536 in
theorem w_t1 : words1.all (fun c => isCode c || c.before args0 about1) = true := by decide +kernel
theorem w_tables : (allAtoms (Jvm.Cond.code x code maxLocals ret :: tables_1)).before args0 about1 = true := by
  rw [allAtoms_all]
  show words1.all (fun c => c.before args0 about1) = true
  refine all_split ?_ w_codes
  rw [w_t1]
set_option maxRecDepth 65536 in
theorem w_case : (Jvm.Cond.and given_1 narrow_1).before args0 about1 = true := by decide +kernel
theorem w_applies : (headSpec (Jvm.Cond.code x code maxLocals ret :: tables_1) room_1).applies x e0.platform about1 = true :=
  (Spec.applies_iff w_frames).mpr ⟨w_running, w_runnable, w_alone, w_named, w_hears, w_ripe, w_room, w_tables⟩
theorem atStart : AtStart classFile x code maxLocals ret World_1 tables_1 room_1 Calls_1 rest_1 Pre_1 launch0 p0 e0 about1 theMethod args0 below0 :=
  ⟨lists_1, trivial, launch0.admits_env _ _ _, launch0.least_env, fairChoices_fair.cas, fairChoices_fair.clock, w_frames, w_args, w_heap, w_applies, trivial, trivial, w_case⟩
end start1
theorem witness_1 : WitnessClaimed_1 := ⟨start1.p0, start1.e0, start1.about1, start1.theMethod, start1.args0, start1.below0, start1.atStart⟩
end Jvm.Pilot.@@N@@
