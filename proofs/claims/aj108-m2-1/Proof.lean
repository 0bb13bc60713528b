import JvmDerived
import JvmDerived.Pilot.@@N@@Statement
import JvmDerived.Pilot.@@N@@Code
set_option linter.unusedVariables false
set_option linter.unusedSimpArgs false
namespace Jvm.RoadKit
open Sem ClassFile Op Lib Jvm.Stand Jvm.Free Jvm.LawKit
section New
variable {p : Program} {l : Launch} {e : Env} {R : Room} {s : State} {m : MethodId} {args : Array Value} {below : List Frame} {meth : Method} {c : Code} {T : State} {locs : List Loc} {cells slots : Nat}
theorem retI (X : Stand p l e R s m args below meth c T locs cells slots) (hx : p.tables.exec = Jvm.exec) {pc : Nat} {Ls : Array Slot} {z : Int32} {rest : List Value} (hret : meth.sig.returnType = some .int) (hd : decode c.code pc = .ok (.ireturn, 1)) {fs : List Frame}
    (hl : ∀ (f : JFrame) (acts : List Action), f.method = m → f.locked = none → f.entered = [] → (doReturn e (T.setTop f) acts (some (.int z))).1 = T.setFrames fs) : Steps p.tables e below (T.setTop (mkF m pc Ls (.int z :: rest))) (T.setFrames fs) := by
  have hm' : T.vm.method? m = some meth := X.method'
  have hn : narrow .int (.int z) = .int z := rfl
  show Steps p.tables e below (T.setTop { method := m, pc := pc, locals := Ls, stack := _ :: rest, locked := none }) _
  jvm_step X.here [X.here.top, hx, hd, hm', hret, hn]
  first | (intro acts; rw [hl _ acts rfl rfl rfl]) | rw [hl _ _ rfl rfl rfl]
  exact Steps.refl _
theorem retJ (X : Stand p l e R s m args below meth c T locs cells slots) (hx : p.tables.exec = Jvm.exec) {pc : Nat} {Ls : Array Slot} {z : Int64} {rest : List Value} (hret : meth.sig.returnType = some .long) (hd : decode c.code pc = .ok (.lreturn, 1)) {fs : List Frame}
    (hl : ∀ (f : JFrame) (acts : List Action), f.method = m → f.locked = none → f.entered = [] → (doReturn e (T.setTop f) acts (some (.long z))).1 = T.setFrames fs) : Steps p.tables e below (T.setTop (mkF m pc Ls (.long z :: rest))) (T.setFrames fs) := by
  have hm' : T.vm.method? m = some meth := X.method'
  have hn : narrow .long (.long z) = .long z := rfl
  show Steps p.tables e below (T.setTop { method := m, pc := pc, locals := Ls, stack := _ :: rest, locked := none }) _
  jvm_step X.here [X.here.top, hx, hd, hm', hret, hn]
  first | (intro acts; rw [hl _ acts rfl rfl rfl]) | rw [hl _ _ rfl rfl rfl]
  exact Steps.refl _
end New
end Jvm.RoadKit
namespace Jvm.Pilot.@@N@@
open Jvm Jvm.ClassFile Sem Op Lib Jvm.Free Jvm.Stand Jvm.LawKit Jvm.RoadKit Bundle Jvm.Pilot.@@N@@.Jvm.D
def ArF (Z : State) (h : Heap) (a : Addr) (ty : FieldType) (n : Nat) (f : Nat → Value) : Prop := ∃ c : Cell, Arr Z h a c ty ∧ c.slots.size = n ∧ ∀ i, i < n → c.slots[i]? = some (f i)
theorem ArF.lt {Z : State} {h : Heap} {a : Addr} {ty : FieldType} {n : Nat} {f : Nat → Value} (F : ArF Z h a ty n f) : a < h.size := by obtain ⟨c, A, -⟩ := F; exact A.lt
theorem ArF.ext {Z : State} {h h' : Heap} {a : Addr} {ty : FieldType} {n : Nat} {f : Nat → Value} (F : ArF Z h a ty n f) (E : Ext h h') : ArF Z h' a ty n f := by obtain ⟨c, A, r⟩ := F; exact ⟨c, A.ext E, r⟩
theorem ArF.other {Z : State} {h h' : Heap} {a b : Addr} {ty : FieldType} {n sl : Nat} {f : Nat → Value} {v : Value} (F : ArF Z h b ty n f) (W : Wr h h' a sl v) (q : b ≠ a) : ArF Z h' b ty n f := by obtain ⟨c, A, r⟩ := F; exact ⟨c, A.other W q, r⟩
theorem ArF.keep {Z : State} {h h' : Heap} {a : Addr} {ty : FieldType} {n : Nat} {f : Nat → Value} {ws : List Addr} (F : ArF Z h a ty n f) (K : Keep h h' ws) (q : a ∉ ws) : ArF Z h' a ty n f := by obtain ⟨c, A, r⟩ := F; exact ⟨c, ⟨K.2.1 a c A.1 q, A.2⟩, r⟩
theorem ArF.mk0 {Z : State} {h : Heap} {a : Addr} {ty : FieldType} {k : ClassId} {z : Int32} {n : Nat} {v : Value} (A : Arr Z h a (newA k ty z) ty) (hn : z.toNatClampNeg = n) (hv : defaultValue ty = v) : ArF Z h a ty n (fun _ => v) := by
  subst hn hv
  refine ⟨_, A, sz_new _ _ _, fun i hi => ?_⟩
  show (Array.replicate _ _)[i]? = _
  rw [Array.getElem?_replicate, if_pos hi]
theorem ArF.set {Z : State} {h h' : Heap} {a : Addr} {ty : FieldType} {n : Nat} {f : Nat → Value} {c : Cell} {j : Int32} {v : Value} (A : Arr Z h a c ty) (S : c.slots.size = n) (H : ∀ i, i < n → c.slots[i]? = some (f i)) (W : Wr h h' a j.toNatClampNeg v) (hj : ¬ (j < 0 ∨ c.slots.size ≤ j.toNatClampNeg)) : ArF Z h' a ty n (fun i => if i = j.toNatClampNeg then v else f i) := by
  refine ⟨_, A.same W, by rw [sz_set]; exact S, fun i hi => ?_⟩
  have hjl : j.toNatClampNeg < c.slots.size := Nat.lt_of_not_le fun y => hj (Or.inr y)
  show (c.slots.setIfInBounds j.toNatClampNeg v)[i]? = some (if i = j.toNatClampNeg then v else f i)
  rw [Array.getElem?_setIfInBounds]
  by_cases e : j.toNatClampNeg = i
  · rw [if_pos e, if_pos hjl, if_pos e.symm]
  · rw [if_neg e, if_neg (Ne.symm e)]; exact H i hi
theorem ArF.at {n : Nat} {f : Nat → Value} {c : Cell} {j : Int32} {v : Value} (S : c.slots.size = n) (H : ∀ i, i < n → c.slots[i]? = some (f i)) (hj : ¬ (j < 0 ∨ c.slots.size ≤ j.toNatClampNeg)) (e : f j.toNatClampNeg = v) : c.slots[j.toNatClampNeg]? = some v := by
  rw [← e]; exact H _ (S ▸ Nat.lt_of_not_le fun y => hj (Or.inr y))
theorem inA {n : Nat} {c : Cell} {j : Int32} (S : c.slots.size = n) (h0 : ¬ j < 0) (h1 : j.toNatClampNeg < n) : ¬ (j < 0 ∨ c.slots.size ≤ j.toNatClampNeg) := fun q => q.elim h0 fun r => Nat.not_lt.mpr (S ▸ r) h1
theorem ArF.congr {Z : State} {h : Heap} {a : Addr} {ty : FieldType} {n : Nat} {f g : Nat → Value} (F : ArF Z h a ty n f) (q : ∀ i, i < n → f i = g i) : ArF Z h a ty n g := by obtain ⟨c, A, S, H⟩ := F; exact ⟨c, A, S, fun i hi => (H i hi).trans (congrArg some (q i hi))⟩
theorem Sta.keep0 {Z : State} {h h' : Heap} {C n d : String} {v : Value} (F : Sta Z h C n d v) (K : Keep h h' []) : Sta Z h' C n d v := by obtain ⟨cf, i, k, f, st, cell, h1, h2, h3, h4, h5, r⟩ := F; exact ⟨cf, i, k, f, st, cell, h1, h2, h3, h4, K.2.1 _ _ h5 nin0, r⟩
theorem pd_0 : parseMethodDescriptor "(JJI)I" = some ⟨[.long, .long, .int], some .int⟩ := by decide +kernel
theorem pd_1 : parseMethodDescriptor "([JI[CIZ[C)I" = some ⟨[(.array .long), .int, (.array .char), .int, .boolean, (.array .char)], some .int⟩ := by decide +kernel
def own_j (c fw : Int32) : Int32 := ((c.toUInt32 >>> ((6 : Int32) &&& 31).toUInt32).toInt32) - fw
def own_x (g : Nat → Int64) (fw fl c : Int32) : Int32 := ((((((g (own_j c fw).toNatClampNeg).toUInt64 >>> (c &&& 0x3f).toInt64.toUInt64).toInt64)).toInt32) &&& (1 : Int32)) ^^^ fl
def own_c (x v : Int32) : List Int32 := if x = (0 : Int32) then [] else [v]
def own_sel (n : Int32) (x f : Nat → Int32) : List Int32 := (if (0 : Int32) < n then own_c (x 0) (f 0) else []) ++ ((if (1 : Int32) < n then own_c (x 1) (f 1) else []) ++ (if (2 : Int32) < n then own_c (x 2) (f 2) else []))
def own_len (L : List Int32) : Int32 := Int32.ofNat L.length
def own_fit (L : List Int32) (F : Nat → Int32) : Prop := ∀ i, i < L.length → F i = L.getD i 0
def own_B (c : Int32) : Prop := 0 ≤ c.toInt ∧ c.toInt < 65536
theorem own_nar {c : Int32} (h : own_B c) : nar .char c = c := Int32.toInt_inj.mp (by
  have := c_i2c c
  have h1 := h.1
  have h2 := h.2
  show (c.toUInt32.toUInt16.toUInt32.toInt32).toInt = c.toInt
  omega)
theorem own_01 (g : Nat → Int64) (fw fl c : Int32) (hf : fl = 0 ∨ fl = 1) : own_x g fw fl c = 0 ∨ own_x g fw fl c = 1 := by
  unfold own_x
  rcases and_one ((((g (own_j c fw).toNatClampNeg).toUInt64 >>> (c &&& 0x3f).toInt64.toUInt64).toInt64)).toInt32 with h | h <;> rcases hf with hf | hf <;> rw [h, hf]
  · exact Or.inl rfl
  · exact Or.inr rfl
  · exact Or.inr rfl
  · exact Or.inl rfl
def own_in (f : Nat → Int32) (fw : Int32) : Prop := ∀ i, i < 3 → own_B (f i) ∧ ¬ own_j (f i) fw < 0 ∧ (own_j (f i) fw).toNatClampNeg < 2
def own_nf (p5 : Int32) : Int32 := if p5 = (0 : Int32) then (1 : Int32) else (0 : Int32)
theorem own_nf01 (p : Int32) : own_nf p = 0 ∨ own_nf p = 1 := by
  unfold own_nf
  split
  · exact Or.inr rfl
  · exact Or.inl rfl
def own_bit (q1 : Int64) (q2 : Int64) (p3 : Int32) : Int32 := if p3 < (64 : Int32) then ((((q1.toUInt64 >>> (p3 &&& 0x3f).toInt64.toUInt64).toInt64).toInt32) &&& (1 : Int32)) else ((((q2.toUInt64 >>> ((p3 - (64 : Int32)) &&& 0x3f).toInt64.toUInt64).toInt64).toInt32) &&& (1 : Int32))
theorem d2_0 : decode method_2_code 0 = .ok (.iload 4, 2) := by decide +kernel
theorem d2_2 : decode method_2_code 2 = .ok (.bipush 64, 2) := by decide +kernel
theorem d2_4 : decode method_2_code 4 = .ok (.if_icmp .ge 13, 3) := by decide +kernel
theorem d2_7 : decode method_2_code 7 = .ok (.lload_n 0, 1) := by decide +kernel
theorem d2_8 : decode method_2_code 8 = .ok (.iload 4, 2) := by decide +kernel
theorem d2_10 : decode method_2_code 10 = .ok (.lushr, 1) := by decide +kernel
theorem d2_11 : decode method_2_code 11 = .ok (.l2i, 1) := by decide +kernel
theorem d2_12 : decode method_2_code 12 = .ok (.iconst 1, 1) := by decide +kernel
theorem d2_13 : decode method_2_code 13 = .ok (.iand, 1) := by decide +kernel
theorem d2_14 : decode method_2_code 14 = .ok (.goto 13, 3) := by decide +kernel
theorem d2_17 : decode method_2_code 17 = .ok (.lload_n 2, 1) := by decide +kernel
theorem d2_18 : decode method_2_code 18 = .ok (.iload 4, 2) := by decide +kernel
theorem d2_20 : decode method_2_code 20 = .ok (.bipush 64, 2) := by decide +kernel
theorem d2_22 : decode method_2_code 22 = .ok (.isub, 1) := by decide +kernel
theorem d2_23 : decode method_2_code 23 = .ok (.lushr, 1) := by decide +kernel
theorem d2_24 : decode method_2_code 24 = .ok (.l2i, 1) := by decide +kernel
theorem d2_25 : decode method_2_code 25 = .ok (.iconst 1, 1) := by decide +kernel
theorem d2_26 : decode method_2_code 26 = .ok (.iand, 1) := by decide +kernel
theorem d2_27 : decode method_2_code 27 = .ok (.ireturn, 1) := by decide +kernel
theorem pn_rm2 : plainName "com/example/bitstrata/bitstrata/BitsetChunkFilterPinLaw" = true := by first | (simp [plainName, overriddenIn]; done) | decide +kernel
theorem ef_rm2 (m : MethodId) (x0 : Int64) (x1 : Int64) (x2 : Int32) : entryFrame m #[(.long x0), (.long x1), (.int x2)] 5 = mkF m 0 #[.val (.long x0), .second, .val (.long x1), .second, .val (.int x2)] [] := by first | (simp [entryFrame, mkF, argsToLocals, Value.category]; done) | rfl
def Q_rm2 (Z : State) (q1 : Int64) (q2 : Int64) (p3 : Int32) (h0 : Heap) (n0 : Nat) (v : Option Value) (h : Heap) (L : List Loc) : Prop := v = some (.int (own_bit q1 q2 p3)) ∧ Fr n0 L ∧ h = h0
set_option maxRecDepth 65536 in
set_option maxHeartbeats 40000000 in
theorem rm2 (l : Launch) (Z : State) (a0 : Array Value) (hw : ∀ d ∈ tables_1, d.before a0 Z = true) (ws : List Jvm.Cond) (q1 : Int64) (q2 : Int64) (p3 : Int32) (h0 : Heap) (n0 : Nat) (Z0 : n0 ≤ h0.size) :
    MetFree l (⟨"com/example/bitstrata/bitstrata/BitsetChunkFilterPinLaw", "bit", "(JJI)I"⟩ : MethodName) (head1 (Jvm.Cond.code (⟨"com/example/bitstrata/bitstrata/BitsetChunkFilterPinLaw", "bit", "(JJI)I"⟩ : MethodName) method_2_code 5 (some .int) :: ws) ({ frames := 0, cells := 0, slots := 0, locals := 0 } : Room)) (fun a U => a = #[(.long q1), (.long q2), (.int p3)] ∧ Z.Warmed39 U.vm ∧ U.heap = h0) (fun _ _ _ _ _ => True) (fun _ U o U' => ∃ v L, o = .returned v ∧ Q_rm2 Z q1 q2 p3 h0 n0 v U'.heap L ∧ FrameEnd U o U' L ({ frames := 0, cells := 0, slots := 0, locals := 0 } : Room).cells ({ frames := 0, cells := 0, slots := 0, locals := 0 } : Room).slots) := by
  refine MetFree.of_bodySF (plainFor_of_name pn_rm2) hisR ?_
  intro p e s m args below meth c s₁ Bd hml0 hP hK
  obtain ⟨rfl, hZ, hh⟩ := hP
  have hx := Bd.exec
  have hby := Bd.bytes
  have hml : c.maxLocals = 5 := hml0
  have hown : s.vm.findClass "com/example/bitstrata/bitstrata/BitsetChunkFilterPinLaw" = some m.cls := findClass_of_methodNamed Bd.named
  have hnm := (name_of_methodNamed Bd.named Bd.method).1
  have X0 : Stand p l e ({ frames := 0, cells := 0, slots := 0, locals := 0 } : Room) s m #[(.long q1), (.long q2), (.int p3)] below meth c s₁ [] 0 0 := Stand.of_body Bd
  have e0 : s₁.heap = h0 := by rw [← hh, Bd.state]; rfl
  have N0 := Fr.nil n0
  have pre0 : ∀ t, Steps p.tables e below (s₁.setTop (mkF m 0 #[.val (.long q1), .second, .val (.long q2), .second, .val (.int p3)] [])) t → Steps p.tables e below (s₁.setTop (entryFrame m #[(.long q1), (.long q2), (.int p3)] 5)) t := fun t k => castTop (ef_rm2 m q1 q2 p3) k
  have pre1 : ∀ t, Steps p.tables e below (s₁.setTop (mkF m 4 #[.val (.long q1), .second, .val (.long q2), .second, .val (.int p3)] [(.int (64 : Int32)), (.int p3)])) t → Steps p.tables e below (s₁.setTop (entryFrame m #[(.long q1), (.long q2), (.int p3)] 5)) t := by
    intro t k
    refine pre0 t ?_
    show Steps p.tables e below (s₁.setTop (mkF m 0 #[.val (.long q1), .second, .val (.long q2), .second, .val (.int p3)] [])) _
    refine XS.iload X0.here hx rfl (hb hby d2_0) rfl ?_
    refine XS.bipush X0.here hx rfl (hb hby d2_2) ?_
    exact k
  by_cases hc4_2 : p3 < (64 : Int32)
  · obtain ⟨fs, hr, hrun, hended, hW, hsame⟩ := X0.leave (v := some (.int ((((q1.toUInt64 >>> (p3 &&& 0x3f).toInt64.toUInt64).toInt64).toInt32) &&& (1 : Int32)))) (fun h => by rw [Bd.returns] at h; cases h)
    refine ⟨_, _, pre1 _ ?_, hrun, hended, _, _, rfl, ?_, ⟨_, rfl⟩, hW, hsame.mono (by decide) (by decide)⟩
    · show Steps p.tables e below (s₁.setTop (mkF m 4 #[.val (.long q1), .second, .val (.long q2), .second, .val (.int p3)] [(.int (64 : Int32)), (.int p3)])) _
      refine XS.icmpNo X0.here hx rfl (hb hby d2_4) rfl (tlt hc4_2).2.1 ?_
      show Steps p.tables e below (s₁.setTop (mkF m 7 #[.val (.long q1), .second, .val (.long q2), .second, .val (.int p3)] [])) _
      refine XS.lloadN X0.here hx rfl (hb hby d2_7) rfl ?_
      refine XS.iload X0.here hx rfl (hb hby d2_8) rfl ?_
      refine XS.lushr X0.here hx rfl (hb hby d2_10) rfl ?_
      show Steps p.tables e below (s₁.setTop (mkF m 11 #[.val (.long q1), .second, .val (.long q2), .second, .val (.int p3)] [(.long ((q1.toUInt64 >>> (p3 &&& 0x3f).toInt64.toUInt64).toInt64))])) _
      refine XS.l2i X0.here hx rfl (hb hby d2_11) rfl ?_
      refine XS.iconst X0.here hx rfl (hb hby d2_12) ?_
      refine XS.iand X0.here hx rfl (hb hby d2_13) rfl ?_
      show Steps p.tables e below (s₁.setTop (mkF m 14 #[.val (.long q1), .second, .val (.long q2), .second, .val (.int p3)] [(.int ((((q1.toUInt64 >>> (p3 &&& 0x3f).toInt64.toUInt64).toInt64).toInt32) &&& (1 : Int32)))])) _
      refine XS.goto X0.here hx rfl (pc0 := 14) (pc' := 27) rfl (hb hby d2_14) (by decide) (by decide) ?_
      show Steps p.tables e below (s₁.setTop (mkF m 27 #[.val (.long q1), .second, .val (.long q2), .second, .val (.int p3)] [(.int ((((q1.toUInt64 >>> (p3 &&& 0x3f).toInt64.toUInt64).toInt64).toInt32) &&& (1 : Int32)))])) _
      exact retI X0 hx Bd.returns (hb hby d2_27) hr
    · show Q_rm2 Z q1 q2 p3 h0 n0 _ s₁.heap _
      rw [e0]
      exact ⟨by rw [own_bit, if_pos hc4_2], N0, rfl⟩
  · obtain ⟨fs, hr, hrun, hended, hW, hsame⟩ := X0.leave (v := some (.int ((((q2.toUInt64 >>> ((p3 - (64 : Int32)) &&& 0x3f).toInt64.toUInt64).toInt64).toInt32) &&& (1 : Int32)))) (fun h => by rw [Bd.returns] at h; cases h)
    refine ⟨_, _, pre1 _ ?_, hrun, hended, _, _, rfl, ?_, ⟨_, rfl⟩, hW, hsame.mono (by decide) (by decide)⟩
    · show Steps p.tables e below (s₁.setTop (mkF m 4 #[.val (.long q1), .second, .val (.long q2), .second, .val (.int p3)] [(.int (64 : Int32)), (.int p3)])) _
      refine XS.icmpYes X0.here hx rfl (pc0 := 4) (pc' := 17) rfl (hb hby d2_4) rfl (flt hc4_2).2.1 (by decide) (by decide) ?_
      show Steps p.tables e below (s₁.setTop (mkF m 17 #[.val (.long q1), .second, .val (.long q2), .second, .val (.int p3)] [])) _
      refine XS.lloadN X0.here hx rfl (hb hby d2_17) rfl ?_
      refine XS.iload X0.here hx rfl (hb hby d2_18) rfl ?_
      refine XS.bipush X0.here hx rfl (hb hby d2_20) ?_
      show Steps p.tables e below (s₁.setTop (mkF m 22 #[.val (.long q1), .second, .val (.long q2), .second, .val (.int p3)] [(.int (64 : Int32)), (.int p3), (.long q2)])) _
      refine XS.isub X0.here hx rfl (hb hby d2_22) rfl ?_
      show Steps p.tables e below (s₁.setTop (mkF m 23 #[.val (.long q1), .second, .val (.long q2), .second, .val (.int p3)] [(.int (p3 - (64 : Int32))), (.long q2)])) _
      refine XS.lushr X0.here hx rfl (hb hby d2_23) rfl ?_
      show Steps p.tables e below (s₁.setTop (mkF m 24 #[.val (.long q1), .second, .val (.long q2), .second, .val (.int p3)] [(.long ((q2.toUInt64 >>> ((p3 - (64 : Int32)) &&& 0x3f).toInt64.toUInt64).toInt64))])) _
      refine XS.l2i X0.here hx rfl (hb hby d2_24) rfl ?_
      refine XS.iconst X0.here hx rfl (hb hby d2_25) ?_
      refine XS.iand X0.here hx rfl (hb hby d2_26) rfl ?_
      show Steps p.tables e below (s₁.setTop (mkF m 27 #[.val (.long q1), .second, .val (.long q2), .second, .val (.int p3)] [(.int ((((q2.toUInt64 >>> ((p3 - (64 : Int32)) &&& 0x3f).toInt64.toUInt64).toInt64).toInt32) &&& (1 : Int32)))])) _
      exact retI X0 hx Bd.returns (hb hby d2_27) hr
    · show Q_rm2 Z q1 q2 p3 h0 n0 _ s₁.heap _
      rw [e0]
      exact ⟨by rw [own_bit, if_neg hc4_2], N0, rfl⟩
theorem d1_0 : decode prog_30_method_71_code 0 = .ok (.iload 4, 2) := by decide +kernel
theorem d1_2 : decode prog_30_method_71_code 2 = .ok (.ifCond .eq 7, 3) := by decide +kernel
theorem d1_5 : decode prog_30_method_71_code 5 = .ok (.iconst 0, 1) := by decide +kernel
theorem d1_6 : decode prog_30_method_71_code 6 = .ok (.goto 4, 3) := by decide +kernel
theorem d1_9 : decode prog_30_method_71_code 9 = .ok (.iconst 1, 1) := by decide +kernel
theorem d1_10 : decode prog_30_method_71_code 10 = .ok (.istore 6, 2) := by decide +kernel
theorem d1_12 : decode prog_30_method_71_code 12 = .ok (.iconst 0, 1) := by decide +kernel
theorem d1_13 : decode prog_30_method_71_code 13 = .ok (.istore 7, 2) := by decide +kernel
theorem d1_15 : decode prog_30_method_71_code 15 = .ok (.iconst 0, 1) := by decide +kernel
theorem d1_16 : decode prog_30_method_71_code 16 = .ok (.istore 8, 2) := by decide +kernel
theorem d1_18 : decode prog_30_method_71_code 18 = .ok (.iload 8, 2) := by decide +kernel
theorem d1_20 : decode prog_30_method_71_code 20 = .ok (.iload_n 3, 1) := by decide +kernel
theorem d1_21 : decode prog_30_method_71_code 21 = .ok (.if_icmp .ge 45, 3) := by decide +kernel
theorem d1_24 : decode prog_30_method_71_code 24 = .ok (.aload_n 2, 1) := by decide +kernel
theorem d1_25 : decode prog_30_method_71_code 25 = .ok (.iload 8, 2) := by decide +kernel
theorem d1_27 : decode prog_30_method_71_code 27 = .ok (.caload, 1) := by decide +kernel
theorem d1_28 : decode prog_30_method_71_code 28 = .ok (.istore 9, 2) := by decide +kernel
theorem d1_30 : decode prog_30_method_71_code 30 = .ok (.aload 5, 2) := by decide +kernel
theorem d1_32 : decode prog_30_method_71_code 32 = .ok (.iload 7, 2) := by decide +kernel
theorem d1_34 : decode prog_30_method_71_code 34 = .ok (.iload 9, 2) := by decide +kernel
theorem d1_36 : decode prog_30_method_71_code 36 = .ok (.castore, 1) := by decide +kernel
theorem d1_37 : decode prog_30_method_71_code 37 = .ok (.iload 7, 2) := by decide +kernel
theorem d1_39 : decode prog_30_method_71_code 39 = .ok (.aload_n 0, 1) := by decide +kernel
theorem d1_40 : decode prog_30_method_71_code 40 = .ok (.iload 9, 2) := by decide +kernel
theorem d1_42 : decode prog_30_method_71_code 42 = .ok (.bipush 6, 2) := by decide +kernel
theorem d1_44 : decode prog_30_method_71_code 44 = .ok (.iushr, 1) := by decide +kernel
theorem d1_45 : decode prog_30_method_71_code 45 = .ok (.iload_n 1, 1) := by decide +kernel
theorem d1_46 : decode prog_30_method_71_code 46 = .ok (.isub, 1) := by decide +kernel
theorem d1_47 : decode prog_30_method_71_code 47 = .ok (.laload, 1) := by decide +kernel
theorem d1_48 : decode prog_30_method_71_code 48 = .ok (.iload 9, 2) := by decide +kernel
theorem d1_50 : decode prog_30_method_71_code 50 = .ok (.lushr, 1) := by decide +kernel
theorem d1_51 : decode prog_30_method_71_code 51 = .ok (.l2i, 1) := by decide +kernel
theorem d1_52 : decode prog_30_method_71_code 52 = .ok (.iconst 1, 1) := by decide +kernel
theorem d1_53 : decode prog_30_method_71_code 53 = .ok (.iand, 1) := by decide +kernel
theorem d1_54 : decode prog_30_method_71_code 54 = .ok (.iload 6, 2) := by decide +kernel
theorem d1_56 : decode prog_30_method_71_code 56 = .ok (.ixor, 1) := by decide +kernel
theorem d1_57 : decode prog_30_method_71_code 57 = .ok (.iadd, 1) := by decide +kernel
theorem d1_58 : decode prog_30_method_71_code 58 = .ok (.istore 7, 2) := by decide +kernel
theorem d1_60 : decode prog_30_method_71_code 60 = .ok (.iinc 8 1, 3) := by decide +kernel
theorem d1_63 : decode prog_30_method_71_code 63 = .ok (.goto (-45), 3) := by decide +kernel
theorem d1_66 : decode prog_30_method_71_code 66 = .ok (.iload 7, 2) := by decide +kernel
theorem d1_68 : decode prog_30_method_71_code 68 = .ok (.ireturn, 1) := by decide +kernel
theorem pn_rm1a : plainName "com/example/bitstrata/bitstrata/BitsetChunk" = true := by first | (simp [plainName, overriddenIn]; done) | decide +kernel
theorem ef_rm1a (m : MethodId) (x0 : Addr) (x1 : Int32) (x2 : Addr) (x3 : Int32) (x4 : Int32) (x5 : Addr) : entryFrame m #[(.ref x0), (.int x1), (.ref x5), (.int x3), (.int x4), (.ref x5)] 10 = mkF m 0 #[.val (.ref x0), .val (.int x1), .val (.ref x5), .val (.int x3), .val (.int x4), .val (.ref x5), .unset, .unset, .unset, .unset] [] := by first | (simp [entryFrame, mkF, argsToLocals, Value.category]; done) | rfl
def Q_rm1a (Z : State) (a1 : Addr) (p2 : Int32) (a3 : Addr) (p4 : Int32) (p5 : Int32) (f : Nat → Int32) (g : Nat → Int64) (h0 : Heap) (n0 : Nat) (v : Option Value) (h : Heap) (L : List Loc) : Prop := ∃ F : Nat → Int32, v = some (.int (own_len (own_sel p4 (fun i => own_x g p2 (own_nf p5) (f i)) f))) ∧ Fr n0 L ∧ Keep h0 h [a3] ∧ ArF Z h a3 .char 3 (fun i => .int (F i)) ∧ own_fit (own_sel p4 (fun i => own_x g p2 (own_nf p5) (f i)) f) F
set_option maxRecDepth 65536 in
set_option maxHeartbeats 40000000 in
theorem rm1a (l : Launch) (Z : State) (a0 : Array Value) (hw : ∀ d ∈ tables_1, d.before a0 Z = true) (ws : List Jvm.Cond) (a1 : Addr) (p2 : Int32) (a3 : Addr) (p4 : Int32) (p5 : Int32) (f : Nat → Int32) (g : Nat → Int64) (h0 : Heap) (n0 : Nat) (Z0 : n0 ≤ h0.size) (W0 : ArF Z h0 a1 .long 2 (fun i => .long (g i))) (V0 : ArF Z h0 a3 .char 3 (fun i => .int (f i))) (hix : own_in f p2) (hne : a1 ≠ a3) (ga : n0 ≤ a3) (hcnt : p4 = 0 ∨ p4 = 1 ∨ p4 = 2 ∨ p4 = 3) :
    MetFree l (⟨"com/example/bitstrata/bitstrata/BitsetChunk", "filter", "([JI[CIZ[C)I"⟩ : MethodName) (head1 (Jvm.Cond.code (⟨"com/example/bitstrata/bitstrata/BitsetChunk", "filter", "([JI[CIZ[C)I"⟩ : MethodName) prog_30_method_71_code 10 (some .int) :: ws) ({ frames := 0, cells := 0, slots := 0, locals := 0 } : Room)) (fun a U => a = #[(.ref a1), (.int p2), (.ref a3), (.int p4), (.int p5), (.ref a3)] ∧ Z.Warmed39 U.vm ∧ U.heap = h0) (fun _ _ _ _ _ => True) (fun _ U o U' => ∃ v L, o = .returned v ∧ Q_rm1a Z a1 p2 a3 p4 p5 f g h0 n0 v U'.heap L ∧ FrameEnd U o U' L ({ frames := 0, cells := 0, slots := 0, locals := 0 } : Room).cells ({ frames := 0, cells := 0, slots := 0, locals := 0 } : Room).slots) := by
  refine MetFree.of_bodySF (plainFor_of_name pn_rm1a) hisR ?_
  intro p e s m args below meth c s₁ Bd hml0 hP hK
  obtain ⟨rfl, hZ, hh⟩ := hP
  have hx := Bd.exec
  have hby := Bd.bytes
  have hml : c.maxLocals = 10 := hml0
  have hown : s.vm.findClass "com/example/bitstrata/bitstrata/BitsetChunk" = some m.cls := findClass_of_methodNamed Bd.named
  have hnm := (name_of_methodNamed Bd.named Bd.method).1
  have X0 : Stand p l e ({ frames := 0, cells := 0, slots := 0, locals := 0 } : Room) s m #[(.ref a1), (.int p2), (.ref a3), (.int p4), (.int p5), (.ref a3)] below meth c s₁ [] 0 0 := Stand.of_body Bd
  have e0 : s₁.heap = h0 := by rw [← hh, Bd.state]; rfl
  have N0 := Fr.nil n0
  have pre0 : ∀ t, Steps p.tables e below (s₁.setTop (mkF m 0 #[.val (.ref a1), .val (.int p2), .val (.ref a3), .val (.int p4), .val (.int p5), .val (.ref a3), .unset, .unset, .unset, .unset] [])) t → Steps p.tables e below (s₁.setTop (entryFrame m #[(.ref a1), (.int p2), (.ref a3), (.int p4), (.int p5), (.ref a3)] 10)) t := fun t k => castTop (ef_rm1a m a1 p2 a3 p4 p5 a3) k
  have K0 := Keep.refl h0 [a3]
  have pre1 : ∀ t, Steps p.tables e below (s₁.setTop (mkF m 2 #[.val (.ref a1), .val (.int p2), .val (.ref a3), .val (.int p4), .val (.int p5), .val (.ref a3), .unset, .unset, .unset, .unset] [(.int p5)])) t → Steps p.tables e below (s₁.setTop (entryFrame m #[(.ref a1), (.int p2), (.ref a3), (.int p4), (.int p5), (.ref a3)] 10)) t := by
    intro t k
    refine pre0 t ?_
    show Steps p.tables e below (s₁.setTop (mkF m 0 #[.val (.ref a1), .val (.int p2), .val (.ref a3), .val (.int p4), .val (.int p5), .val (.ref a3), .unset, .unset, .unset, .unset] [])) _
    refine XS.iload X0.here hx rfl (hb hby d1_0) rfl ?_
    exact k
  have pre2 : ∀ t, Steps p.tables e below (s₁.setTop (mkF m 10 #[.val (.ref a1), .val (.int p2), .val (.ref a3), .val (.int p4), .val (.int p5), .val (.ref a3), .unset, .unset, .unset, .unset] [(.int (own_nf p5))])) t → Steps p.tables e below (s₁.setTop (entryFrame m #[(.ref a1), (.int p2), (.ref a3), (.int p4), (.int p5), (.ref a3)] 10)) t := by
    intro t k
    by_cases hd2 : p5 = (0 : Int32)
    · rw [show (own_nf p5) = (1 : Int32) from if_pos hd2] at k
      refine pre1 t ?_
      show Steps p.tables e below (s₁.setTop (mkF m 2 #[.val (.ref a1), .val (.int p2), .val (.ref a3), .val (.int p4), .val (.int p5), .val (.ref a3), .unset, .unset, .unset, .unset] [(.int p5)])) _
      refine XS.ifYes X0.here hx rfl (pc0 := 2) (pc' := 9) rfl (hb hby d1_2) rfl ((if0 _ _).trans (teq (hd2 : (p5 = (0 : Int32)))).1) (by decide) (by decide) ?_
      show Steps p.tables e below (s₁.setTop (mkF m 9 #[.val (.ref a1), .val (.int p2), .val (.ref a3), .val (.int p4), .val (.int p5), .val (.ref a3), .unset, .unset, .unset, .unset] [])) _
      refine XS.iconst X0.here hx rfl (hb hby d1_9) ?_
      exact k
    · rw [show (own_nf p5) = (0 : Int32) from if_neg hd2] at k
      refine pre1 t ?_
      show Steps p.tables e below (s₁.setTop (mkF m 2 #[.val (.ref a1), .val (.int p2), .val (.ref a3), .val (.int p4), .val (.int p5), .val (.ref a3), .unset, .unset, .unset, .unset] [(.int p5)])) _
      refine XS.ifNo X0.here hx rfl (hb hby d1_2) rfl ((if0 _ _).trans (feq (hd2 : ¬ (p5 = (0 : Int32)))).1) ?_
      show Steps p.tables e below (s₁.setTop (mkF m 5 #[.val (.ref a1), .val (.int p2), .val (.ref a3), .val (.int p4), .val (.int p5), .val (.ref a3), .unset, .unset, .unset, .unset] [])) _
      refine XS.iconst X0.here hx rfl (hb hby d1_5) ?_
      refine XS.goto X0.here hx rfl (pc0 := 6) (pc' := 10) rfl (hb hby d1_6) (by decide) (by decide) ?_
      exact k
  have pre3 : ∀ t, Steps p.tables e below (s₁.setTop (mkF m 12 #[.val (.ref a1), .val (.int p2), .val (.ref a3), .val (.int p4), .val (.int p5), .val (.ref a3), .val (.int (own_nf p5)), .unset, .unset, .unset] [])) t → Steps p.tables e below (s₁.setTop (entryFrame m #[(.ref a1), (.int p2), (.ref a3), (.int p4), (.int p5), (.ref a3)] 10)) t := by
    intro t k
    refine pre2 t ?_
    show Steps p.tables e below (s₁.setTop (mkF m 10 #[.val (.ref a1), .val (.int p2), .val (.ref a3), .val (.int p4), .val (.int p5), .val (.ref a3), .unset, .unset, .unset, .unset] [(.int (own_nf p5))])) _
    refine XS.istore X0.here hx rfl (hb hby d1_10) rfl (l' := #[.val (.ref a1), .val (.int p2), .val (.ref a3), .val (.int p4), .val (.int p5), .val (.ref a3), .val (.int (own_nf p5)), .unset, .unset, .unset]) rfl ?_
    exact k
  rcases hcnt with hk | hk | hk | hk
  · obtain ⟨fs, hr, hrun, hended, hW, hsame⟩ := X0.leave (v := some (.int (0 : Int32))) (fun h => by rw [Bd.returns] at h; cases h)
    refine ⟨_, _, pre3 _ ?_, hrun, hended, _, _, rfl, ?_, ⟨_, rfl⟩, hW, hsame.mono (by decide) (by decide)⟩
    · show Steps p.tables e below (s₁.setTop (mkF m 12 #[.val (.ref a1), .val (.int p2), .val (.ref a3), .val (.int p4), .val (.int p5), .val (.ref a3), .val (.int (own_nf p5)), .unset, .unset, .unset] [])) _
      refine XS.iconst X0.here hx rfl (hb hby d1_12) ?_
      refine XS.istore X0.here hx rfl (hb hby d1_13) rfl (l' := #[.val (.ref a1), .val (.int p2), .val (.ref a3), .val (.int p4), .val (.int p5), .val (.ref a3), .val (.int (own_nf p5)), .val (.int (0 : Int32)), .unset, .unset]) rfl ?_
      show Steps p.tables e below (s₁.setTop (mkF m 15 #[.val (.ref a1), .val (.int p2), .val (.ref a3), .val (.int p4), .val (.int p5), .val (.ref a3), .val (.int (own_nf p5)), .val (.int (0 : Int32)), .unset, .unset] [])) _
      refine XS.iconst X0.here hx rfl (hb hby d1_15) ?_
      refine XS.istore X0.here hx rfl (hb hby d1_16) rfl (l' := #[.val (.ref a1), .val (.int p2), .val (.ref a3), .val (.int p4), .val (.int p5), .val (.ref a3), .val (.int (own_nf p5)), .val (.int (0 : Int32)), .val (.int (0 : Int32)), .unset]) rfl ?_
      show Steps p.tables e below (s₁.setTop (mkF m 18 #[.val (.ref a1), .val (.int p2), .val (.ref a3), .val (.int p4), .val (.int p5), .val (.ref a3), .val (.int (own_nf p5)), .val (.int (0 : Int32)), .val (.int (0 : Int32)), .unset] [])) _
      refine XS.iload X0.here hx rfl (hb hby d1_18) rfl ?_
      refine XS.iloadN X0.here hx rfl (hb hby d1_20) rfl ?_
      refine XS.icmpYes X0.here hx rfl (pc0 := 21) (pc' := 66) rfl (hb hby d1_21) rfl (flt ((by rw [hk]; decide) : ¬ ((0 : Int32) < p4))).2.1 (by decide) (by decide) ?_
      show Steps p.tables e below (s₁.setTop (mkF m 66 #[.val (.ref a1), .val (.int p2), .val (.ref a3), .val (.int p4), .val (.int p5), .val (.ref a3), .val (.int (own_nf p5)), .val (.int (0 : Int32)), .val (.int (0 : Int32)), .unset] [])) _
      refine XS.iload X0.here hx rfl (hb hby d1_66) rfl ?_
      show Steps p.tables e below (s₁.setTop (mkF m 68 #[.val (.ref a1), .val (.int p2), .val (.ref a3), .val (.int p4), .val (.int p5), .val (.ref a3), .val (.int (own_nf p5)), .val (.int (0 : Int32)), .val (.int (0 : Int32)), .unset] [(.int (0 : Int32))])) _
      exact retI X0 hx Bd.returns (hb hby d1_68) hr
    · show Q_rm1a Z a1 p2 a3 p4 p5 f g h0 n0 _ s₁.heap _
      rw [e0]
      have hs : (own_sel p4 (fun i => own_x g p2 (own_nf p5) (f i)) f) = [] := by
        show (if (0 : Int32) < p4 then (if own_x g p2 (own_nf p5) (f 0) = (0 : Int32) then [] else [f 0]) else []) ++ ((if (1 : Int32) < p4 then (if own_x g p2 (own_nf p5) (f 1) = (0 : Int32) then [] else [f 1]) else []) ++ (if (2 : Int32) < p4 then (if own_x g p2 (own_nf p5) (f 2) = (0 : Int32) then [] else [f 2]) else [])) = _
        rw [hk]; rfl
      have hV : ArF Z h0 a3 .char 3 (fun i => .int ((fun i => if i = 0 then (f 0) else if i = 1 then (f 1) else (f 2)) i)) := V0.congr (fun i hi => by
        match i, hi with
        | 0, _ => rfl
        | 1, _ => rfl
        | 2, _ => rfl)
      exact ⟨(fun i => if i = 0 then (f 0) else if i = 1 then (f 1) else (f 2)), by rw [hs]; rfl, N0, K0, hV, (by rw [hs]; intro i hi; exact absurd hi (Nat.not_lt_zero i))⟩
  · obtain ⟨cl4, Ar4, S4, H4⟩ := id V0
    have hin4 : ¬ ((0 : Int32) < 0 ∨ cl4.slots.size ≤ ((0 : Int32)).toNatClampNeg) := inA S4 (by decide) (by decide)
    have hat4 : cl4.slots[((0 : Int32)).toNatClampNeg]? = some (.int (f 0)) := ArF.at S4 H4 hin4 rfl
    obtain ⟨cl5, Ar5, S5, H5⟩ := id V0
    have hin5 : ¬ ((0 : Int32) < 0 ∨ cl5.slots.size ≤ ((0 : Int32)).toNatClampNeg) := inA S5 (by decide) (by decide)
    obtain ⟨T5, h5, X5, e5, W5, st5⟩ := stC X0 hx hZ e0 Ar5 (j := (0 : Int32)) hin5 (g := (mkF m 36 #[.val (.ref a1), .val (.int p2), .val (.ref a3), .val (.int p4), .val (.int p5), .val (.ref a3), .val (.int (own_nf p5)), .val (.int (0 : Int32)), .val (.int (0 : Int32)), .val (.int (f 0))] [(.int (f 0)), (.int (0 : Int32)), (.ref a3)])) rfl rfl (hb hby d1_36)
    have W0_v5 := W0.other W5 hne
    have Z5 : n0 ≤ h5.size := Nat.le_trans Z0 (Nat.le_of_eq W5.size.symm)
    have K5 := K0.wr W5 (Or.inl (by simp))
    have V5_v5 := ArF.set Ar5 S5 H5 W5 hin5
    have N5 := Fr.snoc X5 N0 ga
    obtain ⟨cl6, Ar6, S6, H6⟩ := id W0_v5
    have hin6 : ¬ ((own_j (f 0) p2) < 0 ∨ cl6.slots.size ≤ ((own_j (f 0) p2)).toNatClampNeg) := inA S6 (hix 0 (by decide)).2.1 (hix 0 (by decide)).2.2
    have hat6 : cl6.slots[((own_j (f 0) p2)).toNatClampNeg]? = some (.long (g (own_j (f 0) p2).toNatClampNeg)) := ArF.at S6 H6 hin6 rfl
    have pre7 : ∀ t, Steps p.tables e below (T5.setTop (mkF m 57 #[.val (.ref a1), .val (.int p2), .val (.ref a3), .val (.int p4), .val (.int p5), .val (.ref a3), .val (.int (own_nf p5)), .val (.int (0 : Int32)), .val (.int (0 : Int32)), .val (.int (f 0))] [(.int (own_x g p2 (own_nf p5) (f 0))), (.int (0 : Int32))])) t → Steps p.tables e below (s₁.setTop (entryFrame m #[(.ref a1), (.int p2), (.ref a3), (.int p4), (.int p5), (.ref a3)] 10)) t := by
      intro t k
      refine pre3 t ?_
      show Steps p.tables e below (s₁.setTop (mkF m 12 #[.val (.ref a1), .val (.int p2), .val (.ref a3), .val (.int p4), .val (.int p5), .val (.ref a3), .val (.int (own_nf p5)), .unset, .unset, .unset] [])) _
      refine XS.iconst X0.here hx rfl (hb hby d1_12) ?_
      refine XS.istore X0.here hx rfl (hb hby d1_13) rfl (l' := #[.val (.ref a1), .val (.int p2), .val (.ref a3), .val (.int p4), .val (.int p5), .val (.ref a3), .val (.int (own_nf p5)), .val (.int (0 : Int32)), .unset, .unset]) rfl ?_
      show Steps p.tables e below (s₁.setTop (mkF m 15 #[.val (.ref a1), .val (.int p2), .val (.ref a3), .val (.int p4), .val (.int p5), .val (.ref a3), .val (.int (own_nf p5)), .val (.int (0 : Int32)), .unset, .unset] [])) _
      refine XS.iconst X0.here hx rfl (hb hby d1_15) ?_
      refine XS.istore X0.here hx rfl (hb hby d1_16) rfl (l' := #[.val (.ref a1), .val (.int p2), .val (.ref a3), .val (.int p4), .val (.int p5), .val (.ref a3), .val (.int (own_nf p5)), .val (.int (0 : Int32)), .val (.int (0 : Int32)), .unset]) rfl ?_
      show Steps p.tables e below (s₁.setTop (mkF m 18 #[.val (.ref a1), .val (.int p2), .val (.ref a3), .val (.int p4), .val (.int p5), .val (.ref a3), .val (.int (own_nf p5)), .val (.int (0 : Int32)), .val (.int (0 : Int32)), .unset] [])) _
      refine XS.iload X0.here hx rfl (hb hby d1_18) rfl ?_
      refine XS.iloadN X0.here hx rfl (hb hby d1_20) rfl ?_
      refine XS.icmpNo X0.here hx rfl (hb hby d1_21) rfl (tlt ((by rw [hk]; decide) : ((0 : Int32) < p4))).2.1 ?_
      show Steps p.tables e below (s₁.setTop (mkF m 24 #[.val (.ref a1), .val (.int p2), .val (.ref a3), .val (.int p4), .val (.int p5), .val (.ref a3), .val (.int (own_nf p5)), .val (.int (0 : Int32)), .val (.int (0 : Int32)), .unset] [])) _
      refine XS.aloadN X0.here hx rfl (hb hby d1_24) rfl rfl ?_
      refine XS.iload X0.here hx rfl (hb hby d1_25) rfl ?_
      show Steps p.tables e below (s₁.setTop (mkF m 27 #[.val (.ref a1), .val (.int p2), .val (.ref a3), .val (.int p4), .val (.int p5), .val (.ref a3), .val (.int (own_nf p5)), .val (.int (0 : Int32)), .val (.int (0 : Int32)), .unset] [(.int (0 : Int32)), (.ref a3)])) _
      refine X0.caload hx (j := (0 : Int32)) (v := (.int (f 0))) (by rw [e0]; exact Ar4.1) (State.isArrayOf_alike hZ.alike Ar4.2.1) Ar4.2.2 hin4 hat4 (g := (mkF m 27 #[.val (.ref a1), .val (.int p2), .val (.ref a3), .val (.int p4), .val (.int p5), .val (.ref a3), .val (.int (own_nf p5)), .val (.int (0 : Int32)), .val (.int (0 : Int32)), .unset] [(.int (0 : Int32)), (.ref a3)])) rfl rfl (hb hby d1_27) _ ?_
      show Steps p.tables e below (s₁.setTop (mkF m 28 #[.val (.ref a1), .val (.int p2), .val (.ref a3), .val (.int p4), .val (.int p5), .val (.ref a3), .val (.int (own_nf p5)), .val (.int (0 : Int32)), .val (.int (0 : Int32)), .unset] [(.int (f 0))])) _
      refine XS.istore X0.here hx rfl (hb hby d1_28) rfl (l' := #[.val (.ref a1), .val (.int p2), .val (.ref a3), .val (.int p4), .val (.int p5), .val (.ref a3), .val (.int (own_nf p5)), .val (.int (0 : Int32)), .val (.int (0 : Int32)), .val (.int (f 0))]) rfl ?_
      show Steps p.tables e below (s₁.setTop (mkF m 30 #[.val (.ref a1), .val (.int p2), .val (.ref a3), .val (.int p4), .val (.int p5), .val (.ref a3), .val (.int (own_nf p5)), .val (.int (0 : Int32)), .val (.int (0 : Int32)), .val (.int (f 0))] [])) _
      refine XS.aload X0.here hx rfl (hb hby d1_30) rfl rfl ?_
      refine XS.iload X0.here hx rfl (hb hby d1_32) rfl ?_
      refine XS.iload X0.here hx rfl (hb hby d1_34) rfl ?_
      show Steps p.tables e below (s₁.setTop (mkF m 36 #[.val (.ref a1), .val (.int p2), .val (.ref a3), .val (.int p4), .val (.int p5), .val (.ref a3), .val (.int (own_nf p5)), .val (.int (0 : Int32)), .val (.int (0 : Int32)), .val (.int (f 0))] [(.int (f 0)), (.int (0 : Int32)), (.ref a3)])) _
      refine st5 _ ?_
      show Steps p.tables e below (T5.setTop (mkF m 37 #[.val (.ref a1), .val (.int p2), .val (.ref a3), .val (.int p4), .val (.int p5), .val (.ref a3), .val (.int (own_nf p5)), .val (.int (0 : Int32)), .val (.int (0 : Int32)), .val (.int (f 0))] [])) _
      refine XS.iload X5.here hx rfl (hb hby d1_37) rfl ?_
      refine XS.aloadN X5.here hx rfl (hb hby d1_39) rfl rfl ?_
      refine XS.iload X5.here hx rfl (hb hby d1_40) rfl ?_
      show Steps p.tables e below (T5.setTop (mkF m 42 #[.val (.ref a1), .val (.int p2), .val (.ref a3), .val (.int p4), .val (.int p5), .val (.ref a3), .val (.int (own_nf p5)), .val (.int (0 : Int32)), .val (.int (0 : Int32)), .val (.int (f 0))] [(.int (f 0)), (.ref a1), (.int (0 : Int32))])) _
      refine XS.bipush X5.here hx rfl (hb hby d1_42) ?_
      refine XS.iushr X5.here hx rfl (hb hby d1_44) rfl ?_
      show Steps p.tables e below (T5.setTop (mkF m 45 #[.val (.ref a1), .val (.int p2), .val (.ref a3), .val (.int p4), .val (.int p5), .val (.ref a3), .val (.int (own_nf p5)), .val (.int (0 : Int32)), .val (.int (0 : Int32)), .val (.int (f 0))] [(.int (((f 0).toUInt32 >>> ((6 : Int32) &&& 31).toUInt32).toInt32)), (.ref a1), (.int (0 : Int32))])) _
      refine XS.iloadN X5.here hx rfl (hb hby d1_45) rfl ?_
      refine XS.isub X5.here hx rfl (hb hby d1_46) rfl ?_
      show Steps p.tables e below (T5.setTop (mkF m 47 #[.val (.ref a1), .val (.int p2), .val (.ref a3), .val (.int p4), .val (.int p5), .val (.ref a3), .val (.int (own_nf p5)), .val (.int (0 : Int32)), .val (.int (0 : Int32)), .val (.int (f 0))] [(.int (own_j (f 0) p2)), (.ref a1), (.int (0 : Int32))])) _
      refine X5.laload hx (j := (own_j (f 0) p2)) (v := (.long (g (own_j (f 0) p2).toNatClampNeg))) (by rw [e5]; exact Ar6.1) (State.isArrayOf_alike hZ.alike Ar6.2.1) Ar6.2.2 hin6 hat6 (g := (mkF m 47 #[.val (.ref a1), .val (.int p2), .val (.ref a3), .val (.int p4), .val (.int p5), .val (.ref a3), .val (.int (own_nf p5)), .val (.int (0 : Int32)), .val (.int (0 : Int32)), .val (.int (f 0))] [(.int (own_j (f 0) p2)), (.ref a1), (.int (0 : Int32))])) rfl rfl (hb hby d1_47) _ ?_
      show Steps p.tables e below (T5.setTop (mkF m 48 #[.val (.ref a1), .val (.int p2), .val (.ref a3), .val (.int p4), .val (.int p5), .val (.ref a3), .val (.int (own_nf p5)), .val (.int (0 : Int32)), .val (.int (0 : Int32)), .val (.int (f 0))] [(.long (g (own_j (f 0) p2).toNatClampNeg)), (.int (0 : Int32))])) _
      refine XS.iload X5.here hx rfl (hb hby d1_48) rfl ?_
      refine XS.lushr X5.here hx rfl (hb hby d1_50) rfl ?_
      show Steps p.tables e below (T5.setTop (mkF m 51 #[.val (.ref a1), .val (.int p2), .val (.ref a3), .val (.int p4), .val (.int p5), .val (.ref a3), .val (.int (own_nf p5)), .val (.int (0 : Int32)), .val (.int (0 : Int32)), .val (.int (f 0))] [(.long (((g (own_j (f 0) p2).toNatClampNeg).toUInt64 >>> ((f 0) &&& 0x3f).toInt64.toUInt64).toInt64)), (.int (0 : Int32))])) _
      refine XS.l2i X5.here hx rfl (hb hby d1_51) rfl ?_
      refine XS.iconst X5.here hx rfl (hb hby d1_52) ?_
      refine XS.iand X5.here hx rfl (hb hby d1_53) rfl ?_
      show Steps p.tables e below (T5.setTop (mkF m 54 #[.val (.ref a1), .val (.int p2), .val (.ref a3), .val (.int p4), .val (.int p5), .val (.ref a3), .val (.int (own_nf p5)), .val (.int (0 : Int32)), .val (.int (0 : Int32)), .val (.int (f 0))] [(.int (((((g (own_j (f 0) p2).toNatClampNeg).toUInt64 >>> ((f 0) &&& 0x3f).toInt64.toUInt64).toInt64).toInt32) &&& (1 : Int32))), (.int (0 : Int32))])) _
      refine XS.iload X5.here hx rfl (hb hby d1_54) rfl ?_
      refine XS.ixor X5.here hx rfl (hb hby d1_56) rfl ?_
      show Steps p.tables e below (T5.setTop (mkF m 57 #[.val (.ref a1), .val (.int p2), .val (.ref a3), .val (.int p4), .val (.int p5), .val (.ref a3), .val (.int (own_nf p5)), .val (.int (0 : Int32)), .val (.int (0 : Int32)), .val (.int (f 0))] [(.int (own_x g p2 (own_nf p5) (f 0))), (.int (0 : Int32))])) _
      exact k
    rcases own_01 g p2 (own_nf p5) (f 0) (own_nf01 p5) with hb0 | hb0
    · obtain ⟨fs, hr, hrun, hended, hW, hsame⟩ := X5.leave (v := some (.int (0 : Int32))) (fun h => by rw [Bd.returns] at h; cases h)
      refine ⟨_, _, pre7 _ ?_, hrun, hended, _, _, rfl, ?_, ⟨_, rfl⟩, hW, hsame.mono (by decide) (by decide)⟩
      · show Steps p.tables e below (T5.setTop (mkF m 57 #[.val (.ref a1), .val (.int p2), .val (.ref a3), .val (.int p4), .val (.int p5), .val (.ref a3), .val (.int (own_nf p5)), .val (.int (0 : Int32)), .val (.int (0 : Int32)), .val (.int (f 0))] [(.int (own_x g p2 (own_nf p5) (f 0))), (.int (0 : Int32))])) _
        rw [hb0]
        show Steps p.tables e below (T5.setTop (mkF m 57 #[.val (.ref a1), .val (.int p2), .val (.ref a3), .val (.int p4), .val (.int p5), .val (.ref a3), .val (.int (own_nf p5)), .val (.int (0 : Int32)), .val (.int (0 : Int32)), .val (.int (f 0))] [(.int (0 : Int32)), (.int (0 : Int32))])) _
        refine XS.iadd X5.here hx rfl (hb hby d1_57) rfl ?_
        show Steps p.tables e below (T5.setTop (mkF m 58 #[.val (.ref a1), .val (.int p2), .val (.ref a3), .val (.int p4), .val (.int p5), .val (.ref a3), .val (.int (own_nf p5)), .val (.int (0 : Int32)), .val (.int (0 : Int32)), .val (.int (f 0))] [(.int (0 : Int32))])) _
        refine XS.istore X5.here hx rfl (hb hby d1_58) rfl (l' := #[.val (.ref a1), .val (.int p2), .val (.ref a3), .val (.int p4), .val (.int p5), .val (.ref a3), .val (.int (own_nf p5)), .val (.int (0 : Int32)), .val (.int (0 : Int32)), .val (.int (f 0))]) rfl ?_
        show Steps p.tables e below (T5.setTop (mkF m 60 #[.val (.ref a1), .val (.int p2), .val (.ref a3), .val (.int p4), .val (.int p5), .val (.ref a3), .val (.int (own_nf p5)), .val (.int (0 : Int32)), .val (.int (0 : Int32)), .val (.int (f 0))] [])) _
        refine XS.iinc X5.here hx rfl (hb hby d1_60) rfl (l' := #[.val (.ref a1), .val (.int p2), .val (.ref a3), .val (.int p4), .val (.int p5), .val (.ref a3), .val (.int (own_nf p5)), .val (.int (0 : Int32)), .val (.int (1 : Int32)), .val (.int (f 0))]) rfl ?_
        show Steps p.tables e below (T5.setTop (mkF m 63 #[.val (.ref a1), .val (.int p2), .val (.ref a3), .val (.int p4), .val (.int p5), .val (.ref a3), .val (.int (own_nf p5)), .val (.int (0 : Int32)), .val (.int (1 : Int32)), .val (.int (f 0))] [])) _
        refine XS.goto X5.here hx rfl (pc0 := 63) (pc' := 18) rfl (hb hby d1_63) (by decide) (by decide) ?_
        show Steps p.tables e below (T5.setTop (mkF m 18 #[.val (.ref a1), .val (.int p2), .val (.ref a3), .val (.int p4), .val (.int p5), .val (.ref a3), .val (.int (own_nf p5)), .val (.int (0 : Int32)), .val (.int (1 : Int32)), .val (.int (f 0))] [])) _
        refine XS.iload X5.here hx rfl (hb hby d1_18) rfl ?_
        refine XS.iloadN X5.here hx rfl (hb hby d1_20) rfl ?_
        refine XS.icmpYes X5.here hx rfl (pc0 := 21) (pc' := 66) rfl (hb hby d1_21) rfl (flt ((by rw [hk]; decide) : ¬ ((1 : Int32) < p4))).2.1 (by decide) (by decide) ?_
        show Steps p.tables e below (T5.setTop (mkF m 66 #[.val (.ref a1), .val (.int p2), .val (.ref a3), .val (.int p4), .val (.int p5), .val (.ref a3), .val (.int (own_nf p5)), .val (.int (0 : Int32)), .val (.int (1 : Int32)), .val (.int (f 0))] [])) _
        refine XS.iload X5.here hx rfl (hb hby d1_66) rfl ?_
        show Steps p.tables e below (T5.setTop (mkF m 68 #[.val (.ref a1), .val (.int p2), .val (.ref a3), .val (.int p4), .val (.int p5), .val (.ref a3), .val (.int (own_nf p5)), .val (.int (0 : Int32)), .val (.int (1 : Int32)), .val (.int (f 0))] [(.int (0 : Int32))])) _
        exact retI X5 hx Bd.returns (hb hby d1_68) hr
      · show Q_rm1a Z a1 p2 a3 p4 p5 f g h0 n0 _ T5.heap _
        rw [e5]
        have hs : (own_sel p4 (fun i => own_x g p2 (own_nf p5) (f i)) f) = [] := by
          show (if (0 : Int32) < p4 then (if own_x g p2 (own_nf p5) (f 0) = (0 : Int32) then [] else [f 0]) else []) ++ ((if (1 : Int32) < p4 then (if own_x g p2 (own_nf p5) (f 1) = (0 : Int32) then [] else [f 1]) else []) ++ (if (2 : Int32) < p4 then (if own_x g p2 (own_nf p5) (f 2) = (0 : Int32) then [] else [f 2]) else [])) = _
          rw [hb0, hk]; rfl
        have hV : ArF Z h5 a3 .char 3 (fun i => .int ((fun i => if i = 0 then (f 0) else if i = 1 then (f 1) else (f 2)) i)) := V5_v5.congr (fun i hi => by
          match i, hi with
          | 0, _ => exact congrArg Value.int (own_nar (hix 0 (by decide)).1)
          | 1, _ => rfl
          | 2, _ => rfl)
        exact ⟨(fun i => if i = 0 then (f 0) else if i = 1 then (f 1) else (f 2)), by rw [hs]; rfl, N5, K5, hV, (by rw [hs]; intro i hi; exact absurd hi (Nat.not_lt_zero i))⟩
    · obtain ⟨fs, hr, hrun, hended, hW, hsame⟩ := X5.leave (v := some (.int (1 : Int32))) (fun h => by rw [Bd.returns] at h; cases h)
      refine ⟨_, _, pre7 _ ?_, hrun, hended, _, _, rfl, ?_, ⟨_, rfl⟩, hW, hsame.mono (by decide) (by decide)⟩
      · show Steps p.tables e below (T5.setTop (mkF m 57 #[.val (.ref a1), .val (.int p2), .val (.ref a3), .val (.int p4), .val (.int p5), .val (.ref a3), .val (.int (own_nf p5)), .val (.int (0 : Int32)), .val (.int (0 : Int32)), .val (.int (f 0))] [(.int (own_x g p2 (own_nf p5) (f 0))), (.int (0 : Int32))])) _
        rw [hb0]
        show Steps p.tables e below (T5.setTop (mkF m 57 #[.val (.ref a1), .val (.int p2), .val (.ref a3), .val (.int p4), .val (.int p5), .val (.ref a3), .val (.int (own_nf p5)), .val (.int (0 : Int32)), .val (.int (0 : Int32)), .val (.int (f 0))] [(.int (1 : Int32)), (.int (0 : Int32))])) _
        refine XS.iadd X5.here hx rfl (hb hby d1_57) rfl ?_
        show Steps p.tables e below (T5.setTop (mkF m 58 #[.val (.ref a1), .val (.int p2), .val (.ref a3), .val (.int p4), .val (.int p5), .val (.ref a3), .val (.int (own_nf p5)), .val (.int (0 : Int32)), .val (.int (0 : Int32)), .val (.int (f 0))] [(.int (1 : Int32))])) _
        refine XS.istore X5.here hx rfl (hb hby d1_58) rfl (l' := #[.val (.ref a1), .val (.int p2), .val (.ref a3), .val (.int p4), .val (.int p5), .val (.ref a3), .val (.int (own_nf p5)), .val (.int (1 : Int32)), .val (.int (0 : Int32)), .val (.int (f 0))]) rfl ?_
        show Steps p.tables e below (T5.setTop (mkF m 60 #[.val (.ref a1), .val (.int p2), .val (.ref a3), .val (.int p4), .val (.int p5), .val (.ref a3), .val (.int (own_nf p5)), .val (.int (1 : Int32)), .val (.int (0 : Int32)), .val (.int (f 0))] [])) _
        refine XS.iinc X5.here hx rfl (hb hby d1_60) rfl (l' := #[.val (.ref a1), .val (.int p2), .val (.ref a3), .val (.int p4), .val (.int p5), .val (.ref a3), .val (.int (own_nf p5)), .val (.int (1 : Int32)), .val (.int (1 : Int32)), .val (.int (f 0))]) rfl ?_
        show Steps p.tables e below (T5.setTop (mkF m 63 #[.val (.ref a1), .val (.int p2), .val (.ref a3), .val (.int p4), .val (.int p5), .val (.ref a3), .val (.int (own_nf p5)), .val (.int (1 : Int32)), .val (.int (1 : Int32)), .val (.int (f 0))] [])) _
        refine XS.goto X5.here hx rfl (pc0 := 63) (pc' := 18) rfl (hb hby d1_63) (by decide) (by decide) ?_
        show Steps p.tables e below (T5.setTop (mkF m 18 #[.val (.ref a1), .val (.int p2), .val (.ref a3), .val (.int p4), .val (.int p5), .val (.ref a3), .val (.int (own_nf p5)), .val (.int (1 : Int32)), .val (.int (1 : Int32)), .val (.int (f 0))] [])) _
        refine XS.iload X5.here hx rfl (hb hby d1_18) rfl ?_
        refine XS.iloadN X5.here hx rfl (hb hby d1_20) rfl ?_
        refine XS.icmpYes X5.here hx rfl (pc0 := 21) (pc' := 66) rfl (hb hby d1_21) rfl (flt ((by rw [hk]; decide) : ¬ ((1 : Int32) < p4))).2.1 (by decide) (by decide) ?_
        show Steps p.tables e below (T5.setTop (mkF m 66 #[.val (.ref a1), .val (.int p2), .val (.ref a3), .val (.int p4), .val (.int p5), .val (.ref a3), .val (.int (own_nf p5)), .val (.int (1 : Int32)), .val (.int (1 : Int32)), .val (.int (f 0))] [])) _
        refine XS.iload X5.here hx rfl (hb hby d1_66) rfl ?_
        show Steps p.tables e below (T5.setTop (mkF m 68 #[.val (.ref a1), .val (.int p2), .val (.ref a3), .val (.int p4), .val (.int p5), .val (.ref a3), .val (.int (own_nf p5)), .val (.int (1 : Int32)), .val (.int (1 : Int32)), .val (.int (f 0))] [(.int (1 : Int32))])) _
        exact retI X5 hx Bd.returns (hb hby d1_68) hr
      · show Q_rm1a Z a1 p2 a3 p4 p5 f g h0 n0 _ T5.heap _
        rw [e5]
        have hs : (own_sel p4 (fun i => own_x g p2 (own_nf p5) (f i)) f) = [(f 0)] := by
          show (if (0 : Int32) < p4 then (if own_x g p2 (own_nf p5) (f 0) = (0 : Int32) then [] else [f 0]) else []) ++ ((if (1 : Int32) < p4 then (if own_x g p2 (own_nf p5) (f 1) = (0 : Int32) then [] else [f 1]) else []) ++ (if (2 : Int32) < p4 then (if own_x g p2 (own_nf p5) (f 2) = (0 : Int32) then [] else [f 2]) else [])) = _
          rw [hb0, hk]; rfl
        have hV : ArF Z h5 a3 .char 3 (fun i => .int ((fun i => if i = 0 then (f 0) else if i = 1 then (f 1) else (f 2)) i)) := V5_v5.congr (fun i hi => by
          match i, hi with
          | 0, _ => exact congrArg Value.int (own_nar (hix 0 (by decide)).1)
          | 1, _ => rfl
          | 2, _ => rfl)
        exact ⟨(fun i => if i = 0 then (f 0) else if i = 1 then (f 1) else (f 2)), by rw [hs]; rfl, N5, K5, hV, (by rw [hs]; intro i hi; have hj : i = 0 := by { simp only [List.length_cons, List.length_nil] at hi; omega }; rcases hj with rfl <;> rfl)⟩
  · obtain ⟨cl8, Ar8, S8, H8⟩ := id V0
    have hin8 : ¬ ((0 : Int32) < 0 ∨ cl8.slots.size ≤ ((0 : Int32)).toNatClampNeg) := inA S8 (by decide) (by decide)
    have hat8 : cl8.slots[((0 : Int32)).toNatClampNeg]? = some (.int (f 0)) := ArF.at S8 H8 hin8 rfl
    obtain ⟨cl9, Ar9, S9, H9⟩ := id V0
    have hin9 : ¬ ((0 : Int32) < 0 ∨ cl9.slots.size ≤ ((0 : Int32)).toNatClampNeg) := inA S9 (by decide) (by decide)
    obtain ⟨T9, h9, X9, e9, W9, st9⟩ := stC X0 hx hZ e0 Ar9 (j := (0 : Int32)) hin9 (g := (mkF m 36 #[.val (.ref a1), .val (.int p2), .val (.ref a3), .val (.int p4), .val (.int p5), .val (.ref a3), .val (.int (own_nf p5)), .val (.int (0 : Int32)), .val (.int (0 : Int32)), .val (.int (f 0))] [(.int (f 0)), (.int (0 : Int32)), (.ref a3)])) rfl rfl (hb hby d1_36)
    have W0_v9 := W0.other W9 hne
    have Z9 : n0 ≤ h9.size := Nat.le_trans Z0 (Nat.le_of_eq W9.size.symm)
    have K9 := K0.wr W9 (Or.inl (by simp))
    have V9_v9 := ArF.set Ar9 S9 H9 W9 hin9
    have N9 := Fr.snoc X9 N0 ga
    obtain ⟨cl10, Ar10, S10, H10⟩ := id W0_v9
    have hin10 : ¬ ((own_j (f 0) p2) < 0 ∨ cl10.slots.size ≤ ((own_j (f 0) p2)).toNatClampNeg) := inA S10 (hix 0 (by decide)).2.1 (hix 0 (by decide)).2.2
    have hat10 : cl10.slots[((own_j (f 0) p2)).toNatClampNeg]? = some (.long (g (own_j (f 0) p2).toNatClampNeg)) := ArF.at S10 H10 hin10 rfl
    have pre11 : ∀ t, Steps p.tables e below (T9.setTop (mkF m 57 #[.val (.ref a1), .val (.int p2), .val (.ref a3), .val (.int p4), .val (.int p5), .val (.ref a3), .val (.int (own_nf p5)), .val (.int (0 : Int32)), .val (.int (0 : Int32)), .val (.int (f 0))] [(.int (own_x g p2 (own_nf p5) (f 0))), (.int (0 : Int32))])) t → Steps p.tables e below (s₁.setTop (entryFrame m #[(.ref a1), (.int p2), (.ref a3), (.int p4), (.int p5), (.ref a3)] 10)) t := by
      intro t k
      refine pre3 t ?_
      show Steps p.tables e below (s₁.setTop (mkF m 12 #[.val (.ref a1), .val (.int p2), .val (.ref a3), .val (.int p4), .val (.int p5), .val (.ref a3), .val (.int (own_nf p5)), .unset, .unset, .unset] [])) _
      refine XS.iconst X0.here hx rfl (hb hby d1_12) ?_
      refine XS.istore X0.here hx rfl (hb hby d1_13) rfl (l' := #[.val (.ref a1), .val (.int p2), .val (.ref a3), .val (.int p4), .val (.int p5), .val (.ref a3), .val (.int (own_nf p5)), .val (.int (0 : Int32)), .unset, .unset]) rfl ?_
      show Steps p.tables e below (s₁.setTop (mkF m 15 #[.val (.ref a1), .val (.int p2), .val (.ref a3), .val (.int p4), .val (.int p5), .val (.ref a3), .val (.int (own_nf p5)), .val (.int (0 : Int32)), .unset, .unset] [])) _
      refine XS.iconst X0.here hx rfl (hb hby d1_15) ?_
      refine XS.istore X0.here hx rfl (hb hby d1_16) rfl (l' := #[.val (.ref a1), .val (.int p2), .val (.ref a3), .val (.int p4), .val (.int p5), .val (.ref a3), .val (.int (own_nf p5)), .val (.int (0 : Int32)), .val (.int (0 : Int32)), .unset]) rfl ?_
      show Steps p.tables e below (s₁.setTop (mkF m 18 #[.val (.ref a1), .val (.int p2), .val (.ref a3), .val (.int p4), .val (.int p5), .val (.ref a3), .val (.int (own_nf p5)), .val (.int (0 : Int32)), .val (.int (0 : Int32)), .unset] [])) _
      refine XS.iload X0.here hx rfl (hb hby d1_18) rfl ?_
      refine XS.iloadN X0.here hx rfl (hb hby d1_20) rfl ?_
      refine XS.icmpNo X0.here hx rfl (hb hby d1_21) rfl (tlt ((by rw [hk]; decide) : ((0 : Int32) < p4))).2.1 ?_
      show Steps p.tables e below (s₁.setTop (mkF m 24 #[.val (.ref a1), .val (.int p2), .val (.ref a3), .val (.int p4), .val (.int p5), .val (.ref a3), .val (.int (own_nf p5)), .val (.int (0 : Int32)), .val (.int (0 : Int32)), .unset] [])) _
      refine XS.aloadN X0.here hx rfl (hb hby d1_24) rfl rfl ?_
      refine XS.iload X0.here hx rfl (hb hby d1_25) rfl ?_
      show Steps p.tables e below (s₁.setTop (mkF m 27 #[.val (.ref a1), .val (.int p2), .val (.ref a3), .val (.int p4), .val (.int p5), .val (.ref a3), .val (.int (own_nf p5)), .val (.int (0 : Int32)), .val (.int (0 : Int32)), .unset] [(.int (0 : Int32)), (.ref a3)])) _
      refine X0.caload hx (j := (0 : Int32)) (v := (.int (f 0))) (by rw [e0]; exact Ar8.1) (State.isArrayOf_alike hZ.alike Ar8.2.1) Ar8.2.2 hin8 hat8 (g := (mkF m 27 #[.val (.ref a1), .val (.int p2), .val (.ref a3), .val (.int p4), .val (.int p5), .val (.ref a3), .val (.int (own_nf p5)), .val (.int (0 : Int32)), .val (.int (0 : Int32)), .unset] [(.int (0 : Int32)), (.ref a3)])) rfl rfl (hb hby d1_27) _ ?_
      show Steps p.tables e below (s₁.setTop (mkF m 28 #[.val (.ref a1), .val (.int p2), .val (.ref a3), .val (.int p4), .val (.int p5), .val (.ref a3), .val (.int (own_nf p5)), .val (.int (0 : Int32)), .val (.int (0 : Int32)), .unset] [(.int (f 0))])) _
      refine XS.istore X0.here hx rfl (hb hby d1_28) rfl (l' := #[.val (.ref a1), .val (.int p2), .val (.ref a3), .val (.int p4), .val (.int p5), .val (.ref a3), .val (.int (own_nf p5)), .val (.int (0 : Int32)), .val (.int (0 : Int32)), .val (.int (f 0))]) rfl ?_
      show Steps p.tables e below (s₁.setTop (mkF m 30 #[.val (.ref a1), .val (.int p2), .val (.ref a3), .val (.int p4), .val (.int p5), .val (.ref a3), .val (.int (own_nf p5)), .val (.int (0 : Int32)), .val (.int (0 : Int32)), .val (.int (f 0))] [])) _
      refine XS.aload X0.here hx rfl (hb hby d1_30) rfl rfl ?_
      refine XS.iload X0.here hx rfl (hb hby d1_32) rfl ?_
      refine XS.iload X0.here hx rfl (hb hby d1_34) rfl ?_
      show Steps p.tables e below (s₁.setTop (mkF m 36 #[.val (.ref a1), .val (.int p2), .val (.ref a3), .val (.int p4), .val (.int p5), .val (.ref a3), .val (.int (own_nf p5)), .val (.int (0 : Int32)), .val (.int (0 : Int32)), .val (.int (f 0))] [(.int (f 0)), (.int (0 : Int32)), (.ref a3)])) _
      refine st9 _ ?_
      show Steps p.tables e below (T9.setTop (mkF m 37 #[.val (.ref a1), .val (.int p2), .val (.ref a3), .val (.int p4), .val (.int p5), .val (.ref a3), .val (.int (own_nf p5)), .val (.int (0 : Int32)), .val (.int (0 : Int32)), .val (.int (f 0))] [])) _
      refine XS.iload X9.here hx rfl (hb hby d1_37) rfl ?_
      refine XS.aloadN X9.here hx rfl (hb hby d1_39) rfl rfl ?_
      refine XS.iload X9.here hx rfl (hb hby d1_40) rfl ?_
      show Steps p.tables e below (T9.setTop (mkF m 42 #[.val (.ref a1), .val (.int p2), .val (.ref a3), .val (.int p4), .val (.int p5), .val (.ref a3), .val (.int (own_nf p5)), .val (.int (0 : Int32)), .val (.int (0 : Int32)), .val (.int (f 0))] [(.int (f 0)), (.ref a1), (.int (0 : Int32))])) _
      refine XS.bipush X9.here hx rfl (hb hby d1_42) ?_
      refine XS.iushr X9.here hx rfl (hb hby d1_44) rfl ?_
      show Steps p.tables e below (T9.setTop (mkF m 45 #[.val (.ref a1), .val (.int p2), .val (.ref a3), .val (.int p4), .val (.int p5), .val (.ref a3), .val (.int (own_nf p5)), .val (.int (0 : Int32)), .val (.int (0 : Int32)), .val (.int (f 0))] [(.int (((f 0).toUInt32 >>> ((6 : Int32) &&& 31).toUInt32).toInt32)), (.ref a1), (.int (0 : Int32))])) _
      refine XS.iloadN X9.here hx rfl (hb hby d1_45) rfl ?_
      refine XS.isub X9.here hx rfl (hb hby d1_46) rfl ?_
      show Steps p.tables e below (T9.setTop (mkF m 47 #[.val (.ref a1), .val (.int p2), .val (.ref a3), .val (.int p4), .val (.int p5), .val (.ref a3), .val (.int (own_nf p5)), .val (.int (0 : Int32)), .val (.int (0 : Int32)), .val (.int (f 0))] [(.int (own_j (f 0) p2)), (.ref a1), (.int (0 : Int32))])) _
      refine X9.laload hx (j := (own_j (f 0) p2)) (v := (.long (g (own_j (f 0) p2).toNatClampNeg))) (by rw [e9]; exact Ar10.1) (State.isArrayOf_alike hZ.alike Ar10.2.1) Ar10.2.2 hin10 hat10 (g := (mkF m 47 #[.val (.ref a1), .val (.int p2), .val (.ref a3), .val (.int p4), .val (.int p5), .val (.ref a3), .val (.int (own_nf p5)), .val (.int (0 : Int32)), .val (.int (0 : Int32)), .val (.int (f 0))] [(.int (own_j (f 0) p2)), (.ref a1), (.int (0 : Int32))])) rfl rfl (hb hby d1_47) _ ?_
      show Steps p.tables e below (T9.setTop (mkF m 48 #[.val (.ref a1), .val (.int p2), .val (.ref a3), .val (.int p4), .val (.int p5), .val (.ref a3), .val (.int (own_nf p5)), .val (.int (0 : Int32)), .val (.int (0 : Int32)), .val (.int (f 0))] [(.long (g (own_j (f 0) p2).toNatClampNeg)), (.int (0 : Int32))])) _
      refine XS.iload X9.here hx rfl (hb hby d1_48) rfl ?_
      refine XS.lushr X9.here hx rfl (hb hby d1_50) rfl ?_
      show Steps p.tables e below (T9.setTop (mkF m 51 #[.val (.ref a1), .val (.int p2), .val (.ref a3), .val (.int p4), .val (.int p5), .val (.ref a3), .val (.int (own_nf p5)), .val (.int (0 : Int32)), .val (.int (0 : Int32)), .val (.int (f 0))] [(.long (((g (own_j (f 0) p2).toNatClampNeg).toUInt64 >>> ((f 0) &&& 0x3f).toInt64.toUInt64).toInt64)), (.int (0 : Int32))])) _
      refine XS.l2i X9.here hx rfl (hb hby d1_51) rfl ?_
      refine XS.iconst X9.here hx rfl (hb hby d1_52) ?_
      refine XS.iand X9.here hx rfl (hb hby d1_53) rfl ?_
      show Steps p.tables e below (T9.setTop (mkF m 54 #[.val (.ref a1), .val (.int p2), .val (.ref a3), .val (.int p4), .val (.int p5), .val (.ref a3), .val (.int (own_nf p5)), .val (.int (0 : Int32)), .val (.int (0 : Int32)), .val (.int (f 0))] [(.int (((((g (own_j (f 0) p2).toNatClampNeg).toUInt64 >>> ((f 0) &&& 0x3f).toInt64.toUInt64).toInt64).toInt32) &&& (1 : Int32))), (.int (0 : Int32))])) _
      refine XS.iload X9.here hx rfl (hb hby d1_54) rfl ?_
      refine XS.ixor X9.here hx rfl (hb hby d1_56) rfl ?_
      show Steps p.tables e below (T9.setTop (mkF m 57 #[.val (.ref a1), .val (.int p2), .val (.ref a3), .val (.int p4), .val (.int p5), .val (.ref a3), .val (.int (own_nf p5)), .val (.int (0 : Int32)), .val (.int (0 : Int32)), .val (.int (f 0))] [(.int (own_x g p2 (own_nf p5) (f 0))), (.int (0 : Int32))])) _
      exact k
    rcases own_01 g p2 (own_nf p5) (f 0) (own_nf01 p5) with hb0 | hb0
    · obtain ⟨cl12, Ar12, S12, H12⟩ := id V9_v9
      have hin12 : ¬ ((1 : Int32) < 0 ∨ cl12.slots.size ≤ ((1 : Int32)).toNatClampNeg) := inA S12 (by decide) (by decide)
      have hat12 : cl12.slots[((1 : Int32)).toNatClampNeg]? = some (.int (f 1)) := ArF.at S12 H12 hin12 rfl
      obtain ⟨cl13, Ar13, S13, H13⟩ := id V9_v9
      have hin13 : ¬ ((0 : Int32) < 0 ∨ cl13.slots.size ≤ ((0 : Int32)).toNatClampNeg) := inA S13 (by decide) (by decide)
      obtain ⟨T13, h13, X13, e13, W13, st13⟩ := stC X9 hx hZ e9 Ar13 (j := (0 : Int32)) hin13 (g := (mkF m 36 #[.val (.ref a1), .val (.int p2), .val (.ref a3), .val (.int p4), .val (.int p5), .val (.ref a3), .val (.int (own_nf p5)), .val (.int (0 : Int32)), .val (.int (1 : Int32)), .val (.int (f 1))] [(.int (f 1)), (.int (0 : Int32)), (.ref a3)])) rfl rfl (hb hby d1_36)
      have W0_v13 := W0_v9.other W13 hne
      have Z13 : n0 ≤ h13.size := Nat.le_trans Z9 (Nat.le_of_eq W13.size.symm)
      have K13 := K9.wr W13 (Or.inl (by simp))
      have V13_v13 := ArF.set Ar13 S13 H13 W13 hin13
      have N13 := Fr.snoc X13 N9 ga
      obtain ⟨cl14, Ar14, S14, H14⟩ := id W0_v13
      have hin14 : ¬ ((own_j (f 1) p2) < 0 ∨ cl14.slots.size ≤ ((own_j (f 1) p2)).toNatClampNeg) := inA S14 (hix 1 (by decide)).2.1 (hix 1 (by decide)).2.2
      have hat14 : cl14.slots[((own_j (f 1) p2)).toNatClampNeg]? = some (.long (g (own_j (f 1) p2).toNatClampNeg)) := ArF.at S14 H14 hin14 rfl
      have pre15 : ∀ t, Steps p.tables e below (T13.setTop (mkF m 57 #[.val (.ref a1), .val (.int p2), .val (.ref a3), .val (.int p4), .val (.int p5), .val (.ref a3), .val (.int (own_nf p5)), .val (.int (0 : Int32)), .val (.int (1 : Int32)), .val (.int (f 1))] [(.int (own_x g p2 (own_nf p5) (f 1))), (.int (0 : Int32))])) t → Steps p.tables e below (s₁.setTop (entryFrame m #[(.ref a1), (.int p2), (.ref a3), (.int p4), (.int p5), (.ref a3)] 10)) t := by
        intro t k
        refine pre11 t ?_
        show Steps p.tables e below (T9.setTop (mkF m 57 #[.val (.ref a1), .val (.int p2), .val (.ref a3), .val (.int p4), .val (.int p5), .val (.ref a3), .val (.int (own_nf p5)), .val (.int (0 : Int32)), .val (.int (0 : Int32)), .val (.int (f 0))] [(.int (own_x g p2 (own_nf p5) (f 0))), (.int (0 : Int32))])) _
        rw [hb0]
        show Steps p.tables e below (T9.setTop (mkF m 57 #[.val (.ref a1), .val (.int p2), .val (.ref a3), .val (.int p4), .val (.int p5), .val (.ref a3), .val (.int (own_nf p5)), .val (.int (0 : Int32)), .val (.int (0 : Int32)), .val (.int (f 0))] [(.int (0 : Int32)), (.int (0 : Int32))])) _
        refine XS.iadd X9.here hx rfl (hb hby d1_57) rfl ?_
        show Steps p.tables e below (T9.setTop (mkF m 58 #[.val (.ref a1), .val (.int p2), .val (.ref a3), .val (.int p4), .val (.int p5), .val (.ref a3), .val (.int (own_nf p5)), .val (.int (0 : Int32)), .val (.int (0 : Int32)), .val (.int (f 0))] [(.int (0 : Int32))])) _
        refine XS.istore X9.here hx rfl (hb hby d1_58) rfl (l' := #[.val (.ref a1), .val (.int p2), .val (.ref a3), .val (.int p4), .val (.int p5), .val (.ref a3), .val (.int (own_nf p5)), .val (.int (0 : Int32)), .val (.int (0 : Int32)), .val (.int (f 0))]) rfl ?_
        show Steps p.tables e below (T9.setTop (mkF m 60 #[.val (.ref a1), .val (.int p2), .val (.ref a3), .val (.int p4), .val (.int p5), .val (.ref a3), .val (.int (own_nf p5)), .val (.int (0 : Int32)), .val (.int (0 : Int32)), .val (.int (f 0))] [])) _
        refine XS.iinc X9.here hx rfl (hb hby d1_60) rfl (l' := #[.val (.ref a1), .val (.int p2), .val (.ref a3), .val (.int p4), .val (.int p5), .val (.ref a3), .val (.int (own_nf p5)), .val (.int (0 : Int32)), .val (.int (1 : Int32)), .val (.int (f 0))]) rfl ?_
        show Steps p.tables e below (T9.setTop (mkF m 63 #[.val (.ref a1), .val (.int p2), .val (.ref a3), .val (.int p4), .val (.int p5), .val (.ref a3), .val (.int (own_nf p5)), .val (.int (0 : Int32)), .val (.int (1 : Int32)), .val (.int (f 0))] [])) _
        refine XS.goto X9.here hx rfl (pc0 := 63) (pc' := 18) rfl (hb hby d1_63) (by decide) (by decide) ?_
        show Steps p.tables e below (T9.setTop (mkF m 18 #[.val (.ref a1), .val (.int p2), .val (.ref a3), .val (.int p4), .val (.int p5), .val (.ref a3), .val (.int (own_nf p5)), .val (.int (0 : Int32)), .val (.int (1 : Int32)), .val (.int (f 0))] [])) _
        refine XS.iload X9.here hx rfl (hb hby d1_18) rfl ?_
        refine XS.iloadN X9.here hx rfl (hb hby d1_20) rfl ?_
        refine XS.icmpNo X9.here hx rfl (hb hby d1_21) rfl (tlt ((by rw [hk]; decide) : ((1 : Int32) < p4))).2.1 ?_
        show Steps p.tables e below (T9.setTop (mkF m 24 #[.val (.ref a1), .val (.int p2), .val (.ref a3), .val (.int p4), .val (.int p5), .val (.ref a3), .val (.int (own_nf p5)), .val (.int (0 : Int32)), .val (.int (1 : Int32)), .val (.int (f 0))] [])) _
        refine XS.aloadN X9.here hx rfl (hb hby d1_24) rfl rfl ?_
        refine XS.iload X9.here hx rfl (hb hby d1_25) rfl ?_
        show Steps p.tables e below (T9.setTop (mkF m 27 #[.val (.ref a1), .val (.int p2), .val (.ref a3), .val (.int p4), .val (.int p5), .val (.ref a3), .val (.int (own_nf p5)), .val (.int (0 : Int32)), .val (.int (1 : Int32)), .val (.int (f 0))] [(.int (1 : Int32)), (.ref a3)])) _
        refine X9.caload hx (j := (1 : Int32)) (v := (.int (f 1))) (by rw [e9]; exact Ar12.1) (State.isArrayOf_alike hZ.alike Ar12.2.1) Ar12.2.2 hin12 hat12 (g := (mkF m 27 #[.val (.ref a1), .val (.int p2), .val (.ref a3), .val (.int p4), .val (.int p5), .val (.ref a3), .val (.int (own_nf p5)), .val (.int (0 : Int32)), .val (.int (1 : Int32)), .val (.int (f 0))] [(.int (1 : Int32)), (.ref a3)])) rfl rfl (hb hby d1_27) _ ?_
        show Steps p.tables e below (T9.setTop (mkF m 28 #[.val (.ref a1), .val (.int p2), .val (.ref a3), .val (.int p4), .val (.int p5), .val (.ref a3), .val (.int (own_nf p5)), .val (.int (0 : Int32)), .val (.int (1 : Int32)), .val (.int (f 0))] [(.int (f 1))])) _
        refine XS.istore X9.here hx rfl (hb hby d1_28) rfl (l' := #[.val (.ref a1), .val (.int p2), .val (.ref a3), .val (.int p4), .val (.int p5), .val (.ref a3), .val (.int (own_nf p5)), .val (.int (0 : Int32)), .val (.int (1 : Int32)), .val (.int (f 1))]) rfl ?_
        show Steps p.tables e below (T9.setTop (mkF m 30 #[.val (.ref a1), .val (.int p2), .val (.ref a3), .val (.int p4), .val (.int p5), .val (.ref a3), .val (.int (own_nf p5)), .val (.int (0 : Int32)), .val (.int (1 : Int32)), .val (.int (f 1))] [])) _
        refine XS.aload X9.here hx rfl (hb hby d1_30) rfl rfl ?_
        refine XS.iload X9.here hx rfl (hb hby d1_32) rfl ?_
        refine XS.iload X9.here hx rfl (hb hby d1_34) rfl ?_
        show Steps p.tables e below (T9.setTop (mkF m 36 #[.val (.ref a1), .val (.int p2), .val (.ref a3), .val (.int p4), .val (.int p5), .val (.ref a3), .val (.int (own_nf p5)), .val (.int (0 : Int32)), .val (.int (1 : Int32)), .val (.int (f 1))] [(.int (f 1)), (.int (0 : Int32)), (.ref a3)])) _
        refine st13 _ ?_
        show Steps p.tables e below (T13.setTop (mkF m 37 #[.val (.ref a1), .val (.int p2), .val (.ref a3), .val (.int p4), .val (.int p5), .val (.ref a3), .val (.int (own_nf p5)), .val (.int (0 : Int32)), .val (.int (1 : Int32)), .val (.int (f 1))] [])) _
        refine XS.iload X13.here hx rfl (hb hby d1_37) rfl ?_
        refine XS.aloadN X13.here hx rfl (hb hby d1_39) rfl rfl ?_
        refine XS.iload X13.here hx rfl (hb hby d1_40) rfl ?_
        show Steps p.tables e below (T13.setTop (mkF m 42 #[.val (.ref a1), .val (.int p2), .val (.ref a3), .val (.int p4), .val (.int p5), .val (.ref a3), .val (.int (own_nf p5)), .val (.int (0 : Int32)), .val (.int (1 : Int32)), .val (.int (f 1))] [(.int (f 1)), (.ref a1), (.int (0 : Int32))])) _
        refine XS.bipush X13.here hx rfl (hb hby d1_42) ?_
        refine XS.iushr X13.here hx rfl (hb hby d1_44) rfl ?_
        show Steps p.tables e below (T13.setTop (mkF m 45 #[.val (.ref a1), .val (.int p2), .val (.ref a3), .val (.int p4), .val (.int p5), .val (.ref a3), .val (.int (own_nf p5)), .val (.int (0 : Int32)), .val (.int (1 : Int32)), .val (.int (f 1))] [(.int (((f 1).toUInt32 >>> ((6 : Int32) &&& 31).toUInt32).toInt32)), (.ref a1), (.int (0 : Int32))])) _
        refine XS.iloadN X13.here hx rfl (hb hby d1_45) rfl ?_
        refine XS.isub X13.here hx rfl (hb hby d1_46) rfl ?_
        show Steps p.tables e below (T13.setTop (mkF m 47 #[.val (.ref a1), .val (.int p2), .val (.ref a3), .val (.int p4), .val (.int p5), .val (.ref a3), .val (.int (own_nf p5)), .val (.int (0 : Int32)), .val (.int (1 : Int32)), .val (.int (f 1))] [(.int (own_j (f 1) p2)), (.ref a1), (.int (0 : Int32))])) _
        refine X13.laload hx (j := (own_j (f 1) p2)) (v := (.long (g (own_j (f 1) p2).toNatClampNeg))) (by rw [e13]; exact Ar14.1) (State.isArrayOf_alike hZ.alike Ar14.2.1) Ar14.2.2 hin14 hat14 (g := (mkF m 47 #[.val (.ref a1), .val (.int p2), .val (.ref a3), .val (.int p4), .val (.int p5), .val (.ref a3), .val (.int (own_nf p5)), .val (.int (0 : Int32)), .val (.int (1 : Int32)), .val (.int (f 1))] [(.int (own_j (f 1) p2)), (.ref a1), (.int (0 : Int32))])) rfl rfl (hb hby d1_47) _ ?_
        show Steps p.tables e below (T13.setTop (mkF m 48 #[.val (.ref a1), .val (.int p2), .val (.ref a3), .val (.int p4), .val (.int p5), .val (.ref a3), .val (.int (own_nf p5)), .val (.int (0 : Int32)), .val (.int (1 : Int32)), .val (.int (f 1))] [(.long (g (own_j (f 1) p2).toNatClampNeg)), (.int (0 : Int32))])) _
        refine XS.iload X13.here hx rfl (hb hby d1_48) rfl ?_
        refine XS.lushr X13.here hx rfl (hb hby d1_50) rfl ?_
        show Steps p.tables e below (T13.setTop (mkF m 51 #[.val (.ref a1), .val (.int p2), .val (.ref a3), .val (.int p4), .val (.int p5), .val (.ref a3), .val (.int (own_nf p5)), .val (.int (0 : Int32)), .val (.int (1 : Int32)), .val (.int (f 1))] [(.long (((g (own_j (f 1) p2).toNatClampNeg).toUInt64 >>> ((f 1) &&& 0x3f).toInt64.toUInt64).toInt64)), (.int (0 : Int32))])) _
        refine XS.l2i X13.here hx rfl (hb hby d1_51) rfl ?_
        refine XS.iconst X13.here hx rfl (hb hby d1_52) ?_
        refine XS.iand X13.here hx rfl (hb hby d1_53) rfl ?_
        show Steps p.tables e below (T13.setTop (mkF m 54 #[.val (.ref a1), .val (.int p2), .val (.ref a3), .val (.int p4), .val (.int p5), .val (.ref a3), .val (.int (own_nf p5)), .val (.int (0 : Int32)), .val (.int (1 : Int32)), .val (.int (f 1))] [(.int (((((g (own_j (f 1) p2).toNatClampNeg).toUInt64 >>> ((f 1) &&& 0x3f).toInt64.toUInt64).toInt64).toInt32) &&& (1 : Int32))), (.int (0 : Int32))])) _
        refine XS.iload X13.here hx rfl (hb hby d1_54) rfl ?_
        refine XS.ixor X13.here hx rfl (hb hby d1_56) rfl ?_
        show Steps p.tables e below (T13.setTop (mkF m 57 #[.val (.ref a1), .val (.int p2), .val (.ref a3), .val (.int p4), .val (.int p5), .val (.ref a3), .val (.int (own_nf p5)), .val (.int (0 : Int32)), .val (.int (1 : Int32)), .val (.int (f 1))] [(.int (own_x g p2 (own_nf p5) (f 1))), (.int (0 : Int32))])) _
        exact k
      rcases own_01 g p2 (own_nf p5) (f 1) (own_nf01 p5) with hb1 | hb1
      · obtain ⟨fs, hr, hrun, hended, hW, hsame⟩ := X13.leave (v := some (.int (0 : Int32))) (fun h => by rw [Bd.returns] at h; cases h)
        refine ⟨_, _, pre15 _ ?_, hrun, hended, _, _, rfl, ?_, ⟨_, rfl⟩, hW, hsame.mono (by decide) (by decide)⟩
        · show Steps p.tables e below (T13.setTop (mkF m 57 #[.val (.ref a1), .val (.int p2), .val (.ref a3), .val (.int p4), .val (.int p5), .val (.ref a3), .val (.int (own_nf p5)), .val (.int (0 : Int32)), .val (.int (1 : Int32)), .val (.int (f 1))] [(.int (own_x g p2 (own_nf p5) (f 1))), (.int (0 : Int32))])) _
          rw [hb1]
          show Steps p.tables e below (T13.setTop (mkF m 57 #[.val (.ref a1), .val (.int p2), .val (.ref a3), .val (.int p4), .val (.int p5), .val (.ref a3), .val (.int (own_nf p5)), .val (.int (0 : Int32)), .val (.int (1 : Int32)), .val (.int (f 1))] [(.int (0 : Int32)), (.int (0 : Int32))])) _
          refine XS.iadd X13.here hx rfl (hb hby d1_57) rfl ?_
          show Steps p.tables e below (T13.setTop (mkF m 58 #[.val (.ref a1), .val (.int p2), .val (.ref a3), .val (.int p4), .val (.int p5), .val (.ref a3), .val (.int (own_nf p5)), .val (.int (0 : Int32)), .val (.int (1 : Int32)), .val (.int (f 1))] [(.int (0 : Int32))])) _
          refine XS.istore X13.here hx rfl (hb hby d1_58) rfl (l' := #[.val (.ref a1), .val (.int p2), .val (.ref a3), .val (.int p4), .val (.int p5), .val (.ref a3), .val (.int (own_nf p5)), .val (.int (0 : Int32)), .val (.int (1 : Int32)), .val (.int (f 1))]) rfl ?_
          show Steps p.tables e below (T13.setTop (mkF m 60 #[.val (.ref a1), .val (.int p2), .val (.ref a3), .val (.int p4), .val (.int p5), .val (.ref a3), .val (.int (own_nf p5)), .val (.int (0 : Int32)), .val (.int (1 : Int32)), .val (.int (f 1))] [])) _
          refine XS.iinc X13.here hx rfl (hb hby d1_60) rfl (l' := #[.val (.ref a1), .val (.int p2), .val (.ref a3), .val (.int p4), .val (.int p5), .val (.ref a3), .val (.int (own_nf p5)), .val (.int (0 : Int32)), .val (.int (2 : Int32)), .val (.int (f 1))]) rfl ?_
          show Steps p.tables e below (T13.setTop (mkF m 63 #[.val (.ref a1), .val (.int p2), .val (.ref a3), .val (.int p4), .val (.int p5), .val (.ref a3), .val (.int (own_nf p5)), .val (.int (0 : Int32)), .val (.int (2 : Int32)), .val (.int (f 1))] [])) _
          refine XS.goto X13.here hx rfl (pc0 := 63) (pc' := 18) rfl (hb hby d1_63) (by decide) (by decide) ?_
          show Steps p.tables e below (T13.setTop (mkF m 18 #[.val (.ref a1), .val (.int p2), .val (.ref a3), .val (.int p4), .val (.int p5), .val (.ref a3), .val (.int (own_nf p5)), .val (.int (0 : Int32)), .val (.int (2 : Int32)), .val (.int (f 1))] [])) _
          refine XS.iload X13.here hx rfl (hb hby d1_18) rfl ?_
          refine XS.iloadN X13.here hx rfl (hb hby d1_20) rfl ?_
          refine XS.icmpYes X13.here hx rfl (pc0 := 21) (pc' := 66) rfl (hb hby d1_21) rfl (flt ((by rw [hk]; decide) : ¬ ((2 : Int32) < p4))).2.1 (by decide) (by decide) ?_
          show Steps p.tables e below (T13.setTop (mkF m 66 #[.val (.ref a1), .val (.int p2), .val (.ref a3), .val (.int p4), .val (.int p5), .val (.ref a3), .val (.int (own_nf p5)), .val (.int (0 : Int32)), .val (.int (2 : Int32)), .val (.int (f 1))] [])) _
          refine XS.iload X13.here hx rfl (hb hby d1_66) rfl ?_
          show Steps p.tables e below (T13.setTop (mkF m 68 #[.val (.ref a1), .val (.int p2), .val (.ref a3), .val (.int p4), .val (.int p5), .val (.ref a3), .val (.int (own_nf p5)), .val (.int (0 : Int32)), .val (.int (2 : Int32)), .val (.int (f 1))] [(.int (0 : Int32))])) _
          exact retI X13 hx Bd.returns (hb hby d1_68) hr
        · show Q_rm1a Z a1 p2 a3 p4 p5 f g h0 n0 _ T13.heap _
          rw [e13]
          have hs : (own_sel p4 (fun i => own_x g p2 (own_nf p5) (f i)) f) = [] := by
            show (if (0 : Int32) < p4 then (if own_x g p2 (own_nf p5) (f 0) = (0 : Int32) then [] else [f 0]) else []) ++ ((if (1 : Int32) < p4 then (if own_x g p2 (own_nf p5) (f 1) = (0 : Int32) then [] else [f 1]) else []) ++ (if (2 : Int32) < p4 then (if own_x g p2 (own_nf p5) (f 2) = (0 : Int32) then [] else [f 2]) else [])) = _
            rw [hb0, hb1, hk]; rfl
          have hV : ArF Z h13 a3 .char 3 (fun i => .int ((fun i => if i = 0 then (f 1) else if i = 1 then (f 1) else (f 2)) i)) := V13_v13.congr (fun i hi => by
            match i, hi with
            | 0, _ => exact congrArg Value.int (own_nar (hix 1 (by decide)).1)
            | 1, _ => rfl
            | 2, _ => rfl)
          exact ⟨(fun i => if i = 0 then (f 1) else if i = 1 then (f 1) else (f 2)), by rw [hs]; rfl, N13, K13, hV, (by rw [hs]; intro i hi; exact absurd hi (Nat.not_lt_zero i))⟩
      · obtain ⟨fs, hr, hrun, hended, hW, hsame⟩ := X13.leave (v := some (.int (1 : Int32))) (fun h => by rw [Bd.returns] at h; cases h)
        refine ⟨_, _, pre15 _ ?_, hrun, hended, _, _, rfl, ?_, ⟨_, rfl⟩, hW, hsame.mono (by decide) (by decide)⟩
        · show Steps p.tables e below (T13.setTop (mkF m 57 #[.val (.ref a1), .val (.int p2), .val (.ref a3), .val (.int p4), .val (.int p5), .val (.ref a3), .val (.int (own_nf p5)), .val (.int (0 : Int32)), .val (.int (1 : Int32)), .val (.int (f 1))] [(.int (own_x g p2 (own_nf p5) (f 1))), (.int (0 : Int32))])) _
          rw [hb1]
          show Steps p.tables e below (T13.setTop (mkF m 57 #[.val (.ref a1), .val (.int p2), .val (.ref a3), .val (.int p4), .val (.int p5), .val (.ref a3), .val (.int (own_nf p5)), .val (.int (0 : Int32)), .val (.int (1 : Int32)), .val (.int (f 1))] [(.int (1 : Int32)), (.int (0 : Int32))])) _
          refine XS.iadd X13.here hx rfl (hb hby d1_57) rfl ?_
          show Steps p.tables e below (T13.setTop (mkF m 58 #[.val (.ref a1), .val (.int p2), .val (.ref a3), .val (.int p4), .val (.int p5), .val (.ref a3), .val (.int (own_nf p5)), .val (.int (0 : Int32)), .val (.int (1 : Int32)), .val (.int (f 1))] [(.int (1 : Int32))])) _
          refine XS.istore X13.here hx rfl (hb hby d1_58) rfl (l' := #[.val (.ref a1), .val (.int p2), .val (.ref a3), .val (.int p4), .val (.int p5), .val (.ref a3), .val (.int (own_nf p5)), .val (.int (1 : Int32)), .val (.int (1 : Int32)), .val (.int (f 1))]) rfl ?_
          show Steps p.tables e below (T13.setTop (mkF m 60 #[.val (.ref a1), .val (.int p2), .val (.ref a3), .val (.int p4), .val (.int p5), .val (.ref a3), .val (.int (own_nf p5)), .val (.int (1 : Int32)), .val (.int (1 : Int32)), .val (.int (f 1))] [])) _
          refine XS.iinc X13.here hx rfl (hb hby d1_60) rfl (l' := #[.val (.ref a1), .val (.int p2), .val (.ref a3), .val (.int p4), .val (.int p5), .val (.ref a3), .val (.int (own_nf p5)), .val (.int (1 : Int32)), .val (.int (2 : Int32)), .val (.int (f 1))]) rfl ?_
          show Steps p.tables e below (T13.setTop (mkF m 63 #[.val (.ref a1), .val (.int p2), .val (.ref a3), .val (.int p4), .val (.int p5), .val (.ref a3), .val (.int (own_nf p5)), .val (.int (1 : Int32)), .val (.int (2 : Int32)), .val (.int (f 1))] [])) _
          refine XS.goto X13.here hx rfl (pc0 := 63) (pc' := 18) rfl (hb hby d1_63) (by decide) (by decide) ?_
          show Steps p.tables e below (T13.setTop (mkF m 18 #[.val (.ref a1), .val (.int p2), .val (.ref a3), .val (.int p4), .val (.int p5), .val (.ref a3), .val (.int (own_nf p5)), .val (.int (1 : Int32)), .val (.int (2 : Int32)), .val (.int (f 1))] [])) _
          refine XS.iload X13.here hx rfl (hb hby d1_18) rfl ?_
          refine XS.iloadN X13.here hx rfl (hb hby d1_20) rfl ?_
          refine XS.icmpYes X13.here hx rfl (pc0 := 21) (pc' := 66) rfl (hb hby d1_21) rfl (flt ((by rw [hk]; decide) : ¬ ((2 : Int32) < p4))).2.1 (by decide) (by decide) ?_
          show Steps p.tables e below (T13.setTop (mkF m 66 #[.val (.ref a1), .val (.int p2), .val (.ref a3), .val (.int p4), .val (.int p5), .val (.ref a3), .val (.int (own_nf p5)), .val (.int (1 : Int32)), .val (.int (2 : Int32)), .val (.int (f 1))] [])) _
          refine XS.iload X13.here hx rfl (hb hby d1_66) rfl ?_
          show Steps p.tables e below (T13.setTop (mkF m 68 #[.val (.ref a1), .val (.int p2), .val (.ref a3), .val (.int p4), .val (.int p5), .val (.ref a3), .val (.int (own_nf p5)), .val (.int (1 : Int32)), .val (.int (2 : Int32)), .val (.int (f 1))] [(.int (1 : Int32))])) _
          exact retI X13 hx Bd.returns (hb hby d1_68) hr
        · show Q_rm1a Z a1 p2 a3 p4 p5 f g h0 n0 _ T13.heap _
          rw [e13]
          have hs : (own_sel p4 (fun i => own_x g p2 (own_nf p5) (f i)) f) = [(f 1)] := by
            show (if (0 : Int32) < p4 then (if own_x g p2 (own_nf p5) (f 0) = (0 : Int32) then [] else [f 0]) else []) ++ ((if (1 : Int32) < p4 then (if own_x g p2 (own_nf p5) (f 1) = (0 : Int32) then [] else [f 1]) else []) ++ (if (2 : Int32) < p4 then (if own_x g p2 (own_nf p5) (f 2) = (0 : Int32) then [] else [f 2]) else [])) = _
            rw [hb0, hb1, hk]; rfl
          have hV : ArF Z h13 a3 .char 3 (fun i => .int ((fun i => if i = 0 then (f 1) else if i = 1 then (f 1) else (f 2)) i)) := V13_v13.congr (fun i hi => by
            match i, hi with
            | 0, _ => exact congrArg Value.int (own_nar (hix 1 (by decide)).1)
            | 1, _ => rfl
            | 2, _ => rfl)
          exact ⟨(fun i => if i = 0 then (f 1) else if i = 1 then (f 1) else (f 2)), by rw [hs]; rfl, N13, K13, hV, (by rw [hs]; intro i hi; have hj : i = 0 := by { simp only [List.length_cons, List.length_nil] at hi; omega }; rcases hj with rfl <;> rfl)⟩
    · obtain ⟨cl16, Ar16, S16, H16⟩ := id V9_v9
      have hin16 : ¬ ((1 : Int32) < 0 ∨ cl16.slots.size ≤ ((1 : Int32)).toNatClampNeg) := inA S16 (by decide) (by decide)
      have hat16 : cl16.slots[((1 : Int32)).toNatClampNeg]? = some (.int (f 1)) := ArF.at S16 H16 hin16 rfl
      obtain ⟨cl17, Ar17, S17, H17⟩ := id V9_v9
      have hin17 : ¬ ((1 : Int32) < 0 ∨ cl17.slots.size ≤ ((1 : Int32)).toNatClampNeg) := inA S17 (by decide) (by decide)
      obtain ⟨T17, h17, X17, e17, W17, st17⟩ := stC X9 hx hZ e9 Ar17 (j := (1 : Int32)) hin17 (g := (mkF m 36 #[.val (.ref a1), .val (.int p2), .val (.ref a3), .val (.int p4), .val (.int p5), .val (.ref a3), .val (.int (own_nf p5)), .val (.int (1 : Int32)), .val (.int (1 : Int32)), .val (.int (f 1))] [(.int (f 1)), (.int (1 : Int32)), (.ref a3)])) rfl rfl (hb hby d1_36)
      have W0_v17 := W0_v9.other W17 hne
      have Z17 : n0 ≤ h17.size := Nat.le_trans Z9 (Nat.le_of_eq W17.size.symm)
      have K17 := K9.wr W17 (Or.inl (by simp))
      have V17_v17 := ArF.set Ar17 S17 H17 W17 hin17
      have N17 := Fr.snoc X17 N9 ga
      obtain ⟨cl18, Ar18, S18, H18⟩ := id W0_v17
      have hin18 : ¬ ((own_j (f 1) p2) < 0 ∨ cl18.slots.size ≤ ((own_j (f 1) p2)).toNatClampNeg) := inA S18 (hix 1 (by decide)).2.1 (hix 1 (by decide)).2.2
      have hat18 : cl18.slots[((own_j (f 1) p2)).toNatClampNeg]? = some (.long (g (own_j (f 1) p2).toNatClampNeg)) := ArF.at S18 H18 hin18 rfl
      have pre19 : ∀ t, Steps p.tables e below (T17.setTop (mkF m 57 #[.val (.ref a1), .val (.int p2), .val (.ref a3), .val (.int p4), .val (.int p5), .val (.ref a3), .val (.int (own_nf p5)), .val (.int (1 : Int32)), .val (.int (1 : Int32)), .val (.int (f 1))] [(.int (own_x g p2 (own_nf p5) (f 1))), (.int (1 : Int32))])) t → Steps p.tables e below (s₁.setTop (entryFrame m #[(.ref a1), (.int p2), (.ref a3), (.int p4), (.int p5), (.ref a3)] 10)) t := by
        intro t k
        refine pre11 t ?_
        show Steps p.tables e below (T9.setTop (mkF m 57 #[.val (.ref a1), .val (.int p2), .val (.ref a3), .val (.int p4), .val (.int p5), .val (.ref a3), .val (.int (own_nf p5)), .val (.int (0 : Int32)), .val (.int (0 : Int32)), .val (.int (f 0))] [(.int (own_x g p2 (own_nf p5) (f 0))), (.int (0 : Int32))])) _
        rw [hb0]
        show Steps p.tables e below (T9.setTop (mkF m 57 #[.val (.ref a1), .val (.int p2), .val (.ref a3), .val (.int p4), .val (.int p5), .val (.ref a3), .val (.int (own_nf p5)), .val (.int (0 : Int32)), .val (.int (0 : Int32)), .val (.int (f 0))] [(.int (1 : Int32)), (.int (0 : Int32))])) _
        refine XS.iadd X9.here hx rfl (hb hby d1_57) rfl ?_
        show Steps p.tables e below (T9.setTop (mkF m 58 #[.val (.ref a1), .val (.int p2), .val (.ref a3), .val (.int p4), .val (.int p5), .val (.ref a3), .val (.int (own_nf p5)), .val (.int (0 : Int32)), .val (.int (0 : Int32)), .val (.int (f 0))] [(.int (1 : Int32))])) _
        refine XS.istore X9.here hx rfl (hb hby d1_58) rfl (l' := #[.val (.ref a1), .val (.int p2), .val (.ref a3), .val (.int p4), .val (.int p5), .val (.ref a3), .val (.int (own_nf p5)), .val (.int (1 : Int32)), .val (.int (0 : Int32)), .val (.int (f 0))]) rfl ?_
        show Steps p.tables e below (T9.setTop (mkF m 60 #[.val (.ref a1), .val (.int p2), .val (.ref a3), .val (.int p4), .val (.int p5), .val (.ref a3), .val (.int (own_nf p5)), .val (.int (1 : Int32)), .val (.int (0 : Int32)), .val (.int (f 0))] [])) _
        refine XS.iinc X9.here hx rfl (hb hby d1_60) rfl (l' := #[.val (.ref a1), .val (.int p2), .val (.ref a3), .val (.int p4), .val (.int p5), .val (.ref a3), .val (.int (own_nf p5)), .val (.int (1 : Int32)), .val (.int (1 : Int32)), .val (.int (f 0))]) rfl ?_
        show Steps p.tables e below (T9.setTop (mkF m 63 #[.val (.ref a1), .val (.int p2), .val (.ref a3), .val (.int p4), .val (.int p5), .val (.ref a3), .val (.int (own_nf p5)), .val (.int (1 : Int32)), .val (.int (1 : Int32)), .val (.int (f 0))] [])) _
        refine XS.goto X9.here hx rfl (pc0 := 63) (pc' := 18) rfl (hb hby d1_63) (by decide) (by decide) ?_
        show Steps p.tables e below (T9.setTop (mkF m 18 #[.val (.ref a1), .val (.int p2), .val (.ref a3), .val (.int p4), .val (.int p5), .val (.ref a3), .val (.int (own_nf p5)), .val (.int (1 : Int32)), .val (.int (1 : Int32)), .val (.int (f 0))] [])) _
        refine XS.iload X9.here hx rfl (hb hby d1_18) rfl ?_
        refine XS.iloadN X9.here hx rfl (hb hby d1_20) rfl ?_
        refine XS.icmpNo X9.here hx rfl (hb hby d1_21) rfl (tlt ((by rw [hk]; decide) : ((1 : Int32) < p4))).2.1 ?_
        show Steps p.tables e below (T9.setTop (mkF m 24 #[.val (.ref a1), .val (.int p2), .val (.ref a3), .val (.int p4), .val (.int p5), .val (.ref a3), .val (.int (own_nf p5)), .val (.int (1 : Int32)), .val (.int (1 : Int32)), .val (.int (f 0))] [])) _
        refine XS.aloadN X9.here hx rfl (hb hby d1_24) rfl rfl ?_
        refine XS.iload X9.here hx rfl (hb hby d1_25) rfl ?_
        show Steps p.tables e below (T9.setTop (mkF m 27 #[.val (.ref a1), .val (.int p2), .val (.ref a3), .val (.int p4), .val (.int p5), .val (.ref a3), .val (.int (own_nf p5)), .val (.int (1 : Int32)), .val (.int (1 : Int32)), .val (.int (f 0))] [(.int (1 : Int32)), (.ref a3)])) _
        refine X9.caload hx (j := (1 : Int32)) (v := (.int (f 1))) (by rw [e9]; exact Ar16.1) (State.isArrayOf_alike hZ.alike Ar16.2.1) Ar16.2.2 hin16 hat16 (g := (mkF m 27 #[.val (.ref a1), .val (.int p2), .val (.ref a3), .val (.int p4), .val (.int p5), .val (.ref a3), .val (.int (own_nf p5)), .val (.int (1 : Int32)), .val (.int (1 : Int32)), .val (.int (f 0))] [(.int (1 : Int32)), (.ref a3)])) rfl rfl (hb hby d1_27) _ ?_
        show Steps p.tables e below (T9.setTop (mkF m 28 #[.val (.ref a1), .val (.int p2), .val (.ref a3), .val (.int p4), .val (.int p5), .val (.ref a3), .val (.int (own_nf p5)), .val (.int (1 : Int32)), .val (.int (1 : Int32)), .val (.int (f 0))] [(.int (f 1))])) _
        refine XS.istore X9.here hx rfl (hb hby d1_28) rfl (l' := #[.val (.ref a1), .val (.int p2), .val (.ref a3), .val (.int p4), .val (.int p5), .val (.ref a3), .val (.int (own_nf p5)), .val (.int (1 : Int32)), .val (.int (1 : Int32)), .val (.int (f 1))]) rfl ?_
        show Steps p.tables e below (T9.setTop (mkF m 30 #[.val (.ref a1), .val (.int p2), .val (.ref a3), .val (.int p4), .val (.int p5), .val (.ref a3), .val (.int (own_nf p5)), .val (.int (1 : Int32)), .val (.int (1 : Int32)), .val (.int (f 1))] [])) _
        refine XS.aload X9.here hx rfl (hb hby d1_30) rfl rfl ?_
        refine XS.iload X9.here hx rfl (hb hby d1_32) rfl ?_
        refine XS.iload X9.here hx rfl (hb hby d1_34) rfl ?_
        show Steps p.tables e below (T9.setTop (mkF m 36 #[.val (.ref a1), .val (.int p2), .val (.ref a3), .val (.int p4), .val (.int p5), .val (.ref a3), .val (.int (own_nf p5)), .val (.int (1 : Int32)), .val (.int (1 : Int32)), .val (.int (f 1))] [(.int (f 1)), (.int (1 : Int32)), (.ref a3)])) _
        refine st17 _ ?_
        show Steps p.tables e below (T17.setTop (mkF m 37 #[.val (.ref a1), .val (.int p2), .val (.ref a3), .val (.int p4), .val (.int p5), .val (.ref a3), .val (.int (own_nf p5)), .val (.int (1 : Int32)), .val (.int (1 : Int32)), .val (.int (f 1))] [])) _
        refine XS.iload X17.here hx rfl (hb hby d1_37) rfl ?_
        refine XS.aloadN X17.here hx rfl (hb hby d1_39) rfl rfl ?_
        refine XS.iload X17.here hx rfl (hb hby d1_40) rfl ?_
        show Steps p.tables e below (T17.setTop (mkF m 42 #[.val (.ref a1), .val (.int p2), .val (.ref a3), .val (.int p4), .val (.int p5), .val (.ref a3), .val (.int (own_nf p5)), .val (.int (1 : Int32)), .val (.int (1 : Int32)), .val (.int (f 1))] [(.int (f 1)), (.ref a1), (.int (1 : Int32))])) _
        refine XS.bipush X17.here hx rfl (hb hby d1_42) ?_
        refine XS.iushr X17.here hx rfl (hb hby d1_44) rfl ?_
        show Steps p.tables e below (T17.setTop (mkF m 45 #[.val (.ref a1), .val (.int p2), .val (.ref a3), .val (.int p4), .val (.int p5), .val (.ref a3), .val (.int (own_nf p5)), .val (.int (1 : Int32)), .val (.int (1 : Int32)), .val (.int (f 1))] [(.int (((f 1).toUInt32 >>> ((6 : Int32) &&& 31).toUInt32).toInt32)), (.ref a1), (.int (1 : Int32))])) _
        refine XS.iloadN X17.here hx rfl (hb hby d1_45) rfl ?_
        refine XS.isub X17.here hx rfl (hb hby d1_46) rfl ?_
        show Steps p.tables e below (T17.setTop (mkF m 47 #[.val (.ref a1), .val (.int p2), .val (.ref a3), .val (.int p4), .val (.int p5), .val (.ref a3), .val (.int (own_nf p5)), .val (.int (1 : Int32)), .val (.int (1 : Int32)), .val (.int (f 1))] [(.int (own_j (f 1) p2)), (.ref a1), (.int (1 : Int32))])) _
        refine X17.laload hx (j := (own_j (f 1) p2)) (v := (.long (g (own_j (f 1) p2).toNatClampNeg))) (by rw [e17]; exact Ar18.1) (State.isArrayOf_alike hZ.alike Ar18.2.1) Ar18.2.2 hin18 hat18 (g := (mkF m 47 #[.val (.ref a1), .val (.int p2), .val (.ref a3), .val (.int p4), .val (.int p5), .val (.ref a3), .val (.int (own_nf p5)), .val (.int (1 : Int32)), .val (.int (1 : Int32)), .val (.int (f 1))] [(.int (own_j (f 1) p2)), (.ref a1), (.int (1 : Int32))])) rfl rfl (hb hby d1_47) _ ?_
        show Steps p.tables e below (T17.setTop (mkF m 48 #[.val (.ref a1), .val (.int p2), .val (.ref a3), .val (.int p4), .val (.int p5), .val (.ref a3), .val (.int (own_nf p5)), .val (.int (1 : Int32)), .val (.int (1 : Int32)), .val (.int (f 1))] [(.long (g (own_j (f 1) p2).toNatClampNeg)), (.int (1 : Int32))])) _
        refine XS.iload X17.here hx rfl (hb hby d1_48) rfl ?_
        refine XS.lushr X17.here hx rfl (hb hby d1_50) rfl ?_
        show Steps p.tables e below (T17.setTop (mkF m 51 #[.val (.ref a1), .val (.int p2), .val (.ref a3), .val (.int p4), .val (.int p5), .val (.ref a3), .val (.int (own_nf p5)), .val (.int (1 : Int32)), .val (.int (1 : Int32)), .val (.int (f 1))] [(.long (((g (own_j (f 1) p2).toNatClampNeg).toUInt64 >>> ((f 1) &&& 0x3f).toInt64.toUInt64).toInt64)), (.int (1 : Int32))])) _
        refine XS.l2i X17.here hx rfl (hb hby d1_51) rfl ?_
        refine XS.iconst X17.here hx rfl (hb hby d1_52) ?_
        refine XS.iand X17.here hx rfl (hb hby d1_53) rfl ?_
        show Steps p.tables e below (T17.setTop (mkF m 54 #[.val (.ref a1), .val (.int p2), .val (.ref a3), .val (.int p4), .val (.int p5), .val (.ref a3), .val (.int (own_nf p5)), .val (.int (1 : Int32)), .val (.int (1 : Int32)), .val (.int (f 1))] [(.int (((((g (own_j (f 1) p2).toNatClampNeg).toUInt64 >>> ((f 1) &&& 0x3f).toInt64.toUInt64).toInt64).toInt32) &&& (1 : Int32))), (.int (1 : Int32))])) _
        refine XS.iload X17.here hx rfl (hb hby d1_54) rfl ?_
        refine XS.ixor X17.here hx rfl (hb hby d1_56) rfl ?_
        show Steps p.tables e below (T17.setTop (mkF m 57 #[.val (.ref a1), .val (.int p2), .val (.ref a3), .val (.int p4), .val (.int p5), .val (.ref a3), .val (.int (own_nf p5)), .val (.int (1 : Int32)), .val (.int (1 : Int32)), .val (.int (f 1))] [(.int (own_x g p2 (own_nf p5) (f 1))), (.int (1 : Int32))])) _
        exact k
      rcases own_01 g p2 (own_nf p5) (f 1) (own_nf01 p5) with hb1 | hb1
      · obtain ⟨fs, hr, hrun, hended, hW, hsame⟩ := X17.leave (v := some (.int (1 : Int32))) (fun h => by rw [Bd.returns] at h; cases h)
        refine ⟨_, _, pre19 _ ?_, hrun, hended, _, _, rfl, ?_, ⟨_, rfl⟩, hW, hsame.mono (by decide) (by decide)⟩
        · show Steps p.tables e below (T17.setTop (mkF m 57 #[.val (.ref a1), .val (.int p2), .val (.ref a3), .val (.int p4), .val (.int p5), .val (.ref a3), .val (.int (own_nf p5)), .val (.int (1 : Int32)), .val (.int (1 : Int32)), .val (.int (f 1))] [(.int (own_x g p2 (own_nf p5) (f 1))), (.int (1 : Int32))])) _
          rw [hb1]
          show Steps p.tables e below (T17.setTop (mkF m 57 #[.val (.ref a1), .val (.int p2), .val (.ref a3), .val (.int p4), .val (.int p5), .val (.ref a3), .val (.int (own_nf p5)), .val (.int (1 : Int32)), .val (.int (1 : Int32)), .val (.int (f 1))] [(.int (0 : Int32)), (.int (1 : Int32))])) _
          refine XS.iadd X17.here hx rfl (hb hby d1_57) rfl ?_
          show Steps p.tables e below (T17.setTop (mkF m 58 #[.val (.ref a1), .val (.int p2), .val (.ref a3), .val (.int p4), .val (.int p5), .val (.ref a3), .val (.int (own_nf p5)), .val (.int (1 : Int32)), .val (.int (1 : Int32)), .val (.int (f 1))] [(.int (1 : Int32))])) _
          refine XS.istore X17.here hx rfl (hb hby d1_58) rfl (l' := #[.val (.ref a1), .val (.int p2), .val (.ref a3), .val (.int p4), .val (.int p5), .val (.ref a3), .val (.int (own_nf p5)), .val (.int (1 : Int32)), .val (.int (1 : Int32)), .val (.int (f 1))]) rfl ?_
          show Steps p.tables e below (T17.setTop (mkF m 60 #[.val (.ref a1), .val (.int p2), .val (.ref a3), .val (.int p4), .val (.int p5), .val (.ref a3), .val (.int (own_nf p5)), .val (.int (1 : Int32)), .val (.int (1 : Int32)), .val (.int (f 1))] [])) _
          refine XS.iinc X17.here hx rfl (hb hby d1_60) rfl (l' := #[.val (.ref a1), .val (.int p2), .val (.ref a3), .val (.int p4), .val (.int p5), .val (.ref a3), .val (.int (own_nf p5)), .val (.int (1 : Int32)), .val (.int (2 : Int32)), .val (.int (f 1))]) rfl ?_
          show Steps p.tables e below (T17.setTop (mkF m 63 #[.val (.ref a1), .val (.int p2), .val (.ref a3), .val (.int p4), .val (.int p5), .val (.ref a3), .val (.int (own_nf p5)), .val (.int (1 : Int32)), .val (.int (2 : Int32)), .val (.int (f 1))] [])) _
          refine XS.goto X17.here hx rfl (pc0 := 63) (pc' := 18) rfl (hb hby d1_63) (by decide) (by decide) ?_
          show Steps p.tables e below (T17.setTop (mkF m 18 #[.val (.ref a1), .val (.int p2), .val (.ref a3), .val (.int p4), .val (.int p5), .val (.ref a3), .val (.int (own_nf p5)), .val (.int (1 : Int32)), .val (.int (2 : Int32)), .val (.int (f 1))] [])) _
          refine XS.iload X17.here hx rfl (hb hby d1_18) rfl ?_
          refine XS.iloadN X17.here hx rfl (hb hby d1_20) rfl ?_
          refine XS.icmpYes X17.here hx rfl (pc0 := 21) (pc' := 66) rfl (hb hby d1_21) rfl (flt ((by rw [hk]; decide) : ¬ ((2 : Int32) < p4))).2.1 (by decide) (by decide) ?_
          show Steps p.tables e below (T17.setTop (mkF m 66 #[.val (.ref a1), .val (.int p2), .val (.ref a3), .val (.int p4), .val (.int p5), .val (.ref a3), .val (.int (own_nf p5)), .val (.int (1 : Int32)), .val (.int (2 : Int32)), .val (.int (f 1))] [])) _
          refine XS.iload X17.here hx rfl (hb hby d1_66) rfl ?_
          show Steps p.tables e below (T17.setTop (mkF m 68 #[.val (.ref a1), .val (.int p2), .val (.ref a3), .val (.int p4), .val (.int p5), .val (.ref a3), .val (.int (own_nf p5)), .val (.int (1 : Int32)), .val (.int (2 : Int32)), .val (.int (f 1))] [(.int (1 : Int32))])) _
          exact retI X17 hx Bd.returns (hb hby d1_68) hr
        · show Q_rm1a Z a1 p2 a3 p4 p5 f g h0 n0 _ T17.heap _
          rw [e17]
          have hs : (own_sel p4 (fun i => own_x g p2 (own_nf p5) (f i)) f) = [(f 0)] := by
            show (if (0 : Int32) < p4 then (if own_x g p2 (own_nf p5) (f 0) = (0 : Int32) then [] else [f 0]) else []) ++ ((if (1 : Int32) < p4 then (if own_x g p2 (own_nf p5) (f 1) = (0 : Int32) then [] else [f 1]) else []) ++ (if (2 : Int32) < p4 then (if own_x g p2 (own_nf p5) (f 2) = (0 : Int32) then [] else [f 2]) else [])) = _
            rw [hb0, hb1, hk]; rfl
          have hV : ArF Z h17 a3 .char 3 (fun i => .int ((fun i => if i = 0 then (f 0) else if i = 1 then (f 1) else (f 2)) i)) := V17_v17.congr (fun i hi => by
            match i, hi with
            | 0, _ => exact congrArg Value.int (own_nar (hix 0 (by decide)).1)
            | 1, _ => exact congrArg Value.int (own_nar (hix 1 (by decide)).1)
            | 2, _ => rfl)
          exact ⟨(fun i => if i = 0 then (f 0) else if i = 1 then (f 1) else (f 2)), by rw [hs]; rfl, N17, K17, hV, (by rw [hs]; intro i hi; have hj : i = 0 := by { simp only [List.length_cons, List.length_nil] at hi; omega }; rcases hj with rfl <;> rfl)⟩
      · obtain ⟨fs, hr, hrun, hended, hW, hsame⟩ := X17.leave (v := some (.int (2 : Int32))) (fun h => by rw [Bd.returns] at h; cases h)
        refine ⟨_, _, pre19 _ ?_, hrun, hended, _, _, rfl, ?_, ⟨_, rfl⟩, hW, hsame.mono (by decide) (by decide)⟩
        · show Steps p.tables e below (T17.setTop (mkF m 57 #[.val (.ref a1), .val (.int p2), .val (.ref a3), .val (.int p4), .val (.int p5), .val (.ref a3), .val (.int (own_nf p5)), .val (.int (1 : Int32)), .val (.int (1 : Int32)), .val (.int (f 1))] [(.int (own_x g p2 (own_nf p5) (f 1))), (.int (1 : Int32))])) _
          rw [hb1]
          show Steps p.tables e below (T17.setTop (mkF m 57 #[.val (.ref a1), .val (.int p2), .val (.ref a3), .val (.int p4), .val (.int p5), .val (.ref a3), .val (.int (own_nf p5)), .val (.int (1 : Int32)), .val (.int (1 : Int32)), .val (.int (f 1))] [(.int (1 : Int32)), (.int (1 : Int32))])) _
          refine XS.iadd X17.here hx rfl (hb hby d1_57) rfl ?_
          show Steps p.tables e below (T17.setTop (mkF m 58 #[.val (.ref a1), .val (.int p2), .val (.ref a3), .val (.int p4), .val (.int p5), .val (.ref a3), .val (.int (own_nf p5)), .val (.int (1 : Int32)), .val (.int (1 : Int32)), .val (.int (f 1))] [(.int (2 : Int32))])) _
          refine XS.istore X17.here hx rfl (hb hby d1_58) rfl (l' := #[.val (.ref a1), .val (.int p2), .val (.ref a3), .val (.int p4), .val (.int p5), .val (.ref a3), .val (.int (own_nf p5)), .val (.int (2 : Int32)), .val (.int (1 : Int32)), .val (.int (f 1))]) rfl ?_
          show Steps p.tables e below (T17.setTop (mkF m 60 #[.val (.ref a1), .val (.int p2), .val (.ref a3), .val (.int p4), .val (.int p5), .val (.ref a3), .val (.int (own_nf p5)), .val (.int (2 : Int32)), .val (.int (1 : Int32)), .val (.int (f 1))] [])) _
          refine XS.iinc X17.here hx rfl (hb hby d1_60) rfl (l' := #[.val (.ref a1), .val (.int p2), .val (.ref a3), .val (.int p4), .val (.int p5), .val (.ref a3), .val (.int (own_nf p5)), .val (.int (2 : Int32)), .val (.int (2 : Int32)), .val (.int (f 1))]) rfl ?_
          show Steps p.tables e below (T17.setTop (mkF m 63 #[.val (.ref a1), .val (.int p2), .val (.ref a3), .val (.int p4), .val (.int p5), .val (.ref a3), .val (.int (own_nf p5)), .val (.int (2 : Int32)), .val (.int (2 : Int32)), .val (.int (f 1))] [])) _
          refine XS.goto X17.here hx rfl (pc0 := 63) (pc' := 18) rfl (hb hby d1_63) (by decide) (by decide) ?_
          show Steps p.tables e below (T17.setTop (mkF m 18 #[.val (.ref a1), .val (.int p2), .val (.ref a3), .val (.int p4), .val (.int p5), .val (.ref a3), .val (.int (own_nf p5)), .val (.int (2 : Int32)), .val (.int (2 : Int32)), .val (.int (f 1))] [])) _
          refine XS.iload X17.here hx rfl (hb hby d1_18) rfl ?_
          refine XS.iloadN X17.here hx rfl (hb hby d1_20) rfl ?_
          refine XS.icmpYes X17.here hx rfl (pc0 := 21) (pc' := 66) rfl (hb hby d1_21) rfl (flt ((by rw [hk]; decide) : ¬ ((2 : Int32) < p4))).2.1 (by decide) (by decide) ?_
          show Steps p.tables e below (T17.setTop (mkF m 66 #[.val (.ref a1), .val (.int p2), .val (.ref a3), .val (.int p4), .val (.int p5), .val (.ref a3), .val (.int (own_nf p5)), .val (.int (2 : Int32)), .val (.int (2 : Int32)), .val (.int (f 1))] [])) _
          refine XS.iload X17.here hx rfl (hb hby d1_66) rfl ?_
          show Steps p.tables e below (T17.setTop (mkF m 68 #[.val (.ref a1), .val (.int p2), .val (.ref a3), .val (.int p4), .val (.int p5), .val (.ref a3), .val (.int (own_nf p5)), .val (.int (2 : Int32)), .val (.int (2 : Int32)), .val (.int (f 1))] [(.int (2 : Int32))])) _
          exact retI X17 hx Bd.returns (hb hby d1_68) hr
        · show Q_rm1a Z a1 p2 a3 p4 p5 f g h0 n0 _ T17.heap _
          rw [e17]
          have hs : (own_sel p4 (fun i => own_x g p2 (own_nf p5) (f i)) f) = [(f 0), (f 1)] := by
            show (if (0 : Int32) < p4 then (if own_x g p2 (own_nf p5) (f 0) = (0 : Int32) then [] else [f 0]) else []) ++ ((if (1 : Int32) < p4 then (if own_x g p2 (own_nf p5) (f 1) = (0 : Int32) then [] else [f 1]) else []) ++ (if (2 : Int32) < p4 then (if own_x g p2 (own_nf p5) (f 2) = (0 : Int32) then [] else [f 2]) else [])) = _
            rw [hb0, hb1, hk]; rfl
          have hV : ArF Z h17 a3 .char 3 (fun i => .int ((fun i => if i = 0 then (f 0) else if i = 1 then (f 1) else (f 2)) i)) := V17_v17.congr (fun i hi => by
            match i, hi with
            | 0, _ => exact congrArg Value.int (own_nar (hix 0 (by decide)).1)
            | 1, _ => exact congrArg Value.int (own_nar (hix 1 (by decide)).1)
            | 2, _ => rfl)
          exact ⟨(fun i => if i = 0 then (f 0) else if i = 1 then (f 1) else (f 2)), by rw [hs]; rfl, N17, K17, hV, (by rw [hs]; intro i hi; have hj : i = 0 ∨ i = 1 := by { simp only [List.length_cons, List.length_nil] at hi; omega }; rcases hj with rfl | rfl <;> rfl)⟩
  · obtain ⟨cl20, Ar20, S20, H20⟩ := id V0
    have hin20 : ¬ ((0 : Int32) < 0 ∨ cl20.slots.size ≤ ((0 : Int32)).toNatClampNeg) := inA S20 (by decide) (by decide)
    have hat20 : cl20.slots[((0 : Int32)).toNatClampNeg]? = some (.int (f 0)) := ArF.at S20 H20 hin20 rfl
    obtain ⟨cl21, Ar21, S21, H21⟩ := id V0
    have hin21 : ¬ ((0 : Int32) < 0 ∨ cl21.slots.size ≤ ((0 : Int32)).toNatClampNeg) := inA S21 (by decide) (by decide)
    obtain ⟨T21, h21, X21, e21, W21, st21⟩ := stC X0 hx hZ e0 Ar21 (j := (0 : Int32)) hin21 (g := (mkF m 36 #[.val (.ref a1), .val (.int p2), .val (.ref a3), .val (.int p4), .val (.int p5), .val (.ref a3), .val (.int (own_nf p5)), .val (.int (0 : Int32)), .val (.int (0 : Int32)), .val (.int (f 0))] [(.int (f 0)), (.int (0 : Int32)), (.ref a3)])) rfl rfl (hb hby d1_36)
    have W0_v21 := W0.other W21 hne
    have Z21 : n0 ≤ h21.size := Nat.le_trans Z0 (Nat.le_of_eq W21.size.symm)
    have K21 := K0.wr W21 (Or.inl (by simp))
    have V21_v21 := ArF.set Ar21 S21 H21 W21 hin21
    have N21 := Fr.snoc X21 N0 ga
    obtain ⟨cl22, Ar22, S22, H22⟩ := id W0_v21
    have hin22 : ¬ ((own_j (f 0) p2) < 0 ∨ cl22.slots.size ≤ ((own_j (f 0) p2)).toNatClampNeg) := inA S22 (hix 0 (by decide)).2.1 (hix 0 (by decide)).2.2
    have hat22 : cl22.slots[((own_j (f 0) p2)).toNatClampNeg]? = some (.long (g (own_j (f 0) p2).toNatClampNeg)) := ArF.at S22 H22 hin22 rfl
    have pre23 : ∀ t, Steps p.tables e below (T21.setTop (mkF m 57 #[.val (.ref a1), .val (.int p2), .val (.ref a3), .val (.int p4), .val (.int p5), .val (.ref a3), .val (.int (own_nf p5)), .val (.int (0 : Int32)), .val (.int (0 : Int32)), .val (.int (f 0))] [(.int (own_x g p2 (own_nf p5) (f 0))), (.int (0 : Int32))])) t → Steps p.tables e below (s₁.setTop (entryFrame m #[(.ref a1), (.int p2), (.ref a3), (.int p4), (.int p5), (.ref a3)] 10)) t := by
      intro t k
      refine pre3 t ?_
      show Steps p.tables e below (s₁.setTop (mkF m 12 #[.val (.ref a1), .val (.int p2), .val (.ref a3), .val (.int p4), .val (.int p5), .val (.ref a3), .val (.int (own_nf p5)), .unset, .unset, .unset] [])) _
      refine XS.iconst X0.here hx rfl (hb hby d1_12) ?_
      refine XS.istore X0.here hx rfl (hb hby d1_13) rfl (l' := #[.val (.ref a1), .val (.int p2), .val (.ref a3), .val (.int p4), .val (.int p5), .val (.ref a3), .val (.int (own_nf p5)), .val (.int (0 : Int32)), .unset, .unset]) rfl ?_
      show Steps p.tables e below (s₁.setTop (mkF m 15 #[.val (.ref a1), .val (.int p2), .val (.ref a3), .val (.int p4), .val (.int p5), .val (.ref a3), .val (.int (own_nf p5)), .val (.int (0 : Int32)), .unset, .unset] [])) _
      refine XS.iconst X0.here hx rfl (hb hby d1_15) ?_
      refine XS.istore X0.here hx rfl (hb hby d1_16) rfl (l' := #[.val (.ref a1), .val (.int p2), .val (.ref a3), .val (.int p4), .val (.int p5), .val (.ref a3), .val (.int (own_nf p5)), .val (.int (0 : Int32)), .val (.int (0 : Int32)), .unset]) rfl ?_
      show Steps p.tables e below (s₁.setTop (mkF m 18 #[.val (.ref a1), .val (.int p2), .val (.ref a3), .val (.int p4), .val (.int p5), .val (.ref a3), .val (.int (own_nf p5)), .val (.int (0 : Int32)), .val (.int (0 : Int32)), .unset] [])) _
      refine XS.iload X0.here hx rfl (hb hby d1_18) rfl ?_
      refine XS.iloadN X0.here hx rfl (hb hby d1_20) rfl ?_
      refine XS.icmpNo X0.here hx rfl (hb hby d1_21) rfl (tlt ((by rw [hk]; decide) : ((0 : Int32) < p4))).2.1 ?_
      show Steps p.tables e below (s₁.setTop (mkF m 24 #[.val (.ref a1), .val (.int p2), .val (.ref a3), .val (.int p4), .val (.int p5), .val (.ref a3), .val (.int (own_nf p5)), .val (.int (0 : Int32)), .val (.int (0 : Int32)), .unset] [])) _
      refine XS.aloadN X0.here hx rfl (hb hby d1_24) rfl rfl ?_
      refine XS.iload X0.here hx rfl (hb hby d1_25) rfl ?_
      show Steps p.tables e below (s₁.setTop (mkF m 27 #[.val (.ref a1), .val (.int p2), .val (.ref a3), .val (.int p4), .val (.int p5), .val (.ref a3), .val (.int (own_nf p5)), .val (.int (0 : Int32)), .val (.int (0 : Int32)), .unset] [(.int (0 : Int32)), (.ref a3)])) _
      refine X0.caload hx (j := (0 : Int32)) (v := (.int (f 0))) (by rw [e0]; exact Ar20.1) (State.isArrayOf_alike hZ.alike Ar20.2.1) Ar20.2.2 hin20 hat20 (g := (mkF m 27 #[.val (.ref a1), .val (.int p2), .val (.ref a3), .val (.int p4), .val (.int p5), .val (.ref a3), .val (.int (own_nf p5)), .val (.int (0 : Int32)), .val (.int (0 : Int32)), .unset] [(.int (0 : Int32)), (.ref a3)])) rfl rfl (hb hby d1_27) _ ?_
      show Steps p.tables e below (s₁.setTop (mkF m 28 #[.val (.ref a1), .val (.int p2), .val (.ref a3), .val (.int p4), .val (.int p5), .val (.ref a3), .val (.int (own_nf p5)), .val (.int (0 : Int32)), .val (.int (0 : Int32)), .unset] [(.int (f 0))])) _
      refine XS.istore X0.here hx rfl (hb hby d1_28) rfl (l' := #[.val (.ref a1), .val (.int p2), .val (.ref a3), .val (.int p4), .val (.int p5), .val (.ref a3), .val (.int (own_nf p5)), .val (.int (0 : Int32)), .val (.int (0 : Int32)), .val (.int (f 0))]) rfl ?_
      show Steps p.tables e below (s₁.setTop (mkF m 30 #[.val (.ref a1), .val (.int p2), .val (.ref a3), .val (.int p4), .val (.int p5), .val (.ref a3), .val (.int (own_nf p5)), .val (.int (0 : Int32)), .val (.int (0 : Int32)), .val (.int (f 0))] [])) _
      refine XS.aload X0.here hx rfl (hb hby d1_30) rfl rfl ?_
      refine XS.iload X0.here hx rfl (hb hby d1_32) rfl ?_
      refine XS.iload X0.here hx rfl (hb hby d1_34) rfl ?_
      show Steps p.tables e below (s₁.setTop (mkF m 36 #[.val (.ref a1), .val (.int p2), .val (.ref a3), .val (.int p4), .val (.int p5), .val (.ref a3), .val (.int (own_nf p5)), .val (.int (0 : Int32)), .val (.int (0 : Int32)), .val (.int (f 0))] [(.int (f 0)), (.int (0 : Int32)), (.ref a3)])) _
      refine st21 _ ?_
      show Steps p.tables e below (T21.setTop (mkF m 37 #[.val (.ref a1), .val (.int p2), .val (.ref a3), .val (.int p4), .val (.int p5), .val (.ref a3), .val (.int (own_nf p5)), .val (.int (0 : Int32)), .val (.int (0 : Int32)), .val (.int (f 0))] [])) _
      refine XS.iload X21.here hx rfl (hb hby d1_37) rfl ?_
      refine XS.aloadN X21.here hx rfl (hb hby d1_39) rfl rfl ?_
      refine XS.iload X21.here hx rfl (hb hby d1_40) rfl ?_
      show Steps p.tables e below (T21.setTop (mkF m 42 #[.val (.ref a1), .val (.int p2), .val (.ref a3), .val (.int p4), .val (.int p5), .val (.ref a3), .val (.int (own_nf p5)), .val (.int (0 : Int32)), .val (.int (0 : Int32)), .val (.int (f 0))] [(.int (f 0)), (.ref a1), (.int (0 : Int32))])) _
      refine XS.bipush X21.here hx rfl (hb hby d1_42) ?_
      refine XS.iushr X21.here hx rfl (hb hby d1_44) rfl ?_
      show Steps p.tables e below (T21.setTop (mkF m 45 #[.val (.ref a1), .val (.int p2), .val (.ref a3), .val (.int p4), .val (.int p5), .val (.ref a3), .val (.int (own_nf p5)), .val (.int (0 : Int32)), .val (.int (0 : Int32)), .val (.int (f 0))] [(.int (((f 0).toUInt32 >>> ((6 : Int32) &&& 31).toUInt32).toInt32)), (.ref a1), (.int (0 : Int32))])) _
      refine XS.iloadN X21.here hx rfl (hb hby d1_45) rfl ?_
      refine XS.isub X21.here hx rfl (hb hby d1_46) rfl ?_
      show Steps p.tables e below (T21.setTop (mkF m 47 #[.val (.ref a1), .val (.int p2), .val (.ref a3), .val (.int p4), .val (.int p5), .val (.ref a3), .val (.int (own_nf p5)), .val (.int (0 : Int32)), .val (.int (0 : Int32)), .val (.int (f 0))] [(.int (own_j (f 0) p2)), (.ref a1), (.int (0 : Int32))])) _
      refine X21.laload hx (j := (own_j (f 0) p2)) (v := (.long (g (own_j (f 0) p2).toNatClampNeg))) (by rw [e21]; exact Ar22.1) (State.isArrayOf_alike hZ.alike Ar22.2.1) Ar22.2.2 hin22 hat22 (g := (mkF m 47 #[.val (.ref a1), .val (.int p2), .val (.ref a3), .val (.int p4), .val (.int p5), .val (.ref a3), .val (.int (own_nf p5)), .val (.int (0 : Int32)), .val (.int (0 : Int32)), .val (.int (f 0))] [(.int (own_j (f 0) p2)), (.ref a1), (.int (0 : Int32))])) rfl rfl (hb hby d1_47) _ ?_
      show Steps p.tables e below (T21.setTop (mkF m 48 #[.val (.ref a1), .val (.int p2), .val (.ref a3), .val (.int p4), .val (.int p5), .val (.ref a3), .val (.int (own_nf p5)), .val (.int (0 : Int32)), .val (.int (0 : Int32)), .val (.int (f 0))] [(.long (g (own_j (f 0) p2).toNatClampNeg)), (.int (0 : Int32))])) _
      refine XS.iload X21.here hx rfl (hb hby d1_48) rfl ?_
      refine XS.lushr X21.here hx rfl (hb hby d1_50) rfl ?_
      show Steps p.tables e below (T21.setTop (mkF m 51 #[.val (.ref a1), .val (.int p2), .val (.ref a3), .val (.int p4), .val (.int p5), .val (.ref a3), .val (.int (own_nf p5)), .val (.int (0 : Int32)), .val (.int (0 : Int32)), .val (.int (f 0))] [(.long (((g (own_j (f 0) p2).toNatClampNeg).toUInt64 >>> ((f 0) &&& 0x3f).toInt64.toUInt64).toInt64)), (.int (0 : Int32))])) _
      refine XS.l2i X21.here hx rfl (hb hby d1_51) rfl ?_
      refine XS.iconst X21.here hx rfl (hb hby d1_52) ?_
      refine XS.iand X21.here hx rfl (hb hby d1_53) rfl ?_
      show Steps p.tables e below (T21.setTop (mkF m 54 #[.val (.ref a1), .val (.int p2), .val (.ref a3), .val (.int p4), .val (.int p5), .val (.ref a3), .val (.int (own_nf p5)), .val (.int (0 : Int32)), .val (.int (0 : Int32)), .val (.int (f 0))] [(.int (((((g (own_j (f 0) p2).toNatClampNeg).toUInt64 >>> ((f 0) &&& 0x3f).toInt64.toUInt64).toInt64).toInt32) &&& (1 : Int32))), (.int (0 : Int32))])) _
      refine XS.iload X21.here hx rfl (hb hby d1_54) rfl ?_
      refine XS.ixor X21.here hx rfl (hb hby d1_56) rfl ?_
      show Steps p.tables e below (T21.setTop (mkF m 57 #[.val (.ref a1), .val (.int p2), .val (.ref a3), .val (.int p4), .val (.int p5), .val (.ref a3), .val (.int (own_nf p5)), .val (.int (0 : Int32)), .val (.int (0 : Int32)), .val (.int (f 0))] [(.int (own_x g p2 (own_nf p5) (f 0))), (.int (0 : Int32))])) _
      exact k
    rcases own_01 g p2 (own_nf p5) (f 0) (own_nf01 p5) with hb0 | hb0
    · obtain ⟨cl24, Ar24, S24, H24⟩ := id V21_v21
      have hin24 : ¬ ((1 : Int32) < 0 ∨ cl24.slots.size ≤ ((1 : Int32)).toNatClampNeg) := inA S24 (by decide) (by decide)
      have hat24 : cl24.slots[((1 : Int32)).toNatClampNeg]? = some (.int (f 1)) := ArF.at S24 H24 hin24 rfl
      obtain ⟨cl25, Ar25, S25, H25⟩ := id V21_v21
      have hin25 : ¬ ((0 : Int32) < 0 ∨ cl25.slots.size ≤ ((0 : Int32)).toNatClampNeg) := inA S25 (by decide) (by decide)
      obtain ⟨T25, h25, X25, e25, W25, st25⟩ := stC X21 hx hZ e21 Ar25 (j := (0 : Int32)) hin25 (g := (mkF m 36 #[.val (.ref a1), .val (.int p2), .val (.ref a3), .val (.int p4), .val (.int p5), .val (.ref a3), .val (.int (own_nf p5)), .val (.int (0 : Int32)), .val (.int (1 : Int32)), .val (.int (f 1))] [(.int (f 1)), (.int (0 : Int32)), (.ref a3)])) rfl rfl (hb hby d1_36)
      have W0_v25 := W0_v21.other W25 hne
      have Z25 : n0 ≤ h25.size := Nat.le_trans Z21 (Nat.le_of_eq W25.size.symm)
      have K25 := K21.wr W25 (Or.inl (by simp))
      have V25_v25 := ArF.set Ar25 S25 H25 W25 hin25
      have N25 := Fr.snoc X25 N21 ga
      obtain ⟨cl26, Ar26, S26, H26⟩ := id W0_v25
      have hin26 : ¬ ((own_j (f 1) p2) < 0 ∨ cl26.slots.size ≤ ((own_j (f 1) p2)).toNatClampNeg) := inA S26 (hix 1 (by decide)).2.1 (hix 1 (by decide)).2.2
      have hat26 : cl26.slots[((own_j (f 1) p2)).toNatClampNeg]? = some (.long (g (own_j (f 1) p2).toNatClampNeg)) := ArF.at S26 H26 hin26 rfl
      have pre27 : ∀ t, Steps p.tables e below (T25.setTop (mkF m 57 #[.val (.ref a1), .val (.int p2), .val (.ref a3), .val (.int p4), .val (.int p5), .val (.ref a3), .val (.int (own_nf p5)), .val (.int (0 : Int32)), .val (.int (1 : Int32)), .val (.int (f 1))] [(.int (own_x g p2 (own_nf p5) (f 1))), (.int (0 : Int32))])) t → Steps p.tables e below (s₁.setTop (entryFrame m #[(.ref a1), (.int p2), (.ref a3), (.int p4), (.int p5), (.ref a3)] 10)) t := by
        intro t k
        refine pre23 t ?_
        show Steps p.tables e below (T21.setTop (mkF m 57 #[.val (.ref a1), .val (.int p2), .val (.ref a3), .val (.int p4), .val (.int p5), .val (.ref a3), .val (.int (own_nf p5)), .val (.int (0 : Int32)), .val (.int (0 : Int32)), .val (.int (f 0))] [(.int (own_x g p2 (own_nf p5) (f 0))), (.int (0 : Int32))])) _
        rw [hb0]
        show Steps p.tables e below (T21.setTop (mkF m 57 #[.val (.ref a1), .val (.int p2), .val (.ref a3), .val (.int p4), .val (.int p5), .val (.ref a3), .val (.int (own_nf p5)), .val (.int (0 : Int32)), .val (.int (0 : Int32)), .val (.int (f 0))] [(.int (0 : Int32)), (.int (0 : Int32))])) _
        refine XS.iadd X21.here hx rfl (hb hby d1_57) rfl ?_
        show Steps p.tables e below (T21.setTop (mkF m 58 #[.val (.ref a1), .val (.int p2), .val (.ref a3), .val (.int p4), .val (.int p5), .val (.ref a3), .val (.int (own_nf p5)), .val (.int (0 : Int32)), .val (.int (0 : Int32)), .val (.int (f 0))] [(.int (0 : Int32))])) _
        refine XS.istore X21.here hx rfl (hb hby d1_58) rfl (l' := #[.val (.ref a1), .val (.int p2), .val (.ref a3), .val (.int p4), .val (.int p5), .val (.ref a3), .val (.int (own_nf p5)), .val (.int (0 : Int32)), .val (.int (0 : Int32)), .val (.int (f 0))]) rfl ?_
        show Steps p.tables e below (T21.setTop (mkF m 60 #[.val (.ref a1), .val (.int p2), .val (.ref a3), .val (.int p4), .val (.int p5), .val (.ref a3), .val (.int (own_nf p5)), .val (.int (0 : Int32)), .val (.int (0 : Int32)), .val (.int (f 0))] [])) _
        refine XS.iinc X21.here hx rfl (hb hby d1_60) rfl (l' := #[.val (.ref a1), .val (.int p2), .val (.ref a3), .val (.int p4), .val (.int p5), .val (.ref a3), .val (.int (own_nf p5)), .val (.int (0 : Int32)), .val (.int (1 : Int32)), .val (.int (f 0))]) rfl ?_
        show Steps p.tables e below (T21.setTop (mkF m 63 #[.val (.ref a1), .val (.int p2), .val (.ref a3), .val (.int p4), .val (.int p5), .val (.ref a3), .val (.int (own_nf p5)), .val (.int (0 : Int32)), .val (.int (1 : Int32)), .val (.int (f 0))] [])) _
        refine XS.goto X21.here hx rfl (pc0 := 63) (pc' := 18) rfl (hb hby d1_63) (by decide) (by decide) ?_
        show Steps p.tables e below (T21.setTop (mkF m 18 #[.val (.ref a1), .val (.int p2), .val (.ref a3), .val (.int p4), .val (.int p5), .val (.ref a3), .val (.int (own_nf p5)), .val (.int (0 : Int32)), .val (.int (1 : Int32)), .val (.int (f 0))] [])) _
        refine XS.iload X21.here hx rfl (hb hby d1_18) rfl ?_
        refine XS.iloadN X21.here hx rfl (hb hby d1_20) rfl ?_
        refine XS.icmpNo X21.here hx rfl (hb hby d1_21) rfl (tlt ((by rw [hk]; decide) : ((1 : Int32) < p4))).2.1 ?_
        show Steps p.tables e below (T21.setTop (mkF m 24 #[.val (.ref a1), .val (.int p2), .val (.ref a3), .val (.int p4), .val (.int p5), .val (.ref a3), .val (.int (own_nf p5)), .val (.int (0 : Int32)), .val (.int (1 : Int32)), .val (.int (f 0))] [])) _
        refine XS.aloadN X21.here hx rfl (hb hby d1_24) rfl rfl ?_
        refine XS.iload X21.here hx rfl (hb hby d1_25) rfl ?_
        show Steps p.tables e below (T21.setTop (mkF m 27 #[.val (.ref a1), .val (.int p2), .val (.ref a3), .val (.int p4), .val (.int p5), .val (.ref a3), .val (.int (own_nf p5)), .val (.int (0 : Int32)), .val (.int (1 : Int32)), .val (.int (f 0))] [(.int (1 : Int32)), (.ref a3)])) _
        refine X21.caload hx (j := (1 : Int32)) (v := (.int (f 1))) (by rw [e21]; exact Ar24.1) (State.isArrayOf_alike hZ.alike Ar24.2.1) Ar24.2.2 hin24 hat24 (g := (mkF m 27 #[.val (.ref a1), .val (.int p2), .val (.ref a3), .val (.int p4), .val (.int p5), .val (.ref a3), .val (.int (own_nf p5)), .val (.int (0 : Int32)), .val (.int (1 : Int32)), .val (.int (f 0))] [(.int (1 : Int32)), (.ref a3)])) rfl rfl (hb hby d1_27) _ ?_
        show Steps p.tables e below (T21.setTop (mkF m 28 #[.val (.ref a1), .val (.int p2), .val (.ref a3), .val (.int p4), .val (.int p5), .val (.ref a3), .val (.int (own_nf p5)), .val (.int (0 : Int32)), .val (.int (1 : Int32)), .val (.int (f 0))] [(.int (f 1))])) _
        refine XS.istore X21.here hx rfl (hb hby d1_28) rfl (l' := #[.val (.ref a1), .val (.int p2), .val (.ref a3), .val (.int p4), .val (.int p5), .val (.ref a3), .val (.int (own_nf p5)), .val (.int (0 : Int32)), .val (.int (1 : Int32)), .val (.int (f 1))]) rfl ?_
        show Steps p.tables e below (T21.setTop (mkF m 30 #[.val (.ref a1), .val (.int p2), .val (.ref a3), .val (.int p4), .val (.int p5), .val (.ref a3), .val (.int (own_nf p5)), .val (.int (0 : Int32)), .val (.int (1 : Int32)), .val (.int (f 1))] [])) _
        refine XS.aload X21.here hx rfl (hb hby d1_30) rfl rfl ?_
        refine XS.iload X21.here hx rfl (hb hby d1_32) rfl ?_
        refine XS.iload X21.here hx rfl (hb hby d1_34) rfl ?_
        show Steps p.tables e below (T21.setTop (mkF m 36 #[.val (.ref a1), .val (.int p2), .val (.ref a3), .val (.int p4), .val (.int p5), .val (.ref a3), .val (.int (own_nf p5)), .val (.int (0 : Int32)), .val (.int (1 : Int32)), .val (.int (f 1))] [(.int (f 1)), (.int (0 : Int32)), (.ref a3)])) _
        refine st25 _ ?_
        show Steps p.tables e below (T25.setTop (mkF m 37 #[.val (.ref a1), .val (.int p2), .val (.ref a3), .val (.int p4), .val (.int p5), .val (.ref a3), .val (.int (own_nf p5)), .val (.int (0 : Int32)), .val (.int (1 : Int32)), .val (.int (f 1))] [])) _
        refine XS.iload X25.here hx rfl (hb hby d1_37) rfl ?_
        refine XS.aloadN X25.here hx rfl (hb hby d1_39) rfl rfl ?_
        refine XS.iload X25.here hx rfl (hb hby d1_40) rfl ?_
        show Steps p.tables e below (T25.setTop (mkF m 42 #[.val (.ref a1), .val (.int p2), .val (.ref a3), .val (.int p4), .val (.int p5), .val (.ref a3), .val (.int (own_nf p5)), .val (.int (0 : Int32)), .val (.int (1 : Int32)), .val (.int (f 1))] [(.int (f 1)), (.ref a1), (.int (0 : Int32))])) _
        refine XS.bipush X25.here hx rfl (hb hby d1_42) ?_
        refine XS.iushr X25.here hx rfl (hb hby d1_44) rfl ?_
        show Steps p.tables e below (T25.setTop (mkF m 45 #[.val (.ref a1), .val (.int p2), .val (.ref a3), .val (.int p4), .val (.int p5), .val (.ref a3), .val (.int (own_nf p5)), .val (.int (0 : Int32)), .val (.int (1 : Int32)), .val (.int (f 1))] [(.int (((f 1).toUInt32 >>> ((6 : Int32) &&& 31).toUInt32).toInt32)), (.ref a1), (.int (0 : Int32))])) _
        refine XS.iloadN X25.here hx rfl (hb hby d1_45) rfl ?_
        refine XS.isub X25.here hx rfl (hb hby d1_46) rfl ?_
        show Steps p.tables e below (T25.setTop (mkF m 47 #[.val (.ref a1), .val (.int p2), .val (.ref a3), .val (.int p4), .val (.int p5), .val (.ref a3), .val (.int (own_nf p5)), .val (.int (0 : Int32)), .val (.int (1 : Int32)), .val (.int (f 1))] [(.int (own_j (f 1) p2)), (.ref a1), (.int (0 : Int32))])) _
        refine X25.laload hx (j := (own_j (f 1) p2)) (v := (.long (g (own_j (f 1) p2).toNatClampNeg))) (by rw [e25]; exact Ar26.1) (State.isArrayOf_alike hZ.alike Ar26.2.1) Ar26.2.2 hin26 hat26 (g := (mkF m 47 #[.val (.ref a1), .val (.int p2), .val (.ref a3), .val (.int p4), .val (.int p5), .val (.ref a3), .val (.int (own_nf p5)), .val (.int (0 : Int32)), .val (.int (1 : Int32)), .val (.int (f 1))] [(.int (own_j (f 1) p2)), (.ref a1), (.int (0 : Int32))])) rfl rfl (hb hby d1_47) _ ?_
        show Steps p.tables e below (T25.setTop (mkF m 48 #[.val (.ref a1), .val (.int p2), .val (.ref a3), .val (.int p4), .val (.int p5), .val (.ref a3), .val (.int (own_nf p5)), .val (.int (0 : Int32)), .val (.int (1 : Int32)), .val (.int (f 1))] [(.long (g (own_j (f 1) p2).toNatClampNeg)), (.int (0 : Int32))])) _
        refine XS.iload X25.here hx rfl (hb hby d1_48) rfl ?_
        refine XS.lushr X25.here hx rfl (hb hby d1_50) rfl ?_
        show Steps p.tables e below (T25.setTop (mkF m 51 #[.val (.ref a1), .val (.int p2), .val (.ref a3), .val (.int p4), .val (.int p5), .val (.ref a3), .val (.int (own_nf p5)), .val (.int (0 : Int32)), .val (.int (1 : Int32)), .val (.int (f 1))] [(.long (((g (own_j (f 1) p2).toNatClampNeg).toUInt64 >>> ((f 1) &&& 0x3f).toInt64.toUInt64).toInt64)), (.int (0 : Int32))])) _
        refine XS.l2i X25.here hx rfl (hb hby d1_51) rfl ?_
        refine XS.iconst X25.here hx rfl (hb hby d1_52) ?_
        refine XS.iand X25.here hx rfl (hb hby d1_53) rfl ?_
        show Steps p.tables e below (T25.setTop (mkF m 54 #[.val (.ref a1), .val (.int p2), .val (.ref a3), .val (.int p4), .val (.int p5), .val (.ref a3), .val (.int (own_nf p5)), .val (.int (0 : Int32)), .val (.int (1 : Int32)), .val (.int (f 1))] [(.int (((((g (own_j (f 1) p2).toNatClampNeg).toUInt64 >>> ((f 1) &&& 0x3f).toInt64.toUInt64).toInt64).toInt32) &&& (1 : Int32))), (.int (0 : Int32))])) _
        refine XS.iload X25.here hx rfl (hb hby d1_54) rfl ?_
        refine XS.ixor X25.here hx rfl (hb hby d1_56) rfl ?_
        show Steps p.tables e below (T25.setTop (mkF m 57 #[.val (.ref a1), .val (.int p2), .val (.ref a3), .val (.int p4), .val (.int p5), .val (.ref a3), .val (.int (own_nf p5)), .val (.int (0 : Int32)), .val (.int (1 : Int32)), .val (.int (f 1))] [(.int (own_x g p2 (own_nf p5) (f 1))), (.int (0 : Int32))])) _
        exact k
      rcases own_01 g p2 (own_nf p5) (f 1) (own_nf01 p5) with hb1 | hb1
      · obtain ⟨cl28, Ar28, S28, H28⟩ := id V25_v25
        have hin28 : ¬ ((2 : Int32) < 0 ∨ cl28.slots.size ≤ ((2 : Int32)).toNatClampNeg) := inA S28 (by decide) (by decide)
        have hat28 : cl28.slots[((2 : Int32)).toNatClampNeg]? = some (.int (f 2)) := ArF.at S28 H28 hin28 rfl
        obtain ⟨cl29, Ar29, S29, H29⟩ := id V25_v25
        have hin29 : ¬ ((0 : Int32) < 0 ∨ cl29.slots.size ≤ ((0 : Int32)).toNatClampNeg) := inA S29 (by decide) (by decide)
        obtain ⟨T29, h29, X29, e29, W29, st29⟩ := stC X25 hx hZ e25 Ar29 (j := (0 : Int32)) hin29 (g := (mkF m 36 #[.val (.ref a1), .val (.int p2), .val (.ref a3), .val (.int p4), .val (.int p5), .val (.ref a3), .val (.int (own_nf p5)), .val (.int (0 : Int32)), .val (.int (2 : Int32)), .val (.int (f 2))] [(.int (f 2)), (.int (0 : Int32)), (.ref a3)])) rfl rfl (hb hby d1_36)
        have W0_v29 := W0_v25.other W29 hne
        have Z29 : n0 ≤ h29.size := Nat.le_trans Z25 (Nat.le_of_eq W29.size.symm)
        have K29 := K25.wr W29 (Or.inl (by simp))
        have V29_v29 := ArF.set Ar29 S29 H29 W29 hin29
        have N29 := Fr.snoc X29 N25 ga
        obtain ⟨cl30, Ar30, S30, H30⟩ := id W0_v29
        have hin30 : ¬ ((own_j (f 2) p2) < 0 ∨ cl30.slots.size ≤ ((own_j (f 2) p2)).toNatClampNeg) := inA S30 (hix 2 (by decide)).2.1 (hix 2 (by decide)).2.2
        have hat30 : cl30.slots[((own_j (f 2) p2)).toNatClampNeg]? = some (.long (g (own_j (f 2) p2).toNatClampNeg)) := ArF.at S30 H30 hin30 rfl
        have pre31 : ∀ t, Steps p.tables e below (T29.setTop (mkF m 57 #[.val (.ref a1), .val (.int p2), .val (.ref a3), .val (.int p4), .val (.int p5), .val (.ref a3), .val (.int (own_nf p5)), .val (.int (0 : Int32)), .val (.int (2 : Int32)), .val (.int (f 2))] [(.int (own_x g p2 (own_nf p5) (f 2))), (.int (0 : Int32))])) t → Steps p.tables e below (s₁.setTop (entryFrame m #[(.ref a1), (.int p2), (.ref a3), (.int p4), (.int p5), (.ref a3)] 10)) t := by
          intro t k
          refine pre27 t ?_
          show Steps p.tables e below (T25.setTop (mkF m 57 #[.val (.ref a1), .val (.int p2), .val (.ref a3), .val (.int p4), .val (.int p5), .val (.ref a3), .val (.int (own_nf p5)), .val (.int (0 : Int32)), .val (.int (1 : Int32)), .val (.int (f 1))] [(.int (own_x g p2 (own_nf p5) (f 1))), (.int (0 : Int32))])) _
          rw [hb1]
          show Steps p.tables e below (T25.setTop (mkF m 57 #[.val (.ref a1), .val (.int p2), .val (.ref a3), .val (.int p4), .val (.int p5), .val (.ref a3), .val (.int (own_nf p5)), .val (.int (0 : Int32)), .val (.int (1 : Int32)), .val (.int (f 1))] [(.int (0 : Int32)), (.int (0 : Int32))])) _
          refine XS.iadd X25.here hx rfl (hb hby d1_57) rfl ?_
          show Steps p.tables e below (T25.setTop (mkF m 58 #[.val (.ref a1), .val (.int p2), .val (.ref a3), .val (.int p4), .val (.int p5), .val (.ref a3), .val (.int (own_nf p5)), .val (.int (0 : Int32)), .val (.int (1 : Int32)), .val (.int (f 1))] [(.int (0 : Int32))])) _
          refine XS.istore X25.here hx rfl (hb hby d1_58) rfl (l' := #[.val (.ref a1), .val (.int p2), .val (.ref a3), .val (.int p4), .val (.int p5), .val (.ref a3), .val (.int (own_nf p5)), .val (.int (0 : Int32)), .val (.int (1 : Int32)), .val (.int (f 1))]) rfl ?_
          show Steps p.tables e below (T25.setTop (mkF m 60 #[.val (.ref a1), .val (.int p2), .val (.ref a3), .val (.int p4), .val (.int p5), .val (.ref a3), .val (.int (own_nf p5)), .val (.int (0 : Int32)), .val (.int (1 : Int32)), .val (.int (f 1))] [])) _
          refine XS.iinc X25.here hx rfl (hb hby d1_60) rfl (l' := #[.val (.ref a1), .val (.int p2), .val (.ref a3), .val (.int p4), .val (.int p5), .val (.ref a3), .val (.int (own_nf p5)), .val (.int (0 : Int32)), .val (.int (2 : Int32)), .val (.int (f 1))]) rfl ?_
          show Steps p.tables e below (T25.setTop (mkF m 63 #[.val (.ref a1), .val (.int p2), .val (.ref a3), .val (.int p4), .val (.int p5), .val (.ref a3), .val (.int (own_nf p5)), .val (.int (0 : Int32)), .val (.int (2 : Int32)), .val (.int (f 1))] [])) _
          refine XS.goto X25.here hx rfl (pc0 := 63) (pc' := 18) rfl (hb hby d1_63) (by decide) (by decide) ?_
          show Steps p.tables e below (T25.setTop (mkF m 18 #[.val (.ref a1), .val (.int p2), .val (.ref a3), .val (.int p4), .val (.int p5), .val (.ref a3), .val (.int (own_nf p5)), .val (.int (0 : Int32)), .val (.int (2 : Int32)), .val (.int (f 1))] [])) _
          refine XS.iload X25.here hx rfl (hb hby d1_18) rfl ?_
          refine XS.iloadN X25.here hx rfl (hb hby d1_20) rfl ?_
          refine XS.icmpNo X25.here hx rfl (hb hby d1_21) rfl (tlt ((by rw [hk]; decide) : ((2 : Int32) < p4))).2.1 ?_
          show Steps p.tables e below (T25.setTop (mkF m 24 #[.val (.ref a1), .val (.int p2), .val (.ref a3), .val (.int p4), .val (.int p5), .val (.ref a3), .val (.int (own_nf p5)), .val (.int (0 : Int32)), .val (.int (2 : Int32)), .val (.int (f 1))] [])) _
          refine XS.aloadN X25.here hx rfl (hb hby d1_24) rfl rfl ?_
          refine XS.iload X25.here hx rfl (hb hby d1_25) rfl ?_
          show Steps p.tables e below (T25.setTop (mkF m 27 #[.val (.ref a1), .val (.int p2), .val (.ref a3), .val (.int p4), .val (.int p5), .val (.ref a3), .val (.int (own_nf p5)), .val (.int (0 : Int32)), .val (.int (2 : Int32)), .val (.int (f 1))] [(.int (2 : Int32)), (.ref a3)])) _
          refine X25.caload hx (j := (2 : Int32)) (v := (.int (f 2))) (by rw [e25]; exact Ar28.1) (State.isArrayOf_alike hZ.alike Ar28.2.1) Ar28.2.2 hin28 hat28 (g := (mkF m 27 #[.val (.ref a1), .val (.int p2), .val (.ref a3), .val (.int p4), .val (.int p5), .val (.ref a3), .val (.int (own_nf p5)), .val (.int (0 : Int32)), .val (.int (2 : Int32)), .val (.int (f 1))] [(.int (2 : Int32)), (.ref a3)])) rfl rfl (hb hby d1_27) _ ?_
          show Steps p.tables e below (T25.setTop (mkF m 28 #[.val (.ref a1), .val (.int p2), .val (.ref a3), .val (.int p4), .val (.int p5), .val (.ref a3), .val (.int (own_nf p5)), .val (.int (0 : Int32)), .val (.int (2 : Int32)), .val (.int (f 1))] [(.int (f 2))])) _
          refine XS.istore X25.here hx rfl (hb hby d1_28) rfl (l' := #[.val (.ref a1), .val (.int p2), .val (.ref a3), .val (.int p4), .val (.int p5), .val (.ref a3), .val (.int (own_nf p5)), .val (.int (0 : Int32)), .val (.int (2 : Int32)), .val (.int (f 2))]) rfl ?_
          show Steps p.tables e below (T25.setTop (mkF m 30 #[.val (.ref a1), .val (.int p2), .val (.ref a3), .val (.int p4), .val (.int p5), .val (.ref a3), .val (.int (own_nf p5)), .val (.int (0 : Int32)), .val (.int (2 : Int32)), .val (.int (f 2))] [])) _
          refine XS.aload X25.here hx rfl (hb hby d1_30) rfl rfl ?_
          refine XS.iload X25.here hx rfl (hb hby d1_32) rfl ?_
          refine XS.iload X25.here hx rfl (hb hby d1_34) rfl ?_
          show Steps p.tables e below (T25.setTop (mkF m 36 #[.val (.ref a1), .val (.int p2), .val (.ref a3), .val (.int p4), .val (.int p5), .val (.ref a3), .val (.int (own_nf p5)), .val (.int (0 : Int32)), .val (.int (2 : Int32)), .val (.int (f 2))] [(.int (f 2)), (.int (0 : Int32)), (.ref a3)])) _
          refine st29 _ ?_
          show Steps p.tables e below (T29.setTop (mkF m 37 #[.val (.ref a1), .val (.int p2), .val (.ref a3), .val (.int p4), .val (.int p5), .val (.ref a3), .val (.int (own_nf p5)), .val (.int (0 : Int32)), .val (.int (2 : Int32)), .val (.int (f 2))] [])) _
          refine XS.iload X29.here hx rfl (hb hby d1_37) rfl ?_
          refine XS.aloadN X29.here hx rfl (hb hby d1_39) rfl rfl ?_
          refine XS.iload X29.here hx rfl (hb hby d1_40) rfl ?_
          show Steps p.tables e below (T29.setTop (mkF m 42 #[.val (.ref a1), .val (.int p2), .val (.ref a3), .val (.int p4), .val (.int p5), .val (.ref a3), .val (.int (own_nf p5)), .val (.int (0 : Int32)), .val (.int (2 : Int32)), .val (.int (f 2))] [(.int (f 2)), (.ref a1), (.int (0 : Int32))])) _
          refine XS.bipush X29.here hx rfl (hb hby d1_42) ?_
          refine XS.iushr X29.here hx rfl (hb hby d1_44) rfl ?_
          show Steps p.tables e below (T29.setTop (mkF m 45 #[.val (.ref a1), .val (.int p2), .val (.ref a3), .val (.int p4), .val (.int p5), .val (.ref a3), .val (.int (own_nf p5)), .val (.int (0 : Int32)), .val (.int (2 : Int32)), .val (.int (f 2))] [(.int (((f 2).toUInt32 >>> ((6 : Int32) &&& 31).toUInt32).toInt32)), (.ref a1), (.int (0 : Int32))])) _
          refine XS.iloadN X29.here hx rfl (hb hby d1_45) rfl ?_
          refine XS.isub X29.here hx rfl (hb hby d1_46) rfl ?_
          show Steps p.tables e below (T29.setTop (mkF m 47 #[.val (.ref a1), .val (.int p2), .val (.ref a3), .val (.int p4), .val (.int p5), .val (.ref a3), .val (.int (own_nf p5)), .val (.int (0 : Int32)), .val (.int (2 : Int32)), .val (.int (f 2))] [(.int (own_j (f 2) p2)), (.ref a1), (.int (0 : Int32))])) _
          refine X29.laload hx (j := (own_j (f 2) p2)) (v := (.long (g (own_j (f 2) p2).toNatClampNeg))) (by rw [e29]; exact Ar30.1) (State.isArrayOf_alike hZ.alike Ar30.2.1) Ar30.2.2 hin30 hat30 (g := (mkF m 47 #[.val (.ref a1), .val (.int p2), .val (.ref a3), .val (.int p4), .val (.int p5), .val (.ref a3), .val (.int (own_nf p5)), .val (.int (0 : Int32)), .val (.int (2 : Int32)), .val (.int (f 2))] [(.int (own_j (f 2) p2)), (.ref a1), (.int (0 : Int32))])) rfl rfl (hb hby d1_47) _ ?_
          show Steps p.tables e below (T29.setTop (mkF m 48 #[.val (.ref a1), .val (.int p2), .val (.ref a3), .val (.int p4), .val (.int p5), .val (.ref a3), .val (.int (own_nf p5)), .val (.int (0 : Int32)), .val (.int (2 : Int32)), .val (.int (f 2))] [(.long (g (own_j (f 2) p2).toNatClampNeg)), (.int (0 : Int32))])) _
          refine XS.iload X29.here hx rfl (hb hby d1_48) rfl ?_
          refine XS.lushr X29.here hx rfl (hb hby d1_50) rfl ?_
          show Steps p.tables e below (T29.setTop (mkF m 51 #[.val (.ref a1), .val (.int p2), .val (.ref a3), .val (.int p4), .val (.int p5), .val (.ref a3), .val (.int (own_nf p5)), .val (.int (0 : Int32)), .val (.int (2 : Int32)), .val (.int (f 2))] [(.long (((g (own_j (f 2) p2).toNatClampNeg).toUInt64 >>> ((f 2) &&& 0x3f).toInt64.toUInt64).toInt64)), (.int (0 : Int32))])) _
          refine XS.l2i X29.here hx rfl (hb hby d1_51) rfl ?_
          refine XS.iconst X29.here hx rfl (hb hby d1_52) ?_
          refine XS.iand X29.here hx rfl (hb hby d1_53) rfl ?_
          show Steps p.tables e below (T29.setTop (mkF m 54 #[.val (.ref a1), .val (.int p2), .val (.ref a3), .val (.int p4), .val (.int p5), .val (.ref a3), .val (.int (own_nf p5)), .val (.int (0 : Int32)), .val (.int (2 : Int32)), .val (.int (f 2))] [(.int (((((g (own_j (f 2) p2).toNatClampNeg).toUInt64 >>> ((f 2) &&& 0x3f).toInt64.toUInt64).toInt64).toInt32) &&& (1 : Int32))), (.int (0 : Int32))])) _
          refine XS.iload X29.here hx rfl (hb hby d1_54) rfl ?_
          refine XS.ixor X29.here hx rfl (hb hby d1_56) rfl ?_
          show Steps p.tables e below (T29.setTop (mkF m 57 #[.val (.ref a1), .val (.int p2), .val (.ref a3), .val (.int p4), .val (.int p5), .val (.ref a3), .val (.int (own_nf p5)), .val (.int (0 : Int32)), .val (.int (2 : Int32)), .val (.int (f 2))] [(.int (own_x g p2 (own_nf p5) (f 2))), (.int (0 : Int32))])) _
          exact k
        rcases own_01 g p2 (own_nf p5) (f 2) (own_nf01 p5) with hb2 | hb2
        · obtain ⟨fs, hr, hrun, hended, hW, hsame⟩ := X29.leave (v := some (.int (0 : Int32))) (fun h => by rw [Bd.returns] at h; cases h)
          refine ⟨_, _, pre31 _ ?_, hrun, hended, _, _, rfl, ?_, ⟨_, rfl⟩, hW, hsame.mono (by decide) (by decide)⟩
          · show Steps p.tables e below (T29.setTop (mkF m 57 #[.val (.ref a1), .val (.int p2), .val (.ref a3), .val (.int p4), .val (.int p5), .val (.ref a3), .val (.int (own_nf p5)), .val (.int (0 : Int32)), .val (.int (2 : Int32)), .val (.int (f 2))] [(.int (own_x g p2 (own_nf p5) (f 2))), (.int (0 : Int32))])) _
            rw [hb2]
            show Steps p.tables e below (T29.setTop (mkF m 57 #[.val (.ref a1), .val (.int p2), .val (.ref a3), .val (.int p4), .val (.int p5), .val (.ref a3), .val (.int (own_nf p5)), .val (.int (0 : Int32)), .val (.int (2 : Int32)), .val (.int (f 2))] [(.int (0 : Int32)), (.int (0 : Int32))])) _
            refine XS.iadd X29.here hx rfl (hb hby d1_57) rfl ?_
            show Steps p.tables e below (T29.setTop (mkF m 58 #[.val (.ref a1), .val (.int p2), .val (.ref a3), .val (.int p4), .val (.int p5), .val (.ref a3), .val (.int (own_nf p5)), .val (.int (0 : Int32)), .val (.int (2 : Int32)), .val (.int (f 2))] [(.int (0 : Int32))])) _
            refine XS.istore X29.here hx rfl (hb hby d1_58) rfl (l' := #[.val (.ref a1), .val (.int p2), .val (.ref a3), .val (.int p4), .val (.int p5), .val (.ref a3), .val (.int (own_nf p5)), .val (.int (0 : Int32)), .val (.int (2 : Int32)), .val (.int (f 2))]) rfl ?_
            show Steps p.tables e below (T29.setTop (mkF m 60 #[.val (.ref a1), .val (.int p2), .val (.ref a3), .val (.int p4), .val (.int p5), .val (.ref a3), .val (.int (own_nf p5)), .val (.int (0 : Int32)), .val (.int (2 : Int32)), .val (.int (f 2))] [])) _
            refine XS.iinc X29.here hx rfl (hb hby d1_60) rfl (l' := #[.val (.ref a1), .val (.int p2), .val (.ref a3), .val (.int p4), .val (.int p5), .val (.ref a3), .val (.int (own_nf p5)), .val (.int (0 : Int32)), .val (.int (3 : Int32)), .val (.int (f 2))]) rfl ?_
            show Steps p.tables e below (T29.setTop (mkF m 63 #[.val (.ref a1), .val (.int p2), .val (.ref a3), .val (.int p4), .val (.int p5), .val (.ref a3), .val (.int (own_nf p5)), .val (.int (0 : Int32)), .val (.int (3 : Int32)), .val (.int (f 2))] [])) _
            refine XS.goto X29.here hx rfl (pc0 := 63) (pc' := 18) rfl (hb hby d1_63) (by decide) (by decide) ?_
            show Steps p.tables e below (T29.setTop (mkF m 18 #[.val (.ref a1), .val (.int p2), .val (.ref a3), .val (.int p4), .val (.int p5), .val (.ref a3), .val (.int (own_nf p5)), .val (.int (0 : Int32)), .val (.int (3 : Int32)), .val (.int (f 2))] [])) _
            refine XS.iload X29.here hx rfl (hb hby d1_18) rfl ?_
            refine XS.iloadN X29.here hx rfl (hb hby d1_20) rfl ?_
            refine XS.icmpYes X29.here hx rfl (pc0 := 21) (pc' := 66) rfl (hb hby d1_21) rfl (flt ((by rw [hk]; decide) : ¬ ((3 : Int32) < p4))).2.1 (by decide) (by decide) ?_
            show Steps p.tables e below (T29.setTop (mkF m 66 #[.val (.ref a1), .val (.int p2), .val (.ref a3), .val (.int p4), .val (.int p5), .val (.ref a3), .val (.int (own_nf p5)), .val (.int (0 : Int32)), .val (.int (3 : Int32)), .val (.int (f 2))] [])) _
            refine XS.iload X29.here hx rfl (hb hby d1_66) rfl ?_
            show Steps p.tables e below (T29.setTop (mkF m 68 #[.val (.ref a1), .val (.int p2), .val (.ref a3), .val (.int p4), .val (.int p5), .val (.ref a3), .val (.int (own_nf p5)), .val (.int (0 : Int32)), .val (.int (3 : Int32)), .val (.int (f 2))] [(.int (0 : Int32))])) _
            exact retI X29 hx Bd.returns (hb hby d1_68) hr
          · show Q_rm1a Z a1 p2 a3 p4 p5 f g h0 n0 _ T29.heap _
            rw [e29]
            have hs : (own_sel p4 (fun i => own_x g p2 (own_nf p5) (f i)) f) = [] := by
              show (if (0 : Int32) < p4 then (if own_x g p2 (own_nf p5) (f 0) = (0 : Int32) then [] else [f 0]) else []) ++ ((if (1 : Int32) < p4 then (if own_x g p2 (own_nf p5) (f 1) = (0 : Int32) then [] else [f 1]) else []) ++ (if (2 : Int32) < p4 then (if own_x g p2 (own_nf p5) (f 2) = (0 : Int32) then [] else [f 2]) else [])) = _
              rw [hb0, hb1, hb2, hk]; rfl
            have hV : ArF Z h29 a3 .char 3 (fun i => .int ((fun i => if i = 0 then (f 2) else if i = 1 then (f 1) else (f 2)) i)) := V29_v29.congr (fun i hi => by
              match i, hi with
              | 0, _ => exact congrArg Value.int (own_nar (hix 2 (by decide)).1)
              | 1, _ => rfl
              | 2, _ => rfl)
            exact ⟨(fun i => if i = 0 then (f 2) else if i = 1 then (f 1) else (f 2)), by rw [hs]; rfl, N29, K29, hV, (by rw [hs]; intro i hi; exact absurd hi (Nat.not_lt_zero i))⟩
        · obtain ⟨fs, hr, hrun, hended, hW, hsame⟩ := X29.leave (v := some (.int (1 : Int32))) (fun h => by rw [Bd.returns] at h; cases h)
          refine ⟨_, _, pre31 _ ?_, hrun, hended, _, _, rfl, ?_, ⟨_, rfl⟩, hW, hsame.mono (by decide) (by decide)⟩
          · show Steps p.tables e below (T29.setTop (mkF m 57 #[.val (.ref a1), .val (.int p2), .val (.ref a3), .val (.int p4), .val (.int p5), .val (.ref a3), .val (.int (own_nf p5)), .val (.int (0 : Int32)), .val (.int (2 : Int32)), .val (.int (f 2))] [(.int (own_x g p2 (own_nf p5) (f 2))), (.int (0 : Int32))])) _
            rw [hb2]
            show Steps p.tables e below (T29.setTop (mkF m 57 #[.val (.ref a1), .val (.int p2), .val (.ref a3), .val (.int p4), .val (.int p5), .val (.ref a3), .val (.int (own_nf p5)), .val (.int (0 : Int32)), .val (.int (2 : Int32)), .val (.int (f 2))] [(.int (1 : Int32)), (.int (0 : Int32))])) _
            refine XS.iadd X29.here hx rfl (hb hby d1_57) rfl ?_
            show Steps p.tables e below (T29.setTop (mkF m 58 #[.val (.ref a1), .val (.int p2), .val (.ref a3), .val (.int p4), .val (.int p5), .val (.ref a3), .val (.int (own_nf p5)), .val (.int (0 : Int32)), .val (.int (2 : Int32)), .val (.int (f 2))] [(.int (1 : Int32))])) _
            refine XS.istore X29.here hx rfl (hb hby d1_58) rfl (l' := #[.val (.ref a1), .val (.int p2), .val (.ref a3), .val (.int p4), .val (.int p5), .val (.ref a3), .val (.int (own_nf p5)), .val (.int (1 : Int32)), .val (.int (2 : Int32)), .val (.int (f 2))]) rfl ?_
            show Steps p.tables e below (T29.setTop (mkF m 60 #[.val (.ref a1), .val (.int p2), .val (.ref a3), .val (.int p4), .val (.int p5), .val (.ref a3), .val (.int (own_nf p5)), .val (.int (1 : Int32)), .val (.int (2 : Int32)), .val (.int (f 2))] [])) _
            refine XS.iinc X29.here hx rfl (hb hby d1_60) rfl (l' := #[.val (.ref a1), .val (.int p2), .val (.ref a3), .val (.int p4), .val (.int p5), .val (.ref a3), .val (.int (own_nf p5)), .val (.int (1 : Int32)), .val (.int (3 : Int32)), .val (.int (f 2))]) rfl ?_
            show Steps p.tables e below (T29.setTop (mkF m 63 #[.val (.ref a1), .val (.int p2), .val (.ref a3), .val (.int p4), .val (.int p5), .val (.ref a3), .val (.int (own_nf p5)), .val (.int (1 : Int32)), .val (.int (3 : Int32)), .val (.int (f 2))] [])) _
            refine XS.goto X29.here hx rfl (pc0 := 63) (pc' := 18) rfl (hb hby d1_63) (by decide) (by decide) ?_
            show Steps p.tables e below (T29.setTop (mkF m 18 #[.val (.ref a1), .val (.int p2), .val (.ref a3), .val (.int p4), .val (.int p5), .val (.ref a3), .val (.int (own_nf p5)), .val (.int (1 : Int32)), .val (.int (3 : Int32)), .val (.int (f 2))] [])) _
            refine XS.iload X29.here hx rfl (hb hby d1_18) rfl ?_
            refine XS.iloadN X29.here hx rfl (hb hby d1_20) rfl ?_
            refine XS.icmpYes X29.here hx rfl (pc0 := 21) (pc' := 66) rfl (hb hby d1_21) rfl (flt ((by rw [hk]; decide) : ¬ ((3 : Int32) < p4))).2.1 (by decide) (by decide) ?_
            show Steps p.tables e below (T29.setTop (mkF m 66 #[.val (.ref a1), .val (.int p2), .val (.ref a3), .val (.int p4), .val (.int p5), .val (.ref a3), .val (.int (own_nf p5)), .val (.int (1 : Int32)), .val (.int (3 : Int32)), .val (.int (f 2))] [])) _
            refine XS.iload X29.here hx rfl (hb hby d1_66) rfl ?_
            show Steps p.tables e below (T29.setTop (mkF m 68 #[.val (.ref a1), .val (.int p2), .val (.ref a3), .val (.int p4), .val (.int p5), .val (.ref a3), .val (.int (own_nf p5)), .val (.int (1 : Int32)), .val (.int (3 : Int32)), .val (.int (f 2))] [(.int (1 : Int32))])) _
            exact retI X29 hx Bd.returns (hb hby d1_68) hr
          · show Q_rm1a Z a1 p2 a3 p4 p5 f g h0 n0 _ T29.heap _
            rw [e29]
            have hs : (own_sel p4 (fun i => own_x g p2 (own_nf p5) (f i)) f) = [(f 2)] := by
              show (if (0 : Int32) < p4 then (if own_x g p2 (own_nf p5) (f 0) = (0 : Int32) then [] else [f 0]) else []) ++ ((if (1 : Int32) < p4 then (if own_x g p2 (own_nf p5) (f 1) = (0 : Int32) then [] else [f 1]) else []) ++ (if (2 : Int32) < p4 then (if own_x g p2 (own_nf p5) (f 2) = (0 : Int32) then [] else [f 2]) else [])) = _
              rw [hb0, hb1, hb2, hk]; rfl
            have hV : ArF Z h29 a3 .char 3 (fun i => .int ((fun i => if i = 0 then (f 2) else if i = 1 then (f 1) else (f 2)) i)) := V29_v29.congr (fun i hi => by
              match i, hi with
              | 0, _ => exact congrArg Value.int (own_nar (hix 2 (by decide)).1)
              | 1, _ => rfl
              | 2, _ => rfl)
            exact ⟨(fun i => if i = 0 then (f 2) else if i = 1 then (f 1) else (f 2)), by rw [hs]; rfl, N29, K29, hV, (by rw [hs]; intro i hi; have hj : i = 0 := by { simp only [List.length_cons, List.length_nil] at hi; omega }; rcases hj with rfl <;> rfl)⟩
      · obtain ⟨cl32, Ar32, S32, H32⟩ := id V25_v25
        have hin32 : ¬ ((2 : Int32) < 0 ∨ cl32.slots.size ≤ ((2 : Int32)).toNatClampNeg) := inA S32 (by decide) (by decide)
        have hat32 : cl32.slots[((2 : Int32)).toNatClampNeg]? = some (.int (f 2)) := ArF.at S32 H32 hin32 rfl
        obtain ⟨cl33, Ar33, S33, H33⟩ := id V25_v25
        have hin33 : ¬ ((1 : Int32) < 0 ∨ cl33.slots.size ≤ ((1 : Int32)).toNatClampNeg) := inA S33 (by decide) (by decide)
        obtain ⟨T33, h33, X33, e33, W33, st33⟩ := stC X25 hx hZ e25 Ar33 (j := (1 : Int32)) hin33 (g := (mkF m 36 #[.val (.ref a1), .val (.int p2), .val (.ref a3), .val (.int p4), .val (.int p5), .val (.ref a3), .val (.int (own_nf p5)), .val (.int (1 : Int32)), .val (.int (2 : Int32)), .val (.int (f 2))] [(.int (f 2)), (.int (1 : Int32)), (.ref a3)])) rfl rfl (hb hby d1_36)
        have W0_v33 := W0_v25.other W33 hne
        have Z33 : n0 ≤ h33.size := Nat.le_trans Z25 (Nat.le_of_eq W33.size.symm)
        have K33 := K25.wr W33 (Or.inl (by simp))
        have V33_v33 := ArF.set Ar33 S33 H33 W33 hin33
        have N33 := Fr.snoc X33 N25 ga
        obtain ⟨cl34, Ar34, S34, H34⟩ := id W0_v33
        have hin34 : ¬ ((own_j (f 2) p2) < 0 ∨ cl34.slots.size ≤ ((own_j (f 2) p2)).toNatClampNeg) := inA S34 (hix 2 (by decide)).2.1 (hix 2 (by decide)).2.2
        have hat34 : cl34.slots[((own_j (f 2) p2)).toNatClampNeg]? = some (.long (g (own_j (f 2) p2).toNatClampNeg)) := ArF.at S34 H34 hin34 rfl
        have pre35 : ∀ t, Steps p.tables e below (T33.setTop (mkF m 57 #[.val (.ref a1), .val (.int p2), .val (.ref a3), .val (.int p4), .val (.int p5), .val (.ref a3), .val (.int (own_nf p5)), .val (.int (1 : Int32)), .val (.int (2 : Int32)), .val (.int (f 2))] [(.int (own_x g p2 (own_nf p5) (f 2))), (.int (1 : Int32))])) t → Steps p.tables e below (s₁.setTop (entryFrame m #[(.ref a1), (.int p2), (.ref a3), (.int p4), (.int p5), (.ref a3)] 10)) t := by
          intro t k
          refine pre27 t ?_
          show Steps p.tables e below (T25.setTop (mkF m 57 #[.val (.ref a1), .val (.int p2), .val (.ref a3), .val (.int p4), .val (.int p5), .val (.ref a3), .val (.int (own_nf p5)), .val (.int (0 : Int32)), .val (.int (1 : Int32)), .val (.int (f 1))] [(.int (own_x g p2 (own_nf p5) (f 1))), (.int (0 : Int32))])) _
          rw [hb1]
          show Steps p.tables e below (T25.setTop (mkF m 57 #[.val (.ref a1), .val (.int p2), .val (.ref a3), .val (.int p4), .val (.int p5), .val (.ref a3), .val (.int (own_nf p5)), .val (.int (0 : Int32)), .val (.int (1 : Int32)), .val (.int (f 1))] [(.int (1 : Int32)), (.int (0 : Int32))])) _
          refine XS.iadd X25.here hx rfl (hb hby d1_57) rfl ?_
          show Steps p.tables e below (T25.setTop (mkF m 58 #[.val (.ref a1), .val (.int p2), .val (.ref a3), .val (.int p4), .val (.int p5), .val (.ref a3), .val (.int (own_nf p5)), .val (.int (0 : Int32)), .val (.int (1 : Int32)), .val (.int (f 1))] [(.int (1 : Int32))])) _
          refine XS.istore X25.here hx rfl (hb hby d1_58) rfl (l' := #[.val (.ref a1), .val (.int p2), .val (.ref a3), .val (.int p4), .val (.int p5), .val (.ref a3), .val (.int (own_nf p5)), .val (.int (1 : Int32)), .val (.int (1 : Int32)), .val (.int (f 1))]) rfl ?_
          show Steps p.tables e below (T25.setTop (mkF m 60 #[.val (.ref a1), .val (.int p2), .val (.ref a3), .val (.int p4), .val (.int p5), .val (.ref a3), .val (.int (own_nf p5)), .val (.int (1 : Int32)), .val (.int (1 : Int32)), .val (.int (f 1))] [])) _
          refine XS.iinc X25.here hx rfl (hb hby d1_60) rfl (l' := #[.val (.ref a1), .val (.int p2), .val (.ref a3), .val (.int p4), .val (.int p5), .val (.ref a3), .val (.int (own_nf p5)), .val (.int (1 : Int32)), .val (.int (2 : Int32)), .val (.int (f 1))]) rfl ?_
          show Steps p.tables e below (T25.setTop (mkF m 63 #[.val (.ref a1), .val (.int p2), .val (.ref a3), .val (.int p4), .val (.int p5), .val (.ref a3), .val (.int (own_nf p5)), .val (.int (1 : Int32)), .val (.int (2 : Int32)), .val (.int (f 1))] [])) _
          refine XS.goto X25.here hx rfl (pc0 := 63) (pc' := 18) rfl (hb hby d1_63) (by decide) (by decide) ?_
          show Steps p.tables e below (T25.setTop (mkF m 18 #[.val (.ref a1), .val (.int p2), .val (.ref a3), .val (.int p4), .val (.int p5), .val (.ref a3), .val (.int (own_nf p5)), .val (.int (1 : Int32)), .val (.int (2 : Int32)), .val (.int (f 1))] [])) _
          refine XS.iload X25.here hx rfl (hb hby d1_18) rfl ?_
          refine XS.iloadN X25.here hx rfl (hb hby d1_20) rfl ?_
          refine XS.icmpNo X25.here hx rfl (hb hby d1_21) rfl (tlt ((by rw [hk]; decide) : ((2 : Int32) < p4))).2.1 ?_
          show Steps p.tables e below (T25.setTop (mkF m 24 #[.val (.ref a1), .val (.int p2), .val (.ref a3), .val (.int p4), .val (.int p5), .val (.ref a3), .val (.int (own_nf p5)), .val (.int (1 : Int32)), .val (.int (2 : Int32)), .val (.int (f 1))] [])) _
          refine XS.aloadN X25.here hx rfl (hb hby d1_24) rfl rfl ?_
          refine XS.iload X25.here hx rfl (hb hby d1_25) rfl ?_
          show Steps p.tables e below (T25.setTop (mkF m 27 #[.val (.ref a1), .val (.int p2), .val (.ref a3), .val (.int p4), .val (.int p5), .val (.ref a3), .val (.int (own_nf p5)), .val (.int (1 : Int32)), .val (.int (2 : Int32)), .val (.int (f 1))] [(.int (2 : Int32)), (.ref a3)])) _
          refine X25.caload hx (j := (2 : Int32)) (v := (.int (f 2))) (by rw [e25]; exact Ar32.1) (State.isArrayOf_alike hZ.alike Ar32.2.1) Ar32.2.2 hin32 hat32 (g := (mkF m 27 #[.val (.ref a1), .val (.int p2), .val (.ref a3), .val (.int p4), .val (.int p5), .val (.ref a3), .val (.int (own_nf p5)), .val (.int (1 : Int32)), .val (.int (2 : Int32)), .val (.int (f 1))] [(.int (2 : Int32)), (.ref a3)])) rfl rfl (hb hby d1_27) _ ?_
          show Steps p.tables e below (T25.setTop (mkF m 28 #[.val (.ref a1), .val (.int p2), .val (.ref a3), .val (.int p4), .val (.int p5), .val (.ref a3), .val (.int (own_nf p5)), .val (.int (1 : Int32)), .val (.int (2 : Int32)), .val (.int (f 1))] [(.int (f 2))])) _
          refine XS.istore X25.here hx rfl (hb hby d1_28) rfl (l' := #[.val (.ref a1), .val (.int p2), .val (.ref a3), .val (.int p4), .val (.int p5), .val (.ref a3), .val (.int (own_nf p5)), .val (.int (1 : Int32)), .val (.int (2 : Int32)), .val (.int (f 2))]) rfl ?_
          show Steps p.tables e below (T25.setTop (mkF m 30 #[.val (.ref a1), .val (.int p2), .val (.ref a3), .val (.int p4), .val (.int p5), .val (.ref a3), .val (.int (own_nf p5)), .val (.int (1 : Int32)), .val (.int (2 : Int32)), .val (.int (f 2))] [])) _
          refine XS.aload X25.here hx rfl (hb hby d1_30) rfl rfl ?_
          refine XS.iload X25.here hx rfl (hb hby d1_32) rfl ?_
          refine XS.iload X25.here hx rfl (hb hby d1_34) rfl ?_
          show Steps p.tables e below (T25.setTop (mkF m 36 #[.val (.ref a1), .val (.int p2), .val (.ref a3), .val (.int p4), .val (.int p5), .val (.ref a3), .val (.int (own_nf p5)), .val (.int (1 : Int32)), .val (.int (2 : Int32)), .val (.int (f 2))] [(.int (f 2)), (.int (1 : Int32)), (.ref a3)])) _
          refine st33 _ ?_
          show Steps p.tables e below (T33.setTop (mkF m 37 #[.val (.ref a1), .val (.int p2), .val (.ref a3), .val (.int p4), .val (.int p5), .val (.ref a3), .val (.int (own_nf p5)), .val (.int (1 : Int32)), .val (.int (2 : Int32)), .val (.int (f 2))] [])) _
          refine XS.iload X33.here hx rfl (hb hby d1_37) rfl ?_
          refine XS.aloadN X33.here hx rfl (hb hby d1_39) rfl rfl ?_
          refine XS.iload X33.here hx rfl (hb hby d1_40) rfl ?_
          show Steps p.tables e below (T33.setTop (mkF m 42 #[.val (.ref a1), .val (.int p2), .val (.ref a3), .val (.int p4), .val (.int p5), .val (.ref a3), .val (.int (own_nf p5)), .val (.int (1 : Int32)), .val (.int (2 : Int32)), .val (.int (f 2))] [(.int (f 2)), (.ref a1), (.int (1 : Int32))])) _
          refine XS.bipush X33.here hx rfl (hb hby d1_42) ?_
          refine XS.iushr X33.here hx rfl (hb hby d1_44) rfl ?_
          show Steps p.tables e below (T33.setTop (mkF m 45 #[.val (.ref a1), .val (.int p2), .val (.ref a3), .val (.int p4), .val (.int p5), .val (.ref a3), .val (.int (own_nf p5)), .val (.int (1 : Int32)), .val (.int (2 : Int32)), .val (.int (f 2))] [(.int (((f 2).toUInt32 >>> ((6 : Int32) &&& 31).toUInt32).toInt32)), (.ref a1), (.int (1 : Int32))])) _
          refine XS.iloadN X33.here hx rfl (hb hby d1_45) rfl ?_
          refine XS.isub X33.here hx rfl (hb hby d1_46) rfl ?_
          show Steps p.tables e below (T33.setTop (mkF m 47 #[.val (.ref a1), .val (.int p2), .val (.ref a3), .val (.int p4), .val (.int p5), .val (.ref a3), .val (.int (own_nf p5)), .val (.int (1 : Int32)), .val (.int (2 : Int32)), .val (.int (f 2))] [(.int (own_j (f 2) p2)), (.ref a1), (.int (1 : Int32))])) _
          refine X33.laload hx (j := (own_j (f 2) p2)) (v := (.long (g (own_j (f 2) p2).toNatClampNeg))) (by rw [e33]; exact Ar34.1) (State.isArrayOf_alike hZ.alike Ar34.2.1) Ar34.2.2 hin34 hat34 (g := (mkF m 47 #[.val (.ref a1), .val (.int p2), .val (.ref a3), .val (.int p4), .val (.int p5), .val (.ref a3), .val (.int (own_nf p5)), .val (.int (1 : Int32)), .val (.int (2 : Int32)), .val (.int (f 2))] [(.int (own_j (f 2) p2)), (.ref a1), (.int (1 : Int32))])) rfl rfl (hb hby d1_47) _ ?_
          show Steps p.tables e below (T33.setTop (mkF m 48 #[.val (.ref a1), .val (.int p2), .val (.ref a3), .val (.int p4), .val (.int p5), .val (.ref a3), .val (.int (own_nf p5)), .val (.int (1 : Int32)), .val (.int (2 : Int32)), .val (.int (f 2))] [(.long (g (own_j (f 2) p2).toNatClampNeg)), (.int (1 : Int32))])) _
          refine XS.iload X33.here hx rfl (hb hby d1_48) rfl ?_
          refine XS.lushr X33.here hx rfl (hb hby d1_50) rfl ?_
          show Steps p.tables e below (T33.setTop (mkF m 51 #[.val (.ref a1), .val (.int p2), .val (.ref a3), .val (.int p4), .val (.int p5), .val (.ref a3), .val (.int (own_nf p5)), .val (.int (1 : Int32)), .val (.int (2 : Int32)), .val (.int (f 2))] [(.long (((g (own_j (f 2) p2).toNatClampNeg).toUInt64 >>> ((f 2) &&& 0x3f).toInt64.toUInt64).toInt64)), (.int (1 : Int32))])) _
          refine XS.l2i X33.here hx rfl (hb hby d1_51) rfl ?_
          refine XS.iconst X33.here hx rfl (hb hby d1_52) ?_
          refine XS.iand X33.here hx rfl (hb hby d1_53) rfl ?_
          show Steps p.tables e below (T33.setTop (mkF m 54 #[.val (.ref a1), .val (.int p2), .val (.ref a3), .val (.int p4), .val (.int p5), .val (.ref a3), .val (.int (own_nf p5)), .val (.int (1 : Int32)), .val (.int (2 : Int32)), .val (.int (f 2))] [(.int (((((g (own_j (f 2) p2).toNatClampNeg).toUInt64 >>> ((f 2) &&& 0x3f).toInt64.toUInt64).toInt64).toInt32) &&& (1 : Int32))), (.int (1 : Int32))])) _
          refine XS.iload X33.here hx rfl (hb hby d1_54) rfl ?_
          refine XS.ixor X33.here hx rfl (hb hby d1_56) rfl ?_
          show Steps p.tables e below (T33.setTop (mkF m 57 #[.val (.ref a1), .val (.int p2), .val (.ref a3), .val (.int p4), .val (.int p5), .val (.ref a3), .val (.int (own_nf p5)), .val (.int (1 : Int32)), .val (.int (2 : Int32)), .val (.int (f 2))] [(.int (own_x g p2 (own_nf p5) (f 2))), (.int (1 : Int32))])) _
          exact k
        rcases own_01 g p2 (own_nf p5) (f 2) (own_nf01 p5) with hb2 | hb2
        · obtain ⟨fs, hr, hrun, hended, hW, hsame⟩ := X33.leave (v := some (.int (1 : Int32))) (fun h => by rw [Bd.returns] at h; cases h)
          refine ⟨_, _, pre35 _ ?_, hrun, hended, _, _, rfl, ?_, ⟨_, rfl⟩, hW, hsame.mono (by decide) (by decide)⟩
          · show Steps p.tables e below (T33.setTop (mkF m 57 #[.val (.ref a1), .val (.int p2), .val (.ref a3), .val (.int p4), .val (.int p5), .val (.ref a3), .val (.int (own_nf p5)), .val (.int (1 : Int32)), .val (.int (2 : Int32)), .val (.int (f 2))] [(.int (own_x g p2 (own_nf p5) (f 2))), (.int (1 : Int32))])) _
            rw [hb2]
            show Steps p.tables e below (T33.setTop (mkF m 57 #[.val (.ref a1), .val (.int p2), .val (.ref a3), .val (.int p4), .val (.int p5), .val (.ref a3), .val (.int (own_nf p5)), .val (.int (1 : Int32)), .val (.int (2 : Int32)), .val (.int (f 2))] [(.int (0 : Int32)), (.int (1 : Int32))])) _
            refine XS.iadd X33.here hx rfl (hb hby d1_57) rfl ?_
            show Steps p.tables e below (T33.setTop (mkF m 58 #[.val (.ref a1), .val (.int p2), .val (.ref a3), .val (.int p4), .val (.int p5), .val (.ref a3), .val (.int (own_nf p5)), .val (.int (1 : Int32)), .val (.int (2 : Int32)), .val (.int (f 2))] [(.int (1 : Int32))])) _
            refine XS.istore X33.here hx rfl (hb hby d1_58) rfl (l' := #[.val (.ref a1), .val (.int p2), .val (.ref a3), .val (.int p4), .val (.int p5), .val (.ref a3), .val (.int (own_nf p5)), .val (.int (1 : Int32)), .val (.int (2 : Int32)), .val (.int (f 2))]) rfl ?_
            show Steps p.tables e below (T33.setTop (mkF m 60 #[.val (.ref a1), .val (.int p2), .val (.ref a3), .val (.int p4), .val (.int p5), .val (.ref a3), .val (.int (own_nf p5)), .val (.int (1 : Int32)), .val (.int (2 : Int32)), .val (.int (f 2))] [])) _
            refine XS.iinc X33.here hx rfl (hb hby d1_60) rfl (l' := #[.val (.ref a1), .val (.int p2), .val (.ref a3), .val (.int p4), .val (.int p5), .val (.ref a3), .val (.int (own_nf p5)), .val (.int (1 : Int32)), .val (.int (3 : Int32)), .val (.int (f 2))]) rfl ?_
            show Steps p.tables e below (T33.setTop (mkF m 63 #[.val (.ref a1), .val (.int p2), .val (.ref a3), .val (.int p4), .val (.int p5), .val (.ref a3), .val (.int (own_nf p5)), .val (.int (1 : Int32)), .val (.int (3 : Int32)), .val (.int (f 2))] [])) _
            refine XS.goto X33.here hx rfl (pc0 := 63) (pc' := 18) rfl (hb hby d1_63) (by decide) (by decide) ?_
            show Steps p.tables e below (T33.setTop (mkF m 18 #[.val (.ref a1), .val (.int p2), .val (.ref a3), .val (.int p4), .val (.int p5), .val (.ref a3), .val (.int (own_nf p5)), .val (.int (1 : Int32)), .val (.int (3 : Int32)), .val (.int (f 2))] [])) _
            refine XS.iload X33.here hx rfl (hb hby d1_18) rfl ?_
            refine XS.iloadN X33.here hx rfl (hb hby d1_20) rfl ?_
            refine XS.icmpYes X33.here hx rfl (pc0 := 21) (pc' := 66) rfl (hb hby d1_21) rfl (flt ((by rw [hk]; decide) : ¬ ((3 : Int32) < p4))).2.1 (by decide) (by decide) ?_
            show Steps p.tables e below (T33.setTop (mkF m 66 #[.val (.ref a1), .val (.int p2), .val (.ref a3), .val (.int p4), .val (.int p5), .val (.ref a3), .val (.int (own_nf p5)), .val (.int (1 : Int32)), .val (.int (3 : Int32)), .val (.int (f 2))] [])) _
            refine XS.iload X33.here hx rfl (hb hby d1_66) rfl ?_
            show Steps p.tables e below (T33.setTop (mkF m 68 #[.val (.ref a1), .val (.int p2), .val (.ref a3), .val (.int p4), .val (.int p5), .val (.ref a3), .val (.int (own_nf p5)), .val (.int (1 : Int32)), .val (.int (3 : Int32)), .val (.int (f 2))] [(.int (1 : Int32))])) _
            exact retI X33 hx Bd.returns (hb hby d1_68) hr
          · show Q_rm1a Z a1 p2 a3 p4 p5 f g h0 n0 _ T33.heap _
            rw [e33]
            have hs : (own_sel p4 (fun i => own_x g p2 (own_nf p5) (f i)) f) = [(f 1)] := by
              show (if (0 : Int32) < p4 then (if own_x g p2 (own_nf p5) (f 0) = (0 : Int32) then [] else [f 0]) else []) ++ ((if (1 : Int32) < p4 then (if own_x g p2 (own_nf p5) (f 1) = (0 : Int32) then [] else [f 1]) else []) ++ (if (2 : Int32) < p4 then (if own_x g p2 (own_nf p5) (f 2) = (0 : Int32) then [] else [f 2]) else [])) = _
              rw [hb0, hb1, hb2, hk]; rfl
            have hV : ArF Z h33 a3 .char 3 (fun i => .int ((fun i => if i = 0 then (f 1) else if i = 1 then (f 2) else (f 2)) i)) := V33_v33.congr (fun i hi => by
              match i, hi with
              | 0, _ => exact congrArg Value.int (own_nar (hix 1 (by decide)).1)
              | 1, _ => exact congrArg Value.int (own_nar (hix 2 (by decide)).1)
              | 2, _ => rfl)
            exact ⟨(fun i => if i = 0 then (f 1) else if i = 1 then (f 2) else (f 2)), by rw [hs]; rfl, N33, K33, hV, (by rw [hs]; intro i hi; have hj : i = 0 := by { simp only [List.length_cons, List.length_nil] at hi; omega }; rcases hj with rfl <;> rfl)⟩
        · obtain ⟨fs, hr, hrun, hended, hW, hsame⟩ := X33.leave (v := some (.int (2 : Int32))) (fun h => by rw [Bd.returns] at h; cases h)
          refine ⟨_, _, pre35 _ ?_, hrun, hended, _, _, rfl, ?_, ⟨_, rfl⟩, hW, hsame.mono (by decide) (by decide)⟩
          · show Steps p.tables e below (T33.setTop (mkF m 57 #[.val (.ref a1), .val (.int p2), .val (.ref a3), .val (.int p4), .val (.int p5), .val (.ref a3), .val (.int (own_nf p5)), .val (.int (1 : Int32)), .val (.int (2 : Int32)), .val (.int (f 2))] [(.int (own_x g p2 (own_nf p5) (f 2))), (.int (1 : Int32))])) _
            rw [hb2]
            show Steps p.tables e below (T33.setTop (mkF m 57 #[.val (.ref a1), .val (.int p2), .val (.ref a3), .val (.int p4), .val (.int p5), .val (.ref a3), .val (.int (own_nf p5)), .val (.int (1 : Int32)), .val (.int (2 : Int32)), .val (.int (f 2))] [(.int (1 : Int32)), (.int (1 : Int32))])) _
            refine XS.iadd X33.here hx rfl (hb hby d1_57) rfl ?_
            show Steps p.tables e below (T33.setTop (mkF m 58 #[.val (.ref a1), .val (.int p2), .val (.ref a3), .val (.int p4), .val (.int p5), .val (.ref a3), .val (.int (own_nf p5)), .val (.int (1 : Int32)), .val (.int (2 : Int32)), .val (.int (f 2))] [(.int (2 : Int32))])) _
            refine XS.istore X33.here hx rfl (hb hby d1_58) rfl (l' := #[.val (.ref a1), .val (.int p2), .val (.ref a3), .val (.int p4), .val (.int p5), .val (.ref a3), .val (.int (own_nf p5)), .val (.int (2 : Int32)), .val (.int (2 : Int32)), .val (.int (f 2))]) rfl ?_
            show Steps p.tables e below (T33.setTop (mkF m 60 #[.val (.ref a1), .val (.int p2), .val (.ref a3), .val (.int p4), .val (.int p5), .val (.ref a3), .val (.int (own_nf p5)), .val (.int (2 : Int32)), .val (.int (2 : Int32)), .val (.int (f 2))] [])) _
            refine XS.iinc X33.here hx rfl (hb hby d1_60) rfl (l' := #[.val (.ref a1), .val (.int p2), .val (.ref a3), .val (.int p4), .val (.int p5), .val (.ref a3), .val (.int (own_nf p5)), .val (.int (2 : Int32)), .val (.int (3 : Int32)), .val (.int (f 2))]) rfl ?_
            show Steps p.tables e below (T33.setTop (mkF m 63 #[.val (.ref a1), .val (.int p2), .val (.ref a3), .val (.int p4), .val (.int p5), .val (.ref a3), .val (.int (own_nf p5)), .val (.int (2 : Int32)), .val (.int (3 : Int32)), .val (.int (f 2))] [])) _
            refine XS.goto X33.here hx rfl (pc0 := 63) (pc' := 18) rfl (hb hby d1_63) (by decide) (by decide) ?_
            show Steps p.tables e below (T33.setTop (mkF m 18 #[.val (.ref a1), .val (.int p2), .val (.ref a3), .val (.int p4), .val (.int p5), .val (.ref a3), .val (.int (own_nf p5)), .val (.int (2 : Int32)), .val (.int (3 : Int32)), .val (.int (f 2))] [])) _
            refine XS.iload X33.here hx rfl (hb hby d1_18) rfl ?_
            refine XS.iloadN X33.here hx rfl (hb hby d1_20) rfl ?_
            refine XS.icmpYes X33.here hx rfl (pc0 := 21) (pc' := 66) rfl (hb hby d1_21) rfl (flt ((by rw [hk]; decide) : ¬ ((3 : Int32) < p4))).2.1 (by decide) (by decide) ?_
            show Steps p.tables e below (T33.setTop (mkF m 66 #[.val (.ref a1), .val (.int p2), .val (.ref a3), .val (.int p4), .val (.int p5), .val (.ref a3), .val (.int (own_nf p5)), .val (.int (2 : Int32)), .val (.int (3 : Int32)), .val (.int (f 2))] [])) _
            refine XS.iload X33.here hx rfl (hb hby d1_66) rfl ?_
            show Steps p.tables e below (T33.setTop (mkF m 68 #[.val (.ref a1), .val (.int p2), .val (.ref a3), .val (.int p4), .val (.int p5), .val (.ref a3), .val (.int (own_nf p5)), .val (.int (2 : Int32)), .val (.int (3 : Int32)), .val (.int (f 2))] [(.int (2 : Int32))])) _
            exact retI X33 hx Bd.returns (hb hby d1_68) hr
          · show Q_rm1a Z a1 p2 a3 p4 p5 f g h0 n0 _ T33.heap _
            rw [e33]
            have hs : (own_sel p4 (fun i => own_x g p2 (own_nf p5) (f i)) f) = [(f 1), (f 2)] := by
              show (if (0 : Int32) < p4 then (if own_x g p2 (own_nf p5) (f 0) = (0 : Int32) then [] else [f 0]) else []) ++ ((if (1 : Int32) < p4 then (if own_x g p2 (own_nf p5) (f 1) = (0 : Int32) then [] else [f 1]) else []) ++ (if (2 : Int32) < p4 then (if own_x g p2 (own_nf p5) (f 2) = (0 : Int32) then [] else [f 2]) else [])) = _
              rw [hb0, hb1, hb2, hk]; rfl
            have hV : ArF Z h33 a3 .char 3 (fun i => .int ((fun i => if i = 0 then (f 1) else if i = 1 then (f 2) else (f 2)) i)) := V33_v33.congr (fun i hi => by
              match i, hi with
              | 0, _ => exact congrArg Value.int (own_nar (hix 1 (by decide)).1)
              | 1, _ => exact congrArg Value.int (own_nar (hix 2 (by decide)).1)
              | 2, _ => rfl)
            exact ⟨(fun i => if i = 0 then (f 1) else if i = 1 then (f 2) else (f 2)), by rw [hs]; rfl, N33, K33, hV, (by rw [hs]; intro i hi; have hj : i = 0 ∨ i = 1 := by { simp only [List.length_cons, List.length_nil] at hi; omega }; rcases hj with rfl | rfl <;> rfl)⟩
    · obtain ⟨cl36, Ar36, S36, H36⟩ := id V21_v21
      have hin36 : ¬ ((1 : Int32) < 0 ∨ cl36.slots.size ≤ ((1 : Int32)).toNatClampNeg) := inA S36 (by decide) (by decide)
      have hat36 : cl36.slots[((1 : Int32)).toNatClampNeg]? = some (.int (f 1)) := ArF.at S36 H36 hin36 rfl
      obtain ⟨cl37, Ar37, S37, H37⟩ := id V21_v21
      have hin37 : ¬ ((1 : Int32) < 0 ∨ cl37.slots.size ≤ ((1 : Int32)).toNatClampNeg) := inA S37 (by decide) (by decide)
      obtain ⟨T37, h37, X37, e37, W37, st37⟩ := stC X21 hx hZ e21 Ar37 (j := (1 : Int32)) hin37 (g := (mkF m 36 #[.val (.ref a1), .val (.int p2), .val (.ref a3), .val (.int p4), .val (.int p5), .val (.ref a3), .val (.int (own_nf p5)), .val (.int (1 : Int32)), .val (.int (1 : Int32)), .val (.int (f 1))] [(.int (f 1)), (.int (1 : Int32)), (.ref a3)])) rfl rfl (hb hby d1_36)
      have W0_v37 := W0_v21.other W37 hne
      have Z37 : n0 ≤ h37.size := Nat.le_trans Z21 (Nat.le_of_eq W37.size.symm)
      have K37 := K21.wr W37 (Or.inl (by simp))
      have V37_v37 := ArF.set Ar37 S37 H37 W37 hin37
      have N37 := Fr.snoc X37 N21 ga
      obtain ⟨cl38, Ar38, S38, H38⟩ := id W0_v37
      have hin38 : ¬ ((own_j (f 1) p2) < 0 ∨ cl38.slots.size ≤ ((own_j (f 1) p2)).toNatClampNeg) := inA S38 (hix 1 (by decide)).2.1 (hix 1 (by decide)).2.2
      have hat38 : cl38.slots[((own_j (f 1) p2)).toNatClampNeg]? = some (.long (g (own_j (f 1) p2).toNatClampNeg)) := ArF.at S38 H38 hin38 rfl
      have pre39 : ∀ t, Steps p.tables e below (T37.setTop (mkF m 57 #[.val (.ref a1), .val (.int p2), .val (.ref a3), .val (.int p4), .val (.int p5), .val (.ref a3), .val (.int (own_nf p5)), .val (.int (1 : Int32)), .val (.int (1 : Int32)), .val (.int (f 1))] [(.int (own_x g p2 (own_nf p5) (f 1))), (.int (1 : Int32))])) t → Steps p.tables e below (s₁.setTop (entryFrame m #[(.ref a1), (.int p2), (.ref a3), (.int p4), (.int p5), (.ref a3)] 10)) t := by
        intro t k
        refine pre23 t ?_
        show Steps p.tables e below (T21.setTop (mkF m 57 #[.val (.ref a1), .val (.int p2), .val (.ref a3), .val (.int p4), .val (.int p5), .val (.ref a3), .val (.int (own_nf p5)), .val (.int (0 : Int32)), .val (.int (0 : Int32)), .val (.int (f 0))] [(.int (own_x g p2 (own_nf p5) (f 0))), (.int (0 : Int32))])) _
        rw [hb0]
        show Steps p.tables e below (T21.setTop (mkF m 57 #[.val (.ref a1), .val (.int p2), .val (.ref a3), .val (.int p4), .val (.int p5), .val (.ref a3), .val (.int (own_nf p5)), .val (.int (0 : Int32)), .val (.int (0 : Int32)), .val (.int (f 0))] [(.int (1 : Int32)), (.int (0 : Int32))])) _
        refine XS.iadd X21.here hx rfl (hb hby d1_57) rfl ?_
        show Steps p.tables e below (T21.setTop (mkF m 58 #[.val (.ref a1), .val (.int p2), .val (.ref a3), .val (.int p4), .val (.int p5), .val (.ref a3), .val (.int (own_nf p5)), .val (.int (0 : Int32)), .val (.int (0 : Int32)), .val (.int (f 0))] [(.int (1 : Int32))])) _
        refine XS.istore X21.here hx rfl (hb hby d1_58) rfl (l' := #[.val (.ref a1), .val (.int p2), .val (.ref a3), .val (.int p4), .val (.int p5), .val (.ref a3), .val (.int (own_nf p5)), .val (.int (1 : Int32)), .val (.int (0 : Int32)), .val (.int (f 0))]) rfl ?_
        show Steps p.tables e below (T21.setTop (mkF m 60 #[.val (.ref a1), .val (.int p2), .val (.ref a3), .val (.int p4), .val (.int p5), .val (.ref a3), .val (.int (own_nf p5)), .val (.int (1 : Int32)), .val (.int (0 : Int32)), .val (.int (f 0))] [])) _
        refine XS.iinc X21.here hx rfl (hb hby d1_60) rfl (l' := #[.val (.ref a1), .val (.int p2), .val (.ref a3), .val (.int p4), .val (.int p5), .val (.ref a3), .val (.int (own_nf p5)), .val (.int (1 : Int32)), .val (.int (1 : Int32)), .val (.int (f 0))]) rfl ?_
        show Steps p.tables e below (T21.setTop (mkF m 63 #[.val (.ref a1), .val (.int p2), .val (.ref a3), .val (.int p4), .val (.int p5), .val (.ref a3), .val (.int (own_nf p5)), .val (.int (1 : Int32)), .val (.int (1 : Int32)), .val (.int (f 0))] [])) _
        refine XS.goto X21.here hx rfl (pc0 := 63) (pc' := 18) rfl (hb hby d1_63) (by decide) (by decide) ?_
        show Steps p.tables e below (T21.setTop (mkF m 18 #[.val (.ref a1), .val (.int p2), .val (.ref a3), .val (.int p4), .val (.int p5), .val (.ref a3), .val (.int (own_nf p5)), .val (.int (1 : Int32)), .val (.int (1 : Int32)), .val (.int (f 0))] [])) _
        refine XS.iload X21.here hx rfl (hb hby d1_18) rfl ?_
        refine XS.iloadN X21.here hx rfl (hb hby d1_20) rfl ?_
        refine XS.icmpNo X21.here hx rfl (hb hby d1_21) rfl (tlt ((by rw [hk]; decide) : ((1 : Int32) < p4))).2.1 ?_
        show Steps p.tables e below (T21.setTop (mkF m 24 #[.val (.ref a1), .val (.int p2), .val (.ref a3), .val (.int p4), .val (.int p5), .val (.ref a3), .val (.int (own_nf p5)), .val (.int (1 : Int32)), .val (.int (1 : Int32)), .val (.int (f 0))] [])) _
        refine XS.aloadN X21.here hx rfl (hb hby d1_24) rfl rfl ?_
        refine XS.iload X21.here hx rfl (hb hby d1_25) rfl ?_
        show Steps p.tables e below (T21.setTop (mkF m 27 #[.val (.ref a1), .val (.int p2), .val (.ref a3), .val (.int p4), .val (.int p5), .val (.ref a3), .val (.int (own_nf p5)), .val (.int (1 : Int32)), .val (.int (1 : Int32)), .val (.int (f 0))] [(.int (1 : Int32)), (.ref a3)])) _
        refine X21.caload hx (j := (1 : Int32)) (v := (.int (f 1))) (by rw [e21]; exact Ar36.1) (State.isArrayOf_alike hZ.alike Ar36.2.1) Ar36.2.2 hin36 hat36 (g := (mkF m 27 #[.val (.ref a1), .val (.int p2), .val (.ref a3), .val (.int p4), .val (.int p5), .val (.ref a3), .val (.int (own_nf p5)), .val (.int (1 : Int32)), .val (.int (1 : Int32)), .val (.int (f 0))] [(.int (1 : Int32)), (.ref a3)])) rfl rfl (hb hby d1_27) _ ?_
        show Steps p.tables e below (T21.setTop (mkF m 28 #[.val (.ref a1), .val (.int p2), .val (.ref a3), .val (.int p4), .val (.int p5), .val (.ref a3), .val (.int (own_nf p5)), .val (.int (1 : Int32)), .val (.int (1 : Int32)), .val (.int (f 0))] [(.int (f 1))])) _
        refine XS.istore X21.here hx rfl (hb hby d1_28) rfl (l' := #[.val (.ref a1), .val (.int p2), .val (.ref a3), .val (.int p4), .val (.int p5), .val (.ref a3), .val (.int (own_nf p5)), .val (.int (1 : Int32)), .val (.int (1 : Int32)), .val (.int (f 1))]) rfl ?_
        show Steps p.tables e below (T21.setTop (mkF m 30 #[.val (.ref a1), .val (.int p2), .val (.ref a3), .val (.int p4), .val (.int p5), .val (.ref a3), .val (.int (own_nf p5)), .val (.int (1 : Int32)), .val (.int (1 : Int32)), .val (.int (f 1))] [])) _
        refine XS.aload X21.here hx rfl (hb hby d1_30) rfl rfl ?_
        refine XS.iload X21.here hx rfl (hb hby d1_32) rfl ?_
        refine XS.iload X21.here hx rfl (hb hby d1_34) rfl ?_
        show Steps p.tables e below (T21.setTop (mkF m 36 #[.val (.ref a1), .val (.int p2), .val (.ref a3), .val (.int p4), .val (.int p5), .val (.ref a3), .val (.int (own_nf p5)), .val (.int (1 : Int32)), .val (.int (1 : Int32)), .val (.int (f 1))] [(.int (f 1)), (.int (1 : Int32)), (.ref a3)])) _
        refine st37 _ ?_
        show Steps p.tables e below (T37.setTop (mkF m 37 #[.val (.ref a1), .val (.int p2), .val (.ref a3), .val (.int p4), .val (.int p5), .val (.ref a3), .val (.int (own_nf p5)), .val (.int (1 : Int32)), .val (.int (1 : Int32)), .val (.int (f 1))] [])) _
        refine XS.iload X37.here hx rfl (hb hby d1_37) rfl ?_
        refine XS.aloadN X37.here hx rfl (hb hby d1_39) rfl rfl ?_
        refine XS.iload X37.here hx rfl (hb hby d1_40) rfl ?_
        show Steps p.tables e below (T37.setTop (mkF m 42 #[.val (.ref a1), .val (.int p2), .val (.ref a3), .val (.int p4), .val (.int p5), .val (.ref a3), .val (.int (own_nf p5)), .val (.int (1 : Int32)), .val (.int (1 : Int32)), .val (.int (f 1))] [(.int (f 1)), (.ref a1), (.int (1 : Int32))])) _
        refine XS.bipush X37.here hx rfl (hb hby d1_42) ?_
        refine XS.iushr X37.here hx rfl (hb hby d1_44) rfl ?_
        show Steps p.tables e below (T37.setTop (mkF m 45 #[.val (.ref a1), .val (.int p2), .val (.ref a3), .val (.int p4), .val (.int p5), .val (.ref a3), .val (.int (own_nf p5)), .val (.int (1 : Int32)), .val (.int (1 : Int32)), .val (.int (f 1))] [(.int (((f 1).toUInt32 >>> ((6 : Int32) &&& 31).toUInt32).toInt32)), (.ref a1), (.int (1 : Int32))])) _
        refine XS.iloadN X37.here hx rfl (hb hby d1_45) rfl ?_
        refine XS.isub X37.here hx rfl (hb hby d1_46) rfl ?_
        show Steps p.tables e below (T37.setTop (mkF m 47 #[.val (.ref a1), .val (.int p2), .val (.ref a3), .val (.int p4), .val (.int p5), .val (.ref a3), .val (.int (own_nf p5)), .val (.int (1 : Int32)), .val (.int (1 : Int32)), .val (.int (f 1))] [(.int (own_j (f 1) p2)), (.ref a1), (.int (1 : Int32))])) _
        refine X37.laload hx (j := (own_j (f 1) p2)) (v := (.long (g (own_j (f 1) p2).toNatClampNeg))) (by rw [e37]; exact Ar38.1) (State.isArrayOf_alike hZ.alike Ar38.2.1) Ar38.2.2 hin38 hat38 (g := (mkF m 47 #[.val (.ref a1), .val (.int p2), .val (.ref a3), .val (.int p4), .val (.int p5), .val (.ref a3), .val (.int (own_nf p5)), .val (.int (1 : Int32)), .val (.int (1 : Int32)), .val (.int (f 1))] [(.int (own_j (f 1) p2)), (.ref a1), (.int (1 : Int32))])) rfl rfl (hb hby d1_47) _ ?_
        show Steps p.tables e below (T37.setTop (mkF m 48 #[.val (.ref a1), .val (.int p2), .val (.ref a3), .val (.int p4), .val (.int p5), .val (.ref a3), .val (.int (own_nf p5)), .val (.int (1 : Int32)), .val (.int (1 : Int32)), .val (.int (f 1))] [(.long (g (own_j (f 1) p2).toNatClampNeg)), (.int (1 : Int32))])) _
        refine XS.iload X37.here hx rfl (hb hby d1_48) rfl ?_
        refine XS.lushr X37.here hx rfl (hb hby d1_50) rfl ?_
        show Steps p.tables e below (T37.setTop (mkF m 51 #[.val (.ref a1), .val (.int p2), .val (.ref a3), .val (.int p4), .val (.int p5), .val (.ref a3), .val (.int (own_nf p5)), .val (.int (1 : Int32)), .val (.int (1 : Int32)), .val (.int (f 1))] [(.long (((g (own_j (f 1) p2).toNatClampNeg).toUInt64 >>> ((f 1) &&& 0x3f).toInt64.toUInt64).toInt64)), (.int (1 : Int32))])) _
        refine XS.l2i X37.here hx rfl (hb hby d1_51) rfl ?_
        refine XS.iconst X37.here hx rfl (hb hby d1_52) ?_
        refine XS.iand X37.here hx rfl (hb hby d1_53) rfl ?_
        show Steps p.tables e below (T37.setTop (mkF m 54 #[.val (.ref a1), .val (.int p2), .val (.ref a3), .val (.int p4), .val (.int p5), .val (.ref a3), .val (.int (own_nf p5)), .val (.int (1 : Int32)), .val (.int (1 : Int32)), .val (.int (f 1))] [(.int (((((g (own_j (f 1) p2).toNatClampNeg).toUInt64 >>> ((f 1) &&& 0x3f).toInt64.toUInt64).toInt64).toInt32) &&& (1 : Int32))), (.int (1 : Int32))])) _
        refine XS.iload X37.here hx rfl (hb hby d1_54) rfl ?_
        refine XS.ixor X37.here hx rfl (hb hby d1_56) rfl ?_
        show Steps p.tables e below (T37.setTop (mkF m 57 #[.val (.ref a1), .val (.int p2), .val (.ref a3), .val (.int p4), .val (.int p5), .val (.ref a3), .val (.int (own_nf p5)), .val (.int (1 : Int32)), .val (.int (1 : Int32)), .val (.int (f 1))] [(.int (own_x g p2 (own_nf p5) (f 1))), (.int (1 : Int32))])) _
        exact k
      rcases own_01 g p2 (own_nf p5) (f 1) (own_nf01 p5) with hb1 | hb1
      · obtain ⟨cl40, Ar40, S40, H40⟩ := id V37_v37
        have hin40 : ¬ ((2 : Int32) < 0 ∨ cl40.slots.size ≤ ((2 : Int32)).toNatClampNeg) := inA S40 (by decide) (by decide)
        have hat40 : cl40.slots[((2 : Int32)).toNatClampNeg]? = some (.int (f 2)) := ArF.at S40 H40 hin40 rfl
        obtain ⟨cl41, Ar41, S41, H41⟩ := id V37_v37
        have hin41 : ¬ ((1 : Int32) < 0 ∨ cl41.slots.size ≤ ((1 : Int32)).toNatClampNeg) := inA S41 (by decide) (by decide)
        obtain ⟨T41, h41, X41, e41, W41, st41⟩ := stC X37 hx hZ e37 Ar41 (j := (1 : Int32)) hin41 (g := (mkF m 36 #[.val (.ref a1), .val (.int p2), .val (.ref a3), .val (.int p4), .val (.int p5), .val (.ref a3), .val (.int (own_nf p5)), .val (.int (1 : Int32)), .val (.int (2 : Int32)), .val (.int (f 2))] [(.int (f 2)), (.int (1 : Int32)), (.ref a3)])) rfl rfl (hb hby d1_36)
        have W0_v41 := W0_v37.other W41 hne
        have Z41 : n0 ≤ h41.size := Nat.le_trans Z37 (Nat.le_of_eq W41.size.symm)
        have K41 := K37.wr W41 (Or.inl (by simp))
        have V41_v41 := ArF.set Ar41 S41 H41 W41 hin41
        have N41 := Fr.snoc X41 N37 ga
        obtain ⟨cl42, Ar42, S42, H42⟩ := id W0_v41
        have hin42 : ¬ ((own_j (f 2) p2) < 0 ∨ cl42.slots.size ≤ ((own_j (f 2) p2)).toNatClampNeg) := inA S42 (hix 2 (by decide)).2.1 (hix 2 (by decide)).2.2
        have hat42 : cl42.slots[((own_j (f 2) p2)).toNatClampNeg]? = some (.long (g (own_j (f 2) p2).toNatClampNeg)) := ArF.at S42 H42 hin42 rfl
        have pre43 : ∀ t, Steps p.tables e below (T41.setTop (mkF m 57 #[.val (.ref a1), .val (.int p2), .val (.ref a3), .val (.int p4), .val (.int p5), .val (.ref a3), .val (.int (own_nf p5)), .val (.int (1 : Int32)), .val (.int (2 : Int32)), .val (.int (f 2))] [(.int (own_x g p2 (own_nf p5) (f 2))), (.int (1 : Int32))])) t → Steps p.tables e below (s₁.setTop (entryFrame m #[(.ref a1), (.int p2), (.ref a3), (.int p4), (.int p5), (.ref a3)] 10)) t := by
          intro t k
          refine pre39 t ?_
          show Steps p.tables e below (T37.setTop (mkF m 57 #[.val (.ref a1), .val (.int p2), .val (.ref a3), .val (.int p4), .val (.int p5), .val (.ref a3), .val (.int (own_nf p5)), .val (.int (1 : Int32)), .val (.int (1 : Int32)), .val (.int (f 1))] [(.int (own_x g p2 (own_nf p5) (f 1))), (.int (1 : Int32))])) _
          rw [hb1]
          show Steps p.tables e below (T37.setTop (mkF m 57 #[.val (.ref a1), .val (.int p2), .val (.ref a3), .val (.int p4), .val (.int p5), .val (.ref a3), .val (.int (own_nf p5)), .val (.int (1 : Int32)), .val (.int (1 : Int32)), .val (.int (f 1))] [(.int (0 : Int32)), (.int (1 : Int32))])) _
          refine XS.iadd X37.here hx rfl (hb hby d1_57) rfl ?_
          show Steps p.tables e below (T37.setTop (mkF m 58 #[.val (.ref a1), .val (.int p2), .val (.ref a3), .val (.int p4), .val (.int p5), .val (.ref a3), .val (.int (own_nf p5)), .val (.int (1 : Int32)), .val (.int (1 : Int32)), .val (.int (f 1))] [(.int (1 : Int32))])) _
          refine XS.istore X37.here hx rfl (hb hby d1_58) rfl (l' := #[.val (.ref a1), .val (.int p2), .val (.ref a3), .val (.int p4), .val (.int p5), .val (.ref a3), .val (.int (own_nf p5)), .val (.int (1 : Int32)), .val (.int (1 : Int32)), .val (.int (f 1))]) rfl ?_
          show Steps p.tables e below (T37.setTop (mkF m 60 #[.val (.ref a1), .val (.int p2), .val (.ref a3), .val (.int p4), .val (.int p5), .val (.ref a3), .val (.int (own_nf p5)), .val (.int (1 : Int32)), .val (.int (1 : Int32)), .val (.int (f 1))] [])) _
          refine XS.iinc X37.here hx rfl (hb hby d1_60) rfl (l' := #[.val (.ref a1), .val (.int p2), .val (.ref a3), .val (.int p4), .val (.int p5), .val (.ref a3), .val (.int (own_nf p5)), .val (.int (1 : Int32)), .val (.int (2 : Int32)), .val (.int (f 1))]) rfl ?_
          show Steps p.tables e below (T37.setTop (mkF m 63 #[.val (.ref a1), .val (.int p2), .val (.ref a3), .val (.int p4), .val (.int p5), .val (.ref a3), .val (.int (own_nf p5)), .val (.int (1 : Int32)), .val (.int (2 : Int32)), .val (.int (f 1))] [])) _
          refine XS.goto X37.here hx rfl (pc0 := 63) (pc' := 18) rfl (hb hby d1_63) (by decide) (by decide) ?_
          show Steps p.tables e below (T37.setTop (mkF m 18 #[.val (.ref a1), .val (.int p2), .val (.ref a3), .val (.int p4), .val (.int p5), .val (.ref a3), .val (.int (own_nf p5)), .val (.int (1 : Int32)), .val (.int (2 : Int32)), .val (.int (f 1))] [])) _
          refine XS.iload X37.here hx rfl (hb hby d1_18) rfl ?_
          refine XS.iloadN X37.here hx rfl (hb hby d1_20) rfl ?_
          refine XS.icmpNo X37.here hx rfl (hb hby d1_21) rfl (tlt ((by rw [hk]; decide) : ((2 : Int32) < p4))).2.1 ?_
          show Steps p.tables e below (T37.setTop (mkF m 24 #[.val (.ref a1), .val (.int p2), .val (.ref a3), .val (.int p4), .val (.int p5), .val (.ref a3), .val (.int (own_nf p5)), .val (.int (1 : Int32)), .val (.int (2 : Int32)), .val (.int (f 1))] [])) _
          refine XS.aloadN X37.here hx rfl (hb hby d1_24) rfl rfl ?_
          refine XS.iload X37.here hx rfl (hb hby d1_25) rfl ?_
          show Steps p.tables e below (T37.setTop (mkF m 27 #[.val (.ref a1), .val (.int p2), .val (.ref a3), .val (.int p4), .val (.int p5), .val (.ref a3), .val (.int (own_nf p5)), .val (.int (1 : Int32)), .val (.int (2 : Int32)), .val (.int (f 1))] [(.int (2 : Int32)), (.ref a3)])) _
          refine X37.caload hx (j := (2 : Int32)) (v := (.int (f 2))) (by rw [e37]; exact Ar40.1) (State.isArrayOf_alike hZ.alike Ar40.2.1) Ar40.2.2 hin40 hat40 (g := (mkF m 27 #[.val (.ref a1), .val (.int p2), .val (.ref a3), .val (.int p4), .val (.int p5), .val (.ref a3), .val (.int (own_nf p5)), .val (.int (1 : Int32)), .val (.int (2 : Int32)), .val (.int (f 1))] [(.int (2 : Int32)), (.ref a3)])) rfl rfl (hb hby d1_27) _ ?_
          show Steps p.tables e below (T37.setTop (mkF m 28 #[.val (.ref a1), .val (.int p2), .val (.ref a3), .val (.int p4), .val (.int p5), .val (.ref a3), .val (.int (own_nf p5)), .val (.int (1 : Int32)), .val (.int (2 : Int32)), .val (.int (f 1))] [(.int (f 2))])) _
          refine XS.istore X37.here hx rfl (hb hby d1_28) rfl (l' := #[.val (.ref a1), .val (.int p2), .val (.ref a3), .val (.int p4), .val (.int p5), .val (.ref a3), .val (.int (own_nf p5)), .val (.int (1 : Int32)), .val (.int (2 : Int32)), .val (.int (f 2))]) rfl ?_
          show Steps p.tables e below (T37.setTop (mkF m 30 #[.val (.ref a1), .val (.int p2), .val (.ref a3), .val (.int p4), .val (.int p5), .val (.ref a3), .val (.int (own_nf p5)), .val (.int (1 : Int32)), .val (.int (2 : Int32)), .val (.int (f 2))] [])) _
          refine XS.aload X37.here hx rfl (hb hby d1_30) rfl rfl ?_
          refine XS.iload X37.here hx rfl (hb hby d1_32) rfl ?_
          refine XS.iload X37.here hx rfl (hb hby d1_34) rfl ?_
          show Steps p.tables e below (T37.setTop (mkF m 36 #[.val (.ref a1), .val (.int p2), .val (.ref a3), .val (.int p4), .val (.int p5), .val (.ref a3), .val (.int (own_nf p5)), .val (.int (1 : Int32)), .val (.int (2 : Int32)), .val (.int (f 2))] [(.int (f 2)), (.int (1 : Int32)), (.ref a3)])) _
          refine st41 _ ?_
          show Steps p.tables e below (T41.setTop (mkF m 37 #[.val (.ref a1), .val (.int p2), .val (.ref a3), .val (.int p4), .val (.int p5), .val (.ref a3), .val (.int (own_nf p5)), .val (.int (1 : Int32)), .val (.int (2 : Int32)), .val (.int (f 2))] [])) _
          refine XS.iload X41.here hx rfl (hb hby d1_37) rfl ?_
          refine XS.aloadN X41.here hx rfl (hb hby d1_39) rfl rfl ?_
          refine XS.iload X41.here hx rfl (hb hby d1_40) rfl ?_
          show Steps p.tables e below (T41.setTop (mkF m 42 #[.val (.ref a1), .val (.int p2), .val (.ref a3), .val (.int p4), .val (.int p5), .val (.ref a3), .val (.int (own_nf p5)), .val (.int (1 : Int32)), .val (.int (2 : Int32)), .val (.int (f 2))] [(.int (f 2)), (.ref a1), (.int (1 : Int32))])) _
          refine XS.bipush X41.here hx rfl (hb hby d1_42) ?_
          refine XS.iushr X41.here hx rfl (hb hby d1_44) rfl ?_
          show Steps p.tables e below (T41.setTop (mkF m 45 #[.val (.ref a1), .val (.int p2), .val (.ref a3), .val (.int p4), .val (.int p5), .val (.ref a3), .val (.int (own_nf p5)), .val (.int (1 : Int32)), .val (.int (2 : Int32)), .val (.int (f 2))] [(.int (((f 2).toUInt32 >>> ((6 : Int32) &&& 31).toUInt32).toInt32)), (.ref a1), (.int (1 : Int32))])) _
          refine XS.iloadN X41.here hx rfl (hb hby d1_45) rfl ?_
          refine XS.isub X41.here hx rfl (hb hby d1_46) rfl ?_
          show Steps p.tables e below (T41.setTop (mkF m 47 #[.val (.ref a1), .val (.int p2), .val (.ref a3), .val (.int p4), .val (.int p5), .val (.ref a3), .val (.int (own_nf p5)), .val (.int (1 : Int32)), .val (.int (2 : Int32)), .val (.int (f 2))] [(.int (own_j (f 2) p2)), (.ref a1), (.int (1 : Int32))])) _
          refine X41.laload hx (j := (own_j (f 2) p2)) (v := (.long (g (own_j (f 2) p2).toNatClampNeg))) (by rw [e41]; exact Ar42.1) (State.isArrayOf_alike hZ.alike Ar42.2.1) Ar42.2.2 hin42 hat42 (g := (mkF m 47 #[.val (.ref a1), .val (.int p2), .val (.ref a3), .val (.int p4), .val (.int p5), .val (.ref a3), .val (.int (own_nf p5)), .val (.int (1 : Int32)), .val (.int (2 : Int32)), .val (.int (f 2))] [(.int (own_j (f 2) p2)), (.ref a1), (.int (1 : Int32))])) rfl rfl (hb hby d1_47) _ ?_
          show Steps p.tables e below (T41.setTop (mkF m 48 #[.val (.ref a1), .val (.int p2), .val (.ref a3), .val (.int p4), .val (.int p5), .val (.ref a3), .val (.int (own_nf p5)), .val (.int (1 : Int32)), .val (.int (2 : Int32)), .val (.int (f 2))] [(.long (g (own_j (f 2) p2).toNatClampNeg)), (.int (1 : Int32))])) _
          refine XS.iload X41.here hx rfl (hb hby d1_48) rfl ?_
          refine XS.lushr X41.here hx rfl (hb hby d1_50) rfl ?_
          show Steps p.tables e below (T41.setTop (mkF m 51 #[.val (.ref a1), .val (.int p2), .val (.ref a3), .val (.int p4), .val (.int p5), .val (.ref a3), .val (.int (own_nf p5)), .val (.int (1 : Int32)), .val (.int (2 : Int32)), .val (.int (f 2))] [(.long (((g (own_j (f 2) p2).toNatClampNeg).toUInt64 >>> ((f 2) &&& 0x3f).toInt64.toUInt64).toInt64)), (.int (1 : Int32))])) _
          refine XS.l2i X41.here hx rfl (hb hby d1_51) rfl ?_
          refine XS.iconst X41.here hx rfl (hb hby d1_52) ?_
          refine XS.iand X41.here hx rfl (hb hby d1_53) rfl ?_
          show Steps p.tables e below (T41.setTop (mkF m 54 #[.val (.ref a1), .val (.int p2), .val (.ref a3), .val (.int p4), .val (.int p5), .val (.ref a3), .val (.int (own_nf p5)), .val (.int (1 : Int32)), .val (.int (2 : Int32)), .val (.int (f 2))] [(.int (((((g (own_j (f 2) p2).toNatClampNeg).toUInt64 >>> ((f 2) &&& 0x3f).toInt64.toUInt64).toInt64).toInt32) &&& (1 : Int32))), (.int (1 : Int32))])) _
          refine XS.iload X41.here hx rfl (hb hby d1_54) rfl ?_
          refine XS.ixor X41.here hx rfl (hb hby d1_56) rfl ?_
          show Steps p.tables e below (T41.setTop (mkF m 57 #[.val (.ref a1), .val (.int p2), .val (.ref a3), .val (.int p4), .val (.int p5), .val (.ref a3), .val (.int (own_nf p5)), .val (.int (1 : Int32)), .val (.int (2 : Int32)), .val (.int (f 2))] [(.int (own_x g p2 (own_nf p5) (f 2))), (.int (1 : Int32))])) _
          exact k
        rcases own_01 g p2 (own_nf p5) (f 2) (own_nf01 p5) with hb2 | hb2
        · obtain ⟨fs, hr, hrun, hended, hW, hsame⟩ := X41.leave (v := some (.int (1 : Int32))) (fun h => by rw [Bd.returns] at h; cases h)
          refine ⟨_, _, pre43 _ ?_, hrun, hended, _, _, rfl, ?_, ⟨_, rfl⟩, hW, hsame.mono (by decide) (by decide)⟩
          · show Steps p.tables e below (T41.setTop (mkF m 57 #[.val (.ref a1), .val (.int p2), .val (.ref a3), .val (.int p4), .val (.int p5), .val (.ref a3), .val (.int (own_nf p5)), .val (.int (1 : Int32)), .val (.int (2 : Int32)), .val (.int (f 2))] [(.int (own_x g p2 (own_nf p5) (f 2))), (.int (1 : Int32))])) _
            rw [hb2]
            show Steps p.tables e below (T41.setTop (mkF m 57 #[.val (.ref a1), .val (.int p2), .val (.ref a3), .val (.int p4), .val (.int p5), .val (.ref a3), .val (.int (own_nf p5)), .val (.int (1 : Int32)), .val (.int (2 : Int32)), .val (.int (f 2))] [(.int (0 : Int32)), (.int (1 : Int32))])) _
            refine XS.iadd X41.here hx rfl (hb hby d1_57) rfl ?_
            show Steps p.tables e below (T41.setTop (mkF m 58 #[.val (.ref a1), .val (.int p2), .val (.ref a3), .val (.int p4), .val (.int p5), .val (.ref a3), .val (.int (own_nf p5)), .val (.int (1 : Int32)), .val (.int (2 : Int32)), .val (.int (f 2))] [(.int (1 : Int32))])) _
            refine XS.istore X41.here hx rfl (hb hby d1_58) rfl (l' := #[.val (.ref a1), .val (.int p2), .val (.ref a3), .val (.int p4), .val (.int p5), .val (.ref a3), .val (.int (own_nf p5)), .val (.int (1 : Int32)), .val (.int (2 : Int32)), .val (.int (f 2))]) rfl ?_
            show Steps p.tables e below (T41.setTop (mkF m 60 #[.val (.ref a1), .val (.int p2), .val (.ref a3), .val (.int p4), .val (.int p5), .val (.ref a3), .val (.int (own_nf p5)), .val (.int (1 : Int32)), .val (.int (2 : Int32)), .val (.int (f 2))] [])) _
            refine XS.iinc X41.here hx rfl (hb hby d1_60) rfl (l' := #[.val (.ref a1), .val (.int p2), .val (.ref a3), .val (.int p4), .val (.int p5), .val (.ref a3), .val (.int (own_nf p5)), .val (.int (1 : Int32)), .val (.int (3 : Int32)), .val (.int (f 2))]) rfl ?_
            show Steps p.tables e below (T41.setTop (mkF m 63 #[.val (.ref a1), .val (.int p2), .val (.ref a3), .val (.int p4), .val (.int p5), .val (.ref a3), .val (.int (own_nf p5)), .val (.int (1 : Int32)), .val (.int (3 : Int32)), .val (.int (f 2))] [])) _
            refine XS.goto X41.here hx rfl (pc0 := 63) (pc' := 18) rfl (hb hby d1_63) (by decide) (by decide) ?_
            show Steps p.tables e below (T41.setTop (mkF m 18 #[.val (.ref a1), .val (.int p2), .val (.ref a3), .val (.int p4), .val (.int p5), .val (.ref a3), .val (.int (own_nf p5)), .val (.int (1 : Int32)), .val (.int (3 : Int32)), .val (.int (f 2))] [])) _
            refine XS.iload X41.here hx rfl (hb hby d1_18) rfl ?_
            refine XS.iloadN X41.here hx rfl (hb hby d1_20) rfl ?_
            refine XS.icmpYes X41.here hx rfl (pc0 := 21) (pc' := 66) rfl (hb hby d1_21) rfl (flt ((by rw [hk]; decide) : ¬ ((3 : Int32) < p4))).2.1 (by decide) (by decide) ?_
            show Steps p.tables e below (T41.setTop (mkF m 66 #[.val (.ref a1), .val (.int p2), .val (.ref a3), .val (.int p4), .val (.int p5), .val (.ref a3), .val (.int (own_nf p5)), .val (.int (1 : Int32)), .val (.int (3 : Int32)), .val (.int (f 2))] [])) _
            refine XS.iload X41.here hx rfl (hb hby d1_66) rfl ?_
            show Steps p.tables e below (T41.setTop (mkF m 68 #[.val (.ref a1), .val (.int p2), .val (.ref a3), .val (.int p4), .val (.int p5), .val (.ref a3), .val (.int (own_nf p5)), .val (.int (1 : Int32)), .val (.int (3 : Int32)), .val (.int (f 2))] [(.int (1 : Int32))])) _
            exact retI X41 hx Bd.returns (hb hby d1_68) hr
          · show Q_rm1a Z a1 p2 a3 p4 p5 f g h0 n0 _ T41.heap _
            rw [e41]
            have hs : (own_sel p4 (fun i => own_x g p2 (own_nf p5) (f i)) f) = [(f 0)] := by
              show (if (0 : Int32) < p4 then (if own_x g p2 (own_nf p5) (f 0) = (0 : Int32) then [] else [f 0]) else []) ++ ((if (1 : Int32) < p4 then (if own_x g p2 (own_nf p5) (f 1) = (0 : Int32) then [] else [f 1]) else []) ++ (if (2 : Int32) < p4 then (if own_x g p2 (own_nf p5) (f 2) = (0 : Int32) then [] else [f 2]) else [])) = _
              rw [hb0, hb1, hb2, hk]; rfl
            have hV : ArF Z h41 a3 .char 3 (fun i => .int ((fun i => if i = 0 then (f 0) else if i = 1 then (f 2) else (f 2)) i)) := V41_v41.congr (fun i hi => by
              match i, hi with
              | 0, _ => exact congrArg Value.int (own_nar (hix 0 (by decide)).1)
              | 1, _ => exact congrArg Value.int (own_nar (hix 2 (by decide)).1)
              | 2, _ => rfl)
            exact ⟨(fun i => if i = 0 then (f 0) else if i = 1 then (f 2) else (f 2)), by rw [hs]; rfl, N41, K41, hV, (by rw [hs]; intro i hi; have hj : i = 0 := by { simp only [List.length_cons, List.length_nil] at hi; omega }; rcases hj with rfl <;> rfl)⟩
        · obtain ⟨fs, hr, hrun, hended, hW, hsame⟩ := X41.leave (v := some (.int (2 : Int32))) (fun h => by rw [Bd.returns] at h; cases h)
          refine ⟨_, _, pre43 _ ?_, hrun, hended, _, _, rfl, ?_, ⟨_, rfl⟩, hW, hsame.mono (by decide) (by decide)⟩
          · show Steps p.tables e below (T41.setTop (mkF m 57 #[.val (.ref a1), .val (.int p2), .val (.ref a3), .val (.int p4), .val (.int p5), .val (.ref a3), .val (.int (own_nf p5)), .val (.int (1 : Int32)), .val (.int (2 : Int32)), .val (.int (f 2))] [(.int (own_x g p2 (own_nf p5) (f 2))), (.int (1 : Int32))])) _
            rw [hb2]
            show Steps p.tables e below (T41.setTop (mkF m 57 #[.val (.ref a1), .val (.int p2), .val (.ref a3), .val (.int p4), .val (.int p5), .val (.ref a3), .val (.int (own_nf p5)), .val (.int (1 : Int32)), .val (.int (2 : Int32)), .val (.int (f 2))] [(.int (1 : Int32)), (.int (1 : Int32))])) _
            refine XS.iadd X41.here hx rfl (hb hby d1_57) rfl ?_
            show Steps p.tables e below (T41.setTop (mkF m 58 #[.val (.ref a1), .val (.int p2), .val (.ref a3), .val (.int p4), .val (.int p5), .val (.ref a3), .val (.int (own_nf p5)), .val (.int (1 : Int32)), .val (.int (2 : Int32)), .val (.int (f 2))] [(.int (2 : Int32))])) _
            refine XS.istore X41.here hx rfl (hb hby d1_58) rfl (l' := #[.val (.ref a1), .val (.int p2), .val (.ref a3), .val (.int p4), .val (.int p5), .val (.ref a3), .val (.int (own_nf p5)), .val (.int (2 : Int32)), .val (.int (2 : Int32)), .val (.int (f 2))]) rfl ?_
            show Steps p.tables e below (T41.setTop (mkF m 60 #[.val (.ref a1), .val (.int p2), .val (.ref a3), .val (.int p4), .val (.int p5), .val (.ref a3), .val (.int (own_nf p5)), .val (.int (2 : Int32)), .val (.int (2 : Int32)), .val (.int (f 2))] [])) _
            refine XS.iinc X41.here hx rfl (hb hby d1_60) rfl (l' := #[.val (.ref a1), .val (.int p2), .val (.ref a3), .val (.int p4), .val (.int p5), .val (.ref a3), .val (.int (own_nf p5)), .val (.int (2 : Int32)), .val (.int (3 : Int32)), .val (.int (f 2))]) rfl ?_
            show Steps p.tables e below (T41.setTop (mkF m 63 #[.val (.ref a1), .val (.int p2), .val (.ref a3), .val (.int p4), .val (.int p5), .val (.ref a3), .val (.int (own_nf p5)), .val (.int (2 : Int32)), .val (.int (3 : Int32)), .val (.int (f 2))] [])) _
            refine XS.goto X41.here hx rfl (pc0 := 63) (pc' := 18) rfl (hb hby d1_63) (by decide) (by decide) ?_
            show Steps p.tables e below (T41.setTop (mkF m 18 #[.val (.ref a1), .val (.int p2), .val (.ref a3), .val (.int p4), .val (.int p5), .val (.ref a3), .val (.int (own_nf p5)), .val (.int (2 : Int32)), .val (.int (3 : Int32)), .val (.int (f 2))] [])) _
            refine XS.iload X41.here hx rfl (hb hby d1_18) rfl ?_
            refine XS.iloadN X41.here hx rfl (hb hby d1_20) rfl ?_
            refine XS.icmpYes X41.here hx rfl (pc0 := 21) (pc' := 66) rfl (hb hby d1_21) rfl (flt ((by rw [hk]; decide) : ¬ ((3 : Int32) < p4))).2.1 (by decide) (by decide) ?_
            show Steps p.tables e below (T41.setTop (mkF m 66 #[.val (.ref a1), .val (.int p2), .val (.ref a3), .val (.int p4), .val (.int p5), .val (.ref a3), .val (.int (own_nf p5)), .val (.int (2 : Int32)), .val (.int (3 : Int32)), .val (.int (f 2))] [])) _
            refine XS.iload X41.here hx rfl (hb hby d1_66) rfl ?_
            show Steps p.tables e below (T41.setTop (mkF m 68 #[.val (.ref a1), .val (.int p2), .val (.ref a3), .val (.int p4), .val (.int p5), .val (.ref a3), .val (.int (own_nf p5)), .val (.int (2 : Int32)), .val (.int (3 : Int32)), .val (.int (f 2))] [(.int (2 : Int32))])) _
            exact retI X41 hx Bd.returns (hb hby d1_68) hr
          · show Q_rm1a Z a1 p2 a3 p4 p5 f g h0 n0 _ T41.heap _
            rw [e41]
            have hs : (own_sel p4 (fun i => own_x g p2 (own_nf p5) (f i)) f) = [(f 0), (f 2)] := by
              show (if (0 : Int32) < p4 then (if own_x g p2 (own_nf p5) (f 0) = (0 : Int32) then [] else [f 0]) else []) ++ ((if (1 : Int32) < p4 then (if own_x g p2 (own_nf p5) (f 1) = (0 : Int32) then [] else [f 1]) else []) ++ (if (2 : Int32) < p4 then (if own_x g p2 (own_nf p5) (f 2) = (0 : Int32) then [] else [f 2]) else [])) = _
              rw [hb0, hb1, hb2, hk]; rfl
            have hV : ArF Z h41 a3 .char 3 (fun i => .int ((fun i => if i = 0 then (f 0) else if i = 1 then (f 2) else (f 2)) i)) := V41_v41.congr (fun i hi => by
              match i, hi with
              | 0, _ => exact congrArg Value.int (own_nar (hix 0 (by decide)).1)
              | 1, _ => exact congrArg Value.int (own_nar (hix 2 (by decide)).1)
              | 2, _ => rfl)
            exact ⟨(fun i => if i = 0 then (f 0) else if i = 1 then (f 2) else (f 2)), by rw [hs]; rfl, N41, K41, hV, (by rw [hs]; intro i hi; have hj : i = 0 ∨ i = 1 := by { simp only [List.length_cons, List.length_nil] at hi; omega }; rcases hj with rfl | rfl <;> rfl)⟩
      · obtain ⟨cl44, Ar44, S44, H44⟩ := id V37_v37
        have hin44 : ¬ ((2 : Int32) < 0 ∨ cl44.slots.size ≤ ((2 : Int32)).toNatClampNeg) := inA S44 (by decide) (by decide)
        have hat44 : cl44.slots[((2 : Int32)).toNatClampNeg]? = some (.int (f 2)) := ArF.at S44 H44 hin44 rfl
        obtain ⟨cl45, Ar45, S45, H45⟩ := id V37_v37
        have hin45 : ¬ ((2 : Int32) < 0 ∨ cl45.slots.size ≤ ((2 : Int32)).toNatClampNeg) := inA S45 (by decide) (by decide)
        obtain ⟨T45, h45, X45, e45, W45, st45⟩ := stC X37 hx hZ e37 Ar45 (j := (2 : Int32)) hin45 (g := (mkF m 36 #[.val (.ref a1), .val (.int p2), .val (.ref a3), .val (.int p4), .val (.int p5), .val (.ref a3), .val (.int (own_nf p5)), .val (.int (2 : Int32)), .val (.int (2 : Int32)), .val (.int (f 2))] [(.int (f 2)), (.int (2 : Int32)), (.ref a3)])) rfl rfl (hb hby d1_36)
        have W0_v45 := W0_v37.other W45 hne
        have Z45 : n0 ≤ h45.size := Nat.le_trans Z37 (Nat.le_of_eq W45.size.symm)
        have K45 := K37.wr W45 (Or.inl (by simp))
        have V45_v45 := ArF.set Ar45 S45 H45 W45 hin45
        have N45 := Fr.snoc X45 N37 ga
        obtain ⟨cl46, Ar46, S46, H46⟩ := id W0_v45
        have hin46 : ¬ ((own_j (f 2) p2) < 0 ∨ cl46.slots.size ≤ ((own_j (f 2) p2)).toNatClampNeg) := inA S46 (hix 2 (by decide)).2.1 (hix 2 (by decide)).2.2
        have hat46 : cl46.slots[((own_j (f 2) p2)).toNatClampNeg]? = some (.long (g (own_j (f 2) p2).toNatClampNeg)) := ArF.at S46 H46 hin46 rfl
        have pre47 : ∀ t, Steps p.tables e below (T45.setTop (mkF m 57 #[.val (.ref a1), .val (.int p2), .val (.ref a3), .val (.int p4), .val (.int p5), .val (.ref a3), .val (.int (own_nf p5)), .val (.int (2 : Int32)), .val (.int (2 : Int32)), .val (.int (f 2))] [(.int (own_x g p2 (own_nf p5) (f 2))), (.int (2 : Int32))])) t → Steps p.tables e below (s₁.setTop (entryFrame m #[(.ref a1), (.int p2), (.ref a3), (.int p4), (.int p5), (.ref a3)] 10)) t := by
          intro t k
          refine pre39 t ?_
          show Steps p.tables e below (T37.setTop (mkF m 57 #[.val (.ref a1), .val (.int p2), .val (.ref a3), .val (.int p4), .val (.int p5), .val (.ref a3), .val (.int (own_nf p5)), .val (.int (1 : Int32)), .val (.int (1 : Int32)), .val (.int (f 1))] [(.int (own_x g p2 (own_nf p5) (f 1))), (.int (1 : Int32))])) _
          rw [hb1]
          show Steps p.tables e below (T37.setTop (mkF m 57 #[.val (.ref a1), .val (.int p2), .val (.ref a3), .val (.int p4), .val (.int p5), .val (.ref a3), .val (.int (own_nf p5)), .val (.int (1 : Int32)), .val (.int (1 : Int32)), .val (.int (f 1))] [(.int (1 : Int32)), (.int (1 : Int32))])) _
          refine XS.iadd X37.here hx rfl (hb hby d1_57) rfl ?_
          show Steps p.tables e below (T37.setTop (mkF m 58 #[.val (.ref a1), .val (.int p2), .val (.ref a3), .val (.int p4), .val (.int p5), .val (.ref a3), .val (.int (own_nf p5)), .val (.int (1 : Int32)), .val (.int (1 : Int32)), .val (.int (f 1))] [(.int (2 : Int32))])) _
          refine XS.istore X37.here hx rfl (hb hby d1_58) rfl (l' := #[.val (.ref a1), .val (.int p2), .val (.ref a3), .val (.int p4), .val (.int p5), .val (.ref a3), .val (.int (own_nf p5)), .val (.int (2 : Int32)), .val (.int (1 : Int32)), .val (.int (f 1))]) rfl ?_
          show Steps p.tables e below (T37.setTop (mkF m 60 #[.val (.ref a1), .val (.int p2), .val (.ref a3), .val (.int p4), .val (.int p5), .val (.ref a3), .val (.int (own_nf p5)), .val (.int (2 : Int32)), .val (.int (1 : Int32)), .val (.int (f 1))] [])) _
          refine XS.iinc X37.here hx rfl (hb hby d1_60) rfl (l' := #[.val (.ref a1), .val (.int p2), .val (.ref a3), .val (.int p4), .val (.int p5), .val (.ref a3), .val (.int (own_nf p5)), .val (.int (2 : Int32)), .val (.int (2 : Int32)), .val (.int (f 1))]) rfl ?_
          show Steps p.tables e below (T37.setTop (mkF m 63 #[.val (.ref a1), .val (.int p2), .val (.ref a3), .val (.int p4), .val (.int p5), .val (.ref a3), .val (.int (own_nf p5)), .val (.int (2 : Int32)), .val (.int (2 : Int32)), .val (.int (f 1))] [])) _
          refine XS.goto X37.here hx rfl (pc0 := 63) (pc' := 18) rfl (hb hby d1_63) (by decide) (by decide) ?_
          show Steps p.tables e below (T37.setTop (mkF m 18 #[.val (.ref a1), .val (.int p2), .val (.ref a3), .val (.int p4), .val (.int p5), .val (.ref a3), .val (.int (own_nf p5)), .val (.int (2 : Int32)), .val (.int (2 : Int32)), .val (.int (f 1))] [])) _
          refine XS.iload X37.here hx rfl (hb hby d1_18) rfl ?_
          refine XS.iloadN X37.here hx rfl (hb hby d1_20) rfl ?_
          refine XS.icmpNo X37.here hx rfl (hb hby d1_21) rfl (tlt ((by rw [hk]; decide) : ((2 : Int32) < p4))).2.1 ?_
          show Steps p.tables e below (T37.setTop (mkF m 24 #[.val (.ref a1), .val (.int p2), .val (.ref a3), .val (.int p4), .val (.int p5), .val (.ref a3), .val (.int (own_nf p5)), .val (.int (2 : Int32)), .val (.int (2 : Int32)), .val (.int (f 1))] [])) _
          refine XS.aloadN X37.here hx rfl (hb hby d1_24) rfl rfl ?_
          refine XS.iload X37.here hx rfl (hb hby d1_25) rfl ?_
          show Steps p.tables e below (T37.setTop (mkF m 27 #[.val (.ref a1), .val (.int p2), .val (.ref a3), .val (.int p4), .val (.int p5), .val (.ref a3), .val (.int (own_nf p5)), .val (.int (2 : Int32)), .val (.int (2 : Int32)), .val (.int (f 1))] [(.int (2 : Int32)), (.ref a3)])) _
          refine X37.caload hx (j := (2 : Int32)) (v := (.int (f 2))) (by rw [e37]; exact Ar44.1) (State.isArrayOf_alike hZ.alike Ar44.2.1) Ar44.2.2 hin44 hat44 (g := (mkF m 27 #[.val (.ref a1), .val (.int p2), .val (.ref a3), .val (.int p4), .val (.int p5), .val (.ref a3), .val (.int (own_nf p5)), .val (.int (2 : Int32)), .val (.int (2 : Int32)), .val (.int (f 1))] [(.int (2 : Int32)), (.ref a3)])) rfl rfl (hb hby d1_27) _ ?_
          show Steps p.tables e below (T37.setTop (mkF m 28 #[.val (.ref a1), .val (.int p2), .val (.ref a3), .val (.int p4), .val (.int p5), .val (.ref a3), .val (.int (own_nf p5)), .val (.int (2 : Int32)), .val (.int (2 : Int32)), .val (.int (f 1))] [(.int (f 2))])) _
          refine XS.istore X37.here hx rfl (hb hby d1_28) rfl (l' := #[.val (.ref a1), .val (.int p2), .val (.ref a3), .val (.int p4), .val (.int p5), .val (.ref a3), .val (.int (own_nf p5)), .val (.int (2 : Int32)), .val (.int (2 : Int32)), .val (.int (f 2))]) rfl ?_
          show Steps p.tables e below (T37.setTop (mkF m 30 #[.val (.ref a1), .val (.int p2), .val (.ref a3), .val (.int p4), .val (.int p5), .val (.ref a3), .val (.int (own_nf p5)), .val (.int (2 : Int32)), .val (.int (2 : Int32)), .val (.int (f 2))] [])) _
          refine XS.aload X37.here hx rfl (hb hby d1_30) rfl rfl ?_
          refine XS.iload X37.here hx rfl (hb hby d1_32) rfl ?_
          refine XS.iload X37.here hx rfl (hb hby d1_34) rfl ?_
          show Steps p.tables e below (T37.setTop (mkF m 36 #[.val (.ref a1), .val (.int p2), .val (.ref a3), .val (.int p4), .val (.int p5), .val (.ref a3), .val (.int (own_nf p5)), .val (.int (2 : Int32)), .val (.int (2 : Int32)), .val (.int (f 2))] [(.int (f 2)), (.int (2 : Int32)), (.ref a3)])) _
          refine st45 _ ?_
          show Steps p.tables e below (T45.setTop (mkF m 37 #[.val (.ref a1), .val (.int p2), .val (.ref a3), .val (.int p4), .val (.int p5), .val (.ref a3), .val (.int (own_nf p5)), .val (.int (2 : Int32)), .val (.int (2 : Int32)), .val (.int (f 2))] [])) _
          refine XS.iload X45.here hx rfl (hb hby d1_37) rfl ?_
          refine XS.aloadN X45.here hx rfl (hb hby d1_39) rfl rfl ?_
          refine XS.iload X45.here hx rfl (hb hby d1_40) rfl ?_
          show Steps p.tables e below (T45.setTop (mkF m 42 #[.val (.ref a1), .val (.int p2), .val (.ref a3), .val (.int p4), .val (.int p5), .val (.ref a3), .val (.int (own_nf p5)), .val (.int (2 : Int32)), .val (.int (2 : Int32)), .val (.int (f 2))] [(.int (f 2)), (.ref a1), (.int (2 : Int32))])) _
          refine XS.bipush X45.here hx rfl (hb hby d1_42) ?_
          refine XS.iushr X45.here hx rfl (hb hby d1_44) rfl ?_
          show Steps p.tables e below (T45.setTop (mkF m 45 #[.val (.ref a1), .val (.int p2), .val (.ref a3), .val (.int p4), .val (.int p5), .val (.ref a3), .val (.int (own_nf p5)), .val (.int (2 : Int32)), .val (.int (2 : Int32)), .val (.int (f 2))] [(.int (((f 2).toUInt32 >>> ((6 : Int32) &&& 31).toUInt32).toInt32)), (.ref a1), (.int (2 : Int32))])) _
          refine XS.iloadN X45.here hx rfl (hb hby d1_45) rfl ?_
          refine XS.isub X45.here hx rfl (hb hby d1_46) rfl ?_
          show Steps p.tables e below (T45.setTop (mkF m 47 #[.val (.ref a1), .val (.int p2), .val (.ref a3), .val (.int p4), .val (.int p5), .val (.ref a3), .val (.int (own_nf p5)), .val (.int (2 : Int32)), .val (.int (2 : Int32)), .val (.int (f 2))] [(.int (own_j (f 2) p2)), (.ref a1), (.int (2 : Int32))])) _
          refine X45.laload hx (j := (own_j (f 2) p2)) (v := (.long (g (own_j (f 2) p2).toNatClampNeg))) (by rw [e45]; exact Ar46.1) (State.isArrayOf_alike hZ.alike Ar46.2.1) Ar46.2.2 hin46 hat46 (g := (mkF m 47 #[.val (.ref a1), .val (.int p2), .val (.ref a3), .val (.int p4), .val (.int p5), .val (.ref a3), .val (.int (own_nf p5)), .val (.int (2 : Int32)), .val (.int (2 : Int32)), .val (.int (f 2))] [(.int (own_j (f 2) p2)), (.ref a1), (.int (2 : Int32))])) rfl rfl (hb hby d1_47) _ ?_
          show Steps p.tables e below (T45.setTop (mkF m 48 #[.val (.ref a1), .val (.int p2), .val (.ref a3), .val (.int p4), .val (.int p5), .val (.ref a3), .val (.int (own_nf p5)), .val (.int (2 : Int32)), .val (.int (2 : Int32)), .val (.int (f 2))] [(.long (g (own_j (f 2) p2).toNatClampNeg)), (.int (2 : Int32))])) _
          refine XS.iload X45.here hx rfl (hb hby d1_48) rfl ?_
          refine XS.lushr X45.here hx rfl (hb hby d1_50) rfl ?_
          show Steps p.tables e below (T45.setTop (mkF m 51 #[.val (.ref a1), .val (.int p2), .val (.ref a3), .val (.int p4), .val (.int p5), .val (.ref a3), .val (.int (own_nf p5)), .val (.int (2 : Int32)), .val (.int (2 : Int32)), .val (.int (f 2))] [(.long (((g (own_j (f 2) p2).toNatClampNeg).toUInt64 >>> ((f 2) &&& 0x3f).toInt64.toUInt64).toInt64)), (.int (2 : Int32))])) _
          refine XS.l2i X45.here hx rfl (hb hby d1_51) rfl ?_
          refine XS.iconst X45.here hx rfl (hb hby d1_52) ?_
          refine XS.iand X45.here hx rfl (hb hby d1_53) rfl ?_
          show Steps p.tables e below (T45.setTop (mkF m 54 #[.val (.ref a1), .val (.int p2), .val (.ref a3), .val (.int p4), .val (.int p5), .val (.ref a3), .val (.int (own_nf p5)), .val (.int (2 : Int32)), .val (.int (2 : Int32)), .val (.int (f 2))] [(.int (((((g (own_j (f 2) p2).toNatClampNeg).toUInt64 >>> ((f 2) &&& 0x3f).toInt64.toUInt64).toInt64).toInt32) &&& (1 : Int32))), (.int (2 : Int32))])) _
          refine XS.iload X45.here hx rfl (hb hby d1_54) rfl ?_
          refine XS.ixor X45.here hx rfl (hb hby d1_56) rfl ?_
          show Steps p.tables e below (T45.setTop (mkF m 57 #[.val (.ref a1), .val (.int p2), .val (.ref a3), .val (.int p4), .val (.int p5), .val (.ref a3), .val (.int (own_nf p5)), .val (.int (2 : Int32)), .val (.int (2 : Int32)), .val (.int (f 2))] [(.int (own_x g p2 (own_nf p5) (f 2))), (.int (2 : Int32))])) _
          exact k
        rcases own_01 g p2 (own_nf p5) (f 2) (own_nf01 p5) with hb2 | hb2
        · obtain ⟨fs, hr, hrun, hended, hW, hsame⟩ := X45.leave (v := some (.int (2 : Int32))) (fun h => by rw [Bd.returns] at h; cases h)
          refine ⟨_, _, pre47 _ ?_, hrun, hended, _, _, rfl, ?_, ⟨_, rfl⟩, hW, hsame.mono (by decide) (by decide)⟩
          · show Steps p.tables e below (T45.setTop (mkF m 57 #[.val (.ref a1), .val (.int p2), .val (.ref a3), .val (.int p4), .val (.int p5), .val (.ref a3), .val (.int (own_nf p5)), .val (.int (2 : Int32)), .val (.int (2 : Int32)), .val (.int (f 2))] [(.int (own_x g p2 (own_nf p5) (f 2))), (.int (2 : Int32))])) _
            rw [hb2]
            show Steps p.tables e below (T45.setTop (mkF m 57 #[.val (.ref a1), .val (.int p2), .val (.ref a3), .val (.int p4), .val (.int p5), .val (.ref a3), .val (.int (own_nf p5)), .val (.int (2 : Int32)), .val (.int (2 : Int32)), .val (.int (f 2))] [(.int (0 : Int32)), (.int (2 : Int32))])) _
            refine XS.iadd X45.here hx rfl (hb hby d1_57) rfl ?_
            show Steps p.tables e below (T45.setTop (mkF m 58 #[.val (.ref a1), .val (.int p2), .val (.ref a3), .val (.int p4), .val (.int p5), .val (.ref a3), .val (.int (own_nf p5)), .val (.int (2 : Int32)), .val (.int (2 : Int32)), .val (.int (f 2))] [(.int (2 : Int32))])) _
            refine XS.istore X45.here hx rfl (hb hby d1_58) rfl (l' := #[.val (.ref a1), .val (.int p2), .val (.ref a3), .val (.int p4), .val (.int p5), .val (.ref a3), .val (.int (own_nf p5)), .val (.int (2 : Int32)), .val (.int (2 : Int32)), .val (.int (f 2))]) rfl ?_
            show Steps p.tables e below (T45.setTop (mkF m 60 #[.val (.ref a1), .val (.int p2), .val (.ref a3), .val (.int p4), .val (.int p5), .val (.ref a3), .val (.int (own_nf p5)), .val (.int (2 : Int32)), .val (.int (2 : Int32)), .val (.int (f 2))] [])) _
            refine XS.iinc X45.here hx rfl (hb hby d1_60) rfl (l' := #[.val (.ref a1), .val (.int p2), .val (.ref a3), .val (.int p4), .val (.int p5), .val (.ref a3), .val (.int (own_nf p5)), .val (.int (2 : Int32)), .val (.int (3 : Int32)), .val (.int (f 2))]) rfl ?_
            show Steps p.tables e below (T45.setTop (mkF m 63 #[.val (.ref a1), .val (.int p2), .val (.ref a3), .val (.int p4), .val (.int p5), .val (.ref a3), .val (.int (own_nf p5)), .val (.int (2 : Int32)), .val (.int (3 : Int32)), .val (.int (f 2))] [])) _
            refine XS.goto X45.here hx rfl (pc0 := 63) (pc' := 18) rfl (hb hby d1_63) (by decide) (by decide) ?_
            show Steps p.tables e below (T45.setTop (mkF m 18 #[.val (.ref a1), .val (.int p2), .val (.ref a3), .val (.int p4), .val (.int p5), .val (.ref a3), .val (.int (own_nf p5)), .val (.int (2 : Int32)), .val (.int (3 : Int32)), .val (.int (f 2))] [])) _
            refine XS.iload X45.here hx rfl (hb hby d1_18) rfl ?_
            refine XS.iloadN X45.here hx rfl (hb hby d1_20) rfl ?_
            refine XS.icmpYes X45.here hx rfl (pc0 := 21) (pc' := 66) rfl (hb hby d1_21) rfl (flt ((by rw [hk]; decide) : ¬ ((3 : Int32) < p4))).2.1 (by decide) (by decide) ?_
            show Steps p.tables e below (T45.setTop (mkF m 66 #[.val (.ref a1), .val (.int p2), .val (.ref a3), .val (.int p4), .val (.int p5), .val (.ref a3), .val (.int (own_nf p5)), .val (.int (2 : Int32)), .val (.int (3 : Int32)), .val (.int (f 2))] [])) _
            refine XS.iload X45.here hx rfl (hb hby d1_66) rfl ?_
            show Steps p.tables e below (T45.setTop (mkF m 68 #[.val (.ref a1), .val (.int p2), .val (.ref a3), .val (.int p4), .val (.int p5), .val (.ref a3), .val (.int (own_nf p5)), .val (.int (2 : Int32)), .val (.int (3 : Int32)), .val (.int (f 2))] [(.int (2 : Int32))])) _
            exact retI X45 hx Bd.returns (hb hby d1_68) hr
          · show Q_rm1a Z a1 p2 a3 p4 p5 f g h0 n0 _ T45.heap _
            rw [e45]
            have hs : (own_sel p4 (fun i => own_x g p2 (own_nf p5) (f i)) f) = [(f 0), (f 1)] := by
              show (if (0 : Int32) < p4 then (if own_x g p2 (own_nf p5) (f 0) = (0 : Int32) then [] else [f 0]) else []) ++ ((if (1 : Int32) < p4 then (if own_x g p2 (own_nf p5) (f 1) = (0 : Int32) then [] else [f 1]) else []) ++ (if (2 : Int32) < p4 then (if own_x g p2 (own_nf p5) (f 2) = (0 : Int32) then [] else [f 2]) else [])) = _
              rw [hb0, hb1, hb2, hk]; rfl
            have hV : ArF Z h45 a3 .char 3 (fun i => .int ((fun i => if i = 0 then (f 0) else if i = 1 then (f 1) else (f 2)) i)) := V45_v45.congr (fun i hi => by
              match i, hi with
              | 0, _ => exact congrArg Value.int (own_nar (hix 0 (by decide)).1)
              | 1, _ => exact congrArg Value.int (own_nar (hix 1 (by decide)).1)
              | 2, _ => exact congrArg Value.int (own_nar (hix 2 (by decide)).1))
            exact ⟨(fun i => if i = 0 then (f 0) else if i = 1 then (f 1) else (f 2)), by rw [hs]; rfl, N45, K45, hV, (by rw [hs]; intro i hi; have hj : i = 0 ∨ i = 1 := by { simp only [List.length_cons, List.length_nil] at hi; omega }; rcases hj with rfl | rfl <;> rfl)⟩
        · obtain ⟨fs, hr, hrun, hended, hW, hsame⟩ := X45.leave (v := some (.int (3 : Int32))) (fun h => by rw [Bd.returns] at h; cases h)
          refine ⟨_, _, pre47 _ ?_, hrun, hended, _, _, rfl, ?_, ⟨_, rfl⟩, hW, hsame.mono (by decide) (by decide)⟩
          · show Steps p.tables e below (T45.setTop (mkF m 57 #[.val (.ref a1), .val (.int p2), .val (.ref a3), .val (.int p4), .val (.int p5), .val (.ref a3), .val (.int (own_nf p5)), .val (.int (2 : Int32)), .val (.int (2 : Int32)), .val (.int (f 2))] [(.int (own_x g p2 (own_nf p5) (f 2))), (.int (2 : Int32))])) _
            rw [hb2]
            show Steps p.tables e below (T45.setTop (mkF m 57 #[.val (.ref a1), .val (.int p2), .val (.ref a3), .val (.int p4), .val (.int p5), .val (.ref a3), .val (.int (own_nf p5)), .val (.int (2 : Int32)), .val (.int (2 : Int32)), .val (.int (f 2))] [(.int (1 : Int32)), (.int (2 : Int32))])) _
            refine XS.iadd X45.here hx rfl (hb hby d1_57) rfl ?_
            show Steps p.tables e below (T45.setTop (mkF m 58 #[.val (.ref a1), .val (.int p2), .val (.ref a3), .val (.int p4), .val (.int p5), .val (.ref a3), .val (.int (own_nf p5)), .val (.int (2 : Int32)), .val (.int (2 : Int32)), .val (.int (f 2))] [(.int (3 : Int32))])) _
            refine XS.istore X45.here hx rfl (hb hby d1_58) rfl (l' := #[.val (.ref a1), .val (.int p2), .val (.ref a3), .val (.int p4), .val (.int p5), .val (.ref a3), .val (.int (own_nf p5)), .val (.int (3 : Int32)), .val (.int (2 : Int32)), .val (.int (f 2))]) rfl ?_
            show Steps p.tables e below (T45.setTop (mkF m 60 #[.val (.ref a1), .val (.int p2), .val (.ref a3), .val (.int p4), .val (.int p5), .val (.ref a3), .val (.int (own_nf p5)), .val (.int (3 : Int32)), .val (.int (2 : Int32)), .val (.int (f 2))] [])) _
            refine XS.iinc X45.here hx rfl (hb hby d1_60) rfl (l' := #[.val (.ref a1), .val (.int p2), .val (.ref a3), .val (.int p4), .val (.int p5), .val (.ref a3), .val (.int (own_nf p5)), .val (.int (3 : Int32)), .val (.int (3 : Int32)), .val (.int (f 2))]) rfl ?_
            show Steps p.tables e below (T45.setTop (mkF m 63 #[.val (.ref a1), .val (.int p2), .val (.ref a3), .val (.int p4), .val (.int p5), .val (.ref a3), .val (.int (own_nf p5)), .val (.int (3 : Int32)), .val (.int (3 : Int32)), .val (.int (f 2))] [])) _
            refine XS.goto X45.here hx rfl (pc0 := 63) (pc' := 18) rfl (hb hby d1_63) (by decide) (by decide) ?_
            show Steps p.tables e below (T45.setTop (mkF m 18 #[.val (.ref a1), .val (.int p2), .val (.ref a3), .val (.int p4), .val (.int p5), .val (.ref a3), .val (.int (own_nf p5)), .val (.int (3 : Int32)), .val (.int (3 : Int32)), .val (.int (f 2))] [])) _
            refine XS.iload X45.here hx rfl (hb hby d1_18) rfl ?_
            refine XS.iloadN X45.here hx rfl (hb hby d1_20) rfl ?_
            refine XS.icmpYes X45.here hx rfl (pc0 := 21) (pc' := 66) rfl (hb hby d1_21) rfl (flt ((by rw [hk]; decide) : ¬ ((3 : Int32) < p4))).2.1 (by decide) (by decide) ?_
            show Steps p.tables e below (T45.setTop (mkF m 66 #[.val (.ref a1), .val (.int p2), .val (.ref a3), .val (.int p4), .val (.int p5), .val (.ref a3), .val (.int (own_nf p5)), .val (.int (3 : Int32)), .val (.int (3 : Int32)), .val (.int (f 2))] [])) _
            refine XS.iload X45.here hx rfl (hb hby d1_66) rfl ?_
            show Steps p.tables e below (T45.setTop (mkF m 68 #[.val (.ref a1), .val (.int p2), .val (.ref a3), .val (.int p4), .val (.int p5), .val (.ref a3), .val (.int (own_nf p5)), .val (.int (3 : Int32)), .val (.int (3 : Int32)), .val (.int (f 2))] [(.int (3 : Int32))])) _
            exact retI X45 hx Bd.returns (hb hby d1_68) hr
          · show Q_rm1a Z a1 p2 a3 p4 p5 f g h0 n0 _ T45.heap _
            rw [e45]
            have hs : (own_sel p4 (fun i => own_x g p2 (own_nf p5) (f i)) f) = [(f 0), (f 1), (f 2)] := by
              show (if (0 : Int32) < p4 then (if own_x g p2 (own_nf p5) (f 0) = (0 : Int32) then [] else [f 0]) else []) ++ ((if (1 : Int32) < p4 then (if own_x g p2 (own_nf p5) (f 1) = (0 : Int32) then [] else [f 1]) else []) ++ (if (2 : Int32) < p4 then (if own_x g p2 (own_nf p5) (f 2) = (0 : Int32) then [] else [f 2]) else [])) = _
              rw [hb0, hb1, hb2, hk]; rfl
            have hV : ArF Z h45 a3 .char 3 (fun i => .int ((fun i => if i = 0 then (f 0) else if i = 1 then (f 1) else (f 2)) i)) := V45_v45.congr (fun i hi => by
              match i, hi with
              | 0, _ => exact congrArg Value.int (own_nar (hix 0 (by decide)).1)
              | 1, _ => exact congrArg Value.int (own_nar (hix 1 (by decide)).1)
              | 2, _ => exact congrArg Value.int (own_nar (hix 2 (by decide)).1))
            exact ⟨(fun i => if i = 0 then (f 0) else if i = 1 then (f 1) else (f 2)), by rw [hs]; rfl, N45, K45, hV, (by rw [hs]; intro i hi; have hj : i = 0 ∨ i = 1 ∨ i = 2 := by { simp only [List.length_cons, List.length_nil] at hi; omega }; rcases hj with rfl | rfl | rfl <;> rfl)⟩
theorem pn_rm1b : plainName "com/example/bitstrata/bitstrata/BitsetChunk" = true := by first | (simp [plainName, overriddenIn]; done) | decide +kernel
theorem ef_rm1b (m : MethodId) (x0 : Addr) (x1 : Int32) (x2 : Addr) (x3 : Int32) (x4 : Int32) (x5 : Addr) : entryFrame m #[(.ref x0), (.int x1), (.ref x2), (.int x3), (.int x4), (.ref x5)] 10 = mkF m 0 #[.val (.ref x0), .val (.int x1), .val (.ref x2), .val (.int x3), .val (.int x4), .val (.ref x5), .unset, .unset, .unset, .unset] [] := by first | (simp [entryFrame, mkF, argsToLocals, Value.category]; done) | rfl
def Q_rm1b (Z : State) (a1 : Addr) (p2 : Int32) (a3 : Addr) (p4 : Int32) (p5 : Int32) (a6 : Addr) (f : Nat → Int32) (g : Nat → Int64) (eo : Nat → Int32) (h0 : Heap) (n0 : Nat) (v : Option Value) (h : Heap) (L : List Loc) : Prop := ∃ F : Nat → Int32, v = some (.int (own_len (own_sel p4 (fun i => own_x g p2 (own_nf p5) (f i)) f))) ∧ Fr n0 L ∧ Keep h0 h [a6] ∧ ArF Z h a6 .char 3 (fun i => .int (F i)) ∧ own_fit (own_sel p4 (fun i => own_x g p2 (own_nf p5) (f i)) f) F
set_option maxRecDepth 65536 in
set_option maxHeartbeats 40000000 in
theorem rm1b (l : Launch) (Z : State) (a0 : Array Value) (hw : ∀ d ∈ tables_1, d.before a0 Z = true) (ws : List Jvm.Cond) (a1 : Addr) (p2 : Int32) (a3 : Addr) (p4 : Int32) (p5 : Int32) (a6 : Addr) (f : Nat → Int32) (g : Nat → Int64) (eo : Nat → Int32) (h0 : Heap) (n0 : Nat) (Z0 : n0 ≤ h0.size) (W0 : ArF Z h0 a1 .long 2 (fun i => .long (g i))) (V0 : ArF Z h0 a3 .char 3 (fun i => .int (f i))) (I0 : ArF Z h0 a6 .char 3 (fun i => .int (eo i))) (hix : own_in f p2) (hne : a1 ≠ a6) (hne3 : a3 ≠ a6) (ga : n0 ≤ a6) (hcnt : p4 = 0 ∨ p4 = 1 ∨ p4 = 2 ∨ p4 = 3) :
    MetFree l (⟨"com/example/bitstrata/bitstrata/BitsetChunk", "filter", "([JI[CIZ[C)I"⟩ : MethodName) (head1 (Jvm.Cond.code (⟨"com/example/bitstrata/bitstrata/BitsetChunk", "filter", "([JI[CIZ[C)I"⟩ : MethodName) prog_30_method_71_code 10 (some .int) :: ws) ({ frames := 0, cells := 0, slots := 0, locals := 0 } : Room)) (fun a U => a = #[(.ref a1), (.int p2), (.ref a3), (.int p4), (.int p5), (.ref a6)] ∧ Z.Warmed39 U.vm ∧ U.heap = h0) (fun _ _ _ _ _ => True) (fun _ U o U' => ∃ v L, o = .returned v ∧ Q_rm1b Z a1 p2 a3 p4 p5 a6 f g eo h0 n0 v U'.heap L ∧ FrameEnd U o U' L ({ frames := 0, cells := 0, slots := 0, locals := 0 } : Room).cells ({ frames := 0, cells := 0, slots := 0, locals := 0 } : Room).slots) := by
  refine MetFree.of_bodySF (plainFor_of_name pn_rm1b) hisR ?_
  intro p e s m args below meth c s₁ Bd hml0 hP hK
  obtain ⟨rfl, hZ, hh⟩ := hP
  have hx := Bd.exec
  have hby := Bd.bytes
  have hml : c.maxLocals = 10 := hml0
  have hown : s.vm.findClass "com/example/bitstrata/bitstrata/BitsetChunk" = some m.cls := findClass_of_methodNamed Bd.named
  have hnm := (name_of_methodNamed Bd.named Bd.method).1
  have X0 : Stand p l e ({ frames := 0, cells := 0, slots := 0, locals := 0 } : Room) s m #[(.ref a1), (.int p2), (.ref a3), (.int p4), (.int p5), (.ref a6)] below meth c s₁ [] 0 0 := Stand.of_body Bd
  have e0 : s₁.heap = h0 := by rw [← hh, Bd.state]; rfl
  have N0 := Fr.nil n0
  have pre0 : ∀ t, Steps p.tables e below (s₁.setTop (mkF m 0 #[.val (.ref a1), .val (.int p2), .val (.ref a3), .val (.int p4), .val (.int p5), .val (.ref a6), .unset, .unset, .unset, .unset] [])) t → Steps p.tables e below (s₁.setTop (entryFrame m #[(.ref a1), (.int p2), (.ref a3), (.int p4), (.int p5), (.ref a6)] 10)) t := fun t k => castTop (ef_rm1b m a1 p2 a3 p4 p5 a6) k
  have K0 := Keep.refl h0 [a6]
  have pre1 : ∀ t, Steps p.tables e below (s₁.setTop (mkF m 2 #[.val (.ref a1), .val (.int p2), .val (.ref a3), .val (.int p4), .val (.int p5), .val (.ref a6), .unset, .unset, .unset, .unset] [(.int p5)])) t → Steps p.tables e below (s₁.setTop (entryFrame m #[(.ref a1), (.int p2), (.ref a3), (.int p4), (.int p5), (.ref a6)] 10)) t := by
    intro t k
    refine pre0 t ?_
    show Steps p.tables e below (s₁.setTop (mkF m 0 #[.val (.ref a1), .val (.int p2), .val (.ref a3), .val (.int p4), .val (.int p5), .val (.ref a6), .unset, .unset, .unset, .unset] [])) _
    refine XS.iload X0.here hx rfl (hb hby d1_0) rfl ?_
    exact k
  have pre2 : ∀ t, Steps p.tables e below (s₁.setTop (mkF m 10 #[.val (.ref a1), .val (.int p2), .val (.ref a3), .val (.int p4), .val (.int p5), .val (.ref a6), .unset, .unset, .unset, .unset] [(.int (own_nf p5))])) t → Steps p.tables e below (s₁.setTop (entryFrame m #[(.ref a1), (.int p2), (.ref a3), (.int p4), (.int p5), (.ref a6)] 10)) t := by
    intro t k
    by_cases hd2 : p5 = (0 : Int32)
    · rw [show (own_nf p5) = (1 : Int32) from if_pos hd2] at k
      refine pre1 t ?_
      show Steps p.tables e below (s₁.setTop (mkF m 2 #[.val (.ref a1), .val (.int p2), .val (.ref a3), .val (.int p4), .val (.int p5), .val (.ref a6), .unset, .unset, .unset, .unset] [(.int p5)])) _
      refine XS.ifYes X0.here hx rfl (pc0 := 2) (pc' := 9) rfl (hb hby d1_2) rfl ((if0 _ _).trans (teq (hd2 : (p5 = (0 : Int32)))).1) (by decide) (by decide) ?_
      show Steps p.tables e below (s₁.setTop (mkF m 9 #[.val (.ref a1), .val (.int p2), .val (.ref a3), .val (.int p4), .val (.int p5), .val (.ref a6), .unset, .unset, .unset, .unset] [])) _
      refine XS.iconst X0.here hx rfl (hb hby d1_9) ?_
      exact k
    · rw [show (own_nf p5) = (0 : Int32) from if_neg hd2] at k
      refine pre1 t ?_
      show Steps p.tables e below (s₁.setTop (mkF m 2 #[.val (.ref a1), .val (.int p2), .val (.ref a3), .val (.int p4), .val (.int p5), .val (.ref a6), .unset, .unset, .unset, .unset] [(.int p5)])) _
      refine XS.ifNo X0.here hx rfl (hb hby d1_2) rfl ((if0 _ _).trans (feq (hd2 : ¬ (p5 = (0 : Int32)))).1) ?_
      show Steps p.tables e below (s₁.setTop (mkF m 5 #[.val (.ref a1), .val (.int p2), .val (.ref a3), .val (.int p4), .val (.int p5), .val (.ref a6), .unset, .unset, .unset, .unset] [])) _
      refine XS.iconst X0.here hx rfl (hb hby d1_5) ?_
      refine XS.goto X0.here hx rfl (pc0 := 6) (pc' := 10) rfl (hb hby d1_6) (by decide) (by decide) ?_
      exact k
  have pre3 : ∀ t, Steps p.tables e below (s₁.setTop (mkF m 12 #[.val (.ref a1), .val (.int p2), .val (.ref a3), .val (.int p4), .val (.int p5), .val (.ref a6), .val (.int (own_nf p5)), .unset, .unset, .unset] [])) t → Steps p.tables e below (s₁.setTop (entryFrame m #[(.ref a1), (.int p2), (.ref a3), (.int p4), (.int p5), (.ref a6)] 10)) t := by
    intro t k
    refine pre2 t ?_
    show Steps p.tables e below (s₁.setTop (mkF m 10 #[.val (.ref a1), .val (.int p2), .val (.ref a3), .val (.int p4), .val (.int p5), .val (.ref a6), .unset, .unset, .unset, .unset] [(.int (own_nf p5))])) _
    refine XS.istore X0.here hx rfl (hb hby d1_10) rfl (l' := #[.val (.ref a1), .val (.int p2), .val (.ref a3), .val (.int p4), .val (.int p5), .val (.ref a6), .val (.int (own_nf p5)), .unset, .unset, .unset]) rfl ?_
    exact k
  rcases hcnt with hk | hk | hk | hk
  · obtain ⟨fs, hr, hrun, hended, hW, hsame⟩ := X0.leave (v := some (.int (0 : Int32))) (fun h => by rw [Bd.returns] at h; cases h)
    refine ⟨_, _, pre3 _ ?_, hrun, hended, _, _, rfl, ?_, ⟨_, rfl⟩, hW, hsame.mono (by decide) (by decide)⟩
    · show Steps p.tables e below (s₁.setTop (mkF m 12 #[.val (.ref a1), .val (.int p2), .val (.ref a3), .val (.int p4), .val (.int p5), .val (.ref a6), .val (.int (own_nf p5)), .unset, .unset, .unset] [])) _
      refine XS.iconst X0.here hx rfl (hb hby d1_12) ?_
      refine XS.istore X0.here hx rfl (hb hby d1_13) rfl (l' := #[.val (.ref a1), .val (.int p2), .val (.ref a3), .val (.int p4), .val (.int p5), .val (.ref a6), .val (.int (own_nf p5)), .val (.int (0 : Int32)), .unset, .unset]) rfl ?_
      show Steps p.tables e below (s₁.setTop (mkF m 15 #[.val (.ref a1), .val (.int p2), .val (.ref a3), .val (.int p4), .val (.int p5), .val (.ref a6), .val (.int (own_nf p5)), .val (.int (0 : Int32)), .unset, .unset] [])) _
      refine XS.iconst X0.here hx rfl (hb hby d1_15) ?_
      refine XS.istore X0.here hx rfl (hb hby d1_16) rfl (l' := #[.val (.ref a1), .val (.int p2), .val (.ref a3), .val (.int p4), .val (.int p5), .val (.ref a6), .val (.int (own_nf p5)), .val (.int (0 : Int32)), .val (.int (0 : Int32)), .unset]) rfl ?_
      show Steps p.tables e below (s₁.setTop (mkF m 18 #[.val (.ref a1), .val (.int p2), .val (.ref a3), .val (.int p4), .val (.int p5), .val (.ref a6), .val (.int (own_nf p5)), .val (.int (0 : Int32)), .val (.int (0 : Int32)), .unset] [])) _
      refine XS.iload X0.here hx rfl (hb hby d1_18) rfl ?_
      refine XS.iloadN X0.here hx rfl (hb hby d1_20) rfl ?_
      refine XS.icmpYes X0.here hx rfl (pc0 := 21) (pc' := 66) rfl (hb hby d1_21) rfl (flt ((by rw [hk]; decide) : ¬ ((0 : Int32) < p4))).2.1 (by decide) (by decide) ?_
      show Steps p.tables e below (s₁.setTop (mkF m 66 #[.val (.ref a1), .val (.int p2), .val (.ref a3), .val (.int p4), .val (.int p5), .val (.ref a6), .val (.int (own_nf p5)), .val (.int (0 : Int32)), .val (.int (0 : Int32)), .unset] [])) _
      refine XS.iload X0.here hx rfl (hb hby d1_66) rfl ?_
      show Steps p.tables e below (s₁.setTop (mkF m 68 #[.val (.ref a1), .val (.int p2), .val (.ref a3), .val (.int p4), .val (.int p5), .val (.ref a6), .val (.int (own_nf p5)), .val (.int (0 : Int32)), .val (.int (0 : Int32)), .unset] [(.int (0 : Int32))])) _
      exact retI X0 hx Bd.returns (hb hby d1_68) hr
    · show Q_rm1b Z a1 p2 a3 p4 p5 a6 f g eo h0 n0 _ s₁.heap _
      rw [e0]
      have hs : (own_sel p4 (fun i => own_x g p2 (own_nf p5) (f i)) f) = [] := by
        show (if (0 : Int32) < p4 then (if own_x g p2 (own_nf p5) (f 0) = (0 : Int32) then [] else [f 0]) else []) ++ ((if (1 : Int32) < p4 then (if own_x g p2 (own_nf p5) (f 1) = (0 : Int32) then [] else [f 1]) else []) ++ (if (2 : Int32) < p4 then (if own_x g p2 (own_nf p5) (f 2) = (0 : Int32) then [] else [f 2]) else [])) = _
        rw [hk]; rfl
      have hV : ArF Z h0 a6 .char 3 (fun i => .int ((fun i => if i = 0 then (eo 0) else if i = 1 then (eo 1) else (eo 2)) i)) := I0.congr (fun i hi => by
        match i, hi with
        | 0, _ => rfl
        | 1, _ => rfl
        | 2, _ => rfl)
      exact ⟨(fun i => if i = 0 then (eo 0) else if i = 1 then (eo 1) else (eo 2)), by rw [hs]; rfl, N0, K0, hV, (by rw [hs]; intro i hi; exact absurd hi (Nat.not_lt_zero i))⟩
  · obtain ⟨cl4, Ar4, S4, H4⟩ := id V0
    have hin4 : ¬ ((0 : Int32) < 0 ∨ cl4.slots.size ≤ ((0 : Int32)).toNatClampNeg) := inA S4 (by decide) (by decide)
    have hat4 : cl4.slots[((0 : Int32)).toNatClampNeg]? = some (.int (f 0)) := ArF.at S4 H4 hin4 rfl
    obtain ⟨cl5, Ar5, S5, H5⟩ := id I0
    have hin5 : ¬ ((0 : Int32) < 0 ∨ cl5.slots.size ≤ ((0 : Int32)).toNatClampNeg) := inA S5 (by decide) (by decide)
    obtain ⟨T5, h5, X5, e5, W5, st5⟩ := stC X0 hx hZ e0 Ar5 (j := (0 : Int32)) hin5 (g := (mkF m 36 #[.val (.ref a1), .val (.int p2), .val (.ref a3), .val (.int p4), .val (.int p5), .val (.ref a6), .val (.int (own_nf p5)), .val (.int (0 : Int32)), .val (.int (0 : Int32)), .val (.int (f 0))] [(.int (f 0)), (.int (0 : Int32)), (.ref a6)])) rfl rfl (hb hby d1_36)
    have W0_v5 := W0.other W5 hne
    have V0_v5 := V0.other W5 hne3
    have Z5 : n0 ≤ h5.size := Nat.le_trans Z0 (Nat.le_of_eq W5.size.symm)
    have K5 := K0.wr W5 (Or.inl (by simp))
    have V5_v5 := ArF.set Ar5 S5 H5 W5 hin5
    have N5 := Fr.snoc X5 N0 ga
    obtain ⟨cl6, Ar6, S6, H6⟩ := id W0_v5
    have hin6 : ¬ ((own_j (f 0) p2) < 0 ∨ cl6.slots.size ≤ ((own_j (f 0) p2)).toNatClampNeg) := inA S6 (hix 0 (by decide)).2.1 (hix 0 (by decide)).2.2
    have hat6 : cl6.slots[((own_j (f 0) p2)).toNatClampNeg]? = some (.long (g (own_j (f 0) p2).toNatClampNeg)) := ArF.at S6 H6 hin6 rfl
    have pre7 : ∀ t, Steps p.tables e below (T5.setTop (mkF m 57 #[.val (.ref a1), .val (.int p2), .val (.ref a3), .val (.int p4), .val (.int p5), .val (.ref a6), .val (.int (own_nf p5)), .val (.int (0 : Int32)), .val (.int (0 : Int32)), .val (.int (f 0))] [(.int (own_x g p2 (own_nf p5) (f 0))), (.int (0 : Int32))])) t → Steps p.tables e below (s₁.setTop (entryFrame m #[(.ref a1), (.int p2), (.ref a3), (.int p4), (.int p5), (.ref a6)] 10)) t := by
      intro t k
      refine pre3 t ?_
      show Steps p.tables e below (s₁.setTop (mkF m 12 #[.val (.ref a1), .val (.int p2), .val (.ref a3), .val (.int p4), .val (.int p5), .val (.ref a6), .val (.int (own_nf p5)), .unset, .unset, .unset] [])) _
      refine XS.iconst X0.here hx rfl (hb hby d1_12) ?_
      refine XS.istore X0.here hx rfl (hb hby d1_13) rfl (l' := #[.val (.ref a1), .val (.int p2), .val (.ref a3), .val (.int p4), .val (.int p5), .val (.ref a6), .val (.int (own_nf p5)), .val (.int (0 : Int32)), .unset, .unset]) rfl ?_
      show Steps p.tables e below (s₁.setTop (mkF m 15 #[.val (.ref a1), .val (.int p2), .val (.ref a3), .val (.int p4), .val (.int p5), .val (.ref a6), .val (.int (own_nf p5)), .val (.int (0 : Int32)), .unset, .unset] [])) _
      refine XS.iconst X0.here hx rfl (hb hby d1_15) ?_
      refine XS.istore X0.here hx rfl (hb hby d1_16) rfl (l' := #[.val (.ref a1), .val (.int p2), .val (.ref a3), .val (.int p4), .val (.int p5), .val (.ref a6), .val (.int (own_nf p5)), .val (.int (0 : Int32)), .val (.int (0 : Int32)), .unset]) rfl ?_
      show Steps p.tables e below (s₁.setTop (mkF m 18 #[.val (.ref a1), .val (.int p2), .val (.ref a3), .val (.int p4), .val (.int p5), .val (.ref a6), .val (.int (own_nf p5)), .val (.int (0 : Int32)), .val (.int (0 : Int32)), .unset] [])) _
      refine XS.iload X0.here hx rfl (hb hby d1_18) rfl ?_
      refine XS.iloadN X0.here hx rfl (hb hby d1_20) rfl ?_
      refine XS.icmpNo X0.here hx rfl (hb hby d1_21) rfl (tlt ((by rw [hk]; decide) : ((0 : Int32) < p4))).2.1 ?_
      show Steps p.tables e below (s₁.setTop (mkF m 24 #[.val (.ref a1), .val (.int p2), .val (.ref a3), .val (.int p4), .val (.int p5), .val (.ref a6), .val (.int (own_nf p5)), .val (.int (0 : Int32)), .val (.int (0 : Int32)), .unset] [])) _
      refine XS.aloadN X0.here hx rfl (hb hby d1_24) rfl rfl ?_
      refine XS.iload X0.here hx rfl (hb hby d1_25) rfl ?_
      show Steps p.tables e below (s₁.setTop (mkF m 27 #[.val (.ref a1), .val (.int p2), .val (.ref a3), .val (.int p4), .val (.int p5), .val (.ref a6), .val (.int (own_nf p5)), .val (.int (0 : Int32)), .val (.int (0 : Int32)), .unset] [(.int (0 : Int32)), (.ref a3)])) _
      refine X0.caload hx (j := (0 : Int32)) (v := (.int (f 0))) (by rw [e0]; exact Ar4.1) (State.isArrayOf_alike hZ.alike Ar4.2.1) Ar4.2.2 hin4 hat4 (g := (mkF m 27 #[.val (.ref a1), .val (.int p2), .val (.ref a3), .val (.int p4), .val (.int p5), .val (.ref a6), .val (.int (own_nf p5)), .val (.int (0 : Int32)), .val (.int (0 : Int32)), .unset] [(.int (0 : Int32)), (.ref a3)])) rfl rfl (hb hby d1_27) _ ?_
      show Steps p.tables e below (s₁.setTop (mkF m 28 #[.val (.ref a1), .val (.int p2), .val (.ref a3), .val (.int p4), .val (.int p5), .val (.ref a6), .val (.int (own_nf p5)), .val (.int (0 : Int32)), .val (.int (0 : Int32)), .unset] [(.int (f 0))])) _
      refine XS.istore X0.here hx rfl (hb hby d1_28) rfl (l' := #[.val (.ref a1), .val (.int p2), .val (.ref a3), .val (.int p4), .val (.int p5), .val (.ref a6), .val (.int (own_nf p5)), .val (.int (0 : Int32)), .val (.int (0 : Int32)), .val (.int (f 0))]) rfl ?_
      show Steps p.tables e below (s₁.setTop (mkF m 30 #[.val (.ref a1), .val (.int p2), .val (.ref a3), .val (.int p4), .val (.int p5), .val (.ref a6), .val (.int (own_nf p5)), .val (.int (0 : Int32)), .val (.int (0 : Int32)), .val (.int (f 0))] [])) _
      refine XS.aload X0.here hx rfl (hb hby d1_30) rfl rfl ?_
      refine XS.iload X0.here hx rfl (hb hby d1_32) rfl ?_
      refine XS.iload X0.here hx rfl (hb hby d1_34) rfl ?_
      show Steps p.tables e below (s₁.setTop (mkF m 36 #[.val (.ref a1), .val (.int p2), .val (.ref a3), .val (.int p4), .val (.int p5), .val (.ref a6), .val (.int (own_nf p5)), .val (.int (0 : Int32)), .val (.int (0 : Int32)), .val (.int (f 0))] [(.int (f 0)), (.int (0 : Int32)), (.ref a6)])) _
      refine st5 _ ?_
      show Steps p.tables e below (T5.setTop (mkF m 37 #[.val (.ref a1), .val (.int p2), .val (.ref a3), .val (.int p4), .val (.int p5), .val (.ref a6), .val (.int (own_nf p5)), .val (.int (0 : Int32)), .val (.int (0 : Int32)), .val (.int (f 0))] [])) _
      refine XS.iload X5.here hx rfl (hb hby d1_37) rfl ?_
      refine XS.aloadN X5.here hx rfl (hb hby d1_39) rfl rfl ?_
      refine XS.iload X5.here hx rfl (hb hby d1_40) rfl ?_
      show Steps p.tables e below (T5.setTop (mkF m 42 #[.val (.ref a1), .val (.int p2), .val (.ref a3), .val (.int p4), .val (.int p5), .val (.ref a6), .val (.int (own_nf p5)), .val (.int (0 : Int32)), .val (.int (0 : Int32)), .val (.int (f 0))] [(.int (f 0)), (.ref a1), (.int (0 : Int32))])) _
      refine XS.bipush X5.here hx rfl (hb hby d1_42) ?_
      refine XS.iushr X5.here hx rfl (hb hby d1_44) rfl ?_
      show Steps p.tables e below (T5.setTop (mkF m 45 #[.val (.ref a1), .val (.int p2), .val (.ref a3), .val (.int p4), .val (.int p5), .val (.ref a6), .val (.int (own_nf p5)), .val (.int (0 : Int32)), .val (.int (0 : Int32)), .val (.int (f 0))] [(.int (((f 0).toUInt32 >>> ((6 : Int32) &&& 31).toUInt32).toInt32)), (.ref a1), (.int (0 : Int32))])) _
      refine XS.iloadN X5.here hx rfl (hb hby d1_45) rfl ?_
      refine XS.isub X5.here hx rfl (hb hby d1_46) rfl ?_
      show Steps p.tables e below (T5.setTop (mkF m 47 #[.val (.ref a1), .val (.int p2), .val (.ref a3), .val (.int p4), .val (.int p5), .val (.ref a6), .val (.int (own_nf p5)), .val (.int (0 : Int32)), .val (.int (0 : Int32)), .val (.int (f 0))] [(.int (own_j (f 0) p2)), (.ref a1), (.int (0 : Int32))])) _
      refine X5.laload hx (j := (own_j (f 0) p2)) (v := (.long (g (own_j (f 0) p2).toNatClampNeg))) (by rw [e5]; exact Ar6.1) (State.isArrayOf_alike hZ.alike Ar6.2.1) Ar6.2.2 hin6 hat6 (g := (mkF m 47 #[.val (.ref a1), .val (.int p2), .val (.ref a3), .val (.int p4), .val (.int p5), .val (.ref a6), .val (.int (own_nf p5)), .val (.int (0 : Int32)), .val (.int (0 : Int32)), .val (.int (f 0))] [(.int (own_j (f 0) p2)), (.ref a1), (.int (0 : Int32))])) rfl rfl (hb hby d1_47) _ ?_
      show Steps p.tables e below (T5.setTop (mkF m 48 #[.val (.ref a1), .val (.int p2), .val (.ref a3), .val (.int p4), .val (.int p5), .val (.ref a6), .val (.int (own_nf p5)), .val (.int (0 : Int32)), .val (.int (0 : Int32)), .val (.int (f 0))] [(.long (g (own_j (f 0) p2).toNatClampNeg)), (.int (0 : Int32))])) _
      refine XS.iload X5.here hx rfl (hb hby d1_48) rfl ?_
      refine XS.lushr X5.here hx rfl (hb hby d1_50) rfl ?_
      show Steps p.tables e below (T5.setTop (mkF m 51 #[.val (.ref a1), .val (.int p2), .val (.ref a3), .val (.int p4), .val (.int p5), .val (.ref a6), .val (.int (own_nf p5)), .val (.int (0 : Int32)), .val (.int (0 : Int32)), .val (.int (f 0))] [(.long (((g (own_j (f 0) p2).toNatClampNeg).toUInt64 >>> ((f 0) &&& 0x3f).toInt64.toUInt64).toInt64)), (.int (0 : Int32))])) _
      refine XS.l2i X5.here hx rfl (hb hby d1_51) rfl ?_
      refine XS.iconst X5.here hx rfl (hb hby d1_52) ?_
      refine XS.iand X5.here hx rfl (hb hby d1_53) rfl ?_
      show Steps p.tables e below (T5.setTop (mkF m 54 #[.val (.ref a1), .val (.int p2), .val (.ref a3), .val (.int p4), .val (.int p5), .val (.ref a6), .val (.int (own_nf p5)), .val (.int (0 : Int32)), .val (.int (0 : Int32)), .val (.int (f 0))] [(.int (((((g (own_j (f 0) p2).toNatClampNeg).toUInt64 >>> ((f 0) &&& 0x3f).toInt64.toUInt64).toInt64).toInt32) &&& (1 : Int32))), (.int (0 : Int32))])) _
      refine XS.iload X5.here hx rfl (hb hby d1_54) rfl ?_
      refine XS.ixor X5.here hx rfl (hb hby d1_56) rfl ?_
      show Steps p.tables e below (T5.setTop (mkF m 57 #[.val (.ref a1), .val (.int p2), .val (.ref a3), .val (.int p4), .val (.int p5), .val (.ref a6), .val (.int (own_nf p5)), .val (.int (0 : Int32)), .val (.int (0 : Int32)), .val (.int (f 0))] [(.int (own_x g p2 (own_nf p5) (f 0))), (.int (0 : Int32))])) _
      exact k
    rcases own_01 g p2 (own_nf p5) (f 0) (own_nf01 p5) with hb0 | hb0
    · obtain ⟨fs, hr, hrun, hended, hW, hsame⟩ := X5.leave (v := some (.int (0 : Int32))) (fun h => by rw [Bd.returns] at h; cases h)
      refine ⟨_, _, pre7 _ ?_, hrun, hended, _, _, rfl, ?_, ⟨_, rfl⟩, hW, hsame.mono (by decide) (by decide)⟩
      · show Steps p.tables e below (T5.setTop (mkF m 57 #[.val (.ref a1), .val (.int p2), .val (.ref a3), .val (.int p4), .val (.int p5), .val (.ref a6), .val (.int (own_nf p5)), .val (.int (0 : Int32)), .val (.int (0 : Int32)), .val (.int (f 0))] [(.int (own_x g p2 (own_nf p5) (f 0))), (.int (0 : Int32))])) _
        rw [hb0]
        show Steps p.tables e below (T5.setTop (mkF m 57 #[.val (.ref a1), .val (.int p2), .val (.ref a3), .val (.int p4), .val (.int p5), .val (.ref a6), .val (.int (own_nf p5)), .val (.int (0 : Int32)), .val (.int (0 : Int32)), .val (.int (f 0))] [(.int (0 : Int32)), (.int (0 : Int32))])) _
        refine XS.iadd X5.here hx rfl (hb hby d1_57) rfl ?_
        show Steps p.tables e below (T5.setTop (mkF m 58 #[.val (.ref a1), .val (.int p2), .val (.ref a3), .val (.int p4), .val (.int p5), .val (.ref a6), .val (.int (own_nf p5)), .val (.int (0 : Int32)), .val (.int (0 : Int32)), .val (.int (f 0))] [(.int (0 : Int32))])) _
        refine XS.istore X5.here hx rfl (hb hby d1_58) rfl (l' := #[.val (.ref a1), .val (.int p2), .val (.ref a3), .val (.int p4), .val (.int p5), .val (.ref a6), .val (.int (own_nf p5)), .val (.int (0 : Int32)), .val (.int (0 : Int32)), .val (.int (f 0))]) rfl ?_
        show Steps p.tables e below (T5.setTop (mkF m 60 #[.val (.ref a1), .val (.int p2), .val (.ref a3), .val (.int p4), .val (.int p5), .val (.ref a6), .val (.int (own_nf p5)), .val (.int (0 : Int32)), .val (.int (0 : Int32)), .val (.int (f 0))] [])) _
        refine XS.iinc X5.here hx rfl (hb hby d1_60) rfl (l' := #[.val (.ref a1), .val (.int p2), .val (.ref a3), .val (.int p4), .val (.int p5), .val (.ref a6), .val (.int (own_nf p5)), .val (.int (0 : Int32)), .val (.int (1 : Int32)), .val (.int (f 0))]) rfl ?_
        show Steps p.tables e below (T5.setTop (mkF m 63 #[.val (.ref a1), .val (.int p2), .val (.ref a3), .val (.int p4), .val (.int p5), .val (.ref a6), .val (.int (own_nf p5)), .val (.int (0 : Int32)), .val (.int (1 : Int32)), .val (.int (f 0))] [])) _
        refine XS.goto X5.here hx rfl (pc0 := 63) (pc' := 18) rfl (hb hby d1_63) (by decide) (by decide) ?_
        show Steps p.tables e below (T5.setTop (mkF m 18 #[.val (.ref a1), .val (.int p2), .val (.ref a3), .val (.int p4), .val (.int p5), .val (.ref a6), .val (.int (own_nf p5)), .val (.int (0 : Int32)), .val (.int (1 : Int32)), .val (.int (f 0))] [])) _
        refine XS.iload X5.here hx rfl (hb hby d1_18) rfl ?_
        refine XS.iloadN X5.here hx rfl (hb hby d1_20) rfl ?_
        refine XS.icmpYes X5.here hx rfl (pc0 := 21) (pc' := 66) rfl (hb hby d1_21) rfl (flt ((by rw [hk]; decide) : ¬ ((1 : Int32) < p4))).2.1 (by decide) (by decide) ?_
        show Steps p.tables e below (T5.setTop (mkF m 66 #[.val (.ref a1), .val (.int p2), .val (.ref a3), .val (.int p4), .val (.int p5), .val (.ref a6), .val (.int (own_nf p5)), .val (.int (0 : Int32)), .val (.int (1 : Int32)), .val (.int (f 0))] [])) _
        refine XS.iload X5.here hx rfl (hb hby d1_66) rfl ?_
        show Steps p.tables e below (T5.setTop (mkF m 68 #[.val (.ref a1), .val (.int p2), .val (.ref a3), .val (.int p4), .val (.int p5), .val (.ref a6), .val (.int (own_nf p5)), .val (.int (0 : Int32)), .val (.int (1 : Int32)), .val (.int (f 0))] [(.int (0 : Int32))])) _
        exact retI X5 hx Bd.returns (hb hby d1_68) hr
      · show Q_rm1b Z a1 p2 a3 p4 p5 a6 f g eo h0 n0 _ T5.heap _
        rw [e5]
        have hs : (own_sel p4 (fun i => own_x g p2 (own_nf p5) (f i)) f) = [] := by
          show (if (0 : Int32) < p4 then (if own_x g p2 (own_nf p5) (f 0) = (0 : Int32) then [] else [f 0]) else []) ++ ((if (1 : Int32) < p4 then (if own_x g p2 (own_nf p5) (f 1) = (0 : Int32) then [] else [f 1]) else []) ++ (if (2 : Int32) < p4 then (if own_x g p2 (own_nf p5) (f 2) = (0 : Int32) then [] else [f 2]) else [])) = _
          rw [hb0, hk]; rfl
        have hV : ArF Z h5 a6 .char 3 (fun i => .int ((fun i => if i = 0 then (f 0) else if i = 1 then (eo 1) else (eo 2)) i)) := V5_v5.congr (fun i hi => by
          match i, hi with
          | 0, _ => exact congrArg Value.int (own_nar (hix 0 (by decide)).1)
          | 1, _ => rfl
          | 2, _ => rfl)
        exact ⟨(fun i => if i = 0 then (f 0) else if i = 1 then (eo 1) else (eo 2)), by rw [hs]; rfl, N5, K5, hV, (by rw [hs]; intro i hi; exact absurd hi (Nat.not_lt_zero i))⟩
    · obtain ⟨fs, hr, hrun, hended, hW, hsame⟩ := X5.leave (v := some (.int (1 : Int32))) (fun h => by rw [Bd.returns] at h; cases h)
      refine ⟨_, _, pre7 _ ?_, hrun, hended, _, _, rfl, ?_, ⟨_, rfl⟩, hW, hsame.mono (by decide) (by decide)⟩
      · show Steps p.tables e below (T5.setTop (mkF m 57 #[.val (.ref a1), .val (.int p2), .val (.ref a3), .val (.int p4), .val (.int p5), .val (.ref a6), .val (.int (own_nf p5)), .val (.int (0 : Int32)), .val (.int (0 : Int32)), .val (.int (f 0))] [(.int (own_x g p2 (own_nf p5) (f 0))), (.int (0 : Int32))])) _
        rw [hb0]
        show Steps p.tables e below (T5.setTop (mkF m 57 #[.val (.ref a1), .val (.int p2), .val (.ref a3), .val (.int p4), .val (.int p5), .val (.ref a6), .val (.int (own_nf p5)), .val (.int (0 : Int32)), .val (.int (0 : Int32)), .val (.int (f 0))] [(.int (1 : Int32)), (.int (0 : Int32))])) _
        refine XS.iadd X5.here hx rfl (hb hby d1_57) rfl ?_
        show Steps p.tables e below (T5.setTop (mkF m 58 #[.val (.ref a1), .val (.int p2), .val (.ref a3), .val (.int p4), .val (.int p5), .val (.ref a6), .val (.int (own_nf p5)), .val (.int (0 : Int32)), .val (.int (0 : Int32)), .val (.int (f 0))] [(.int (1 : Int32))])) _
        refine XS.istore X5.here hx rfl (hb hby d1_58) rfl (l' := #[.val (.ref a1), .val (.int p2), .val (.ref a3), .val (.int p4), .val (.int p5), .val (.ref a6), .val (.int (own_nf p5)), .val (.int (1 : Int32)), .val (.int (0 : Int32)), .val (.int (f 0))]) rfl ?_
        show Steps p.tables e below (T5.setTop (mkF m 60 #[.val (.ref a1), .val (.int p2), .val (.ref a3), .val (.int p4), .val (.int p5), .val (.ref a6), .val (.int (own_nf p5)), .val (.int (1 : Int32)), .val (.int (0 : Int32)), .val (.int (f 0))] [])) _
        refine XS.iinc X5.here hx rfl (hb hby d1_60) rfl (l' := #[.val (.ref a1), .val (.int p2), .val (.ref a3), .val (.int p4), .val (.int p5), .val (.ref a6), .val (.int (own_nf p5)), .val (.int (1 : Int32)), .val (.int (1 : Int32)), .val (.int (f 0))]) rfl ?_
        show Steps p.tables e below (T5.setTop (mkF m 63 #[.val (.ref a1), .val (.int p2), .val (.ref a3), .val (.int p4), .val (.int p5), .val (.ref a6), .val (.int (own_nf p5)), .val (.int (1 : Int32)), .val (.int (1 : Int32)), .val (.int (f 0))] [])) _
        refine XS.goto X5.here hx rfl (pc0 := 63) (pc' := 18) rfl (hb hby d1_63) (by decide) (by decide) ?_
        show Steps p.tables e below (T5.setTop (mkF m 18 #[.val (.ref a1), .val (.int p2), .val (.ref a3), .val (.int p4), .val (.int p5), .val (.ref a6), .val (.int (own_nf p5)), .val (.int (1 : Int32)), .val (.int (1 : Int32)), .val (.int (f 0))] [])) _
        refine XS.iload X5.here hx rfl (hb hby d1_18) rfl ?_
        refine XS.iloadN X5.here hx rfl (hb hby d1_20) rfl ?_
        refine XS.icmpYes X5.here hx rfl (pc0 := 21) (pc' := 66) rfl (hb hby d1_21) rfl (flt ((by rw [hk]; decide) : ¬ ((1 : Int32) < p4))).2.1 (by decide) (by decide) ?_
        show Steps p.tables e below (T5.setTop (mkF m 66 #[.val (.ref a1), .val (.int p2), .val (.ref a3), .val (.int p4), .val (.int p5), .val (.ref a6), .val (.int (own_nf p5)), .val (.int (1 : Int32)), .val (.int (1 : Int32)), .val (.int (f 0))] [])) _
        refine XS.iload X5.here hx rfl (hb hby d1_66) rfl ?_
        show Steps p.tables e below (T5.setTop (mkF m 68 #[.val (.ref a1), .val (.int p2), .val (.ref a3), .val (.int p4), .val (.int p5), .val (.ref a6), .val (.int (own_nf p5)), .val (.int (1 : Int32)), .val (.int (1 : Int32)), .val (.int (f 0))] [(.int (1 : Int32))])) _
        exact retI X5 hx Bd.returns (hb hby d1_68) hr
      · show Q_rm1b Z a1 p2 a3 p4 p5 a6 f g eo h0 n0 _ T5.heap _
        rw [e5]
        have hs : (own_sel p4 (fun i => own_x g p2 (own_nf p5) (f i)) f) = [(f 0)] := by
          show (if (0 : Int32) < p4 then (if own_x g p2 (own_nf p5) (f 0) = (0 : Int32) then [] else [f 0]) else []) ++ ((if (1 : Int32) < p4 then (if own_x g p2 (own_nf p5) (f 1) = (0 : Int32) then [] else [f 1]) else []) ++ (if (2 : Int32) < p4 then (if own_x g p2 (own_nf p5) (f 2) = (0 : Int32) then [] else [f 2]) else [])) = _
          rw [hb0, hk]; rfl
        have hV : ArF Z h5 a6 .char 3 (fun i => .int ((fun i => if i = 0 then (f 0) else if i = 1 then (eo 1) else (eo 2)) i)) := V5_v5.congr (fun i hi => by
          match i, hi with
          | 0, _ => exact congrArg Value.int (own_nar (hix 0 (by decide)).1)
          | 1, _ => rfl
          | 2, _ => rfl)
        exact ⟨(fun i => if i = 0 then (f 0) else if i = 1 then (eo 1) else (eo 2)), by rw [hs]; rfl, N5, K5, hV, (by rw [hs]; intro i hi; have hj : i = 0 := by { simp only [List.length_cons, List.length_nil] at hi; omega }; rcases hj with rfl <;> rfl)⟩
  · obtain ⟨cl8, Ar8, S8, H8⟩ := id V0
    have hin8 : ¬ ((0 : Int32) < 0 ∨ cl8.slots.size ≤ ((0 : Int32)).toNatClampNeg) := inA S8 (by decide) (by decide)
    have hat8 : cl8.slots[((0 : Int32)).toNatClampNeg]? = some (.int (f 0)) := ArF.at S8 H8 hin8 rfl
    obtain ⟨cl9, Ar9, S9, H9⟩ := id I0
    have hin9 : ¬ ((0 : Int32) < 0 ∨ cl9.slots.size ≤ ((0 : Int32)).toNatClampNeg) := inA S9 (by decide) (by decide)
    obtain ⟨T9, h9, X9, e9, W9, st9⟩ := stC X0 hx hZ e0 Ar9 (j := (0 : Int32)) hin9 (g := (mkF m 36 #[.val (.ref a1), .val (.int p2), .val (.ref a3), .val (.int p4), .val (.int p5), .val (.ref a6), .val (.int (own_nf p5)), .val (.int (0 : Int32)), .val (.int (0 : Int32)), .val (.int (f 0))] [(.int (f 0)), (.int (0 : Int32)), (.ref a6)])) rfl rfl (hb hby d1_36)
    have W0_v9 := W0.other W9 hne
    have V0_v9 := V0.other W9 hne3
    have Z9 : n0 ≤ h9.size := Nat.le_trans Z0 (Nat.le_of_eq W9.size.symm)
    have K9 := K0.wr W9 (Or.inl (by simp))
    have V9_v9 := ArF.set Ar9 S9 H9 W9 hin9
    have N9 := Fr.snoc X9 N0 ga
    obtain ⟨cl10, Ar10, S10, H10⟩ := id W0_v9
    have hin10 : ¬ ((own_j (f 0) p2) < 0 ∨ cl10.slots.size ≤ ((own_j (f 0) p2)).toNatClampNeg) := inA S10 (hix 0 (by decide)).2.1 (hix 0 (by decide)).2.2
    have hat10 : cl10.slots[((own_j (f 0) p2)).toNatClampNeg]? = some (.long (g (own_j (f 0) p2).toNatClampNeg)) := ArF.at S10 H10 hin10 rfl
    have pre11 : ∀ t, Steps p.tables e below (T9.setTop (mkF m 57 #[.val (.ref a1), .val (.int p2), .val (.ref a3), .val (.int p4), .val (.int p5), .val (.ref a6), .val (.int (own_nf p5)), .val (.int (0 : Int32)), .val (.int (0 : Int32)), .val (.int (f 0))] [(.int (own_x g p2 (own_nf p5) (f 0))), (.int (0 : Int32))])) t → Steps p.tables e below (s₁.setTop (entryFrame m #[(.ref a1), (.int p2), (.ref a3), (.int p4), (.int p5), (.ref a6)] 10)) t := by
      intro t k
      refine pre3 t ?_
      show Steps p.tables e below (s₁.setTop (mkF m 12 #[.val (.ref a1), .val (.int p2), .val (.ref a3), .val (.int p4), .val (.int p5), .val (.ref a6), .val (.int (own_nf p5)), .unset, .unset, .unset] [])) _
      refine XS.iconst X0.here hx rfl (hb hby d1_12) ?_
      refine XS.istore X0.here hx rfl (hb hby d1_13) rfl (l' := #[.val (.ref a1), .val (.int p2), .val (.ref a3), .val (.int p4), .val (.int p5), .val (.ref a6), .val (.int (own_nf p5)), .val (.int (0 : Int32)), .unset, .unset]) rfl ?_
      show Steps p.tables e below (s₁.setTop (mkF m 15 #[.val (.ref a1), .val (.int p2), .val (.ref a3), .val (.int p4), .val (.int p5), .val (.ref a6), .val (.int (own_nf p5)), .val (.int (0 : Int32)), .unset, .unset] [])) _
      refine XS.iconst X0.here hx rfl (hb hby d1_15) ?_
      refine XS.istore X0.here hx rfl (hb hby d1_16) rfl (l' := #[.val (.ref a1), .val (.int p2), .val (.ref a3), .val (.int p4), .val (.int p5), .val (.ref a6), .val (.int (own_nf p5)), .val (.int (0 : Int32)), .val (.int (0 : Int32)), .unset]) rfl ?_
      show Steps p.tables e below (s₁.setTop (mkF m 18 #[.val (.ref a1), .val (.int p2), .val (.ref a3), .val (.int p4), .val (.int p5), .val (.ref a6), .val (.int (own_nf p5)), .val (.int (0 : Int32)), .val (.int (0 : Int32)), .unset] [])) _
      refine XS.iload X0.here hx rfl (hb hby d1_18) rfl ?_
      refine XS.iloadN X0.here hx rfl (hb hby d1_20) rfl ?_
      refine XS.icmpNo X0.here hx rfl (hb hby d1_21) rfl (tlt ((by rw [hk]; decide) : ((0 : Int32) < p4))).2.1 ?_
      show Steps p.tables e below (s₁.setTop (mkF m 24 #[.val (.ref a1), .val (.int p2), .val (.ref a3), .val (.int p4), .val (.int p5), .val (.ref a6), .val (.int (own_nf p5)), .val (.int (0 : Int32)), .val (.int (0 : Int32)), .unset] [])) _
      refine XS.aloadN X0.here hx rfl (hb hby d1_24) rfl rfl ?_
      refine XS.iload X0.here hx rfl (hb hby d1_25) rfl ?_
      show Steps p.tables e below (s₁.setTop (mkF m 27 #[.val (.ref a1), .val (.int p2), .val (.ref a3), .val (.int p4), .val (.int p5), .val (.ref a6), .val (.int (own_nf p5)), .val (.int (0 : Int32)), .val (.int (0 : Int32)), .unset] [(.int (0 : Int32)), (.ref a3)])) _
      refine X0.caload hx (j := (0 : Int32)) (v := (.int (f 0))) (by rw [e0]; exact Ar8.1) (State.isArrayOf_alike hZ.alike Ar8.2.1) Ar8.2.2 hin8 hat8 (g := (mkF m 27 #[.val (.ref a1), .val (.int p2), .val (.ref a3), .val (.int p4), .val (.int p5), .val (.ref a6), .val (.int (own_nf p5)), .val (.int (0 : Int32)), .val (.int (0 : Int32)), .unset] [(.int (0 : Int32)), (.ref a3)])) rfl rfl (hb hby d1_27) _ ?_
      show Steps p.tables e below (s₁.setTop (mkF m 28 #[.val (.ref a1), .val (.int p2), .val (.ref a3), .val (.int p4), .val (.int p5), .val (.ref a6), .val (.int (own_nf p5)), .val (.int (0 : Int32)), .val (.int (0 : Int32)), .unset] [(.int (f 0))])) _
      refine XS.istore X0.here hx rfl (hb hby d1_28) rfl (l' := #[.val (.ref a1), .val (.int p2), .val (.ref a3), .val (.int p4), .val (.int p5), .val (.ref a6), .val (.int (own_nf p5)), .val (.int (0 : Int32)), .val (.int (0 : Int32)), .val (.int (f 0))]) rfl ?_
      show Steps p.tables e below (s₁.setTop (mkF m 30 #[.val (.ref a1), .val (.int p2), .val (.ref a3), .val (.int p4), .val (.int p5), .val (.ref a6), .val (.int (own_nf p5)), .val (.int (0 : Int32)), .val (.int (0 : Int32)), .val (.int (f 0))] [])) _
      refine XS.aload X0.here hx rfl (hb hby d1_30) rfl rfl ?_
      refine XS.iload X0.here hx rfl (hb hby d1_32) rfl ?_
      refine XS.iload X0.here hx rfl (hb hby d1_34) rfl ?_
      show Steps p.tables e below (s₁.setTop (mkF m 36 #[.val (.ref a1), .val (.int p2), .val (.ref a3), .val (.int p4), .val (.int p5), .val (.ref a6), .val (.int (own_nf p5)), .val (.int (0 : Int32)), .val (.int (0 : Int32)), .val (.int (f 0))] [(.int (f 0)), (.int (0 : Int32)), (.ref a6)])) _
      refine st9 _ ?_
      show Steps p.tables e below (T9.setTop (mkF m 37 #[.val (.ref a1), .val (.int p2), .val (.ref a3), .val (.int p4), .val (.int p5), .val (.ref a6), .val (.int (own_nf p5)), .val (.int (0 : Int32)), .val (.int (0 : Int32)), .val (.int (f 0))] [])) _
      refine XS.iload X9.here hx rfl (hb hby d1_37) rfl ?_
      refine XS.aloadN X9.here hx rfl (hb hby d1_39) rfl rfl ?_
      refine XS.iload X9.here hx rfl (hb hby d1_40) rfl ?_
      show Steps p.tables e below (T9.setTop (mkF m 42 #[.val (.ref a1), .val (.int p2), .val (.ref a3), .val (.int p4), .val (.int p5), .val (.ref a6), .val (.int (own_nf p5)), .val (.int (0 : Int32)), .val (.int (0 : Int32)), .val (.int (f 0))] [(.int (f 0)), (.ref a1), (.int (0 : Int32))])) _
      refine XS.bipush X9.here hx rfl (hb hby d1_42) ?_
      refine XS.iushr X9.here hx rfl (hb hby d1_44) rfl ?_
      show Steps p.tables e below (T9.setTop (mkF m 45 #[.val (.ref a1), .val (.int p2), .val (.ref a3), .val (.int p4), .val (.int p5), .val (.ref a6), .val (.int (own_nf p5)), .val (.int (0 : Int32)), .val (.int (0 : Int32)), .val (.int (f 0))] [(.int (((f 0).toUInt32 >>> ((6 : Int32) &&& 31).toUInt32).toInt32)), (.ref a1), (.int (0 : Int32))])) _
      refine XS.iloadN X9.here hx rfl (hb hby d1_45) rfl ?_
      refine XS.isub X9.here hx rfl (hb hby d1_46) rfl ?_
      show Steps p.tables e below (T9.setTop (mkF m 47 #[.val (.ref a1), .val (.int p2), .val (.ref a3), .val (.int p4), .val (.int p5), .val (.ref a6), .val (.int (own_nf p5)), .val (.int (0 : Int32)), .val (.int (0 : Int32)), .val (.int (f 0))] [(.int (own_j (f 0) p2)), (.ref a1), (.int (0 : Int32))])) _
      refine X9.laload hx (j := (own_j (f 0) p2)) (v := (.long (g (own_j (f 0) p2).toNatClampNeg))) (by rw [e9]; exact Ar10.1) (State.isArrayOf_alike hZ.alike Ar10.2.1) Ar10.2.2 hin10 hat10 (g := (mkF m 47 #[.val (.ref a1), .val (.int p2), .val (.ref a3), .val (.int p4), .val (.int p5), .val (.ref a6), .val (.int (own_nf p5)), .val (.int (0 : Int32)), .val (.int (0 : Int32)), .val (.int (f 0))] [(.int (own_j (f 0) p2)), (.ref a1), (.int (0 : Int32))])) rfl rfl (hb hby d1_47) _ ?_
      show Steps p.tables e below (T9.setTop (mkF m 48 #[.val (.ref a1), .val (.int p2), .val (.ref a3), .val (.int p4), .val (.int p5), .val (.ref a6), .val (.int (own_nf p5)), .val (.int (0 : Int32)), .val (.int (0 : Int32)), .val (.int (f 0))] [(.long (g (own_j (f 0) p2).toNatClampNeg)), (.int (0 : Int32))])) _
      refine XS.iload X9.here hx rfl (hb hby d1_48) rfl ?_
      refine XS.lushr X9.here hx rfl (hb hby d1_50) rfl ?_
      show Steps p.tables e below (T9.setTop (mkF m 51 #[.val (.ref a1), .val (.int p2), .val (.ref a3), .val (.int p4), .val (.int p5), .val (.ref a6), .val (.int (own_nf p5)), .val (.int (0 : Int32)), .val (.int (0 : Int32)), .val (.int (f 0))] [(.long (((g (own_j (f 0) p2).toNatClampNeg).toUInt64 >>> ((f 0) &&& 0x3f).toInt64.toUInt64).toInt64)), (.int (0 : Int32))])) _
      refine XS.l2i X9.here hx rfl (hb hby d1_51) rfl ?_
      refine XS.iconst X9.here hx rfl (hb hby d1_52) ?_
      refine XS.iand X9.here hx rfl (hb hby d1_53) rfl ?_
      show Steps p.tables e below (T9.setTop (mkF m 54 #[.val (.ref a1), .val (.int p2), .val (.ref a3), .val (.int p4), .val (.int p5), .val (.ref a6), .val (.int (own_nf p5)), .val (.int (0 : Int32)), .val (.int (0 : Int32)), .val (.int (f 0))] [(.int (((((g (own_j (f 0) p2).toNatClampNeg).toUInt64 >>> ((f 0) &&& 0x3f).toInt64.toUInt64).toInt64).toInt32) &&& (1 : Int32))), (.int (0 : Int32))])) _
      refine XS.iload X9.here hx rfl (hb hby d1_54) rfl ?_
      refine XS.ixor X9.here hx rfl (hb hby d1_56) rfl ?_
      show Steps p.tables e below (T9.setTop (mkF m 57 #[.val (.ref a1), .val (.int p2), .val (.ref a3), .val (.int p4), .val (.int p5), .val (.ref a6), .val (.int (own_nf p5)), .val (.int (0 : Int32)), .val (.int (0 : Int32)), .val (.int (f 0))] [(.int (own_x g p2 (own_nf p5) (f 0))), (.int (0 : Int32))])) _
      exact k
    rcases own_01 g p2 (own_nf p5) (f 0) (own_nf01 p5) with hb0 | hb0
    · obtain ⟨cl12, Ar12, S12, H12⟩ := id V0_v9
      have hin12 : ¬ ((1 : Int32) < 0 ∨ cl12.slots.size ≤ ((1 : Int32)).toNatClampNeg) := inA S12 (by decide) (by decide)
      have hat12 : cl12.slots[((1 : Int32)).toNatClampNeg]? = some (.int (f 1)) := ArF.at S12 H12 hin12 rfl
      obtain ⟨cl13, Ar13, S13, H13⟩ := id V9_v9
      have hin13 : ¬ ((0 : Int32) < 0 ∨ cl13.slots.size ≤ ((0 : Int32)).toNatClampNeg) := inA S13 (by decide) (by decide)
      obtain ⟨T13, h13, X13, e13, W13, st13⟩ := stC X9 hx hZ e9 Ar13 (j := (0 : Int32)) hin13 (g := (mkF m 36 #[.val (.ref a1), .val (.int p2), .val (.ref a3), .val (.int p4), .val (.int p5), .val (.ref a6), .val (.int (own_nf p5)), .val (.int (0 : Int32)), .val (.int (1 : Int32)), .val (.int (f 1))] [(.int (f 1)), (.int (0 : Int32)), (.ref a6)])) rfl rfl (hb hby d1_36)
      have W0_v13 := W0_v9.other W13 hne
      have V0_v13 := V0_v9.other W13 hne3
      have Z13 : n0 ≤ h13.size := Nat.le_trans Z9 (Nat.le_of_eq W13.size.symm)
      have K13 := K9.wr W13 (Or.inl (by simp))
      have V13_v13 := ArF.set Ar13 S13 H13 W13 hin13
      have N13 := Fr.snoc X13 N9 ga
      obtain ⟨cl14, Ar14, S14, H14⟩ := id W0_v13
      have hin14 : ¬ ((own_j (f 1) p2) < 0 ∨ cl14.slots.size ≤ ((own_j (f 1) p2)).toNatClampNeg) := inA S14 (hix 1 (by decide)).2.1 (hix 1 (by decide)).2.2
      have hat14 : cl14.slots[((own_j (f 1) p2)).toNatClampNeg]? = some (.long (g (own_j (f 1) p2).toNatClampNeg)) := ArF.at S14 H14 hin14 rfl
      have pre15 : ∀ t, Steps p.tables e below (T13.setTop (mkF m 57 #[.val (.ref a1), .val (.int p2), .val (.ref a3), .val (.int p4), .val (.int p5), .val (.ref a6), .val (.int (own_nf p5)), .val (.int (0 : Int32)), .val (.int (1 : Int32)), .val (.int (f 1))] [(.int (own_x g p2 (own_nf p5) (f 1))), (.int (0 : Int32))])) t → Steps p.tables e below (s₁.setTop (entryFrame m #[(.ref a1), (.int p2), (.ref a3), (.int p4), (.int p5), (.ref a6)] 10)) t := by
        intro t k
        refine pre11 t ?_
        show Steps p.tables e below (T9.setTop (mkF m 57 #[.val (.ref a1), .val (.int p2), .val (.ref a3), .val (.int p4), .val (.int p5), .val (.ref a6), .val (.int (own_nf p5)), .val (.int (0 : Int32)), .val (.int (0 : Int32)), .val (.int (f 0))] [(.int (own_x g p2 (own_nf p5) (f 0))), (.int (0 : Int32))])) _
        rw [hb0]
        show Steps p.tables e below (T9.setTop (mkF m 57 #[.val (.ref a1), .val (.int p2), .val (.ref a3), .val (.int p4), .val (.int p5), .val (.ref a6), .val (.int (own_nf p5)), .val (.int (0 : Int32)), .val (.int (0 : Int32)), .val (.int (f 0))] [(.int (0 : Int32)), (.int (0 : Int32))])) _
        refine XS.iadd X9.here hx rfl (hb hby d1_57) rfl ?_
        show Steps p.tables e below (T9.setTop (mkF m 58 #[.val (.ref a1), .val (.int p2), .val (.ref a3), .val (.int p4), .val (.int p5), .val (.ref a6), .val (.int (own_nf p5)), .val (.int (0 : Int32)), .val (.int (0 : Int32)), .val (.int (f 0))] [(.int (0 : Int32))])) _
        refine XS.istore X9.here hx rfl (hb hby d1_58) rfl (l' := #[.val (.ref a1), .val (.int p2), .val (.ref a3), .val (.int p4), .val (.int p5), .val (.ref a6), .val (.int (own_nf p5)), .val (.int (0 : Int32)), .val (.int (0 : Int32)), .val (.int (f 0))]) rfl ?_
        show Steps p.tables e below (T9.setTop (mkF m 60 #[.val (.ref a1), .val (.int p2), .val (.ref a3), .val (.int p4), .val (.int p5), .val (.ref a6), .val (.int (own_nf p5)), .val (.int (0 : Int32)), .val (.int (0 : Int32)), .val (.int (f 0))] [])) _
        refine XS.iinc X9.here hx rfl (hb hby d1_60) rfl (l' := #[.val (.ref a1), .val (.int p2), .val (.ref a3), .val (.int p4), .val (.int p5), .val (.ref a6), .val (.int (own_nf p5)), .val (.int (0 : Int32)), .val (.int (1 : Int32)), .val (.int (f 0))]) rfl ?_
        show Steps p.tables e below (T9.setTop (mkF m 63 #[.val (.ref a1), .val (.int p2), .val (.ref a3), .val (.int p4), .val (.int p5), .val (.ref a6), .val (.int (own_nf p5)), .val (.int (0 : Int32)), .val (.int (1 : Int32)), .val (.int (f 0))] [])) _
        refine XS.goto X9.here hx rfl (pc0 := 63) (pc' := 18) rfl (hb hby d1_63) (by decide) (by decide) ?_
        show Steps p.tables e below (T9.setTop (mkF m 18 #[.val (.ref a1), .val (.int p2), .val (.ref a3), .val (.int p4), .val (.int p5), .val (.ref a6), .val (.int (own_nf p5)), .val (.int (0 : Int32)), .val (.int (1 : Int32)), .val (.int (f 0))] [])) _
        refine XS.iload X9.here hx rfl (hb hby d1_18) rfl ?_
        refine XS.iloadN X9.here hx rfl (hb hby d1_20) rfl ?_
        refine XS.icmpNo X9.here hx rfl (hb hby d1_21) rfl (tlt ((by rw [hk]; decide) : ((1 : Int32) < p4))).2.1 ?_
        show Steps p.tables e below (T9.setTop (mkF m 24 #[.val (.ref a1), .val (.int p2), .val (.ref a3), .val (.int p4), .val (.int p5), .val (.ref a6), .val (.int (own_nf p5)), .val (.int (0 : Int32)), .val (.int (1 : Int32)), .val (.int (f 0))] [])) _
        refine XS.aloadN X9.here hx rfl (hb hby d1_24) rfl rfl ?_
        refine XS.iload X9.here hx rfl (hb hby d1_25) rfl ?_
        show Steps p.tables e below (T9.setTop (mkF m 27 #[.val (.ref a1), .val (.int p2), .val (.ref a3), .val (.int p4), .val (.int p5), .val (.ref a6), .val (.int (own_nf p5)), .val (.int (0 : Int32)), .val (.int (1 : Int32)), .val (.int (f 0))] [(.int (1 : Int32)), (.ref a3)])) _
        refine X9.caload hx (j := (1 : Int32)) (v := (.int (f 1))) (by rw [e9]; exact Ar12.1) (State.isArrayOf_alike hZ.alike Ar12.2.1) Ar12.2.2 hin12 hat12 (g := (mkF m 27 #[.val (.ref a1), .val (.int p2), .val (.ref a3), .val (.int p4), .val (.int p5), .val (.ref a6), .val (.int (own_nf p5)), .val (.int (0 : Int32)), .val (.int (1 : Int32)), .val (.int (f 0))] [(.int (1 : Int32)), (.ref a3)])) rfl rfl (hb hby d1_27) _ ?_
        show Steps p.tables e below (T9.setTop (mkF m 28 #[.val (.ref a1), .val (.int p2), .val (.ref a3), .val (.int p4), .val (.int p5), .val (.ref a6), .val (.int (own_nf p5)), .val (.int (0 : Int32)), .val (.int (1 : Int32)), .val (.int (f 0))] [(.int (f 1))])) _
        refine XS.istore X9.here hx rfl (hb hby d1_28) rfl (l' := #[.val (.ref a1), .val (.int p2), .val (.ref a3), .val (.int p4), .val (.int p5), .val (.ref a6), .val (.int (own_nf p5)), .val (.int (0 : Int32)), .val (.int (1 : Int32)), .val (.int (f 1))]) rfl ?_
        show Steps p.tables e below (T9.setTop (mkF m 30 #[.val (.ref a1), .val (.int p2), .val (.ref a3), .val (.int p4), .val (.int p5), .val (.ref a6), .val (.int (own_nf p5)), .val (.int (0 : Int32)), .val (.int (1 : Int32)), .val (.int (f 1))] [])) _
        refine XS.aload X9.here hx rfl (hb hby d1_30) rfl rfl ?_
        refine XS.iload X9.here hx rfl (hb hby d1_32) rfl ?_
        refine XS.iload X9.here hx rfl (hb hby d1_34) rfl ?_
        show Steps p.tables e below (T9.setTop (mkF m 36 #[.val (.ref a1), .val (.int p2), .val (.ref a3), .val (.int p4), .val (.int p5), .val (.ref a6), .val (.int (own_nf p5)), .val (.int (0 : Int32)), .val (.int (1 : Int32)), .val (.int (f 1))] [(.int (f 1)), (.int (0 : Int32)), (.ref a6)])) _
        refine st13 _ ?_
        show Steps p.tables e below (T13.setTop (mkF m 37 #[.val (.ref a1), .val (.int p2), .val (.ref a3), .val (.int p4), .val (.int p5), .val (.ref a6), .val (.int (own_nf p5)), .val (.int (0 : Int32)), .val (.int (1 : Int32)), .val (.int (f 1))] [])) _
        refine XS.iload X13.here hx rfl (hb hby d1_37) rfl ?_
        refine XS.aloadN X13.here hx rfl (hb hby d1_39) rfl rfl ?_
        refine XS.iload X13.here hx rfl (hb hby d1_40) rfl ?_
        show Steps p.tables e below (T13.setTop (mkF m 42 #[.val (.ref a1), .val (.int p2), .val (.ref a3), .val (.int p4), .val (.int p5), .val (.ref a6), .val (.int (own_nf p5)), .val (.int (0 : Int32)), .val (.int (1 : Int32)), .val (.int (f 1))] [(.int (f 1)), (.ref a1), (.int (0 : Int32))])) _
        refine XS.bipush X13.here hx rfl (hb hby d1_42) ?_
        refine XS.iushr X13.here hx rfl (hb hby d1_44) rfl ?_
        show Steps p.tables e below (T13.setTop (mkF m 45 #[.val (.ref a1), .val (.int p2), .val (.ref a3), .val (.int p4), .val (.int p5), .val (.ref a6), .val (.int (own_nf p5)), .val (.int (0 : Int32)), .val (.int (1 : Int32)), .val (.int (f 1))] [(.int (((f 1).toUInt32 >>> ((6 : Int32) &&& 31).toUInt32).toInt32)), (.ref a1), (.int (0 : Int32))])) _
        refine XS.iloadN X13.here hx rfl (hb hby d1_45) rfl ?_
        refine XS.isub X13.here hx rfl (hb hby d1_46) rfl ?_
        show Steps p.tables e below (T13.setTop (mkF m 47 #[.val (.ref a1), .val (.int p2), .val (.ref a3), .val (.int p4), .val (.int p5), .val (.ref a6), .val (.int (own_nf p5)), .val (.int (0 : Int32)), .val (.int (1 : Int32)), .val (.int (f 1))] [(.int (own_j (f 1) p2)), (.ref a1), (.int (0 : Int32))])) _
        refine X13.laload hx (j := (own_j (f 1) p2)) (v := (.long (g (own_j (f 1) p2).toNatClampNeg))) (by rw [e13]; exact Ar14.1) (State.isArrayOf_alike hZ.alike Ar14.2.1) Ar14.2.2 hin14 hat14 (g := (mkF m 47 #[.val (.ref a1), .val (.int p2), .val (.ref a3), .val (.int p4), .val (.int p5), .val (.ref a6), .val (.int (own_nf p5)), .val (.int (0 : Int32)), .val (.int (1 : Int32)), .val (.int (f 1))] [(.int (own_j (f 1) p2)), (.ref a1), (.int (0 : Int32))])) rfl rfl (hb hby d1_47) _ ?_
        show Steps p.tables e below (T13.setTop (mkF m 48 #[.val (.ref a1), .val (.int p2), .val (.ref a3), .val (.int p4), .val (.int p5), .val (.ref a6), .val (.int (own_nf p5)), .val (.int (0 : Int32)), .val (.int (1 : Int32)), .val (.int (f 1))] [(.long (g (own_j (f 1) p2).toNatClampNeg)), (.int (0 : Int32))])) _
        refine XS.iload X13.here hx rfl (hb hby d1_48) rfl ?_
        refine XS.lushr X13.here hx rfl (hb hby d1_50) rfl ?_
        show Steps p.tables e below (T13.setTop (mkF m 51 #[.val (.ref a1), .val (.int p2), .val (.ref a3), .val (.int p4), .val (.int p5), .val (.ref a6), .val (.int (own_nf p5)), .val (.int (0 : Int32)), .val (.int (1 : Int32)), .val (.int (f 1))] [(.long (((g (own_j (f 1) p2).toNatClampNeg).toUInt64 >>> ((f 1) &&& 0x3f).toInt64.toUInt64).toInt64)), (.int (0 : Int32))])) _
        refine XS.l2i X13.here hx rfl (hb hby d1_51) rfl ?_
        refine XS.iconst X13.here hx rfl (hb hby d1_52) ?_
        refine XS.iand X13.here hx rfl (hb hby d1_53) rfl ?_
        show Steps p.tables e below (T13.setTop (mkF m 54 #[.val (.ref a1), .val (.int p2), .val (.ref a3), .val (.int p4), .val (.int p5), .val (.ref a6), .val (.int (own_nf p5)), .val (.int (0 : Int32)), .val (.int (1 : Int32)), .val (.int (f 1))] [(.int (((((g (own_j (f 1) p2).toNatClampNeg).toUInt64 >>> ((f 1) &&& 0x3f).toInt64.toUInt64).toInt64).toInt32) &&& (1 : Int32))), (.int (0 : Int32))])) _
        refine XS.iload X13.here hx rfl (hb hby d1_54) rfl ?_
        refine XS.ixor X13.here hx rfl (hb hby d1_56) rfl ?_
        show Steps p.tables e below (T13.setTop (mkF m 57 #[.val (.ref a1), .val (.int p2), .val (.ref a3), .val (.int p4), .val (.int p5), .val (.ref a6), .val (.int (own_nf p5)), .val (.int (0 : Int32)), .val (.int (1 : Int32)), .val (.int (f 1))] [(.int (own_x g p2 (own_nf p5) (f 1))), (.int (0 : Int32))])) _
        exact k
      rcases own_01 g p2 (own_nf p5) (f 1) (own_nf01 p5) with hb1 | hb1
      · obtain ⟨fs, hr, hrun, hended, hW, hsame⟩ := X13.leave (v := some (.int (0 : Int32))) (fun h => by rw [Bd.returns] at h; cases h)
        refine ⟨_, _, pre15 _ ?_, hrun, hended, _, _, rfl, ?_, ⟨_, rfl⟩, hW, hsame.mono (by decide) (by decide)⟩
        · show Steps p.tables e below (T13.setTop (mkF m 57 #[.val (.ref a1), .val (.int p2), .val (.ref a3), .val (.int p4), .val (.int p5), .val (.ref a6), .val (.int (own_nf p5)), .val (.int (0 : Int32)), .val (.int (1 : Int32)), .val (.int (f 1))] [(.int (own_x g p2 (own_nf p5) (f 1))), (.int (0 : Int32))])) _
          rw [hb1]
          show Steps p.tables e below (T13.setTop (mkF m 57 #[.val (.ref a1), .val (.int p2), .val (.ref a3), .val (.int p4), .val (.int p5), .val (.ref a6), .val (.int (own_nf p5)), .val (.int (0 : Int32)), .val (.int (1 : Int32)), .val (.int (f 1))] [(.int (0 : Int32)), (.int (0 : Int32))])) _
          refine XS.iadd X13.here hx rfl (hb hby d1_57) rfl ?_
          show Steps p.tables e below (T13.setTop (mkF m 58 #[.val (.ref a1), .val (.int p2), .val (.ref a3), .val (.int p4), .val (.int p5), .val (.ref a6), .val (.int (own_nf p5)), .val (.int (0 : Int32)), .val (.int (1 : Int32)), .val (.int (f 1))] [(.int (0 : Int32))])) _
          refine XS.istore X13.here hx rfl (hb hby d1_58) rfl (l' := #[.val (.ref a1), .val (.int p2), .val (.ref a3), .val (.int p4), .val (.int p5), .val (.ref a6), .val (.int (own_nf p5)), .val (.int (0 : Int32)), .val (.int (1 : Int32)), .val (.int (f 1))]) rfl ?_
          show Steps p.tables e below (T13.setTop (mkF m 60 #[.val (.ref a1), .val (.int p2), .val (.ref a3), .val (.int p4), .val (.int p5), .val (.ref a6), .val (.int (own_nf p5)), .val (.int (0 : Int32)), .val (.int (1 : Int32)), .val (.int (f 1))] [])) _
          refine XS.iinc X13.here hx rfl (hb hby d1_60) rfl (l' := #[.val (.ref a1), .val (.int p2), .val (.ref a3), .val (.int p4), .val (.int p5), .val (.ref a6), .val (.int (own_nf p5)), .val (.int (0 : Int32)), .val (.int (2 : Int32)), .val (.int (f 1))]) rfl ?_
          show Steps p.tables e below (T13.setTop (mkF m 63 #[.val (.ref a1), .val (.int p2), .val (.ref a3), .val (.int p4), .val (.int p5), .val (.ref a6), .val (.int (own_nf p5)), .val (.int (0 : Int32)), .val (.int (2 : Int32)), .val (.int (f 1))] [])) _
          refine XS.goto X13.here hx rfl (pc0 := 63) (pc' := 18) rfl (hb hby d1_63) (by decide) (by decide) ?_
          show Steps p.tables e below (T13.setTop (mkF m 18 #[.val (.ref a1), .val (.int p2), .val (.ref a3), .val (.int p4), .val (.int p5), .val (.ref a6), .val (.int (own_nf p5)), .val (.int (0 : Int32)), .val (.int (2 : Int32)), .val (.int (f 1))] [])) _
          refine XS.iload X13.here hx rfl (hb hby d1_18) rfl ?_
          refine XS.iloadN X13.here hx rfl (hb hby d1_20) rfl ?_
          refine XS.icmpYes X13.here hx rfl (pc0 := 21) (pc' := 66) rfl (hb hby d1_21) rfl (flt ((by rw [hk]; decide) : ¬ ((2 : Int32) < p4))).2.1 (by decide) (by decide) ?_
          show Steps p.tables e below (T13.setTop (mkF m 66 #[.val (.ref a1), .val (.int p2), .val (.ref a3), .val (.int p4), .val (.int p5), .val (.ref a6), .val (.int (own_nf p5)), .val (.int (0 : Int32)), .val (.int (2 : Int32)), .val (.int (f 1))] [])) _
          refine XS.iload X13.here hx rfl (hb hby d1_66) rfl ?_
          show Steps p.tables e below (T13.setTop (mkF m 68 #[.val (.ref a1), .val (.int p2), .val (.ref a3), .val (.int p4), .val (.int p5), .val (.ref a6), .val (.int (own_nf p5)), .val (.int (0 : Int32)), .val (.int (2 : Int32)), .val (.int (f 1))] [(.int (0 : Int32))])) _
          exact retI X13 hx Bd.returns (hb hby d1_68) hr
        · show Q_rm1b Z a1 p2 a3 p4 p5 a6 f g eo h0 n0 _ T13.heap _
          rw [e13]
          have hs : (own_sel p4 (fun i => own_x g p2 (own_nf p5) (f i)) f) = [] := by
            show (if (0 : Int32) < p4 then (if own_x g p2 (own_nf p5) (f 0) = (0 : Int32) then [] else [f 0]) else []) ++ ((if (1 : Int32) < p4 then (if own_x g p2 (own_nf p5) (f 1) = (0 : Int32) then [] else [f 1]) else []) ++ (if (2 : Int32) < p4 then (if own_x g p2 (own_nf p5) (f 2) = (0 : Int32) then [] else [f 2]) else [])) = _
            rw [hb0, hb1, hk]; rfl
          have hV : ArF Z h13 a6 .char 3 (fun i => .int ((fun i => if i = 0 then (f 1) else if i = 1 then (eo 1) else (eo 2)) i)) := V13_v13.congr (fun i hi => by
            match i, hi with
            | 0, _ => exact congrArg Value.int (own_nar (hix 1 (by decide)).1)
            | 1, _ => rfl
            | 2, _ => rfl)
          exact ⟨(fun i => if i = 0 then (f 1) else if i = 1 then (eo 1) else (eo 2)), by rw [hs]; rfl, N13, K13, hV, (by rw [hs]; intro i hi; exact absurd hi (Nat.not_lt_zero i))⟩
      · obtain ⟨fs, hr, hrun, hended, hW, hsame⟩ := X13.leave (v := some (.int (1 : Int32))) (fun h => by rw [Bd.returns] at h; cases h)
        refine ⟨_, _, pre15 _ ?_, hrun, hended, _, _, rfl, ?_, ⟨_, rfl⟩, hW, hsame.mono (by decide) (by decide)⟩
        · show Steps p.tables e below (T13.setTop (mkF m 57 #[.val (.ref a1), .val (.int p2), .val (.ref a3), .val (.int p4), .val (.int p5), .val (.ref a6), .val (.int (own_nf p5)), .val (.int (0 : Int32)), .val (.int (1 : Int32)), .val (.int (f 1))] [(.int (own_x g p2 (own_nf p5) (f 1))), (.int (0 : Int32))])) _
          rw [hb1]
          show Steps p.tables e below (T13.setTop (mkF m 57 #[.val (.ref a1), .val (.int p2), .val (.ref a3), .val (.int p4), .val (.int p5), .val (.ref a6), .val (.int (own_nf p5)), .val (.int (0 : Int32)), .val (.int (1 : Int32)), .val (.int (f 1))] [(.int (1 : Int32)), (.int (0 : Int32))])) _
          refine XS.iadd X13.here hx rfl (hb hby d1_57) rfl ?_
          show Steps p.tables e below (T13.setTop (mkF m 58 #[.val (.ref a1), .val (.int p2), .val (.ref a3), .val (.int p4), .val (.int p5), .val (.ref a6), .val (.int (own_nf p5)), .val (.int (0 : Int32)), .val (.int (1 : Int32)), .val (.int (f 1))] [(.int (1 : Int32))])) _
          refine XS.istore X13.here hx rfl (hb hby d1_58) rfl (l' := #[.val (.ref a1), .val (.int p2), .val (.ref a3), .val (.int p4), .val (.int p5), .val (.ref a6), .val (.int (own_nf p5)), .val (.int (1 : Int32)), .val (.int (1 : Int32)), .val (.int (f 1))]) rfl ?_
          show Steps p.tables e below (T13.setTop (mkF m 60 #[.val (.ref a1), .val (.int p2), .val (.ref a3), .val (.int p4), .val (.int p5), .val (.ref a6), .val (.int (own_nf p5)), .val (.int (1 : Int32)), .val (.int (1 : Int32)), .val (.int (f 1))] [])) _
          refine XS.iinc X13.here hx rfl (hb hby d1_60) rfl (l' := #[.val (.ref a1), .val (.int p2), .val (.ref a3), .val (.int p4), .val (.int p5), .val (.ref a6), .val (.int (own_nf p5)), .val (.int (1 : Int32)), .val (.int (2 : Int32)), .val (.int (f 1))]) rfl ?_
          show Steps p.tables e below (T13.setTop (mkF m 63 #[.val (.ref a1), .val (.int p2), .val (.ref a3), .val (.int p4), .val (.int p5), .val (.ref a6), .val (.int (own_nf p5)), .val (.int (1 : Int32)), .val (.int (2 : Int32)), .val (.int (f 1))] [])) _
          refine XS.goto X13.here hx rfl (pc0 := 63) (pc' := 18) rfl (hb hby d1_63) (by decide) (by decide) ?_
          show Steps p.tables e below (T13.setTop (mkF m 18 #[.val (.ref a1), .val (.int p2), .val (.ref a3), .val (.int p4), .val (.int p5), .val (.ref a6), .val (.int (own_nf p5)), .val (.int (1 : Int32)), .val (.int (2 : Int32)), .val (.int (f 1))] [])) _
          refine XS.iload X13.here hx rfl (hb hby d1_18) rfl ?_
          refine XS.iloadN X13.here hx rfl (hb hby d1_20) rfl ?_
          refine XS.icmpYes X13.here hx rfl (pc0 := 21) (pc' := 66) rfl (hb hby d1_21) rfl (flt ((by rw [hk]; decide) : ¬ ((2 : Int32) < p4))).2.1 (by decide) (by decide) ?_
          show Steps p.tables e below (T13.setTop (mkF m 66 #[.val (.ref a1), .val (.int p2), .val (.ref a3), .val (.int p4), .val (.int p5), .val (.ref a6), .val (.int (own_nf p5)), .val (.int (1 : Int32)), .val (.int (2 : Int32)), .val (.int (f 1))] [])) _
          refine XS.iload X13.here hx rfl (hb hby d1_66) rfl ?_
          show Steps p.tables e below (T13.setTop (mkF m 68 #[.val (.ref a1), .val (.int p2), .val (.ref a3), .val (.int p4), .val (.int p5), .val (.ref a6), .val (.int (own_nf p5)), .val (.int (1 : Int32)), .val (.int (2 : Int32)), .val (.int (f 1))] [(.int (1 : Int32))])) _
          exact retI X13 hx Bd.returns (hb hby d1_68) hr
        · show Q_rm1b Z a1 p2 a3 p4 p5 a6 f g eo h0 n0 _ T13.heap _
          rw [e13]
          have hs : (own_sel p4 (fun i => own_x g p2 (own_nf p5) (f i)) f) = [(f 1)] := by
            show (if (0 : Int32) < p4 then (if own_x g p2 (own_nf p5) (f 0) = (0 : Int32) then [] else [f 0]) else []) ++ ((if (1 : Int32) < p4 then (if own_x g p2 (own_nf p5) (f 1) = (0 : Int32) then [] else [f 1]) else []) ++ (if (2 : Int32) < p4 then (if own_x g p2 (own_nf p5) (f 2) = (0 : Int32) then [] else [f 2]) else [])) = _
            rw [hb0, hb1, hk]; rfl
          have hV : ArF Z h13 a6 .char 3 (fun i => .int ((fun i => if i = 0 then (f 1) else if i = 1 then (eo 1) else (eo 2)) i)) := V13_v13.congr (fun i hi => by
            match i, hi with
            | 0, _ => exact congrArg Value.int (own_nar (hix 1 (by decide)).1)
            | 1, _ => rfl
            | 2, _ => rfl)
          exact ⟨(fun i => if i = 0 then (f 1) else if i = 1 then (eo 1) else (eo 2)), by rw [hs]; rfl, N13, K13, hV, (by rw [hs]; intro i hi; have hj : i = 0 := by { simp only [List.length_cons, List.length_nil] at hi; omega }; rcases hj with rfl <;> rfl)⟩
    · obtain ⟨cl16, Ar16, S16, H16⟩ := id V0_v9
      have hin16 : ¬ ((1 : Int32) < 0 ∨ cl16.slots.size ≤ ((1 : Int32)).toNatClampNeg) := inA S16 (by decide) (by decide)
      have hat16 : cl16.slots[((1 : Int32)).toNatClampNeg]? = some (.int (f 1)) := ArF.at S16 H16 hin16 rfl
      obtain ⟨cl17, Ar17, S17, H17⟩ := id V9_v9
      have hin17 : ¬ ((1 : Int32) < 0 ∨ cl17.slots.size ≤ ((1 : Int32)).toNatClampNeg) := inA S17 (by decide) (by decide)
      obtain ⟨T17, h17, X17, e17, W17, st17⟩ := stC X9 hx hZ e9 Ar17 (j := (1 : Int32)) hin17 (g := (mkF m 36 #[.val (.ref a1), .val (.int p2), .val (.ref a3), .val (.int p4), .val (.int p5), .val (.ref a6), .val (.int (own_nf p5)), .val (.int (1 : Int32)), .val (.int (1 : Int32)), .val (.int (f 1))] [(.int (f 1)), (.int (1 : Int32)), (.ref a6)])) rfl rfl (hb hby d1_36)
      have W0_v17 := W0_v9.other W17 hne
      have V0_v17 := V0_v9.other W17 hne3
      have Z17 : n0 ≤ h17.size := Nat.le_trans Z9 (Nat.le_of_eq W17.size.symm)
      have K17 := K9.wr W17 (Or.inl (by simp))
      have V17_v17 := ArF.set Ar17 S17 H17 W17 hin17
      have N17 := Fr.snoc X17 N9 ga
      obtain ⟨cl18, Ar18, S18, H18⟩ := id W0_v17
      have hin18 : ¬ ((own_j (f 1) p2) < 0 ∨ cl18.slots.size ≤ ((own_j (f 1) p2)).toNatClampNeg) := inA S18 (hix 1 (by decide)).2.1 (hix 1 (by decide)).2.2
      have hat18 : cl18.slots[((own_j (f 1) p2)).toNatClampNeg]? = some (.long (g (own_j (f 1) p2).toNatClampNeg)) := ArF.at S18 H18 hin18 rfl
      have pre19 : ∀ t, Steps p.tables e below (T17.setTop (mkF m 57 #[.val (.ref a1), .val (.int p2), .val (.ref a3), .val (.int p4), .val (.int p5), .val (.ref a6), .val (.int (own_nf p5)), .val (.int (1 : Int32)), .val (.int (1 : Int32)), .val (.int (f 1))] [(.int (own_x g p2 (own_nf p5) (f 1))), (.int (1 : Int32))])) t → Steps p.tables e below (s₁.setTop (entryFrame m #[(.ref a1), (.int p2), (.ref a3), (.int p4), (.int p5), (.ref a6)] 10)) t := by
        intro t k
        refine pre11 t ?_
        show Steps p.tables e below (T9.setTop (mkF m 57 #[.val (.ref a1), .val (.int p2), .val (.ref a3), .val (.int p4), .val (.int p5), .val (.ref a6), .val (.int (own_nf p5)), .val (.int (0 : Int32)), .val (.int (0 : Int32)), .val (.int (f 0))] [(.int (own_x g p2 (own_nf p5) (f 0))), (.int (0 : Int32))])) _
        rw [hb0]
        show Steps p.tables e below (T9.setTop (mkF m 57 #[.val (.ref a1), .val (.int p2), .val (.ref a3), .val (.int p4), .val (.int p5), .val (.ref a6), .val (.int (own_nf p5)), .val (.int (0 : Int32)), .val (.int (0 : Int32)), .val (.int (f 0))] [(.int (1 : Int32)), (.int (0 : Int32))])) _
        refine XS.iadd X9.here hx rfl (hb hby d1_57) rfl ?_
        show Steps p.tables e below (T9.setTop (mkF m 58 #[.val (.ref a1), .val (.int p2), .val (.ref a3), .val (.int p4), .val (.int p5), .val (.ref a6), .val (.int (own_nf p5)), .val (.int (0 : Int32)), .val (.int (0 : Int32)), .val (.int (f 0))] [(.int (1 : Int32))])) _
        refine XS.istore X9.here hx rfl (hb hby d1_58) rfl (l' := #[.val (.ref a1), .val (.int p2), .val (.ref a3), .val (.int p4), .val (.int p5), .val (.ref a6), .val (.int (own_nf p5)), .val (.int (1 : Int32)), .val (.int (0 : Int32)), .val (.int (f 0))]) rfl ?_
        show Steps p.tables e below (T9.setTop (mkF m 60 #[.val (.ref a1), .val (.int p2), .val (.ref a3), .val (.int p4), .val (.int p5), .val (.ref a6), .val (.int (own_nf p5)), .val (.int (1 : Int32)), .val (.int (0 : Int32)), .val (.int (f 0))] [])) _
        refine XS.iinc X9.here hx rfl (hb hby d1_60) rfl (l' := #[.val (.ref a1), .val (.int p2), .val (.ref a3), .val (.int p4), .val (.int p5), .val (.ref a6), .val (.int (own_nf p5)), .val (.int (1 : Int32)), .val (.int (1 : Int32)), .val (.int (f 0))]) rfl ?_
        show Steps p.tables e below (T9.setTop (mkF m 63 #[.val (.ref a1), .val (.int p2), .val (.ref a3), .val (.int p4), .val (.int p5), .val (.ref a6), .val (.int (own_nf p5)), .val (.int (1 : Int32)), .val (.int (1 : Int32)), .val (.int (f 0))] [])) _
        refine XS.goto X9.here hx rfl (pc0 := 63) (pc' := 18) rfl (hb hby d1_63) (by decide) (by decide) ?_
        show Steps p.tables e below (T9.setTop (mkF m 18 #[.val (.ref a1), .val (.int p2), .val (.ref a3), .val (.int p4), .val (.int p5), .val (.ref a6), .val (.int (own_nf p5)), .val (.int (1 : Int32)), .val (.int (1 : Int32)), .val (.int (f 0))] [])) _
        refine XS.iload X9.here hx rfl (hb hby d1_18) rfl ?_
        refine XS.iloadN X9.here hx rfl (hb hby d1_20) rfl ?_
        refine XS.icmpNo X9.here hx rfl (hb hby d1_21) rfl (tlt ((by rw [hk]; decide) : ((1 : Int32) < p4))).2.1 ?_
        show Steps p.tables e below (T9.setTop (mkF m 24 #[.val (.ref a1), .val (.int p2), .val (.ref a3), .val (.int p4), .val (.int p5), .val (.ref a6), .val (.int (own_nf p5)), .val (.int (1 : Int32)), .val (.int (1 : Int32)), .val (.int (f 0))] [])) _
        refine XS.aloadN X9.here hx rfl (hb hby d1_24) rfl rfl ?_
        refine XS.iload X9.here hx rfl (hb hby d1_25) rfl ?_
        show Steps p.tables e below (T9.setTop (mkF m 27 #[.val (.ref a1), .val (.int p2), .val (.ref a3), .val (.int p4), .val (.int p5), .val (.ref a6), .val (.int (own_nf p5)), .val (.int (1 : Int32)), .val (.int (1 : Int32)), .val (.int (f 0))] [(.int (1 : Int32)), (.ref a3)])) _
        refine X9.caload hx (j := (1 : Int32)) (v := (.int (f 1))) (by rw [e9]; exact Ar16.1) (State.isArrayOf_alike hZ.alike Ar16.2.1) Ar16.2.2 hin16 hat16 (g := (mkF m 27 #[.val (.ref a1), .val (.int p2), .val (.ref a3), .val (.int p4), .val (.int p5), .val (.ref a6), .val (.int (own_nf p5)), .val (.int (1 : Int32)), .val (.int (1 : Int32)), .val (.int (f 0))] [(.int (1 : Int32)), (.ref a3)])) rfl rfl (hb hby d1_27) _ ?_
        show Steps p.tables e below (T9.setTop (mkF m 28 #[.val (.ref a1), .val (.int p2), .val (.ref a3), .val (.int p4), .val (.int p5), .val (.ref a6), .val (.int (own_nf p5)), .val (.int (1 : Int32)), .val (.int (1 : Int32)), .val (.int (f 0))] [(.int (f 1))])) _
        refine XS.istore X9.here hx rfl (hb hby d1_28) rfl (l' := #[.val (.ref a1), .val (.int p2), .val (.ref a3), .val (.int p4), .val (.int p5), .val (.ref a6), .val (.int (own_nf p5)), .val (.int (1 : Int32)), .val (.int (1 : Int32)), .val (.int (f 1))]) rfl ?_
        show Steps p.tables e below (T9.setTop (mkF m 30 #[.val (.ref a1), .val (.int p2), .val (.ref a3), .val (.int p4), .val (.int p5), .val (.ref a6), .val (.int (own_nf p5)), .val (.int (1 : Int32)), .val (.int (1 : Int32)), .val (.int (f 1))] [])) _
        refine XS.aload X9.here hx rfl (hb hby d1_30) rfl rfl ?_
        refine XS.iload X9.here hx rfl (hb hby d1_32) rfl ?_
        refine XS.iload X9.here hx rfl (hb hby d1_34) rfl ?_
        show Steps p.tables e below (T9.setTop (mkF m 36 #[.val (.ref a1), .val (.int p2), .val (.ref a3), .val (.int p4), .val (.int p5), .val (.ref a6), .val (.int (own_nf p5)), .val (.int (1 : Int32)), .val (.int (1 : Int32)), .val (.int (f 1))] [(.int (f 1)), (.int (1 : Int32)), (.ref a6)])) _
        refine st17 _ ?_
        show Steps p.tables e below (T17.setTop (mkF m 37 #[.val (.ref a1), .val (.int p2), .val (.ref a3), .val (.int p4), .val (.int p5), .val (.ref a6), .val (.int (own_nf p5)), .val (.int (1 : Int32)), .val (.int (1 : Int32)), .val (.int (f 1))] [])) _
        refine XS.iload X17.here hx rfl (hb hby d1_37) rfl ?_
        refine XS.aloadN X17.here hx rfl (hb hby d1_39) rfl rfl ?_
        refine XS.iload X17.here hx rfl (hb hby d1_40) rfl ?_
        show Steps p.tables e below (T17.setTop (mkF m 42 #[.val (.ref a1), .val (.int p2), .val (.ref a3), .val (.int p4), .val (.int p5), .val (.ref a6), .val (.int (own_nf p5)), .val (.int (1 : Int32)), .val (.int (1 : Int32)), .val (.int (f 1))] [(.int (f 1)), (.ref a1), (.int (1 : Int32))])) _
        refine XS.bipush X17.here hx rfl (hb hby d1_42) ?_
        refine XS.iushr X17.here hx rfl (hb hby d1_44) rfl ?_
        show Steps p.tables e below (T17.setTop (mkF m 45 #[.val (.ref a1), .val (.int p2), .val (.ref a3), .val (.int p4), .val (.int p5), .val (.ref a6), .val (.int (own_nf p5)), .val (.int (1 : Int32)), .val (.int (1 : Int32)), .val (.int (f 1))] [(.int (((f 1).toUInt32 >>> ((6 : Int32) &&& 31).toUInt32).toInt32)), (.ref a1), (.int (1 : Int32))])) _
        refine XS.iloadN X17.here hx rfl (hb hby d1_45) rfl ?_
        refine XS.isub X17.here hx rfl (hb hby d1_46) rfl ?_
        show Steps p.tables e below (T17.setTop (mkF m 47 #[.val (.ref a1), .val (.int p2), .val (.ref a3), .val (.int p4), .val (.int p5), .val (.ref a6), .val (.int (own_nf p5)), .val (.int (1 : Int32)), .val (.int (1 : Int32)), .val (.int (f 1))] [(.int (own_j (f 1) p2)), (.ref a1), (.int (1 : Int32))])) _
        refine X17.laload hx (j := (own_j (f 1) p2)) (v := (.long (g (own_j (f 1) p2).toNatClampNeg))) (by rw [e17]; exact Ar18.1) (State.isArrayOf_alike hZ.alike Ar18.2.1) Ar18.2.2 hin18 hat18 (g := (mkF m 47 #[.val (.ref a1), .val (.int p2), .val (.ref a3), .val (.int p4), .val (.int p5), .val (.ref a6), .val (.int (own_nf p5)), .val (.int (1 : Int32)), .val (.int (1 : Int32)), .val (.int (f 1))] [(.int (own_j (f 1) p2)), (.ref a1), (.int (1 : Int32))])) rfl rfl (hb hby d1_47) _ ?_
        show Steps p.tables e below (T17.setTop (mkF m 48 #[.val (.ref a1), .val (.int p2), .val (.ref a3), .val (.int p4), .val (.int p5), .val (.ref a6), .val (.int (own_nf p5)), .val (.int (1 : Int32)), .val (.int (1 : Int32)), .val (.int (f 1))] [(.long (g (own_j (f 1) p2).toNatClampNeg)), (.int (1 : Int32))])) _
        refine XS.iload X17.here hx rfl (hb hby d1_48) rfl ?_
        refine XS.lushr X17.here hx rfl (hb hby d1_50) rfl ?_
        show Steps p.tables e below (T17.setTop (mkF m 51 #[.val (.ref a1), .val (.int p2), .val (.ref a3), .val (.int p4), .val (.int p5), .val (.ref a6), .val (.int (own_nf p5)), .val (.int (1 : Int32)), .val (.int (1 : Int32)), .val (.int (f 1))] [(.long (((g (own_j (f 1) p2).toNatClampNeg).toUInt64 >>> ((f 1) &&& 0x3f).toInt64.toUInt64).toInt64)), (.int (1 : Int32))])) _
        refine XS.l2i X17.here hx rfl (hb hby d1_51) rfl ?_
        refine XS.iconst X17.here hx rfl (hb hby d1_52) ?_
        refine XS.iand X17.here hx rfl (hb hby d1_53) rfl ?_
        show Steps p.tables e below (T17.setTop (mkF m 54 #[.val (.ref a1), .val (.int p2), .val (.ref a3), .val (.int p4), .val (.int p5), .val (.ref a6), .val (.int (own_nf p5)), .val (.int (1 : Int32)), .val (.int (1 : Int32)), .val (.int (f 1))] [(.int (((((g (own_j (f 1) p2).toNatClampNeg).toUInt64 >>> ((f 1) &&& 0x3f).toInt64.toUInt64).toInt64).toInt32) &&& (1 : Int32))), (.int (1 : Int32))])) _
        refine XS.iload X17.here hx rfl (hb hby d1_54) rfl ?_
        refine XS.ixor X17.here hx rfl (hb hby d1_56) rfl ?_
        show Steps p.tables e below (T17.setTop (mkF m 57 #[.val (.ref a1), .val (.int p2), .val (.ref a3), .val (.int p4), .val (.int p5), .val (.ref a6), .val (.int (own_nf p5)), .val (.int (1 : Int32)), .val (.int (1 : Int32)), .val (.int (f 1))] [(.int (own_x g p2 (own_nf p5) (f 1))), (.int (1 : Int32))])) _
        exact k
      rcases own_01 g p2 (own_nf p5) (f 1) (own_nf01 p5) with hb1 | hb1
      · obtain ⟨fs, hr, hrun, hended, hW, hsame⟩ := X17.leave (v := some (.int (1 : Int32))) (fun h => by rw [Bd.returns] at h; cases h)
        refine ⟨_, _, pre19 _ ?_, hrun, hended, _, _, rfl, ?_, ⟨_, rfl⟩, hW, hsame.mono (by decide) (by decide)⟩
        · show Steps p.tables e below (T17.setTop (mkF m 57 #[.val (.ref a1), .val (.int p2), .val (.ref a3), .val (.int p4), .val (.int p5), .val (.ref a6), .val (.int (own_nf p5)), .val (.int (1 : Int32)), .val (.int (1 : Int32)), .val (.int (f 1))] [(.int (own_x g p2 (own_nf p5) (f 1))), (.int (1 : Int32))])) _
          rw [hb1]
          show Steps p.tables e below (T17.setTop (mkF m 57 #[.val (.ref a1), .val (.int p2), .val (.ref a3), .val (.int p4), .val (.int p5), .val (.ref a6), .val (.int (own_nf p5)), .val (.int (1 : Int32)), .val (.int (1 : Int32)), .val (.int (f 1))] [(.int (0 : Int32)), (.int (1 : Int32))])) _
          refine XS.iadd X17.here hx rfl (hb hby d1_57) rfl ?_
          show Steps p.tables e below (T17.setTop (mkF m 58 #[.val (.ref a1), .val (.int p2), .val (.ref a3), .val (.int p4), .val (.int p5), .val (.ref a6), .val (.int (own_nf p5)), .val (.int (1 : Int32)), .val (.int (1 : Int32)), .val (.int (f 1))] [(.int (1 : Int32))])) _
          refine XS.istore X17.here hx rfl (hb hby d1_58) rfl (l' := #[.val (.ref a1), .val (.int p2), .val (.ref a3), .val (.int p4), .val (.int p5), .val (.ref a6), .val (.int (own_nf p5)), .val (.int (1 : Int32)), .val (.int (1 : Int32)), .val (.int (f 1))]) rfl ?_
          show Steps p.tables e below (T17.setTop (mkF m 60 #[.val (.ref a1), .val (.int p2), .val (.ref a3), .val (.int p4), .val (.int p5), .val (.ref a6), .val (.int (own_nf p5)), .val (.int (1 : Int32)), .val (.int (1 : Int32)), .val (.int (f 1))] [])) _
          refine XS.iinc X17.here hx rfl (hb hby d1_60) rfl (l' := #[.val (.ref a1), .val (.int p2), .val (.ref a3), .val (.int p4), .val (.int p5), .val (.ref a6), .val (.int (own_nf p5)), .val (.int (1 : Int32)), .val (.int (2 : Int32)), .val (.int (f 1))]) rfl ?_
          show Steps p.tables e below (T17.setTop (mkF m 63 #[.val (.ref a1), .val (.int p2), .val (.ref a3), .val (.int p4), .val (.int p5), .val (.ref a6), .val (.int (own_nf p5)), .val (.int (1 : Int32)), .val (.int (2 : Int32)), .val (.int (f 1))] [])) _
          refine XS.goto X17.here hx rfl (pc0 := 63) (pc' := 18) rfl (hb hby d1_63) (by decide) (by decide) ?_
          show Steps p.tables e below (T17.setTop (mkF m 18 #[.val (.ref a1), .val (.int p2), .val (.ref a3), .val (.int p4), .val (.int p5), .val (.ref a6), .val (.int (own_nf p5)), .val (.int (1 : Int32)), .val (.int (2 : Int32)), .val (.int (f 1))] [])) _
          refine XS.iload X17.here hx rfl (hb hby d1_18) rfl ?_
          refine XS.iloadN X17.here hx rfl (hb hby d1_20) rfl ?_
          refine XS.icmpYes X17.here hx rfl (pc0 := 21) (pc' := 66) rfl (hb hby d1_21) rfl (flt ((by rw [hk]; decide) : ¬ ((2 : Int32) < p4))).2.1 (by decide) (by decide) ?_
          show Steps p.tables e below (T17.setTop (mkF m 66 #[.val (.ref a1), .val (.int p2), .val (.ref a3), .val (.int p4), .val (.int p5), .val (.ref a6), .val (.int (own_nf p5)), .val (.int (1 : Int32)), .val (.int (2 : Int32)), .val (.int (f 1))] [])) _
          refine XS.iload X17.here hx rfl (hb hby d1_66) rfl ?_
          show Steps p.tables e below (T17.setTop (mkF m 68 #[.val (.ref a1), .val (.int p2), .val (.ref a3), .val (.int p4), .val (.int p5), .val (.ref a6), .val (.int (own_nf p5)), .val (.int (1 : Int32)), .val (.int (2 : Int32)), .val (.int (f 1))] [(.int (1 : Int32))])) _
          exact retI X17 hx Bd.returns (hb hby d1_68) hr
        · show Q_rm1b Z a1 p2 a3 p4 p5 a6 f g eo h0 n0 _ T17.heap _
          rw [e17]
          have hs : (own_sel p4 (fun i => own_x g p2 (own_nf p5) (f i)) f) = [(f 0)] := by
            show (if (0 : Int32) < p4 then (if own_x g p2 (own_nf p5) (f 0) = (0 : Int32) then [] else [f 0]) else []) ++ ((if (1 : Int32) < p4 then (if own_x g p2 (own_nf p5) (f 1) = (0 : Int32) then [] else [f 1]) else []) ++ (if (2 : Int32) < p4 then (if own_x g p2 (own_nf p5) (f 2) = (0 : Int32) then [] else [f 2]) else [])) = _
            rw [hb0, hb1, hk]; rfl
          have hV : ArF Z h17 a6 .char 3 (fun i => .int ((fun i => if i = 0 then (f 0) else if i = 1 then (f 1) else (eo 2)) i)) := V17_v17.congr (fun i hi => by
            match i, hi with
            | 0, _ => exact congrArg Value.int (own_nar (hix 0 (by decide)).1)
            | 1, _ => exact congrArg Value.int (own_nar (hix 1 (by decide)).1)
            | 2, _ => rfl)
          exact ⟨(fun i => if i = 0 then (f 0) else if i = 1 then (f 1) else (eo 2)), by rw [hs]; rfl, N17, K17, hV, (by rw [hs]; intro i hi; have hj : i = 0 := by { simp only [List.length_cons, List.length_nil] at hi; omega }; rcases hj with rfl <;> rfl)⟩
      · obtain ⟨fs, hr, hrun, hended, hW, hsame⟩ := X17.leave (v := some (.int (2 : Int32))) (fun h => by rw [Bd.returns] at h; cases h)
        refine ⟨_, _, pre19 _ ?_, hrun, hended, _, _, rfl, ?_, ⟨_, rfl⟩, hW, hsame.mono (by decide) (by decide)⟩
        · show Steps p.tables e below (T17.setTop (mkF m 57 #[.val (.ref a1), .val (.int p2), .val (.ref a3), .val (.int p4), .val (.int p5), .val (.ref a6), .val (.int (own_nf p5)), .val (.int (1 : Int32)), .val (.int (1 : Int32)), .val (.int (f 1))] [(.int (own_x g p2 (own_nf p5) (f 1))), (.int (1 : Int32))])) _
          rw [hb1]
          show Steps p.tables e below (T17.setTop (mkF m 57 #[.val (.ref a1), .val (.int p2), .val (.ref a3), .val (.int p4), .val (.int p5), .val (.ref a6), .val (.int (own_nf p5)), .val (.int (1 : Int32)), .val (.int (1 : Int32)), .val (.int (f 1))] [(.int (1 : Int32)), (.int (1 : Int32))])) _
          refine XS.iadd X17.here hx rfl (hb hby d1_57) rfl ?_
          show Steps p.tables e below (T17.setTop (mkF m 58 #[.val (.ref a1), .val (.int p2), .val (.ref a3), .val (.int p4), .val (.int p5), .val (.ref a6), .val (.int (own_nf p5)), .val (.int (1 : Int32)), .val (.int (1 : Int32)), .val (.int (f 1))] [(.int (2 : Int32))])) _
          refine XS.istore X17.here hx rfl (hb hby d1_58) rfl (l' := #[.val (.ref a1), .val (.int p2), .val (.ref a3), .val (.int p4), .val (.int p5), .val (.ref a6), .val (.int (own_nf p5)), .val (.int (2 : Int32)), .val (.int (1 : Int32)), .val (.int (f 1))]) rfl ?_
          show Steps p.tables e below (T17.setTop (mkF m 60 #[.val (.ref a1), .val (.int p2), .val (.ref a3), .val (.int p4), .val (.int p5), .val (.ref a6), .val (.int (own_nf p5)), .val (.int (2 : Int32)), .val (.int (1 : Int32)), .val (.int (f 1))] [])) _
          refine XS.iinc X17.here hx rfl (hb hby d1_60) rfl (l' := #[.val (.ref a1), .val (.int p2), .val (.ref a3), .val (.int p4), .val (.int p5), .val (.ref a6), .val (.int (own_nf p5)), .val (.int (2 : Int32)), .val (.int (2 : Int32)), .val (.int (f 1))]) rfl ?_
          show Steps p.tables e below (T17.setTop (mkF m 63 #[.val (.ref a1), .val (.int p2), .val (.ref a3), .val (.int p4), .val (.int p5), .val (.ref a6), .val (.int (own_nf p5)), .val (.int (2 : Int32)), .val (.int (2 : Int32)), .val (.int (f 1))] [])) _
          refine XS.goto X17.here hx rfl (pc0 := 63) (pc' := 18) rfl (hb hby d1_63) (by decide) (by decide) ?_
          show Steps p.tables e below (T17.setTop (mkF m 18 #[.val (.ref a1), .val (.int p2), .val (.ref a3), .val (.int p4), .val (.int p5), .val (.ref a6), .val (.int (own_nf p5)), .val (.int (2 : Int32)), .val (.int (2 : Int32)), .val (.int (f 1))] [])) _
          refine XS.iload X17.here hx rfl (hb hby d1_18) rfl ?_
          refine XS.iloadN X17.here hx rfl (hb hby d1_20) rfl ?_
          refine XS.icmpYes X17.here hx rfl (pc0 := 21) (pc' := 66) rfl (hb hby d1_21) rfl (flt ((by rw [hk]; decide) : ¬ ((2 : Int32) < p4))).2.1 (by decide) (by decide) ?_
          show Steps p.tables e below (T17.setTop (mkF m 66 #[.val (.ref a1), .val (.int p2), .val (.ref a3), .val (.int p4), .val (.int p5), .val (.ref a6), .val (.int (own_nf p5)), .val (.int (2 : Int32)), .val (.int (2 : Int32)), .val (.int (f 1))] [])) _
          refine XS.iload X17.here hx rfl (hb hby d1_66) rfl ?_
          show Steps p.tables e below (T17.setTop (mkF m 68 #[.val (.ref a1), .val (.int p2), .val (.ref a3), .val (.int p4), .val (.int p5), .val (.ref a6), .val (.int (own_nf p5)), .val (.int (2 : Int32)), .val (.int (2 : Int32)), .val (.int (f 1))] [(.int (2 : Int32))])) _
          exact retI X17 hx Bd.returns (hb hby d1_68) hr
        · show Q_rm1b Z a1 p2 a3 p4 p5 a6 f g eo h0 n0 _ T17.heap _
          rw [e17]
          have hs : (own_sel p4 (fun i => own_x g p2 (own_nf p5) (f i)) f) = [(f 0), (f 1)] := by
            show (if (0 : Int32) < p4 then (if own_x g p2 (own_nf p5) (f 0) = (0 : Int32) then [] else [f 0]) else []) ++ ((if (1 : Int32) < p4 then (if own_x g p2 (own_nf p5) (f 1) = (0 : Int32) then [] else [f 1]) else []) ++ (if (2 : Int32) < p4 then (if own_x g p2 (own_nf p5) (f 2) = (0 : Int32) then [] else [f 2]) else [])) = _
            rw [hb0, hb1, hk]; rfl
          have hV : ArF Z h17 a6 .char 3 (fun i => .int ((fun i => if i = 0 then (f 0) else if i = 1 then (f 1) else (eo 2)) i)) := V17_v17.congr (fun i hi => by
            match i, hi with
            | 0, _ => exact congrArg Value.int (own_nar (hix 0 (by decide)).1)
            | 1, _ => exact congrArg Value.int (own_nar (hix 1 (by decide)).1)
            | 2, _ => rfl)
          exact ⟨(fun i => if i = 0 then (f 0) else if i = 1 then (f 1) else (eo 2)), by rw [hs]; rfl, N17, K17, hV, (by rw [hs]; intro i hi; have hj : i = 0 ∨ i = 1 := by { simp only [List.length_cons, List.length_nil] at hi; omega }; rcases hj with rfl | rfl <;> rfl)⟩
  · obtain ⟨cl20, Ar20, S20, H20⟩ := id V0
    have hin20 : ¬ ((0 : Int32) < 0 ∨ cl20.slots.size ≤ ((0 : Int32)).toNatClampNeg) := inA S20 (by decide) (by decide)
    have hat20 : cl20.slots[((0 : Int32)).toNatClampNeg]? = some (.int (f 0)) := ArF.at S20 H20 hin20 rfl
    obtain ⟨cl21, Ar21, S21, H21⟩ := id I0
    have hin21 : ¬ ((0 : Int32) < 0 ∨ cl21.slots.size ≤ ((0 : Int32)).toNatClampNeg) := inA S21 (by decide) (by decide)
    obtain ⟨T21, h21, X21, e21, W21, st21⟩ := stC X0 hx hZ e0 Ar21 (j := (0 : Int32)) hin21 (g := (mkF m 36 #[.val (.ref a1), .val (.int p2), .val (.ref a3), .val (.int p4), .val (.int p5), .val (.ref a6), .val (.int (own_nf p5)), .val (.int (0 : Int32)), .val (.int (0 : Int32)), .val (.int (f 0))] [(.int (f 0)), (.int (0 : Int32)), (.ref a6)])) rfl rfl (hb hby d1_36)
    have W0_v21 := W0.other W21 hne
    have V0_v21 := V0.other W21 hne3
    have Z21 : n0 ≤ h21.size := Nat.le_trans Z0 (Nat.le_of_eq W21.size.symm)
    have K21 := K0.wr W21 (Or.inl (by simp))
    have V21_v21 := ArF.set Ar21 S21 H21 W21 hin21
    have N21 := Fr.snoc X21 N0 ga
    obtain ⟨cl22, Ar22, S22, H22⟩ := id W0_v21
    have hin22 : ¬ ((own_j (f 0) p2) < 0 ∨ cl22.slots.size ≤ ((own_j (f 0) p2)).toNatClampNeg) := inA S22 (hix 0 (by decide)).2.1 (hix 0 (by decide)).2.2
    have hat22 : cl22.slots[((own_j (f 0) p2)).toNatClampNeg]? = some (.long (g (own_j (f 0) p2).toNatClampNeg)) := ArF.at S22 H22 hin22 rfl
    have pre23 : ∀ t, Steps p.tables e below (T21.setTop (mkF m 57 #[.val (.ref a1), .val (.int p2), .val (.ref a3), .val (.int p4), .val (.int p5), .val (.ref a6), .val (.int (own_nf p5)), .val (.int (0 : Int32)), .val (.int (0 : Int32)), .val (.int (f 0))] [(.int (own_x g p2 (own_nf p5) (f 0))), (.int (0 : Int32))])) t → Steps p.tables e below (s₁.setTop (entryFrame m #[(.ref a1), (.int p2), (.ref a3), (.int p4), (.int p5), (.ref a6)] 10)) t := by
      intro t k
      refine pre3 t ?_
      show Steps p.tables e below (s₁.setTop (mkF m 12 #[.val (.ref a1), .val (.int p2), .val (.ref a3), .val (.int p4), .val (.int p5), .val (.ref a6), .val (.int (own_nf p5)), .unset, .unset, .unset] [])) _
      refine XS.iconst X0.here hx rfl (hb hby d1_12) ?_
      refine XS.istore X0.here hx rfl (hb hby d1_13) rfl (l' := #[.val (.ref a1), .val (.int p2), .val (.ref a3), .val (.int p4), .val (.int p5), .val (.ref a6), .val (.int (own_nf p5)), .val (.int (0 : Int32)), .unset, .unset]) rfl ?_
      show Steps p.tables e below (s₁.setTop (mkF m 15 #[.val (.ref a1), .val (.int p2), .val (.ref a3), .val (.int p4), .val (.int p5), .val (.ref a6), .val (.int (own_nf p5)), .val (.int (0 : Int32)), .unset, .unset] [])) _
      refine XS.iconst X0.here hx rfl (hb hby d1_15) ?_
      refine XS.istore X0.here hx rfl (hb hby d1_16) rfl (l' := #[.val (.ref a1), .val (.int p2), .val (.ref a3), .val (.int p4), .val (.int p5), .val (.ref a6), .val (.int (own_nf p5)), .val (.int (0 : Int32)), .val (.int (0 : Int32)), .unset]) rfl ?_
      show Steps p.tables e below (s₁.setTop (mkF m 18 #[.val (.ref a1), .val (.int p2), .val (.ref a3), .val (.int p4), .val (.int p5), .val (.ref a6), .val (.int (own_nf p5)), .val (.int (0 : Int32)), .val (.int (0 : Int32)), .unset] [])) _
      refine XS.iload X0.here hx rfl (hb hby d1_18) rfl ?_
      refine XS.iloadN X0.here hx rfl (hb hby d1_20) rfl ?_
      refine XS.icmpNo X0.here hx rfl (hb hby d1_21) rfl (tlt ((by rw [hk]; decide) : ((0 : Int32) < p4))).2.1 ?_
      show Steps p.tables e below (s₁.setTop (mkF m 24 #[.val (.ref a1), .val (.int p2), .val (.ref a3), .val (.int p4), .val (.int p5), .val (.ref a6), .val (.int (own_nf p5)), .val (.int (0 : Int32)), .val (.int (0 : Int32)), .unset] [])) _
      refine XS.aloadN X0.here hx rfl (hb hby d1_24) rfl rfl ?_
      refine XS.iload X0.here hx rfl (hb hby d1_25) rfl ?_
      show Steps p.tables e below (s₁.setTop (mkF m 27 #[.val (.ref a1), .val (.int p2), .val (.ref a3), .val (.int p4), .val (.int p5), .val (.ref a6), .val (.int (own_nf p5)), .val (.int (0 : Int32)), .val (.int (0 : Int32)), .unset] [(.int (0 : Int32)), (.ref a3)])) _
      refine X0.caload hx (j := (0 : Int32)) (v := (.int (f 0))) (by rw [e0]; exact Ar20.1) (State.isArrayOf_alike hZ.alike Ar20.2.1) Ar20.2.2 hin20 hat20 (g := (mkF m 27 #[.val (.ref a1), .val (.int p2), .val (.ref a3), .val (.int p4), .val (.int p5), .val (.ref a6), .val (.int (own_nf p5)), .val (.int (0 : Int32)), .val (.int (0 : Int32)), .unset] [(.int (0 : Int32)), (.ref a3)])) rfl rfl (hb hby d1_27) _ ?_
      show Steps p.tables e below (s₁.setTop (mkF m 28 #[.val (.ref a1), .val (.int p2), .val (.ref a3), .val (.int p4), .val (.int p5), .val (.ref a6), .val (.int (own_nf p5)), .val (.int (0 : Int32)), .val (.int (0 : Int32)), .unset] [(.int (f 0))])) _
      refine XS.istore X0.here hx rfl (hb hby d1_28) rfl (l' := #[.val (.ref a1), .val (.int p2), .val (.ref a3), .val (.int p4), .val (.int p5), .val (.ref a6), .val (.int (own_nf p5)), .val (.int (0 : Int32)), .val (.int (0 : Int32)), .val (.int (f 0))]) rfl ?_
      show Steps p.tables e below (s₁.setTop (mkF m 30 #[.val (.ref a1), .val (.int p2), .val (.ref a3), .val (.int p4), .val (.int p5), .val (.ref a6), .val (.int (own_nf p5)), .val (.int (0 : Int32)), .val (.int (0 : Int32)), .val (.int (f 0))] [])) _
      refine XS.aload X0.here hx rfl (hb hby d1_30) rfl rfl ?_
      refine XS.iload X0.here hx rfl (hb hby d1_32) rfl ?_
      refine XS.iload X0.here hx rfl (hb hby d1_34) rfl ?_
      show Steps p.tables e below (s₁.setTop (mkF m 36 #[.val (.ref a1), .val (.int p2), .val (.ref a3), .val (.int p4), .val (.int p5), .val (.ref a6), .val (.int (own_nf p5)), .val (.int (0 : Int32)), .val (.int (0 : Int32)), .val (.int (f 0))] [(.int (f 0)), (.int (0 : Int32)), (.ref a6)])) _
      refine st21 _ ?_
      show Steps p.tables e below (T21.setTop (mkF m 37 #[.val (.ref a1), .val (.int p2), .val (.ref a3), .val (.int p4), .val (.int p5), .val (.ref a6), .val (.int (own_nf p5)), .val (.int (0 : Int32)), .val (.int (0 : Int32)), .val (.int (f 0))] [])) _
      refine XS.iload X21.here hx rfl (hb hby d1_37) rfl ?_
      refine XS.aloadN X21.here hx rfl (hb hby d1_39) rfl rfl ?_
      refine XS.iload X21.here hx rfl (hb hby d1_40) rfl ?_
      show Steps p.tables e below (T21.setTop (mkF m 42 #[.val (.ref a1), .val (.int p2), .val (.ref a3), .val (.int p4), .val (.int p5), .val (.ref a6), .val (.int (own_nf p5)), .val (.int (0 : Int32)), .val (.int (0 : Int32)), .val (.int (f 0))] [(.int (f 0)), (.ref a1), (.int (0 : Int32))])) _
      refine XS.bipush X21.here hx rfl (hb hby d1_42) ?_
      refine XS.iushr X21.here hx rfl (hb hby d1_44) rfl ?_
      show Steps p.tables e below (T21.setTop (mkF m 45 #[.val (.ref a1), .val (.int p2), .val (.ref a3), .val (.int p4), .val (.int p5), .val (.ref a6), .val (.int (own_nf p5)), .val (.int (0 : Int32)), .val (.int (0 : Int32)), .val (.int (f 0))] [(.int (((f 0).toUInt32 >>> ((6 : Int32) &&& 31).toUInt32).toInt32)), (.ref a1), (.int (0 : Int32))])) _
      refine XS.iloadN X21.here hx rfl (hb hby d1_45) rfl ?_
      refine XS.isub X21.here hx rfl (hb hby d1_46) rfl ?_
      show Steps p.tables e below (T21.setTop (mkF m 47 #[.val (.ref a1), .val (.int p2), .val (.ref a3), .val (.int p4), .val (.int p5), .val (.ref a6), .val (.int (own_nf p5)), .val (.int (0 : Int32)), .val (.int (0 : Int32)), .val (.int (f 0))] [(.int (own_j (f 0) p2)), (.ref a1), (.int (0 : Int32))])) _
      refine X21.laload hx (j := (own_j (f 0) p2)) (v := (.long (g (own_j (f 0) p2).toNatClampNeg))) (by rw [e21]; exact Ar22.1) (State.isArrayOf_alike hZ.alike Ar22.2.1) Ar22.2.2 hin22 hat22 (g := (mkF m 47 #[.val (.ref a1), .val (.int p2), .val (.ref a3), .val (.int p4), .val (.int p5), .val (.ref a6), .val (.int (own_nf p5)), .val (.int (0 : Int32)), .val (.int (0 : Int32)), .val (.int (f 0))] [(.int (own_j (f 0) p2)), (.ref a1), (.int (0 : Int32))])) rfl rfl (hb hby d1_47) _ ?_
      show Steps p.tables e below (T21.setTop (mkF m 48 #[.val (.ref a1), .val (.int p2), .val (.ref a3), .val (.int p4), .val (.int p5), .val (.ref a6), .val (.int (own_nf p5)), .val (.int (0 : Int32)), .val (.int (0 : Int32)), .val (.int (f 0))] [(.long (g (own_j (f 0) p2).toNatClampNeg)), (.int (0 : Int32))])) _
      refine XS.iload X21.here hx rfl (hb hby d1_48) rfl ?_
      refine XS.lushr X21.here hx rfl (hb hby d1_50) rfl ?_
      show Steps p.tables e below (T21.setTop (mkF m 51 #[.val (.ref a1), .val (.int p2), .val (.ref a3), .val (.int p4), .val (.int p5), .val (.ref a6), .val (.int (own_nf p5)), .val (.int (0 : Int32)), .val (.int (0 : Int32)), .val (.int (f 0))] [(.long (((g (own_j (f 0) p2).toNatClampNeg).toUInt64 >>> ((f 0) &&& 0x3f).toInt64.toUInt64).toInt64)), (.int (0 : Int32))])) _
      refine XS.l2i X21.here hx rfl (hb hby d1_51) rfl ?_
      refine XS.iconst X21.here hx rfl (hb hby d1_52) ?_
      refine XS.iand X21.here hx rfl (hb hby d1_53) rfl ?_
      show Steps p.tables e below (T21.setTop (mkF m 54 #[.val (.ref a1), .val (.int p2), .val (.ref a3), .val (.int p4), .val (.int p5), .val (.ref a6), .val (.int (own_nf p5)), .val (.int (0 : Int32)), .val (.int (0 : Int32)), .val (.int (f 0))] [(.int (((((g (own_j (f 0) p2).toNatClampNeg).toUInt64 >>> ((f 0) &&& 0x3f).toInt64.toUInt64).toInt64).toInt32) &&& (1 : Int32))), (.int (0 : Int32))])) _
      refine XS.iload X21.here hx rfl (hb hby d1_54) rfl ?_
      refine XS.ixor X21.here hx rfl (hb hby d1_56) rfl ?_
      show Steps p.tables e below (T21.setTop (mkF m 57 #[.val (.ref a1), .val (.int p2), .val (.ref a3), .val (.int p4), .val (.int p5), .val (.ref a6), .val (.int (own_nf p5)), .val (.int (0 : Int32)), .val (.int (0 : Int32)), .val (.int (f 0))] [(.int (own_x g p2 (own_nf p5) (f 0))), (.int (0 : Int32))])) _
      exact k
    rcases own_01 g p2 (own_nf p5) (f 0) (own_nf01 p5) with hb0 | hb0
    · obtain ⟨cl24, Ar24, S24, H24⟩ := id V0_v21
      have hin24 : ¬ ((1 : Int32) < 0 ∨ cl24.slots.size ≤ ((1 : Int32)).toNatClampNeg) := inA S24 (by decide) (by decide)
      have hat24 : cl24.slots[((1 : Int32)).toNatClampNeg]? = some (.int (f 1)) := ArF.at S24 H24 hin24 rfl
      obtain ⟨cl25, Ar25, S25, H25⟩ := id V21_v21
      have hin25 : ¬ ((0 : Int32) < 0 ∨ cl25.slots.size ≤ ((0 : Int32)).toNatClampNeg) := inA S25 (by decide) (by decide)
      obtain ⟨T25, h25, X25, e25, W25, st25⟩ := stC X21 hx hZ e21 Ar25 (j := (0 : Int32)) hin25 (g := (mkF m 36 #[.val (.ref a1), .val (.int p2), .val (.ref a3), .val (.int p4), .val (.int p5), .val (.ref a6), .val (.int (own_nf p5)), .val (.int (0 : Int32)), .val (.int (1 : Int32)), .val (.int (f 1))] [(.int (f 1)), (.int (0 : Int32)), (.ref a6)])) rfl rfl (hb hby d1_36)
      have W0_v25 := W0_v21.other W25 hne
      have V0_v25 := V0_v21.other W25 hne3
      have Z25 : n0 ≤ h25.size := Nat.le_trans Z21 (Nat.le_of_eq W25.size.symm)
      have K25 := K21.wr W25 (Or.inl (by simp))
      have V25_v25 := ArF.set Ar25 S25 H25 W25 hin25
      have N25 := Fr.snoc X25 N21 ga
      obtain ⟨cl26, Ar26, S26, H26⟩ := id W0_v25
      have hin26 : ¬ ((own_j (f 1) p2) < 0 ∨ cl26.slots.size ≤ ((own_j (f 1) p2)).toNatClampNeg) := inA S26 (hix 1 (by decide)).2.1 (hix 1 (by decide)).2.2
      have hat26 : cl26.slots[((own_j (f 1) p2)).toNatClampNeg]? = some (.long (g (own_j (f 1) p2).toNatClampNeg)) := ArF.at S26 H26 hin26 rfl
      have pre27 : ∀ t, Steps p.tables e below (T25.setTop (mkF m 57 #[.val (.ref a1), .val (.int p2), .val (.ref a3), .val (.int p4), .val (.int p5), .val (.ref a6), .val (.int (own_nf p5)), .val (.int (0 : Int32)), .val (.int (1 : Int32)), .val (.int (f 1))] [(.int (own_x g p2 (own_nf p5) (f 1))), (.int (0 : Int32))])) t → Steps p.tables e below (s₁.setTop (entryFrame m #[(.ref a1), (.int p2), (.ref a3), (.int p4), (.int p5), (.ref a6)] 10)) t := by
        intro t k
        refine pre23 t ?_
        show Steps p.tables e below (T21.setTop (mkF m 57 #[.val (.ref a1), .val (.int p2), .val (.ref a3), .val (.int p4), .val (.int p5), .val (.ref a6), .val (.int (own_nf p5)), .val (.int (0 : Int32)), .val (.int (0 : Int32)), .val (.int (f 0))] [(.int (own_x g p2 (own_nf p5) (f 0))), (.int (0 : Int32))])) _
        rw [hb0]
        show Steps p.tables e below (T21.setTop (mkF m 57 #[.val (.ref a1), .val (.int p2), .val (.ref a3), .val (.int p4), .val (.int p5), .val (.ref a6), .val (.int (own_nf p5)), .val (.int (0 : Int32)), .val (.int (0 : Int32)), .val (.int (f 0))] [(.int (0 : Int32)), (.int (0 : Int32))])) _
        refine XS.iadd X21.here hx rfl (hb hby d1_57) rfl ?_
        show Steps p.tables e below (T21.setTop (mkF m 58 #[.val (.ref a1), .val (.int p2), .val (.ref a3), .val (.int p4), .val (.int p5), .val (.ref a6), .val (.int (own_nf p5)), .val (.int (0 : Int32)), .val (.int (0 : Int32)), .val (.int (f 0))] [(.int (0 : Int32))])) _
        refine XS.istore X21.here hx rfl (hb hby d1_58) rfl (l' := #[.val (.ref a1), .val (.int p2), .val (.ref a3), .val (.int p4), .val (.int p5), .val (.ref a6), .val (.int (own_nf p5)), .val (.int (0 : Int32)), .val (.int (0 : Int32)), .val (.int (f 0))]) rfl ?_
        show Steps p.tables e below (T21.setTop (mkF m 60 #[.val (.ref a1), .val (.int p2), .val (.ref a3), .val (.int p4), .val (.int p5), .val (.ref a6), .val (.int (own_nf p5)), .val (.int (0 : Int32)), .val (.int (0 : Int32)), .val (.int (f 0))] [])) _
        refine XS.iinc X21.here hx rfl (hb hby d1_60) rfl (l' := #[.val (.ref a1), .val (.int p2), .val (.ref a3), .val (.int p4), .val (.int p5), .val (.ref a6), .val (.int (own_nf p5)), .val (.int (0 : Int32)), .val (.int (1 : Int32)), .val (.int (f 0))]) rfl ?_
        show Steps p.tables e below (T21.setTop (mkF m 63 #[.val (.ref a1), .val (.int p2), .val (.ref a3), .val (.int p4), .val (.int p5), .val (.ref a6), .val (.int (own_nf p5)), .val (.int (0 : Int32)), .val (.int (1 : Int32)), .val (.int (f 0))] [])) _
        refine XS.goto X21.here hx rfl (pc0 := 63) (pc' := 18) rfl (hb hby d1_63) (by decide) (by decide) ?_
        show Steps p.tables e below (T21.setTop (mkF m 18 #[.val (.ref a1), .val (.int p2), .val (.ref a3), .val (.int p4), .val (.int p5), .val (.ref a6), .val (.int (own_nf p5)), .val (.int (0 : Int32)), .val (.int (1 : Int32)), .val (.int (f 0))] [])) _
        refine XS.iload X21.here hx rfl (hb hby d1_18) rfl ?_
        refine XS.iloadN X21.here hx rfl (hb hby d1_20) rfl ?_
        refine XS.icmpNo X21.here hx rfl (hb hby d1_21) rfl (tlt ((by rw [hk]; decide) : ((1 : Int32) < p4))).2.1 ?_
        show Steps p.tables e below (T21.setTop (mkF m 24 #[.val (.ref a1), .val (.int p2), .val (.ref a3), .val (.int p4), .val (.int p5), .val (.ref a6), .val (.int (own_nf p5)), .val (.int (0 : Int32)), .val (.int (1 : Int32)), .val (.int (f 0))] [])) _
        refine XS.aloadN X21.here hx rfl (hb hby d1_24) rfl rfl ?_
        refine XS.iload X21.here hx rfl (hb hby d1_25) rfl ?_
        show Steps p.tables e below (T21.setTop (mkF m 27 #[.val (.ref a1), .val (.int p2), .val (.ref a3), .val (.int p4), .val (.int p5), .val (.ref a6), .val (.int (own_nf p5)), .val (.int (0 : Int32)), .val (.int (1 : Int32)), .val (.int (f 0))] [(.int (1 : Int32)), (.ref a3)])) _
        refine X21.caload hx (j := (1 : Int32)) (v := (.int (f 1))) (by rw [e21]; exact Ar24.1) (State.isArrayOf_alike hZ.alike Ar24.2.1) Ar24.2.2 hin24 hat24 (g := (mkF m 27 #[.val (.ref a1), .val (.int p2), .val (.ref a3), .val (.int p4), .val (.int p5), .val (.ref a6), .val (.int (own_nf p5)), .val (.int (0 : Int32)), .val (.int (1 : Int32)), .val (.int (f 0))] [(.int (1 : Int32)), (.ref a3)])) rfl rfl (hb hby d1_27) _ ?_
        show Steps p.tables e below (T21.setTop (mkF m 28 #[.val (.ref a1), .val (.int p2), .val (.ref a3), .val (.int p4), .val (.int p5), .val (.ref a6), .val (.int (own_nf p5)), .val (.int (0 : Int32)), .val (.int (1 : Int32)), .val (.int (f 0))] [(.int (f 1))])) _
        refine XS.istore X21.here hx rfl (hb hby d1_28) rfl (l' := #[.val (.ref a1), .val (.int p2), .val (.ref a3), .val (.int p4), .val (.int p5), .val (.ref a6), .val (.int (own_nf p5)), .val (.int (0 : Int32)), .val (.int (1 : Int32)), .val (.int (f 1))]) rfl ?_
        show Steps p.tables e below (T21.setTop (mkF m 30 #[.val (.ref a1), .val (.int p2), .val (.ref a3), .val (.int p4), .val (.int p5), .val (.ref a6), .val (.int (own_nf p5)), .val (.int (0 : Int32)), .val (.int (1 : Int32)), .val (.int (f 1))] [])) _
        refine XS.aload X21.here hx rfl (hb hby d1_30) rfl rfl ?_
        refine XS.iload X21.here hx rfl (hb hby d1_32) rfl ?_
        refine XS.iload X21.here hx rfl (hb hby d1_34) rfl ?_
        show Steps p.tables e below (T21.setTop (mkF m 36 #[.val (.ref a1), .val (.int p2), .val (.ref a3), .val (.int p4), .val (.int p5), .val (.ref a6), .val (.int (own_nf p5)), .val (.int (0 : Int32)), .val (.int (1 : Int32)), .val (.int (f 1))] [(.int (f 1)), (.int (0 : Int32)), (.ref a6)])) _
        refine st25 _ ?_
        show Steps p.tables e below (T25.setTop (mkF m 37 #[.val (.ref a1), .val (.int p2), .val (.ref a3), .val (.int p4), .val (.int p5), .val (.ref a6), .val (.int (own_nf p5)), .val (.int (0 : Int32)), .val (.int (1 : Int32)), .val (.int (f 1))] [])) _
        refine XS.iload X25.here hx rfl (hb hby d1_37) rfl ?_
        refine XS.aloadN X25.here hx rfl (hb hby d1_39) rfl rfl ?_
        refine XS.iload X25.here hx rfl (hb hby d1_40) rfl ?_
        show Steps p.tables e below (T25.setTop (mkF m 42 #[.val (.ref a1), .val (.int p2), .val (.ref a3), .val (.int p4), .val (.int p5), .val (.ref a6), .val (.int (own_nf p5)), .val (.int (0 : Int32)), .val (.int (1 : Int32)), .val (.int (f 1))] [(.int (f 1)), (.ref a1), (.int (0 : Int32))])) _
        refine XS.bipush X25.here hx rfl (hb hby d1_42) ?_
        refine XS.iushr X25.here hx rfl (hb hby d1_44) rfl ?_
        show Steps p.tables e below (T25.setTop (mkF m 45 #[.val (.ref a1), .val (.int p2), .val (.ref a3), .val (.int p4), .val (.int p5), .val (.ref a6), .val (.int (own_nf p5)), .val (.int (0 : Int32)), .val (.int (1 : Int32)), .val (.int (f 1))] [(.int (((f 1).toUInt32 >>> ((6 : Int32) &&& 31).toUInt32).toInt32)), (.ref a1), (.int (0 : Int32))])) _
        refine XS.iloadN X25.here hx rfl (hb hby d1_45) rfl ?_
        refine XS.isub X25.here hx rfl (hb hby d1_46) rfl ?_
        show Steps p.tables e below (T25.setTop (mkF m 47 #[.val (.ref a1), .val (.int p2), .val (.ref a3), .val (.int p4), .val (.int p5), .val (.ref a6), .val (.int (own_nf p5)), .val (.int (0 : Int32)), .val (.int (1 : Int32)), .val (.int (f 1))] [(.int (own_j (f 1) p2)), (.ref a1), (.int (0 : Int32))])) _
        refine X25.laload hx (j := (own_j (f 1) p2)) (v := (.long (g (own_j (f 1) p2).toNatClampNeg))) (by rw [e25]; exact Ar26.1) (State.isArrayOf_alike hZ.alike Ar26.2.1) Ar26.2.2 hin26 hat26 (g := (mkF m 47 #[.val (.ref a1), .val (.int p2), .val (.ref a3), .val (.int p4), .val (.int p5), .val (.ref a6), .val (.int (own_nf p5)), .val (.int (0 : Int32)), .val (.int (1 : Int32)), .val (.int (f 1))] [(.int (own_j (f 1) p2)), (.ref a1), (.int (0 : Int32))])) rfl rfl (hb hby d1_47) _ ?_
        show Steps p.tables e below (T25.setTop (mkF m 48 #[.val (.ref a1), .val (.int p2), .val (.ref a3), .val (.int p4), .val (.int p5), .val (.ref a6), .val (.int (own_nf p5)), .val (.int (0 : Int32)), .val (.int (1 : Int32)), .val (.int (f 1))] [(.long (g (own_j (f 1) p2).toNatClampNeg)), (.int (0 : Int32))])) _
        refine XS.iload X25.here hx rfl (hb hby d1_48) rfl ?_
        refine XS.lushr X25.here hx rfl (hb hby d1_50) rfl ?_
        show Steps p.tables e below (T25.setTop (mkF m 51 #[.val (.ref a1), .val (.int p2), .val (.ref a3), .val (.int p4), .val (.int p5), .val (.ref a6), .val (.int (own_nf p5)), .val (.int (0 : Int32)), .val (.int (1 : Int32)), .val (.int (f 1))] [(.long (((g (own_j (f 1) p2).toNatClampNeg).toUInt64 >>> ((f 1) &&& 0x3f).toInt64.toUInt64).toInt64)), (.int (0 : Int32))])) _
        refine XS.l2i X25.here hx rfl (hb hby d1_51) rfl ?_
        refine XS.iconst X25.here hx rfl (hb hby d1_52) ?_
        refine XS.iand X25.here hx rfl (hb hby d1_53) rfl ?_
        show Steps p.tables e below (T25.setTop (mkF m 54 #[.val (.ref a1), .val (.int p2), .val (.ref a3), .val (.int p4), .val (.int p5), .val (.ref a6), .val (.int (own_nf p5)), .val (.int (0 : Int32)), .val (.int (1 : Int32)), .val (.int (f 1))] [(.int (((((g (own_j (f 1) p2).toNatClampNeg).toUInt64 >>> ((f 1) &&& 0x3f).toInt64.toUInt64).toInt64).toInt32) &&& (1 : Int32))), (.int (0 : Int32))])) _
        refine XS.iload X25.here hx rfl (hb hby d1_54) rfl ?_
        refine XS.ixor X25.here hx rfl (hb hby d1_56) rfl ?_
        show Steps p.tables e below (T25.setTop (mkF m 57 #[.val (.ref a1), .val (.int p2), .val (.ref a3), .val (.int p4), .val (.int p5), .val (.ref a6), .val (.int (own_nf p5)), .val (.int (0 : Int32)), .val (.int (1 : Int32)), .val (.int (f 1))] [(.int (own_x g p2 (own_nf p5) (f 1))), (.int (0 : Int32))])) _
        exact k
      rcases own_01 g p2 (own_nf p5) (f 1) (own_nf01 p5) with hb1 | hb1
      · obtain ⟨cl28, Ar28, S28, H28⟩ := id V0_v25
        have hin28 : ¬ ((2 : Int32) < 0 ∨ cl28.slots.size ≤ ((2 : Int32)).toNatClampNeg) := inA S28 (by decide) (by decide)
        have hat28 : cl28.slots[((2 : Int32)).toNatClampNeg]? = some (.int (f 2)) := ArF.at S28 H28 hin28 rfl
        obtain ⟨cl29, Ar29, S29, H29⟩ := id V25_v25
        have hin29 : ¬ ((0 : Int32) < 0 ∨ cl29.slots.size ≤ ((0 : Int32)).toNatClampNeg) := inA S29 (by decide) (by decide)
        obtain ⟨T29, h29, X29, e29, W29, st29⟩ := stC X25 hx hZ e25 Ar29 (j := (0 : Int32)) hin29 (g := (mkF m 36 #[.val (.ref a1), .val (.int p2), .val (.ref a3), .val (.int p4), .val (.int p5), .val (.ref a6), .val (.int (own_nf p5)), .val (.int (0 : Int32)), .val (.int (2 : Int32)), .val (.int (f 2))] [(.int (f 2)), (.int (0 : Int32)), (.ref a6)])) rfl rfl (hb hby d1_36)
        have W0_v29 := W0_v25.other W29 hne
        have V0_v29 := V0_v25.other W29 hne3
        have Z29 : n0 ≤ h29.size := Nat.le_trans Z25 (Nat.le_of_eq W29.size.symm)
        have K29 := K25.wr W29 (Or.inl (by simp))
        have V29_v29 := ArF.set Ar29 S29 H29 W29 hin29
        have N29 := Fr.snoc X29 N25 ga
        obtain ⟨cl30, Ar30, S30, H30⟩ := id W0_v29
        have hin30 : ¬ ((own_j (f 2) p2) < 0 ∨ cl30.slots.size ≤ ((own_j (f 2) p2)).toNatClampNeg) := inA S30 (hix 2 (by decide)).2.1 (hix 2 (by decide)).2.2
        have hat30 : cl30.slots[((own_j (f 2) p2)).toNatClampNeg]? = some (.long (g (own_j (f 2) p2).toNatClampNeg)) := ArF.at S30 H30 hin30 rfl
        have pre31 : ∀ t, Steps p.tables e below (T29.setTop (mkF m 57 #[.val (.ref a1), .val (.int p2), .val (.ref a3), .val (.int p4), .val (.int p5), .val (.ref a6), .val (.int (own_nf p5)), .val (.int (0 : Int32)), .val (.int (2 : Int32)), .val (.int (f 2))] [(.int (own_x g p2 (own_nf p5) (f 2))), (.int (0 : Int32))])) t → Steps p.tables e below (s₁.setTop (entryFrame m #[(.ref a1), (.int p2), (.ref a3), (.int p4), (.int p5), (.ref a6)] 10)) t := by
          intro t k
          refine pre27 t ?_
          show Steps p.tables e below (T25.setTop (mkF m 57 #[.val (.ref a1), .val (.int p2), .val (.ref a3), .val (.int p4), .val (.int p5), .val (.ref a6), .val (.int (own_nf p5)), .val (.int (0 : Int32)), .val (.int (1 : Int32)), .val (.int (f 1))] [(.int (own_x g p2 (own_nf p5) (f 1))), (.int (0 : Int32))])) _
          rw [hb1]
          show Steps p.tables e below (T25.setTop (mkF m 57 #[.val (.ref a1), .val (.int p2), .val (.ref a3), .val (.int p4), .val (.int p5), .val (.ref a6), .val (.int (own_nf p5)), .val (.int (0 : Int32)), .val (.int (1 : Int32)), .val (.int (f 1))] [(.int (0 : Int32)), (.int (0 : Int32))])) _
          refine XS.iadd X25.here hx rfl (hb hby d1_57) rfl ?_
          show Steps p.tables e below (T25.setTop (mkF m 58 #[.val (.ref a1), .val (.int p2), .val (.ref a3), .val (.int p4), .val (.int p5), .val (.ref a6), .val (.int (own_nf p5)), .val (.int (0 : Int32)), .val (.int (1 : Int32)), .val (.int (f 1))] [(.int (0 : Int32))])) _
          refine XS.istore X25.here hx rfl (hb hby d1_58) rfl (l' := #[.val (.ref a1), .val (.int p2), .val (.ref a3), .val (.int p4), .val (.int p5), .val (.ref a6), .val (.int (own_nf p5)), .val (.int (0 : Int32)), .val (.int (1 : Int32)), .val (.int (f 1))]) rfl ?_
          show Steps p.tables e below (T25.setTop (mkF m 60 #[.val (.ref a1), .val (.int p2), .val (.ref a3), .val (.int p4), .val (.int p5), .val (.ref a6), .val (.int (own_nf p5)), .val (.int (0 : Int32)), .val (.int (1 : Int32)), .val (.int (f 1))] [])) _
          refine XS.iinc X25.here hx rfl (hb hby d1_60) rfl (l' := #[.val (.ref a1), .val (.int p2), .val (.ref a3), .val (.int p4), .val (.int p5), .val (.ref a6), .val (.int (own_nf p5)), .val (.int (0 : Int32)), .val (.int (2 : Int32)), .val (.int (f 1))]) rfl ?_
          show Steps p.tables e below (T25.setTop (mkF m 63 #[.val (.ref a1), .val (.int p2), .val (.ref a3), .val (.int p4), .val (.int p5), .val (.ref a6), .val (.int (own_nf p5)), .val (.int (0 : Int32)), .val (.int (2 : Int32)), .val (.int (f 1))] [])) _
          refine XS.goto X25.here hx rfl (pc0 := 63) (pc' := 18) rfl (hb hby d1_63) (by decide) (by decide) ?_
          show Steps p.tables e below (T25.setTop (mkF m 18 #[.val (.ref a1), .val (.int p2), .val (.ref a3), .val (.int p4), .val (.int p5), .val (.ref a6), .val (.int (own_nf p5)), .val (.int (0 : Int32)), .val (.int (2 : Int32)), .val (.int (f 1))] [])) _
          refine XS.iload X25.here hx rfl (hb hby d1_18) rfl ?_
          refine XS.iloadN X25.here hx rfl (hb hby d1_20) rfl ?_
          refine XS.icmpNo X25.here hx rfl (hb hby d1_21) rfl (tlt ((by rw [hk]; decide) : ((2 : Int32) < p4))).2.1 ?_
          show Steps p.tables e below (T25.setTop (mkF m 24 #[.val (.ref a1), .val (.int p2), .val (.ref a3), .val (.int p4), .val (.int p5), .val (.ref a6), .val (.int (own_nf p5)), .val (.int (0 : Int32)), .val (.int (2 : Int32)), .val (.int (f 1))] [])) _
          refine XS.aloadN X25.here hx rfl (hb hby d1_24) rfl rfl ?_
          refine XS.iload X25.here hx rfl (hb hby d1_25) rfl ?_
          show Steps p.tables e below (T25.setTop (mkF m 27 #[.val (.ref a1), .val (.int p2), .val (.ref a3), .val (.int p4), .val (.int p5), .val (.ref a6), .val (.int (own_nf p5)), .val (.int (0 : Int32)), .val (.int (2 : Int32)), .val (.int (f 1))] [(.int (2 : Int32)), (.ref a3)])) _
          refine X25.caload hx (j := (2 : Int32)) (v := (.int (f 2))) (by rw [e25]; exact Ar28.1) (State.isArrayOf_alike hZ.alike Ar28.2.1) Ar28.2.2 hin28 hat28 (g := (mkF m 27 #[.val (.ref a1), .val (.int p2), .val (.ref a3), .val (.int p4), .val (.int p5), .val (.ref a6), .val (.int (own_nf p5)), .val (.int (0 : Int32)), .val (.int (2 : Int32)), .val (.int (f 1))] [(.int (2 : Int32)), (.ref a3)])) rfl rfl (hb hby d1_27) _ ?_
          show Steps p.tables e below (T25.setTop (mkF m 28 #[.val (.ref a1), .val (.int p2), .val (.ref a3), .val (.int p4), .val (.int p5), .val (.ref a6), .val (.int (own_nf p5)), .val (.int (0 : Int32)), .val (.int (2 : Int32)), .val (.int (f 1))] [(.int (f 2))])) _
          refine XS.istore X25.here hx rfl (hb hby d1_28) rfl (l' := #[.val (.ref a1), .val (.int p2), .val (.ref a3), .val (.int p4), .val (.int p5), .val (.ref a6), .val (.int (own_nf p5)), .val (.int (0 : Int32)), .val (.int (2 : Int32)), .val (.int (f 2))]) rfl ?_
          show Steps p.tables e below (T25.setTop (mkF m 30 #[.val (.ref a1), .val (.int p2), .val (.ref a3), .val (.int p4), .val (.int p5), .val (.ref a6), .val (.int (own_nf p5)), .val (.int (0 : Int32)), .val (.int (2 : Int32)), .val (.int (f 2))] [])) _
          refine XS.aload X25.here hx rfl (hb hby d1_30) rfl rfl ?_
          refine XS.iload X25.here hx rfl (hb hby d1_32) rfl ?_
          refine XS.iload X25.here hx rfl (hb hby d1_34) rfl ?_
          show Steps p.tables e below (T25.setTop (mkF m 36 #[.val (.ref a1), .val (.int p2), .val (.ref a3), .val (.int p4), .val (.int p5), .val (.ref a6), .val (.int (own_nf p5)), .val (.int (0 : Int32)), .val (.int (2 : Int32)), .val (.int (f 2))] [(.int (f 2)), (.int (0 : Int32)), (.ref a6)])) _
          refine st29 _ ?_
          show Steps p.tables e below (T29.setTop (mkF m 37 #[.val (.ref a1), .val (.int p2), .val (.ref a3), .val (.int p4), .val (.int p5), .val (.ref a6), .val (.int (own_nf p5)), .val (.int (0 : Int32)), .val (.int (2 : Int32)), .val (.int (f 2))] [])) _
          refine XS.iload X29.here hx rfl (hb hby d1_37) rfl ?_
          refine XS.aloadN X29.here hx rfl (hb hby d1_39) rfl rfl ?_
          refine XS.iload X29.here hx rfl (hb hby d1_40) rfl ?_
          show Steps p.tables e below (T29.setTop (mkF m 42 #[.val (.ref a1), .val (.int p2), .val (.ref a3), .val (.int p4), .val (.int p5), .val (.ref a6), .val (.int (own_nf p5)), .val (.int (0 : Int32)), .val (.int (2 : Int32)), .val (.int (f 2))] [(.int (f 2)), (.ref a1), (.int (0 : Int32))])) _
          refine XS.bipush X29.here hx rfl (hb hby d1_42) ?_
          refine XS.iushr X29.here hx rfl (hb hby d1_44) rfl ?_
          show Steps p.tables e below (T29.setTop (mkF m 45 #[.val (.ref a1), .val (.int p2), .val (.ref a3), .val (.int p4), .val (.int p5), .val (.ref a6), .val (.int (own_nf p5)), .val (.int (0 : Int32)), .val (.int (2 : Int32)), .val (.int (f 2))] [(.int (((f 2).toUInt32 >>> ((6 : Int32) &&& 31).toUInt32).toInt32)), (.ref a1), (.int (0 : Int32))])) _
          refine XS.iloadN X29.here hx rfl (hb hby d1_45) rfl ?_
          refine XS.isub X29.here hx rfl (hb hby d1_46) rfl ?_
          show Steps p.tables e below (T29.setTop (mkF m 47 #[.val (.ref a1), .val (.int p2), .val (.ref a3), .val (.int p4), .val (.int p5), .val (.ref a6), .val (.int (own_nf p5)), .val (.int (0 : Int32)), .val (.int (2 : Int32)), .val (.int (f 2))] [(.int (own_j (f 2) p2)), (.ref a1), (.int (0 : Int32))])) _
          refine X29.laload hx (j := (own_j (f 2) p2)) (v := (.long (g (own_j (f 2) p2).toNatClampNeg))) (by rw [e29]; exact Ar30.1) (State.isArrayOf_alike hZ.alike Ar30.2.1) Ar30.2.2 hin30 hat30 (g := (mkF m 47 #[.val (.ref a1), .val (.int p2), .val (.ref a3), .val (.int p4), .val (.int p5), .val (.ref a6), .val (.int (own_nf p5)), .val (.int (0 : Int32)), .val (.int (2 : Int32)), .val (.int (f 2))] [(.int (own_j (f 2) p2)), (.ref a1), (.int (0 : Int32))])) rfl rfl (hb hby d1_47) _ ?_
          show Steps p.tables e below (T29.setTop (mkF m 48 #[.val (.ref a1), .val (.int p2), .val (.ref a3), .val (.int p4), .val (.int p5), .val (.ref a6), .val (.int (own_nf p5)), .val (.int (0 : Int32)), .val (.int (2 : Int32)), .val (.int (f 2))] [(.long (g (own_j (f 2) p2).toNatClampNeg)), (.int (0 : Int32))])) _
          refine XS.iload X29.here hx rfl (hb hby d1_48) rfl ?_
          refine XS.lushr X29.here hx rfl (hb hby d1_50) rfl ?_
          show Steps p.tables e below (T29.setTop (mkF m 51 #[.val (.ref a1), .val (.int p2), .val (.ref a3), .val (.int p4), .val (.int p5), .val (.ref a6), .val (.int (own_nf p5)), .val (.int (0 : Int32)), .val (.int (2 : Int32)), .val (.int (f 2))] [(.long (((g (own_j (f 2) p2).toNatClampNeg).toUInt64 >>> ((f 2) &&& 0x3f).toInt64.toUInt64).toInt64)), (.int (0 : Int32))])) _
          refine XS.l2i X29.here hx rfl (hb hby d1_51) rfl ?_
          refine XS.iconst X29.here hx rfl (hb hby d1_52) ?_
          refine XS.iand X29.here hx rfl (hb hby d1_53) rfl ?_
          show Steps p.tables e below (T29.setTop (mkF m 54 #[.val (.ref a1), .val (.int p2), .val (.ref a3), .val (.int p4), .val (.int p5), .val (.ref a6), .val (.int (own_nf p5)), .val (.int (0 : Int32)), .val (.int (2 : Int32)), .val (.int (f 2))] [(.int (((((g (own_j (f 2) p2).toNatClampNeg).toUInt64 >>> ((f 2) &&& 0x3f).toInt64.toUInt64).toInt64).toInt32) &&& (1 : Int32))), (.int (0 : Int32))])) _
          refine XS.iload X29.here hx rfl (hb hby d1_54) rfl ?_
          refine XS.ixor X29.here hx rfl (hb hby d1_56) rfl ?_
          show Steps p.tables e below (T29.setTop (mkF m 57 #[.val (.ref a1), .val (.int p2), .val (.ref a3), .val (.int p4), .val (.int p5), .val (.ref a6), .val (.int (own_nf p5)), .val (.int (0 : Int32)), .val (.int (2 : Int32)), .val (.int (f 2))] [(.int (own_x g p2 (own_nf p5) (f 2))), (.int (0 : Int32))])) _
          exact k
        rcases own_01 g p2 (own_nf p5) (f 2) (own_nf01 p5) with hb2 | hb2
        · obtain ⟨fs, hr, hrun, hended, hW, hsame⟩ := X29.leave (v := some (.int (0 : Int32))) (fun h => by rw [Bd.returns] at h; cases h)
          refine ⟨_, _, pre31 _ ?_, hrun, hended, _, _, rfl, ?_, ⟨_, rfl⟩, hW, hsame.mono (by decide) (by decide)⟩
          · show Steps p.tables e below (T29.setTop (mkF m 57 #[.val (.ref a1), .val (.int p2), .val (.ref a3), .val (.int p4), .val (.int p5), .val (.ref a6), .val (.int (own_nf p5)), .val (.int (0 : Int32)), .val (.int (2 : Int32)), .val (.int (f 2))] [(.int (own_x g p2 (own_nf p5) (f 2))), (.int (0 : Int32))])) _
            rw [hb2]
            show Steps p.tables e below (T29.setTop (mkF m 57 #[.val (.ref a1), .val (.int p2), .val (.ref a3), .val (.int p4), .val (.int p5), .val (.ref a6), .val (.int (own_nf p5)), .val (.int (0 : Int32)), .val (.int (2 : Int32)), .val (.int (f 2))] [(.int (0 : Int32)), (.int (0 : Int32))])) _
            refine XS.iadd X29.here hx rfl (hb hby d1_57) rfl ?_
            show Steps p.tables e below (T29.setTop (mkF m 58 #[.val (.ref a1), .val (.int p2), .val (.ref a3), .val (.int p4), .val (.int p5), .val (.ref a6), .val (.int (own_nf p5)), .val (.int (0 : Int32)), .val (.int (2 : Int32)), .val (.int (f 2))] [(.int (0 : Int32))])) _
            refine XS.istore X29.here hx rfl (hb hby d1_58) rfl (l' := #[.val (.ref a1), .val (.int p2), .val (.ref a3), .val (.int p4), .val (.int p5), .val (.ref a6), .val (.int (own_nf p5)), .val (.int (0 : Int32)), .val (.int (2 : Int32)), .val (.int (f 2))]) rfl ?_
            show Steps p.tables e below (T29.setTop (mkF m 60 #[.val (.ref a1), .val (.int p2), .val (.ref a3), .val (.int p4), .val (.int p5), .val (.ref a6), .val (.int (own_nf p5)), .val (.int (0 : Int32)), .val (.int (2 : Int32)), .val (.int (f 2))] [])) _
            refine XS.iinc X29.here hx rfl (hb hby d1_60) rfl (l' := #[.val (.ref a1), .val (.int p2), .val (.ref a3), .val (.int p4), .val (.int p5), .val (.ref a6), .val (.int (own_nf p5)), .val (.int (0 : Int32)), .val (.int (3 : Int32)), .val (.int (f 2))]) rfl ?_
            show Steps p.tables e below (T29.setTop (mkF m 63 #[.val (.ref a1), .val (.int p2), .val (.ref a3), .val (.int p4), .val (.int p5), .val (.ref a6), .val (.int (own_nf p5)), .val (.int (0 : Int32)), .val (.int (3 : Int32)), .val (.int (f 2))] [])) _
            refine XS.goto X29.here hx rfl (pc0 := 63) (pc' := 18) rfl (hb hby d1_63) (by decide) (by decide) ?_
            show Steps p.tables e below (T29.setTop (mkF m 18 #[.val (.ref a1), .val (.int p2), .val (.ref a3), .val (.int p4), .val (.int p5), .val (.ref a6), .val (.int (own_nf p5)), .val (.int (0 : Int32)), .val (.int (3 : Int32)), .val (.int (f 2))] [])) _
            refine XS.iload X29.here hx rfl (hb hby d1_18) rfl ?_
            refine XS.iloadN X29.here hx rfl (hb hby d1_20) rfl ?_
            refine XS.icmpYes X29.here hx rfl (pc0 := 21) (pc' := 66) rfl (hb hby d1_21) rfl (flt ((by rw [hk]; decide) : ¬ ((3 : Int32) < p4))).2.1 (by decide) (by decide) ?_
            show Steps p.tables e below (T29.setTop (mkF m 66 #[.val (.ref a1), .val (.int p2), .val (.ref a3), .val (.int p4), .val (.int p5), .val (.ref a6), .val (.int (own_nf p5)), .val (.int (0 : Int32)), .val (.int (3 : Int32)), .val (.int (f 2))] [])) _
            refine XS.iload X29.here hx rfl (hb hby d1_66) rfl ?_
            show Steps p.tables e below (T29.setTop (mkF m 68 #[.val (.ref a1), .val (.int p2), .val (.ref a3), .val (.int p4), .val (.int p5), .val (.ref a6), .val (.int (own_nf p5)), .val (.int (0 : Int32)), .val (.int (3 : Int32)), .val (.int (f 2))] [(.int (0 : Int32))])) _
            exact retI X29 hx Bd.returns (hb hby d1_68) hr
          · show Q_rm1b Z a1 p2 a3 p4 p5 a6 f g eo h0 n0 _ T29.heap _
            rw [e29]
            have hs : (own_sel p4 (fun i => own_x g p2 (own_nf p5) (f i)) f) = [] := by
              show (if (0 : Int32) < p4 then (if own_x g p2 (own_nf p5) (f 0) = (0 : Int32) then [] else [f 0]) else []) ++ ((if (1 : Int32) < p4 then (if own_x g p2 (own_nf p5) (f 1) = (0 : Int32) then [] else [f 1]) else []) ++ (if (2 : Int32) < p4 then (if own_x g p2 (own_nf p5) (f 2) = (0 : Int32) then [] else [f 2]) else [])) = _
              rw [hb0, hb1, hb2, hk]; rfl
            have hV : ArF Z h29 a6 .char 3 (fun i => .int ((fun i => if i = 0 then (f 2) else if i = 1 then (eo 1) else (eo 2)) i)) := V29_v29.congr (fun i hi => by
              match i, hi with
              | 0, _ => exact congrArg Value.int (own_nar (hix 2 (by decide)).1)
              | 1, _ => rfl
              | 2, _ => rfl)
            exact ⟨(fun i => if i = 0 then (f 2) else if i = 1 then (eo 1) else (eo 2)), by rw [hs]; rfl, N29, K29, hV, (by rw [hs]; intro i hi; exact absurd hi (Nat.not_lt_zero i))⟩
        · obtain ⟨fs, hr, hrun, hended, hW, hsame⟩ := X29.leave (v := some (.int (1 : Int32))) (fun h => by rw [Bd.returns] at h; cases h)
          refine ⟨_, _, pre31 _ ?_, hrun, hended, _, _, rfl, ?_, ⟨_, rfl⟩, hW, hsame.mono (by decide) (by decide)⟩
          · show Steps p.tables e below (T29.setTop (mkF m 57 #[.val (.ref a1), .val (.int p2), .val (.ref a3), .val (.int p4), .val (.int p5), .val (.ref a6), .val (.int (own_nf p5)), .val (.int (0 : Int32)), .val (.int (2 : Int32)), .val (.int (f 2))] [(.int (own_x g p2 (own_nf p5) (f 2))), (.int (0 : Int32))])) _
            rw [hb2]
            show Steps p.tables e below (T29.setTop (mkF m 57 #[.val (.ref a1), .val (.int p2), .val (.ref a3), .val (.int p4), .val (.int p5), .val (.ref a6), .val (.int (own_nf p5)), .val (.int (0 : Int32)), .val (.int (2 : Int32)), .val (.int (f 2))] [(.int (1 : Int32)), (.int (0 : Int32))])) _
            refine XS.iadd X29.here hx rfl (hb hby d1_57) rfl ?_
            show Steps p.tables e below (T29.setTop (mkF m 58 #[.val (.ref a1), .val (.int p2), .val (.ref a3), .val (.int p4), .val (.int p5), .val (.ref a6), .val (.int (own_nf p5)), .val (.int (0 : Int32)), .val (.int (2 : Int32)), .val (.int (f 2))] [(.int (1 : Int32))])) _
            refine XS.istore X29.here hx rfl (hb hby d1_58) rfl (l' := #[.val (.ref a1), .val (.int p2), .val (.ref a3), .val (.int p4), .val (.int p5), .val (.ref a6), .val (.int (own_nf p5)), .val (.int (1 : Int32)), .val (.int (2 : Int32)), .val (.int (f 2))]) rfl ?_
            show Steps p.tables e below (T29.setTop (mkF m 60 #[.val (.ref a1), .val (.int p2), .val (.ref a3), .val (.int p4), .val (.int p5), .val (.ref a6), .val (.int (own_nf p5)), .val (.int (1 : Int32)), .val (.int (2 : Int32)), .val (.int (f 2))] [])) _
            refine XS.iinc X29.here hx rfl (hb hby d1_60) rfl (l' := #[.val (.ref a1), .val (.int p2), .val (.ref a3), .val (.int p4), .val (.int p5), .val (.ref a6), .val (.int (own_nf p5)), .val (.int (1 : Int32)), .val (.int (3 : Int32)), .val (.int (f 2))]) rfl ?_
            show Steps p.tables e below (T29.setTop (mkF m 63 #[.val (.ref a1), .val (.int p2), .val (.ref a3), .val (.int p4), .val (.int p5), .val (.ref a6), .val (.int (own_nf p5)), .val (.int (1 : Int32)), .val (.int (3 : Int32)), .val (.int (f 2))] [])) _
            refine XS.goto X29.here hx rfl (pc0 := 63) (pc' := 18) rfl (hb hby d1_63) (by decide) (by decide) ?_
            show Steps p.tables e below (T29.setTop (mkF m 18 #[.val (.ref a1), .val (.int p2), .val (.ref a3), .val (.int p4), .val (.int p5), .val (.ref a6), .val (.int (own_nf p5)), .val (.int (1 : Int32)), .val (.int (3 : Int32)), .val (.int (f 2))] [])) _
            refine XS.iload X29.here hx rfl (hb hby d1_18) rfl ?_
            refine XS.iloadN X29.here hx rfl (hb hby d1_20) rfl ?_
            refine XS.icmpYes X29.here hx rfl (pc0 := 21) (pc' := 66) rfl (hb hby d1_21) rfl (flt ((by rw [hk]; decide) : ¬ ((3 : Int32) < p4))).2.1 (by decide) (by decide) ?_
            show Steps p.tables e below (T29.setTop (mkF m 66 #[.val (.ref a1), .val (.int p2), .val (.ref a3), .val (.int p4), .val (.int p5), .val (.ref a6), .val (.int (own_nf p5)), .val (.int (1 : Int32)), .val (.int (3 : Int32)), .val (.int (f 2))] [])) _
            refine XS.iload X29.here hx rfl (hb hby d1_66) rfl ?_
            show Steps p.tables e below (T29.setTop (mkF m 68 #[.val (.ref a1), .val (.int p2), .val (.ref a3), .val (.int p4), .val (.int p5), .val (.ref a6), .val (.int (own_nf p5)), .val (.int (1 : Int32)), .val (.int (3 : Int32)), .val (.int (f 2))] [(.int (1 : Int32))])) _
            exact retI X29 hx Bd.returns (hb hby d1_68) hr
          · show Q_rm1b Z a1 p2 a3 p4 p5 a6 f g eo h0 n0 _ T29.heap _
            rw [e29]
            have hs : (own_sel p4 (fun i => own_x g p2 (own_nf p5) (f i)) f) = [(f 2)] := by
              show (if (0 : Int32) < p4 then (if own_x g p2 (own_nf p5) (f 0) = (0 : Int32) then [] else [f 0]) else []) ++ ((if (1 : Int32) < p4 then (if own_x g p2 (own_nf p5) (f 1) = (0 : Int32) then [] else [f 1]) else []) ++ (if (2 : Int32) < p4 then (if own_x g p2 (own_nf p5) (f 2) = (0 : Int32) then [] else [f 2]) else [])) = _
              rw [hb0, hb1, hb2, hk]; rfl
            have hV : ArF Z h29 a6 .char 3 (fun i => .int ((fun i => if i = 0 then (f 2) else if i = 1 then (eo 1) else (eo 2)) i)) := V29_v29.congr (fun i hi => by
              match i, hi with
              | 0, _ => exact congrArg Value.int (own_nar (hix 2 (by decide)).1)
              | 1, _ => rfl
              | 2, _ => rfl)
            exact ⟨(fun i => if i = 0 then (f 2) else if i = 1 then (eo 1) else (eo 2)), by rw [hs]; rfl, N29, K29, hV, (by rw [hs]; intro i hi; have hj : i = 0 := by { simp only [List.length_cons, List.length_nil] at hi; omega }; rcases hj with rfl <;> rfl)⟩
      · obtain ⟨cl32, Ar32, S32, H32⟩ := id V0_v25
        have hin32 : ¬ ((2 : Int32) < 0 ∨ cl32.slots.size ≤ ((2 : Int32)).toNatClampNeg) := inA S32 (by decide) (by decide)
        have hat32 : cl32.slots[((2 : Int32)).toNatClampNeg]? = some (.int (f 2)) := ArF.at S32 H32 hin32 rfl
        obtain ⟨cl33, Ar33, S33, H33⟩ := id V25_v25
        have hin33 : ¬ ((1 : Int32) < 0 ∨ cl33.slots.size ≤ ((1 : Int32)).toNatClampNeg) := inA S33 (by decide) (by decide)
        obtain ⟨T33, h33, X33, e33, W33, st33⟩ := stC X25 hx hZ e25 Ar33 (j := (1 : Int32)) hin33 (g := (mkF m 36 #[.val (.ref a1), .val (.int p2), .val (.ref a3), .val (.int p4), .val (.int p5), .val (.ref a6), .val (.int (own_nf p5)), .val (.int (1 : Int32)), .val (.int (2 : Int32)), .val (.int (f 2))] [(.int (f 2)), (.int (1 : Int32)), (.ref a6)])) rfl rfl (hb hby d1_36)
        have W0_v33 := W0_v25.other W33 hne
        have V0_v33 := V0_v25.other W33 hne3
        have Z33 : n0 ≤ h33.size := Nat.le_trans Z25 (Nat.le_of_eq W33.size.symm)
        have K33 := K25.wr W33 (Or.inl (by simp))
        have V33_v33 := ArF.set Ar33 S33 H33 W33 hin33
        have N33 := Fr.snoc X33 N25 ga
        obtain ⟨cl34, Ar34, S34, H34⟩ := id W0_v33
        have hin34 : ¬ ((own_j (f 2) p2) < 0 ∨ cl34.slots.size ≤ ((own_j (f 2) p2)).toNatClampNeg) := inA S34 (hix 2 (by decide)).2.1 (hix 2 (by decide)).2.2
        have hat34 : cl34.slots[((own_j (f 2) p2)).toNatClampNeg]? = some (.long (g (own_j (f 2) p2).toNatClampNeg)) := ArF.at S34 H34 hin34 rfl
        have pre35 : ∀ t, Steps p.tables e below (T33.setTop (mkF m 57 #[.val (.ref a1), .val (.int p2), .val (.ref a3), .val (.int p4), .val (.int p5), .val (.ref a6), .val (.int (own_nf p5)), .val (.int (1 : Int32)), .val (.int (2 : Int32)), .val (.int (f 2))] [(.int (own_x g p2 (own_nf p5) (f 2))), (.int (1 : Int32))])) t → Steps p.tables e below (s₁.setTop (entryFrame m #[(.ref a1), (.int p2), (.ref a3), (.int p4), (.int p5), (.ref a6)] 10)) t := by
          intro t k
          refine pre27 t ?_
          show Steps p.tables e below (T25.setTop (mkF m 57 #[.val (.ref a1), .val (.int p2), .val (.ref a3), .val (.int p4), .val (.int p5), .val (.ref a6), .val (.int (own_nf p5)), .val (.int (0 : Int32)), .val (.int (1 : Int32)), .val (.int (f 1))] [(.int (own_x g p2 (own_nf p5) (f 1))), (.int (0 : Int32))])) _
          rw [hb1]
          show Steps p.tables e below (T25.setTop (mkF m 57 #[.val (.ref a1), .val (.int p2), .val (.ref a3), .val (.int p4), .val (.int p5), .val (.ref a6), .val (.int (own_nf p5)), .val (.int (0 : Int32)), .val (.int (1 : Int32)), .val (.int (f 1))] [(.int (1 : Int32)), (.int (0 : Int32))])) _
          refine XS.iadd X25.here hx rfl (hb hby d1_57) rfl ?_
          show Steps p.tables e below (T25.setTop (mkF m 58 #[.val (.ref a1), .val (.int p2), .val (.ref a3), .val (.int p4), .val (.int p5), .val (.ref a6), .val (.int (own_nf p5)), .val (.int (0 : Int32)), .val (.int (1 : Int32)), .val (.int (f 1))] [(.int (1 : Int32))])) _
          refine XS.istore X25.here hx rfl (hb hby d1_58) rfl (l' := #[.val (.ref a1), .val (.int p2), .val (.ref a3), .val (.int p4), .val (.int p5), .val (.ref a6), .val (.int (own_nf p5)), .val (.int (1 : Int32)), .val (.int (1 : Int32)), .val (.int (f 1))]) rfl ?_
          show Steps p.tables e below (T25.setTop (mkF m 60 #[.val (.ref a1), .val (.int p2), .val (.ref a3), .val (.int p4), .val (.int p5), .val (.ref a6), .val (.int (own_nf p5)), .val (.int (1 : Int32)), .val (.int (1 : Int32)), .val (.int (f 1))] [])) _
          refine XS.iinc X25.here hx rfl (hb hby d1_60) rfl (l' := #[.val (.ref a1), .val (.int p2), .val (.ref a3), .val (.int p4), .val (.int p5), .val (.ref a6), .val (.int (own_nf p5)), .val (.int (1 : Int32)), .val (.int (2 : Int32)), .val (.int (f 1))]) rfl ?_
          show Steps p.tables e below (T25.setTop (mkF m 63 #[.val (.ref a1), .val (.int p2), .val (.ref a3), .val (.int p4), .val (.int p5), .val (.ref a6), .val (.int (own_nf p5)), .val (.int (1 : Int32)), .val (.int (2 : Int32)), .val (.int (f 1))] [])) _
          refine XS.goto X25.here hx rfl (pc0 := 63) (pc' := 18) rfl (hb hby d1_63) (by decide) (by decide) ?_
          show Steps p.tables e below (T25.setTop (mkF m 18 #[.val (.ref a1), .val (.int p2), .val (.ref a3), .val (.int p4), .val (.int p5), .val (.ref a6), .val (.int (own_nf p5)), .val (.int (1 : Int32)), .val (.int (2 : Int32)), .val (.int (f 1))] [])) _
          refine XS.iload X25.here hx rfl (hb hby d1_18) rfl ?_
          refine XS.iloadN X25.here hx rfl (hb hby d1_20) rfl ?_
          refine XS.icmpNo X25.here hx rfl (hb hby d1_21) rfl (tlt ((by rw [hk]; decide) : ((2 : Int32) < p4))).2.1 ?_
          show Steps p.tables e below (T25.setTop (mkF m 24 #[.val (.ref a1), .val (.int p2), .val (.ref a3), .val (.int p4), .val (.int p5), .val (.ref a6), .val (.int (own_nf p5)), .val (.int (1 : Int32)), .val (.int (2 : Int32)), .val (.int (f 1))] [])) _
          refine XS.aloadN X25.here hx rfl (hb hby d1_24) rfl rfl ?_
          refine XS.iload X25.here hx rfl (hb hby d1_25) rfl ?_
          show Steps p.tables e below (T25.setTop (mkF m 27 #[.val (.ref a1), .val (.int p2), .val (.ref a3), .val (.int p4), .val (.int p5), .val (.ref a6), .val (.int (own_nf p5)), .val (.int (1 : Int32)), .val (.int (2 : Int32)), .val (.int (f 1))] [(.int (2 : Int32)), (.ref a3)])) _
          refine X25.caload hx (j := (2 : Int32)) (v := (.int (f 2))) (by rw [e25]; exact Ar32.1) (State.isArrayOf_alike hZ.alike Ar32.2.1) Ar32.2.2 hin32 hat32 (g := (mkF m 27 #[.val (.ref a1), .val (.int p2), .val (.ref a3), .val (.int p4), .val (.int p5), .val (.ref a6), .val (.int (own_nf p5)), .val (.int (1 : Int32)), .val (.int (2 : Int32)), .val (.int (f 1))] [(.int (2 : Int32)), (.ref a3)])) rfl rfl (hb hby d1_27) _ ?_
          show Steps p.tables e below (T25.setTop (mkF m 28 #[.val (.ref a1), .val (.int p2), .val (.ref a3), .val (.int p4), .val (.int p5), .val (.ref a6), .val (.int (own_nf p5)), .val (.int (1 : Int32)), .val (.int (2 : Int32)), .val (.int (f 1))] [(.int (f 2))])) _
          refine XS.istore X25.here hx rfl (hb hby d1_28) rfl (l' := #[.val (.ref a1), .val (.int p2), .val (.ref a3), .val (.int p4), .val (.int p5), .val (.ref a6), .val (.int (own_nf p5)), .val (.int (1 : Int32)), .val (.int (2 : Int32)), .val (.int (f 2))]) rfl ?_
          show Steps p.tables e below (T25.setTop (mkF m 30 #[.val (.ref a1), .val (.int p2), .val (.ref a3), .val (.int p4), .val (.int p5), .val (.ref a6), .val (.int (own_nf p5)), .val (.int (1 : Int32)), .val (.int (2 : Int32)), .val (.int (f 2))] [])) _
          refine XS.aload X25.here hx rfl (hb hby d1_30) rfl rfl ?_
          refine XS.iload X25.here hx rfl (hb hby d1_32) rfl ?_
          refine XS.iload X25.here hx rfl (hb hby d1_34) rfl ?_
          show Steps p.tables e below (T25.setTop (mkF m 36 #[.val (.ref a1), .val (.int p2), .val (.ref a3), .val (.int p4), .val (.int p5), .val (.ref a6), .val (.int (own_nf p5)), .val (.int (1 : Int32)), .val (.int (2 : Int32)), .val (.int (f 2))] [(.int (f 2)), (.int (1 : Int32)), (.ref a6)])) _
          refine st33 _ ?_
          show Steps p.tables e below (T33.setTop (mkF m 37 #[.val (.ref a1), .val (.int p2), .val (.ref a3), .val (.int p4), .val (.int p5), .val (.ref a6), .val (.int (own_nf p5)), .val (.int (1 : Int32)), .val (.int (2 : Int32)), .val (.int (f 2))] [])) _
          refine XS.iload X33.here hx rfl (hb hby d1_37) rfl ?_
          refine XS.aloadN X33.here hx rfl (hb hby d1_39) rfl rfl ?_
          refine XS.iload X33.here hx rfl (hb hby d1_40) rfl ?_
          show Steps p.tables e below (T33.setTop (mkF m 42 #[.val (.ref a1), .val (.int p2), .val (.ref a3), .val (.int p4), .val (.int p5), .val (.ref a6), .val (.int (own_nf p5)), .val (.int (1 : Int32)), .val (.int (2 : Int32)), .val (.int (f 2))] [(.int (f 2)), (.ref a1), (.int (1 : Int32))])) _
          refine XS.bipush X33.here hx rfl (hb hby d1_42) ?_
          refine XS.iushr X33.here hx rfl (hb hby d1_44) rfl ?_
          show Steps p.tables e below (T33.setTop (mkF m 45 #[.val (.ref a1), .val (.int p2), .val (.ref a3), .val (.int p4), .val (.int p5), .val (.ref a6), .val (.int (own_nf p5)), .val (.int (1 : Int32)), .val (.int (2 : Int32)), .val (.int (f 2))] [(.int (((f 2).toUInt32 >>> ((6 : Int32) &&& 31).toUInt32).toInt32)), (.ref a1), (.int (1 : Int32))])) _
          refine XS.iloadN X33.here hx rfl (hb hby d1_45) rfl ?_
          refine XS.isub X33.here hx rfl (hb hby d1_46) rfl ?_
          show Steps p.tables e below (T33.setTop (mkF m 47 #[.val (.ref a1), .val (.int p2), .val (.ref a3), .val (.int p4), .val (.int p5), .val (.ref a6), .val (.int (own_nf p5)), .val (.int (1 : Int32)), .val (.int (2 : Int32)), .val (.int (f 2))] [(.int (own_j (f 2) p2)), (.ref a1), (.int (1 : Int32))])) _
          refine X33.laload hx (j := (own_j (f 2) p2)) (v := (.long (g (own_j (f 2) p2).toNatClampNeg))) (by rw [e33]; exact Ar34.1) (State.isArrayOf_alike hZ.alike Ar34.2.1) Ar34.2.2 hin34 hat34 (g := (mkF m 47 #[.val (.ref a1), .val (.int p2), .val (.ref a3), .val (.int p4), .val (.int p5), .val (.ref a6), .val (.int (own_nf p5)), .val (.int (1 : Int32)), .val (.int (2 : Int32)), .val (.int (f 2))] [(.int (own_j (f 2) p2)), (.ref a1), (.int (1 : Int32))])) rfl rfl (hb hby d1_47) _ ?_
          show Steps p.tables e below (T33.setTop (mkF m 48 #[.val (.ref a1), .val (.int p2), .val (.ref a3), .val (.int p4), .val (.int p5), .val (.ref a6), .val (.int (own_nf p5)), .val (.int (1 : Int32)), .val (.int (2 : Int32)), .val (.int (f 2))] [(.long (g (own_j (f 2) p2).toNatClampNeg)), (.int (1 : Int32))])) _
          refine XS.iload X33.here hx rfl (hb hby d1_48) rfl ?_
          refine XS.lushr X33.here hx rfl (hb hby d1_50) rfl ?_
          show Steps p.tables e below (T33.setTop (mkF m 51 #[.val (.ref a1), .val (.int p2), .val (.ref a3), .val (.int p4), .val (.int p5), .val (.ref a6), .val (.int (own_nf p5)), .val (.int (1 : Int32)), .val (.int (2 : Int32)), .val (.int (f 2))] [(.long (((g (own_j (f 2) p2).toNatClampNeg).toUInt64 >>> ((f 2) &&& 0x3f).toInt64.toUInt64).toInt64)), (.int (1 : Int32))])) _
          refine XS.l2i X33.here hx rfl (hb hby d1_51) rfl ?_
          refine XS.iconst X33.here hx rfl (hb hby d1_52) ?_
          refine XS.iand X33.here hx rfl (hb hby d1_53) rfl ?_
          show Steps p.tables e below (T33.setTop (mkF m 54 #[.val (.ref a1), .val (.int p2), .val (.ref a3), .val (.int p4), .val (.int p5), .val (.ref a6), .val (.int (own_nf p5)), .val (.int (1 : Int32)), .val (.int (2 : Int32)), .val (.int (f 2))] [(.int (((((g (own_j (f 2) p2).toNatClampNeg).toUInt64 >>> ((f 2) &&& 0x3f).toInt64.toUInt64).toInt64).toInt32) &&& (1 : Int32))), (.int (1 : Int32))])) _
          refine XS.iload X33.here hx rfl (hb hby d1_54) rfl ?_
          refine XS.ixor X33.here hx rfl (hb hby d1_56) rfl ?_
          show Steps p.tables e below (T33.setTop (mkF m 57 #[.val (.ref a1), .val (.int p2), .val (.ref a3), .val (.int p4), .val (.int p5), .val (.ref a6), .val (.int (own_nf p5)), .val (.int (1 : Int32)), .val (.int (2 : Int32)), .val (.int (f 2))] [(.int (own_x g p2 (own_nf p5) (f 2))), (.int (1 : Int32))])) _
          exact k
        rcases own_01 g p2 (own_nf p5) (f 2) (own_nf01 p5) with hb2 | hb2
        · obtain ⟨fs, hr, hrun, hended, hW, hsame⟩ := X33.leave (v := some (.int (1 : Int32))) (fun h => by rw [Bd.returns] at h; cases h)
          refine ⟨_, _, pre35 _ ?_, hrun, hended, _, _, rfl, ?_, ⟨_, rfl⟩, hW, hsame.mono (by decide) (by decide)⟩
          · show Steps p.tables e below (T33.setTop (mkF m 57 #[.val (.ref a1), .val (.int p2), .val (.ref a3), .val (.int p4), .val (.int p5), .val (.ref a6), .val (.int (own_nf p5)), .val (.int (1 : Int32)), .val (.int (2 : Int32)), .val (.int (f 2))] [(.int (own_x g p2 (own_nf p5) (f 2))), (.int (1 : Int32))])) _
            rw [hb2]
            show Steps p.tables e below (T33.setTop (mkF m 57 #[.val (.ref a1), .val (.int p2), .val (.ref a3), .val (.int p4), .val (.int p5), .val (.ref a6), .val (.int (own_nf p5)), .val (.int (1 : Int32)), .val (.int (2 : Int32)), .val (.int (f 2))] [(.int (0 : Int32)), (.int (1 : Int32))])) _
            refine XS.iadd X33.here hx rfl (hb hby d1_57) rfl ?_
            show Steps p.tables e below (T33.setTop (mkF m 58 #[.val (.ref a1), .val (.int p2), .val (.ref a3), .val (.int p4), .val (.int p5), .val (.ref a6), .val (.int (own_nf p5)), .val (.int (1 : Int32)), .val (.int (2 : Int32)), .val (.int (f 2))] [(.int (1 : Int32))])) _
            refine XS.istore X33.here hx rfl (hb hby d1_58) rfl (l' := #[.val (.ref a1), .val (.int p2), .val (.ref a3), .val (.int p4), .val (.int p5), .val (.ref a6), .val (.int (own_nf p5)), .val (.int (1 : Int32)), .val (.int (2 : Int32)), .val (.int (f 2))]) rfl ?_
            show Steps p.tables e below (T33.setTop (mkF m 60 #[.val (.ref a1), .val (.int p2), .val (.ref a3), .val (.int p4), .val (.int p5), .val (.ref a6), .val (.int (own_nf p5)), .val (.int (1 : Int32)), .val (.int (2 : Int32)), .val (.int (f 2))] [])) _
            refine XS.iinc X33.here hx rfl (hb hby d1_60) rfl (l' := #[.val (.ref a1), .val (.int p2), .val (.ref a3), .val (.int p4), .val (.int p5), .val (.ref a6), .val (.int (own_nf p5)), .val (.int (1 : Int32)), .val (.int (3 : Int32)), .val (.int (f 2))]) rfl ?_
            show Steps p.tables e below (T33.setTop (mkF m 63 #[.val (.ref a1), .val (.int p2), .val (.ref a3), .val (.int p4), .val (.int p5), .val (.ref a6), .val (.int (own_nf p5)), .val (.int (1 : Int32)), .val (.int (3 : Int32)), .val (.int (f 2))] [])) _
            refine XS.goto X33.here hx rfl (pc0 := 63) (pc' := 18) rfl (hb hby d1_63) (by decide) (by decide) ?_
            show Steps p.tables e below (T33.setTop (mkF m 18 #[.val (.ref a1), .val (.int p2), .val (.ref a3), .val (.int p4), .val (.int p5), .val (.ref a6), .val (.int (own_nf p5)), .val (.int (1 : Int32)), .val (.int (3 : Int32)), .val (.int (f 2))] [])) _
            refine XS.iload X33.here hx rfl (hb hby d1_18) rfl ?_
            refine XS.iloadN X33.here hx rfl (hb hby d1_20) rfl ?_
            refine XS.icmpYes X33.here hx rfl (pc0 := 21) (pc' := 66) rfl (hb hby d1_21) rfl (flt ((by rw [hk]; decide) : ¬ ((3 : Int32) < p4))).2.1 (by decide) (by decide) ?_
            show Steps p.tables e below (T33.setTop (mkF m 66 #[.val (.ref a1), .val (.int p2), .val (.ref a3), .val (.int p4), .val (.int p5), .val (.ref a6), .val (.int (own_nf p5)), .val (.int (1 : Int32)), .val (.int (3 : Int32)), .val (.int (f 2))] [])) _
            refine XS.iload X33.here hx rfl (hb hby d1_66) rfl ?_
            show Steps p.tables e below (T33.setTop (mkF m 68 #[.val (.ref a1), .val (.int p2), .val (.ref a3), .val (.int p4), .val (.int p5), .val (.ref a6), .val (.int (own_nf p5)), .val (.int (1 : Int32)), .val (.int (3 : Int32)), .val (.int (f 2))] [(.int (1 : Int32))])) _
            exact retI X33 hx Bd.returns (hb hby d1_68) hr
          · show Q_rm1b Z a1 p2 a3 p4 p5 a6 f g eo h0 n0 _ T33.heap _
            rw [e33]
            have hs : (own_sel p4 (fun i => own_x g p2 (own_nf p5) (f i)) f) = [(f 1)] := by
              show (if (0 : Int32) < p4 then (if own_x g p2 (own_nf p5) (f 0) = (0 : Int32) then [] else [f 0]) else []) ++ ((if (1 : Int32) < p4 then (if own_x g p2 (own_nf p5) (f 1) = (0 : Int32) then [] else [f 1]) else []) ++ (if (2 : Int32) < p4 then (if own_x g p2 (own_nf p5) (f 2) = (0 : Int32) then [] else [f 2]) else [])) = _
              rw [hb0, hb1, hb2, hk]; rfl
            have hV : ArF Z h33 a6 .char 3 (fun i => .int ((fun i => if i = 0 then (f 1) else if i = 1 then (f 2) else (eo 2)) i)) := V33_v33.congr (fun i hi => by
              match i, hi with
              | 0, _ => exact congrArg Value.int (own_nar (hix 1 (by decide)).1)
              | 1, _ => exact congrArg Value.int (own_nar (hix 2 (by decide)).1)
              | 2, _ => rfl)
            exact ⟨(fun i => if i = 0 then (f 1) else if i = 1 then (f 2) else (eo 2)), by rw [hs]; rfl, N33, K33, hV, (by rw [hs]; intro i hi; have hj : i = 0 := by { simp only [List.length_cons, List.length_nil] at hi; omega }; rcases hj with rfl <;> rfl)⟩
        · obtain ⟨fs, hr, hrun, hended, hW, hsame⟩ := X33.leave (v := some (.int (2 : Int32))) (fun h => by rw [Bd.returns] at h; cases h)
          refine ⟨_, _, pre35 _ ?_, hrun, hended, _, _, rfl, ?_, ⟨_, rfl⟩, hW, hsame.mono (by decide) (by decide)⟩
          · show Steps p.tables e below (T33.setTop (mkF m 57 #[.val (.ref a1), .val (.int p2), .val (.ref a3), .val (.int p4), .val (.int p5), .val (.ref a6), .val (.int (own_nf p5)), .val (.int (1 : Int32)), .val (.int (2 : Int32)), .val (.int (f 2))] [(.int (own_x g p2 (own_nf p5) (f 2))), (.int (1 : Int32))])) _
            rw [hb2]
            show Steps p.tables e below (T33.setTop (mkF m 57 #[.val (.ref a1), .val (.int p2), .val (.ref a3), .val (.int p4), .val (.int p5), .val (.ref a6), .val (.int (own_nf p5)), .val (.int (1 : Int32)), .val (.int (2 : Int32)), .val (.int (f 2))] [(.int (1 : Int32)), (.int (1 : Int32))])) _
            refine XS.iadd X33.here hx rfl (hb hby d1_57) rfl ?_
            show Steps p.tables e below (T33.setTop (mkF m 58 #[.val (.ref a1), .val (.int p2), .val (.ref a3), .val (.int p4), .val (.int p5), .val (.ref a6), .val (.int (own_nf p5)), .val (.int (1 : Int32)), .val (.int (2 : Int32)), .val (.int (f 2))] [(.int (2 : Int32))])) _
            refine XS.istore X33.here hx rfl (hb hby d1_58) rfl (l' := #[.val (.ref a1), .val (.int p2), .val (.ref a3), .val (.int p4), .val (.int p5), .val (.ref a6), .val (.int (own_nf p5)), .val (.int (2 : Int32)), .val (.int (2 : Int32)), .val (.int (f 2))]) rfl ?_
            show Steps p.tables e below (T33.setTop (mkF m 60 #[.val (.ref a1), .val (.int p2), .val (.ref a3), .val (.int p4), .val (.int p5), .val (.ref a6), .val (.int (own_nf p5)), .val (.int (2 : Int32)), .val (.int (2 : Int32)), .val (.int (f 2))] [])) _
            refine XS.iinc X33.here hx rfl (hb hby d1_60) rfl (l' := #[.val (.ref a1), .val (.int p2), .val (.ref a3), .val (.int p4), .val (.int p5), .val (.ref a6), .val (.int (own_nf p5)), .val (.int (2 : Int32)), .val (.int (3 : Int32)), .val (.int (f 2))]) rfl ?_
            show Steps p.tables e below (T33.setTop (mkF m 63 #[.val (.ref a1), .val (.int p2), .val (.ref a3), .val (.int p4), .val (.int p5), .val (.ref a6), .val (.int (own_nf p5)), .val (.int (2 : Int32)), .val (.int (3 : Int32)), .val (.int (f 2))] [])) _
            refine XS.goto X33.here hx rfl (pc0 := 63) (pc' := 18) rfl (hb hby d1_63) (by decide) (by decide) ?_
            show Steps p.tables e below (T33.setTop (mkF m 18 #[.val (.ref a1), .val (.int p2), .val (.ref a3), .val (.int p4), .val (.int p5), .val (.ref a6), .val (.int (own_nf p5)), .val (.int (2 : Int32)), .val (.int (3 : Int32)), .val (.int (f 2))] [])) _
            refine XS.iload X33.here hx rfl (hb hby d1_18) rfl ?_
            refine XS.iloadN X33.here hx rfl (hb hby d1_20) rfl ?_
            refine XS.icmpYes X33.here hx rfl (pc0 := 21) (pc' := 66) rfl (hb hby d1_21) rfl (flt ((by rw [hk]; decide) : ¬ ((3 : Int32) < p4))).2.1 (by decide) (by decide) ?_
            show Steps p.tables e below (T33.setTop (mkF m 66 #[.val (.ref a1), .val (.int p2), .val (.ref a3), .val (.int p4), .val (.int p5), .val (.ref a6), .val (.int (own_nf p5)), .val (.int (2 : Int32)), .val (.int (3 : Int32)), .val (.int (f 2))] [])) _
            refine XS.iload X33.here hx rfl (hb hby d1_66) rfl ?_
            show Steps p.tables e below (T33.setTop (mkF m 68 #[.val (.ref a1), .val (.int p2), .val (.ref a3), .val (.int p4), .val (.int p5), .val (.ref a6), .val (.int (own_nf p5)), .val (.int (2 : Int32)), .val (.int (3 : Int32)), .val (.int (f 2))] [(.int (2 : Int32))])) _
            exact retI X33 hx Bd.returns (hb hby d1_68) hr
          · show Q_rm1b Z a1 p2 a3 p4 p5 a6 f g eo h0 n0 _ T33.heap _
            rw [e33]
            have hs : (own_sel p4 (fun i => own_x g p2 (own_nf p5) (f i)) f) = [(f 1), (f 2)] := by
              show (if (0 : Int32) < p4 then (if own_x g p2 (own_nf p5) (f 0) = (0 : Int32) then [] else [f 0]) else []) ++ ((if (1 : Int32) < p4 then (if own_x g p2 (own_nf p5) (f 1) = (0 : Int32) then [] else [f 1]) else []) ++ (if (2 : Int32) < p4 then (if own_x g p2 (own_nf p5) (f 2) = (0 : Int32) then [] else [f 2]) else [])) = _
              rw [hb0, hb1, hb2, hk]; rfl
            have hV : ArF Z h33 a6 .char 3 (fun i => .int ((fun i => if i = 0 then (f 1) else if i = 1 then (f 2) else (eo 2)) i)) := V33_v33.congr (fun i hi => by
              match i, hi with
              | 0, _ => exact congrArg Value.int (own_nar (hix 1 (by decide)).1)
              | 1, _ => exact congrArg Value.int (own_nar (hix 2 (by decide)).1)
              | 2, _ => rfl)
            exact ⟨(fun i => if i = 0 then (f 1) else if i = 1 then (f 2) else (eo 2)), by rw [hs]; rfl, N33, K33, hV, (by rw [hs]; intro i hi; have hj : i = 0 ∨ i = 1 := by { simp only [List.length_cons, List.length_nil] at hi; omega }; rcases hj with rfl | rfl <;> rfl)⟩
    · obtain ⟨cl36, Ar36, S36, H36⟩ := id V0_v21
      have hin36 : ¬ ((1 : Int32) < 0 ∨ cl36.slots.size ≤ ((1 : Int32)).toNatClampNeg) := inA S36 (by decide) (by decide)
      have hat36 : cl36.slots[((1 : Int32)).toNatClampNeg]? = some (.int (f 1)) := ArF.at S36 H36 hin36 rfl
      obtain ⟨cl37, Ar37, S37, H37⟩ := id V21_v21
      have hin37 : ¬ ((1 : Int32) < 0 ∨ cl37.slots.size ≤ ((1 : Int32)).toNatClampNeg) := inA S37 (by decide) (by decide)
      obtain ⟨T37, h37, X37, e37, W37, st37⟩ := stC X21 hx hZ e21 Ar37 (j := (1 : Int32)) hin37 (g := (mkF m 36 #[.val (.ref a1), .val (.int p2), .val (.ref a3), .val (.int p4), .val (.int p5), .val (.ref a6), .val (.int (own_nf p5)), .val (.int (1 : Int32)), .val (.int (1 : Int32)), .val (.int (f 1))] [(.int (f 1)), (.int (1 : Int32)), (.ref a6)])) rfl rfl (hb hby d1_36)
      have W0_v37 := W0_v21.other W37 hne
      have V0_v37 := V0_v21.other W37 hne3
      have Z37 : n0 ≤ h37.size := Nat.le_trans Z21 (Nat.le_of_eq W37.size.symm)
      have K37 := K21.wr W37 (Or.inl (by simp))
      have V37_v37 := ArF.set Ar37 S37 H37 W37 hin37
      have N37 := Fr.snoc X37 N21 ga
      obtain ⟨cl38, Ar38, S38, H38⟩ := id W0_v37
      have hin38 : ¬ ((own_j (f 1) p2) < 0 ∨ cl38.slots.size ≤ ((own_j (f 1) p2)).toNatClampNeg) := inA S38 (hix 1 (by decide)).2.1 (hix 1 (by decide)).2.2
      have hat38 : cl38.slots[((own_j (f 1) p2)).toNatClampNeg]? = some (.long (g (own_j (f 1) p2).toNatClampNeg)) := ArF.at S38 H38 hin38 rfl
      have pre39 : ∀ t, Steps p.tables e below (T37.setTop (mkF m 57 #[.val (.ref a1), .val (.int p2), .val (.ref a3), .val (.int p4), .val (.int p5), .val (.ref a6), .val (.int (own_nf p5)), .val (.int (1 : Int32)), .val (.int (1 : Int32)), .val (.int (f 1))] [(.int (own_x g p2 (own_nf p5) (f 1))), (.int (1 : Int32))])) t → Steps p.tables e below (s₁.setTop (entryFrame m #[(.ref a1), (.int p2), (.ref a3), (.int p4), (.int p5), (.ref a6)] 10)) t := by
        intro t k
        refine pre23 t ?_
        show Steps p.tables e below (T21.setTop (mkF m 57 #[.val (.ref a1), .val (.int p2), .val (.ref a3), .val (.int p4), .val (.int p5), .val (.ref a6), .val (.int (own_nf p5)), .val (.int (0 : Int32)), .val (.int (0 : Int32)), .val (.int (f 0))] [(.int (own_x g p2 (own_nf p5) (f 0))), (.int (0 : Int32))])) _
        rw [hb0]
        show Steps p.tables e below (T21.setTop (mkF m 57 #[.val (.ref a1), .val (.int p2), .val (.ref a3), .val (.int p4), .val (.int p5), .val (.ref a6), .val (.int (own_nf p5)), .val (.int (0 : Int32)), .val (.int (0 : Int32)), .val (.int (f 0))] [(.int (1 : Int32)), (.int (0 : Int32))])) _
        refine XS.iadd X21.here hx rfl (hb hby d1_57) rfl ?_
        show Steps p.tables e below (T21.setTop (mkF m 58 #[.val (.ref a1), .val (.int p2), .val (.ref a3), .val (.int p4), .val (.int p5), .val (.ref a6), .val (.int (own_nf p5)), .val (.int (0 : Int32)), .val (.int (0 : Int32)), .val (.int (f 0))] [(.int (1 : Int32))])) _
        refine XS.istore X21.here hx rfl (hb hby d1_58) rfl (l' := #[.val (.ref a1), .val (.int p2), .val (.ref a3), .val (.int p4), .val (.int p5), .val (.ref a6), .val (.int (own_nf p5)), .val (.int (1 : Int32)), .val (.int (0 : Int32)), .val (.int (f 0))]) rfl ?_
        show Steps p.tables e below (T21.setTop (mkF m 60 #[.val (.ref a1), .val (.int p2), .val (.ref a3), .val (.int p4), .val (.int p5), .val (.ref a6), .val (.int (own_nf p5)), .val (.int (1 : Int32)), .val (.int (0 : Int32)), .val (.int (f 0))] [])) _
        refine XS.iinc X21.here hx rfl (hb hby d1_60) rfl (l' := #[.val (.ref a1), .val (.int p2), .val (.ref a3), .val (.int p4), .val (.int p5), .val (.ref a6), .val (.int (own_nf p5)), .val (.int (1 : Int32)), .val (.int (1 : Int32)), .val (.int (f 0))]) rfl ?_
        show Steps p.tables e below (T21.setTop (mkF m 63 #[.val (.ref a1), .val (.int p2), .val (.ref a3), .val (.int p4), .val (.int p5), .val (.ref a6), .val (.int (own_nf p5)), .val (.int (1 : Int32)), .val (.int (1 : Int32)), .val (.int (f 0))] [])) _
        refine XS.goto X21.here hx rfl (pc0 := 63) (pc' := 18) rfl (hb hby d1_63) (by decide) (by decide) ?_
        show Steps p.tables e below (T21.setTop (mkF m 18 #[.val (.ref a1), .val (.int p2), .val (.ref a3), .val (.int p4), .val (.int p5), .val (.ref a6), .val (.int (own_nf p5)), .val (.int (1 : Int32)), .val (.int (1 : Int32)), .val (.int (f 0))] [])) _
        refine XS.iload X21.here hx rfl (hb hby d1_18) rfl ?_
        refine XS.iloadN X21.here hx rfl (hb hby d1_20) rfl ?_
        refine XS.icmpNo X21.here hx rfl (hb hby d1_21) rfl (tlt ((by rw [hk]; decide) : ((1 : Int32) < p4))).2.1 ?_
        show Steps p.tables e below (T21.setTop (mkF m 24 #[.val (.ref a1), .val (.int p2), .val (.ref a3), .val (.int p4), .val (.int p5), .val (.ref a6), .val (.int (own_nf p5)), .val (.int (1 : Int32)), .val (.int (1 : Int32)), .val (.int (f 0))] [])) _
        refine XS.aloadN X21.here hx rfl (hb hby d1_24) rfl rfl ?_
        refine XS.iload X21.here hx rfl (hb hby d1_25) rfl ?_
        show Steps p.tables e below (T21.setTop (mkF m 27 #[.val (.ref a1), .val (.int p2), .val (.ref a3), .val (.int p4), .val (.int p5), .val (.ref a6), .val (.int (own_nf p5)), .val (.int (1 : Int32)), .val (.int (1 : Int32)), .val (.int (f 0))] [(.int (1 : Int32)), (.ref a3)])) _
        refine X21.caload hx (j := (1 : Int32)) (v := (.int (f 1))) (by rw [e21]; exact Ar36.1) (State.isArrayOf_alike hZ.alike Ar36.2.1) Ar36.2.2 hin36 hat36 (g := (mkF m 27 #[.val (.ref a1), .val (.int p2), .val (.ref a3), .val (.int p4), .val (.int p5), .val (.ref a6), .val (.int (own_nf p5)), .val (.int (1 : Int32)), .val (.int (1 : Int32)), .val (.int (f 0))] [(.int (1 : Int32)), (.ref a3)])) rfl rfl (hb hby d1_27) _ ?_
        show Steps p.tables e below (T21.setTop (mkF m 28 #[.val (.ref a1), .val (.int p2), .val (.ref a3), .val (.int p4), .val (.int p5), .val (.ref a6), .val (.int (own_nf p5)), .val (.int (1 : Int32)), .val (.int (1 : Int32)), .val (.int (f 0))] [(.int (f 1))])) _
        refine XS.istore X21.here hx rfl (hb hby d1_28) rfl (l' := #[.val (.ref a1), .val (.int p2), .val (.ref a3), .val (.int p4), .val (.int p5), .val (.ref a6), .val (.int (own_nf p5)), .val (.int (1 : Int32)), .val (.int (1 : Int32)), .val (.int (f 1))]) rfl ?_
        show Steps p.tables e below (T21.setTop (mkF m 30 #[.val (.ref a1), .val (.int p2), .val (.ref a3), .val (.int p4), .val (.int p5), .val (.ref a6), .val (.int (own_nf p5)), .val (.int (1 : Int32)), .val (.int (1 : Int32)), .val (.int (f 1))] [])) _
        refine XS.aload X21.here hx rfl (hb hby d1_30) rfl rfl ?_
        refine XS.iload X21.here hx rfl (hb hby d1_32) rfl ?_
        refine XS.iload X21.here hx rfl (hb hby d1_34) rfl ?_
        show Steps p.tables e below (T21.setTop (mkF m 36 #[.val (.ref a1), .val (.int p2), .val (.ref a3), .val (.int p4), .val (.int p5), .val (.ref a6), .val (.int (own_nf p5)), .val (.int (1 : Int32)), .val (.int (1 : Int32)), .val (.int (f 1))] [(.int (f 1)), (.int (1 : Int32)), (.ref a6)])) _
        refine st37 _ ?_
        show Steps p.tables e below (T37.setTop (mkF m 37 #[.val (.ref a1), .val (.int p2), .val (.ref a3), .val (.int p4), .val (.int p5), .val (.ref a6), .val (.int (own_nf p5)), .val (.int (1 : Int32)), .val (.int (1 : Int32)), .val (.int (f 1))] [])) _
        refine XS.iload X37.here hx rfl (hb hby d1_37) rfl ?_
        refine XS.aloadN X37.here hx rfl (hb hby d1_39) rfl rfl ?_
        refine XS.iload X37.here hx rfl (hb hby d1_40) rfl ?_
        show Steps p.tables e below (T37.setTop (mkF m 42 #[.val (.ref a1), .val (.int p2), .val (.ref a3), .val (.int p4), .val (.int p5), .val (.ref a6), .val (.int (own_nf p5)), .val (.int (1 : Int32)), .val (.int (1 : Int32)), .val (.int (f 1))] [(.int (f 1)), (.ref a1), (.int (1 : Int32))])) _
        refine XS.bipush X37.here hx rfl (hb hby d1_42) ?_
        refine XS.iushr X37.here hx rfl (hb hby d1_44) rfl ?_
        show Steps p.tables e below (T37.setTop (mkF m 45 #[.val (.ref a1), .val (.int p2), .val (.ref a3), .val (.int p4), .val (.int p5), .val (.ref a6), .val (.int (own_nf p5)), .val (.int (1 : Int32)), .val (.int (1 : Int32)), .val (.int (f 1))] [(.int (((f 1).toUInt32 >>> ((6 : Int32) &&& 31).toUInt32).toInt32)), (.ref a1), (.int (1 : Int32))])) _
        refine XS.iloadN X37.here hx rfl (hb hby d1_45) rfl ?_
        refine XS.isub X37.here hx rfl (hb hby d1_46) rfl ?_
        show Steps p.tables e below (T37.setTop (mkF m 47 #[.val (.ref a1), .val (.int p2), .val (.ref a3), .val (.int p4), .val (.int p5), .val (.ref a6), .val (.int (own_nf p5)), .val (.int (1 : Int32)), .val (.int (1 : Int32)), .val (.int (f 1))] [(.int (own_j (f 1) p2)), (.ref a1), (.int (1 : Int32))])) _
        refine X37.laload hx (j := (own_j (f 1) p2)) (v := (.long (g (own_j (f 1) p2).toNatClampNeg))) (by rw [e37]; exact Ar38.1) (State.isArrayOf_alike hZ.alike Ar38.2.1) Ar38.2.2 hin38 hat38 (g := (mkF m 47 #[.val (.ref a1), .val (.int p2), .val (.ref a3), .val (.int p4), .val (.int p5), .val (.ref a6), .val (.int (own_nf p5)), .val (.int (1 : Int32)), .val (.int (1 : Int32)), .val (.int (f 1))] [(.int (own_j (f 1) p2)), (.ref a1), (.int (1 : Int32))])) rfl rfl (hb hby d1_47) _ ?_
        show Steps p.tables e below (T37.setTop (mkF m 48 #[.val (.ref a1), .val (.int p2), .val (.ref a3), .val (.int p4), .val (.int p5), .val (.ref a6), .val (.int (own_nf p5)), .val (.int (1 : Int32)), .val (.int (1 : Int32)), .val (.int (f 1))] [(.long (g (own_j (f 1) p2).toNatClampNeg)), (.int (1 : Int32))])) _
        refine XS.iload X37.here hx rfl (hb hby d1_48) rfl ?_
        refine XS.lushr X37.here hx rfl (hb hby d1_50) rfl ?_
        show Steps p.tables e below (T37.setTop (mkF m 51 #[.val (.ref a1), .val (.int p2), .val (.ref a3), .val (.int p4), .val (.int p5), .val (.ref a6), .val (.int (own_nf p5)), .val (.int (1 : Int32)), .val (.int (1 : Int32)), .val (.int (f 1))] [(.long (((g (own_j (f 1) p2).toNatClampNeg).toUInt64 >>> ((f 1) &&& 0x3f).toInt64.toUInt64).toInt64)), (.int (1 : Int32))])) _
        refine XS.l2i X37.here hx rfl (hb hby d1_51) rfl ?_
        refine XS.iconst X37.here hx rfl (hb hby d1_52) ?_
        refine XS.iand X37.here hx rfl (hb hby d1_53) rfl ?_
        show Steps p.tables e below (T37.setTop (mkF m 54 #[.val (.ref a1), .val (.int p2), .val (.ref a3), .val (.int p4), .val (.int p5), .val (.ref a6), .val (.int (own_nf p5)), .val (.int (1 : Int32)), .val (.int (1 : Int32)), .val (.int (f 1))] [(.int (((((g (own_j (f 1) p2).toNatClampNeg).toUInt64 >>> ((f 1) &&& 0x3f).toInt64.toUInt64).toInt64).toInt32) &&& (1 : Int32))), (.int (1 : Int32))])) _
        refine XS.iload X37.here hx rfl (hb hby d1_54) rfl ?_
        refine XS.ixor X37.here hx rfl (hb hby d1_56) rfl ?_
        show Steps p.tables e below (T37.setTop (mkF m 57 #[.val (.ref a1), .val (.int p2), .val (.ref a3), .val (.int p4), .val (.int p5), .val (.ref a6), .val (.int (own_nf p5)), .val (.int (1 : Int32)), .val (.int (1 : Int32)), .val (.int (f 1))] [(.int (own_x g p2 (own_nf p5) (f 1))), (.int (1 : Int32))])) _
        exact k
      rcases own_01 g p2 (own_nf p5) (f 1) (own_nf01 p5) with hb1 | hb1
      · obtain ⟨cl40, Ar40, S40, H40⟩ := id V0_v37
        have hin40 : ¬ ((2 : Int32) < 0 ∨ cl40.slots.size ≤ ((2 : Int32)).toNatClampNeg) := inA S40 (by decide) (by decide)
        have hat40 : cl40.slots[((2 : Int32)).toNatClampNeg]? = some (.int (f 2)) := ArF.at S40 H40 hin40 rfl
        obtain ⟨cl41, Ar41, S41, H41⟩ := id V37_v37
        have hin41 : ¬ ((1 : Int32) < 0 ∨ cl41.slots.size ≤ ((1 : Int32)).toNatClampNeg) := inA S41 (by decide) (by decide)
        obtain ⟨T41, h41, X41, e41, W41, st41⟩ := stC X37 hx hZ e37 Ar41 (j := (1 : Int32)) hin41 (g := (mkF m 36 #[.val (.ref a1), .val (.int p2), .val (.ref a3), .val (.int p4), .val (.int p5), .val (.ref a6), .val (.int (own_nf p5)), .val (.int (1 : Int32)), .val (.int (2 : Int32)), .val (.int (f 2))] [(.int (f 2)), (.int (1 : Int32)), (.ref a6)])) rfl rfl (hb hby d1_36)
        have W0_v41 := W0_v37.other W41 hne
        have V0_v41 := V0_v37.other W41 hne3
        have Z41 : n0 ≤ h41.size := Nat.le_trans Z37 (Nat.le_of_eq W41.size.symm)
        have K41 := K37.wr W41 (Or.inl (by simp))
        have V41_v41 := ArF.set Ar41 S41 H41 W41 hin41
        have N41 := Fr.snoc X41 N37 ga
        obtain ⟨cl42, Ar42, S42, H42⟩ := id W0_v41
        have hin42 : ¬ ((own_j (f 2) p2) < 0 ∨ cl42.slots.size ≤ ((own_j (f 2) p2)).toNatClampNeg) := inA S42 (hix 2 (by decide)).2.1 (hix 2 (by decide)).2.2
        have hat42 : cl42.slots[((own_j (f 2) p2)).toNatClampNeg]? = some (.long (g (own_j (f 2) p2).toNatClampNeg)) := ArF.at S42 H42 hin42 rfl
        have pre43 : ∀ t, Steps p.tables e below (T41.setTop (mkF m 57 #[.val (.ref a1), .val (.int p2), .val (.ref a3), .val (.int p4), .val (.int p5), .val (.ref a6), .val (.int (own_nf p5)), .val (.int (1 : Int32)), .val (.int (2 : Int32)), .val (.int (f 2))] [(.int (own_x g p2 (own_nf p5) (f 2))), (.int (1 : Int32))])) t → Steps p.tables e below (s₁.setTop (entryFrame m #[(.ref a1), (.int p2), (.ref a3), (.int p4), (.int p5), (.ref a6)] 10)) t := by
          intro t k
          refine pre39 t ?_
          show Steps p.tables e below (T37.setTop (mkF m 57 #[.val (.ref a1), .val (.int p2), .val (.ref a3), .val (.int p4), .val (.int p5), .val (.ref a6), .val (.int (own_nf p5)), .val (.int (1 : Int32)), .val (.int (1 : Int32)), .val (.int (f 1))] [(.int (own_x g p2 (own_nf p5) (f 1))), (.int (1 : Int32))])) _
          rw [hb1]
          show Steps p.tables e below (T37.setTop (mkF m 57 #[.val (.ref a1), .val (.int p2), .val (.ref a3), .val (.int p4), .val (.int p5), .val (.ref a6), .val (.int (own_nf p5)), .val (.int (1 : Int32)), .val (.int (1 : Int32)), .val (.int (f 1))] [(.int (0 : Int32)), (.int (1 : Int32))])) _
          refine XS.iadd X37.here hx rfl (hb hby d1_57) rfl ?_
          show Steps p.tables e below (T37.setTop (mkF m 58 #[.val (.ref a1), .val (.int p2), .val (.ref a3), .val (.int p4), .val (.int p5), .val (.ref a6), .val (.int (own_nf p5)), .val (.int (1 : Int32)), .val (.int (1 : Int32)), .val (.int (f 1))] [(.int (1 : Int32))])) _
          refine XS.istore X37.here hx rfl (hb hby d1_58) rfl (l' := #[.val (.ref a1), .val (.int p2), .val (.ref a3), .val (.int p4), .val (.int p5), .val (.ref a6), .val (.int (own_nf p5)), .val (.int (1 : Int32)), .val (.int (1 : Int32)), .val (.int (f 1))]) rfl ?_
          show Steps p.tables e below (T37.setTop (mkF m 60 #[.val (.ref a1), .val (.int p2), .val (.ref a3), .val (.int p4), .val (.int p5), .val (.ref a6), .val (.int (own_nf p5)), .val (.int (1 : Int32)), .val (.int (1 : Int32)), .val (.int (f 1))] [])) _
          refine XS.iinc X37.here hx rfl (hb hby d1_60) rfl (l' := #[.val (.ref a1), .val (.int p2), .val (.ref a3), .val (.int p4), .val (.int p5), .val (.ref a6), .val (.int (own_nf p5)), .val (.int (1 : Int32)), .val (.int (2 : Int32)), .val (.int (f 1))]) rfl ?_
          show Steps p.tables e below (T37.setTop (mkF m 63 #[.val (.ref a1), .val (.int p2), .val (.ref a3), .val (.int p4), .val (.int p5), .val (.ref a6), .val (.int (own_nf p5)), .val (.int (1 : Int32)), .val (.int (2 : Int32)), .val (.int (f 1))] [])) _
          refine XS.goto X37.here hx rfl (pc0 := 63) (pc' := 18) rfl (hb hby d1_63) (by decide) (by decide) ?_
          show Steps p.tables e below (T37.setTop (mkF m 18 #[.val (.ref a1), .val (.int p2), .val (.ref a3), .val (.int p4), .val (.int p5), .val (.ref a6), .val (.int (own_nf p5)), .val (.int (1 : Int32)), .val (.int (2 : Int32)), .val (.int (f 1))] [])) _
          refine XS.iload X37.here hx rfl (hb hby d1_18) rfl ?_
          refine XS.iloadN X37.here hx rfl (hb hby d1_20) rfl ?_
          refine XS.icmpNo X37.here hx rfl (hb hby d1_21) rfl (tlt ((by rw [hk]; decide) : ((2 : Int32) < p4))).2.1 ?_
          show Steps p.tables e below (T37.setTop (mkF m 24 #[.val (.ref a1), .val (.int p2), .val (.ref a3), .val (.int p4), .val (.int p5), .val (.ref a6), .val (.int (own_nf p5)), .val (.int (1 : Int32)), .val (.int (2 : Int32)), .val (.int (f 1))] [])) _
          refine XS.aloadN X37.here hx rfl (hb hby d1_24) rfl rfl ?_
          refine XS.iload X37.here hx rfl (hb hby d1_25) rfl ?_
          show Steps p.tables e below (T37.setTop (mkF m 27 #[.val (.ref a1), .val (.int p2), .val (.ref a3), .val (.int p4), .val (.int p5), .val (.ref a6), .val (.int (own_nf p5)), .val (.int (1 : Int32)), .val (.int (2 : Int32)), .val (.int (f 1))] [(.int (2 : Int32)), (.ref a3)])) _
          refine X37.caload hx (j := (2 : Int32)) (v := (.int (f 2))) (by rw [e37]; exact Ar40.1) (State.isArrayOf_alike hZ.alike Ar40.2.1) Ar40.2.2 hin40 hat40 (g := (mkF m 27 #[.val (.ref a1), .val (.int p2), .val (.ref a3), .val (.int p4), .val (.int p5), .val (.ref a6), .val (.int (own_nf p5)), .val (.int (1 : Int32)), .val (.int (2 : Int32)), .val (.int (f 1))] [(.int (2 : Int32)), (.ref a3)])) rfl rfl (hb hby d1_27) _ ?_
          show Steps p.tables e below (T37.setTop (mkF m 28 #[.val (.ref a1), .val (.int p2), .val (.ref a3), .val (.int p4), .val (.int p5), .val (.ref a6), .val (.int (own_nf p5)), .val (.int (1 : Int32)), .val (.int (2 : Int32)), .val (.int (f 1))] [(.int (f 2))])) _
          refine XS.istore X37.here hx rfl (hb hby d1_28) rfl (l' := #[.val (.ref a1), .val (.int p2), .val (.ref a3), .val (.int p4), .val (.int p5), .val (.ref a6), .val (.int (own_nf p5)), .val (.int (1 : Int32)), .val (.int (2 : Int32)), .val (.int (f 2))]) rfl ?_
          show Steps p.tables e below (T37.setTop (mkF m 30 #[.val (.ref a1), .val (.int p2), .val (.ref a3), .val (.int p4), .val (.int p5), .val (.ref a6), .val (.int (own_nf p5)), .val (.int (1 : Int32)), .val (.int (2 : Int32)), .val (.int (f 2))] [])) _
          refine XS.aload X37.here hx rfl (hb hby d1_30) rfl rfl ?_
          refine XS.iload X37.here hx rfl (hb hby d1_32) rfl ?_
          refine XS.iload X37.here hx rfl (hb hby d1_34) rfl ?_
          show Steps p.tables e below (T37.setTop (mkF m 36 #[.val (.ref a1), .val (.int p2), .val (.ref a3), .val (.int p4), .val (.int p5), .val (.ref a6), .val (.int (own_nf p5)), .val (.int (1 : Int32)), .val (.int (2 : Int32)), .val (.int (f 2))] [(.int (f 2)), (.int (1 : Int32)), (.ref a6)])) _
          refine st41 _ ?_
          show Steps p.tables e below (T41.setTop (mkF m 37 #[.val (.ref a1), .val (.int p2), .val (.ref a3), .val (.int p4), .val (.int p5), .val (.ref a6), .val (.int (own_nf p5)), .val (.int (1 : Int32)), .val (.int (2 : Int32)), .val (.int (f 2))] [])) _
          refine XS.iload X41.here hx rfl (hb hby d1_37) rfl ?_
          refine XS.aloadN X41.here hx rfl (hb hby d1_39) rfl rfl ?_
          refine XS.iload X41.here hx rfl (hb hby d1_40) rfl ?_
          show Steps p.tables e below (T41.setTop (mkF m 42 #[.val (.ref a1), .val (.int p2), .val (.ref a3), .val (.int p4), .val (.int p5), .val (.ref a6), .val (.int (own_nf p5)), .val (.int (1 : Int32)), .val (.int (2 : Int32)), .val (.int (f 2))] [(.int (f 2)), (.ref a1), (.int (1 : Int32))])) _
          refine XS.bipush X41.here hx rfl (hb hby d1_42) ?_
          refine XS.iushr X41.here hx rfl (hb hby d1_44) rfl ?_
          show Steps p.tables e below (T41.setTop (mkF m 45 #[.val (.ref a1), .val (.int p2), .val (.ref a3), .val (.int p4), .val (.int p5), .val (.ref a6), .val (.int (own_nf p5)), .val (.int (1 : Int32)), .val (.int (2 : Int32)), .val (.int (f 2))] [(.int (((f 2).toUInt32 >>> ((6 : Int32) &&& 31).toUInt32).toInt32)), (.ref a1), (.int (1 : Int32))])) _
          refine XS.iloadN X41.here hx rfl (hb hby d1_45) rfl ?_
          refine XS.isub X41.here hx rfl (hb hby d1_46) rfl ?_
          show Steps p.tables e below (T41.setTop (mkF m 47 #[.val (.ref a1), .val (.int p2), .val (.ref a3), .val (.int p4), .val (.int p5), .val (.ref a6), .val (.int (own_nf p5)), .val (.int (1 : Int32)), .val (.int (2 : Int32)), .val (.int (f 2))] [(.int (own_j (f 2) p2)), (.ref a1), (.int (1 : Int32))])) _
          refine X41.laload hx (j := (own_j (f 2) p2)) (v := (.long (g (own_j (f 2) p2).toNatClampNeg))) (by rw [e41]; exact Ar42.1) (State.isArrayOf_alike hZ.alike Ar42.2.1) Ar42.2.2 hin42 hat42 (g := (mkF m 47 #[.val (.ref a1), .val (.int p2), .val (.ref a3), .val (.int p4), .val (.int p5), .val (.ref a6), .val (.int (own_nf p5)), .val (.int (1 : Int32)), .val (.int (2 : Int32)), .val (.int (f 2))] [(.int (own_j (f 2) p2)), (.ref a1), (.int (1 : Int32))])) rfl rfl (hb hby d1_47) _ ?_
          show Steps p.tables e below (T41.setTop (mkF m 48 #[.val (.ref a1), .val (.int p2), .val (.ref a3), .val (.int p4), .val (.int p5), .val (.ref a6), .val (.int (own_nf p5)), .val (.int (1 : Int32)), .val (.int (2 : Int32)), .val (.int (f 2))] [(.long (g (own_j (f 2) p2).toNatClampNeg)), (.int (1 : Int32))])) _
          refine XS.iload X41.here hx rfl (hb hby d1_48) rfl ?_
          refine XS.lushr X41.here hx rfl (hb hby d1_50) rfl ?_
          show Steps p.tables e below (T41.setTop (mkF m 51 #[.val (.ref a1), .val (.int p2), .val (.ref a3), .val (.int p4), .val (.int p5), .val (.ref a6), .val (.int (own_nf p5)), .val (.int (1 : Int32)), .val (.int (2 : Int32)), .val (.int (f 2))] [(.long (((g (own_j (f 2) p2).toNatClampNeg).toUInt64 >>> ((f 2) &&& 0x3f).toInt64.toUInt64).toInt64)), (.int (1 : Int32))])) _
          refine XS.l2i X41.here hx rfl (hb hby d1_51) rfl ?_
          refine XS.iconst X41.here hx rfl (hb hby d1_52) ?_
          refine XS.iand X41.here hx rfl (hb hby d1_53) rfl ?_
          show Steps p.tables e below (T41.setTop (mkF m 54 #[.val (.ref a1), .val (.int p2), .val (.ref a3), .val (.int p4), .val (.int p5), .val (.ref a6), .val (.int (own_nf p5)), .val (.int (1 : Int32)), .val (.int (2 : Int32)), .val (.int (f 2))] [(.int (((((g (own_j (f 2) p2).toNatClampNeg).toUInt64 >>> ((f 2) &&& 0x3f).toInt64.toUInt64).toInt64).toInt32) &&& (1 : Int32))), (.int (1 : Int32))])) _
          refine XS.iload X41.here hx rfl (hb hby d1_54) rfl ?_
          refine XS.ixor X41.here hx rfl (hb hby d1_56) rfl ?_
          show Steps p.tables e below (T41.setTop (mkF m 57 #[.val (.ref a1), .val (.int p2), .val (.ref a3), .val (.int p4), .val (.int p5), .val (.ref a6), .val (.int (own_nf p5)), .val (.int (1 : Int32)), .val (.int (2 : Int32)), .val (.int (f 2))] [(.int (own_x g p2 (own_nf p5) (f 2))), (.int (1 : Int32))])) _
          exact k
        rcases own_01 g p2 (own_nf p5) (f 2) (own_nf01 p5) with hb2 | hb2
        · obtain ⟨fs, hr, hrun, hended, hW, hsame⟩ := X41.leave (v := some (.int (1 : Int32))) (fun h => by rw [Bd.returns] at h; cases h)
          refine ⟨_, _, pre43 _ ?_, hrun, hended, _, _, rfl, ?_, ⟨_, rfl⟩, hW, hsame.mono (by decide) (by decide)⟩
          · show Steps p.tables e below (T41.setTop (mkF m 57 #[.val (.ref a1), .val (.int p2), .val (.ref a3), .val (.int p4), .val (.int p5), .val (.ref a6), .val (.int (own_nf p5)), .val (.int (1 : Int32)), .val (.int (2 : Int32)), .val (.int (f 2))] [(.int (own_x g p2 (own_nf p5) (f 2))), (.int (1 : Int32))])) _
            rw [hb2]
            show Steps p.tables e below (T41.setTop (mkF m 57 #[.val (.ref a1), .val (.int p2), .val (.ref a3), .val (.int p4), .val (.int p5), .val (.ref a6), .val (.int (own_nf p5)), .val (.int (1 : Int32)), .val (.int (2 : Int32)), .val (.int (f 2))] [(.int (0 : Int32)), (.int (1 : Int32))])) _
            refine XS.iadd X41.here hx rfl (hb hby d1_57) rfl ?_
            show Steps p.tables e below (T41.setTop (mkF m 58 #[.val (.ref a1), .val (.int p2), .val (.ref a3), .val (.int p4), .val (.int p5), .val (.ref a6), .val (.int (own_nf p5)), .val (.int (1 : Int32)), .val (.int (2 : Int32)), .val (.int (f 2))] [(.int (1 : Int32))])) _
            refine XS.istore X41.here hx rfl (hb hby d1_58) rfl (l' := #[.val (.ref a1), .val (.int p2), .val (.ref a3), .val (.int p4), .val (.int p5), .val (.ref a6), .val (.int (own_nf p5)), .val (.int (1 : Int32)), .val (.int (2 : Int32)), .val (.int (f 2))]) rfl ?_
            show Steps p.tables e below (T41.setTop (mkF m 60 #[.val (.ref a1), .val (.int p2), .val (.ref a3), .val (.int p4), .val (.int p5), .val (.ref a6), .val (.int (own_nf p5)), .val (.int (1 : Int32)), .val (.int (2 : Int32)), .val (.int (f 2))] [])) _
            refine XS.iinc X41.here hx rfl (hb hby d1_60) rfl (l' := #[.val (.ref a1), .val (.int p2), .val (.ref a3), .val (.int p4), .val (.int p5), .val (.ref a6), .val (.int (own_nf p5)), .val (.int (1 : Int32)), .val (.int (3 : Int32)), .val (.int (f 2))]) rfl ?_
            show Steps p.tables e below (T41.setTop (mkF m 63 #[.val (.ref a1), .val (.int p2), .val (.ref a3), .val (.int p4), .val (.int p5), .val (.ref a6), .val (.int (own_nf p5)), .val (.int (1 : Int32)), .val (.int (3 : Int32)), .val (.int (f 2))] [])) _
            refine XS.goto X41.here hx rfl (pc0 := 63) (pc' := 18) rfl (hb hby d1_63) (by decide) (by decide) ?_
            show Steps p.tables e below (T41.setTop (mkF m 18 #[.val (.ref a1), .val (.int p2), .val (.ref a3), .val (.int p4), .val (.int p5), .val (.ref a6), .val (.int (own_nf p5)), .val (.int (1 : Int32)), .val (.int (3 : Int32)), .val (.int (f 2))] [])) _
            refine XS.iload X41.here hx rfl (hb hby d1_18) rfl ?_
            refine XS.iloadN X41.here hx rfl (hb hby d1_20) rfl ?_
            refine XS.icmpYes X41.here hx rfl (pc0 := 21) (pc' := 66) rfl (hb hby d1_21) rfl (flt ((by rw [hk]; decide) : ¬ ((3 : Int32) < p4))).2.1 (by decide) (by decide) ?_
            show Steps p.tables e below (T41.setTop (mkF m 66 #[.val (.ref a1), .val (.int p2), .val (.ref a3), .val (.int p4), .val (.int p5), .val (.ref a6), .val (.int (own_nf p5)), .val (.int (1 : Int32)), .val (.int (3 : Int32)), .val (.int (f 2))] [])) _
            refine XS.iload X41.here hx rfl (hb hby d1_66) rfl ?_
            show Steps p.tables e below (T41.setTop (mkF m 68 #[.val (.ref a1), .val (.int p2), .val (.ref a3), .val (.int p4), .val (.int p5), .val (.ref a6), .val (.int (own_nf p5)), .val (.int (1 : Int32)), .val (.int (3 : Int32)), .val (.int (f 2))] [(.int (1 : Int32))])) _
            exact retI X41 hx Bd.returns (hb hby d1_68) hr
          · show Q_rm1b Z a1 p2 a3 p4 p5 a6 f g eo h0 n0 _ T41.heap _
            rw [e41]
            have hs : (own_sel p4 (fun i => own_x g p2 (own_nf p5) (f i)) f) = [(f 0)] := by
              show (if (0 : Int32) < p4 then (if own_x g p2 (own_nf p5) (f 0) = (0 : Int32) then [] else [f 0]) else []) ++ ((if (1 : Int32) < p4 then (if own_x g p2 (own_nf p5) (f 1) = (0 : Int32) then [] else [f 1]) else []) ++ (if (2 : Int32) < p4 then (if own_x g p2 (own_nf p5) (f 2) = (0 : Int32) then [] else [f 2]) else [])) = _
              rw [hb0, hb1, hb2, hk]; rfl
            have hV : ArF Z h41 a6 .char 3 (fun i => .int ((fun i => if i = 0 then (f 0) else if i = 1 then (f 2) else (eo 2)) i)) := V41_v41.congr (fun i hi => by
              match i, hi with
              | 0, _ => exact congrArg Value.int (own_nar (hix 0 (by decide)).1)
              | 1, _ => exact congrArg Value.int (own_nar (hix 2 (by decide)).1)
              | 2, _ => rfl)
            exact ⟨(fun i => if i = 0 then (f 0) else if i = 1 then (f 2) else (eo 2)), by rw [hs]; rfl, N41, K41, hV, (by rw [hs]; intro i hi; have hj : i = 0 := by { simp only [List.length_cons, List.length_nil] at hi; omega }; rcases hj with rfl <;> rfl)⟩
        · obtain ⟨fs, hr, hrun, hended, hW, hsame⟩ := X41.leave (v := some (.int (2 : Int32))) (fun h => by rw [Bd.returns] at h; cases h)
          refine ⟨_, _, pre43 _ ?_, hrun, hended, _, _, rfl, ?_, ⟨_, rfl⟩, hW, hsame.mono (by decide) (by decide)⟩
          · show Steps p.tables e below (T41.setTop (mkF m 57 #[.val (.ref a1), .val (.int p2), .val (.ref a3), .val (.int p4), .val (.int p5), .val (.ref a6), .val (.int (own_nf p5)), .val (.int (1 : Int32)), .val (.int (2 : Int32)), .val (.int (f 2))] [(.int (own_x g p2 (own_nf p5) (f 2))), (.int (1 : Int32))])) _
            rw [hb2]
            show Steps p.tables e below (T41.setTop (mkF m 57 #[.val (.ref a1), .val (.int p2), .val (.ref a3), .val (.int p4), .val (.int p5), .val (.ref a6), .val (.int (own_nf p5)), .val (.int (1 : Int32)), .val (.int (2 : Int32)), .val (.int (f 2))] [(.int (1 : Int32)), (.int (1 : Int32))])) _
            refine XS.iadd X41.here hx rfl (hb hby d1_57) rfl ?_
            show Steps p.tables e below (T41.setTop (mkF m 58 #[.val (.ref a1), .val (.int p2), .val (.ref a3), .val (.int p4), .val (.int p5), .val (.ref a6), .val (.int (own_nf p5)), .val (.int (1 : Int32)), .val (.int (2 : Int32)), .val (.int (f 2))] [(.int (2 : Int32))])) _
            refine XS.istore X41.here hx rfl (hb hby d1_58) rfl (l' := #[.val (.ref a1), .val (.int p2), .val (.ref a3), .val (.int p4), .val (.int p5), .val (.ref a6), .val (.int (own_nf p5)), .val (.int (2 : Int32)), .val (.int (2 : Int32)), .val (.int (f 2))]) rfl ?_
            show Steps p.tables e below (T41.setTop (mkF m 60 #[.val (.ref a1), .val (.int p2), .val (.ref a3), .val (.int p4), .val (.int p5), .val (.ref a6), .val (.int (own_nf p5)), .val (.int (2 : Int32)), .val (.int (2 : Int32)), .val (.int (f 2))] [])) _
            refine XS.iinc X41.here hx rfl (hb hby d1_60) rfl (l' := #[.val (.ref a1), .val (.int p2), .val (.ref a3), .val (.int p4), .val (.int p5), .val (.ref a6), .val (.int (own_nf p5)), .val (.int (2 : Int32)), .val (.int (3 : Int32)), .val (.int (f 2))]) rfl ?_
            show Steps p.tables e below (T41.setTop (mkF m 63 #[.val (.ref a1), .val (.int p2), .val (.ref a3), .val (.int p4), .val (.int p5), .val (.ref a6), .val (.int (own_nf p5)), .val (.int (2 : Int32)), .val (.int (3 : Int32)), .val (.int (f 2))] [])) _
            refine XS.goto X41.here hx rfl (pc0 := 63) (pc' := 18) rfl (hb hby d1_63) (by decide) (by decide) ?_
            show Steps p.tables e below (T41.setTop (mkF m 18 #[.val (.ref a1), .val (.int p2), .val (.ref a3), .val (.int p4), .val (.int p5), .val (.ref a6), .val (.int (own_nf p5)), .val (.int (2 : Int32)), .val (.int (3 : Int32)), .val (.int (f 2))] [])) _
            refine XS.iload X41.here hx rfl (hb hby d1_18) rfl ?_
            refine XS.iloadN X41.here hx rfl (hb hby d1_20) rfl ?_
            refine XS.icmpYes X41.here hx rfl (pc0 := 21) (pc' := 66) rfl (hb hby d1_21) rfl (flt ((by rw [hk]; decide) : ¬ ((3 : Int32) < p4))).2.1 (by decide) (by decide) ?_
            show Steps p.tables e below (T41.setTop (mkF m 66 #[.val (.ref a1), .val (.int p2), .val (.ref a3), .val (.int p4), .val (.int p5), .val (.ref a6), .val (.int (own_nf p5)), .val (.int (2 : Int32)), .val (.int (3 : Int32)), .val (.int (f 2))] [])) _
            refine XS.iload X41.here hx rfl (hb hby d1_66) rfl ?_
            show Steps p.tables e below (T41.setTop (mkF m 68 #[.val (.ref a1), .val (.int p2), .val (.ref a3), .val (.int p4), .val (.int p5), .val (.ref a6), .val (.int (own_nf p5)), .val (.int (2 : Int32)), .val (.int (3 : Int32)), .val (.int (f 2))] [(.int (2 : Int32))])) _
            exact retI X41 hx Bd.returns (hb hby d1_68) hr
          · show Q_rm1b Z a1 p2 a3 p4 p5 a6 f g eo h0 n0 _ T41.heap _
            rw [e41]
            have hs : (own_sel p4 (fun i => own_x g p2 (own_nf p5) (f i)) f) = [(f 0), (f 2)] := by
              show (if (0 : Int32) < p4 then (if own_x g p2 (own_nf p5) (f 0) = (0 : Int32) then [] else [f 0]) else []) ++ ((if (1 : Int32) < p4 then (if own_x g p2 (own_nf p5) (f 1) = (0 : Int32) then [] else [f 1]) else []) ++ (if (2 : Int32) < p4 then (if own_x g p2 (own_nf p5) (f 2) = (0 : Int32) then [] else [f 2]) else [])) = _
              rw [hb0, hb1, hb2, hk]; rfl
            have hV : ArF Z h41 a6 .char 3 (fun i => .int ((fun i => if i = 0 then (f 0) else if i = 1 then (f 2) else (eo 2)) i)) := V41_v41.congr (fun i hi => by
              match i, hi with
              | 0, _ => exact congrArg Value.int (own_nar (hix 0 (by decide)).1)
              | 1, _ => exact congrArg Value.int (own_nar (hix 2 (by decide)).1)
              | 2, _ => rfl)
            exact ⟨(fun i => if i = 0 then (f 0) else if i = 1 then (f 2) else (eo 2)), by rw [hs]; rfl, N41, K41, hV, (by rw [hs]; intro i hi; have hj : i = 0 ∨ i = 1 := by { simp only [List.length_cons, List.length_nil] at hi; omega }; rcases hj with rfl | rfl <;> rfl)⟩
      · obtain ⟨cl44, Ar44, S44, H44⟩ := id V0_v37
        have hin44 : ¬ ((2 : Int32) < 0 ∨ cl44.slots.size ≤ ((2 : Int32)).toNatClampNeg) := inA S44 (by decide) (by decide)
        have hat44 : cl44.slots[((2 : Int32)).toNatClampNeg]? = some (.int (f 2)) := ArF.at S44 H44 hin44 rfl
        obtain ⟨cl45, Ar45, S45, H45⟩ := id V37_v37
        have hin45 : ¬ ((2 : Int32) < 0 ∨ cl45.slots.size ≤ ((2 : Int32)).toNatClampNeg) := inA S45 (by decide) (by decide)
        obtain ⟨T45, h45, X45, e45, W45, st45⟩ := stC X37 hx hZ e37 Ar45 (j := (2 : Int32)) hin45 (g := (mkF m 36 #[.val (.ref a1), .val (.int p2), .val (.ref a3), .val (.int p4), .val (.int p5), .val (.ref a6), .val (.int (own_nf p5)), .val (.int (2 : Int32)), .val (.int (2 : Int32)), .val (.int (f 2))] [(.int (f 2)), (.int (2 : Int32)), (.ref a6)])) rfl rfl (hb hby d1_36)
        have W0_v45 := W0_v37.other W45 hne
        have V0_v45 := V0_v37.other W45 hne3
        have Z45 : n0 ≤ h45.size := Nat.le_trans Z37 (Nat.le_of_eq W45.size.symm)
        have K45 := K37.wr W45 (Or.inl (by simp))
        have V45_v45 := ArF.set Ar45 S45 H45 W45 hin45
        have N45 := Fr.snoc X45 N37 ga
        obtain ⟨cl46, Ar46, S46, H46⟩ := id W0_v45
        have hin46 : ¬ ((own_j (f 2) p2) < 0 ∨ cl46.slots.size ≤ ((own_j (f 2) p2)).toNatClampNeg) := inA S46 (hix 2 (by decide)).2.1 (hix 2 (by decide)).2.2
        have hat46 : cl46.slots[((own_j (f 2) p2)).toNatClampNeg]? = some (.long (g (own_j (f 2) p2).toNatClampNeg)) := ArF.at S46 H46 hin46 rfl
        have pre47 : ∀ t, Steps p.tables e below (T45.setTop (mkF m 57 #[.val (.ref a1), .val (.int p2), .val (.ref a3), .val (.int p4), .val (.int p5), .val (.ref a6), .val (.int (own_nf p5)), .val (.int (2 : Int32)), .val (.int (2 : Int32)), .val (.int (f 2))] [(.int (own_x g p2 (own_nf p5) (f 2))), (.int (2 : Int32))])) t → Steps p.tables e below (s₁.setTop (entryFrame m #[(.ref a1), (.int p2), (.ref a3), (.int p4), (.int p5), (.ref a6)] 10)) t := by
          intro t k
          refine pre39 t ?_
          show Steps p.tables e below (T37.setTop (mkF m 57 #[.val (.ref a1), .val (.int p2), .val (.ref a3), .val (.int p4), .val (.int p5), .val (.ref a6), .val (.int (own_nf p5)), .val (.int (1 : Int32)), .val (.int (1 : Int32)), .val (.int (f 1))] [(.int (own_x g p2 (own_nf p5) (f 1))), (.int (1 : Int32))])) _
          rw [hb1]
          show Steps p.tables e below (T37.setTop (mkF m 57 #[.val (.ref a1), .val (.int p2), .val (.ref a3), .val (.int p4), .val (.int p5), .val (.ref a6), .val (.int (own_nf p5)), .val (.int (1 : Int32)), .val (.int (1 : Int32)), .val (.int (f 1))] [(.int (1 : Int32)), (.int (1 : Int32))])) _
          refine XS.iadd X37.here hx rfl (hb hby d1_57) rfl ?_
          show Steps p.tables e below (T37.setTop (mkF m 58 #[.val (.ref a1), .val (.int p2), .val (.ref a3), .val (.int p4), .val (.int p5), .val (.ref a6), .val (.int (own_nf p5)), .val (.int (1 : Int32)), .val (.int (1 : Int32)), .val (.int (f 1))] [(.int (2 : Int32))])) _
          refine XS.istore X37.here hx rfl (hb hby d1_58) rfl (l' := #[.val (.ref a1), .val (.int p2), .val (.ref a3), .val (.int p4), .val (.int p5), .val (.ref a6), .val (.int (own_nf p5)), .val (.int (2 : Int32)), .val (.int (1 : Int32)), .val (.int (f 1))]) rfl ?_
          show Steps p.tables e below (T37.setTop (mkF m 60 #[.val (.ref a1), .val (.int p2), .val (.ref a3), .val (.int p4), .val (.int p5), .val (.ref a6), .val (.int (own_nf p5)), .val (.int (2 : Int32)), .val (.int (1 : Int32)), .val (.int (f 1))] [])) _
          refine XS.iinc X37.here hx rfl (hb hby d1_60) rfl (l' := #[.val (.ref a1), .val (.int p2), .val (.ref a3), .val (.int p4), .val (.int p5), .val (.ref a6), .val (.int (own_nf p5)), .val (.int (2 : Int32)), .val (.int (2 : Int32)), .val (.int (f 1))]) rfl ?_
          show Steps p.tables e below (T37.setTop (mkF m 63 #[.val (.ref a1), .val (.int p2), .val (.ref a3), .val (.int p4), .val (.int p5), .val (.ref a6), .val (.int (own_nf p5)), .val (.int (2 : Int32)), .val (.int (2 : Int32)), .val (.int (f 1))] [])) _
          refine XS.goto X37.here hx rfl (pc0 := 63) (pc' := 18) rfl (hb hby d1_63) (by decide) (by decide) ?_
          show Steps p.tables e below (T37.setTop (mkF m 18 #[.val (.ref a1), .val (.int p2), .val (.ref a3), .val (.int p4), .val (.int p5), .val (.ref a6), .val (.int (own_nf p5)), .val (.int (2 : Int32)), .val (.int (2 : Int32)), .val (.int (f 1))] [])) _
          refine XS.iload X37.here hx rfl (hb hby d1_18) rfl ?_
          refine XS.iloadN X37.here hx rfl (hb hby d1_20) rfl ?_
          refine XS.icmpNo X37.here hx rfl (hb hby d1_21) rfl (tlt ((by rw [hk]; decide) : ((2 : Int32) < p4))).2.1 ?_
          show Steps p.tables e below (T37.setTop (mkF m 24 #[.val (.ref a1), .val (.int p2), .val (.ref a3), .val (.int p4), .val (.int p5), .val (.ref a6), .val (.int (own_nf p5)), .val (.int (2 : Int32)), .val (.int (2 : Int32)), .val (.int (f 1))] [])) _
          refine XS.aloadN X37.here hx rfl (hb hby d1_24) rfl rfl ?_
          refine XS.iload X37.here hx rfl (hb hby d1_25) rfl ?_
          show Steps p.tables e below (T37.setTop (mkF m 27 #[.val (.ref a1), .val (.int p2), .val (.ref a3), .val (.int p4), .val (.int p5), .val (.ref a6), .val (.int (own_nf p5)), .val (.int (2 : Int32)), .val (.int (2 : Int32)), .val (.int (f 1))] [(.int (2 : Int32)), (.ref a3)])) _
          refine X37.caload hx (j := (2 : Int32)) (v := (.int (f 2))) (by rw [e37]; exact Ar44.1) (State.isArrayOf_alike hZ.alike Ar44.2.1) Ar44.2.2 hin44 hat44 (g := (mkF m 27 #[.val (.ref a1), .val (.int p2), .val (.ref a3), .val (.int p4), .val (.int p5), .val (.ref a6), .val (.int (own_nf p5)), .val (.int (2 : Int32)), .val (.int (2 : Int32)), .val (.int (f 1))] [(.int (2 : Int32)), (.ref a3)])) rfl rfl (hb hby d1_27) _ ?_
          show Steps p.tables e below (T37.setTop (mkF m 28 #[.val (.ref a1), .val (.int p2), .val (.ref a3), .val (.int p4), .val (.int p5), .val (.ref a6), .val (.int (own_nf p5)), .val (.int (2 : Int32)), .val (.int (2 : Int32)), .val (.int (f 1))] [(.int (f 2))])) _
          refine XS.istore X37.here hx rfl (hb hby d1_28) rfl (l' := #[.val (.ref a1), .val (.int p2), .val (.ref a3), .val (.int p4), .val (.int p5), .val (.ref a6), .val (.int (own_nf p5)), .val (.int (2 : Int32)), .val (.int (2 : Int32)), .val (.int (f 2))]) rfl ?_
          show Steps p.tables e below (T37.setTop (mkF m 30 #[.val (.ref a1), .val (.int p2), .val (.ref a3), .val (.int p4), .val (.int p5), .val (.ref a6), .val (.int (own_nf p5)), .val (.int (2 : Int32)), .val (.int (2 : Int32)), .val (.int (f 2))] [])) _
          refine XS.aload X37.here hx rfl (hb hby d1_30) rfl rfl ?_
          refine XS.iload X37.here hx rfl (hb hby d1_32) rfl ?_
          refine XS.iload X37.here hx rfl (hb hby d1_34) rfl ?_
          show Steps p.tables e below (T37.setTop (mkF m 36 #[.val (.ref a1), .val (.int p2), .val (.ref a3), .val (.int p4), .val (.int p5), .val (.ref a6), .val (.int (own_nf p5)), .val (.int (2 : Int32)), .val (.int (2 : Int32)), .val (.int (f 2))] [(.int (f 2)), (.int (2 : Int32)), (.ref a6)])) _
          refine st45 _ ?_
          show Steps p.tables e below (T45.setTop (mkF m 37 #[.val (.ref a1), .val (.int p2), .val (.ref a3), .val (.int p4), .val (.int p5), .val (.ref a6), .val (.int (own_nf p5)), .val (.int (2 : Int32)), .val (.int (2 : Int32)), .val (.int (f 2))] [])) _
          refine XS.iload X45.here hx rfl (hb hby d1_37) rfl ?_
          refine XS.aloadN X45.here hx rfl (hb hby d1_39) rfl rfl ?_
          refine XS.iload X45.here hx rfl (hb hby d1_40) rfl ?_
          show Steps p.tables e below (T45.setTop (mkF m 42 #[.val (.ref a1), .val (.int p2), .val (.ref a3), .val (.int p4), .val (.int p5), .val (.ref a6), .val (.int (own_nf p5)), .val (.int (2 : Int32)), .val (.int (2 : Int32)), .val (.int (f 2))] [(.int (f 2)), (.ref a1), (.int (2 : Int32))])) _
          refine XS.bipush X45.here hx rfl (hb hby d1_42) ?_
          refine XS.iushr X45.here hx rfl (hb hby d1_44) rfl ?_
          show Steps p.tables e below (T45.setTop (mkF m 45 #[.val (.ref a1), .val (.int p2), .val (.ref a3), .val (.int p4), .val (.int p5), .val (.ref a6), .val (.int (own_nf p5)), .val (.int (2 : Int32)), .val (.int (2 : Int32)), .val (.int (f 2))] [(.int (((f 2).toUInt32 >>> ((6 : Int32) &&& 31).toUInt32).toInt32)), (.ref a1), (.int (2 : Int32))])) _
          refine XS.iloadN X45.here hx rfl (hb hby d1_45) rfl ?_
          refine XS.isub X45.here hx rfl (hb hby d1_46) rfl ?_
          show Steps p.tables e below (T45.setTop (mkF m 47 #[.val (.ref a1), .val (.int p2), .val (.ref a3), .val (.int p4), .val (.int p5), .val (.ref a6), .val (.int (own_nf p5)), .val (.int (2 : Int32)), .val (.int (2 : Int32)), .val (.int (f 2))] [(.int (own_j (f 2) p2)), (.ref a1), (.int (2 : Int32))])) _
          refine X45.laload hx (j := (own_j (f 2) p2)) (v := (.long (g (own_j (f 2) p2).toNatClampNeg))) (by rw [e45]; exact Ar46.1) (State.isArrayOf_alike hZ.alike Ar46.2.1) Ar46.2.2 hin46 hat46 (g := (mkF m 47 #[.val (.ref a1), .val (.int p2), .val (.ref a3), .val (.int p4), .val (.int p5), .val (.ref a6), .val (.int (own_nf p5)), .val (.int (2 : Int32)), .val (.int (2 : Int32)), .val (.int (f 2))] [(.int (own_j (f 2) p2)), (.ref a1), (.int (2 : Int32))])) rfl rfl (hb hby d1_47) _ ?_
          show Steps p.tables e below (T45.setTop (mkF m 48 #[.val (.ref a1), .val (.int p2), .val (.ref a3), .val (.int p4), .val (.int p5), .val (.ref a6), .val (.int (own_nf p5)), .val (.int (2 : Int32)), .val (.int (2 : Int32)), .val (.int (f 2))] [(.long (g (own_j (f 2) p2).toNatClampNeg)), (.int (2 : Int32))])) _
          refine XS.iload X45.here hx rfl (hb hby d1_48) rfl ?_
          refine XS.lushr X45.here hx rfl (hb hby d1_50) rfl ?_
          show Steps p.tables e below (T45.setTop (mkF m 51 #[.val (.ref a1), .val (.int p2), .val (.ref a3), .val (.int p4), .val (.int p5), .val (.ref a6), .val (.int (own_nf p5)), .val (.int (2 : Int32)), .val (.int (2 : Int32)), .val (.int (f 2))] [(.long (((g (own_j (f 2) p2).toNatClampNeg).toUInt64 >>> ((f 2) &&& 0x3f).toInt64.toUInt64).toInt64)), (.int (2 : Int32))])) _
          refine XS.l2i X45.here hx rfl (hb hby d1_51) rfl ?_
          refine XS.iconst X45.here hx rfl (hb hby d1_52) ?_
          refine XS.iand X45.here hx rfl (hb hby d1_53) rfl ?_
          show Steps p.tables e below (T45.setTop (mkF m 54 #[.val (.ref a1), .val (.int p2), .val (.ref a3), .val (.int p4), .val (.int p5), .val (.ref a6), .val (.int (own_nf p5)), .val (.int (2 : Int32)), .val (.int (2 : Int32)), .val (.int (f 2))] [(.int (((((g (own_j (f 2) p2).toNatClampNeg).toUInt64 >>> ((f 2) &&& 0x3f).toInt64.toUInt64).toInt64).toInt32) &&& (1 : Int32))), (.int (2 : Int32))])) _
          refine XS.iload X45.here hx rfl (hb hby d1_54) rfl ?_
          refine XS.ixor X45.here hx rfl (hb hby d1_56) rfl ?_
          show Steps p.tables e below (T45.setTop (mkF m 57 #[.val (.ref a1), .val (.int p2), .val (.ref a3), .val (.int p4), .val (.int p5), .val (.ref a6), .val (.int (own_nf p5)), .val (.int (2 : Int32)), .val (.int (2 : Int32)), .val (.int (f 2))] [(.int (own_x g p2 (own_nf p5) (f 2))), (.int (2 : Int32))])) _
          exact k
        rcases own_01 g p2 (own_nf p5) (f 2) (own_nf01 p5) with hb2 | hb2
        · obtain ⟨fs, hr, hrun, hended, hW, hsame⟩ := X45.leave (v := some (.int (2 : Int32))) (fun h => by rw [Bd.returns] at h; cases h)
          refine ⟨_, _, pre47 _ ?_, hrun, hended, _, _, rfl, ?_, ⟨_, rfl⟩, hW, hsame.mono (by decide) (by decide)⟩
          · show Steps p.tables e below (T45.setTop (mkF m 57 #[.val (.ref a1), .val (.int p2), .val (.ref a3), .val (.int p4), .val (.int p5), .val (.ref a6), .val (.int (own_nf p5)), .val (.int (2 : Int32)), .val (.int (2 : Int32)), .val (.int (f 2))] [(.int (own_x g p2 (own_nf p5) (f 2))), (.int (2 : Int32))])) _
            rw [hb2]
            show Steps p.tables e below (T45.setTop (mkF m 57 #[.val (.ref a1), .val (.int p2), .val (.ref a3), .val (.int p4), .val (.int p5), .val (.ref a6), .val (.int (own_nf p5)), .val (.int (2 : Int32)), .val (.int (2 : Int32)), .val (.int (f 2))] [(.int (0 : Int32)), (.int (2 : Int32))])) _
            refine XS.iadd X45.here hx rfl (hb hby d1_57) rfl ?_
            show Steps p.tables e below (T45.setTop (mkF m 58 #[.val (.ref a1), .val (.int p2), .val (.ref a3), .val (.int p4), .val (.int p5), .val (.ref a6), .val (.int (own_nf p5)), .val (.int (2 : Int32)), .val (.int (2 : Int32)), .val (.int (f 2))] [(.int (2 : Int32))])) _
            refine XS.istore X45.here hx rfl (hb hby d1_58) rfl (l' := #[.val (.ref a1), .val (.int p2), .val (.ref a3), .val (.int p4), .val (.int p5), .val (.ref a6), .val (.int (own_nf p5)), .val (.int (2 : Int32)), .val (.int (2 : Int32)), .val (.int (f 2))]) rfl ?_
            show Steps p.tables e below (T45.setTop (mkF m 60 #[.val (.ref a1), .val (.int p2), .val (.ref a3), .val (.int p4), .val (.int p5), .val (.ref a6), .val (.int (own_nf p5)), .val (.int (2 : Int32)), .val (.int (2 : Int32)), .val (.int (f 2))] [])) _
            refine XS.iinc X45.here hx rfl (hb hby d1_60) rfl (l' := #[.val (.ref a1), .val (.int p2), .val (.ref a3), .val (.int p4), .val (.int p5), .val (.ref a6), .val (.int (own_nf p5)), .val (.int (2 : Int32)), .val (.int (3 : Int32)), .val (.int (f 2))]) rfl ?_
            show Steps p.tables e below (T45.setTop (mkF m 63 #[.val (.ref a1), .val (.int p2), .val (.ref a3), .val (.int p4), .val (.int p5), .val (.ref a6), .val (.int (own_nf p5)), .val (.int (2 : Int32)), .val (.int (3 : Int32)), .val (.int (f 2))] [])) _
            refine XS.goto X45.here hx rfl (pc0 := 63) (pc' := 18) rfl (hb hby d1_63) (by decide) (by decide) ?_
            show Steps p.tables e below (T45.setTop (mkF m 18 #[.val (.ref a1), .val (.int p2), .val (.ref a3), .val (.int p4), .val (.int p5), .val (.ref a6), .val (.int (own_nf p5)), .val (.int (2 : Int32)), .val (.int (3 : Int32)), .val (.int (f 2))] [])) _
            refine XS.iload X45.here hx rfl (hb hby d1_18) rfl ?_
            refine XS.iloadN X45.here hx rfl (hb hby d1_20) rfl ?_
            refine XS.icmpYes X45.here hx rfl (pc0 := 21) (pc' := 66) rfl (hb hby d1_21) rfl (flt ((by rw [hk]; decide) : ¬ ((3 : Int32) < p4))).2.1 (by decide) (by decide) ?_
            show Steps p.tables e below (T45.setTop (mkF m 66 #[.val (.ref a1), .val (.int p2), .val (.ref a3), .val (.int p4), .val (.int p5), .val (.ref a6), .val (.int (own_nf p5)), .val (.int (2 : Int32)), .val (.int (3 : Int32)), .val (.int (f 2))] [])) _
            refine XS.iload X45.here hx rfl (hb hby d1_66) rfl ?_
            show Steps p.tables e below (T45.setTop (mkF m 68 #[.val (.ref a1), .val (.int p2), .val (.ref a3), .val (.int p4), .val (.int p5), .val (.ref a6), .val (.int (own_nf p5)), .val (.int (2 : Int32)), .val (.int (3 : Int32)), .val (.int (f 2))] [(.int (2 : Int32))])) _
            exact retI X45 hx Bd.returns (hb hby d1_68) hr
          · show Q_rm1b Z a1 p2 a3 p4 p5 a6 f g eo h0 n0 _ T45.heap _
            rw [e45]
            have hs : (own_sel p4 (fun i => own_x g p2 (own_nf p5) (f i)) f) = [(f 0), (f 1)] := by
              show (if (0 : Int32) < p4 then (if own_x g p2 (own_nf p5) (f 0) = (0 : Int32) then [] else [f 0]) else []) ++ ((if (1 : Int32) < p4 then (if own_x g p2 (own_nf p5) (f 1) = (0 : Int32) then [] else [f 1]) else []) ++ (if (2 : Int32) < p4 then (if own_x g p2 (own_nf p5) (f 2) = (0 : Int32) then [] else [f 2]) else [])) = _
              rw [hb0, hb1, hb2, hk]; rfl
            have hV : ArF Z h45 a6 .char 3 (fun i => .int ((fun i => if i = 0 then (f 0) else if i = 1 then (f 1) else (f 2)) i)) := V45_v45.congr (fun i hi => by
              match i, hi with
              | 0, _ => exact congrArg Value.int (own_nar (hix 0 (by decide)).1)
              | 1, _ => exact congrArg Value.int (own_nar (hix 1 (by decide)).1)
              | 2, _ => exact congrArg Value.int (own_nar (hix 2 (by decide)).1))
            exact ⟨(fun i => if i = 0 then (f 0) else if i = 1 then (f 1) else (f 2)), by rw [hs]; rfl, N45, K45, hV, (by rw [hs]; intro i hi; have hj : i = 0 ∨ i = 1 := by { simp only [List.length_cons, List.length_nil] at hi; omega }; rcases hj with rfl | rfl <;> rfl)⟩
        · obtain ⟨fs, hr, hrun, hended, hW, hsame⟩ := X45.leave (v := some (.int (3 : Int32))) (fun h => by rw [Bd.returns] at h; cases h)
          refine ⟨_, _, pre47 _ ?_, hrun, hended, _, _, rfl, ?_, ⟨_, rfl⟩, hW, hsame.mono (by decide) (by decide)⟩
          · show Steps p.tables e below (T45.setTop (mkF m 57 #[.val (.ref a1), .val (.int p2), .val (.ref a3), .val (.int p4), .val (.int p5), .val (.ref a6), .val (.int (own_nf p5)), .val (.int (2 : Int32)), .val (.int (2 : Int32)), .val (.int (f 2))] [(.int (own_x g p2 (own_nf p5) (f 2))), (.int (2 : Int32))])) _
            rw [hb2]
            show Steps p.tables e below (T45.setTop (mkF m 57 #[.val (.ref a1), .val (.int p2), .val (.ref a3), .val (.int p4), .val (.int p5), .val (.ref a6), .val (.int (own_nf p5)), .val (.int (2 : Int32)), .val (.int (2 : Int32)), .val (.int (f 2))] [(.int (1 : Int32)), (.int (2 : Int32))])) _
            refine XS.iadd X45.here hx rfl (hb hby d1_57) rfl ?_
            show Steps p.tables e below (T45.setTop (mkF m 58 #[.val (.ref a1), .val (.int p2), .val (.ref a3), .val (.int p4), .val (.int p5), .val (.ref a6), .val (.int (own_nf p5)), .val (.int (2 : Int32)), .val (.int (2 : Int32)), .val (.int (f 2))] [(.int (3 : Int32))])) _
            refine XS.istore X45.here hx rfl (hb hby d1_58) rfl (l' := #[.val (.ref a1), .val (.int p2), .val (.ref a3), .val (.int p4), .val (.int p5), .val (.ref a6), .val (.int (own_nf p5)), .val (.int (3 : Int32)), .val (.int (2 : Int32)), .val (.int (f 2))]) rfl ?_
            show Steps p.tables e below (T45.setTop (mkF m 60 #[.val (.ref a1), .val (.int p2), .val (.ref a3), .val (.int p4), .val (.int p5), .val (.ref a6), .val (.int (own_nf p5)), .val (.int (3 : Int32)), .val (.int (2 : Int32)), .val (.int (f 2))] [])) _
            refine XS.iinc X45.here hx rfl (hb hby d1_60) rfl (l' := #[.val (.ref a1), .val (.int p2), .val (.ref a3), .val (.int p4), .val (.int p5), .val (.ref a6), .val (.int (own_nf p5)), .val (.int (3 : Int32)), .val (.int (3 : Int32)), .val (.int (f 2))]) rfl ?_
            show Steps p.tables e below (T45.setTop (mkF m 63 #[.val (.ref a1), .val (.int p2), .val (.ref a3), .val (.int p4), .val (.int p5), .val (.ref a6), .val (.int (own_nf p5)), .val (.int (3 : Int32)), .val (.int (3 : Int32)), .val (.int (f 2))] [])) _
            refine XS.goto X45.here hx rfl (pc0 := 63) (pc' := 18) rfl (hb hby d1_63) (by decide) (by decide) ?_
            show Steps p.tables e below (T45.setTop (mkF m 18 #[.val (.ref a1), .val (.int p2), .val (.ref a3), .val (.int p4), .val (.int p5), .val (.ref a6), .val (.int (own_nf p5)), .val (.int (3 : Int32)), .val (.int (3 : Int32)), .val (.int (f 2))] [])) _
            refine XS.iload X45.here hx rfl (hb hby d1_18) rfl ?_
            refine XS.iloadN X45.here hx rfl (hb hby d1_20) rfl ?_
            refine XS.icmpYes X45.here hx rfl (pc0 := 21) (pc' := 66) rfl (hb hby d1_21) rfl (flt ((by rw [hk]; decide) : ¬ ((3 : Int32) < p4))).2.1 (by decide) (by decide) ?_
            show Steps p.tables e below (T45.setTop (mkF m 66 #[.val (.ref a1), .val (.int p2), .val (.ref a3), .val (.int p4), .val (.int p5), .val (.ref a6), .val (.int (own_nf p5)), .val (.int (3 : Int32)), .val (.int (3 : Int32)), .val (.int (f 2))] [])) _
            refine XS.iload X45.here hx rfl (hb hby d1_66) rfl ?_
            show Steps p.tables e below (T45.setTop (mkF m 68 #[.val (.ref a1), .val (.int p2), .val (.ref a3), .val (.int p4), .val (.int p5), .val (.ref a6), .val (.int (own_nf p5)), .val (.int (3 : Int32)), .val (.int (3 : Int32)), .val (.int (f 2))] [(.int (3 : Int32))])) _
            exact retI X45 hx Bd.returns (hb hby d1_68) hr
          · show Q_rm1b Z a1 p2 a3 p4 p5 a6 f g eo h0 n0 _ T45.heap _
            rw [e45]
            have hs : (own_sel p4 (fun i => own_x g p2 (own_nf p5) (f i)) f) = [(f 0), (f 1), (f 2)] := by
              show (if (0 : Int32) < p4 then (if own_x g p2 (own_nf p5) (f 0) = (0 : Int32) then [] else [f 0]) else []) ++ ((if (1 : Int32) < p4 then (if own_x g p2 (own_nf p5) (f 1) = (0 : Int32) then [] else [f 1]) else []) ++ (if (2 : Int32) < p4 then (if own_x g p2 (own_nf p5) (f 2) = (0 : Int32) then [] else [f 2]) else [])) = _
              rw [hb0, hb1, hb2, hk]; rfl
            have hV : ArF Z h45 a6 .char 3 (fun i => .int ((fun i => if i = 0 then (f 0) else if i = 1 then (f 1) else (f 2)) i)) := V45_v45.congr (fun i hi => by
              match i, hi with
              | 0, _ => exact congrArg Value.int (own_nar (hix 0 (by decide)).1)
              | 1, _ => exact congrArg Value.int (own_nar (hix 1 (by decide)).1)
              | 2, _ => exact congrArg Value.int (own_nar (hix 2 (by decide)).1))
            exact ⟨(fun i => if i = 0 then (f 0) else if i = 1 then (f 1) else (f 2)), by rw [hs]; rfl, N45, K45, hV, (by rw [hs]; intro i hi; have hj : i = 0 ∨ i = 1 ∨ i = 2 := by { simp only [List.length_cons, List.length_nil] at hi; omega }; rcases hj with rfl | rfl | rfl <;> rfl)⟩

def own_hd (p6 : Int32) : Int32 := if (p6 &&& (1 : Int32)) = (0 : Int32) then (0 : Int32) else (1 : Int32)
def own_hv (q : Int32) : Int32 := if q = (0 : Int32) then (0 : Int32) else (1 : Int32)
def own_g (q1 q2 : Int64) (i : Nat) : Int64 := if i = 0 then q1 else q2
def own_f3 (a b d : Int32) (i : Nat) : Int32 := if i = 0 then a else if i = 1 then b else d
def own_kk (n i b h : Int32) : Int32 := if i < n then (if b = h then (1 : Int32) else (0 : Int32)) else (0 : Int32)
def own_L (k0 k1 k2 a b d : Int32) : List Int32 := own_c k0 a ++ (own_c k1 b ++ own_c k2 d)
theorem own_rm {x : Int32} (d : Int32) (D : Int) (hd : d.toInt = D) (hD : 0 < D) (h0 : 0 ≤ x.toInt) : 0 ≤ (x - (x / d) * d).toInt ∧ (x - (x / d) * d).toInt < D := by
  rw [irem_eq_mod]
  have h := (c_irem x d D hd).1 h0
  rw [h]
  exact ⟨Int.emod_nonneg _ (Int.ne_of_gt hD), Int.emod_lt_of_pos _ hD⟩
theorem own_fw {p y : Int32} (h : y = ((p &&& (2147483647 : Int32)) - ((p &&& (2147483647 : Int32)) / (1023 : Int32)) * (1023 : Int32))) : 0 ≤ y.toInt ∧ y.toInt ≤ 1022 := by
  have hm := c_and p 2147483647 (by decide)
  have hr := own_rm (x := p &&& (2147483647 : Int32)) 1023 1023 (by decide) (by decide) hm.1
  subst h
  omega
theorem own_o0 {p y : Int32} (h : y = ((p &&& (65535 : Int32)) - ((p &&& (65535 : Int32)) / (126 : Int32)) * (126 : Int32))) : 0 ≤ y.toInt ∧ y.toInt ≤ 125 := by
  have hm := c_and p 65535 (by decide)
  have hr := own_rm (x := p &&& (65535 : Int32)) 126 126 (by decide) (by decide) hm.1
  subst h
  omega
theorem own_ad (o : Int32) (h0 : 0 ≤ o.toInt) (h1 : o.toInt ≤ 200) : (o + (1 : Int32)).toInt = o.toInt + 1 := by
  have hs := c_iadd o 1
  have rr := rng32 (o + 1)
  rw [show (1 : Int32).toInt = 1 from by decide] at hs
  omega
theorem own_sb (k : Int32) (K : Int) (hk : k.toInt = K) (hK : K = 126 ∨ K = 127) (o : Int32) (h0 : 0 ≤ o.toInt) (h1 : o.toInt ≤ 200) : (k - o).toInt = K - o.toInt := by
  have hs := c_isub k o
  have rr := rng32 (k - o)
  omega
theorem own_nz1 {o : Int32} (h0 : 0 ≤ o.toInt) (h1 : o.toInt ≤ 125) : ((126 : Int32) - o) ≠ 0 := by
  intro q
  have h := own_sb 126 126 (by decide) (Or.inl rfl) o h0 (by omega)
  rw [q, show (0 : Int32).toInt = 0 from by decide] at h
  omega
theorem own_nz2 {o x : Int32} (h0 : x.toInt < o.toInt) (h1 : o.toInt ≤ 126) (hx : 0 ≤ x.toInt) : ((127 : Int32) - o) ≠ 0 := by
  intro q
  have h := own_sb 127 127 (by decide) (Or.inr rfl) o (by omega) (by omega)
  rw [q, show (0 : Int32).toInt = 0 from by decide] at h
  omega
theorem own_o1 {p o y : Int32} (h0 : 0 ≤ o.toInt) (h1 : o.toInt ≤ 125) (h : y = ((o + (1 : Int32)) + (((p.toUInt32 >>> ((16 : Int32) &&& 31).toUInt32).toInt32) - (((p.toUInt32 >>> ((16 : Int32) &&& 31).toUInt32).toInt32) / ((126 : Int32) - o)) * ((126 : Int32) - o)))) : o.toInt < y.toInt ∧ y.toInt ≤ 126 := by
  have hu := c_iushr p 16 16 (by decide) (by decide)
  rw [show ((2 ^ 16 : Nat) : Int) = 65536 from by decide] at hu
  have hs := own_sb 126 126 (by decide) (Or.inl rfl) o h0 (by omega)
  have hr := own_rm (x := ((p.toUInt32 >>> ((16 : Int32) &&& 31).toUInt32).toInt32)) ((126 : Int32) - o) _ hs (by omega) (by omega)
  have ha := own_ad o h0 (by omega)
  have hc := c_iadd (o + (1 : Int32)) (((p.toUInt32 >>> ((16 : Int32) &&& 31).toUInt32).toInt32) - (((p.toUInt32 >>> ((16 : Int32) &&& 31).toUInt32).toInt32) / ((126 : Int32) - o)) * ((126 : Int32) - o))
  rw [← h] at hc
  have rr := rng32 y
  omega
theorem own_o2 {p o y : Int32} (h0 : 0 < o.toInt) (h1 : o.toInt ≤ 126) (h : y = ((o + (1 : Int32)) + ((((p.toUInt32 >>> ((2 : Int32) &&& 31).toUInt32).toInt32) &&& (65535 : Int32)) - ((((p.toUInt32 >>> ((2 : Int32) &&& 31).toUInt32).toInt32) &&& (65535 : Int32)) / ((127 : Int32) - o)) * ((127 : Int32) - o)))) : o.toInt < y.toInt ∧ y.toInt ≤ 127 := by
  have hm := c_and ((p.toUInt32 >>> ((2 : Int32) &&& 31).toUInt32).toInt32) 65535 (by decide)
  have hs := own_sb 127 127 (by decide) (Or.inr rfl) o (by omega) (by omega)
  have hr := own_rm (x := ((p.toUInt32 >>> ((2 : Int32) &&& 31).toUInt32).toInt32) &&& (65535 : Int32)) ((127 : Int32) - o) _ hs (by omega) hm.1
  have ha := own_ad o (by omega) (by omega)
  have hc := c_iadd (o + (1 : Int32)) ((((p.toUInt32 >>> ((2 : Int32) &&& 31).toUInt32).toInt32) &&& (65535 : Int32)) - ((((p.toUInt32 >>> ((2 : Int32) &&& 31).toUInt32).toInt32) &&& (65535 : Int32)) / ((127 : Int32) - o)) * ((127 : Int32) - o))
  rw [← h] at hc
  have rr := rng32 y
  omega
theorem own_ch {fw o y : Int32} (f0 : 0 ≤ fw.toInt) (f1 : fw.toInt ≤ 1022) (h0 : 0 ≤ o.toInt) (h1 : o.toInt ≤ 127) (h : y = (((fw * (64 : Int32)) + o).toUInt32.toUInt16.toUInt32.toInt32)) : y.toInt = fw.toInt * 64 + o.toInt := by
  have hm := c_imul fw 64
  rw [show (64 : Int32).toInt = 64 from by decide] at hm
  have r1 := rng32 (fw * 64)
  have ha := c_iadd (fw * 64) o
  have r2 := rng32 (fw * 64 + o)
  have hc := c_i2c (fw * 64 + o)
  rw [← h] at hc
  omega
theorem own_u6 {y : Int32} (h0 : 0 ≤ y.toInt) : ((y.toUInt32 >>> ((6 : Int32) &&& 31).toUInt32).toInt32).toInt = y.toInt / 64 := by
  have hu := c_iushr y 6 6 (by decide) (by decide)
  have r := rng32 y
  rw [show ((2 ^ 6 : Nat) : Int) = 64 from by decide, Int.emod_eq_of_lt h0 (by omega)] at hu
  exact hu
theorem own_jE {fw o y : Int32} (hq : y.toInt = fw.toInt * 64 + o.toInt) (f0 : 0 ≤ fw.toInt) (f1 : fw.toInt ≤ 1022) (h0 : 0 ≤ o.toInt) (h1 : o.toInt ≤ 127) : (own_j y fw).toInt = o.toInt / 64 := by
  have hu := own_u6 (y := y) (by omega)
  have hs := c_isub ((y.toUInt32 >>> ((6 : Int32) &&& 31).toUInt32).toInt32) fw
  have rr := rng32 (own_j y fw)
  change ((own_j y fw).toInt - _) % _ = _ at hs
  omega
theorem own_chB {fw o y : Int32} (hq : y.toInt = fw.toInt * 64 + o.toInt) (f0 : 0 ≤ fw.toInt) (f1 : fw.toInt ≤ 1022) (h0 : 0 ≤ o.toInt) (h1 : o.toInt ≤ 127) : own_B y ∧ ¬ own_j y fw < 0 ∧ (own_j y fw).toNatClampNeg < 2 := by
  have hj := own_jE hq f0 f1 h0 h1
  have a2 : ¬ own_j y fw < 0 := by rw [Int32.lt_iff_toInt_lt, show (0 : Int32).toInt = 0 from by decide]; omega
  have n2 := nat_of a2
  exact ⟨⟨by omega, by omega⟩, a2, by omega⟩
theorem own_hin {a b d fw : Int32} (h0 : own_B a ∧ ¬ own_j a fw < 0 ∧ (own_j a fw).toNatClampNeg < 2) (h1 : own_B b ∧ ¬ own_j b fw < 0 ∧ (own_j b fw).toNatClampNeg < 2) (h2 : own_B d ∧ ¬ own_j d fw < 0 ∧ (own_j d fw).toNatClampNeg < 2) : own_in (own_f3 a b d) fw
  | 0, _ => h0
  | 1, _ => h1
  | 2, _ => h2
theorem own_cn (p : Int32) : (p &&& (3 : Int32)) = 0 ∨ (p &&& (3 : Int32)) = 1 ∨ (p &&& (3 : Int32)) = 2 ∨ (p &&& (3 : Int32)) = 3 := by
  have hm := c_mask p 3 2 (by decide) (by decide)
  rw [show ((2 ^ 2 : Nat) : Int) = 4 from by decide] at hm
  generalize p &&& (3 : Int32) = q at hm ⊢
  have : q.toInt = 0 ∨ q.toInt = 1 ∨ q.toInt = 2 ∨ q.toInt = 3 := by omega
  rcases this with h | h | h | h
  · exact Or.inl (Int32.toInt_inj.mp (h.trans (by decide)))
  · exact Or.inr (Or.inl (Int32.toInt_inj.mp (h.trans (by decide))))
  · exact Or.inr (Or.inr (Or.inl (Int32.toInt_inj.mp (h.trans (by decide)))))
  · exact Or.inr (Or.inr (Or.inr (Int32.toInt_inj.mp (h.trans (by decide)))))
theorem own_hd01 (p : Int32) : own_hd p = 0 ∨ own_hd p = 1 := by
  unfold own_hd; split
  · exact Or.inl rfl
  · exact Or.inr rfl
theorem own_and63 {x y : Int32} (h : x.toInt % 64 = y.toInt % 64) : x &&& 0x3f = y &&& 0x3f := by
  apply Int32.toInt_inj.mp
  rw [c_mask x 0x3f 6 (by decide) (by decide), c_mask y 0x3f 6 (by decide) (by decide)]
  exact h
theorem own_bx {fw o y : Int32} {q1 q2 : Int64} (fl : Int32) (hq : y.toInt = fw.toInt * 64 + o.toInt) (f0 : 0 ≤ fw.toInt) (f1 : fw.toInt ≤ 1022) (h0 : 0 ≤ o.toInt) (h1 : o.toInt ≤ 127) : own_x (own_g q1 q2) fw fl y = own_bit q1 q2 o ^^^ fl := by
  have hj := own_jE hq f0 f1 h0 h1
  have hb := own_chB hq f0 f1 h0 h1
  have n2 := nat_of hb.2.1
  unfold own_x own_bit
  by_cases h : o < (64 : Int32)
  · rw [if_pos h]
    rw [Int32.lt_iff_toInt_lt, show (64 : Int32).toInt = 64 from by decide] at h
    have e : (own_j y fw).toNatClampNeg = 0 := by omega
    rw [e, own_and63 (x := y) (y := o) (by omega)]; rfl
  · rw [if_neg h]
    rw [Int32.lt_iff_toInt_lt, show (64 : Int32).toInt = 64 from by decide] at h
    have e : (own_j y fw).toNatClampNeg = 1 := by omega
    have hs := c_isub o 64
    rw [show (64 : Int32).toInt = 64 from by decide] at hs
    have rr := rng32 (o - 64)
    rw [e, own_and63 (x := y) (y := o - (64 : Int32)) (by omega)]; rfl
theorem own_bit01 (q1 q2 : Int64) (o : Int32) : own_bit q1 q2 o = 0 ∨ own_bit q1 q2 o = 1 := by
  unfold own_bit; split <;> exact and_one _
theorem own_piece {n i b hd v x : Int32} (hb : b = 0 ∨ b = 1) (hh : hd = 0 ∨ hd = 1) (hx : x = b ^^^ own_nf hd) : (if i < n then own_c x v else []) = own_c (own_kk n i b (own_hv hd)) v := by
  unfold own_kk
  by_cases h : i < n
  · rw [if_pos h, if_pos h]
    subst hx
    rcases hb with rfl | rfl <;> rcases hh with rfl | rfl <;> rfl
  · rw [if_neg h, if_neg h]; rfl
theorem own_selL {n fw hd k0 k1 k2 a b d o0 o1 o2 : Int32} {q1 q2 : Int64} (h0 : k0 = own_kk n (0 : Int32) (own_bit q1 q2 o0) (own_hv hd)) (h1 : k1 = own_kk n (1 : Int32) (own_bit q1 q2 o1) (own_hv hd)) (h2 : k2 = own_kk n (2 : Int32) (own_bit q1 q2 o2) (own_hv hd))
    (e0 : a.toInt = fw.toInt * 64 + o0.toInt) (e1 : b.toInt = fw.toInt * 64 + o1.toInt) (e2 : d.toInt = fw.toInt * 64 + o2.toInt) (f0 : 0 ≤ fw.toInt) (f1 : fw.toInt ≤ 1022) (a0 : 0 ≤ o0.toInt) (a1 : o0.toInt ≤ 127) (b0 : 0 ≤ o1.toInt) (b1 : o1.toInt ≤ 127) (d0 : 0 ≤ o2.toInt) (d1 : o2.toInt ≤ 127) (hh : hd = 0 ∨ hd = 1) :
    own_sel n (fun i => own_x (own_g q1 q2) fw (own_nf hd) (own_f3 a b d i)) (own_f3 a b d) = own_L k0 k1 k2 a b d := by
  subst h0 h1 h2
  show (if (0 : Int32) < n then own_c (own_x (own_g q1 q2) fw (own_nf hd) a) a else []) ++ ((if (1 : Int32) < n then own_c (own_x (own_g q1 q2) fw (own_nf hd) b) b else []) ++ (if (2 : Int32) < n then own_c (own_x (own_g q1 q2) fw (own_nf hd) d) d else [])) = _
  rw [own_piece (own_bit01 q1 q2 o0) hh (own_bx _ e0 f0 f1 a0 a1), own_piece (own_bit01 q1 q2 o1) hh (own_bx _ e1 f0 f1 b0 b1), own_piece (own_bit01 q1 q2 o2) hh (own_bx _ e2 f0 f1 d0 d1)]
  rfl
theorem own_c1 (x v : Int32) : (own_c x v).length ≤ 1 := by
  unfold own_c; split
  · exact Nat.zero_le _
  · exact Nat.le_refl _
theorem own_L3 (k0 k1 k2 a b d : Int32) : (own_L k0 k1 k2 a b d).length ≤ 3 := by
  unfold own_L
  rw [List.length_append, List.length_append]
  have := own_c1 k0 a
  have := own_c1 k1 b
  have := own_c1 k2 d
  omega
theorem own_lt (i : Nat) {z : Int32} (hz : z.toInt = (i : Int)) {L : List Int32} (hl : L.length ≤ 3) (h : z < own_len L) : i < L.length := by
  rw [Int32.lt_iff_toInt_lt, hz] at h
  have e : (own_len L).toInt = (L.length : Int) := Int32.toInt_ofNat_of_lt (by omega)
  omega
theorem own_same {M L : List Int32} {F E : Nat → Int32} (fF : own_fit M F) (fE : own_fit L E) (h : M = L) {i : Nat} (hi : i < L.length) : F i = E i := by
  subst h
  rw [fF i hi, fE i hi]
theorem pn_rm0 : plainName "com/example/bitstrata/bitstrata/BitsetChunkFilterPinLaw" = true := by first | (simp [plainName, overriddenIn]; done) | decide +kernel
theorem ef_rm0 (m : MethodId) (x0 : Int64) (x1 : Int64) (x2 : Int32) (x3 : Int32) (x4 : Int32) (x5 : Int32) : entryFrame m #[(.long x0), (.long x1), (.int x2), (.int x3), (.int x4), (.int x5)] maxLocals = mkF m 0 #[.val (.long x0), .second, .val (.long x1), .second, .val (.int x2), .val (.int x3), .val (.int x4), .val (.int x5), .unset, .unset, .unset, .unset, .unset, .unset, .unset, .unset, .unset, .unset, .unset, .unset, .unset, .unset, .unset, .unset, .unset, .unset, .unset, .unset, .unset, .unset] [] := by first | (simp [entryFrame, mkF, argsToLocals, Value.category, maxLocals]; done) | rfl
def Q_rm0 (Z : State) (q1 : Int64) (q2 : Int64) (p3 : Int32) (p4 : Int32) (p5 : Int32) (p6 : Int32) (h0 : Heap) (n0 : Nat) (v : Option Value) (h : Heap) (L : List Loc) : Prop := v = some (.int 1) ∧ Fr n0 L
set_option maxRecDepth 65536 in
set_option maxHeartbeats 40000000 in
theorem rm0 (l : Launch) (Z : State) (a0 : Array Value) (hw : ∀ d ∈ tables_1, d.before a0 Z = true) (ws : List Jvm.Cond) (q1 : Int64) (q2 : Int64) (p3 : Int32) (p4 : Int32) (p5 : Int32) (p6 : Int32) (h0 : Heap) (n0 : Nat) (Z0 : n0 ≤ h0.size) :
    MetFree l x (head1 (Jvm.Cond.code x code maxLocals ret :: ws) room_1) (fun a U => a = #[(.long q1), (.long q2), (.int p3), (.int p4), (.int p5), (.int p6)] ∧ Z.Warmed39 U.vm ∧ U.heap = h0) (fun _ _ _ _ _ => True) (fun _ U o U' => ∃ v L, o = .returned v ∧ Q_rm0 Z q1 q2 p3 p4 p5 p6 h0 n0 v U'.heap L ∧ FrameEnd U o U' L room_1.cells room_1.slots) := by
  refine MetFree.of_bodySF (plainFor_of_name pn_rm0) hisR ?_
  intro p e s m args below meth c s₁ Bd hml0 hP hK
  obtain ⟨rfl, hZ, hh⟩ := hP
  have hx := Bd.exec
  have hby := Bd.bytes
  have hml : c.maxLocals = 30 := hml0
  have hown : s.vm.findClass "com/example/bitstrata/bitstrata/BitsetChunkFilterPinLaw" = some m.cls := findClass_of_methodNamed Bd.named
  have hnm := (name_of_methodNamed Bd.named Bd.method).1
  have X0 : Stand p l e room_1 s m #[(.long q1), (.long q2), (.int p3), (.int p4), (.int p5), (.int p6)] below meth c s₁ [] 0 0 := Stand.of_body Bd
  have e0 : s₁.heap = h0 := by rw [← hh, Bd.state]; rfl
  have N0 := Fr.nil n0
  have pre0 : ∀ t, Steps p.tables e below (s₁.setTop (mkF m 0 #[.val (.long q1), .second, .val (.long q2), .second, .val (.int p3), .val (.int p4), .val (.int p5), .val (.int p6), .unset, .unset, .unset, .unset, .unset, .unset, .unset, .unset, .unset, .unset, .unset, .unset, .unset, .unset, .unset, .unset, .unset, .unset, .unset, .unset, .unset, .unset] [])) t → Steps p.tables e below (s₁.setTop (entryFrame m #[(.long q1), (.long q2), (.int p3), (.int p4), (.int p5), (.int p6)] maxLocals)) t := fun t k => castTop (ef_rm0 m q1 q2 p3 p4 p5 p6) k
  obtain ⟨y1, hy1⟩ : ∃ z : Int32, z = ((p3 &&& (2147483647 : Int32)) - ((p3 &&& (2147483647 : Int32)) / (1023 : Int32)) * (1023 : Int32)) := ⟨_, rfl⟩
  have hfw := own_fw hy1
  obtain ⟨y2, hy2⟩ : ∃ z : Int32, z = ((p4 &&& (65535 : Int32)) - ((p4 &&& (65535 : Int32)) / (126 : Int32)) * (126 : Int32)) := ⟨_, rfl⟩
  have ho0 := own_o0 hy2
  obtain ⟨y3, hy3⟩ : ∃ z : Int32, z = ((y2 + (1 : Int32)) + (((p4.toUInt32 >>> ((16 : Int32) &&& 31).toUInt32).toInt32) - (((p4.toUInt32 >>> ((16 : Int32) &&& 31).toUInt32).toInt32) / ((126 : Int32) - y2)) * ((126 : Int32) - y2))) := ⟨_, rfl⟩
  have ho1 := own_o1 ho0.1 ho0.2 hy3
  obtain ⟨y4, hy4⟩ : ∃ z : Int32, z = ((y3 + (1 : Int32)) + ((((p5.toUInt32 >>> ((2 : Int32) &&& 31).toUInt32).toInt32) &&& (65535 : Int32)) - ((((p5.toUInt32 >>> ((2 : Int32) &&& 31).toUInt32).toInt32) &&& (65535 : Int32)) / ((127 : Int32) - y3)) * ((127 : Int32) - y3))) := ⟨_, rfl⟩
  have ho2 := own_o2 (Int.lt_of_le_of_lt ho0.1 ho1.1) ho1.2 hy4
  have pre5 : ∀ t, Steps p.tables e below (s₁.setTop (mkF m 69 #[.val (.long q1), .second, .val (.long q2), .second, .val (.int p3), .val (.int p4), .val (.int p5), .val (.int p6), .val (.int y1), .val (.int y2), .val (.int y3), .val (.int y4), .val (.int (p5 &&& (3 : Int32))), .unset, .unset, .unset, .unset, .unset, .unset, .unset, .unset, .unset, .unset, .unset, .unset, .unset, .unset, .unset, .unset, .unset] [(.int (p6 &&& (1 : Int32)))])) t → Steps p.tables e below (s₁.setTop (entryFrame m #[(.long q1), (.long q2), (.int p3), (.int p4), (.int p5), (.int p6)] maxLocals)) t := by
    intro t k
    refine pre0 t ?_
    show Steps p.tables e below (s₁.setTop (mkF m 0 #[.val (.long q1), .second, .val (.long q2), .second, .val (.int p3), .val (.int p4), .val (.int p5), .val (.int p6), .unset, .unset, .unset, .unset, .unset, .unset, .unset, .unset, .unset, .unset, .unset, .unset, .unset, .unset, .unset, .unset, .unset, .unset, .unset, .unset, .unset, .unset] [])) _
    refine XS.iload X0.here hx rfl (hb hby at_0) rfl ?_
    show Steps p.tables e below (s₁.setTop (mkF m 2 #[.val (.long q1), .second, .val (.long q2), .second, .val (.int p3), .val (.int p4), .val (.int p5), .val (.int p6), .unset, .unset, .unset, .unset, .unset, .unset, .unset, .unset, .unset, .unset, .unset, .unset, .unset, .unset, .unset, .unset, .unset, .unset, .unset, .unset, .unset, .unset] [(.int p3)])) _
    refine X0.ldcInt hx hown (mvT hZ (hw _ (List.mem_of_getElem? (i := 0) rfl))) (g := (mkF m 2 #[.val (.long q1), .second, .val (.long q2), .second, .val (.int p3), .val (.int p4), .val (.int p5), .val (.int p6), .unset, .unset, .unset, .unset, .unset, .unset, .unset, .unset, .unset, .unset, .unset, .unset, .unset, .unset, .unset, .unset, .unset, .unset, .unset, .unset, .unset, .unset] [(.int p3)])) rfl (hb hby at_2) _ ?_
    show Steps p.tables e below (s₁.setTop (mkF m 4 #[.val (.long q1), .second, .val (.long q2), .second, .val (.int p3), .val (.int p4), .val (.int p5), .val (.int p6), .unset, .unset, .unset, .unset, .unset, .unset, .unset, .unset, .unset, .unset, .unset, .unset, .unset, .unset, .unset, .unset, .unset, .unset, .unset, .unset, .unset, .unset] [(.int (2147483647 : Int32)), (.int p3)])) _
    refine XS.iand X0.here hx rfl (hb hby at_4) rfl ?_
    show Steps p.tables e below (s₁.setTop (mkF m 5 #[.val (.long q1), .second, .val (.long q2), .second, .val (.int p3), .val (.int p4), .val (.int p5), .val (.int p6), .unset, .unset, .unset, .unset, .unset, .unset, .unset, .unset, .unset, .unset, .unset, .unset, .unset, .unset, .unset, .unset, .unset, .unset, .unset, .unset, .unset, .unset] [(.int (p3 &&& (2147483647 : Int32)))])) _
    refine XS.sipush X0.here hx rfl (hb hby at_5) ?_
    refine XS.irem X0.here hx rfl (hb hby at_8) rfl (by decide) ?_
    show Steps p.tables e below (s₁.setTop (mkF m 9 #[.val (.long q1), .second, .val (.long q2), .second, .val (.int p3), .val (.int p4), .val (.int p5), .val (.int p6), .unset, .unset, .unset, .unset, .unset, .unset, .unset, .unset, .unset, .unset, .unset, .unset, .unset, .unset, .unset, .unset, .unset, .unset, .unset, .unset, .unset, .unset] [(.int ((p3 &&& (2147483647 : Int32)) - ((p3 &&& (2147483647 : Int32)) / (1023 : Int32)) * (1023 : Int32)))])) _
    rw [← hy1]
    refine XS.istore X0.here hx rfl (hb hby at_9) rfl (l' := #[.val (.long q1), .second, .val (.long q2), .second, .val (.int p3), .val (.int p4), .val (.int p5), .val (.int p6), .val (.int y1), .unset, .unset, .unset, .unset, .unset, .unset, .unset, .unset, .unset, .unset, .unset, .unset, .unset, .unset, .unset, .unset, .unset, .unset, .unset, .unset, .unset]) rfl ?_
    show Steps p.tables e below (s₁.setTop (mkF m 11 #[.val (.long q1), .second, .val (.long q2), .second, .val (.int p3), .val (.int p4), .val (.int p5), .val (.int p6), .val (.int y1), .unset, .unset, .unset, .unset, .unset, .unset, .unset, .unset, .unset, .unset, .unset, .unset, .unset, .unset, .unset, .unset, .unset, .unset, .unset, .unset, .unset] [])) _
    refine XS.iload X0.here hx rfl (hb hby at_11) rfl ?_
    show Steps p.tables e below (s₁.setTop (mkF m 13 #[.val (.long q1), .second, .val (.long q2), .second, .val (.int p3), .val (.int p4), .val (.int p5), .val (.int p6), .val (.int y1), .unset, .unset, .unset, .unset, .unset, .unset, .unset, .unset, .unset, .unset, .unset, .unset, .unset, .unset, .unset, .unset, .unset, .unset, .unset, .unset, .unset] [(.int p4)])) _
    refine X0.ldcInt hx hown (mvT hZ (hw _ (List.mem_of_getElem? (i := 1) rfl))) (g := (mkF m 13 #[.val (.long q1), .second, .val (.long q2), .second, .val (.int p3), .val (.int p4), .val (.int p5), .val (.int p6), .val (.int y1), .unset, .unset, .unset, .unset, .unset, .unset, .unset, .unset, .unset, .unset, .unset, .unset, .unset, .unset, .unset, .unset, .unset, .unset, .unset, .unset, .unset] [(.int p4)])) rfl (hb hby at_13) _ ?_
    show Steps p.tables e below (s₁.setTop (mkF m 15 #[.val (.long q1), .second, .val (.long q2), .second, .val (.int p3), .val (.int p4), .val (.int p5), .val (.int p6), .val (.int y1), .unset, .unset, .unset, .unset, .unset, .unset, .unset, .unset, .unset, .unset, .unset, .unset, .unset, .unset, .unset, .unset, .unset, .unset, .unset, .unset, .unset] [(.int (65535 : Int32)), (.int p4)])) _
    refine XS.iand X0.here hx rfl (hb hby at_15) rfl ?_
    show Steps p.tables e below (s₁.setTop (mkF m 16 #[.val (.long q1), .second, .val (.long q2), .second, .val (.int p3), .val (.int p4), .val (.int p5), .val (.int p6), .val (.int y1), .unset, .unset, .unset, .unset, .unset, .unset, .unset, .unset, .unset, .unset, .unset, .unset, .unset, .unset, .unset, .unset, .unset, .unset, .unset, .unset, .unset] [(.int (p4 &&& (65535 : Int32)))])) _
    refine XS.bipush X0.here hx rfl (hb hby at_16) ?_
    refine XS.irem X0.here hx rfl (hb hby at_18) rfl (by decide) ?_
    show Steps p.tables e below (s₁.setTop (mkF m 19 #[.val (.long q1), .second, .val (.long q2), .second, .val (.int p3), .val (.int p4), .val (.int p5), .val (.int p6), .val (.int y1), .unset, .unset, .unset, .unset, .unset, .unset, .unset, .unset, .unset, .unset, .unset, .unset, .unset, .unset, .unset, .unset, .unset, .unset, .unset, .unset, .unset] [(.int ((p4 &&& (65535 : Int32)) - ((p4 &&& (65535 : Int32)) / (126 : Int32)) * (126 : Int32)))])) _
    rw [← hy2]
    refine XS.istore X0.here hx rfl (hb hby at_19) rfl (l' := #[.val (.long q1), .second, .val (.long q2), .second, .val (.int p3), .val (.int p4), .val (.int p5), .val (.int p6), .val (.int y1), .val (.int y2), .unset, .unset, .unset, .unset, .unset, .unset, .unset, .unset, .unset, .unset, .unset, .unset, .unset, .unset, .unset, .unset, .unset, .unset, .unset, .unset]) rfl ?_
    show Steps p.tables e below (s₁.setTop (mkF m 21 #[.val (.long q1), .second, .val (.long q2), .second, .val (.int p3), .val (.int p4), .val (.int p5), .val (.int p6), .val (.int y1), .val (.int y2), .unset, .unset, .unset, .unset, .unset, .unset, .unset, .unset, .unset, .unset, .unset, .unset, .unset, .unset, .unset, .unset, .unset, .unset, .unset, .unset] [])) _
    refine XS.iload X0.here hx rfl (hb hby at_21) rfl ?_
    refine XS.iconst X0.here hx rfl (hb hby at_23) ?_
    refine XS.iadd X0.here hx rfl (hb hby at_24) rfl ?_
    show Steps p.tables e below (s₁.setTop (mkF m 25 #[.val (.long q1), .second, .val (.long q2), .second, .val (.int p3), .val (.int p4), .val (.int p5), .val (.int p6), .val (.int y1), .val (.int y2), .unset, .unset, .unset, .unset, .unset, .unset, .unset, .unset, .unset, .unset, .unset, .unset, .unset, .unset, .unset, .unset, .unset, .unset, .unset, .unset] [(.int (y2 + (1 : Int32)))])) _
    refine XS.iload X0.here hx rfl (hb hby at_25) rfl ?_
    refine XS.bipush X0.here hx rfl (hb hby at_27) ?_
    refine XS.iushr X0.here hx rfl (hb hby at_29) rfl ?_
    show Steps p.tables e below (s₁.setTop (mkF m 30 #[.val (.long q1), .second, .val (.long q2), .second, .val (.int p3), .val (.int p4), .val (.int p5), .val (.int p6), .val (.int y1), .val (.int y2), .unset, .unset, .unset, .unset, .unset, .unset, .unset, .unset, .unset, .unset, .unset, .unset, .unset, .unset, .unset, .unset, .unset, .unset, .unset, .unset] [(.int ((p4.toUInt32 >>> ((16 : Int32) &&& 31).toUInt32).toInt32)), (.int (y2 + (1 : Int32)))])) _
    refine XS.bipush X0.here hx rfl (hb hby at_30) ?_
    refine XS.iload X0.here hx rfl (hb hby at_32) rfl ?_
    refine XS.isub X0.here hx rfl (hb hby at_34) rfl ?_
    show Steps p.tables e below (s₁.setTop (mkF m 35 #[.val (.long q1), .second, .val (.long q2), .second, .val (.int p3), .val (.int p4), .val (.int p5), .val (.int p6), .val (.int y1), .val (.int y2), .unset, .unset, .unset, .unset, .unset, .unset, .unset, .unset, .unset, .unset, .unset, .unset, .unset, .unset, .unset, .unset, .unset, .unset, .unset, .unset] [(.int ((126 : Int32) - y2)), (.int ((p4.toUInt32 >>> ((16 : Int32) &&& 31).toUInt32).toInt32)), (.int (y2 + (1 : Int32)))])) _
    refine XS.irem X0.here hx rfl (hb hby at_35) rfl (own_nz1 ho0.1 ho0.2) ?_
    show Steps p.tables e below (s₁.setTop (mkF m 36 #[.val (.long q1), .second, .val (.long q2), .second, .val (.int p3), .val (.int p4), .val (.int p5), .val (.int p6), .val (.int y1), .val (.int y2), .unset, .unset, .unset, .unset, .unset, .unset, .unset, .unset, .unset, .unset, .unset, .unset, .unset, .unset, .unset, .unset, .unset, .unset, .unset, .unset] [(.int (((p4.toUInt32 >>> ((16 : Int32) &&& 31).toUInt32).toInt32) - (((p4.toUInt32 >>> ((16 : Int32) &&& 31).toUInt32).toInt32) / ((126 : Int32) - y2)) * ((126 : Int32) - y2))), (.int (y2 + (1 : Int32)))])) _
    refine XS.iadd X0.here hx rfl (hb hby at_36) rfl ?_
    show Steps p.tables e below (s₁.setTop (mkF m 37 #[.val (.long q1), .second, .val (.long q2), .second, .val (.int p3), .val (.int p4), .val (.int p5), .val (.int p6), .val (.int y1), .val (.int y2), .unset, .unset, .unset, .unset, .unset, .unset, .unset, .unset, .unset, .unset, .unset, .unset, .unset, .unset, .unset, .unset, .unset, .unset, .unset, .unset] [(.int ((y2 + (1 : Int32)) + (((p4.toUInt32 >>> ((16 : Int32) &&& 31).toUInt32).toInt32) - (((p4.toUInt32 >>> ((16 : Int32) &&& 31).toUInt32).toInt32) / ((126 : Int32) - y2)) * ((126 : Int32) - y2))))])) _
    rw [← hy3]
    refine XS.istore X0.here hx rfl (hb hby at_37) rfl (l' := #[.val (.long q1), .second, .val (.long q2), .second, .val (.int p3), .val (.int p4), .val (.int p5), .val (.int p6), .val (.int y1), .val (.int y2), .val (.int y3), .unset, .unset, .unset, .unset, .unset, .unset, .unset, .unset, .unset, .unset, .unset, .unset, .unset, .unset, .unset, .unset, .unset, .unset, .unset]) rfl ?_
    show Steps p.tables e below (s₁.setTop (mkF m 39 #[.val (.long q1), .second, .val (.long q2), .second, .val (.int p3), .val (.int p4), .val (.int p5), .val (.int p6), .val (.int y1), .val (.int y2), .val (.int y3), .unset, .unset, .unset, .unset, .unset, .unset, .unset, .unset, .unset, .unset, .unset, .unset, .unset, .unset, .unset, .unset, .unset, .unset, .unset] [])) _
    refine XS.iload X0.here hx rfl (hb hby at_39) rfl ?_
    refine XS.iconst X0.here hx rfl (hb hby at_41) ?_
    refine XS.iadd X0.here hx rfl (hb hby at_42) rfl ?_
    show Steps p.tables e below (s₁.setTop (mkF m 43 #[.val (.long q1), .second, .val (.long q2), .second, .val (.int p3), .val (.int p4), .val (.int p5), .val (.int p6), .val (.int y1), .val (.int y2), .val (.int y3), .unset, .unset, .unset, .unset, .unset, .unset, .unset, .unset, .unset, .unset, .unset, .unset, .unset, .unset, .unset, .unset, .unset, .unset, .unset] [(.int (y3 + (1 : Int32)))])) _
    refine XS.iload X0.here hx rfl (hb hby at_43) rfl ?_
    refine XS.iconst X0.here hx rfl (hb hby at_45) ?_
    refine XS.iushr X0.here hx rfl (hb hby at_46) rfl ?_
    show Steps p.tables e below (s₁.setTop (mkF m 47 #[.val (.long q1), .second, .val (.long q2), .second, .val (.int p3), .val (.int p4), .val (.int p5), .val (.int p6), .val (.int y1), .val (.int y2), .val (.int y3), .unset, .unset, .unset, .unset, .unset, .unset, .unset, .unset, .unset, .unset, .unset, .unset, .unset, .unset, .unset, .unset, .unset, .unset, .unset] [(.int ((p5.toUInt32 >>> ((2 : Int32) &&& 31).toUInt32).toInt32)), (.int (y3 + (1 : Int32)))])) _
    refine X0.ldcInt hx hown (mvT hZ (hw _ (List.mem_of_getElem? (i := 1) rfl))) (g := (mkF m 47 #[.val (.long q1), .second, .val (.long q2), .second, .val (.int p3), .val (.int p4), .val (.int p5), .val (.int p6), .val (.int y1), .val (.int y2), .val (.int y3), .unset, .unset, .unset, .unset, .unset, .unset, .unset, .unset, .unset, .unset, .unset, .unset, .unset, .unset, .unset, .unset, .unset, .unset, .unset] [(.int ((p5.toUInt32 >>> ((2 : Int32) &&& 31).toUInt32).toInt32)), (.int (y3 + (1 : Int32)))])) rfl (hb hby at_47) _ ?_
    show Steps p.tables e below (s₁.setTop (mkF m 49 #[.val (.long q1), .second, .val (.long q2), .second, .val (.int p3), .val (.int p4), .val (.int p5), .val (.int p6), .val (.int y1), .val (.int y2), .val (.int y3), .unset, .unset, .unset, .unset, .unset, .unset, .unset, .unset, .unset, .unset, .unset, .unset, .unset, .unset, .unset, .unset, .unset, .unset, .unset] [(.int (65535 : Int32)), (.int ((p5.toUInt32 >>> ((2 : Int32) &&& 31).toUInt32).toInt32)), (.int (y3 + (1 : Int32)))])) _
    refine XS.iand X0.here hx rfl (hb hby at_49) rfl ?_
    show Steps p.tables e below (s₁.setTop (mkF m 50 #[.val (.long q1), .second, .val (.long q2), .second, .val (.int p3), .val (.int p4), .val (.int p5), .val (.int p6), .val (.int y1), .val (.int y2), .val (.int y3), .unset, .unset, .unset, .unset, .unset, .unset, .unset, .unset, .unset, .unset, .unset, .unset, .unset, .unset, .unset, .unset, .unset, .unset, .unset] [(.int (((p5.toUInt32 >>> ((2 : Int32) &&& 31).toUInt32).toInt32) &&& (65535 : Int32))), (.int (y3 + (1 : Int32)))])) _
    refine XS.bipush X0.here hx rfl (hb hby at_50) ?_
    refine XS.iload X0.here hx rfl (hb hby at_52) rfl ?_
    refine XS.isub X0.here hx rfl (hb hby at_54) rfl ?_
    show Steps p.tables e below (s₁.setTop (mkF m 55 #[.val (.long q1), .second, .val (.long q2), .second, .val (.int p3), .val (.int p4), .val (.int p5), .val (.int p6), .val (.int y1), .val (.int y2), .val (.int y3), .unset, .unset, .unset, .unset, .unset, .unset, .unset, .unset, .unset, .unset, .unset, .unset, .unset, .unset, .unset, .unset, .unset, .unset, .unset] [(.int ((127 : Int32) - y3)), (.int (((p5.toUInt32 >>> ((2 : Int32) &&& 31).toUInt32).toInt32) &&& (65535 : Int32))), (.int (y3 + (1 : Int32)))])) _
    refine XS.irem X0.here hx rfl (hb hby at_55) rfl (own_nz2 ho1.1 ho1.2 ho0.1) ?_
    show Steps p.tables e below (s₁.setTop (mkF m 56 #[.val (.long q1), .second, .val (.long q2), .second, .val (.int p3), .val (.int p4), .val (.int p5), .val (.int p6), .val (.int y1), .val (.int y2), .val (.int y3), .unset, .unset, .unset, .unset, .unset, .unset, .unset, .unset, .unset, .unset, .unset, .unset, .unset, .unset, .unset, .unset, .unset, .unset, .unset] [(.int ((((p5.toUInt32 >>> ((2 : Int32) &&& 31).toUInt32).toInt32) &&& (65535 : Int32)) - ((((p5.toUInt32 >>> ((2 : Int32) &&& 31).toUInt32).toInt32) &&& (65535 : Int32)) / ((127 : Int32) - y3)) * ((127 : Int32) - y3))), (.int (y3 + (1 : Int32)))])) _
    refine XS.iadd X0.here hx rfl (hb hby at_56) rfl ?_
    show Steps p.tables e below (s₁.setTop (mkF m 57 #[.val (.long q1), .second, .val (.long q2), .second, .val (.int p3), .val (.int p4), .val (.int p5), .val (.int p6), .val (.int y1), .val (.int y2), .val (.int y3), .unset, .unset, .unset, .unset, .unset, .unset, .unset, .unset, .unset, .unset, .unset, .unset, .unset, .unset, .unset, .unset, .unset, .unset, .unset] [(.int ((y3 + (1 : Int32)) + ((((p5.toUInt32 >>> ((2 : Int32) &&& 31).toUInt32).toInt32) &&& (65535 : Int32)) - ((((p5.toUInt32 >>> ((2 : Int32) &&& 31).toUInt32).toInt32) &&& (65535 : Int32)) / ((127 : Int32) - y3)) * ((127 : Int32) - y3))))])) _
    rw [← hy4]
    refine XS.istore X0.here hx rfl (hb hby at_57) rfl (l' := #[.val (.long q1), .second, .val (.long q2), .second, .val (.int p3), .val (.int p4), .val (.int p5), .val (.int p6), .val (.int y1), .val (.int y2), .val (.int y3), .val (.int y4), .unset, .unset, .unset, .unset, .unset, .unset, .unset, .unset, .unset, .unset, .unset, .unset, .unset, .unset, .unset, .unset, .unset, .unset]) rfl ?_
    show Steps p.tables e below (s₁.setTop (mkF m 59 #[.val (.long q1), .second, .val (.long q2), .second, .val (.int p3), .val (.int p4), .val (.int p5), .val (.int p6), .val (.int y1), .val (.int y2), .val (.int y3), .val (.int y4), .unset, .unset, .unset, .unset, .unset, .unset, .unset, .unset, .unset, .unset, .unset, .unset, .unset, .unset, .unset, .unset, .unset, .unset] [])) _
    refine XS.iload X0.here hx rfl (hb hby at_59) rfl ?_
    refine XS.iconst X0.here hx rfl (hb hby at_61) ?_
    refine XS.iand X0.here hx rfl (hb hby at_62) rfl ?_
    show Steps p.tables e below (s₁.setTop (mkF m 63 #[.val (.long q1), .second, .val (.long q2), .second, .val (.int p3), .val (.int p4), .val (.int p5), .val (.int p6), .val (.int y1), .val (.int y2), .val (.int y3), .val (.int y4), .unset, .unset, .unset, .unset, .unset, .unset, .unset, .unset, .unset, .unset, .unset, .unset, .unset, .unset, .unset, .unset, .unset, .unset] [(.int (p5 &&& (3 : Int32)))])) _
    refine XS.istore X0.here hx rfl (hb hby at_63) rfl (l' := #[.val (.long q1), .second, .val (.long q2), .second, .val (.int p3), .val (.int p4), .val (.int p5), .val (.int p6), .val (.int y1), .val (.int y2), .val (.int y3), .val (.int y4), .val (.int (p5 &&& (3 : Int32))), .unset, .unset, .unset, .unset, .unset, .unset, .unset, .unset, .unset, .unset, .unset, .unset, .unset, .unset, .unset, .unset, .unset]) rfl ?_
    show Steps p.tables e below (s₁.setTop (mkF m 65 #[.val (.long q1), .second, .val (.long q2), .second, .val (.int p3), .val (.int p4), .val (.int p5), .val (.int p6), .val (.int y1), .val (.int y2), .val (.int y3), .val (.int y4), .val (.int (p5 &&& (3 : Int32))), .unset, .unset, .unset, .unset, .unset, .unset, .unset, .unset, .unset, .unset, .unset, .unset, .unset, .unset, .unset, .unset, .unset] [])) _
    refine XS.iload X0.here hx rfl (hb hby at_65) rfl ?_
    refine XS.iconst X0.here hx rfl (hb hby at_67) ?_
    refine XS.iand X0.here hx rfl (hb hby at_68) rfl ?_
    exact k
  have pre6 : ∀ t, Steps p.tables e below (s₁.setTop (mkF m 77 #[.val (.long q1), .second, .val (.long q2), .second, .val (.int p3), .val (.int p4), .val (.int p5), .val (.int p6), .val (.int y1), .val (.int y2), .val (.int y3), .val (.int y4), .val (.int (p5 &&& (3 : Int32))), .unset, .unset, .unset, .unset, .unset, .unset, .unset, .unset, .unset, .unset, .unset, .unset, .unset, .unset, .unset, .unset, .unset] [(.int (own_hd p6))])) t → Steps p.tables e below (s₁.setTop (entryFrame m #[(.long q1), (.long q2), (.int p3), (.int p4), (.int p5), (.int p6)] maxLocals)) t := by
    intro t k
    by_cases hd6 : (p6 &&& (1 : Int32)) = (0 : Int32)
    · rw [show (own_hd p6) = (0 : Int32) from if_pos hd6] at k
      refine pre5 t ?_
      show Steps p.tables e below (s₁.setTop (mkF m 69 #[.val (.long q1), .second, .val (.long q2), .second, .val (.int p3), .val (.int p4), .val (.int p5), .val (.int p6), .val (.int y1), .val (.int y2), .val (.int y3), .val (.int y4), .val (.int (p5 &&& (3 : Int32))), .unset, .unset, .unset, .unset, .unset, .unset, .unset, .unset, .unset, .unset, .unset, .unset, .unset, .unset, .unset, .unset, .unset] [(.int (p6 &&& (1 : Int32)))])) _
      refine XS.ifYes X0.here hx rfl (pc0 := 69) (pc' := 76) rfl (hb hby at_69) rfl ((if0 _ _).trans (teq (hd6 : ((p6 &&& (1 : Int32)) = (0 : Int32)))).1) (by decide) (by decide) ?_
      show Steps p.tables e below (s₁.setTop (mkF m 76 #[.val (.long q1), .second, .val (.long q2), .second, .val (.int p3), .val (.int p4), .val (.int p5), .val (.int p6), .val (.int y1), .val (.int y2), .val (.int y3), .val (.int y4), .val (.int (p5 &&& (3 : Int32))), .unset, .unset, .unset, .unset, .unset, .unset, .unset, .unset, .unset, .unset, .unset, .unset, .unset, .unset, .unset, .unset, .unset] [])) _
      refine XS.iconst X0.here hx rfl (hb hby at_76) ?_
      exact k
    · rw [show (own_hd p6) = (1 : Int32) from if_neg hd6] at k
      refine pre5 t ?_
      show Steps p.tables e below (s₁.setTop (mkF m 69 #[.val (.long q1), .second, .val (.long q2), .second, .val (.int p3), .val (.int p4), .val (.int p5), .val (.int p6), .val (.int y1), .val (.int y2), .val (.int y3), .val (.int y4), .val (.int (p5 &&& (3 : Int32))), .unset, .unset, .unset, .unset, .unset, .unset, .unset, .unset, .unset, .unset, .unset, .unset, .unset, .unset, .unset, .unset, .unset] [(.int (p6 &&& (1 : Int32)))])) _
      refine XS.ifNo X0.here hx rfl (hb hby at_69) rfl ((if0 _ _).trans (feq (hd6 : ¬ ((p6 &&& (1 : Int32)) = (0 : Int32)))).1) ?_
      show Steps p.tables e below (s₁.setTop (mkF m 72 #[.val (.long q1), .second, .val (.long q2), .second, .val (.int p3), .val (.int p4), .val (.int p5), .val (.int p6), .val (.int y1), .val (.int y2), .val (.int y3), .val (.int y4), .val (.int (p5 &&& (3 : Int32))), .unset, .unset, .unset, .unset, .unset, .unset, .unset, .unset, .unset, .unset, .unset, .unset, .unset, .unset, .unset, .unset, .unset] [])) _
      refine XS.iconst X0.here hx rfl (hb hby at_72) ?_
      refine XS.goto X0.here hx rfl (pc0 := 73) (pc' := 77) rfl (hb hby at_73) (by decide) (by decide) ?_
      exact k
  have pre7 : ∀ t, Steps p.tables e below (s₁.setTop (mkF m 83 #[.val (.long q1), .second, .val (.long q2), .second, .val (.int p3), .val (.int p4), .val (.int p5), .val (.int p6), .val (.int y1), .val (.int y2), .val (.int y3), .val (.int y4), .val (.int (p5 &&& (3 : Int32))), .val (.int (own_hd p6)), .unset, .unset, .unset, .unset, .unset, .unset, .unset, .unset, .unset, .unset, .unset, .unset, .unset, .unset, .unset, .unset] [(.int (p6 &&& (2 : Int32)))])) t → Steps p.tables e below (s₁.setTop (entryFrame m #[(.long q1), (.long q2), (.int p3), (.int p4), (.int p5), (.int p6)] maxLocals)) t := by
    intro t k
    refine pre6 t ?_
    show Steps p.tables e below (s₁.setTop (mkF m 77 #[.val (.long q1), .second, .val (.long q2), .second, .val (.int p3), .val (.int p4), .val (.int p5), .val (.int p6), .val (.int y1), .val (.int y2), .val (.int y3), .val (.int y4), .val (.int (p5 &&& (3 : Int32))), .unset, .unset, .unset, .unset, .unset, .unset, .unset, .unset, .unset, .unset, .unset, .unset, .unset, .unset, .unset, .unset, .unset] [(.int (own_hd p6))])) _
    refine XS.istore X0.here hx rfl (hb hby at_77) rfl (l' := #[.val (.long q1), .second, .val (.long q2), .second, .val (.int p3), .val (.int p4), .val (.int p5), .val (.int p6), .val (.int y1), .val (.int y2), .val (.int y3), .val (.int y4), .val (.int (p5 &&& (3 : Int32))), .val (.int (own_hd p6)), .unset, .unset, .unset, .unset, .unset, .unset, .unset, .unset, .unset, .unset, .unset, .unset, .unset, .unset, .unset, .unset]) rfl ?_
    show Steps p.tables e below (s₁.setTop (mkF m 79 #[.val (.long q1), .second, .val (.long q2), .second, .val (.int p3), .val (.int p4), .val (.int p5), .val (.int p6), .val (.int y1), .val (.int y2), .val (.int y3), .val (.int y4), .val (.int (p5 &&& (3 : Int32))), .val (.int (own_hd p6)), .unset, .unset, .unset, .unset, .unset, .unset, .unset, .unset, .unset, .unset, .unset, .unset, .unset, .unset, .unset, .unset] [])) _
    refine XS.iload X0.here hx rfl (hb hby at_79) rfl ?_
    refine XS.iconst X0.here hx rfl (hb hby at_81) ?_
    refine XS.iand X0.here hx rfl (hb hby at_82) rfl ?_
    exact k
  by_cases hc83_8 : (p6 &&& (2 : Int32)) = (0 : Int32)
  · obtain ⟨y9, hy9⟩ : ∃ z : Int32, z = (((y1 * (64 : Int32)) + y2).toUInt32.toUInt16.toUInt32.toInt32) := ⟨_, rfl⟩
    obtain ⟨y10, hy10⟩ : ∃ z : Int32, z = (((y1 * (64 : Int32)) + y3).toUInt32.toUInt16.toUInt32.toInt32) := ⟨_, rfl⟩
    obtain ⟨y11, hy11⟩ : ∃ z : Int32, z = (((y1 * (64 : Int32)) + y4).toUInt32.toUInt16.toUInt32.toInt32) := ⟨_, rfl⟩
    obtain ⟨T12, h12, k12, X12, e12, E12, A12, st12⟩ := newP X0 hx hZ (hw _ (List.mem_of_getElem? (i := 2) rfl)) e0 (g := (mkF m 125 #[.val (.long q1), .second, .val (.long q2), .second, .val (.int p3), .val (.int p4), .val (.int p5), .val (.int p6), .val (.int y1), .val (.int y2), .val (.int y3), .val (.int y4), .val (.int (p5 &&& (3 : Int32))), .val (.int (own_hd p6)), .val (.int (0 : Int32)), .val (.int (y1 * (64 : Int32))), .val (.int y9), .val (.int y10), .val (.int y11), .unset, .unset, .unset, .unset, .unset, .unset, .unset, .unset, .unset, .unset, .unset] [(.int (2 : Int32))])) rfl (hb hby at_125) rfl (by decide) (cap := 2) (by decide) (by decide) (by decide) (by decide)
    obtain ⟨b12, g12⟩ : ∃ z, z = h0.size := ⟨_, rfl⟩
    rw [← g12] at A12 st12
    have g_b12 : n0 ≤ b12 := Nat.le_trans Z0 (Nat.le_of_eq g12.symm)
    have Z12 : n0 ≤ h12.size := Nat.le_trans Z0 E12.1
    have V12_v12 : ArF Z h12 b12 .long 2 (fun _ => (.long 0)) := ArF.mk0 A12 rfl rfl
    obtain ⟨cl13, Ar13, S13, H13⟩ := id V12_v12
    have hin13 : ¬ ((0 : Int32) < 0 ∨ cl13.slots.size ≤ ((0 : Int32)).toNatClampNeg) := inA S13 (by decide) (by decide)
    obtain ⟨T13, h13, X13, e13, W13, st13⟩ := stJ X12 hx hZ e12 Ar13 (j := (0 : Int32)) hin13 (g := (mkF m 133 #[.val (.long q1), .second, .val (.long q2), .second, .val (.int p3), .val (.int p4), .val (.int p5), .val (.int p6), .val (.int y1), .val (.int y2), .val (.int y3), .val (.int y4), .val (.int (p5 &&& (3 : Int32))), .val (.int (own_hd p6)), .val (.int (0 : Int32)), .val (.int (y1 * (64 : Int32))), .val (.int y9), .val (.int y10), .val (.int y11), .val (.ref b12), .unset, .unset, .unset, .unset, .unset, .unset, .unset, .unset, .unset, .unset] [(.long q1), (.int (0 : Int32)), (.ref b12)])) rfl rfl (hb hby at_133)
    have Z13 : n0 ≤ h13.size := Nat.le_trans Z12 (Nat.le_of_eq W13.size.symm)
    have V13_v13 := ArF.set Ar13 S13 H13 W13 hin13
    have N13 := Fr.snoc X13 N0 g_b12
    obtain ⟨cl14, Ar14, S14, H14⟩ := id V13_v13
    have hin14 : ¬ ((1 : Int32) < 0 ∨ cl14.slots.size ≤ ((1 : Int32)).toNatClampNeg) := inA S14 (by decide) (by decide)
    obtain ⟨T14, h14, X14, e14, W14, st14⟩ := stJ X13 hx hZ e13 Ar14 (j := (1 : Int32)) hin14 (g := (mkF m 138 #[.val (.long q1), .second, .val (.long q2), .second, .val (.int p3), .val (.int p4), .val (.int p5), .val (.int p6), .val (.int y1), .val (.int y2), .val (.int y3), .val (.int y4), .val (.int (p5 &&& (3 : Int32))), .val (.int (own_hd p6)), .val (.int (0 : Int32)), .val (.int (y1 * (64 : Int32))), .val (.int y9), .val (.int y10), .val (.int y11), .val (.ref b12), .unset, .unset, .unset, .unset, .unset, .unset, .unset, .unset, .unset, .unset] [(.long q2), (.int (1 : Int32)), (.ref b12)])) rfl rfl (hb hby at_138)
    have Z14 : n0 ≤ h14.size := Nat.le_trans Z13 (Nat.le_of_eq W14.size.symm)
    have V14_v14 := ArF.set Ar14 S14 H14 W14 hin14
    have N14 := Fr.snoc X14 N13 g_b12
    have VW_v0 : ArF Z h14 b12 .long 2 (fun i => .long (own_g q1 q2 i)) := V14_v14.congr (fun i hi => by
      match i, hi with
      | 0, _ => rfl
      | 1, _ => rfl)
    obtain ⟨T15, h15, k15, X15, e15, E15, A15, st15⟩ := newP X14 hx hZ (hw _ (List.mem_of_getElem? (i := 3) rfl)) e14 (g := (mkF m 140 #[.val (.long q1), .second, .val (.long q2), .second, .val (.int p3), .val (.int p4), .val (.int p5), .val (.int p6), .val (.int y1), .val (.int y2), .val (.int y3), .val (.int y4), .val (.int (p5 &&& (3 : Int32))), .val (.int (own_hd p6)), .val (.int (0 : Int32)), .val (.int (y1 * (64 : Int32))), .val (.int y9), .val (.int y10), .val (.int y11), .val (.ref b12), .unset, .unset, .unset, .unset, .unset, .unset, .unset, .unset, .unset, .unset] [(.int (3 : Int32))])) rfl (hb hby at_140) rfl (by decide) (cap := 3) (by decide) (by decide) (by decide) (by decide)
    obtain ⟨b15, g15⟩ : ∃ z, z = h14.size := ⟨_, rfl⟩
    rw [← g15] at A15 st15
    have ne_b12_b15 : b12 ≠ b15 := Nat.ne_of_lt (Nat.lt_of_lt_of_le VW_v0.lt (Nat.le_of_eq g15.symm))
    have g_b15 : n0 ≤ b15 := Nat.le_trans Z14 (Nat.le_of_eq g15.symm)
    have VW_v15 := VW_v0.ext E15
    have Z15 : n0 ≤ h15.size := Nat.le_trans Z14 E15.1
    have V15_v15 : ArF Z h15 b15 .char 3 (fun _ => (.int 0)) := ArF.mk0 A15 rfl rfl
    obtain ⟨cl16, Ar16, S16, H16⟩ := id V15_v15
    have hin16 : ¬ ((0 : Int32) < 0 ∨ cl16.slots.size ≤ ((0 : Int32)).toNatClampNeg) := inA S16 (by decide) (by decide)
    obtain ⟨T16, h16, X16, e16, W16, st16⟩ := stC X15 hx hZ e15 Ar16 (j := (0 : Int32)) hin16 (g := (mkF m 149 #[.val (.long q1), .second, .val (.long q2), .second, .val (.int p3), .val (.int p4), .val (.int p5), .val (.int p6), .val (.int y1), .val (.int y2), .val (.int y3), .val (.int y4), .val (.int (p5 &&& (3 : Int32))), .val (.int (own_hd p6)), .val (.int (0 : Int32)), .val (.int (y1 * (64 : Int32))), .val (.int y9), .val (.int y10), .val (.int y11), .val (.ref b12), .val (.ref b15), .unset, .unset, .unset, .unset, .unset, .unset, .unset, .unset, .unset] [(.int y9), (.int (0 : Int32)), (.ref b15)])) rfl rfl (hb hby at_149)
    have VW_v16 := VW_v15.other W16 ne_b12_b15
    have Z16 : n0 ≤ h16.size := Nat.le_trans Z15 (Nat.le_of_eq W16.size.symm)
    have V16_v16 := ArF.set Ar16 S16 H16 W16 hin16
    have N16 := Fr.snoc X16 N14 g_b15
    obtain ⟨cl17, Ar17, S17, H17⟩ := id V16_v16
    have hin17 : ¬ ((1 : Int32) < 0 ∨ cl17.slots.size ≤ ((1 : Int32)).toNatClampNeg) := inA S17 (by decide) (by decide)
    obtain ⟨T17, h17, X17, e17, W17, st17⟩ := stC X16 hx hZ e16 Ar17 (j := (1 : Int32)) hin17 (g := (mkF m 155 #[.val (.long q1), .second, .val (.long q2), .second, .val (.int p3), .val (.int p4), .val (.int p5), .val (.int p6), .val (.int y1), .val (.int y2), .val (.int y3), .val (.int y4), .val (.int (p5 &&& (3 : Int32))), .val (.int (own_hd p6)), .val (.int (0 : Int32)), .val (.int (y1 * (64 : Int32))), .val (.int y9), .val (.int y10), .val (.int y11), .val (.ref b12), .val (.ref b15), .unset, .unset, .unset, .unset, .unset, .unset, .unset, .unset, .unset] [(.int y10), (.int (1 : Int32)), (.ref b15)])) rfl rfl (hb hby at_155)
    have VW_v17 := VW_v16.other W17 ne_b12_b15
    have Z17 : n0 ≤ h17.size := Nat.le_trans Z16 (Nat.le_of_eq W17.size.symm)
    have V17_v17 := ArF.set Ar17 S17 H17 W17 hin17
    have N17 := Fr.snoc X17 N16 g_b15
    obtain ⟨cl18, Ar18, S18, H18⟩ := id V17_v17
    have hin18 : ¬ ((2 : Int32) < 0 ∨ cl18.slots.size ≤ ((2 : Int32)).toNatClampNeg) := inA S18 (by decide) (by decide)
    obtain ⟨T18, h18, X18, e18, W18, st18⟩ := stC X17 hx hZ e17 Ar18 (j := (2 : Int32)) hin18 (g := (mkF m 161 #[.val (.long q1), .second, .val (.long q2), .second, .val (.int p3), .val (.int p4), .val (.int p5), .val (.int p6), .val (.int y1), .val (.int y2), .val (.int y3), .val (.int y4), .val (.int (p5 &&& (3 : Int32))), .val (.int (own_hd p6)), .val (.int (0 : Int32)), .val (.int (y1 * (64 : Int32))), .val (.int y9), .val (.int y10), .val (.int y11), .val (.ref b12), .val (.ref b15), .unset, .unset, .unset, .unset, .unset, .unset, .unset, .unset, .unset] [(.int y11), (.int (2 : Int32)), (.ref b15)])) rfl rfl (hb hby at_161)
    have VW_v18 := VW_v17.other W18 ne_b12_b15
    have Z18 : n0 ≤ h18.size := Nat.le_trans Z17 (Nat.le_of_eq W18.size.symm)
    have V18_v18 := ArF.set Ar18 S18 H18 W18 hin18
    have N18 := Fr.snoc X18 N17 g_b15
    have hq0 := own_ch hfw.1 hfw.2 ho0.1 (Int.le_trans ho0.2 (by decide)) hy9
    have hq1 := own_ch hfw.1 hfw.2 (Int.le_of_lt (Int.lt_of_le_of_lt ho0.1 ho1.1)) (Int.le_trans ho1.2 (by decide)) hy10
    have hq2 := own_ch hfw.1 hfw.2 (Int.le_of_lt (Int.lt_of_le_of_lt ho0.1 (Int.lt_trans ho1.1 ho2.1))) ho2.2 hy11
    have hb0 := own_chB hq0 hfw.1 hfw.2 ho0.1 (Int.le_trans ho0.2 (by decide))
    have hb1 := own_chB hq1 hfw.1 hfw.2 (Int.le_of_lt (Int.lt_of_le_of_lt ho0.1 ho1.1)) (Int.le_trans ho1.2 (by decide))
    have hb2 := own_chB hq2 hfw.1 hfw.2 (Int.le_of_lt (Int.lt_of_le_of_lt ho0.1 (Int.lt_trans ho1.1 ho2.1))) ho2.2
    have VV_v0 : ArF Z h18 b15 .char 3 (fun i => .int ((own_f3 y9 y10 y11) i)) := V18_v18.congr (fun i hi => by
      match i, hi with
      | 0, _ => exact congrArg Value.int (own_nar hb0.1)
      | 1, _ => exact congrArg Value.int (own_nar hb1.1)
      | 2, _ => exact congrArg Value.int (own_nar hb2.1))
    have hin := own_hin hb0 hb1 hb2
    have hcn := own_cn p5
    obtain ⟨T19, h19, k19, X19, e19, E19, A19, st19⟩ := newP X18 hx hZ (hw _ (List.mem_of_getElem? (i := 3) rfl)) e18 (g := (mkF m 173 #[.val (.long q1), .second, .val (.long q2), .second, .val (.int p3), .val (.int p4), .val (.int p5), .val (.int p6), .val (.int y1), .val (.int y2), .val (.int y3), .val (.int y4), .val (.int (p5 &&& (3 : Int32))), .val (.int (own_hd p6)), .val (.int (0 : Int32)), .val (.int (y1 * (64 : Int32))), .val (.int y9), .val (.int y10), .val (.int y11), .val (.ref b12), .val (.ref b15), .unset, .unset, .unset, .unset, .unset, .unset, .unset, .unset, .unset] [(.int (3 : Int32))])) rfl (hb hby at_173) rfl (by decide) (cap := 3) (by decide) (by decide) (by decide) (by decide)
    obtain ⟨b19, g19⟩ : ∃ z, z = h18.size := ⟨_, rfl⟩
    rw [← g19] at A19 st19
    have ne_b12_b19 : b12 ≠ b19 := Nat.ne_of_lt (Nat.lt_of_lt_of_le VW_v18.lt (Nat.le_of_eq g19.symm))
    have ne_b15_b19 : b15 ≠ b19 := Nat.ne_of_lt (Nat.lt_of_lt_of_le VV_v0.lt (Nat.le_of_eq g19.symm))
    have g_b19 : n0 ≤ b19 := Nat.le_trans Z18 (Nat.le_of_eq g19.symm)
    have VW_v19 := VW_v18.ext E19
    have VV_v19 := VV_v0.ext E19
    have Z19 : n0 ≤ h19.size := Nat.le_trans Z18 E19.1
    have V19_v19 : ArF Z h19 b19 .char 3 (fun _ => (.int 0)) := ArF.mk0 A19 rfl rfl
    have pre20 : ∀ t, Steps p.tables e below (T19.setTop (mkF m 179 #[.val (.long q1), .second, .val (.long q2), .second, .val (.int p3), .val (.int p4), .val (.int p5), .val (.int p6), .val (.int y1), .val (.int y2), .val (.int y3), .val (.int y4), .val (.int (p5 &&& (3 : Int32))), .val (.int (own_hd p6)), .val (.int (0 : Int32)), .val (.int (y1 * (64 : Int32))), .val (.int y9), .val (.int y10), .val (.int y11), .val (.ref b12), .val (.ref b15), .val (.ref b19), .unset, .unset, .unset, .unset, .unset, .unset, .unset, .unset] [(.int (own_hd p6))])) t → Steps p.tables e below (s₁.setTop (entryFrame m #[(.long q1), (.long q2), (.int p3), (.int p4), (.int p5), (.int p6)] maxLocals)) t := by
      intro t k
      refine pre7 t ?_
      show Steps p.tables e below (s₁.setTop (mkF m 83 #[.val (.long q1), .second, .val (.long q2), .second, .val (.int p3), .val (.int p4), .val (.int p5), .val (.int p6), .val (.int y1), .val (.int y2), .val (.int y3), .val (.int y4), .val (.int (p5 &&& (3 : Int32))), .val (.int (own_hd p6)), .unset, .unset, .unset, .unset, .unset, .unset, .unset, .unset, .unset, .unset, .unset, .unset, .unset, .unset, .unset, .unset] [(.int (p6 &&& (2 : Int32)))])) _
      refine XS.ifYes X0.here hx rfl (pc0 := 83) (pc' := 90) rfl (hb hby at_83) rfl ((if0 _ _).trans (teq hc83_8).1) (by decide) (by decide) ?_
      show Steps p.tables e below (s₁.setTop (mkF m 90 #[.val (.long q1), .second, .val (.long q2), .second, .val (.int p3), .val (.int p4), .val (.int p5), .val (.int p6), .val (.int y1), .val (.int y2), .val (.int y3), .val (.int y4), .val (.int (p5 &&& (3 : Int32))), .val (.int (own_hd p6)), .unset, .unset, .unset, .unset, .unset, .unset, .unset, .unset, .unset, .unset, .unset, .unset, .unset, .unset, .unset, .unset] [])) _
      refine XS.iconst X0.here hx rfl (hb hby at_90) ?_
      refine XS.istore X0.here hx rfl (hb hby at_91) rfl (l' := #[.val (.long q1), .second, .val (.long q2), .second, .val (.int p3), .val (.int p4), .val (.int p5), .val (.int p6), .val (.int y1), .val (.int y2), .val (.int y3), .val (.int y4), .val (.int (p5 &&& (3 : Int32))), .val (.int (own_hd p6)), .val (.int (0 : Int32)), .unset, .unset, .unset, .unset, .unset, .unset, .unset, .unset, .unset, .unset, .unset, .unset, .unset, .unset, .unset]) rfl ?_
      show Steps p.tables e below (s₁.setTop (mkF m 93 #[.val (.long q1), .second, .val (.long q2), .second, .val (.int p3), .val (.int p4), .val (.int p5), .val (.int p6), .val (.int y1), .val (.int y2), .val (.int y3), .val (.int y4), .val (.int (p5 &&& (3 : Int32))), .val (.int (own_hd p6)), .val (.int (0 : Int32)), .unset, .unset, .unset, .unset, .unset, .unset, .unset, .unset, .unset, .unset, .unset, .unset, .unset, .unset, .unset] [])) _
      refine XS.iload X0.here hx rfl (hb hby at_93) rfl ?_
      refine XS.bipush X0.here hx rfl (hb hby at_95) ?_
      refine XS.imul X0.here hx rfl (hb hby at_97) rfl ?_
      show Steps p.tables e below (s₁.setTop (mkF m 98 #[.val (.long q1), .second, .val (.long q2), .second, .val (.int p3), .val (.int p4), .val (.int p5), .val (.int p6), .val (.int y1), .val (.int y2), .val (.int y3), .val (.int y4), .val (.int (p5 &&& (3 : Int32))), .val (.int (own_hd p6)), .val (.int (0 : Int32)), .unset, .unset, .unset, .unset, .unset, .unset, .unset, .unset, .unset, .unset, .unset, .unset, .unset, .unset, .unset] [(.int (y1 * (64 : Int32)))])) _
      refine XS.istore X0.here hx rfl (hb hby at_98) rfl (l' := #[.val (.long q1), .second, .val (.long q2), .second, .val (.int p3), .val (.int p4), .val (.int p5), .val (.int p6), .val (.int y1), .val (.int y2), .val (.int y3), .val (.int y4), .val (.int (p5 &&& (3 : Int32))), .val (.int (own_hd p6)), .val (.int (0 : Int32)), .val (.int (y1 * (64 : Int32))), .unset, .unset, .unset, .unset, .unset, .unset, .unset, .unset, .unset, .unset, .unset, .unset, .unset, .unset]) rfl ?_
      show Steps p.tables e below (s₁.setTop (mkF m 100 #[.val (.long q1), .second, .val (.long q2), .second, .val (.int p3), .val (.int p4), .val (.int p5), .val (.int p6), .val (.int y1), .val (.int y2), .val (.int y3), .val (.int y4), .val (.int (p5 &&& (3 : Int32))), .val (.int (own_hd p6)), .val (.int (0 : Int32)), .val (.int (y1 * (64 : Int32))), .unset, .unset, .unset, .unset, .unset, .unset, .unset, .unset, .unset, .unset, .unset, .unset, .unset, .unset] [])) _
      refine XS.iload X0.here hx rfl (hb hby at_100) rfl ?_
      refine XS.iload X0.here hx rfl (hb hby at_102) rfl ?_
      refine XS.iadd X0.here hx rfl (hb hby at_104) rfl ?_
      show Steps p.tables e below (s₁.setTop (mkF m 105 #[.val (.long q1), .second, .val (.long q2), .second, .val (.int p3), .val (.int p4), .val (.int p5), .val (.int p6), .val (.int y1), .val (.int y2), .val (.int y3), .val (.int y4), .val (.int (p5 &&& (3 : Int32))), .val (.int (own_hd p6)), .val (.int (0 : Int32)), .val (.int (y1 * (64 : Int32))), .unset, .unset, .unset, .unset, .unset, .unset, .unset, .unset, .unset, .unset, .unset, .unset, .unset, .unset] [(.int ((y1 * (64 : Int32)) + y2))])) _
      refine XS.i2c X0.here hx rfl (hb hby at_105) rfl ?_
      show Steps p.tables e below (s₁.setTop (mkF m 106 #[.val (.long q1), .second, .val (.long q2), .second, .val (.int p3), .val (.int p4), .val (.int p5), .val (.int p6), .val (.int y1), .val (.int y2), .val (.int y3), .val (.int y4), .val (.int (p5 &&& (3 : Int32))), .val (.int (own_hd p6)), .val (.int (0 : Int32)), .val (.int (y1 * (64 : Int32))), .unset, .unset, .unset, .unset, .unset, .unset, .unset, .unset, .unset, .unset, .unset, .unset, .unset, .unset] [(.int (((y1 * (64 : Int32)) + y2).toUInt32.toUInt16.toUInt32.toInt32))])) _
      rw [← hy9]
      refine XS.istore X0.here hx rfl (hb hby at_106) rfl (l' := #[.val (.long q1), .second, .val (.long q2), .second, .val (.int p3), .val (.int p4), .val (.int p5), .val (.int p6), .val (.int y1), .val (.int y2), .val (.int y3), .val (.int y4), .val (.int (p5 &&& (3 : Int32))), .val (.int (own_hd p6)), .val (.int (0 : Int32)), .val (.int (y1 * (64 : Int32))), .val (.int y9), .unset, .unset, .unset, .unset, .unset, .unset, .unset, .unset, .unset, .unset, .unset, .unset, .unset]) rfl ?_
      show Steps p.tables e below (s₁.setTop (mkF m 108 #[.val (.long q1), .second, .val (.long q2), .second, .val (.int p3), .val (.int p4), .val (.int p5), .val (.int p6), .val (.int y1), .val (.int y2), .val (.int y3), .val (.int y4), .val (.int (p5 &&& (3 : Int32))), .val (.int (own_hd p6)), .val (.int (0 : Int32)), .val (.int (y1 * (64 : Int32))), .val (.int y9), .unset, .unset, .unset, .unset, .unset, .unset, .unset, .unset, .unset, .unset, .unset, .unset, .unset] [])) _
      refine XS.iload X0.here hx rfl (hb hby at_108) rfl ?_
      refine XS.iload X0.here hx rfl (hb hby at_110) rfl ?_
      refine XS.iadd X0.here hx rfl (hb hby at_112) rfl ?_
      show Steps p.tables e below (s₁.setTop (mkF m 113 #[.val (.long q1), .second, .val (.long q2), .second, .val (.int p3), .val (.int p4), .val (.int p5), .val (.int p6), .val (.int y1), .val (.int y2), .val (.int y3), .val (.int y4), .val (.int (p5 &&& (3 : Int32))), .val (.int (own_hd p6)), .val (.int (0 : Int32)), .val (.int (y1 * (64 : Int32))), .val (.int y9), .unset, .unset, .unset, .unset, .unset, .unset, .unset, .unset, .unset, .unset, .unset, .unset, .unset] [(.int ((y1 * (64 : Int32)) + y3))])) _
      refine XS.i2c X0.here hx rfl (hb hby at_113) rfl ?_
      show Steps p.tables e below (s₁.setTop (mkF m 114 #[.val (.long q1), .second, .val (.long q2), .second, .val (.int p3), .val (.int p4), .val (.int p5), .val (.int p6), .val (.int y1), .val (.int y2), .val (.int y3), .val (.int y4), .val (.int (p5 &&& (3 : Int32))), .val (.int (own_hd p6)), .val (.int (0 : Int32)), .val (.int (y1 * (64 : Int32))), .val (.int y9), .unset, .unset, .unset, .unset, .unset, .unset, .unset, .unset, .unset, .unset, .unset, .unset, .unset] [(.int (((y1 * (64 : Int32)) + y3).toUInt32.toUInt16.toUInt32.toInt32))])) _
      rw [← hy10]
      refine XS.istore X0.here hx rfl (hb hby at_114) rfl (l' := #[.val (.long q1), .second, .val (.long q2), .second, .val (.int p3), .val (.int p4), .val (.int p5), .val (.int p6), .val (.int y1), .val (.int y2), .val (.int y3), .val (.int y4), .val (.int (p5 &&& (3 : Int32))), .val (.int (own_hd p6)), .val (.int (0 : Int32)), .val (.int (y1 * (64 : Int32))), .val (.int y9), .val (.int y10), .unset, .unset, .unset, .unset, .unset, .unset, .unset, .unset, .unset, .unset, .unset, .unset]) rfl ?_
      show Steps p.tables e below (s₁.setTop (mkF m 116 #[.val (.long q1), .second, .val (.long q2), .second, .val (.int p3), .val (.int p4), .val (.int p5), .val (.int p6), .val (.int y1), .val (.int y2), .val (.int y3), .val (.int y4), .val (.int (p5 &&& (3 : Int32))), .val (.int (own_hd p6)), .val (.int (0 : Int32)), .val (.int (y1 * (64 : Int32))), .val (.int y9), .val (.int y10), .unset, .unset, .unset, .unset, .unset, .unset, .unset, .unset, .unset, .unset, .unset, .unset] [])) _
      refine XS.iload X0.here hx rfl (hb hby at_116) rfl ?_
      refine XS.iload X0.here hx rfl (hb hby at_118) rfl ?_
      refine XS.iadd X0.here hx rfl (hb hby at_120) rfl ?_
      show Steps p.tables e below (s₁.setTop (mkF m 121 #[.val (.long q1), .second, .val (.long q2), .second, .val (.int p3), .val (.int p4), .val (.int p5), .val (.int p6), .val (.int y1), .val (.int y2), .val (.int y3), .val (.int y4), .val (.int (p5 &&& (3 : Int32))), .val (.int (own_hd p6)), .val (.int (0 : Int32)), .val (.int (y1 * (64 : Int32))), .val (.int y9), .val (.int y10), .unset, .unset, .unset, .unset, .unset, .unset, .unset, .unset, .unset, .unset, .unset, .unset] [(.int ((y1 * (64 : Int32)) + y4))])) _
      refine XS.i2c X0.here hx rfl (hb hby at_121) rfl ?_
      show Steps p.tables e below (s₁.setTop (mkF m 122 #[.val (.long q1), .second, .val (.long q2), .second, .val (.int p3), .val (.int p4), .val (.int p5), .val (.int p6), .val (.int y1), .val (.int y2), .val (.int y3), .val (.int y4), .val (.int (p5 &&& (3 : Int32))), .val (.int (own_hd p6)), .val (.int (0 : Int32)), .val (.int (y1 * (64 : Int32))), .val (.int y9), .val (.int y10), .unset, .unset, .unset, .unset, .unset, .unset, .unset, .unset, .unset, .unset, .unset, .unset] [(.int (((y1 * (64 : Int32)) + y4).toUInt32.toUInt16.toUInt32.toInt32))])) _
      rw [← hy11]
      refine XS.istore X0.here hx rfl (hb hby at_122) rfl (l' := #[.val (.long q1), .second, .val (.long q2), .second, .val (.int p3), .val (.int p4), .val (.int p5), .val (.int p6), .val (.int y1), .val (.int y2), .val (.int y3), .val (.int y4), .val (.int (p5 &&& (3 : Int32))), .val (.int (own_hd p6)), .val (.int (0 : Int32)), .val (.int (y1 * (64 : Int32))), .val (.int y9), .val (.int y10), .val (.int y11), .unset, .unset, .unset, .unset, .unset, .unset, .unset, .unset, .unset, .unset, .unset]) rfl ?_
      show Steps p.tables e below (s₁.setTop (mkF m 124 #[.val (.long q1), .second, .val (.long q2), .second, .val (.int p3), .val (.int p4), .val (.int p5), .val (.int p6), .val (.int y1), .val (.int y2), .val (.int y3), .val (.int y4), .val (.int (p5 &&& (3 : Int32))), .val (.int (own_hd p6)), .val (.int (0 : Int32)), .val (.int (y1 * (64 : Int32))), .val (.int y9), .val (.int y10), .val (.int y11), .unset, .unset, .unset, .unset, .unset, .unset, .unset, .unset, .unset, .unset, .unset] [])) _
      refine XS.iconst X0.here hx rfl (hb hby at_124) ?_
      show Steps p.tables e below (s₁.setTop (mkF m 125 #[.val (.long q1), .second, .val (.long q2), .second, .val (.int p3), .val (.int p4), .val (.int p5), .val (.int p6), .val (.int y1), .val (.int y2), .val (.int y3), .val (.int y4), .val (.int (p5 &&& (3 : Int32))), .val (.int (own_hd p6)), .val (.int (0 : Int32)), .val (.int (y1 * (64 : Int32))), .val (.int y9), .val (.int y10), .val (.int y11), .unset, .unset, .unset, .unset, .unset, .unset, .unset, .unset, .unset, .unset, .unset] [(.int (2 : Int32))])) _
      refine st12 _ ?_
      show Steps p.tables e below (T12.setTop (mkF m 127 #[.val (.long q1), .second, .val (.long q2), .second, .val (.int p3), .val (.int p4), .val (.int p5), .val (.int p6), .val (.int y1), .val (.int y2), .val (.int y3), .val (.int y4), .val (.int (p5 &&& (3 : Int32))), .val (.int (own_hd p6)), .val (.int (0 : Int32)), .val (.int (y1 * (64 : Int32))), .val (.int y9), .val (.int y10), .val (.int y11), .unset, .unset, .unset, .unset, .unset, .unset, .unset, .unset, .unset, .unset, .unset] [(.ref b12)])) _
      refine XS.astore X12.here hx rfl (hb hby at_127) rfl rfl (l' := #[.val (.long q1), .second, .val (.long q2), .second, .val (.int p3), .val (.int p4), .val (.int p5), .val (.int p6), .val (.int y1), .val (.int y2), .val (.int y3), .val (.int y4), .val (.int (p5 &&& (3 : Int32))), .val (.int (own_hd p6)), .val (.int (0 : Int32)), .val (.int (y1 * (64 : Int32))), .val (.int y9), .val (.int y10), .val (.int y11), .val (.ref b12), .unset, .unset, .unset, .unset, .unset, .unset, .unset, .unset, .unset, .unset]) rfl ?_
      show Steps p.tables e below (T12.setTop (mkF m 129 #[.val (.long q1), .second, .val (.long q2), .second, .val (.int p3), .val (.int p4), .val (.int p5), .val (.int p6), .val (.int y1), .val (.int y2), .val (.int y3), .val (.int y4), .val (.int (p5 &&& (3 : Int32))), .val (.int (own_hd p6)), .val (.int (0 : Int32)), .val (.int (y1 * (64 : Int32))), .val (.int y9), .val (.int y10), .val (.int y11), .val (.ref b12), .unset, .unset, .unset, .unset, .unset, .unset, .unset, .unset, .unset, .unset] [])) _
      refine XS.aload X12.here hx rfl (hb hby at_129) rfl rfl ?_
      refine XS.iconst X12.here hx rfl (hb hby at_131) ?_
      refine XS.lloadN X12.here hx rfl (hb hby at_132) rfl ?_
      show Steps p.tables e below (T12.setTop (mkF m 133 #[.val (.long q1), .second, .val (.long q2), .second, .val (.int p3), .val (.int p4), .val (.int p5), .val (.int p6), .val (.int y1), .val (.int y2), .val (.int y3), .val (.int y4), .val (.int (p5 &&& (3 : Int32))), .val (.int (own_hd p6)), .val (.int (0 : Int32)), .val (.int (y1 * (64 : Int32))), .val (.int y9), .val (.int y10), .val (.int y11), .val (.ref b12), .unset, .unset, .unset, .unset, .unset, .unset, .unset, .unset, .unset, .unset] [(.long q1), (.int (0 : Int32)), (.ref b12)])) _
      refine st13 _ ?_
      show Steps p.tables e below (T13.setTop (mkF m 134 #[.val (.long q1), .second, .val (.long q2), .second, .val (.int p3), .val (.int p4), .val (.int p5), .val (.int p6), .val (.int y1), .val (.int y2), .val (.int y3), .val (.int y4), .val (.int (p5 &&& (3 : Int32))), .val (.int (own_hd p6)), .val (.int (0 : Int32)), .val (.int (y1 * (64 : Int32))), .val (.int y9), .val (.int y10), .val (.int y11), .val (.ref b12), .unset, .unset, .unset, .unset, .unset, .unset, .unset, .unset, .unset, .unset] [])) _
      refine XS.aload X13.here hx rfl (hb hby at_134) rfl rfl ?_
      refine XS.iconst X13.here hx rfl (hb hby at_136) ?_
      refine XS.lloadN X13.here hx rfl (hb hby at_137) rfl ?_
      show Steps p.tables e below (T13.setTop (mkF m 138 #[.val (.long q1), .second, .val (.long q2), .second, .val (.int p3), .val (.int p4), .val (.int p5), .val (.int p6), .val (.int y1), .val (.int y2), .val (.int y3), .val (.int y4), .val (.int (p5 &&& (3 : Int32))), .val (.int (own_hd p6)), .val (.int (0 : Int32)), .val (.int (y1 * (64 : Int32))), .val (.int y9), .val (.int y10), .val (.int y11), .val (.ref b12), .unset, .unset, .unset, .unset, .unset, .unset, .unset, .unset, .unset, .unset] [(.long q2), (.int (1 : Int32)), (.ref b12)])) _
      refine st14 _ ?_
      show Steps p.tables e below (T14.setTop (mkF m 139 #[.val (.long q1), .second, .val (.long q2), .second, .val (.int p3), .val (.int p4), .val (.int p5), .val (.int p6), .val (.int y1), .val (.int y2), .val (.int y3), .val (.int y4), .val (.int (p5 &&& (3 : Int32))), .val (.int (own_hd p6)), .val (.int (0 : Int32)), .val (.int (y1 * (64 : Int32))), .val (.int y9), .val (.int y10), .val (.int y11), .val (.ref b12), .unset, .unset, .unset, .unset, .unset, .unset, .unset, .unset, .unset, .unset] [])) _
      refine XS.iconst X14.here hx rfl (hb hby at_139) ?_
      show Steps p.tables e below (T14.setTop (mkF m 140 #[.val (.long q1), .second, .val (.long q2), .second, .val (.int p3), .val (.int p4), .val (.int p5), .val (.int p6), .val (.int y1), .val (.int y2), .val (.int y3), .val (.int y4), .val (.int (p5 &&& (3 : Int32))), .val (.int (own_hd p6)), .val (.int (0 : Int32)), .val (.int (y1 * (64 : Int32))), .val (.int y9), .val (.int y10), .val (.int y11), .val (.ref b12), .unset, .unset, .unset, .unset, .unset, .unset, .unset, .unset, .unset, .unset] [(.int (3 : Int32))])) _
      refine st15 _ ?_
      show Steps p.tables e below (T15.setTop (mkF m 142 #[.val (.long q1), .second, .val (.long q2), .second, .val (.int p3), .val (.int p4), .val (.int p5), .val (.int p6), .val (.int y1), .val (.int y2), .val (.int y3), .val (.int y4), .val (.int (p5 &&& (3 : Int32))), .val (.int (own_hd p6)), .val (.int (0 : Int32)), .val (.int (y1 * (64 : Int32))), .val (.int y9), .val (.int y10), .val (.int y11), .val (.ref b12), .unset, .unset, .unset, .unset, .unset, .unset, .unset, .unset, .unset, .unset] [(.ref b15)])) _
      refine XS.astore X15.here hx rfl (hb hby at_142) rfl rfl (l' := #[.val (.long q1), .second, .val (.long q2), .second, .val (.int p3), .val (.int p4), .val (.int p5), .val (.int p6), .val (.int y1), .val (.int y2), .val (.int y3), .val (.int y4), .val (.int (p5 &&& (3 : Int32))), .val (.int (own_hd p6)), .val (.int (0 : Int32)), .val (.int (y1 * (64 : Int32))), .val (.int y9), .val (.int y10), .val (.int y11), .val (.ref b12), .val (.ref b15), .unset, .unset, .unset, .unset, .unset, .unset, .unset, .unset, .unset]) rfl ?_
      show Steps p.tables e below (T15.setTop (mkF m 144 #[.val (.long q1), .second, .val (.long q2), .second, .val (.int p3), .val (.int p4), .val (.int p5), .val (.int p6), .val (.int y1), .val (.int y2), .val (.int y3), .val (.int y4), .val (.int (p5 &&& (3 : Int32))), .val (.int (own_hd p6)), .val (.int (0 : Int32)), .val (.int (y1 * (64 : Int32))), .val (.int y9), .val (.int y10), .val (.int y11), .val (.ref b12), .val (.ref b15), .unset, .unset, .unset, .unset, .unset, .unset, .unset, .unset, .unset] [])) _
      refine XS.aload X15.here hx rfl (hb hby at_144) rfl rfl ?_
      refine XS.iconst X15.here hx rfl (hb hby at_146) ?_
      refine XS.iload X15.here hx rfl (hb hby at_147) rfl ?_
      show Steps p.tables e below (T15.setTop (mkF m 149 #[.val (.long q1), .second, .val (.long q2), .second, .val (.int p3), .val (.int p4), .val (.int p5), .val (.int p6), .val (.int y1), .val (.int y2), .val (.int y3), .val (.int y4), .val (.int (p5 &&& (3 : Int32))), .val (.int (own_hd p6)), .val (.int (0 : Int32)), .val (.int (y1 * (64 : Int32))), .val (.int y9), .val (.int y10), .val (.int y11), .val (.ref b12), .val (.ref b15), .unset, .unset, .unset, .unset, .unset, .unset, .unset, .unset, .unset] [(.int y9), (.int (0 : Int32)), (.ref b15)])) _
      refine st16 _ ?_
      show Steps p.tables e below (T16.setTop (mkF m 150 #[.val (.long q1), .second, .val (.long q2), .second, .val (.int p3), .val (.int p4), .val (.int p5), .val (.int p6), .val (.int y1), .val (.int y2), .val (.int y3), .val (.int y4), .val (.int (p5 &&& (3 : Int32))), .val (.int (own_hd p6)), .val (.int (0 : Int32)), .val (.int (y1 * (64 : Int32))), .val (.int y9), .val (.int y10), .val (.int y11), .val (.ref b12), .val (.ref b15), .unset, .unset, .unset, .unset, .unset, .unset, .unset, .unset, .unset] [])) _
      refine XS.aload X16.here hx rfl (hb hby at_150) rfl rfl ?_
      refine XS.iconst X16.here hx rfl (hb hby at_152) ?_
      refine XS.iload X16.here hx rfl (hb hby at_153) rfl ?_
      show Steps p.tables e below (T16.setTop (mkF m 155 #[.val (.long q1), .second, .val (.long q2), .second, .val (.int p3), .val (.int p4), .val (.int p5), .val (.int p6), .val (.int y1), .val (.int y2), .val (.int y3), .val (.int y4), .val (.int (p5 &&& (3 : Int32))), .val (.int (own_hd p6)), .val (.int (0 : Int32)), .val (.int (y1 * (64 : Int32))), .val (.int y9), .val (.int y10), .val (.int y11), .val (.ref b12), .val (.ref b15), .unset, .unset, .unset, .unset, .unset, .unset, .unset, .unset, .unset] [(.int y10), (.int (1 : Int32)), (.ref b15)])) _
      refine st17 _ ?_
      show Steps p.tables e below (T17.setTop (mkF m 156 #[.val (.long q1), .second, .val (.long q2), .second, .val (.int p3), .val (.int p4), .val (.int p5), .val (.int p6), .val (.int y1), .val (.int y2), .val (.int y3), .val (.int y4), .val (.int (p5 &&& (3 : Int32))), .val (.int (own_hd p6)), .val (.int (0 : Int32)), .val (.int (y1 * (64 : Int32))), .val (.int y9), .val (.int y10), .val (.int y11), .val (.ref b12), .val (.ref b15), .unset, .unset, .unset, .unset, .unset, .unset, .unset, .unset, .unset] [])) _
      refine XS.aload X17.here hx rfl (hb hby at_156) rfl rfl ?_
      refine XS.iconst X17.here hx rfl (hb hby at_158) ?_
      refine XS.iload X17.here hx rfl (hb hby at_159) rfl ?_
      show Steps p.tables e below (T17.setTop (mkF m 161 #[.val (.long q1), .second, .val (.long q2), .second, .val (.int p3), .val (.int p4), .val (.int p5), .val (.int p6), .val (.int y1), .val (.int y2), .val (.int y3), .val (.int y4), .val (.int (p5 &&& (3 : Int32))), .val (.int (own_hd p6)), .val (.int (0 : Int32)), .val (.int (y1 * (64 : Int32))), .val (.int y9), .val (.int y10), .val (.int y11), .val (.ref b12), .val (.ref b15), .unset, .unset, .unset, .unset, .unset, .unset, .unset, .unset, .unset] [(.int y11), (.int (2 : Int32)), (.ref b15)])) _
      refine st18 _ ?_
      show Steps p.tables e below (T18.setTop (mkF m 162 #[.val (.long q1), .second, .val (.long q2), .second, .val (.int p3), .val (.int p4), .val (.int p5), .val (.int p6), .val (.int y1), .val (.int y2), .val (.int y3), .val (.int y4), .val (.int (p5 &&& (3 : Int32))), .val (.int (own_hd p6)), .val (.int (0 : Int32)), .val (.int (y1 * (64 : Int32))), .val (.int y9), .val (.int y10), .val (.int y11), .val (.ref b12), .val (.ref b15), .unset, .unset, .unset, .unset, .unset, .unset, .unset, .unset, .unset] [])) _
      refine XS.iload X18.here hx rfl (hb hby at_162) rfl ?_
      refine XS.ifYes X18.here hx rfl (pc0 := 164) (pc' := 172) rfl (hb hby at_164) rfl ((if0 _ _).trans (teq (by decide : ((0 : Int32) = (0 : Int32)))).1) (by decide) (by decide) ?_
      show Steps p.tables e below (T18.setTop (mkF m 172 #[.val (.long q1), .second, .val (.long q2), .second, .val (.int p3), .val (.int p4), .val (.int p5), .val (.int p6), .val (.int y1), .val (.int y2), .val (.int y3), .val (.int y4), .val (.int (p5 &&& (3 : Int32))), .val (.int (own_hd p6)), .val (.int (0 : Int32)), .val (.int (y1 * (64 : Int32))), .val (.int y9), .val (.int y10), .val (.int y11), .val (.ref b12), .val (.ref b15), .unset, .unset, .unset, .unset, .unset, .unset, .unset, .unset, .unset] [])) _
      refine XS.iconst X18.here hx rfl (hb hby at_172) ?_
      show Steps p.tables e below (T18.setTop (mkF m 173 #[.val (.long q1), .second, .val (.long q2), .second, .val (.int p3), .val (.int p4), .val (.int p5), .val (.int p6), .val (.int y1), .val (.int y2), .val (.int y3), .val (.int y4), .val (.int (p5 &&& (3 : Int32))), .val (.int (own_hd p6)), .val (.int (0 : Int32)), .val (.int (y1 * (64 : Int32))), .val (.int y9), .val (.int y10), .val (.int y11), .val (.ref b12), .val (.ref b15), .unset, .unset, .unset, .unset, .unset, .unset, .unset, .unset, .unset] [(.int (3 : Int32))])) _
      refine st19 _ ?_
      show Steps p.tables e below (T19.setTop (mkF m 175 #[.val (.long q1), .second, .val (.long q2), .second, .val (.int p3), .val (.int p4), .val (.int p5), .val (.int p6), .val (.int y1), .val (.int y2), .val (.int y3), .val (.int y4), .val (.int (p5 &&& (3 : Int32))), .val (.int (own_hd p6)), .val (.int (0 : Int32)), .val (.int (y1 * (64 : Int32))), .val (.int y9), .val (.int y10), .val (.int y11), .val (.ref b12), .val (.ref b15), .unset, .unset, .unset, .unset, .unset, .unset, .unset, .unset, .unset] [(.ref b19)])) _
      refine XS.astore X19.here hx rfl (hb hby at_175) rfl rfl (l' := #[.val (.long q1), .second, .val (.long q2), .second, .val (.int p3), .val (.int p4), .val (.int p5), .val (.int p6), .val (.int y1), .val (.int y2), .val (.int y3), .val (.int y4), .val (.int (p5 &&& (3 : Int32))), .val (.int (own_hd p6)), .val (.int (0 : Int32)), .val (.int (y1 * (64 : Int32))), .val (.int y9), .val (.int y10), .val (.int y11), .val (.ref b12), .val (.ref b15), .val (.ref b19), .unset, .unset, .unset, .unset, .unset, .unset, .unset, .unset]) rfl ?_
      show Steps p.tables e below (T19.setTop (mkF m 177 #[.val (.long q1), .second, .val (.long q2), .second, .val (.int p3), .val (.int p4), .val (.int p5), .val (.int p6), .val (.int y1), .val (.int y2), .val (.int y3), .val (.int y4), .val (.int (p5 &&& (3 : Int32))), .val (.int (own_hd p6)), .val (.int (0 : Int32)), .val (.int (y1 * (64 : Int32))), .val (.int y9), .val (.int y10), .val (.int y11), .val (.ref b12), .val (.ref b15), .val (.ref b19), .unset, .unset, .unset, .unset, .unset, .unset, .unset, .unset] [])) _
      refine XS.iload X19.here hx rfl (hb hby at_177) rfl ?_
      exact k
    have pre21 : ∀ t, Steps p.tables e below (T19.setTop (mkF m 187 #[.val (.long q1), .second, .val (.long q2), .second, .val (.int p3), .val (.int p4), .val (.int p5), .val (.int p6), .val (.int y1), .val (.int y2), .val (.int y3), .val (.int y4), .val (.int (p5 &&& (3 : Int32))), .val (.int (own_hd p6)), .val (.int (0 : Int32)), .val (.int (y1 * (64 : Int32))), .val (.int y9), .val (.int y10), .val (.int y11), .val (.ref b12), .val (.ref b15), .val (.ref b19), .unset, .unset, .unset, .unset, .unset, .unset, .unset, .unset] [(.int (own_hv (own_hd p6)))])) t → Steps p.tables e below (s₁.setTop (entryFrame m #[(.long q1), (.long q2), (.int p3), (.int p4), (.int p5), (.int p6)] maxLocals)) t := by
      intro t k
      by_cases hd21 : (own_hd p6) = (0 : Int32)
      · rw [show (own_hv (own_hd p6)) = (0 : Int32) from if_pos hd21] at k
        refine pre20 t ?_
        show Steps p.tables e below (T19.setTop (mkF m 179 #[.val (.long q1), .second, .val (.long q2), .second, .val (.int p3), .val (.int p4), .val (.int p5), .val (.int p6), .val (.int y1), .val (.int y2), .val (.int y3), .val (.int y4), .val (.int (p5 &&& (3 : Int32))), .val (.int (own_hd p6)), .val (.int (0 : Int32)), .val (.int (y1 * (64 : Int32))), .val (.int y9), .val (.int y10), .val (.int y11), .val (.ref b12), .val (.ref b15), .val (.ref b19), .unset, .unset, .unset, .unset, .unset, .unset, .unset, .unset] [(.int (own_hd p6))])) _
        refine XS.ifYes X19.here hx rfl (pc0 := 179) (pc' := 186) rfl (hb hby at_179) rfl ((if0 _ _).trans (teq (hd21 : ((own_hd p6) = (0 : Int32)))).1) (by decide) (by decide) ?_
        show Steps p.tables e below (T19.setTop (mkF m 186 #[.val (.long q1), .second, .val (.long q2), .second, .val (.int p3), .val (.int p4), .val (.int p5), .val (.int p6), .val (.int y1), .val (.int y2), .val (.int y3), .val (.int y4), .val (.int (p5 &&& (3 : Int32))), .val (.int (own_hd p6)), .val (.int (0 : Int32)), .val (.int (y1 * (64 : Int32))), .val (.int y9), .val (.int y10), .val (.int y11), .val (.ref b12), .val (.ref b15), .val (.ref b19), .unset, .unset, .unset, .unset, .unset, .unset, .unset, .unset] [])) _
        refine XS.iconst X19.here hx rfl (hb hby at_186) ?_
        exact k
      · rw [show (own_hv (own_hd p6)) = (1 : Int32) from if_neg hd21] at k
        refine pre20 t ?_
        show Steps p.tables e below (T19.setTop (mkF m 179 #[.val (.long q1), .second, .val (.long q2), .second, .val (.int p3), .val (.int p4), .val (.int p5), .val (.int p6), .val (.int y1), .val (.int y2), .val (.int y3), .val (.int y4), .val (.int (p5 &&& (3 : Int32))), .val (.int (own_hd p6)), .val (.int (0 : Int32)), .val (.int (y1 * (64 : Int32))), .val (.int y9), .val (.int y10), .val (.int y11), .val (.ref b12), .val (.ref b15), .val (.ref b19), .unset, .unset, .unset, .unset, .unset, .unset, .unset, .unset] [(.int (own_hd p6))])) _
        refine XS.ifNo X19.here hx rfl (hb hby at_179) rfl ((if0 _ _).trans (feq (hd21 : ¬ ((own_hd p6) = (0 : Int32)))).1) ?_
        show Steps p.tables e below (T19.setTop (mkF m 182 #[.val (.long q1), .second, .val (.long q2), .second, .val (.int p3), .val (.int p4), .val (.int p5), .val (.int p6), .val (.int y1), .val (.int y2), .val (.int y3), .val (.int y4), .val (.int (p5 &&& (3 : Int32))), .val (.int (own_hd p6)), .val (.int (0 : Int32)), .val (.int (y1 * (64 : Int32))), .val (.int y9), .val (.int y10), .val (.int y11), .val (.ref b12), .val (.ref b15), .val (.ref b19), .unset, .unset, .unset, .unset, .unset, .unset, .unset, .unset] [])) _
        refine XS.iconst X19.here hx rfl (hb hby at_182) ?_
        refine XS.goto X19.here hx rfl (pc0 := 183) (pc' := 187) rfl (hb hby at_183) (by decide) (by decide) ?_
        exact k
    have pre22 : ∀ t, Steps p.tables e below (T19.setTop (mkF m 191 #[.val (.long q1), .second, .val (.long q2), .second, .val (.int p3), .val (.int p4), .val (.int p5), .val (.int p6), .val (.int y1), .val (.int y2), .val (.int y3), .val (.int y4), .val (.int (p5 &&& (3 : Int32))), .val (.int (own_hd p6)), .val (.int (0 : Int32)), .val (.int (y1 * (64 : Int32))), .val (.int y9), .val (.int y10), .val (.int y11), .val (.ref b12), .val (.ref b15), .val (.ref b19), .val (.int (own_hv (own_hd p6))), .unset, .unset, .unset, .unset, .unset, .unset, .unset] [(.int (p5 &&& (3 : Int32)))])) t → Steps p.tables e below (s₁.setTop (entryFrame m #[(.long q1), (.long q2), (.int p3), (.int p4), (.int p5), (.int p6)] maxLocals)) t := by
      intro t k
      refine pre21 t ?_
      show Steps p.tables e below (T19.setTop (mkF m 187 #[.val (.long q1), .second, .val (.long q2), .second, .val (.int p3), .val (.int p4), .val (.int p5), .val (.int p6), .val (.int y1), .val (.int y2), .val (.int y3), .val (.int y4), .val (.int (p5 &&& (3 : Int32))), .val (.int (own_hd p6)), .val (.int (0 : Int32)), .val (.int (y1 * (64 : Int32))), .val (.int y9), .val (.int y10), .val (.int y11), .val (.ref b12), .val (.ref b15), .val (.ref b19), .unset, .unset, .unset, .unset, .unset, .unset, .unset, .unset] [(.int (own_hv (own_hd p6)))])) _
      refine XS.istore X19.here hx rfl (hb hby at_187) rfl (l' := #[.val (.long q1), .second, .val (.long q2), .second, .val (.int p3), .val (.int p4), .val (.int p5), .val (.int p6), .val (.int y1), .val (.int y2), .val (.int y3), .val (.int y4), .val (.int (p5 &&& (3 : Int32))), .val (.int (own_hd p6)), .val (.int (0 : Int32)), .val (.int (y1 * (64 : Int32))), .val (.int y9), .val (.int y10), .val (.int y11), .val (.ref b12), .val (.ref b15), .val (.ref b19), .val (.int (own_hv (own_hd p6))), .unset, .unset, .unset, .unset, .unset, .unset, .unset]) rfl ?_
      show Steps p.tables e below (T19.setTop (mkF m 189 #[.val (.long q1), .second, .val (.long q2), .second, .val (.int p3), .val (.int p4), .val (.int p5), .val (.int p6), .val (.int y1), .val (.int y2), .val (.int y3), .val (.int y4), .val (.int (p5 &&& (3 : Int32))), .val (.int (own_hd p6)), .val (.int (0 : Int32)), .val (.int (y1 * (64 : Int32))), .val (.int y9), .val (.int y10), .val (.int y11), .val (.ref b12), .val (.ref b15), .val (.ref b19), .val (.int (own_hv (own_hd p6))), .unset, .unset, .unset, .unset, .unset, .unset, .unset] [])) _
      refine XS.iload X19.here hx rfl (hb hby at_189) rfl ?_
      exact k
    obtain ⟨T23, L23, X23, e23, N23, pre23⟩ : ∃ (T' : State) (L' : List Loc), Stand p l e room_1 s m #[(.long q1), (.long q2), (.int p3), (.int p4), (.int p5), (.int p6)] below meth c T' L' 3 8 ∧ T'.heap = h19 ∧ Fr n0 L' ∧ ∀ t, Steps p.tables e below (T'.setTop (mkF m 211 #[.val (.long q1), .second, .val (.long q2), .second, .val (.int p3), .val (.int p4), .val (.int p5), .val (.int p6), .val (.int y1), .val (.int y2), .val (.int y3), .val (.int y4), .val (.int (p5 &&& (3 : Int32))), .val (.int (own_hd p6)), .val (.int (0 : Int32)), .val (.int (y1 * (64 : Int32))), .val (.int y9), .val (.int y10), .val (.int y11), .val (.ref b12), .val (.ref b15), .val (.ref b19), .val (.int (own_hv (own_hd p6))), .unset, .unset, .unset, .unset, .unset, .unset, .unset] [(.int (own_kk (p5 &&& (3 : Int32)) (0 : Int32) (own_bit q1 q2 y2) (own_hv (own_hd p6))))])) t → Steps p.tables e below (s₁.setTop (entryFrame m #[(.long q1), (.long q2), (.int p3), (.int p4), (.int p5), (.int p6)] maxLocals)) t := by
      by_cases hc191_24 : (0 : Int32) < (p5 &&& (3 : Int32))
      · obtain ⟨_, _, ⟨T25, L25, k25, n25⟩, -, X25, ⟨Lc25, hQ25, l25, y25, z25⟩, st25⟩ := Jvm.LawKit.callS X19 hx (y := (⟨"com/example/bitstrata/bitstrata/BitsetChunkFilterPinLaw", "bit", "(JJI)I"⟩ : MethodName)) hown (mvT hZ (hw _ (List.mem_of_getElem? (i := 8) rfl))) (mvT hZ (hw _ (List.mem_of_getElem? (i := 9) rfl))) (mvT hZ (hw _ (List.mem_of_getElem? (i := 10) rfl))) (mvT hZ (hw _ (List.mem_of_getElem? (i := 11) rfl))) (by decide) (backOf (W := 0) (rm2 l Z a0 hw [] q1 q2 y2 h19 n0 Z19) hZ (hw _ (List.mem_of_getElem? (i := 11) rfl)) (hw _ (List.mem_of_getElem? (i := 10) rfl)) (by decide) (by decide)) (g := (mkF m 198 #[.val (.long q1), .second, .val (.long q2), .second, .val (.int p3), .val (.int p4), .val (.int p5), .val (.int p6), .val (.int y1), .val (.int y2), .val (.int y3), .val (.int y4), .val (.int (p5 &&& (3 : Int32))), .val (.int (own_hd p6)), .val (.int (0 : Int32)), .val (.int (y1 * (64 : Int32))), .val (.int y9), .val (.int y10), .val (.int y11), .val (.ref b12), .val (.ref b15), .val (.ref b19), .val (.int (own_hv (own_hd p6))), .unset, .unset, .unset, .unset, .unset, .unset, .unset] [(.int y2), (.long q2), (.long q1)])) rfl (by rw [hml]; rfl) (argsL := [(.long q1), (.long q2), (.int y2)]) (rest := []) (lenOf pd_0 rfl) rfl (by show 2 * 0 + _ ≤ _; exact Nat.le_of_eq rfl) (hb hby at_198) (fun _ _ => ⟨rfl, e19, (by decide : 3 + 0 ≤ _), (by decide : 8 + 0 ≤ _)⟩)
        dsimp only [Pt.U, Pt.locs, Pt.cells, Pt.slots] at X25 l25 y25 z25 st25 hQ25
        subst l25 y25 z25
        obtain ⟨rfl, N25q, e25⟩ := hQ25
        have N25 := Fr.app N18 N25q
        have pre26 : ∀ t, Steps p.tables e below (T25.setTop (mkF m 203 #[.val (.long q1), .second, .val (.long q2), .second, .val (.int p3), .val (.int p4), .val (.int p5), .val (.int p6), .val (.int y1), .val (.int y2), .val (.int y3), .val (.int y4), .val (.int (p5 &&& (3 : Int32))), .val (.int (own_hd p6)), .val (.int (0 : Int32)), .val (.int (y1 * (64 : Int32))), .val (.int y9), .val (.int y10), .val (.int y11), .val (.ref b12), .val (.ref b15), .val (.ref b19), .val (.int (own_hv (own_hd p6))), .unset, .unset, .unset, .unset, .unset, .unset, .unset] [(.int (own_hv (own_hd p6))), (.int (own_bit q1 q2 y2))])) t → Steps p.tables e below (s₁.setTop (entryFrame m #[(.long q1), (.long q2), (.int p3), (.int p4), (.int p5), (.int p6)] maxLocals)) t := by
          intro t k
          refine pre22 t ?_
          show Steps p.tables e below (T19.setTop (mkF m 191 #[.val (.long q1), .second, .val (.long q2), .second, .val (.int p3), .val (.int p4), .val (.int p5), .val (.int p6), .val (.int y1), .val (.int y2), .val (.int y3), .val (.int y4), .val (.int (p5 &&& (3 : Int32))), .val (.int (own_hd p6)), .val (.int (0 : Int32)), .val (.int (y1 * (64 : Int32))), .val (.int y9), .val (.int y10), .val (.int y11), .val (.ref b12), .val (.ref b15), .val (.ref b19), .val (.int (own_hv (own_hd p6))), .unset, .unset, .unset, .unset, .unset, .unset, .unset] [(.int (p5 &&& (3 : Int32)))])) _
          refine XS.ifNo X19.here hx rfl (hb hby at_191) rfl ((if0 _ _).trans (tlt hc191_24).2.2.2) ?_
          show Steps p.tables e below (T19.setTop (mkF m 194 #[.val (.long q1), .second, .val (.long q2), .second, .val (.int p3), .val (.int p4), .val (.int p5), .val (.int p6), .val (.int y1), .val (.int y2), .val (.int y3), .val (.int y4), .val (.int (p5 &&& (3 : Int32))), .val (.int (own_hd p6)), .val (.int (0 : Int32)), .val (.int (y1 * (64 : Int32))), .val (.int y9), .val (.int y10), .val (.int y11), .val (.ref b12), .val (.ref b15), .val (.ref b19), .val (.int (own_hv (own_hd p6))), .unset, .unset, .unset, .unset, .unset, .unset, .unset] [])) _
          refine XS.lloadN X19.here hx rfl (hb hby at_194) rfl ?_
          refine XS.lloadN X19.here hx rfl (hb hby at_195) rfl ?_
          refine XS.iload X19.here hx rfl (hb hby at_196) rfl ?_
          show Steps p.tables e below (T19.setTop (mkF m 198 #[.val (.long q1), .second, .val (.long q2), .second, .val (.int p3), .val (.int p4), .val (.int p5), .val (.int p6), .val (.int y1), .val (.int y2), .val (.int y3), .val (.int y4), .val (.int (p5 &&& (3 : Int32))), .val (.int (own_hd p6)), .val (.int (0 : Int32)), .val (.int (y1 * (64 : Int32))), .val (.int y9), .val (.int y10), .val (.int y11), .val (.ref b12), .val (.ref b15), .val (.ref b19), .val (.int (own_hv (own_hd p6))), .unset, .unset, .unset, .unset, .unset, .unset, .unset] [(.int y2), (.long q2), (.long q1)])) _
          refine st25 _ ?_
          show Steps p.tables e below (T25.setTop (mkF m 201 #[.val (.long q1), .second, .val (.long q2), .second, .val (.int p3), .val (.int p4), .val (.int p5), .val (.int p6), .val (.int y1), .val (.int y2), .val (.int y3), .val (.int y4), .val (.int (p5 &&& (3 : Int32))), .val (.int (own_hd p6)), .val (.int (0 : Int32)), .val (.int (y1 * (64 : Int32))), .val (.int y9), .val (.int y10), .val (.int y11), .val (.ref b12), .val (.ref b15), .val (.ref b19), .val (.int (own_hv (own_hd p6))), .unset, .unset, .unset, .unset, .unset, .unset, .unset] [(.int (own_bit q1 q2 y2))])) _
          refine XS.iload X25.here hx rfl (hb hby at_201) rfl ?_
          exact k
        by_cases hc203_27 : (own_bit q1 q2 y2) = (own_hv (own_hd p6))
        · have pre28 : ∀ t, Steps p.tables e below (T25.setTop (mkF m 211 #[.val (.long q1), .second, .val (.long q2), .second, .val (.int p3), .val (.int p4), .val (.int p5), .val (.int p6), .val (.int y1), .val (.int y2), .val (.int y3), .val (.int y4), .val (.int (p5 &&& (3 : Int32))), .val (.int (own_hd p6)), .val (.int (0 : Int32)), .val (.int (y1 * (64 : Int32))), .val (.int y9), .val (.int y10), .val (.int y11), .val (.ref b12), .val (.ref b15), .val (.ref b19), .val (.int (own_hv (own_hd p6))), .unset, .unset, .unset, .unset, .unset, .unset, .unset] [(.int (1 : Int32))])) t → Steps p.tables e below (s₁.setTop (entryFrame m #[(.long q1), (.long q2), (.int p3), (.int p4), (.int p5), (.int p6)] maxLocals)) t := by
            intro t k
            refine pre26 t ?_
            show Steps p.tables e below (T25.setTop (mkF m 203 #[.val (.long q1), .second, .val (.long q2), .second, .val (.int p3), .val (.int p4), .val (.int p5), .val (.int p6), .val (.int y1), .val (.int y2), .val (.int y3), .val (.int y4), .val (.int (p5 &&& (3 : Int32))), .val (.int (own_hd p6)), .val (.int (0 : Int32)), .val (.int (y1 * (64 : Int32))), .val (.int y9), .val (.int y10), .val (.int y11), .val (.ref b12), .val (.ref b15), .val (.ref b19), .val (.int (own_hv (own_hd p6))), .unset, .unset, .unset, .unset, .unset, .unset, .unset] [(.int (own_hv (own_hd p6))), (.int (own_bit q1 q2 y2))])) _
            refine XS.icmpNo X25.here hx rfl (hb hby at_203) rfl (teq hc203_27).2 ?_
            show Steps p.tables e below (T25.setTop (mkF m 206 #[.val (.long q1), .second, .val (.long q2), .second, .val (.int p3), .val (.int p4), .val (.int p5), .val (.int p6), .val (.int y1), .val (.int y2), .val (.int y3), .val (.int y4), .val (.int (p5 &&& (3 : Int32))), .val (.int (own_hd p6)), .val (.int (0 : Int32)), .val (.int (y1 * (64 : Int32))), .val (.int y9), .val (.int y10), .val (.int y11), .val (.ref b12), .val (.ref b15), .val (.ref b19), .val (.int (own_hv (own_hd p6))), .unset, .unset, .unset, .unset, .unset, .unset, .unset] [])) _
            refine XS.iconst X25.here hx rfl (hb hby at_206) ?_
            refine XS.goto X25.here hx rfl (pc0 := 207) (pc' := 211) rfl (hb hby at_207) (by decide) (by decide) ?_
            exact k
          refine ⟨_, _, X25, e25, N25, fun t k => ?_⟩
          rw [own_kk, if_pos hc191_24, if_pos hc203_27] at k
          exact pre28 t k
        · have pre29 : ∀ t, Steps p.tables e below (T25.setTop (mkF m 211 #[.val (.long q1), .second, .val (.long q2), .second, .val (.int p3), .val (.int p4), .val (.int p5), .val (.int p6), .val (.int y1), .val (.int y2), .val (.int y3), .val (.int y4), .val (.int (p5 &&& (3 : Int32))), .val (.int (own_hd p6)), .val (.int (0 : Int32)), .val (.int (y1 * (64 : Int32))), .val (.int y9), .val (.int y10), .val (.int y11), .val (.ref b12), .val (.ref b15), .val (.ref b19), .val (.int (own_hv (own_hd p6))), .unset, .unset, .unset, .unset, .unset, .unset, .unset] [(.int (0 : Int32))])) t → Steps p.tables e below (s₁.setTop (entryFrame m #[(.long q1), (.long q2), (.int p3), (.int p4), (.int p5), (.int p6)] maxLocals)) t := by
            intro t k
            refine pre26 t ?_
            show Steps p.tables e below (T25.setTop (mkF m 203 #[.val (.long q1), .second, .val (.long q2), .second, .val (.int p3), .val (.int p4), .val (.int p5), .val (.int p6), .val (.int y1), .val (.int y2), .val (.int y3), .val (.int y4), .val (.int (p5 &&& (3 : Int32))), .val (.int (own_hd p6)), .val (.int (0 : Int32)), .val (.int (y1 * (64 : Int32))), .val (.int y9), .val (.int y10), .val (.int y11), .val (.ref b12), .val (.ref b15), .val (.ref b19), .val (.int (own_hv (own_hd p6))), .unset, .unset, .unset, .unset, .unset, .unset, .unset] [(.int (own_hv (own_hd p6))), (.int (own_bit q1 q2 y2))])) _
            refine XS.icmpYes X25.here hx rfl (pc0 := 203) (pc' := 210) rfl (hb hby at_203) rfl (feq hc203_27).2 (by decide) (by decide) ?_
            show Steps p.tables e below (T25.setTop (mkF m 210 #[.val (.long q1), .second, .val (.long q2), .second, .val (.int p3), .val (.int p4), .val (.int p5), .val (.int p6), .val (.int y1), .val (.int y2), .val (.int y3), .val (.int y4), .val (.int (p5 &&& (3 : Int32))), .val (.int (own_hd p6)), .val (.int (0 : Int32)), .val (.int (y1 * (64 : Int32))), .val (.int y9), .val (.int y10), .val (.int y11), .val (.ref b12), .val (.ref b15), .val (.ref b19), .val (.int (own_hv (own_hd p6))), .unset, .unset, .unset, .unset, .unset, .unset, .unset] [])) _
            refine XS.iconst X25.here hx rfl (hb hby at_210) ?_
            exact k
          refine ⟨_, _, X25, e25, N25, fun t k => ?_⟩
          rw [own_kk, if_pos hc191_24, if_neg hc203_27] at k
          exact pre29 t k
      · have pre30 : ∀ t, Steps p.tables e below (T19.setTop (mkF m 211 #[.val (.long q1), .second, .val (.long q2), .second, .val (.int p3), .val (.int p4), .val (.int p5), .val (.int p6), .val (.int y1), .val (.int y2), .val (.int y3), .val (.int y4), .val (.int (p5 &&& (3 : Int32))), .val (.int (own_hd p6)), .val (.int (0 : Int32)), .val (.int (y1 * (64 : Int32))), .val (.int y9), .val (.int y10), .val (.int y11), .val (.ref b12), .val (.ref b15), .val (.ref b19), .val (.int (own_hv (own_hd p6))), .unset, .unset, .unset, .unset, .unset, .unset, .unset] [(.int (0 : Int32))])) t → Steps p.tables e below (s₁.setTop (entryFrame m #[(.long q1), (.long q2), (.int p3), (.int p4), (.int p5), (.int p6)] maxLocals)) t := by
          intro t k
          refine pre22 t ?_
          show Steps p.tables e below (T19.setTop (mkF m 191 #[.val (.long q1), .second, .val (.long q2), .second, .val (.int p3), .val (.int p4), .val (.int p5), .val (.int p6), .val (.int y1), .val (.int y2), .val (.int y3), .val (.int y4), .val (.int (p5 &&& (3 : Int32))), .val (.int (own_hd p6)), .val (.int (0 : Int32)), .val (.int (y1 * (64 : Int32))), .val (.int y9), .val (.int y10), .val (.int y11), .val (.ref b12), .val (.ref b15), .val (.ref b19), .val (.int (own_hv (own_hd p6))), .unset, .unset, .unset, .unset, .unset, .unset, .unset] [(.int (p5 &&& (3 : Int32)))])) _
          refine XS.ifYes X19.here hx rfl (pc0 := 191) (pc' := 210) rfl (hb hby at_191) rfl ((if0 _ _).trans (flt hc191_24).2.2.2) (by decide) (by decide) ?_
          show Steps p.tables e below (T19.setTop (mkF m 210 #[.val (.long q1), .second, .val (.long q2), .second, .val (.int p3), .val (.int p4), .val (.int p5), .val (.int p6), .val (.int y1), .val (.int y2), .val (.int y3), .val (.int y4), .val (.int (p5 &&& (3 : Int32))), .val (.int (own_hd p6)), .val (.int (0 : Int32)), .val (.int (y1 * (64 : Int32))), .val (.int y9), .val (.int y10), .val (.int y11), .val (.ref b12), .val (.ref b15), .val (.ref b19), .val (.int (own_hv (own_hd p6))), .unset, .unset, .unset, .unset, .unset, .unset, .unset] [])) _
          refine XS.iconst X19.here hx rfl (hb hby at_210) ?_
          exact k
        refine ⟨_, _, X19, e19, N18, fun t k => ?_⟩
        rw [own_kk, if_neg hc191_24] at k
        exact pre30 t k
    obtain ⟨y31, hy31⟩ : ∃ z : Int32, z = (own_kk (p5 &&& (3 : Int32)) (0 : Int32) (own_bit q1 q2 y2) (own_hv (own_hd p6))) := ⟨_, rfl⟩
    have pre32 : ∀ t, Steps p.tables e below (T23.setTop (mkF m 216 #[.val (.long q1), .second, .val (.long q2), .second, .val (.int p3), .val (.int p4), .val (.int p5), .val (.int p6), .val (.int y1), .val (.int y2), .val (.int y3), .val (.int y4), .val (.int (p5 &&& (3 : Int32))), .val (.int (own_hd p6)), .val (.int (0 : Int32)), .val (.int (y1 * (64 : Int32))), .val (.int y9), .val (.int y10), .val (.int y11), .val (.ref b12), .val (.ref b15), .val (.ref b19), .val (.int (own_hv (own_hd p6))), .val (.int y31), .unset, .unset, .unset, .unset, .unset, .unset] [(.int (1 : Int32)), (.int (p5 &&& (3 : Int32)))])) t → Steps p.tables e below (s₁.setTop (entryFrame m #[(.long q1), (.long q2), (.int p3), (.int p4), (.int p5), (.int p6)] maxLocals)) t := by
      intro t k
      refine pre23 t ?_
      show Steps p.tables e below (T23.setTop (mkF m 211 #[.val (.long q1), .second, .val (.long q2), .second, .val (.int p3), .val (.int p4), .val (.int p5), .val (.int p6), .val (.int y1), .val (.int y2), .val (.int y3), .val (.int y4), .val (.int (p5 &&& (3 : Int32))), .val (.int (own_hd p6)), .val (.int (0 : Int32)), .val (.int (y1 * (64 : Int32))), .val (.int y9), .val (.int y10), .val (.int y11), .val (.ref b12), .val (.ref b15), .val (.ref b19), .val (.int (own_hv (own_hd p6))), .unset, .unset, .unset, .unset, .unset, .unset, .unset] [(.int (own_kk (p5 &&& (3 : Int32)) (0 : Int32) (own_bit q1 q2 y2) (own_hv (own_hd p6))))])) _
      rw [← hy31]
      refine XS.istore X23.here hx rfl (hb hby at_211) rfl (l' := #[.val (.long q1), .second, .val (.long q2), .second, .val (.int p3), .val (.int p4), .val (.int p5), .val (.int p6), .val (.int y1), .val (.int y2), .val (.int y3), .val (.int y4), .val (.int (p5 &&& (3 : Int32))), .val (.int (own_hd p6)), .val (.int (0 : Int32)), .val (.int (y1 * (64 : Int32))), .val (.int y9), .val (.int y10), .val (.int y11), .val (.ref b12), .val (.ref b15), .val (.ref b19), .val (.int (own_hv (own_hd p6))), .val (.int y31), .unset, .unset, .unset, .unset, .unset, .unset]) rfl ?_
      show Steps p.tables e below (T23.setTop (mkF m 213 #[.val (.long q1), .second, .val (.long q2), .second, .val (.int p3), .val (.int p4), .val (.int p5), .val (.int p6), .val (.int y1), .val (.int y2), .val (.int y3), .val (.int y4), .val (.int (p5 &&& (3 : Int32))), .val (.int (own_hd p6)), .val (.int (0 : Int32)), .val (.int (y1 * (64 : Int32))), .val (.int y9), .val (.int y10), .val (.int y11), .val (.ref b12), .val (.ref b15), .val (.ref b19), .val (.int (own_hv (own_hd p6))), .val (.int y31), .unset, .unset, .unset, .unset, .unset, .unset] [])) _
      refine XS.iload X23.here hx rfl (hb hby at_213) rfl ?_
      refine XS.iconst X23.here hx rfl (hb hby at_215) ?_
      exact k
    obtain ⟨T33, L33, X33, e33, N33, pre33⟩ : ∃ (T' : State) (L' : List Loc), Stand p l e room_1 s m #[(.long q1), (.long q2), (.int p3), (.int p4), (.int p5), (.int p6)] below meth c T' L' 3 8 ∧ T'.heap = h19 ∧ Fr n0 L' ∧ ∀ t, Steps p.tables e below (T'.setTop (mkF m 236 #[.val (.long q1), .second, .val (.long q2), .second, .val (.int p3), .val (.int p4), .val (.int p5), .val (.int p6), .val (.int y1), .val (.int y2), .val (.int y3), .val (.int y4), .val (.int (p5 &&& (3 : Int32))), .val (.int (own_hd p6)), .val (.int (0 : Int32)), .val (.int (y1 * (64 : Int32))), .val (.int y9), .val (.int y10), .val (.int y11), .val (.ref b12), .val (.ref b15), .val (.ref b19), .val (.int (own_hv (own_hd p6))), .val (.int y31), .unset, .unset, .unset, .unset, .unset, .unset] [(.int (own_kk (p5 &&& (3 : Int32)) (1 : Int32) (own_bit q1 q2 y3) (own_hv (own_hd p6))))])) t → Steps p.tables e below (s₁.setTop (entryFrame m #[(.long q1), (.long q2), (.int p3), (.int p4), (.int p5), (.int p6)] maxLocals)) t := by
      by_cases hc216_34 : (1 : Int32) < (p5 &&& (3 : Int32))
      · obtain ⟨_, _, ⟨T35, L35, k35, n35⟩, -, X35, ⟨Lc35, hQ35, l35, y35, z35⟩, st35⟩ := Jvm.LawKit.callS X23 hx (y := (⟨"com/example/bitstrata/bitstrata/BitsetChunkFilterPinLaw", "bit", "(JJI)I"⟩ : MethodName)) hown (mvT hZ (hw _ (List.mem_of_getElem? (i := 8) rfl))) (mvT hZ (hw _ (List.mem_of_getElem? (i := 9) rfl))) (mvT hZ (hw _ (List.mem_of_getElem? (i := 10) rfl))) (mvT hZ (hw _ (List.mem_of_getElem? (i := 11) rfl))) (by decide) (backOf (W := 0) (rm2 l Z a0 hw [] q1 q2 y3 h19 n0 Z19) hZ (hw _ (List.mem_of_getElem? (i := 11) rfl)) (hw _ (List.mem_of_getElem? (i := 10) rfl)) (by decide) (by decide)) (g := (mkF m 223 #[.val (.long q1), .second, .val (.long q2), .second, .val (.int p3), .val (.int p4), .val (.int p5), .val (.int p6), .val (.int y1), .val (.int y2), .val (.int y3), .val (.int y4), .val (.int (p5 &&& (3 : Int32))), .val (.int (own_hd p6)), .val (.int (0 : Int32)), .val (.int (y1 * (64 : Int32))), .val (.int y9), .val (.int y10), .val (.int y11), .val (.ref b12), .val (.ref b15), .val (.ref b19), .val (.int (own_hv (own_hd p6))), .val (.int y31), .unset, .unset, .unset, .unset, .unset, .unset] [(.int y3), (.long q2), (.long q1)])) rfl (by rw [hml]; rfl) (argsL := [(.long q1), (.long q2), (.int y3)]) (rest := []) (lenOf pd_0 rfl) rfl (by show 2 * 0 + _ ≤ _; exact Nat.le_of_eq rfl) (hb hby at_223) (fun _ _ => ⟨rfl, e23, (by decide : 3 + 0 ≤ _), (by decide : 8 + 0 ≤ _)⟩)
        dsimp only [Pt.U, Pt.locs, Pt.cells, Pt.slots] at X35 l35 y35 z35 st35 hQ35
        subst l35 y35 z35
        obtain ⟨rfl, N35q, e35⟩ := hQ35
        have N35 := Fr.app N23 N35q
        have pre36 : ∀ t, Steps p.tables e below (T35.setTop (mkF m 228 #[.val (.long q1), .second, .val (.long q2), .second, .val (.int p3), .val (.int p4), .val (.int p5), .val (.int p6), .val (.int y1), .val (.int y2), .val (.int y3), .val (.int y4), .val (.int (p5 &&& (3 : Int32))), .val (.int (own_hd p6)), .val (.int (0 : Int32)), .val (.int (y1 * (64 : Int32))), .val (.int y9), .val (.int y10), .val (.int y11), .val (.ref b12), .val (.ref b15), .val (.ref b19), .val (.int (own_hv (own_hd p6))), .val (.int y31), .unset, .unset, .unset, .unset, .unset, .unset] [(.int (own_hv (own_hd p6))), (.int (own_bit q1 q2 y3))])) t → Steps p.tables e below (s₁.setTop (entryFrame m #[(.long q1), (.long q2), (.int p3), (.int p4), (.int p5), (.int p6)] maxLocals)) t := by
          intro t k
          refine pre32 t ?_
          show Steps p.tables e below (T23.setTop (mkF m 216 #[.val (.long q1), .second, .val (.long q2), .second, .val (.int p3), .val (.int p4), .val (.int p5), .val (.int p6), .val (.int y1), .val (.int y2), .val (.int y3), .val (.int y4), .val (.int (p5 &&& (3 : Int32))), .val (.int (own_hd p6)), .val (.int (0 : Int32)), .val (.int (y1 * (64 : Int32))), .val (.int y9), .val (.int y10), .val (.int y11), .val (.ref b12), .val (.ref b15), .val (.ref b19), .val (.int (own_hv (own_hd p6))), .val (.int y31), .unset, .unset, .unset, .unset, .unset, .unset] [(.int (1 : Int32)), (.int (p5 &&& (3 : Int32)))])) _
          refine XS.icmpNo X23.here hx rfl (hb hby at_216) rfl (tlt hc216_34).2.2.2 ?_
          show Steps p.tables e below (T23.setTop (mkF m 219 #[.val (.long q1), .second, .val (.long q2), .second, .val (.int p3), .val (.int p4), .val (.int p5), .val (.int p6), .val (.int y1), .val (.int y2), .val (.int y3), .val (.int y4), .val (.int (p5 &&& (3 : Int32))), .val (.int (own_hd p6)), .val (.int (0 : Int32)), .val (.int (y1 * (64 : Int32))), .val (.int y9), .val (.int y10), .val (.int y11), .val (.ref b12), .val (.ref b15), .val (.ref b19), .val (.int (own_hv (own_hd p6))), .val (.int y31), .unset, .unset, .unset, .unset, .unset, .unset] [])) _
          refine XS.lloadN X23.here hx rfl (hb hby at_219) rfl ?_
          refine XS.lloadN X23.here hx rfl (hb hby at_220) rfl ?_
          refine XS.iload X23.here hx rfl (hb hby at_221) rfl ?_
          show Steps p.tables e below (T23.setTop (mkF m 223 #[.val (.long q1), .second, .val (.long q2), .second, .val (.int p3), .val (.int p4), .val (.int p5), .val (.int p6), .val (.int y1), .val (.int y2), .val (.int y3), .val (.int y4), .val (.int (p5 &&& (3 : Int32))), .val (.int (own_hd p6)), .val (.int (0 : Int32)), .val (.int (y1 * (64 : Int32))), .val (.int y9), .val (.int y10), .val (.int y11), .val (.ref b12), .val (.ref b15), .val (.ref b19), .val (.int (own_hv (own_hd p6))), .val (.int y31), .unset, .unset, .unset, .unset, .unset, .unset] [(.int y3), (.long q2), (.long q1)])) _
          refine st35 _ ?_
          show Steps p.tables e below (T35.setTop (mkF m 226 #[.val (.long q1), .second, .val (.long q2), .second, .val (.int p3), .val (.int p4), .val (.int p5), .val (.int p6), .val (.int y1), .val (.int y2), .val (.int y3), .val (.int y4), .val (.int (p5 &&& (3 : Int32))), .val (.int (own_hd p6)), .val (.int (0 : Int32)), .val (.int (y1 * (64 : Int32))), .val (.int y9), .val (.int y10), .val (.int y11), .val (.ref b12), .val (.ref b15), .val (.ref b19), .val (.int (own_hv (own_hd p6))), .val (.int y31), .unset, .unset, .unset, .unset, .unset, .unset] [(.int (own_bit q1 q2 y3))])) _
          refine XS.iload X35.here hx rfl (hb hby at_226) rfl ?_
          exact k
        by_cases hc228_37 : (own_bit q1 q2 y3) = (own_hv (own_hd p6))
        · have pre38 : ∀ t, Steps p.tables e below (T35.setTop (mkF m 236 #[.val (.long q1), .second, .val (.long q2), .second, .val (.int p3), .val (.int p4), .val (.int p5), .val (.int p6), .val (.int y1), .val (.int y2), .val (.int y3), .val (.int y4), .val (.int (p5 &&& (3 : Int32))), .val (.int (own_hd p6)), .val (.int (0 : Int32)), .val (.int (y1 * (64 : Int32))), .val (.int y9), .val (.int y10), .val (.int y11), .val (.ref b12), .val (.ref b15), .val (.ref b19), .val (.int (own_hv (own_hd p6))), .val (.int y31), .unset, .unset, .unset, .unset, .unset, .unset] [(.int (1 : Int32))])) t → Steps p.tables e below (s₁.setTop (entryFrame m #[(.long q1), (.long q2), (.int p3), (.int p4), (.int p5), (.int p6)] maxLocals)) t := by
            intro t k
            refine pre36 t ?_
            show Steps p.tables e below (T35.setTop (mkF m 228 #[.val (.long q1), .second, .val (.long q2), .second, .val (.int p3), .val (.int p4), .val (.int p5), .val (.int p6), .val (.int y1), .val (.int y2), .val (.int y3), .val (.int y4), .val (.int (p5 &&& (3 : Int32))), .val (.int (own_hd p6)), .val (.int (0 : Int32)), .val (.int (y1 * (64 : Int32))), .val (.int y9), .val (.int y10), .val (.int y11), .val (.ref b12), .val (.ref b15), .val (.ref b19), .val (.int (own_hv (own_hd p6))), .val (.int y31), .unset, .unset, .unset, .unset, .unset, .unset] [(.int (own_hv (own_hd p6))), (.int (own_bit q1 q2 y3))])) _
            refine XS.icmpNo X35.here hx rfl (hb hby at_228) rfl (teq hc228_37).2 ?_
            show Steps p.tables e below (T35.setTop (mkF m 231 #[.val (.long q1), .second, .val (.long q2), .second, .val (.int p3), .val (.int p4), .val (.int p5), .val (.int p6), .val (.int y1), .val (.int y2), .val (.int y3), .val (.int y4), .val (.int (p5 &&& (3 : Int32))), .val (.int (own_hd p6)), .val (.int (0 : Int32)), .val (.int (y1 * (64 : Int32))), .val (.int y9), .val (.int y10), .val (.int y11), .val (.ref b12), .val (.ref b15), .val (.ref b19), .val (.int (own_hv (own_hd p6))), .val (.int y31), .unset, .unset, .unset, .unset, .unset, .unset] [])) _
            refine XS.iconst X35.here hx rfl (hb hby at_231) ?_
            refine XS.goto X35.here hx rfl (pc0 := 232) (pc' := 236) rfl (hb hby at_232) (by decide) (by decide) ?_
            exact k
          refine ⟨_, _, X35, e35, N35, fun t k => ?_⟩
          rw [own_kk, if_pos hc216_34, if_pos hc228_37] at k
          exact pre38 t k
        · have pre39 : ∀ t, Steps p.tables e below (T35.setTop (mkF m 236 #[.val (.long q1), .second, .val (.long q2), .second, .val (.int p3), .val (.int p4), .val (.int p5), .val (.int p6), .val (.int y1), .val (.int y2), .val (.int y3), .val (.int y4), .val (.int (p5 &&& (3 : Int32))), .val (.int (own_hd p6)), .val (.int (0 : Int32)), .val (.int (y1 * (64 : Int32))), .val (.int y9), .val (.int y10), .val (.int y11), .val (.ref b12), .val (.ref b15), .val (.ref b19), .val (.int (own_hv (own_hd p6))), .val (.int y31), .unset, .unset, .unset, .unset, .unset, .unset] [(.int (0 : Int32))])) t → Steps p.tables e below (s₁.setTop (entryFrame m #[(.long q1), (.long q2), (.int p3), (.int p4), (.int p5), (.int p6)] maxLocals)) t := by
            intro t k
            refine pre36 t ?_
            show Steps p.tables e below (T35.setTop (mkF m 228 #[.val (.long q1), .second, .val (.long q2), .second, .val (.int p3), .val (.int p4), .val (.int p5), .val (.int p6), .val (.int y1), .val (.int y2), .val (.int y3), .val (.int y4), .val (.int (p5 &&& (3 : Int32))), .val (.int (own_hd p6)), .val (.int (0 : Int32)), .val (.int (y1 * (64 : Int32))), .val (.int y9), .val (.int y10), .val (.int y11), .val (.ref b12), .val (.ref b15), .val (.ref b19), .val (.int (own_hv (own_hd p6))), .val (.int y31), .unset, .unset, .unset, .unset, .unset, .unset] [(.int (own_hv (own_hd p6))), (.int (own_bit q1 q2 y3))])) _
            refine XS.icmpYes X35.here hx rfl (pc0 := 228) (pc' := 235) rfl (hb hby at_228) rfl (feq hc228_37).2 (by decide) (by decide) ?_
            show Steps p.tables e below (T35.setTop (mkF m 235 #[.val (.long q1), .second, .val (.long q2), .second, .val (.int p3), .val (.int p4), .val (.int p5), .val (.int p6), .val (.int y1), .val (.int y2), .val (.int y3), .val (.int y4), .val (.int (p5 &&& (3 : Int32))), .val (.int (own_hd p6)), .val (.int (0 : Int32)), .val (.int (y1 * (64 : Int32))), .val (.int y9), .val (.int y10), .val (.int y11), .val (.ref b12), .val (.ref b15), .val (.ref b19), .val (.int (own_hv (own_hd p6))), .val (.int y31), .unset, .unset, .unset, .unset, .unset, .unset] [])) _
            refine XS.iconst X35.here hx rfl (hb hby at_235) ?_
            exact k
          refine ⟨_, _, X35, e35, N35, fun t k => ?_⟩
          rw [own_kk, if_pos hc216_34, if_neg hc228_37] at k
          exact pre39 t k
      · have pre40 : ∀ t, Steps p.tables e below (T23.setTop (mkF m 236 #[.val (.long q1), .second, .val (.long q2), .second, .val (.int p3), .val (.int p4), .val (.int p5), .val (.int p6), .val (.int y1), .val (.int y2), .val (.int y3), .val (.int y4), .val (.int (p5 &&& (3 : Int32))), .val (.int (own_hd p6)), .val (.int (0 : Int32)), .val (.int (y1 * (64 : Int32))), .val (.int y9), .val (.int y10), .val (.int y11), .val (.ref b12), .val (.ref b15), .val (.ref b19), .val (.int (own_hv (own_hd p6))), .val (.int y31), .unset, .unset, .unset, .unset, .unset, .unset] [(.int (0 : Int32))])) t → Steps p.tables e below (s₁.setTop (entryFrame m #[(.long q1), (.long q2), (.int p3), (.int p4), (.int p5), (.int p6)] maxLocals)) t := by
          intro t k
          refine pre32 t ?_
          show Steps p.tables e below (T23.setTop (mkF m 216 #[.val (.long q1), .second, .val (.long q2), .second, .val (.int p3), .val (.int p4), .val (.int p5), .val (.int p6), .val (.int y1), .val (.int y2), .val (.int y3), .val (.int y4), .val (.int (p5 &&& (3 : Int32))), .val (.int (own_hd p6)), .val (.int (0 : Int32)), .val (.int (y1 * (64 : Int32))), .val (.int y9), .val (.int y10), .val (.int y11), .val (.ref b12), .val (.ref b15), .val (.ref b19), .val (.int (own_hv (own_hd p6))), .val (.int y31), .unset, .unset, .unset, .unset, .unset, .unset] [(.int (1 : Int32)), (.int (p5 &&& (3 : Int32)))])) _
          refine XS.icmpYes X23.here hx rfl (pc0 := 216) (pc' := 235) rfl (hb hby at_216) rfl (flt hc216_34).2.2.2 (by decide) (by decide) ?_
          show Steps p.tables e below (T23.setTop (mkF m 235 #[.val (.long q1), .second, .val (.long q2), .second, .val (.int p3), .val (.int p4), .val (.int p5), .val (.int p6), .val (.int y1), .val (.int y2), .val (.int y3), .val (.int y4), .val (.int (p5 &&& (3 : Int32))), .val (.int (own_hd p6)), .val (.int (0 : Int32)), .val (.int (y1 * (64 : Int32))), .val (.int y9), .val (.int y10), .val (.int y11), .val (.ref b12), .val (.ref b15), .val (.ref b19), .val (.int (own_hv (own_hd p6))), .val (.int y31), .unset, .unset, .unset, .unset, .unset, .unset] [])) _
          refine XS.iconst X23.here hx rfl (hb hby at_235) ?_
          exact k
        refine ⟨_, _, X23, e23, N23, fun t k => ?_⟩
        rw [own_kk, if_neg hc216_34] at k
        exact pre40 t k
    obtain ⟨y41, hy41⟩ : ∃ z : Int32, z = (own_kk (p5 &&& (3 : Int32)) (1 : Int32) (own_bit q1 q2 y3) (own_hv (own_hd p6))) := ⟨_, rfl⟩
    have pre42 : ∀ t, Steps p.tables e below (T33.setTop (mkF m 241 #[.val (.long q1), .second, .val (.long q2), .second, .val (.int p3), .val (.int p4), .val (.int p5), .val (.int p6), .val (.int y1), .val (.int y2), .val (.int y3), .val (.int y4), .val (.int (p5 &&& (3 : Int32))), .val (.int (own_hd p6)), .val (.int (0 : Int32)), .val (.int (y1 * (64 : Int32))), .val (.int y9), .val (.int y10), .val (.int y11), .val (.ref b12), .val (.ref b15), .val (.ref b19), .val (.int (own_hv (own_hd p6))), .val (.int y31), .val (.int y41), .unset, .unset, .unset, .unset, .unset] [(.int (2 : Int32)), (.int (p5 &&& (3 : Int32)))])) t → Steps p.tables e below (s₁.setTop (entryFrame m #[(.long q1), (.long q2), (.int p3), (.int p4), (.int p5), (.int p6)] maxLocals)) t := by
      intro t k
      refine pre33 t ?_
      show Steps p.tables e below (T33.setTop (mkF m 236 #[.val (.long q1), .second, .val (.long q2), .second, .val (.int p3), .val (.int p4), .val (.int p5), .val (.int p6), .val (.int y1), .val (.int y2), .val (.int y3), .val (.int y4), .val (.int (p5 &&& (3 : Int32))), .val (.int (own_hd p6)), .val (.int (0 : Int32)), .val (.int (y1 * (64 : Int32))), .val (.int y9), .val (.int y10), .val (.int y11), .val (.ref b12), .val (.ref b15), .val (.ref b19), .val (.int (own_hv (own_hd p6))), .val (.int y31), .unset, .unset, .unset, .unset, .unset, .unset] [(.int (own_kk (p5 &&& (3 : Int32)) (1 : Int32) (own_bit q1 q2 y3) (own_hv (own_hd p6))))])) _
      rw [← hy41]
      refine XS.istore X33.here hx rfl (hb hby at_236) rfl (l' := #[.val (.long q1), .second, .val (.long q2), .second, .val (.int p3), .val (.int p4), .val (.int p5), .val (.int p6), .val (.int y1), .val (.int y2), .val (.int y3), .val (.int y4), .val (.int (p5 &&& (3 : Int32))), .val (.int (own_hd p6)), .val (.int (0 : Int32)), .val (.int (y1 * (64 : Int32))), .val (.int y9), .val (.int y10), .val (.int y11), .val (.ref b12), .val (.ref b15), .val (.ref b19), .val (.int (own_hv (own_hd p6))), .val (.int y31), .val (.int y41), .unset, .unset, .unset, .unset, .unset]) rfl ?_
      show Steps p.tables e below (T33.setTop (mkF m 238 #[.val (.long q1), .second, .val (.long q2), .second, .val (.int p3), .val (.int p4), .val (.int p5), .val (.int p6), .val (.int y1), .val (.int y2), .val (.int y3), .val (.int y4), .val (.int (p5 &&& (3 : Int32))), .val (.int (own_hd p6)), .val (.int (0 : Int32)), .val (.int (y1 * (64 : Int32))), .val (.int y9), .val (.int y10), .val (.int y11), .val (.ref b12), .val (.ref b15), .val (.ref b19), .val (.int (own_hv (own_hd p6))), .val (.int y31), .val (.int y41), .unset, .unset, .unset, .unset, .unset] [])) _
      refine XS.iload X33.here hx rfl (hb hby at_238) rfl ?_
      refine XS.iconst X33.here hx rfl (hb hby at_240) ?_
      exact k
    obtain ⟨T43, L43, X43, e43, N43, pre43⟩ : ∃ (T' : State) (L' : List Loc), Stand p l e room_1 s m #[(.long q1), (.long q2), (.int p3), (.int p4), (.int p5), (.int p6)] below meth c T' L' 3 8 ∧ T'.heap = h19 ∧ Fr n0 L' ∧ ∀ t, Steps p.tables e below (T'.setTop (mkF m 261 #[.val (.long q1), .second, .val (.long q2), .second, .val (.int p3), .val (.int p4), .val (.int p5), .val (.int p6), .val (.int y1), .val (.int y2), .val (.int y3), .val (.int y4), .val (.int (p5 &&& (3 : Int32))), .val (.int (own_hd p6)), .val (.int (0 : Int32)), .val (.int (y1 * (64 : Int32))), .val (.int y9), .val (.int y10), .val (.int y11), .val (.ref b12), .val (.ref b15), .val (.ref b19), .val (.int (own_hv (own_hd p6))), .val (.int y31), .val (.int y41), .unset, .unset, .unset, .unset, .unset] [(.int (own_kk (p5 &&& (3 : Int32)) (2 : Int32) (own_bit q1 q2 y4) (own_hv (own_hd p6))))])) t → Steps p.tables e below (s₁.setTop (entryFrame m #[(.long q1), (.long q2), (.int p3), (.int p4), (.int p5), (.int p6)] maxLocals)) t := by
      by_cases hc241_44 : (2 : Int32) < (p5 &&& (3 : Int32))
      · obtain ⟨_, _, ⟨T45, L45, k45, n45⟩, -, X45, ⟨Lc45, hQ45, l45, y45, z45⟩, st45⟩ := Jvm.LawKit.callS X33 hx (y := (⟨"com/example/bitstrata/bitstrata/BitsetChunkFilterPinLaw", "bit", "(JJI)I"⟩ : MethodName)) hown (mvT hZ (hw _ (List.mem_of_getElem? (i := 8) rfl))) (mvT hZ (hw _ (List.mem_of_getElem? (i := 9) rfl))) (mvT hZ (hw _ (List.mem_of_getElem? (i := 10) rfl))) (mvT hZ (hw _ (List.mem_of_getElem? (i := 11) rfl))) (by decide) (backOf (W := 0) (rm2 l Z a0 hw [] q1 q2 y4 h19 n0 Z19) hZ (hw _ (List.mem_of_getElem? (i := 11) rfl)) (hw _ (List.mem_of_getElem? (i := 10) rfl)) (by decide) (by decide)) (g := (mkF m 248 #[.val (.long q1), .second, .val (.long q2), .second, .val (.int p3), .val (.int p4), .val (.int p5), .val (.int p6), .val (.int y1), .val (.int y2), .val (.int y3), .val (.int y4), .val (.int (p5 &&& (3 : Int32))), .val (.int (own_hd p6)), .val (.int (0 : Int32)), .val (.int (y1 * (64 : Int32))), .val (.int y9), .val (.int y10), .val (.int y11), .val (.ref b12), .val (.ref b15), .val (.ref b19), .val (.int (own_hv (own_hd p6))), .val (.int y31), .val (.int y41), .unset, .unset, .unset, .unset, .unset] [(.int y4), (.long q2), (.long q1)])) rfl (by rw [hml]; rfl) (argsL := [(.long q1), (.long q2), (.int y4)]) (rest := []) (lenOf pd_0 rfl) rfl (by show 2 * 0 + _ ≤ _; exact Nat.le_of_eq rfl) (hb hby at_248) (fun _ _ => ⟨rfl, e33, (by decide : 3 + 0 ≤ _), (by decide : 8 + 0 ≤ _)⟩)
        dsimp only [Pt.U, Pt.locs, Pt.cells, Pt.slots] at X45 l45 y45 z45 st45 hQ45
        subst l45 y45 z45
        obtain ⟨rfl, N45q, e45⟩ := hQ45
        have N45 := Fr.app N33 N45q
        have pre46 : ∀ t, Steps p.tables e below (T45.setTop (mkF m 253 #[.val (.long q1), .second, .val (.long q2), .second, .val (.int p3), .val (.int p4), .val (.int p5), .val (.int p6), .val (.int y1), .val (.int y2), .val (.int y3), .val (.int y4), .val (.int (p5 &&& (3 : Int32))), .val (.int (own_hd p6)), .val (.int (0 : Int32)), .val (.int (y1 * (64 : Int32))), .val (.int y9), .val (.int y10), .val (.int y11), .val (.ref b12), .val (.ref b15), .val (.ref b19), .val (.int (own_hv (own_hd p6))), .val (.int y31), .val (.int y41), .unset, .unset, .unset, .unset, .unset] [(.int (own_hv (own_hd p6))), (.int (own_bit q1 q2 y4))])) t → Steps p.tables e below (s₁.setTop (entryFrame m #[(.long q1), (.long q2), (.int p3), (.int p4), (.int p5), (.int p6)] maxLocals)) t := by
          intro t k
          refine pre42 t ?_
          show Steps p.tables e below (T33.setTop (mkF m 241 #[.val (.long q1), .second, .val (.long q2), .second, .val (.int p3), .val (.int p4), .val (.int p5), .val (.int p6), .val (.int y1), .val (.int y2), .val (.int y3), .val (.int y4), .val (.int (p5 &&& (3 : Int32))), .val (.int (own_hd p6)), .val (.int (0 : Int32)), .val (.int (y1 * (64 : Int32))), .val (.int y9), .val (.int y10), .val (.int y11), .val (.ref b12), .val (.ref b15), .val (.ref b19), .val (.int (own_hv (own_hd p6))), .val (.int y31), .val (.int y41), .unset, .unset, .unset, .unset, .unset] [(.int (2 : Int32)), (.int (p5 &&& (3 : Int32)))])) _
          refine XS.icmpNo X33.here hx rfl (hb hby at_241) rfl (tlt hc241_44).2.2.2 ?_
          show Steps p.tables e below (T33.setTop (mkF m 244 #[.val (.long q1), .second, .val (.long q2), .second, .val (.int p3), .val (.int p4), .val (.int p5), .val (.int p6), .val (.int y1), .val (.int y2), .val (.int y3), .val (.int y4), .val (.int (p5 &&& (3 : Int32))), .val (.int (own_hd p6)), .val (.int (0 : Int32)), .val (.int (y1 * (64 : Int32))), .val (.int y9), .val (.int y10), .val (.int y11), .val (.ref b12), .val (.ref b15), .val (.ref b19), .val (.int (own_hv (own_hd p6))), .val (.int y31), .val (.int y41), .unset, .unset, .unset, .unset, .unset] [])) _
          refine XS.lloadN X33.here hx rfl (hb hby at_244) rfl ?_
          refine XS.lloadN X33.here hx rfl (hb hby at_245) rfl ?_
          refine XS.iload X33.here hx rfl (hb hby at_246) rfl ?_
          show Steps p.tables e below (T33.setTop (mkF m 248 #[.val (.long q1), .second, .val (.long q2), .second, .val (.int p3), .val (.int p4), .val (.int p5), .val (.int p6), .val (.int y1), .val (.int y2), .val (.int y3), .val (.int y4), .val (.int (p5 &&& (3 : Int32))), .val (.int (own_hd p6)), .val (.int (0 : Int32)), .val (.int (y1 * (64 : Int32))), .val (.int y9), .val (.int y10), .val (.int y11), .val (.ref b12), .val (.ref b15), .val (.ref b19), .val (.int (own_hv (own_hd p6))), .val (.int y31), .val (.int y41), .unset, .unset, .unset, .unset, .unset] [(.int y4), (.long q2), (.long q1)])) _
          refine st45 _ ?_
          show Steps p.tables e below (T45.setTop (mkF m 251 #[.val (.long q1), .second, .val (.long q2), .second, .val (.int p3), .val (.int p4), .val (.int p5), .val (.int p6), .val (.int y1), .val (.int y2), .val (.int y3), .val (.int y4), .val (.int (p5 &&& (3 : Int32))), .val (.int (own_hd p6)), .val (.int (0 : Int32)), .val (.int (y1 * (64 : Int32))), .val (.int y9), .val (.int y10), .val (.int y11), .val (.ref b12), .val (.ref b15), .val (.ref b19), .val (.int (own_hv (own_hd p6))), .val (.int y31), .val (.int y41), .unset, .unset, .unset, .unset, .unset] [(.int (own_bit q1 q2 y4))])) _
          refine XS.iload X45.here hx rfl (hb hby at_251) rfl ?_
          exact k
        by_cases hc253_47 : (own_bit q1 q2 y4) = (own_hv (own_hd p6))
        · have pre48 : ∀ t, Steps p.tables e below (T45.setTop (mkF m 261 #[.val (.long q1), .second, .val (.long q2), .second, .val (.int p3), .val (.int p4), .val (.int p5), .val (.int p6), .val (.int y1), .val (.int y2), .val (.int y3), .val (.int y4), .val (.int (p5 &&& (3 : Int32))), .val (.int (own_hd p6)), .val (.int (0 : Int32)), .val (.int (y1 * (64 : Int32))), .val (.int y9), .val (.int y10), .val (.int y11), .val (.ref b12), .val (.ref b15), .val (.ref b19), .val (.int (own_hv (own_hd p6))), .val (.int y31), .val (.int y41), .unset, .unset, .unset, .unset, .unset] [(.int (1 : Int32))])) t → Steps p.tables e below (s₁.setTop (entryFrame m #[(.long q1), (.long q2), (.int p3), (.int p4), (.int p5), (.int p6)] maxLocals)) t := by
            intro t k
            refine pre46 t ?_
            show Steps p.tables e below (T45.setTop (mkF m 253 #[.val (.long q1), .second, .val (.long q2), .second, .val (.int p3), .val (.int p4), .val (.int p5), .val (.int p6), .val (.int y1), .val (.int y2), .val (.int y3), .val (.int y4), .val (.int (p5 &&& (3 : Int32))), .val (.int (own_hd p6)), .val (.int (0 : Int32)), .val (.int (y1 * (64 : Int32))), .val (.int y9), .val (.int y10), .val (.int y11), .val (.ref b12), .val (.ref b15), .val (.ref b19), .val (.int (own_hv (own_hd p6))), .val (.int y31), .val (.int y41), .unset, .unset, .unset, .unset, .unset] [(.int (own_hv (own_hd p6))), (.int (own_bit q1 q2 y4))])) _
            refine XS.icmpNo X45.here hx rfl (hb hby at_253) rfl (teq hc253_47).2 ?_
            show Steps p.tables e below (T45.setTop (mkF m 256 #[.val (.long q1), .second, .val (.long q2), .second, .val (.int p3), .val (.int p4), .val (.int p5), .val (.int p6), .val (.int y1), .val (.int y2), .val (.int y3), .val (.int y4), .val (.int (p5 &&& (3 : Int32))), .val (.int (own_hd p6)), .val (.int (0 : Int32)), .val (.int (y1 * (64 : Int32))), .val (.int y9), .val (.int y10), .val (.int y11), .val (.ref b12), .val (.ref b15), .val (.ref b19), .val (.int (own_hv (own_hd p6))), .val (.int y31), .val (.int y41), .unset, .unset, .unset, .unset, .unset] [])) _
            refine XS.iconst X45.here hx rfl (hb hby at_256) ?_
            refine XS.goto X45.here hx rfl (pc0 := 257) (pc' := 261) rfl (hb hby at_257) (by decide) (by decide) ?_
            exact k
          refine ⟨_, _, X45, e45, N45, fun t k => ?_⟩
          rw [own_kk, if_pos hc241_44, if_pos hc253_47] at k
          exact pre48 t k
        · have pre49 : ∀ t, Steps p.tables e below (T45.setTop (mkF m 261 #[.val (.long q1), .second, .val (.long q2), .second, .val (.int p3), .val (.int p4), .val (.int p5), .val (.int p6), .val (.int y1), .val (.int y2), .val (.int y3), .val (.int y4), .val (.int (p5 &&& (3 : Int32))), .val (.int (own_hd p6)), .val (.int (0 : Int32)), .val (.int (y1 * (64 : Int32))), .val (.int y9), .val (.int y10), .val (.int y11), .val (.ref b12), .val (.ref b15), .val (.ref b19), .val (.int (own_hv (own_hd p6))), .val (.int y31), .val (.int y41), .unset, .unset, .unset, .unset, .unset] [(.int (0 : Int32))])) t → Steps p.tables e below (s₁.setTop (entryFrame m #[(.long q1), (.long q2), (.int p3), (.int p4), (.int p5), (.int p6)] maxLocals)) t := by
            intro t k
            refine pre46 t ?_
            show Steps p.tables e below (T45.setTop (mkF m 253 #[.val (.long q1), .second, .val (.long q2), .second, .val (.int p3), .val (.int p4), .val (.int p5), .val (.int p6), .val (.int y1), .val (.int y2), .val (.int y3), .val (.int y4), .val (.int (p5 &&& (3 : Int32))), .val (.int (own_hd p6)), .val (.int (0 : Int32)), .val (.int (y1 * (64 : Int32))), .val (.int y9), .val (.int y10), .val (.int y11), .val (.ref b12), .val (.ref b15), .val (.ref b19), .val (.int (own_hv (own_hd p6))), .val (.int y31), .val (.int y41), .unset, .unset, .unset, .unset, .unset] [(.int (own_hv (own_hd p6))), (.int (own_bit q1 q2 y4))])) _
            refine XS.icmpYes X45.here hx rfl (pc0 := 253) (pc' := 260) rfl (hb hby at_253) rfl (feq hc253_47).2 (by decide) (by decide) ?_
            show Steps p.tables e below (T45.setTop (mkF m 260 #[.val (.long q1), .second, .val (.long q2), .second, .val (.int p3), .val (.int p4), .val (.int p5), .val (.int p6), .val (.int y1), .val (.int y2), .val (.int y3), .val (.int y4), .val (.int (p5 &&& (3 : Int32))), .val (.int (own_hd p6)), .val (.int (0 : Int32)), .val (.int (y1 * (64 : Int32))), .val (.int y9), .val (.int y10), .val (.int y11), .val (.ref b12), .val (.ref b15), .val (.ref b19), .val (.int (own_hv (own_hd p6))), .val (.int y31), .val (.int y41), .unset, .unset, .unset, .unset, .unset] [])) _
            refine XS.iconst X45.here hx rfl (hb hby at_260) ?_
            exact k
          refine ⟨_, _, X45, e45, N45, fun t k => ?_⟩
          rw [own_kk, if_pos hc241_44, if_neg hc253_47] at k
          exact pre49 t k
      · have pre50 : ∀ t, Steps p.tables e below (T33.setTop (mkF m 261 #[.val (.long q1), .second, .val (.long q2), .second, .val (.int p3), .val (.int p4), .val (.int p5), .val (.int p6), .val (.int y1), .val (.int y2), .val (.int y3), .val (.int y4), .val (.int (p5 &&& (3 : Int32))), .val (.int (own_hd p6)), .val (.int (0 : Int32)), .val (.int (y1 * (64 : Int32))), .val (.int y9), .val (.int y10), .val (.int y11), .val (.ref b12), .val (.ref b15), .val (.ref b19), .val (.int (own_hv (own_hd p6))), .val (.int y31), .val (.int y41), .unset, .unset, .unset, .unset, .unset] [(.int (0 : Int32))])) t → Steps p.tables e below (s₁.setTop (entryFrame m #[(.long q1), (.long q2), (.int p3), (.int p4), (.int p5), (.int p6)] maxLocals)) t := by
          intro t k
          refine pre42 t ?_
          show Steps p.tables e below (T33.setTop (mkF m 241 #[.val (.long q1), .second, .val (.long q2), .second, .val (.int p3), .val (.int p4), .val (.int p5), .val (.int p6), .val (.int y1), .val (.int y2), .val (.int y3), .val (.int y4), .val (.int (p5 &&& (3 : Int32))), .val (.int (own_hd p6)), .val (.int (0 : Int32)), .val (.int (y1 * (64 : Int32))), .val (.int y9), .val (.int y10), .val (.int y11), .val (.ref b12), .val (.ref b15), .val (.ref b19), .val (.int (own_hv (own_hd p6))), .val (.int y31), .val (.int y41), .unset, .unset, .unset, .unset, .unset] [(.int (2 : Int32)), (.int (p5 &&& (3 : Int32)))])) _
          refine XS.icmpYes X33.here hx rfl (pc0 := 241) (pc' := 260) rfl (hb hby at_241) rfl (flt hc241_44).2.2.2 (by decide) (by decide) ?_
          show Steps p.tables e below (T33.setTop (mkF m 260 #[.val (.long q1), .second, .val (.long q2), .second, .val (.int p3), .val (.int p4), .val (.int p5), .val (.int p6), .val (.int y1), .val (.int y2), .val (.int y3), .val (.int y4), .val (.int (p5 &&& (3 : Int32))), .val (.int (own_hd p6)), .val (.int (0 : Int32)), .val (.int (y1 * (64 : Int32))), .val (.int y9), .val (.int y10), .val (.int y11), .val (.ref b12), .val (.ref b15), .val (.ref b19), .val (.int (own_hv (own_hd p6))), .val (.int y31), .val (.int y41), .unset, .unset, .unset, .unset, .unset] [])) _
          refine XS.iconst X33.here hx rfl (hb hby at_260) ?_
          exact k
        refine ⟨_, _, X33, e33, N33, fun t k => ?_⟩
        rw [own_kk, if_neg hc241_44] at k
        exact pre50 t k
    obtain ⟨y51, hy51⟩ : ∃ z : Int32, z = (own_kk (p5 &&& (3 : Int32)) (2 : Int32) (own_bit q1 q2 y4) (own_hv (own_hd p6))) := ⟨_, rfl⟩
    obtain ⟨T52, h52, k52, X52, e52, E52, A52, st52⟩ := newP X43 hx hZ (hw _ (List.mem_of_getElem? (i := 3) rfl)) e43 (g := (mkF m 264 #[.val (.long q1), .second, .val (.long q2), .second, .val (.int p3), .val (.int p4), .val (.int p5), .val (.int p6), .val (.int y1), .val (.int y2), .val (.int y3), .val (.int y4), .val (.int (p5 &&& (3 : Int32))), .val (.int (own_hd p6)), .val (.int (0 : Int32)), .val (.int (y1 * (64 : Int32))), .val (.int y9), .val (.int y10), .val (.int y11), .val (.ref b12), .val (.ref b15), .val (.ref b19), .val (.int (own_hv (own_hd p6))), .val (.int y31), .val (.int y41), .val (.int y51), .unset, .unset, .unset, .unset] [(.int (3 : Int32))])) rfl (hb hby at_264) rfl (by decide) (cap := 3) (by decide) (by decide) (by decide) (by decide)
    obtain ⟨b52, g52⟩ : ∃ z, z = h19.size := ⟨_, rfl⟩
    rw [← g52] at A52 st52
    have ne_b12_b52 : b12 ≠ b52 := Nat.ne_of_lt (Nat.lt_of_lt_of_le VW_v19.lt (Nat.le_of_eq g52.symm))
    have ne_b15_b52 : b15 ≠ b52 := Nat.ne_of_lt (Nat.lt_of_lt_of_le VV_v19.lt (Nat.le_of_eq g52.symm))
    have ne_b19_b52 : b19 ≠ b52 := Nat.ne_of_lt (Nat.lt_of_lt_of_le V19_v19.lt (Nat.le_of_eq g52.symm))
    have g_b52 : n0 ≤ b52 := Nat.le_trans Z19 (Nat.le_of_eq g52.symm)
    have VW_v52 := VW_v19.ext E52
    have VV_v52 := VV_v19.ext E52
    have V19_v52 := V19_v19.ext E52
    have Z52 : n0 ≤ h52.size := Nat.le_trans Z19 E52.1
    have V52_v52 : ArF Z h52 b52 .char 3 (fun _ => (.int 0)) := ArF.mk0 A52 rfl rfl
    have pre53 : ∀ t, Steps p.tables e below (T52.setTop (mkF m 271 #[.val (.long q1), .second, .val (.long q2), .second, .val (.int p3), .val (.int p4), .val (.int p5), .val (.int p6), .val (.int y1), .val (.int y2), .val (.int y3), .val (.int y4), .val (.int (p5 &&& (3 : Int32))), .val (.int (own_hd p6)), .val (.int (0 : Int32)), .val (.int (y1 * (64 : Int32))), .val (.int y9), .val (.int y10), .val (.int y11), .val (.ref b12), .val (.ref b15), .val (.ref b19), .val (.int (own_hv (own_hd p6))), .val (.int y31), .val (.int y41), .val (.int y51), .val (.ref b52), .val (.int (0 : Int32)), .unset, .unset] [])) t → Steps p.tables e below (s₁.setTop (entryFrame m #[(.long q1), (.long q2), (.int p3), (.int p4), (.int p5), (.int p6)] maxLocals)) t := by
      intro t k
      refine pre43 t ?_
      show Steps p.tables e below (T43.setTop (mkF m 261 #[.val (.long q1), .second, .val (.long q2), .second, .val (.int p3), .val (.int p4), .val (.int p5), .val (.int p6), .val (.int y1), .val (.int y2), .val (.int y3), .val (.int y4), .val (.int (p5 &&& (3 : Int32))), .val (.int (own_hd p6)), .val (.int (0 : Int32)), .val (.int (y1 * (64 : Int32))), .val (.int y9), .val (.int y10), .val (.int y11), .val (.ref b12), .val (.ref b15), .val (.ref b19), .val (.int (own_hv (own_hd p6))), .val (.int y31), .val (.int y41), .unset, .unset, .unset, .unset, .unset] [(.int (own_kk (p5 &&& (3 : Int32)) (2 : Int32) (own_bit q1 q2 y4) (own_hv (own_hd p6))))])) _
      rw [← hy51]
      refine XS.istore X43.here hx rfl (hb hby at_261) rfl (l' := #[.val (.long q1), .second, .val (.long q2), .second, .val (.int p3), .val (.int p4), .val (.int p5), .val (.int p6), .val (.int y1), .val (.int y2), .val (.int y3), .val (.int y4), .val (.int (p5 &&& (3 : Int32))), .val (.int (own_hd p6)), .val (.int (0 : Int32)), .val (.int (y1 * (64 : Int32))), .val (.int y9), .val (.int y10), .val (.int y11), .val (.ref b12), .val (.ref b15), .val (.ref b19), .val (.int (own_hv (own_hd p6))), .val (.int y31), .val (.int y41), .val (.int y51), .unset, .unset, .unset, .unset]) rfl ?_
      show Steps p.tables e below (T43.setTop (mkF m 263 #[.val (.long q1), .second, .val (.long q2), .second, .val (.int p3), .val (.int p4), .val (.int p5), .val (.int p6), .val (.int y1), .val (.int y2), .val (.int y3), .val (.int y4), .val (.int (p5 &&& (3 : Int32))), .val (.int (own_hd p6)), .val (.int (0 : Int32)), .val (.int (y1 * (64 : Int32))), .val (.int y9), .val (.int y10), .val (.int y11), .val (.ref b12), .val (.ref b15), .val (.ref b19), .val (.int (own_hv (own_hd p6))), .val (.int y31), .val (.int y41), .val (.int y51), .unset, .unset, .unset, .unset] [])) _
      refine XS.iconst X43.here hx rfl (hb hby at_263) ?_
      show Steps p.tables e below (T43.setTop (mkF m 264 #[.val (.long q1), .second, .val (.long q2), .second, .val (.int p3), .val (.int p4), .val (.int p5), .val (.int p6), .val (.int y1), .val (.int y2), .val (.int y3), .val (.int y4), .val (.int (p5 &&& (3 : Int32))), .val (.int (own_hd p6)), .val (.int (0 : Int32)), .val (.int (y1 * (64 : Int32))), .val (.int y9), .val (.int y10), .val (.int y11), .val (.ref b12), .val (.ref b15), .val (.ref b19), .val (.int (own_hv (own_hd p6))), .val (.int y31), .val (.int y41), .val (.int y51), .unset, .unset, .unset, .unset] [(.int (3 : Int32))])) _
      refine st52 _ ?_
      show Steps p.tables e below (T52.setTop (mkF m 266 #[.val (.long q1), .second, .val (.long q2), .second, .val (.int p3), .val (.int p4), .val (.int p5), .val (.int p6), .val (.int y1), .val (.int y2), .val (.int y3), .val (.int y4), .val (.int (p5 &&& (3 : Int32))), .val (.int (own_hd p6)), .val (.int (0 : Int32)), .val (.int (y1 * (64 : Int32))), .val (.int y9), .val (.int y10), .val (.int y11), .val (.ref b12), .val (.ref b15), .val (.ref b19), .val (.int (own_hv (own_hd p6))), .val (.int y31), .val (.int y41), .val (.int y51), .unset, .unset, .unset, .unset] [(.ref b52)])) _
      refine XS.astore X52.here hx rfl (hb hby at_266) rfl rfl (l' := #[.val (.long q1), .second, .val (.long q2), .second, .val (.int p3), .val (.int p4), .val (.int p5), .val (.int p6), .val (.int y1), .val (.int y2), .val (.int y3), .val (.int y4), .val (.int (p5 &&& (3 : Int32))), .val (.int (own_hd p6)), .val (.int (0 : Int32)), .val (.int (y1 * (64 : Int32))), .val (.int y9), .val (.int y10), .val (.int y11), .val (.ref b12), .val (.ref b15), .val (.ref b19), .val (.int (own_hv (own_hd p6))), .val (.int y31), .val (.int y41), .val (.int y51), .val (.ref b52), .unset, .unset, .unset]) rfl ?_
      show Steps p.tables e below (T52.setTop (mkF m 268 #[.val (.long q1), .second, .val (.long q2), .second, .val (.int p3), .val (.int p4), .val (.int p5), .val (.int p6), .val (.int y1), .val (.int y2), .val (.int y3), .val (.int y4), .val (.int (p5 &&& (3 : Int32))), .val (.int (own_hd p6)), .val (.int (0 : Int32)), .val (.int (y1 * (64 : Int32))), .val (.int y9), .val (.int y10), .val (.int y11), .val (.ref b12), .val (.ref b15), .val (.ref b19), .val (.int (own_hv (own_hd p6))), .val (.int y31), .val (.int y41), .val (.int y51), .val (.ref b52), .unset, .unset, .unset] [])) _
      refine XS.iconst X52.here hx rfl (hb hby at_268) ?_
      refine XS.istore X52.here hx rfl (hb hby at_269) rfl (l' := #[.val (.long q1), .second, .val (.long q2), .second, .val (.int p3), .val (.int p4), .val (.int p5), .val (.int p6), .val (.int y1), .val (.int y2), .val (.int y3), .val (.int y4), .val (.int (p5 &&& (3 : Int32))), .val (.int (own_hd p6)), .val (.int (0 : Int32)), .val (.int (y1 * (64 : Int32))), .val (.int y9), .val (.int y10), .val (.int y11), .val (.ref b12), .val (.ref b15), .val (.ref b19), .val (.int (own_hv (own_hd p6))), .val (.int y31), .val (.int y41), .val (.int y51), .val (.ref b52), .val (.int (0 : Int32)), .unset, .unset]) rfl ?_
      exact k
    obtain ⟨T54, L54, h54, X54, e54, N54, Z54, mf54_0_v54, mf54_1_v54, mf54_2_v54, mf54_3_v54, pre54⟩ : ∃ (T' : State) (L' : List Loc) (h' : Heap), Stand p l e room_1 s m #[(.long q1), (.long q2), (.int p3), (.int p4), (.int p5), (.int p6)] below meth c T' L' 4 11 ∧ T'.heap = h' ∧ Fr n0 L' ∧ n0 ≤ h'.size ∧ ArF Z h' b12 .long 2 (fun i => .long (own_g q1 q2 i)) ∧ ArF Z h' b15 .char 3 (fun i => .int ((own_f3 y9 y10 y11) i)) ∧ ArF Z h' b19 .char 3 (fun _ => .int (0 : Int32)) ∧ (∃ E : Nat → Int32, ArF Z h' b52 .char 3 (fun i => .int (E i)) ∧ own_fit (own_L y31 y41 y51 y9 y10 y11) E) ∧ ∀ t, Steps p.tables e below (T'.setTop (mkF m 316 #[.val (.long q1), .second, .val (.long q2), .second, .val (.int p3), .val (.int p4), .val (.int p5), .val (.int p6), .val (.int y1), .val (.int y2), .val (.int y3), .val (.int y4), .val (.int (p5 &&& (3 : Int32))), .val (.int (own_hd p6)), .val (.int (0 : Int32)), .val (.int (y1 * (64 : Int32))), .val (.int y9), .val (.int y10), .val (.int y11), .val (.ref b12), .val (.ref b15), .val (.ref b19), .val (.int (own_hv (own_hd p6))), .val (.int y31), .val (.int y41), .val (.int y51), .val (.ref b52), .val (.int (own_len (own_L y31 y41 y51 y9 y10 y11))), .unset, .unset] [])) t → Steps p.tables e below (s₁.setTop (entryFrame m #[(.long q1), (.long q2), (.int p3), (.int p4), (.int p5), (.int p6)] maxLocals)) t := by
      have pre55 : ∀ t, Steps p.tables e below (T52.setTop (mkF m 273 #[.val (.long q1), .second, .val (.long q2), .second, .val (.int p3), .val (.int p4), .val (.int p5), .val (.int p6), .val (.int y1), .val (.int y2), .val (.int y3), .val (.int y4), .val (.int (p5 &&& (3 : Int32))), .val (.int (own_hd p6)), .val (.int (0 : Int32)), .val (.int (y1 * (64 : Int32))), .val (.int y9), .val (.int y10), .val (.int y11), .val (.ref b12), .val (.ref b15), .val (.ref b19), .val (.int (own_hv (own_hd p6))), .val (.int y31), .val (.int y41), .val (.int y51), .val (.ref b52), .val (.int (0 : Int32)), .unset, .unset] [(.int y31)])) t → Steps p.tables e below (s₁.setTop (entryFrame m #[(.long q1), (.long q2), (.int p3), (.int p4), (.int p5), (.int p6)] maxLocals)) t := by
        intro t k
        refine pre53 t ?_
        show Steps p.tables e below (T52.setTop (mkF m 271 #[.val (.long q1), .second, .val (.long q2), .second, .val (.int p3), .val (.int p4), .val (.int p5), .val (.int p6), .val (.int y1), .val (.int y2), .val (.int y3), .val (.int y4), .val (.int (p5 &&& (3 : Int32))), .val (.int (own_hd p6)), .val (.int (0 : Int32)), .val (.int (y1 * (64 : Int32))), .val (.int y9), .val (.int y10), .val (.int y11), .val (.ref b12), .val (.ref b15), .val (.ref b19), .val (.int (own_hv (own_hd p6))), .val (.int y31), .val (.int y41), .val (.int y51), .val (.ref b52), .val (.int (0 : Int32)), .unset, .unset] [])) _
        refine XS.iload X52.here hx rfl (hb hby at_271) rfl ?_
        exact k
      by_cases hc273_56 : y31 = (0 : Int32)
      · have pre57 : ∀ t, Steps p.tables e below (T52.setTop (mkF m 288 #[.val (.long q1), .second, .val (.long q2), .second, .val (.int p3), .val (.int p4), .val (.int p5), .val (.int p6), .val (.int y1), .val (.int y2), .val (.int y3), .val (.int y4), .val (.int (p5 &&& (3 : Int32))), .val (.int (own_hd p6)), .val (.int (0 : Int32)), .val (.int (y1 * (64 : Int32))), .val (.int y9), .val (.int y10), .val (.int y11), .val (.ref b12), .val (.ref b15), .val (.ref b19), .val (.int (own_hv (own_hd p6))), .val (.int y31), .val (.int y41), .val (.int y51), .val (.ref b52), .val (.int (0 : Int32)), .unset, .unset] [(.int y41)])) t → Steps p.tables e below (s₁.setTop (entryFrame m #[(.long q1), (.long q2), (.int p3), (.int p4), (.int p5), (.int p6)] maxLocals)) t := by
          intro t k
          refine pre55 t ?_
          show Steps p.tables e below (T52.setTop (mkF m 273 #[.val (.long q1), .second, .val (.long q2), .second, .val (.int p3), .val (.int p4), .val (.int p5), .val (.int p6), .val (.int y1), .val (.int y2), .val (.int y3), .val (.int y4), .val (.int (p5 &&& (3 : Int32))), .val (.int (own_hd p6)), .val (.int (0 : Int32)), .val (.int (y1 * (64 : Int32))), .val (.int y9), .val (.int y10), .val (.int y11), .val (.ref b12), .val (.ref b15), .val (.ref b19), .val (.int (own_hv (own_hd p6))), .val (.int y31), .val (.int y41), .val (.int y51), .val (.ref b52), .val (.int (0 : Int32)), .unset, .unset] [(.int y31)])) _
          refine XS.ifYes X52.here hx rfl (pc0 := 273) (pc' := 286) rfl (hb hby at_273) rfl ((if0 _ _).trans (teq hc273_56).1) (by decide) (by decide) ?_
          show Steps p.tables e below (T52.setTop (mkF m 286 #[.val (.long q1), .second, .val (.long q2), .second, .val (.int p3), .val (.int p4), .val (.int p5), .val (.int p6), .val (.int y1), .val (.int y2), .val (.int y3), .val (.int y4), .val (.int (p5 &&& (3 : Int32))), .val (.int (own_hd p6)), .val (.int (0 : Int32)), .val (.int (y1 * (64 : Int32))), .val (.int y9), .val (.int y10), .val (.int y11), .val (.ref b12), .val (.ref b15), .val (.ref b19), .val (.int (own_hv (own_hd p6))), .val (.int y31), .val (.int y41), .val (.int y51), .val (.ref b52), .val (.int (0 : Int32)), .unset, .unset] [])) _
          refine XS.iload X52.here hx rfl (hb hby at_286) rfl ?_
          exact k
        by_cases hc288_58 : y41 = (0 : Int32)
        · have pre59 : ∀ t, Steps p.tables e below (T52.setTop (mkF m 303 #[.val (.long q1), .second, .val (.long q2), .second, .val (.int p3), .val (.int p4), .val (.int p5), .val (.int p6), .val (.int y1), .val (.int y2), .val (.int y3), .val (.int y4), .val (.int (p5 &&& (3 : Int32))), .val (.int (own_hd p6)), .val (.int (0 : Int32)), .val (.int (y1 * (64 : Int32))), .val (.int y9), .val (.int y10), .val (.int y11), .val (.ref b12), .val (.ref b15), .val (.ref b19), .val (.int (own_hv (own_hd p6))), .val (.int y31), .val (.int y41), .val (.int y51), .val (.ref b52), .val (.int (0 : Int32)), .unset, .unset] [(.int y51)])) t → Steps p.tables e below (s₁.setTop (entryFrame m #[(.long q1), (.long q2), (.int p3), (.int p4), (.int p5), (.int p6)] maxLocals)) t := by
            intro t k
            refine pre57 t ?_
            show Steps p.tables e below (T52.setTop (mkF m 288 #[.val (.long q1), .second, .val (.long q2), .second, .val (.int p3), .val (.int p4), .val (.int p5), .val (.int p6), .val (.int y1), .val (.int y2), .val (.int y3), .val (.int y4), .val (.int (p5 &&& (3 : Int32))), .val (.int (own_hd p6)), .val (.int (0 : Int32)), .val (.int (y1 * (64 : Int32))), .val (.int y9), .val (.int y10), .val (.int y11), .val (.ref b12), .val (.ref b15), .val (.ref b19), .val (.int (own_hv (own_hd p6))), .val (.int y31), .val (.int y41), .val (.int y51), .val (.ref b52), .val (.int (0 : Int32)), .unset, .unset] [(.int y41)])) _
            refine XS.ifYes X52.here hx rfl (pc0 := 288) (pc' := 301) rfl (hb hby at_288) rfl ((if0 _ _).trans (teq hc288_58).1) (by decide) (by decide) ?_
            show Steps p.tables e below (T52.setTop (mkF m 301 #[.val (.long q1), .second, .val (.long q2), .second, .val (.int p3), .val (.int p4), .val (.int p5), .val (.int p6), .val (.int y1), .val (.int y2), .val (.int y3), .val (.int y4), .val (.int (p5 &&& (3 : Int32))), .val (.int (own_hd p6)), .val (.int (0 : Int32)), .val (.int (y1 * (64 : Int32))), .val (.int y9), .val (.int y10), .val (.int y11), .val (.ref b12), .val (.ref b15), .val (.ref b19), .val (.int (own_hv (own_hd p6))), .val (.int y31), .val (.int y41), .val (.int y51), .val (.ref b52), .val (.int (0 : Int32)), .unset, .unset] [])) _
            refine XS.iload X52.here hx rfl (hb hby at_301) rfl ?_
            exact k
          by_cases hc303_60 : y51 = (0 : Int32)
          · have pre61 : ∀ t, Steps p.tables e below (T52.setTop (mkF m 316 #[.val (.long q1), .second, .val (.long q2), .second, .val (.int p3), .val (.int p4), .val (.int p5), .val (.int p6), .val (.int y1), .val (.int y2), .val (.int y3), .val (.int y4), .val (.int (p5 &&& (3 : Int32))), .val (.int (own_hd p6)), .val (.int (0 : Int32)), .val (.int (y1 * (64 : Int32))), .val (.int y9), .val (.int y10), .val (.int y11), .val (.ref b12), .val (.ref b15), .val (.ref b19), .val (.int (own_hv (own_hd p6))), .val (.int y31), .val (.int y41), .val (.int y51), .val (.ref b52), .val (.int (0 : Int32)), .unset, .unset] [])) t → Steps p.tables e below (s₁.setTop (entryFrame m #[(.long q1), (.long q2), (.int p3), (.int p4), (.int p5), (.int p6)] maxLocals)) t := by
              intro t k
              refine pre59 t ?_
              show Steps p.tables e below (T52.setTop (mkF m 303 #[.val (.long q1), .second, .val (.long q2), .second, .val (.int p3), .val (.int p4), .val (.int p5), .val (.int p6), .val (.int y1), .val (.int y2), .val (.int y3), .val (.int y4), .val (.int (p5 &&& (3 : Int32))), .val (.int (own_hd p6)), .val (.int (0 : Int32)), .val (.int (y1 * (64 : Int32))), .val (.int y9), .val (.int y10), .val (.int y11), .val (.ref b12), .val (.ref b15), .val (.ref b19), .val (.int (own_hv (own_hd p6))), .val (.int y31), .val (.int y41), .val (.int y51), .val (.ref b52), .val (.int (0 : Int32)), .unset, .unset] [(.int y51)])) _
              refine XS.ifYes X52.here hx rfl (pc0 := 303) (pc' := 316) rfl (hb hby at_303) rfl ((if0 _ _).trans (teq hc303_60).1) (by decide) (by decide) ?_
              exact k
            have hs : (own_L y31 y41 y51 y9 y10 y11) = [] := by rw [own_L, own_c, own_c, own_c, if_pos hc273_56, if_pos hc288_58, if_pos hc303_60]; rfl
            refine ⟨_, _, _, X52, e52, N43, Z52, VW_v52, VV_v52, V19_v52, ⟨(fun i => if i = 0 then (0 : Int32) else if i = 1 then (0 : Int32) else (0 : Int32)), V52_v52.congr (fun i hi => by match i, hi with | 0, _ => rfl | 1, _ => rfl | 2, _ => rfl), (by rw [hs]; intro i hi; exact absurd hi (Nat.not_lt_zero i))⟩, fun t k => ?_⟩
            rw [show own_len (own_L y31 y41 y51 y9 y10 y11) = (0 : Int32) from by rw [hs]; rfl] at k
            exact pre61 t k
          · obtain ⟨cl62, Ar62, S62, H62⟩ := id V52_v52
            have hin62 : ¬ ((0 : Int32) < 0 ∨ cl62.slots.size ≤ ((0 : Int32)).toNatClampNeg) := inA S62 (by decide) (by decide)
            obtain ⟨T62, h62, X62, e62, W62, st62⟩ := stC X52 hx hZ e52 Ar62 (j := (0 : Int32)) hin62 (g := (mkF m 312 #[.val (.long q1), .second, .val (.long q2), .second, .val (.int p3), .val (.int p4), .val (.int p5), .val (.int p6), .val (.int y1), .val (.int y2), .val (.int y3), .val (.int y4), .val (.int (p5 &&& (3 : Int32))), .val (.int (own_hd p6)), .val (.int (0 : Int32)), .val (.int (y1 * (64 : Int32))), .val (.int y9), .val (.int y10), .val (.int y11), .val (.ref b12), .val (.ref b15), .val (.ref b19), .val (.int (own_hv (own_hd p6))), .val (.int y31), .val (.int y41), .val (.int y51), .val (.ref b52), .val (.int (0 : Int32)), .unset, .unset] [(.int y11), (.int (0 : Int32)), (.ref b52)])) rfl rfl (hb hby at_312)
            have VW_v62 := VW_v52.other W62 ne_b12_b52
            have VV_v62 := VV_v52.other W62 ne_b15_b52
            have V19_v62 := V19_v52.other W62 ne_b19_b52
            have Z62 : n0 ≤ h62.size := Nat.le_trans Z52 (Nat.le_of_eq W62.size.symm)
            have V62_v62 := ArF.set Ar62 S62 H62 W62 hin62
            have N62 := Fr.snoc X62 N43 g_b52
            have pre63 : ∀ t, Steps p.tables e below (T62.setTop (mkF m 316 #[.val (.long q1), .second, .val (.long q2), .second, .val (.int p3), .val (.int p4), .val (.int p5), .val (.int p6), .val (.int y1), .val (.int y2), .val (.int y3), .val (.int y4), .val (.int (p5 &&& (3 : Int32))), .val (.int (own_hd p6)), .val (.int (0 : Int32)), .val (.int (y1 * (64 : Int32))), .val (.int y9), .val (.int y10), .val (.int y11), .val (.ref b12), .val (.ref b15), .val (.ref b19), .val (.int (own_hv (own_hd p6))), .val (.int y31), .val (.int y41), .val (.int y51), .val (.ref b52), .val (.int (1 : Int32)), .unset, .unset] [])) t → Steps p.tables e below (s₁.setTop (entryFrame m #[(.long q1), (.long q2), (.int p3), (.int p4), (.int p5), (.int p6)] maxLocals)) t := by
              intro t k
              refine pre59 t ?_
              show Steps p.tables e below (T52.setTop (mkF m 303 #[.val (.long q1), .second, .val (.long q2), .second, .val (.int p3), .val (.int p4), .val (.int p5), .val (.int p6), .val (.int y1), .val (.int y2), .val (.int y3), .val (.int y4), .val (.int (p5 &&& (3 : Int32))), .val (.int (own_hd p6)), .val (.int (0 : Int32)), .val (.int (y1 * (64 : Int32))), .val (.int y9), .val (.int y10), .val (.int y11), .val (.ref b12), .val (.ref b15), .val (.ref b19), .val (.int (own_hv (own_hd p6))), .val (.int y31), .val (.int y41), .val (.int y51), .val (.ref b52), .val (.int (0 : Int32)), .unset, .unset] [(.int y51)])) _
              refine XS.ifNo X52.here hx rfl (hb hby at_303) rfl ((if0 _ _).trans (feq hc303_60).1) ?_
              show Steps p.tables e below (T52.setTop (mkF m 306 #[.val (.long q1), .second, .val (.long q2), .second, .val (.int p3), .val (.int p4), .val (.int p5), .val (.int p6), .val (.int y1), .val (.int y2), .val (.int y3), .val (.int y4), .val (.int (p5 &&& (3 : Int32))), .val (.int (own_hd p6)), .val (.int (0 : Int32)), .val (.int (y1 * (64 : Int32))), .val (.int y9), .val (.int y10), .val (.int y11), .val (.ref b12), .val (.ref b15), .val (.ref b19), .val (.int (own_hv (own_hd p6))), .val (.int y31), .val (.int y41), .val (.int y51), .val (.ref b52), .val (.int (0 : Int32)), .unset, .unset] [])) _
              refine XS.aload X52.here hx rfl (hb hby at_306) rfl rfl ?_
              refine XS.iload X52.here hx rfl (hb hby at_308) rfl ?_
              refine XS.iload X52.here hx rfl (hb hby at_310) rfl ?_
              show Steps p.tables e below (T52.setTop (mkF m 312 #[.val (.long q1), .second, .val (.long q2), .second, .val (.int p3), .val (.int p4), .val (.int p5), .val (.int p6), .val (.int y1), .val (.int y2), .val (.int y3), .val (.int y4), .val (.int (p5 &&& (3 : Int32))), .val (.int (own_hd p6)), .val (.int (0 : Int32)), .val (.int (y1 * (64 : Int32))), .val (.int y9), .val (.int y10), .val (.int y11), .val (.ref b12), .val (.ref b15), .val (.ref b19), .val (.int (own_hv (own_hd p6))), .val (.int y31), .val (.int y41), .val (.int y51), .val (.ref b52), .val (.int (0 : Int32)), .unset, .unset] [(.int y11), (.int (0 : Int32)), (.ref b52)])) _
              refine st62 _ ?_
              show Steps p.tables e below (T62.setTop (mkF m 313 #[.val (.long q1), .second, .val (.long q2), .second, .val (.int p3), .val (.int p4), .val (.int p5), .val (.int p6), .val (.int y1), .val (.int y2), .val (.int y3), .val (.int y4), .val (.int (p5 &&& (3 : Int32))), .val (.int (own_hd p6)), .val (.int (0 : Int32)), .val (.int (y1 * (64 : Int32))), .val (.int y9), .val (.int y10), .val (.int y11), .val (.ref b12), .val (.ref b15), .val (.ref b19), .val (.int (own_hv (own_hd p6))), .val (.int y31), .val (.int y41), .val (.int y51), .val (.ref b52), .val (.int (0 : Int32)), .unset, .unset] [])) _
              refine XS.iinc X62.here hx rfl (hb hby at_313) rfl (l' := #[.val (.long q1), .second, .val (.long q2), .second, .val (.int p3), .val (.int p4), .val (.int p5), .val (.int p6), .val (.int y1), .val (.int y2), .val (.int y3), .val (.int y4), .val (.int (p5 &&& (3 : Int32))), .val (.int (own_hd p6)), .val (.int (0 : Int32)), .val (.int (y1 * (64 : Int32))), .val (.int y9), .val (.int y10), .val (.int y11), .val (.ref b12), .val (.ref b15), .val (.ref b19), .val (.int (own_hv (own_hd p6))), .val (.int y31), .val (.int y41), .val (.int y51), .val (.ref b52), .val (.int (1 : Int32)), .unset, .unset]) rfl ?_
              exact k
            have hs : (own_L y31 y41 y51 y9 y10 y11) = [y11] := by rw [own_L, own_c, own_c, own_c, if_pos hc273_56, if_pos hc288_58, if_neg hc303_60]; rfl
            refine ⟨_, _, _, X62, e62, N62, Z62, VW_v62, VV_v62, V19_v62, ⟨(fun i => if i = 0 then y11 else if i = 1 then (0 : Int32) else (0 : Int32)), V62_v62.congr (fun i hi => by match i, hi with | 0, _ => exact congrArg Value.int (own_nar hb2.1) | 1, _ => rfl | 2, _ => rfl), (by rw [hs]; intro i hi; have hj : i = 0 := by { simp only [List.length_cons, List.length_nil] at hi; omega }; rcases hj with rfl <;> rfl)⟩, fun t k => ?_⟩
            rw [show own_len (own_L y31 y41 y51 y9 y10 y11) = (1 : Int32) from by rw [hs]; rfl] at k
            exact pre63 t k
        · obtain ⟨cl64, Ar64, S64, H64⟩ := id V52_v52
          have hin64 : ¬ ((0 : Int32) < 0 ∨ cl64.slots.size ≤ ((0 : Int32)).toNatClampNeg) := inA S64 (by decide) (by decide)
          obtain ⟨T64, h64, X64, e64, W64, st64⟩ := stC X52 hx hZ e52 Ar64 (j := (0 : Int32)) hin64 (g := (mkF m 297 #[.val (.long q1), .second, .val (.long q2), .second, .val (.int p3), .val (.int p4), .val (.int p5), .val (.int p6), .val (.int y1), .val (.int y2), .val (.int y3), .val (.int y4), .val (.int (p5 &&& (3 : Int32))), .val (.int (own_hd p6)), .val (.int (0 : Int32)), .val (.int (y1 * (64 : Int32))), .val (.int y9), .val (.int y10), .val (.int y11), .val (.ref b12), .val (.ref b15), .val (.ref b19), .val (.int (own_hv (own_hd p6))), .val (.int y31), .val (.int y41), .val (.int y51), .val (.ref b52), .val (.int (0 : Int32)), .unset, .unset] [(.int y10), (.int (0 : Int32)), (.ref b52)])) rfl rfl (hb hby at_297)
          have VW_v64 := VW_v52.other W64 ne_b12_b52
          have VV_v64 := VV_v52.other W64 ne_b15_b52
          have V19_v64 := V19_v52.other W64 ne_b19_b52
          have Z64 : n0 ≤ h64.size := Nat.le_trans Z52 (Nat.le_of_eq W64.size.symm)
          have V64_v64 := ArF.set Ar64 S64 H64 W64 hin64
          have N64 := Fr.snoc X64 N43 g_b52
          have pre65 : ∀ t, Steps p.tables e below (T64.setTop (mkF m 303 #[.val (.long q1), .second, .val (.long q2), .second, .val (.int p3), .val (.int p4), .val (.int p5), .val (.int p6), .val (.int y1), .val (.int y2), .val (.int y3), .val (.int y4), .val (.int (p5 &&& (3 : Int32))), .val (.int (own_hd p6)), .val (.int (0 : Int32)), .val (.int (y1 * (64 : Int32))), .val (.int y9), .val (.int y10), .val (.int y11), .val (.ref b12), .val (.ref b15), .val (.ref b19), .val (.int (own_hv (own_hd p6))), .val (.int y31), .val (.int y41), .val (.int y51), .val (.ref b52), .val (.int (1 : Int32)), .unset, .unset] [(.int y51)])) t → Steps p.tables e below (s₁.setTop (entryFrame m #[(.long q1), (.long q2), (.int p3), (.int p4), (.int p5), (.int p6)] maxLocals)) t := by
            intro t k
            refine pre57 t ?_
            show Steps p.tables e below (T52.setTop (mkF m 288 #[.val (.long q1), .second, .val (.long q2), .second, .val (.int p3), .val (.int p4), .val (.int p5), .val (.int p6), .val (.int y1), .val (.int y2), .val (.int y3), .val (.int y4), .val (.int (p5 &&& (3 : Int32))), .val (.int (own_hd p6)), .val (.int (0 : Int32)), .val (.int (y1 * (64 : Int32))), .val (.int y9), .val (.int y10), .val (.int y11), .val (.ref b12), .val (.ref b15), .val (.ref b19), .val (.int (own_hv (own_hd p6))), .val (.int y31), .val (.int y41), .val (.int y51), .val (.ref b52), .val (.int (0 : Int32)), .unset, .unset] [(.int y41)])) _
            refine XS.ifNo X52.here hx rfl (hb hby at_288) rfl ((if0 _ _).trans (feq hc288_58).1) ?_
            show Steps p.tables e below (T52.setTop (mkF m 291 #[.val (.long q1), .second, .val (.long q2), .second, .val (.int p3), .val (.int p4), .val (.int p5), .val (.int p6), .val (.int y1), .val (.int y2), .val (.int y3), .val (.int y4), .val (.int (p5 &&& (3 : Int32))), .val (.int (own_hd p6)), .val (.int (0 : Int32)), .val (.int (y1 * (64 : Int32))), .val (.int y9), .val (.int y10), .val (.int y11), .val (.ref b12), .val (.ref b15), .val (.ref b19), .val (.int (own_hv (own_hd p6))), .val (.int y31), .val (.int y41), .val (.int y51), .val (.ref b52), .val (.int (0 : Int32)), .unset, .unset] [])) _
            refine XS.aload X52.here hx rfl (hb hby at_291) rfl rfl ?_
            refine XS.iload X52.here hx rfl (hb hby at_293) rfl ?_
            refine XS.iload X52.here hx rfl (hb hby at_295) rfl ?_
            show Steps p.tables e below (T52.setTop (mkF m 297 #[.val (.long q1), .second, .val (.long q2), .second, .val (.int p3), .val (.int p4), .val (.int p5), .val (.int p6), .val (.int y1), .val (.int y2), .val (.int y3), .val (.int y4), .val (.int (p5 &&& (3 : Int32))), .val (.int (own_hd p6)), .val (.int (0 : Int32)), .val (.int (y1 * (64 : Int32))), .val (.int y9), .val (.int y10), .val (.int y11), .val (.ref b12), .val (.ref b15), .val (.ref b19), .val (.int (own_hv (own_hd p6))), .val (.int y31), .val (.int y41), .val (.int y51), .val (.ref b52), .val (.int (0 : Int32)), .unset, .unset] [(.int y10), (.int (0 : Int32)), (.ref b52)])) _
            refine st64 _ ?_
            show Steps p.tables e below (T64.setTop (mkF m 298 #[.val (.long q1), .second, .val (.long q2), .second, .val (.int p3), .val (.int p4), .val (.int p5), .val (.int p6), .val (.int y1), .val (.int y2), .val (.int y3), .val (.int y4), .val (.int (p5 &&& (3 : Int32))), .val (.int (own_hd p6)), .val (.int (0 : Int32)), .val (.int (y1 * (64 : Int32))), .val (.int y9), .val (.int y10), .val (.int y11), .val (.ref b12), .val (.ref b15), .val (.ref b19), .val (.int (own_hv (own_hd p6))), .val (.int y31), .val (.int y41), .val (.int y51), .val (.ref b52), .val (.int (0 : Int32)), .unset, .unset] [])) _
            refine XS.iinc X64.here hx rfl (hb hby at_298) rfl (l' := #[.val (.long q1), .second, .val (.long q2), .second, .val (.int p3), .val (.int p4), .val (.int p5), .val (.int p6), .val (.int y1), .val (.int y2), .val (.int y3), .val (.int y4), .val (.int (p5 &&& (3 : Int32))), .val (.int (own_hd p6)), .val (.int (0 : Int32)), .val (.int (y1 * (64 : Int32))), .val (.int y9), .val (.int y10), .val (.int y11), .val (.ref b12), .val (.ref b15), .val (.ref b19), .val (.int (own_hv (own_hd p6))), .val (.int y31), .val (.int y41), .val (.int y51), .val (.ref b52), .val (.int (1 : Int32)), .unset, .unset]) rfl ?_
            show Steps p.tables e below (T64.setTop (mkF m 301 #[.val (.long q1), .second, .val (.long q2), .second, .val (.int p3), .val (.int p4), .val (.int p5), .val (.int p6), .val (.int y1), .val (.int y2), .val (.int y3), .val (.int y4), .val (.int (p5 &&& (3 : Int32))), .val (.int (own_hd p6)), .val (.int (0 : Int32)), .val (.int (y1 * (64 : Int32))), .val (.int y9), .val (.int y10), .val (.int y11), .val (.ref b12), .val (.ref b15), .val (.ref b19), .val (.int (own_hv (own_hd p6))), .val (.int y31), .val (.int y41), .val (.int y51), .val (.ref b52), .val (.int (1 : Int32)), .unset, .unset] [])) _
            refine XS.iload X64.here hx rfl (hb hby at_301) rfl ?_
            exact k
          by_cases hc303_66 : y51 = (0 : Int32)
          · have pre67 : ∀ t, Steps p.tables e below (T64.setTop (mkF m 316 #[.val (.long q1), .second, .val (.long q2), .second, .val (.int p3), .val (.int p4), .val (.int p5), .val (.int p6), .val (.int y1), .val (.int y2), .val (.int y3), .val (.int y4), .val (.int (p5 &&& (3 : Int32))), .val (.int (own_hd p6)), .val (.int (0 : Int32)), .val (.int (y1 * (64 : Int32))), .val (.int y9), .val (.int y10), .val (.int y11), .val (.ref b12), .val (.ref b15), .val (.ref b19), .val (.int (own_hv (own_hd p6))), .val (.int y31), .val (.int y41), .val (.int y51), .val (.ref b52), .val (.int (1 : Int32)), .unset, .unset] [])) t → Steps p.tables e below (s₁.setTop (entryFrame m #[(.long q1), (.long q2), (.int p3), (.int p4), (.int p5), (.int p6)] maxLocals)) t := by
              intro t k
              refine pre65 t ?_
              show Steps p.tables e below (T64.setTop (mkF m 303 #[.val (.long q1), .second, .val (.long q2), .second, .val (.int p3), .val (.int p4), .val (.int p5), .val (.int p6), .val (.int y1), .val (.int y2), .val (.int y3), .val (.int y4), .val (.int (p5 &&& (3 : Int32))), .val (.int (own_hd p6)), .val (.int (0 : Int32)), .val (.int (y1 * (64 : Int32))), .val (.int y9), .val (.int y10), .val (.int y11), .val (.ref b12), .val (.ref b15), .val (.ref b19), .val (.int (own_hv (own_hd p6))), .val (.int y31), .val (.int y41), .val (.int y51), .val (.ref b52), .val (.int (1 : Int32)), .unset, .unset] [(.int y51)])) _
              refine XS.ifYes X64.here hx rfl (pc0 := 303) (pc' := 316) rfl (hb hby at_303) rfl ((if0 _ _).trans (teq hc303_66).1) (by decide) (by decide) ?_
              exact k
            have hs : (own_L y31 y41 y51 y9 y10 y11) = [y10] := by rw [own_L, own_c, own_c, own_c, if_pos hc273_56, if_neg hc288_58, if_pos hc303_66]; rfl
            refine ⟨_, _, _, X64, e64, N64, Z64, VW_v64, VV_v64, V19_v64, ⟨(fun i => if i = 0 then y10 else if i = 1 then (0 : Int32) else (0 : Int32)), V64_v64.congr (fun i hi => by match i, hi with | 0, _ => exact congrArg Value.int (own_nar hb1.1) | 1, _ => rfl | 2, _ => rfl), (by rw [hs]; intro i hi; have hj : i = 0 := by { simp only [List.length_cons, List.length_nil] at hi; omega }; rcases hj with rfl <;> rfl)⟩, fun t k => ?_⟩
            rw [show own_len (own_L y31 y41 y51 y9 y10 y11) = (1 : Int32) from by rw [hs]; rfl] at k
            exact pre67 t k
          · obtain ⟨cl68, Ar68, S68, H68⟩ := id V64_v64
            have hin68 : ¬ ((1 : Int32) < 0 ∨ cl68.slots.size ≤ ((1 : Int32)).toNatClampNeg) := inA S68 (by decide) (by decide)
            obtain ⟨T68, h68, X68, e68, W68, st68⟩ := stC X64 hx hZ e64 Ar68 (j := (1 : Int32)) hin68 (g := (mkF m 312 #[.val (.long q1), .second, .val (.long q2), .second, .val (.int p3), .val (.int p4), .val (.int p5), .val (.int p6), .val (.int y1), .val (.int y2), .val (.int y3), .val (.int y4), .val (.int (p5 &&& (3 : Int32))), .val (.int (own_hd p6)), .val (.int (0 : Int32)), .val (.int (y1 * (64 : Int32))), .val (.int y9), .val (.int y10), .val (.int y11), .val (.ref b12), .val (.ref b15), .val (.ref b19), .val (.int (own_hv (own_hd p6))), .val (.int y31), .val (.int y41), .val (.int y51), .val (.ref b52), .val (.int (1 : Int32)), .unset, .unset] [(.int y11), (.int (1 : Int32)), (.ref b52)])) rfl rfl (hb hby at_312)
            have VW_v68 := VW_v64.other W68 ne_b12_b52
            have VV_v68 := VV_v64.other W68 ne_b15_b52
            have V19_v68 := V19_v64.other W68 ne_b19_b52
            have Z68 : n0 ≤ h68.size := Nat.le_trans Z64 (Nat.le_of_eq W68.size.symm)
            have V68_v68 := ArF.set Ar68 S68 H68 W68 hin68
            have N68 := Fr.snoc X68 N64 g_b52
            have pre69 : ∀ t, Steps p.tables e below (T68.setTop (mkF m 316 #[.val (.long q1), .second, .val (.long q2), .second, .val (.int p3), .val (.int p4), .val (.int p5), .val (.int p6), .val (.int y1), .val (.int y2), .val (.int y3), .val (.int y4), .val (.int (p5 &&& (3 : Int32))), .val (.int (own_hd p6)), .val (.int (0 : Int32)), .val (.int (y1 * (64 : Int32))), .val (.int y9), .val (.int y10), .val (.int y11), .val (.ref b12), .val (.ref b15), .val (.ref b19), .val (.int (own_hv (own_hd p6))), .val (.int y31), .val (.int y41), .val (.int y51), .val (.ref b52), .val (.int (2 : Int32)), .unset, .unset] [])) t → Steps p.tables e below (s₁.setTop (entryFrame m #[(.long q1), (.long q2), (.int p3), (.int p4), (.int p5), (.int p6)] maxLocals)) t := by
              intro t k
              refine pre65 t ?_
              show Steps p.tables e below (T64.setTop (mkF m 303 #[.val (.long q1), .second, .val (.long q2), .second, .val (.int p3), .val (.int p4), .val (.int p5), .val (.int p6), .val (.int y1), .val (.int y2), .val (.int y3), .val (.int y4), .val (.int (p5 &&& (3 : Int32))), .val (.int (own_hd p6)), .val (.int (0 : Int32)), .val (.int (y1 * (64 : Int32))), .val (.int y9), .val (.int y10), .val (.int y11), .val (.ref b12), .val (.ref b15), .val (.ref b19), .val (.int (own_hv (own_hd p6))), .val (.int y31), .val (.int y41), .val (.int y51), .val (.ref b52), .val (.int (1 : Int32)), .unset, .unset] [(.int y51)])) _
              refine XS.ifNo X64.here hx rfl (hb hby at_303) rfl ((if0 _ _).trans (feq hc303_66).1) ?_
              show Steps p.tables e below (T64.setTop (mkF m 306 #[.val (.long q1), .second, .val (.long q2), .second, .val (.int p3), .val (.int p4), .val (.int p5), .val (.int p6), .val (.int y1), .val (.int y2), .val (.int y3), .val (.int y4), .val (.int (p5 &&& (3 : Int32))), .val (.int (own_hd p6)), .val (.int (0 : Int32)), .val (.int (y1 * (64 : Int32))), .val (.int y9), .val (.int y10), .val (.int y11), .val (.ref b12), .val (.ref b15), .val (.ref b19), .val (.int (own_hv (own_hd p6))), .val (.int y31), .val (.int y41), .val (.int y51), .val (.ref b52), .val (.int (1 : Int32)), .unset, .unset] [])) _
              refine XS.aload X64.here hx rfl (hb hby at_306) rfl rfl ?_
              refine XS.iload X64.here hx rfl (hb hby at_308) rfl ?_
              refine XS.iload X64.here hx rfl (hb hby at_310) rfl ?_
              show Steps p.tables e below (T64.setTop (mkF m 312 #[.val (.long q1), .second, .val (.long q2), .second, .val (.int p3), .val (.int p4), .val (.int p5), .val (.int p6), .val (.int y1), .val (.int y2), .val (.int y3), .val (.int y4), .val (.int (p5 &&& (3 : Int32))), .val (.int (own_hd p6)), .val (.int (0 : Int32)), .val (.int (y1 * (64 : Int32))), .val (.int y9), .val (.int y10), .val (.int y11), .val (.ref b12), .val (.ref b15), .val (.ref b19), .val (.int (own_hv (own_hd p6))), .val (.int y31), .val (.int y41), .val (.int y51), .val (.ref b52), .val (.int (1 : Int32)), .unset, .unset] [(.int y11), (.int (1 : Int32)), (.ref b52)])) _
              refine st68 _ ?_
              show Steps p.tables e below (T68.setTop (mkF m 313 #[.val (.long q1), .second, .val (.long q2), .second, .val (.int p3), .val (.int p4), .val (.int p5), .val (.int p6), .val (.int y1), .val (.int y2), .val (.int y3), .val (.int y4), .val (.int (p5 &&& (3 : Int32))), .val (.int (own_hd p6)), .val (.int (0 : Int32)), .val (.int (y1 * (64 : Int32))), .val (.int y9), .val (.int y10), .val (.int y11), .val (.ref b12), .val (.ref b15), .val (.ref b19), .val (.int (own_hv (own_hd p6))), .val (.int y31), .val (.int y41), .val (.int y51), .val (.ref b52), .val (.int (1 : Int32)), .unset, .unset] [])) _
              refine XS.iinc X68.here hx rfl (hb hby at_313) rfl (l' := #[.val (.long q1), .second, .val (.long q2), .second, .val (.int p3), .val (.int p4), .val (.int p5), .val (.int p6), .val (.int y1), .val (.int y2), .val (.int y3), .val (.int y4), .val (.int (p5 &&& (3 : Int32))), .val (.int (own_hd p6)), .val (.int (0 : Int32)), .val (.int (y1 * (64 : Int32))), .val (.int y9), .val (.int y10), .val (.int y11), .val (.ref b12), .val (.ref b15), .val (.ref b19), .val (.int (own_hv (own_hd p6))), .val (.int y31), .val (.int y41), .val (.int y51), .val (.ref b52), .val (.int (2 : Int32)), .unset, .unset]) rfl ?_
              exact k
            have hs : (own_L y31 y41 y51 y9 y10 y11) = [y10, y11] := by rw [own_L, own_c, own_c, own_c, if_pos hc273_56, if_neg hc288_58, if_neg hc303_66]; rfl
            refine ⟨_, _, _, X68, e68, N68, Z68, VW_v68, VV_v68, V19_v68, ⟨(fun i => if i = 0 then y10 else if i = 1 then y11 else (0 : Int32)), V68_v68.congr (fun i hi => by match i, hi with | 0, _ => exact congrArg Value.int (own_nar hb1.1) | 1, _ => exact congrArg Value.int (own_nar hb2.1) | 2, _ => rfl), (by rw [hs]; intro i hi; have hj : i = 0 ∨ i = 1 := by { simp only [List.length_cons, List.length_nil] at hi; omega }; rcases hj with rfl | rfl <;> rfl)⟩, fun t k => ?_⟩
            rw [show own_len (own_L y31 y41 y51 y9 y10 y11) = (2 : Int32) from by rw [hs]; rfl] at k
            exact pre69 t k
      · obtain ⟨cl70, Ar70, S70, H70⟩ := id V52_v52
        have hin70 : ¬ ((0 : Int32) < 0 ∨ cl70.slots.size ≤ ((0 : Int32)).toNatClampNeg) := inA S70 (by decide) (by decide)
        obtain ⟨T70, h70, X70, e70, W70, st70⟩ := stC X52 hx hZ e52 Ar70 (j := (0 : Int32)) hin70 (g := (mkF m 282 #[.val (.long q1), .second, .val (.long q2), .second, .val (.int p3), .val (.int p4), .val (.int p5), .val (.int p6), .val (.int y1), .val (.int y2), .val (.int y3), .val (.int y4), .val (.int (p5 &&& (3 : Int32))), .val (.int (own_hd p6)), .val (.int (0 : Int32)), .val (.int (y1 * (64 : Int32))), .val (.int y9), .val (.int y10), .val (.int y11), .val (.ref b12), .val (.ref b15), .val (.ref b19), .val (.int (own_hv (own_hd p6))), .val (.int y31), .val (.int y41), .val (.int y51), .val (.ref b52), .val (.int (0 : Int32)), .unset, .unset] [(.int y9), (.int (0 : Int32)), (.ref b52)])) rfl rfl (hb hby at_282)
        have VW_v70 := VW_v52.other W70 ne_b12_b52
        have VV_v70 := VV_v52.other W70 ne_b15_b52
        have V19_v70 := V19_v52.other W70 ne_b19_b52
        have Z70 : n0 ≤ h70.size := Nat.le_trans Z52 (Nat.le_of_eq W70.size.symm)
        have V70_v70 := ArF.set Ar70 S70 H70 W70 hin70
        have N70 := Fr.snoc X70 N43 g_b52
        have pre71 : ∀ t, Steps p.tables e below (T70.setTop (mkF m 288 #[.val (.long q1), .second, .val (.long q2), .second, .val (.int p3), .val (.int p4), .val (.int p5), .val (.int p6), .val (.int y1), .val (.int y2), .val (.int y3), .val (.int y4), .val (.int (p5 &&& (3 : Int32))), .val (.int (own_hd p6)), .val (.int (0 : Int32)), .val (.int (y1 * (64 : Int32))), .val (.int y9), .val (.int y10), .val (.int y11), .val (.ref b12), .val (.ref b15), .val (.ref b19), .val (.int (own_hv (own_hd p6))), .val (.int y31), .val (.int y41), .val (.int y51), .val (.ref b52), .val (.int (1 : Int32)), .unset, .unset] [(.int y41)])) t → Steps p.tables e below (s₁.setTop (entryFrame m #[(.long q1), (.long q2), (.int p3), (.int p4), (.int p5), (.int p6)] maxLocals)) t := by
          intro t k
          refine pre55 t ?_
          show Steps p.tables e below (T52.setTop (mkF m 273 #[.val (.long q1), .second, .val (.long q2), .second, .val (.int p3), .val (.int p4), .val (.int p5), .val (.int p6), .val (.int y1), .val (.int y2), .val (.int y3), .val (.int y4), .val (.int (p5 &&& (3 : Int32))), .val (.int (own_hd p6)), .val (.int (0 : Int32)), .val (.int (y1 * (64 : Int32))), .val (.int y9), .val (.int y10), .val (.int y11), .val (.ref b12), .val (.ref b15), .val (.ref b19), .val (.int (own_hv (own_hd p6))), .val (.int y31), .val (.int y41), .val (.int y51), .val (.ref b52), .val (.int (0 : Int32)), .unset, .unset] [(.int y31)])) _
          refine XS.ifNo X52.here hx rfl (hb hby at_273) rfl ((if0 _ _).trans (feq hc273_56).1) ?_
          show Steps p.tables e below (T52.setTop (mkF m 276 #[.val (.long q1), .second, .val (.long q2), .second, .val (.int p3), .val (.int p4), .val (.int p5), .val (.int p6), .val (.int y1), .val (.int y2), .val (.int y3), .val (.int y4), .val (.int (p5 &&& (3 : Int32))), .val (.int (own_hd p6)), .val (.int (0 : Int32)), .val (.int (y1 * (64 : Int32))), .val (.int y9), .val (.int y10), .val (.int y11), .val (.ref b12), .val (.ref b15), .val (.ref b19), .val (.int (own_hv (own_hd p6))), .val (.int y31), .val (.int y41), .val (.int y51), .val (.ref b52), .val (.int (0 : Int32)), .unset, .unset] [])) _
          refine XS.aload X52.here hx rfl (hb hby at_276) rfl rfl ?_
          refine XS.iload X52.here hx rfl (hb hby at_278) rfl ?_
          refine XS.iload X52.here hx rfl (hb hby at_280) rfl ?_
          show Steps p.tables e below (T52.setTop (mkF m 282 #[.val (.long q1), .second, .val (.long q2), .second, .val (.int p3), .val (.int p4), .val (.int p5), .val (.int p6), .val (.int y1), .val (.int y2), .val (.int y3), .val (.int y4), .val (.int (p5 &&& (3 : Int32))), .val (.int (own_hd p6)), .val (.int (0 : Int32)), .val (.int (y1 * (64 : Int32))), .val (.int y9), .val (.int y10), .val (.int y11), .val (.ref b12), .val (.ref b15), .val (.ref b19), .val (.int (own_hv (own_hd p6))), .val (.int y31), .val (.int y41), .val (.int y51), .val (.ref b52), .val (.int (0 : Int32)), .unset, .unset] [(.int y9), (.int (0 : Int32)), (.ref b52)])) _
          refine st70 _ ?_
          show Steps p.tables e below (T70.setTop (mkF m 283 #[.val (.long q1), .second, .val (.long q2), .second, .val (.int p3), .val (.int p4), .val (.int p5), .val (.int p6), .val (.int y1), .val (.int y2), .val (.int y3), .val (.int y4), .val (.int (p5 &&& (3 : Int32))), .val (.int (own_hd p6)), .val (.int (0 : Int32)), .val (.int (y1 * (64 : Int32))), .val (.int y9), .val (.int y10), .val (.int y11), .val (.ref b12), .val (.ref b15), .val (.ref b19), .val (.int (own_hv (own_hd p6))), .val (.int y31), .val (.int y41), .val (.int y51), .val (.ref b52), .val (.int (0 : Int32)), .unset, .unset] [])) _
          refine XS.iinc X70.here hx rfl (hb hby at_283) rfl (l' := #[.val (.long q1), .second, .val (.long q2), .second, .val (.int p3), .val (.int p4), .val (.int p5), .val (.int p6), .val (.int y1), .val (.int y2), .val (.int y3), .val (.int y4), .val (.int (p5 &&& (3 : Int32))), .val (.int (own_hd p6)), .val (.int (0 : Int32)), .val (.int (y1 * (64 : Int32))), .val (.int y9), .val (.int y10), .val (.int y11), .val (.ref b12), .val (.ref b15), .val (.ref b19), .val (.int (own_hv (own_hd p6))), .val (.int y31), .val (.int y41), .val (.int y51), .val (.ref b52), .val (.int (1 : Int32)), .unset, .unset]) rfl ?_
          show Steps p.tables e below (T70.setTop (mkF m 286 #[.val (.long q1), .second, .val (.long q2), .second, .val (.int p3), .val (.int p4), .val (.int p5), .val (.int p6), .val (.int y1), .val (.int y2), .val (.int y3), .val (.int y4), .val (.int (p5 &&& (3 : Int32))), .val (.int (own_hd p6)), .val (.int (0 : Int32)), .val (.int (y1 * (64 : Int32))), .val (.int y9), .val (.int y10), .val (.int y11), .val (.ref b12), .val (.ref b15), .val (.ref b19), .val (.int (own_hv (own_hd p6))), .val (.int y31), .val (.int y41), .val (.int y51), .val (.ref b52), .val (.int (1 : Int32)), .unset, .unset] [])) _
          refine XS.iload X70.here hx rfl (hb hby at_286) rfl ?_
          exact k
        by_cases hc288_72 : y41 = (0 : Int32)
        · have pre73 : ∀ t, Steps p.tables e below (T70.setTop (mkF m 303 #[.val (.long q1), .second, .val (.long q2), .second, .val (.int p3), .val (.int p4), .val (.int p5), .val (.int p6), .val (.int y1), .val (.int y2), .val (.int y3), .val (.int y4), .val (.int (p5 &&& (3 : Int32))), .val (.int (own_hd p6)), .val (.int (0 : Int32)), .val (.int (y1 * (64 : Int32))), .val (.int y9), .val (.int y10), .val (.int y11), .val (.ref b12), .val (.ref b15), .val (.ref b19), .val (.int (own_hv (own_hd p6))), .val (.int y31), .val (.int y41), .val (.int y51), .val (.ref b52), .val (.int (1 : Int32)), .unset, .unset] [(.int y51)])) t → Steps p.tables e below (s₁.setTop (entryFrame m #[(.long q1), (.long q2), (.int p3), (.int p4), (.int p5), (.int p6)] maxLocals)) t := by
            intro t k
            refine pre71 t ?_
            show Steps p.tables e below (T70.setTop (mkF m 288 #[.val (.long q1), .second, .val (.long q2), .second, .val (.int p3), .val (.int p4), .val (.int p5), .val (.int p6), .val (.int y1), .val (.int y2), .val (.int y3), .val (.int y4), .val (.int (p5 &&& (3 : Int32))), .val (.int (own_hd p6)), .val (.int (0 : Int32)), .val (.int (y1 * (64 : Int32))), .val (.int y9), .val (.int y10), .val (.int y11), .val (.ref b12), .val (.ref b15), .val (.ref b19), .val (.int (own_hv (own_hd p6))), .val (.int y31), .val (.int y41), .val (.int y51), .val (.ref b52), .val (.int (1 : Int32)), .unset, .unset] [(.int y41)])) _
            refine XS.ifYes X70.here hx rfl (pc0 := 288) (pc' := 301) rfl (hb hby at_288) rfl ((if0 _ _).trans (teq hc288_72).1) (by decide) (by decide) ?_
            show Steps p.tables e below (T70.setTop (mkF m 301 #[.val (.long q1), .second, .val (.long q2), .second, .val (.int p3), .val (.int p4), .val (.int p5), .val (.int p6), .val (.int y1), .val (.int y2), .val (.int y3), .val (.int y4), .val (.int (p5 &&& (3 : Int32))), .val (.int (own_hd p6)), .val (.int (0 : Int32)), .val (.int (y1 * (64 : Int32))), .val (.int y9), .val (.int y10), .val (.int y11), .val (.ref b12), .val (.ref b15), .val (.ref b19), .val (.int (own_hv (own_hd p6))), .val (.int y31), .val (.int y41), .val (.int y51), .val (.ref b52), .val (.int (1 : Int32)), .unset, .unset] [])) _
            refine XS.iload X70.here hx rfl (hb hby at_301) rfl ?_
            exact k
          by_cases hc303_74 : y51 = (0 : Int32)
          · have pre75 : ∀ t, Steps p.tables e below (T70.setTop (mkF m 316 #[.val (.long q1), .second, .val (.long q2), .second, .val (.int p3), .val (.int p4), .val (.int p5), .val (.int p6), .val (.int y1), .val (.int y2), .val (.int y3), .val (.int y4), .val (.int (p5 &&& (3 : Int32))), .val (.int (own_hd p6)), .val (.int (0 : Int32)), .val (.int (y1 * (64 : Int32))), .val (.int y9), .val (.int y10), .val (.int y11), .val (.ref b12), .val (.ref b15), .val (.ref b19), .val (.int (own_hv (own_hd p6))), .val (.int y31), .val (.int y41), .val (.int y51), .val (.ref b52), .val (.int (1 : Int32)), .unset, .unset] [])) t → Steps p.tables e below (s₁.setTop (entryFrame m #[(.long q1), (.long q2), (.int p3), (.int p4), (.int p5), (.int p6)] maxLocals)) t := by
              intro t k
              refine pre73 t ?_
              show Steps p.tables e below (T70.setTop (mkF m 303 #[.val (.long q1), .second, .val (.long q2), .second, .val (.int p3), .val (.int p4), .val (.int p5), .val (.int p6), .val (.int y1), .val (.int y2), .val (.int y3), .val (.int y4), .val (.int (p5 &&& (3 : Int32))), .val (.int (own_hd p6)), .val (.int (0 : Int32)), .val (.int (y1 * (64 : Int32))), .val (.int y9), .val (.int y10), .val (.int y11), .val (.ref b12), .val (.ref b15), .val (.ref b19), .val (.int (own_hv (own_hd p6))), .val (.int y31), .val (.int y41), .val (.int y51), .val (.ref b52), .val (.int (1 : Int32)), .unset, .unset] [(.int y51)])) _
              refine XS.ifYes X70.here hx rfl (pc0 := 303) (pc' := 316) rfl (hb hby at_303) rfl ((if0 _ _).trans (teq hc303_74).1) (by decide) (by decide) ?_
              exact k
            have hs : (own_L y31 y41 y51 y9 y10 y11) = [y9] := by rw [own_L, own_c, own_c, own_c, if_neg hc273_56, if_pos hc288_72, if_pos hc303_74]; rfl
            refine ⟨_, _, _, X70, e70, N70, Z70, VW_v70, VV_v70, V19_v70, ⟨(fun i => if i = 0 then y9 else if i = 1 then (0 : Int32) else (0 : Int32)), V70_v70.congr (fun i hi => by match i, hi with | 0, _ => exact congrArg Value.int (own_nar hb0.1) | 1, _ => rfl | 2, _ => rfl), (by rw [hs]; intro i hi; have hj : i = 0 := by { simp only [List.length_cons, List.length_nil] at hi; omega }; rcases hj with rfl <;> rfl)⟩, fun t k => ?_⟩
            rw [show own_len (own_L y31 y41 y51 y9 y10 y11) = (1 : Int32) from by rw [hs]; rfl] at k
            exact pre75 t k
          · obtain ⟨cl76, Ar76, S76, H76⟩ := id V70_v70
            have hin76 : ¬ ((1 : Int32) < 0 ∨ cl76.slots.size ≤ ((1 : Int32)).toNatClampNeg) := inA S76 (by decide) (by decide)
            obtain ⟨T76, h76, X76, e76, W76, st76⟩ := stC X70 hx hZ e70 Ar76 (j := (1 : Int32)) hin76 (g := (mkF m 312 #[.val (.long q1), .second, .val (.long q2), .second, .val (.int p3), .val (.int p4), .val (.int p5), .val (.int p6), .val (.int y1), .val (.int y2), .val (.int y3), .val (.int y4), .val (.int (p5 &&& (3 : Int32))), .val (.int (own_hd p6)), .val (.int (0 : Int32)), .val (.int (y1 * (64 : Int32))), .val (.int y9), .val (.int y10), .val (.int y11), .val (.ref b12), .val (.ref b15), .val (.ref b19), .val (.int (own_hv (own_hd p6))), .val (.int y31), .val (.int y41), .val (.int y51), .val (.ref b52), .val (.int (1 : Int32)), .unset, .unset] [(.int y11), (.int (1 : Int32)), (.ref b52)])) rfl rfl (hb hby at_312)
            have VW_v76 := VW_v70.other W76 ne_b12_b52
            have VV_v76 := VV_v70.other W76 ne_b15_b52
            have V19_v76 := V19_v70.other W76 ne_b19_b52
            have Z76 : n0 ≤ h76.size := Nat.le_trans Z70 (Nat.le_of_eq W76.size.symm)
            have V76_v76 := ArF.set Ar76 S76 H76 W76 hin76
            have N76 := Fr.snoc X76 N70 g_b52
            have pre77 : ∀ t, Steps p.tables e below (T76.setTop (mkF m 316 #[.val (.long q1), .second, .val (.long q2), .second, .val (.int p3), .val (.int p4), .val (.int p5), .val (.int p6), .val (.int y1), .val (.int y2), .val (.int y3), .val (.int y4), .val (.int (p5 &&& (3 : Int32))), .val (.int (own_hd p6)), .val (.int (0 : Int32)), .val (.int (y1 * (64 : Int32))), .val (.int y9), .val (.int y10), .val (.int y11), .val (.ref b12), .val (.ref b15), .val (.ref b19), .val (.int (own_hv (own_hd p6))), .val (.int y31), .val (.int y41), .val (.int y51), .val (.ref b52), .val (.int (2 : Int32)), .unset, .unset] [])) t → Steps p.tables e below (s₁.setTop (entryFrame m #[(.long q1), (.long q2), (.int p3), (.int p4), (.int p5), (.int p6)] maxLocals)) t := by
              intro t k
              refine pre73 t ?_
              show Steps p.tables e below (T70.setTop (mkF m 303 #[.val (.long q1), .second, .val (.long q2), .second, .val (.int p3), .val (.int p4), .val (.int p5), .val (.int p6), .val (.int y1), .val (.int y2), .val (.int y3), .val (.int y4), .val (.int (p5 &&& (3 : Int32))), .val (.int (own_hd p6)), .val (.int (0 : Int32)), .val (.int (y1 * (64 : Int32))), .val (.int y9), .val (.int y10), .val (.int y11), .val (.ref b12), .val (.ref b15), .val (.ref b19), .val (.int (own_hv (own_hd p6))), .val (.int y31), .val (.int y41), .val (.int y51), .val (.ref b52), .val (.int (1 : Int32)), .unset, .unset] [(.int y51)])) _
              refine XS.ifNo X70.here hx rfl (hb hby at_303) rfl ((if0 _ _).trans (feq hc303_74).1) ?_
              show Steps p.tables e below (T70.setTop (mkF m 306 #[.val (.long q1), .second, .val (.long q2), .second, .val (.int p3), .val (.int p4), .val (.int p5), .val (.int p6), .val (.int y1), .val (.int y2), .val (.int y3), .val (.int y4), .val (.int (p5 &&& (3 : Int32))), .val (.int (own_hd p6)), .val (.int (0 : Int32)), .val (.int (y1 * (64 : Int32))), .val (.int y9), .val (.int y10), .val (.int y11), .val (.ref b12), .val (.ref b15), .val (.ref b19), .val (.int (own_hv (own_hd p6))), .val (.int y31), .val (.int y41), .val (.int y51), .val (.ref b52), .val (.int (1 : Int32)), .unset, .unset] [])) _
              refine XS.aload X70.here hx rfl (hb hby at_306) rfl rfl ?_
              refine XS.iload X70.here hx rfl (hb hby at_308) rfl ?_
              refine XS.iload X70.here hx rfl (hb hby at_310) rfl ?_
              show Steps p.tables e below (T70.setTop (mkF m 312 #[.val (.long q1), .second, .val (.long q2), .second, .val (.int p3), .val (.int p4), .val (.int p5), .val (.int p6), .val (.int y1), .val (.int y2), .val (.int y3), .val (.int y4), .val (.int (p5 &&& (3 : Int32))), .val (.int (own_hd p6)), .val (.int (0 : Int32)), .val (.int (y1 * (64 : Int32))), .val (.int y9), .val (.int y10), .val (.int y11), .val (.ref b12), .val (.ref b15), .val (.ref b19), .val (.int (own_hv (own_hd p6))), .val (.int y31), .val (.int y41), .val (.int y51), .val (.ref b52), .val (.int (1 : Int32)), .unset, .unset] [(.int y11), (.int (1 : Int32)), (.ref b52)])) _
              refine st76 _ ?_
              show Steps p.tables e below (T76.setTop (mkF m 313 #[.val (.long q1), .second, .val (.long q2), .second, .val (.int p3), .val (.int p4), .val (.int p5), .val (.int p6), .val (.int y1), .val (.int y2), .val (.int y3), .val (.int y4), .val (.int (p5 &&& (3 : Int32))), .val (.int (own_hd p6)), .val (.int (0 : Int32)), .val (.int (y1 * (64 : Int32))), .val (.int y9), .val (.int y10), .val (.int y11), .val (.ref b12), .val (.ref b15), .val (.ref b19), .val (.int (own_hv (own_hd p6))), .val (.int y31), .val (.int y41), .val (.int y51), .val (.ref b52), .val (.int (1 : Int32)), .unset, .unset] [])) _
              refine XS.iinc X76.here hx rfl (hb hby at_313) rfl (l' := #[.val (.long q1), .second, .val (.long q2), .second, .val (.int p3), .val (.int p4), .val (.int p5), .val (.int p6), .val (.int y1), .val (.int y2), .val (.int y3), .val (.int y4), .val (.int (p5 &&& (3 : Int32))), .val (.int (own_hd p6)), .val (.int (0 : Int32)), .val (.int (y1 * (64 : Int32))), .val (.int y9), .val (.int y10), .val (.int y11), .val (.ref b12), .val (.ref b15), .val (.ref b19), .val (.int (own_hv (own_hd p6))), .val (.int y31), .val (.int y41), .val (.int y51), .val (.ref b52), .val (.int (2 : Int32)), .unset, .unset]) rfl ?_
              exact k
            have hs : (own_L y31 y41 y51 y9 y10 y11) = [y9, y11] := by rw [own_L, own_c, own_c, own_c, if_neg hc273_56, if_pos hc288_72, if_neg hc303_74]; rfl
            refine ⟨_, _, _, X76, e76, N76, Z76, VW_v76, VV_v76, V19_v76, ⟨(fun i => if i = 0 then y9 else if i = 1 then y11 else (0 : Int32)), V76_v76.congr (fun i hi => by match i, hi with | 0, _ => exact congrArg Value.int (own_nar hb0.1) | 1, _ => exact congrArg Value.int (own_nar hb2.1) | 2, _ => rfl), (by rw [hs]; intro i hi; have hj : i = 0 ∨ i = 1 := by { simp only [List.length_cons, List.length_nil] at hi; omega }; rcases hj with rfl | rfl <;> rfl)⟩, fun t k => ?_⟩
            rw [show own_len (own_L y31 y41 y51 y9 y10 y11) = (2 : Int32) from by rw [hs]; rfl] at k
            exact pre77 t k
        · obtain ⟨cl78, Ar78, S78, H78⟩ := id V70_v70
          have hin78 : ¬ ((1 : Int32) < 0 ∨ cl78.slots.size ≤ ((1 : Int32)).toNatClampNeg) := inA S78 (by decide) (by decide)
          obtain ⟨T78, h78, X78, e78, W78, st78⟩ := stC X70 hx hZ e70 Ar78 (j := (1 : Int32)) hin78 (g := (mkF m 297 #[.val (.long q1), .second, .val (.long q2), .second, .val (.int p3), .val (.int p4), .val (.int p5), .val (.int p6), .val (.int y1), .val (.int y2), .val (.int y3), .val (.int y4), .val (.int (p5 &&& (3 : Int32))), .val (.int (own_hd p6)), .val (.int (0 : Int32)), .val (.int (y1 * (64 : Int32))), .val (.int y9), .val (.int y10), .val (.int y11), .val (.ref b12), .val (.ref b15), .val (.ref b19), .val (.int (own_hv (own_hd p6))), .val (.int y31), .val (.int y41), .val (.int y51), .val (.ref b52), .val (.int (1 : Int32)), .unset, .unset] [(.int y10), (.int (1 : Int32)), (.ref b52)])) rfl rfl (hb hby at_297)
          have VW_v78 := VW_v70.other W78 ne_b12_b52
          have VV_v78 := VV_v70.other W78 ne_b15_b52
          have V19_v78 := V19_v70.other W78 ne_b19_b52
          have Z78 : n0 ≤ h78.size := Nat.le_trans Z70 (Nat.le_of_eq W78.size.symm)
          have V78_v78 := ArF.set Ar78 S78 H78 W78 hin78
          have N78 := Fr.snoc X78 N70 g_b52
          have pre79 : ∀ t, Steps p.tables e below (T78.setTop (mkF m 303 #[.val (.long q1), .second, .val (.long q2), .second, .val (.int p3), .val (.int p4), .val (.int p5), .val (.int p6), .val (.int y1), .val (.int y2), .val (.int y3), .val (.int y4), .val (.int (p5 &&& (3 : Int32))), .val (.int (own_hd p6)), .val (.int (0 : Int32)), .val (.int (y1 * (64 : Int32))), .val (.int y9), .val (.int y10), .val (.int y11), .val (.ref b12), .val (.ref b15), .val (.ref b19), .val (.int (own_hv (own_hd p6))), .val (.int y31), .val (.int y41), .val (.int y51), .val (.ref b52), .val (.int (2 : Int32)), .unset, .unset] [(.int y51)])) t → Steps p.tables e below (s₁.setTop (entryFrame m #[(.long q1), (.long q2), (.int p3), (.int p4), (.int p5), (.int p6)] maxLocals)) t := by
            intro t k
            refine pre71 t ?_
            show Steps p.tables e below (T70.setTop (mkF m 288 #[.val (.long q1), .second, .val (.long q2), .second, .val (.int p3), .val (.int p4), .val (.int p5), .val (.int p6), .val (.int y1), .val (.int y2), .val (.int y3), .val (.int y4), .val (.int (p5 &&& (3 : Int32))), .val (.int (own_hd p6)), .val (.int (0 : Int32)), .val (.int (y1 * (64 : Int32))), .val (.int y9), .val (.int y10), .val (.int y11), .val (.ref b12), .val (.ref b15), .val (.ref b19), .val (.int (own_hv (own_hd p6))), .val (.int y31), .val (.int y41), .val (.int y51), .val (.ref b52), .val (.int (1 : Int32)), .unset, .unset] [(.int y41)])) _
            refine XS.ifNo X70.here hx rfl (hb hby at_288) rfl ((if0 _ _).trans (feq hc288_72).1) ?_
            show Steps p.tables e below (T70.setTop (mkF m 291 #[.val (.long q1), .second, .val (.long q2), .second, .val (.int p3), .val (.int p4), .val (.int p5), .val (.int p6), .val (.int y1), .val (.int y2), .val (.int y3), .val (.int y4), .val (.int (p5 &&& (3 : Int32))), .val (.int (own_hd p6)), .val (.int (0 : Int32)), .val (.int (y1 * (64 : Int32))), .val (.int y9), .val (.int y10), .val (.int y11), .val (.ref b12), .val (.ref b15), .val (.ref b19), .val (.int (own_hv (own_hd p6))), .val (.int y31), .val (.int y41), .val (.int y51), .val (.ref b52), .val (.int (1 : Int32)), .unset, .unset] [])) _
            refine XS.aload X70.here hx rfl (hb hby at_291) rfl rfl ?_
            refine XS.iload X70.here hx rfl (hb hby at_293) rfl ?_
            refine XS.iload X70.here hx rfl (hb hby at_295) rfl ?_
            show Steps p.tables e below (T70.setTop (mkF m 297 #[.val (.long q1), .second, .val (.long q2), .second, .val (.int p3), .val (.int p4), .val (.int p5), .val (.int p6), .val (.int y1), .val (.int y2), .val (.int y3), .val (.int y4), .val (.int (p5 &&& (3 : Int32))), .val (.int (own_hd p6)), .val (.int (0 : Int32)), .val (.int (y1 * (64 : Int32))), .val (.int y9), .val (.int y10), .val (.int y11), .val (.ref b12), .val (.ref b15), .val (.ref b19), .val (.int (own_hv (own_hd p6))), .val (.int y31), .val (.int y41), .val (.int y51), .val (.ref b52), .val (.int (1 : Int32)), .unset, .unset] [(.int y10), (.int (1 : Int32)), (.ref b52)])) _
            refine st78 _ ?_
            show Steps p.tables e below (T78.setTop (mkF m 298 #[.val (.long q1), .second, .val (.long q2), .second, .val (.int p3), .val (.int p4), .val (.int p5), .val (.int p6), .val (.int y1), .val (.int y2), .val (.int y3), .val (.int y4), .val (.int (p5 &&& (3 : Int32))), .val (.int (own_hd p6)), .val (.int (0 : Int32)), .val (.int (y1 * (64 : Int32))), .val (.int y9), .val (.int y10), .val (.int y11), .val (.ref b12), .val (.ref b15), .val (.ref b19), .val (.int (own_hv (own_hd p6))), .val (.int y31), .val (.int y41), .val (.int y51), .val (.ref b52), .val (.int (1 : Int32)), .unset, .unset] [])) _
            refine XS.iinc X78.here hx rfl (hb hby at_298) rfl (l' := #[.val (.long q1), .second, .val (.long q2), .second, .val (.int p3), .val (.int p4), .val (.int p5), .val (.int p6), .val (.int y1), .val (.int y2), .val (.int y3), .val (.int y4), .val (.int (p5 &&& (3 : Int32))), .val (.int (own_hd p6)), .val (.int (0 : Int32)), .val (.int (y1 * (64 : Int32))), .val (.int y9), .val (.int y10), .val (.int y11), .val (.ref b12), .val (.ref b15), .val (.ref b19), .val (.int (own_hv (own_hd p6))), .val (.int y31), .val (.int y41), .val (.int y51), .val (.ref b52), .val (.int (2 : Int32)), .unset, .unset]) rfl ?_
            show Steps p.tables e below (T78.setTop (mkF m 301 #[.val (.long q1), .second, .val (.long q2), .second, .val (.int p3), .val (.int p4), .val (.int p5), .val (.int p6), .val (.int y1), .val (.int y2), .val (.int y3), .val (.int y4), .val (.int (p5 &&& (3 : Int32))), .val (.int (own_hd p6)), .val (.int (0 : Int32)), .val (.int (y1 * (64 : Int32))), .val (.int y9), .val (.int y10), .val (.int y11), .val (.ref b12), .val (.ref b15), .val (.ref b19), .val (.int (own_hv (own_hd p6))), .val (.int y31), .val (.int y41), .val (.int y51), .val (.ref b52), .val (.int (2 : Int32)), .unset, .unset] [])) _
            refine XS.iload X78.here hx rfl (hb hby at_301) rfl ?_
            exact k
          by_cases hc303_80 : y51 = (0 : Int32)
          · have pre81 : ∀ t, Steps p.tables e below (T78.setTop (mkF m 316 #[.val (.long q1), .second, .val (.long q2), .second, .val (.int p3), .val (.int p4), .val (.int p5), .val (.int p6), .val (.int y1), .val (.int y2), .val (.int y3), .val (.int y4), .val (.int (p5 &&& (3 : Int32))), .val (.int (own_hd p6)), .val (.int (0 : Int32)), .val (.int (y1 * (64 : Int32))), .val (.int y9), .val (.int y10), .val (.int y11), .val (.ref b12), .val (.ref b15), .val (.ref b19), .val (.int (own_hv (own_hd p6))), .val (.int y31), .val (.int y41), .val (.int y51), .val (.ref b52), .val (.int (2 : Int32)), .unset, .unset] [])) t → Steps p.tables e below (s₁.setTop (entryFrame m #[(.long q1), (.long q2), (.int p3), (.int p4), (.int p5), (.int p6)] maxLocals)) t := by
              intro t k
              refine pre79 t ?_
              show Steps p.tables e below (T78.setTop (mkF m 303 #[.val (.long q1), .second, .val (.long q2), .second, .val (.int p3), .val (.int p4), .val (.int p5), .val (.int p6), .val (.int y1), .val (.int y2), .val (.int y3), .val (.int y4), .val (.int (p5 &&& (3 : Int32))), .val (.int (own_hd p6)), .val (.int (0 : Int32)), .val (.int (y1 * (64 : Int32))), .val (.int y9), .val (.int y10), .val (.int y11), .val (.ref b12), .val (.ref b15), .val (.ref b19), .val (.int (own_hv (own_hd p6))), .val (.int y31), .val (.int y41), .val (.int y51), .val (.ref b52), .val (.int (2 : Int32)), .unset, .unset] [(.int y51)])) _
              refine XS.ifYes X78.here hx rfl (pc0 := 303) (pc' := 316) rfl (hb hby at_303) rfl ((if0 _ _).trans (teq hc303_80).1) (by decide) (by decide) ?_
              exact k
            have hs : (own_L y31 y41 y51 y9 y10 y11) = [y9, y10] := by rw [own_L, own_c, own_c, own_c, if_neg hc273_56, if_neg hc288_72, if_pos hc303_80]; rfl
            refine ⟨_, _, _, X78, e78, N78, Z78, VW_v78, VV_v78, V19_v78, ⟨(fun i => if i = 0 then y9 else if i = 1 then y10 else (0 : Int32)), V78_v78.congr (fun i hi => by match i, hi with | 0, _ => exact congrArg Value.int (own_nar hb0.1) | 1, _ => exact congrArg Value.int (own_nar hb1.1) | 2, _ => rfl), (by rw [hs]; intro i hi; have hj : i = 0 ∨ i = 1 := by { simp only [List.length_cons, List.length_nil] at hi; omega }; rcases hj with rfl | rfl <;> rfl)⟩, fun t k => ?_⟩
            rw [show own_len (own_L y31 y41 y51 y9 y10 y11) = (2 : Int32) from by rw [hs]; rfl] at k
            exact pre81 t k
          · obtain ⟨cl82, Ar82, S82, H82⟩ := id V78_v78
            have hin82 : ¬ ((2 : Int32) < 0 ∨ cl82.slots.size ≤ ((2 : Int32)).toNatClampNeg) := inA S82 (by decide) (by decide)
            obtain ⟨T82, h82, X82, e82, W82, st82⟩ := stC X78 hx hZ e78 Ar82 (j := (2 : Int32)) hin82 (g := (mkF m 312 #[.val (.long q1), .second, .val (.long q2), .second, .val (.int p3), .val (.int p4), .val (.int p5), .val (.int p6), .val (.int y1), .val (.int y2), .val (.int y3), .val (.int y4), .val (.int (p5 &&& (3 : Int32))), .val (.int (own_hd p6)), .val (.int (0 : Int32)), .val (.int (y1 * (64 : Int32))), .val (.int y9), .val (.int y10), .val (.int y11), .val (.ref b12), .val (.ref b15), .val (.ref b19), .val (.int (own_hv (own_hd p6))), .val (.int y31), .val (.int y41), .val (.int y51), .val (.ref b52), .val (.int (2 : Int32)), .unset, .unset] [(.int y11), (.int (2 : Int32)), (.ref b52)])) rfl rfl (hb hby at_312)
            have VW_v82 := VW_v78.other W82 ne_b12_b52
            have VV_v82 := VV_v78.other W82 ne_b15_b52
            have V19_v82 := V19_v78.other W82 ne_b19_b52
            have Z82 : n0 ≤ h82.size := Nat.le_trans Z78 (Nat.le_of_eq W82.size.symm)
            have V82_v82 := ArF.set Ar82 S82 H82 W82 hin82
            have N82 := Fr.snoc X82 N78 g_b52
            have pre83 : ∀ t, Steps p.tables e below (T82.setTop (mkF m 316 #[.val (.long q1), .second, .val (.long q2), .second, .val (.int p3), .val (.int p4), .val (.int p5), .val (.int p6), .val (.int y1), .val (.int y2), .val (.int y3), .val (.int y4), .val (.int (p5 &&& (3 : Int32))), .val (.int (own_hd p6)), .val (.int (0 : Int32)), .val (.int (y1 * (64 : Int32))), .val (.int y9), .val (.int y10), .val (.int y11), .val (.ref b12), .val (.ref b15), .val (.ref b19), .val (.int (own_hv (own_hd p6))), .val (.int y31), .val (.int y41), .val (.int y51), .val (.ref b52), .val (.int (3 : Int32)), .unset, .unset] [])) t → Steps p.tables e below (s₁.setTop (entryFrame m #[(.long q1), (.long q2), (.int p3), (.int p4), (.int p5), (.int p6)] maxLocals)) t := by
              intro t k
              refine pre79 t ?_
              show Steps p.tables e below (T78.setTop (mkF m 303 #[.val (.long q1), .second, .val (.long q2), .second, .val (.int p3), .val (.int p4), .val (.int p5), .val (.int p6), .val (.int y1), .val (.int y2), .val (.int y3), .val (.int y4), .val (.int (p5 &&& (3 : Int32))), .val (.int (own_hd p6)), .val (.int (0 : Int32)), .val (.int (y1 * (64 : Int32))), .val (.int y9), .val (.int y10), .val (.int y11), .val (.ref b12), .val (.ref b15), .val (.ref b19), .val (.int (own_hv (own_hd p6))), .val (.int y31), .val (.int y41), .val (.int y51), .val (.ref b52), .val (.int (2 : Int32)), .unset, .unset] [(.int y51)])) _
              refine XS.ifNo X78.here hx rfl (hb hby at_303) rfl ((if0 _ _).trans (feq hc303_80).1) ?_
              show Steps p.tables e below (T78.setTop (mkF m 306 #[.val (.long q1), .second, .val (.long q2), .second, .val (.int p3), .val (.int p4), .val (.int p5), .val (.int p6), .val (.int y1), .val (.int y2), .val (.int y3), .val (.int y4), .val (.int (p5 &&& (3 : Int32))), .val (.int (own_hd p6)), .val (.int (0 : Int32)), .val (.int (y1 * (64 : Int32))), .val (.int y9), .val (.int y10), .val (.int y11), .val (.ref b12), .val (.ref b15), .val (.ref b19), .val (.int (own_hv (own_hd p6))), .val (.int y31), .val (.int y41), .val (.int y51), .val (.ref b52), .val (.int (2 : Int32)), .unset, .unset] [])) _
              refine XS.aload X78.here hx rfl (hb hby at_306) rfl rfl ?_
              refine XS.iload X78.here hx rfl (hb hby at_308) rfl ?_
              refine XS.iload X78.here hx rfl (hb hby at_310) rfl ?_
              show Steps p.tables e below (T78.setTop (mkF m 312 #[.val (.long q1), .second, .val (.long q2), .second, .val (.int p3), .val (.int p4), .val (.int p5), .val (.int p6), .val (.int y1), .val (.int y2), .val (.int y3), .val (.int y4), .val (.int (p5 &&& (3 : Int32))), .val (.int (own_hd p6)), .val (.int (0 : Int32)), .val (.int (y1 * (64 : Int32))), .val (.int y9), .val (.int y10), .val (.int y11), .val (.ref b12), .val (.ref b15), .val (.ref b19), .val (.int (own_hv (own_hd p6))), .val (.int y31), .val (.int y41), .val (.int y51), .val (.ref b52), .val (.int (2 : Int32)), .unset, .unset] [(.int y11), (.int (2 : Int32)), (.ref b52)])) _
              refine st82 _ ?_
              show Steps p.tables e below (T82.setTop (mkF m 313 #[.val (.long q1), .second, .val (.long q2), .second, .val (.int p3), .val (.int p4), .val (.int p5), .val (.int p6), .val (.int y1), .val (.int y2), .val (.int y3), .val (.int y4), .val (.int (p5 &&& (3 : Int32))), .val (.int (own_hd p6)), .val (.int (0 : Int32)), .val (.int (y1 * (64 : Int32))), .val (.int y9), .val (.int y10), .val (.int y11), .val (.ref b12), .val (.ref b15), .val (.ref b19), .val (.int (own_hv (own_hd p6))), .val (.int y31), .val (.int y41), .val (.int y51), .val (.ref b52), .val (.int (2 : Int32)), .unset, .unset] [])) _
              refine XS.iinc X82.here hx rfl (hb hby at_313) rfl (l' := #[.val (.long q1), .second, .val (.long q2), .second, .val (.int p3), .val (.int p4), .val (.int p5), .val (.int p6), .val (.int y1), .val (.int y2), .val (.int y3), .val (.int y4), .val (.int (p5 &&& (3 : Int32))), .val (.int (own_hd p6)), .val (.int (0 : Int32)), .val (.int (y1 * (64 : Int32))), .val (.int y9), .val (.int y10), .val (.int y11), .val (.ref b12), .val (.ref b15), .val (.ref b19), .val (.int (own_hv (own_hd p6))), .val (.int y31), .val (.int y41), .val (.int y51), .val (.ref b52), .val (.int (3 : Int32)), .unset, .unset]) rfl ?_
              exact k
            have hs : (own_L y31 y41 y51 y9 y10 y11) = [y9, y10, y11] := by rw [own_L, own_c, own_c, own_c, if_neg hc273_56, if_neg hc288_72, if_neg hc303_80]; rfl
            refine ⟨_, _, _, X82, e82, N82, Z82, VW_v82, VV_v82, V19_v82, ⟨(fun i => if i = 0 then y9 else if i = 1 then y10 else y11), V82_v82.congr (fun i hi => by match i, hi with | 0, _ => exact congrArg Value.int (own_nar hb0.1) | 1, _ => exact congrArg Value.int (own_nar hb1.1) | 2, _ => exact congrArg Value.int (own_nar hb2.1)), (by rw [hs]; intro i hi; have hj : i = 0 ∨ i = 1 ∨ i = 2 := by { simp only [List.length_cons, List.length_nil] at hi; omega }; rcases hj with rfl | rfl | rfl <;> rfl)⟩, fun t k => ?_⟩
            rw [show own_len (own_L y31 y41 y51 y9 y10 y11) = (3 : Int32) from by rw [hs]; rfl] at k
            exact pre83 t k
    obtain ⟨E, VE_v0, fE⟩ := mf54_3_v54
    have hsel : own_sel (p5 &&& (3 : Int32)) (fun i => own_x (own_g q1 q2) y1 (own_nf (own_hd p6)) ((own_f3 y9 y10 y11) i)) (own_f3 y9 y10 y11) = (own_L y31 y41 y51 y9 y10 y11) := own_selL hy31 hy41 hy51 hq0 hq1 hq2 hfw.1 hfw.2 ho0.1 (Int.le_trans ho0.2 (by decide)) (Int.le_of_lt (Int.lt_of_le_of_lt ho0.1 ho1.1)) (Int.le_trans ho1.2 (by decide)) (Int.le_of_lt (Int.lt_of_le_of_lt ho0.1 (Int.lt_trans ho1.1 ho2.1))) ho2.2 (own_hd01 _)
    obtain ⟨_, _, ⟨T84, L84, k84, n84⟩, -, X84, ⟨Lc84, hQ84, l84, y84, z84⟩, st84⟩ := Jvm.LawKit.callS X54 hx (y := (⟨"com/example/bitstrata/bitstrata/BitsetChunk", "filter", "([JI[CIZ[C)I"⟩ : MethodName)) hown (mvT hZ (hw _ (List.mem_of_getElem? (i := 4) rfl))) (mvT hZ (hw _ (List.mem_of_getElem? (i := 5) rfl))) (mvT hZ (hw _ (List.mem_of_getElem? (i := 6) rfl))) (mvT hZ (hw _ (List.mem_of_getElem? (i := 7) rfl))) (by decide) (backOf (W := 0) (rm1b l Z a0 hw [] b12 y1 b15 (p5 &&& (3 : Int32)) (own_hd p6) b19 (own_f3 y9 y10 y11) (own_g q1 q2) (fun _ => (0 : Int32)) h54 n0 Z54 mf54_0_v54 mf54_1_v54 mf54_2_v54 hin ne_b12_b19 ne_b15_b19 g_b19 hcn) hZ (hw _ (List.mem_of_getElem? (i := 7) rfl)) (hw _ (List.mem_of_getElem? (i := 6) rfl)) (by decide) (by decide)) (g := (mkF m 328 #[.val (.long q1), .second, .val (.long q2), .second, .val (.int p3), .val (.int p4), .val (.int p5), .val (.int p6), .val (.int y1), .val (.int y2), .val (.int y3), .val (.int y4), .val (.int (p5 &&& (3 : Int32))), .val (.int (own_hd p6)), .val (.int (0 : Int32)), .val (.int (y1 * (64 : Int32))), .val (.int y9), .val (.int y10), .val (.int y11), .val (.ref b12), .val (.ref b15), .val (.ref b19), .val (.int (own_hv (own_hd p6))), .val (.int y31), .val (.int y41), .val (.int y51), .val (.ref b52), .val (.int (own_len (own_L y31 y41 y51 y9 y10 y11))), .unset, .unset] [(.ref b19), (.int (own_hd p6)), (.int (p5 &&& (3 : Int32))), (.ref b15), (.int y1), (.ref b12)])) rfl (by rw [hml]; rfl) (argsL := [(.ref b12), (.int y1), (.ref b15), (.int (p5 &&& (3 : Int32))), (.int (own_hd p6)), (.ref b19)]) (rest := []) (lenOf pd_1 rfl) rfl (by show 2 * 0 + _ ≤ _; exact Nat.le_of_eq rfl) (hb hby at_328) (fun _ _ => ⟨rfl, e54, (by decide : 4 + 0 ≤ _), (by decide : 11 + 0 ≤ _)⟩)
    dsimp only [Pt.U, Pt.locs, Pt.cells, Pt.slots] at X84 l84 y84 z84 st84 hQ84
    subst l84 y84 z84
    obtain ⟨F, rfl, N84q, Kc84, nf84_v84, fF⟩ := hQ84
    have N84 := Fr.app N54 N84q
    have mf54_0_v84 := mf54_0_v54.keep Kc84 (ninS ne_b12_b19 nin0)
    have mf54_1_v84 := mf54_1_v54.keep Kc84 (ninS ne_b15_b19 nin0)
    have VE_v84 := VE_v0.keep Kc84 (ninS (Ne.symm ne_b19_b52) nin0)
    have Z84 : n0 ≤ T84.heap.size := Nat.le_trans Z54 Kc84.1
    obtain ⟨y85, hy85⟩ : ∃ z : Int32, z = (own_len (own_sel (p5 &&& (3 : Int32)) (fun i => own_x (own_g q1 q2) y1 (own_nf (own_hd p6)) ((own_f3 y9 y10 y11) i)) (own_f3 y9 y10 y11))) := ⟨_, rfl⟩
    obtain ⟨cl86, Ar86, S86, H86⟩ := id mf54_0_v84
    have hin86 : ¬ ((0 : Int32) < 0 ∨ cl86.slots.size ≤ ((0 : Int32)).toNatClampNeg) := inA S86 (by decide) (by decide)
    have hat86 : cl86.slots[((0 : Int32)).toNatClampNeg]? = some (.long q1) := ArF.at S86 H86 hin86 rfl
    obtain ⟨cl87, Ar87, S87, H87⟩ := id mf54_0_v84
    have hin87 : ¬ ((1 : Int32) < 0 ∨ cl87.slots.size ≤ ((1 : Int32)).toNatClampNeg) := inA S87 (by decide) (by decide)
    have hat87 : cl87.slots[((1 : Int32)).toNatClampNeg]? = some (.long q2) := ArF.at S87 H87 hin87 rfl
    have pre88 : ∀ t, Steps p.tables e below (T84.setTop (mkF m 367 #[.val (.long q1), .second, .val (.long q2), .second, .val (.int p3), .val (.int p4), .val (.int p5), .val (.int p6), .val (.int y1), .val (.int y2), .val (.int y3), .val (.int y4), .val (.int (p5 &&& (3 : Int32))), .val (.int (own_hd p6)), .val (.int (0 : Int32)), .val (.int (y1 * (64 : Int32))), .val (.int y9), .val (.int y10), .val (.int y11), .val (.ref b12), .val (.ref b15), .val (.ref b19), .val (.int (own_hv (own_hd p6))), .val (.int y31), .val (.int y41), .val (.int y51), .val (.ref b52), .val (.int (own_len (own_L y31 y41 y51 y9 y10 y11))), .val (.int y85), .val (.int (1 : Int32))] [(.int (own_len (own_L y31 y41 y51 y9 y10 y11)))])) t → Steps p.tables e below (s₁.setTop (entryFrame m #[(.long q1), (.long q2), (.int p3), (.int p4), (.int p5), (.int p6)] maxLocals)) t := by
      intro t k
      refine pre54 t ?_
      show Steps p.tables e below (T54.setTop (mkF m 316 #[.val (.long q1), .second, .val (.long q2), .second, .val (.int p3), .val (.int p4), .val (.int p5), .val (.int p6), .val (.int y1), .val (.int y2), .val (.int y3), .val (.int y4), .val (.int (p5 &&& (3 : Int32))), .val (.int (own_hd p6)), .val (.int (0 : Int32)), .val (.int (y1 * (64 : Int32))), .val (.int y9), .val (.int y10), .val (.int y11), .val (.ref b12), .val (.ref b15), .val (.ref b19), .val (.int (own_hv (own_hd p6))), .val (.int y31), .val (.int y41), .val (.int y51), .val (.ref b52), .val (.int (own_len (own_L y31 y41 y51 y9 y10 y11))), .unset, .unset] [])) _
      refine XS.aload X54.here hx rfl (hb hby at_316) rfl rfl ?_
      refine XS.iload X54.here hx rfl (hb hby at_318) rfl ?_
      refine XS.aload X54.here hx rfl (hb hby at_320) rfl rfl ?_
      show Steps p.tables e below (T54.setTop (mkF m 322 #[.val (.long q1), .second, .val (.long q2), .second, .val (.int p3), .val (.int p4), .val (.int p5), .val (.int p6), .val (.int y1), .val (.int y2), .val (.int y3), .val (.int y4), .val (.int (p5 &&& (3 : Int32))), .val (.int (own_hd p6)), .val (.int (0 : Int32)), .val (.int (y1 * (64 : Int32))), .val (.int y9), .val (.int y10), .val (.int y11), .val (.ref b12), .val (.ref b15), .val (.ref b19), .val (.int (own_hv (own_hd p6))), .val (.int y31), .val (.int y41), .val (.int y51), .val (.ref b52), .val (.int (own_len (own_L y31 y41 y51 y9 y10 y11))), .unset, .unset] [(.ref b15), (.int y1), (.ref b12)])) _
      refine XS.iload X54.here hx rfl (hb hby at_322) rfl ?_
      refine XS.iload X54.here hx rfl (hb hby at_324) rfl ?_
      refine XS.aload X54.here hx rfl (hb hby at_326) rfl rfl ?_
      show Steps p.tables e below (T54.setTop (mkF m 328 #[.val (.long q1), .second, .val (.long q2), .second, .val (.int p3), .val (.int p4), .val (.int p5), .val (.int p6), .val (.int y1), .val (.int y2), .val (.int y3), .val (.int y4), .val (.int (p5 &&& (3 : Int32))), .val (.int (own_hd p6)), .val (.int (0 : Int32)), .val (.int (y1 * (64 : Int32))), .val (.int y9), .val (.int y10), .val (.int y11), .val (.ref b12), .val (.ref b15), .val (.ref b19), .val (.int (own_hv (own_hd p6))), .val (.int y31), .val (.int y41), .val (.int y51), .val (.ref b52), .val (.int (own_len (own_L y31 y41 y51 y9 y10 y11))), .unset, .unset] [(.ref b19), (.int (own_hd p6)), (.int (p5 &&& (3 : Int32))), (.ref b15), (.int y1), (.ref b12)])) _
      refine st84 _ ?_
      show Steps p.tables e below (T84.setTop (mkF m 331 #[.val (.long q1), .second, .val (.long q2), .second, .val (.int p3), .val (.int p4), .val (.int p5), .val (.int p6), .val (.int y1), .val (.int y2), .val (.int y3), .val (.int y4), .val (.int (p5 &&& (3 : Int32))), .val (.int (own_hd p6)), .val (.int (0 : Int32)), .val (.int (y1 * (64 : Int32))), .val (.int y9), .val (.int y10), .val (.int y11), .val (.ref b12), .val (.ref b15), .val (.ref b19), .val (.int (own_hv (own_hd p6))), .val (.int y31), .val (.int y41), .val (.int y51), .val (.ref b52), .val (.int (own_len (own_L y31 y41 y51 y9 y10 y11))), .unset, .unset] [(.int (own_len (own_sel (p5 &&& (3 : Int32)) (fun i => own_x (own_g q1 q2) y1 (own_nf (own_hd p6)) ((own_f3 y9 y10 y11) i)) (own_f3 y9 y10 y11))))])) _
      rw [← hy85]
      refine XS.istore X84.here hx rfl (hb hby at_331) rfl (l' := #[.val (.long q1), .second, .val (.long q2), .second, .val (.int p3), .val (.int p4), .val (.int p5), .val (.int p6), .val (.int y1), .val (.int y2), .val (.int y3), .val (.int y4), .val (.int (p5 &&& (3 : Int32))), .val (.int (own_hd p6)), .val (.int (0 : Int32)), .val (.int (y1 * (64 : Int32))), .val (.int y9), .val (.int y10), .val (.int y11), .val (.ref b12), .val (.ref b15), .val (.ref b19), .val (.int (own_hv (own_hd p6))), .val (.int y31), .val (.int y41), .val (.int y51), .val (.ref b52), .val (.int (own_len (own_L y31 y41 y51 y9 y10 y11))), .val (.int y85), .unset]) rfl ?_
      show Steps p.tables e below (T84.setTop (mkF m 333 #[.val (.long q1), .second, .val (.long q2), .second, .val (.int p3), .val (.int p4), .val (.int p5), .val (.int p6), .val (.int y1), .val (.int y2), .val (.int y3), .val (.int y4), .val (.int (p5 &&& (3 : Int32))), .val (.int (own_hd p6)), .val (.int (0 : Int32)), .val (.int (y1 * (64 : Int32))), .val (.int y9), .val (.int y10), .val (.int y11), .val (.ref b12), .val (.ref b15), .val (.ref b19), .val (.int (own_hv (own_hd p6))), .val (.int y31), .val (.int y41), .val (.int y51), .val (.ref b52), .val (.int (own_len (own_L y31 y41 y51 y9 y10 y11))), .val (.int y85), .unset] [])) _
      refine XS.iload X84.here hx rfl (hb hby at_333) rfl ?_
      refine XS.iload X84.here hx rfl (hb hby at_335) rfl ?_
      refine XS.icmpNo X84.here hx rfl (hb hby at_337) rfl (teq ((hy85.trans (congrArg own_len hsel)) : (y85 = (own_len (own_L y31 y41 y51 y9 y10 y11))))).2 ?_
      show Steps p.tables e below (T84.setTop (mkF m 340 #[.val (.long q1), .second, .val (.long q2), .second, .val (.int p3), .val (.int p4), .val (.int p5), .val (.int p6), .val (.int y1), .val (.int y2), .val (.int y3), .val (.int y4), .val (.int (p5 &&& (3 : Int32))), .val (.int (own_hd p6)), .val (.int (0 : Int32)), .val (.int (y1 * (64 : Int32))), .val (.int y9), .val (.int y10), .val (.int y11), .val (.ref b12), .val (.ref b15), .val (.ref b19), .val (.int (own_hv (own_hd p6))), .val (.int y31), .val (.int y41), .val (.int y51), .val (.ref b52), .val (.int (own_len (own_L y31 y41 y51 y9 y10 y11))), .val (.int y85), .unset] [])) _
      refine XS.aload X84.here hx rfl (hb hby at_340) rfl rfl ?_
      refine XS.iconst X84.here hx rfl (hb hby at_342) ?_
      show Steps p.tables e below (T84.setTop (mkF m 343 #[.val (.long q1), .second, .val (.long q2), .second, .val (.int p3), .val (.int p4), .val (.int p5), .val (.int p6), .val (.int y1), .val (.int y2), .val (.int y3), .val (.int y4), .val (.int (p5 &&& (3 : Int32))), .val (.int (own_hd p6)), .val (.int (0 : Int32)), .val (.int (y1 * (64 : Int32))), .val (.int y9), .val (.int y10), .val (.int y11), .val (.ref b12), .val (.ref b15), .val (.ref b19), .val (.int (own_hv (own_hd p6))), .val (.int y31), .val (.int y41), .val (.int y51), .val (.ref b52), .val (.int (own_len (own_L y31 y41 y51 y9 y10 y11))), .val (.int y85), .unset] [(.int (0 : Int32)), (.ref b12)])) _
      refine X84.laload hx (j := (0 : Int32)) (v := (.long q1)) Ar86.1 (State.isArrayOf_alike hZ.alike Ar86.2.1) Ar86.2.2 hin86 hat86 (g := (mkF m 343 #[.val (.long q1), .second, .val (.long q2), .second, .val (.int p3), .val (.int p4), .val (.int p5), .val (.int p6), .val (.int y1), .val (.int y2), .val (.int y3), .val (.int y4), .val (.int (p5 &&& (3 : Int32))), .val (.int (own_hd p6)), .val (.int (0 : Int32)), .val (.int (y1 * (64 : Int32))), .val (.int y9), .val (.int y10), .val (.int y11), .val (.ref b12), .val (.ref b15), .val (.ref b19), .val (.int (own_hv (own_hd p6))), .val (.int y31), .val (.int y41), .val (.int y51), .val (.ref b52), .val (.int (own_len (own_L y31 y41 y51 y9 y10 y11))), .val (.int y85), .unset] [(.int (0 : Int32)), (.ref b12)])) rfl rfl (hb hby at_343) _ ?_
      show Steps p.tables e below (T84.setTop (mkF m 344 #[.val (.long q1), .second, .val (.long q2), .second, .val (.int p3), .val (.int p4), .val (.int p5), .val (.int p6), .val (.int y1), .val (.int y2), .val (.int y3), .val (.int y4), .val (.int (p5 &&& (3 : Int32))), .val (.int (own_hd p6)), .val (.int (0 : Int32)), .val (.int (y1 * (64 : Int32))), .val (.int y9), .val (.int y10), .val (.int y11), .val (.ref b12), .val (.ref b15), .val (.ref b19), .val (.int (own_hv (own_hd p6))), .val (.int y31), .val (.int y41), .val (.int y51), .val (.ref b52), .val (.int (own_len (own_L y31 y41 y51 y9 y10 y11))), .val (.int y85), .unset] [(.long q1)])) _
      refine XS.lloadN X84.here hx rfl (hb hby at_344) rfl ?_
      refine XS.lcmp X84.here hx rfl (hb hby at_345) rfl ?_
      show Steps p.tables e below (T84.setTop (mkF m 346 #[.val (.long q1), .second, .val (.long q2), .second, .val (.int p3), .val (.int p4), .val (.int p5), .val (.int p6), .val (.int y1), .val (.int y2), .val (.int y3), .val (.int y4), .val (.int (p5 &&& (3 : Int32))), .val (.int (own_hd p6)), .val (.int (0 : Int32)), .val (.int (y1 * (64 : Int32))), .val (.int y9), .val (.int y10), .val (.int y11), .val (.ref b12), .val (.ref b15), .val (.ref b19), .val (.int (own_hv (own_hd p6))), .val (.int y31), .val (.int y41), .val (.int y51), .val (.ref b52), .val (.int (own_len (own_L y31 y41 y51 y9 y10 y11))), .val (.int y85), .unset] [(.int (lcmpW q1 q1))])) _
      refine XS.ifNo X84.here hx rfl (hb hby at_346) rfl ((if0 _ _).trans (teq (((lw_eq _ _).mpr rfl) : ((lcmpW q1 q1) = (0 : Int32)))).2) ?_
      show Steps p.tables e below (T84.setTop (mkF m 349 #[.val (.long q1), .second, .val (.long q2), .second, .val (.int p3), .val (.int p4), .val (.int p5), .val (.int p6), .val (.int y1), .val (.int y2), .val (.int y3), .val (.int y4), .val (.int (p5 &&& (3 : Int32))), .val (.int (own_hd p6)), .val (.int (0 : Int32)), .val (.int (y1 * (64 : Int32))), .val (.int y9), .val (.int y10), .val (.int y11), .val (.ref b12), .val (.ref b15), .val (.ref b19), .val (.int (own_hv (own_hd p6))), .val (.int y31), .val (.int y41), .val (.int y51), .val (.ref b52), .val (.int (own_len (own_L y31 y41 y51 y9 y10 y11))), .val (.int y85), .unset] [])) _
      refine XS.aload X84.here hx rfl (hb hby at_349) rfl rfl ?_
      refine XS.iconst X84.here hx rfl (hb hby at_351) ?_
      show Steps p.tables e below (T84.setTop (mkF m 352 #[.val (.long q1), .second, .val (.long q2), .second, .val (.int p3), .val (.int p4), .val (.int p5), .val (.int p6), .val (.int y1), .val (.int y2), .val (.int y3), .val (.int y4), .val (.int (p5 &&& (3 : Int32))), .val (.int (own_hd p6)), .val (.int (0 : Int32)), .val (.int (y1 * (64 : Int32))), .val (.int y9), .val (.int y10), .val (.int y11), .val (.ref b12), .val (.ref b15), .val (.ref b19), .val (.int (own_hv (own_hd p6))), .val (.int y31), .val (.int y41), .val (.int y51), .val (.ref b52), .val (.int (own_len (own_L y31 y41 y51 y9 y10 y11))), .val (.int y85), .unset] [(.int (1 : Int32)), (.ref b12)])) _
      refine X84.laload hx (j := (1 : Int32)) (v := (.long q2)) Ar87.1 (State.isArrayOf_alike hZ.alike Ar87.2.1) Ar87.2.2 hin87 hat87 (g := (mkF m 352 #[.val (.long q1), .second, .val (.long q2), .second, .val (.int p3), .val (.int p4), .val (.int p5), .val (.int p6), .val (.int y1), .val (.int y2), .val (.int y3), .val (.int y4), .val (.int (p5 &&& (3 : Int32))), .val (.int (own_hd p6)), .val (.int (0 : Int32)), .val (.int (y1 * (64 : Int32))), .val (.int y9), .val (.int y10), .val (.int y11), .val (.ref b12), .val (.ref b15), .val (.ref b19), .val (.int (own_hv (own_hd p6))), .val (.int y31), .val (.int y41), .val (.int y51), .val (.ref b52), .val (.int (own_len (own_L y31 y41 y51 y9 y10 y11))), .val (.int y85), .unset] [(.int (1 : Int32)), (.ref b12)])) rfl rfl (hb hby at_352) _ ?_
      show Steps p.tables e below (T84.setTop (mkF m 353 #[.val (.long q1), .second, .val (.long q2), .second, .val (.int p3), .val (.int p4), .val (.int p5), .val (.int p6), .val (.int y1), .val (.int y2), .val (.int y3), .val (.int y4), .val (.int (p5 &&& (3 : Int32))), .val (.int (own_hd p6)), .val (.int (0 : Int32)), .val (.int (y1 * (64 : Int32))), .val (.int y9), .val (.int y10), .val (.int y11), .val (.ref b12), .val (.ref b15), .val (.ref b19), .val (.int (own_hv (own_hd p6))), .val (.int y31), .val (.int y41), .val (.int y51), .val (.ref b52), .val (.int (own_len (own_L y31 y41 y51 y9 y10 y11))), .val (.int y85), .unset] [(.long q2)])) _
      refine XS.lloadN X84.here hx rfl (hb hby at_353) rfl ?_
      refine XS.lcmp X84.here hx rfl (hb hby at_354) rfl ?_
      show Steps p.tables e below (T84.setTop (mkF m 355 #[.val (.long q1), .second, .val (.long q2), .second, .val (.int p3), .val (.int p4), .val (.int p5), .val (.int p6), .val (.int y1), .val (.int y2), .val (.int y3), .val (.int y4), .val (.int (p5 &&& (3 : Int32))), .val (.int (own_hd p6)), .val (.int (0 : Int32)), .val (.int (y1 * (64 : Int32))), .val (.int y9), .val (.int y10), .val (.int y11), .val (.ref b12), .val (.ref b15), .val (.ref b19), .val (.int (own_hv (own_hd p6))), .val (.int y31), .val (.int y41), .val (.int y51), .val (.ref b52), .val (.int (own_len (own_L y31 y41 y51 y9 y10 y11))), .val (.int y85), .unset] [(.int (lcmpW q2 q2))])) _
      refine XS.ifNo X84.here hx rfl (hb hby at_355) rfl ((if0 _ _).trans (teq (((lw_eq _ _).mpr rfl) : ((lcmpW q2 q2) = (0 : Int32)))).2) ?_
      show Steps p.tables e below (T84.setTop (mkF m 358 #[.val (.long q1), .second, .val (.long q2), .second, .val (.int p3), .val (.int p4), .val (.int p5), .val (.int p6), .val (.int y1), .val (.int y2), .val (.int y3), .val (.int y4), .val (.int (p5 &&& (3 : Int32))), .val (.int (own_hd p6)), .val (.int (0 : Int32)), .val (.int (y1 * (64 : Int32))), .val (.int y9), .val (.int y10), .val (.int y11), .val (.ref b12), .val (.ref b15), .val (.ref b19), .val (.int (own_hv (own_hd p6))), .val (.int y31), .val (.int y41), .val (.int y51), .val (.ref b52), .val (.int (own_len (own_L y31 y41 y51 y9 y10 y11))), .val (.int y85), .unset] [])) _
      refine XS.iconst X84.here hx rfl (hb hby at_358) ?_
      refine XS.goto X84.here hx rfl (pc0 := 359) (pc' := 363) rfl (hb hby at_359) (by decide) (by decide) ?_
      show Steps p.tables e below (T84.setTop (mkF m 363 #[.val (.long q1), .second, .val (.long q2), .second, .val (.int p3), .val (.int p4), .val (.int p5), .val (.int p6), .val (.int y1), .val (.int y2), .val (.int y3), .val (.int y4), .val (.int (p5 &&& (3 : Int32))), .val (.int (own_hd p6)), .val (.int (0 : Int32)), .val (.int (y1 * (64 : Int32))), .val (.int y9), .val (.int y10), .val (.int y11), .val (.ref b12), .val (.ref b15), .val (.ref b19), .val (.int (own_hv (own_hd p6))), .val (.int y31), .val (.int y41), .val (.int y51), .val (.ref b52), .val (.int (own_len (own_L y31 y41 y51 y9 y10 y11))), .val (.int y85), .unset] [(.int (1 : Int32))])) _
      refine XS.istore X84.here hx rfl (hb hby at_363) rfl (l' := #[.val (.long q1), .second, .val (.long q2), .second, .val (.int p3), .val (.int p4), .val (.int p5), .val (.int p6), .val (.int y1), .val (.int y2), .val (.int y3), .val (.int y4), .val (.int (p5 &&& (3 : Int32))), .val (.int (own_hd p6)), .val (.int (0 : Int32)), .val (.int (y1 * (64 : Int32))), .val (.int y9), .val (.int y10), .val (.int y11), .val (.ref b12), .val (.ref b15), .val (.ref b19), .val (.int (own_hv (own_hd p6))), .val (.int y31), .val (.int y41), .val (.int y51), .val (.ref b52), .val (.int (own_len (own_L y31 y41 y51 y9 y10 y11))), .val (.int y85), .val (.int (1 : Int32))]) rfl ?_
      show Steps p.tables e below (T84.setTop (mkF m 365 #[.val (.long q1), .second, .val (.long q2), .second, .val (.int p3), .val (.int p4), .val (.int p5), .val (.int p6), .val (.int y1), .val (.int y2), .val (.int y3), .val (.int y4), .val (.int (p5 &&& (3 : Int32))), .val (.int (own_hd p6)), .val (.int (0 : Int32)), .val (.int (y1 * (64 : Int32))), .val (.int y9), .val (.int y10), .val (.int y11), .val (.ref b12), .val (.ref b15), .val (.ref b19), .val (.int (own_hv (own_hd p6))), .val (.int y31), .val (.int y41), .val (.int y51), .val (.ref b52), .val (.int (own_len (own_L y31 y41 y51 y9 y10 y11))), .val (.int y85), .val (.int (1 : Int32))] [])) _
      refine XS.iload X84.here hx rfl (hb hby at_365) rfl ?_
      exact k
    obtain ⟨T89, L89, X89, e89, N89, pre89⟩ : ∃ (T' : State) (L' : List Loc), Stand p l e room_1 s m #[(.long q1), (.long q2), (.int p3), (.int p4), (.int p5), (.int p6)] below meth c T' L' 4 11 ∧ T'.heap = T84.heap ∧ Fr n0 L' ∧ ∀ t, Steps p.tables e below (T'.setTop (mkF m 393 #[.val (.long q1), .second, .val (.long q2), .second, .val (.int p3), .val (.int p4), .val (.int p5), .val (.int p6), .val (.int y1), .val (.int y2), .val (.int y3), .val (.int y4), .val (.int (p5 &&& (3 : Int32))), .val (.int (own_hd p6)), .val (.int (0 : Int32)), .val (.int (y1 * (64 : Int32))), .val (.int y9), .val (.int y10), .val (.int y11), .val (.ref b12), .val (.ref b15), .val (.ref b19), .val (.int (own_hv (own_hd p6))), .val (.int y31), .val (.int y41), .val (.int y51), .val (.ref b52), .val (.int (own_len (own_L y31 y41 y51 y9 y10 y11))), .val (.int y85), .val (.int (1 : Int32))] [])) t → Steps p.tables e below (s₁.setTop (entryFrame m #[(.long q1), (.long q2), (.int p3), (.int p4), (.int p5), (.int p6)] maxLocals)) t := by
      by_cases hc367_90 : (0 : Int32) < (own_len (own_L y31 y41 y51 y9 y10 y11))
      · obtain ⟨cl91, Ar91, S91, H91⟩ := id nf84_v84
        have hin91 : ¬ ((0 : Int32) < 0 ∨ cl91.slots.size ≤ ((0 : Int32)).toNatClampNeg) := inA S91 (by decide) (by decide)
        have hat91 : cl91.slots[((0 : Int32)).toNatClampNeg]? = some (.int (F 0)) := ArF.at S91 H91 hin91 rfl
        obtain ⟨cl92, Ar92, S92, H92⟩ := id VE_v84
        have hin92 : ¬ ((0 : Int32) < 0 ∨ cl92.slots.size ≤ ((0 : Int32)).toNatClampNeg) := inA S92 (by decide) (by decide)
        have hat92 : cl92.slots[((0 : Int32)).toNatClampNeg]? = some (.int (E 0)) := ArF.at S92 H92 hin92 rfl
        have pre93 : ∀ t, Steps p.tables e below (T84.setTop (mkF m 393 #[.val (.long q1), .second, .val (.long q2), .second, .val (.int p3), .val (.int p4), .val (.int p5), .val (.int p6), .val (.int y1), .val (.int y2), .val (.int y3), .val (.int y4), .val (.int (p5 &&& (3 : Int32))), .val (.int (own_hd p6)), .val (.int (0 : Int32)), .val (.int (y1 * (64 : Int32))), .val (.int y9), .val (.int y10), .val (.int y11), .val (.ref b12), .val (.ref b15), .val (.ref b19), .val (.int (own_hv (own_hd p6))), .val (.int y31), .val (.int y41), .val (.int y51), .val (.ref b52), .val (.int (own_len (own_L y31 y41 y51 y9 y10 y11))), .val (.int y85), .val (.int (1 : Int32))] [])) t → Steps p.tables e below (s₁.setTop (entryFrame m #[(.long q1), (.long q2), (.int p3), (.int p4), (.int p5), (.int p6)] maxLocals)) t := by
          intro t k
          refine pre88 t ?_
          show Steps p.tables e below (T84.setTop (mkF m 367 #[.val (.long q1), .second, .val (.long q2), .second, .val (.int p3), .val (.int p4), .val (.int p5), .val (.int p6), .val (.int y1), .val (.int y2), .val (.int y3), .val (.int y4), .val (.int (p5 &&& (3 : Int32))), .val (.int (own_hd p6)), .val (.int (0 : Int32)), .val (.int (y1 * (64 : Int32))), .val (.int y9), .val (.int y10), .val (.int y11), .val (.ref b12), .val (.ref b15), .val (.ref b19), .val (.int (own_hv (own_hd p6))), .val (.int y31), .val (.int y41), .val (.int y51), .val (.ref b52), .val (.int (own_len (own_L y31 y41 y51 y9 y10 y11))), .val (.int y85), .val (.int (1 : Int32))] [(.int (own_len (own_L y31 y41 y51 y9 y10 y11)))])) _
          refine XS.ifNo X84.here hx rfl (hb hby at_367) rfl ((if0 _ _).trans (tlt hc367_90).2.2.2) ?_
          show Steps p.tables e below (T84.setTop (mkF m 370 #[.val (.long q1), .second, .val (.long q2), .second, .val (.int p3), .val (.int p4), .val (.int p5), .val (.int p6), .val (.int y1), .val (.int y2), .val (.int y3), .val (.int y4), .val (.int (p5 &&& (3 : Int32))), .val (.int (own_hd p6)), .val (.int (0 : Int32)), .val (.int (y1 * (64 : Int32))), .val (.int y9), .val (.int y10), .val (.int y11), .val (.ref b12), .val (.ref b15), .val (.ref b19), .val (.int (own_hv (own_hd p6))), .val (.int y31), .val (.int y41), .val (.int y51), .val (.ref b52), .val (.int (own_len (own_L y31 y41 y51 y9 y10 y11))), .val (.int y85), .val (.int (1 : Int32))] [])) _
          refine XS.iload X84.here hx rfl (hb hby at_370) rfl ?_
          refine XS.ifNo X84.here hx rfl (hb hby at_372) rfl ((if0 _ _).trans (feq (by decide : ¬ ((1 : Int32) = (0 : Int32)))).1) ?_
          show Steps p.tables e below (T84.setTop (mkF m 375 #[.val (.long q1), .second, .val (.long q2), .second, .val (.int p3), .val (.int p4), .val (.int p5), .val (.int p6), .val (.int y1), .val (.int y2), .val (.int y3), .val (.int y4), .val (.int (p5 &&& (3 : Int32))), .val (.int (own_hd p6)), .val (.int (0 : Int32)), .val (.int (y1 * (64 : Int32))), .val (.int y9), .val (.int y10), .val (.int y11), .val (.ref b12), .val (.ref b15), .val (.ref b19), .val (.int (own_hv (own_hd p6))), .val (.int y31), .val (.int y41), .val (.int y51), .val (.ref b52), .val (.int (own_len (own_L y31 y41 y51 y9 y10 y11))), .val (.int y85), .val (.int (1 : Int32))] [])) _
          refine XS.aload X84.here hx rfl (hb hby at_375) rfl rfl ?_
          refine XS.iconst X84.here hx rfl (hb hby at_377) ?_
          show Steps p.tables e below (T84.setTop (mkF m 378 #[.val (.long q1), .second, .val (.long q2), .second, .val (.int p3), .val (.int p4), .val (.int p5), .val (.int p6), .val (.int y1), .val (.int y2), .val (.int y3), .val (.int y4), .val (.int (p5 &&& (3 : Int32))), .val (.int (own_hd p6)), .val (.int (0 : Int32)), .val (.int (y1 * (64 : Int32))), .val (.int y9), .val (.int y10), .val (.int y11), .val (.ref b12), .val (.ref b15), .val (.ref b19), .val (.int (own_hv (own_hd p6))), .val (.int y31), .val (.int y41), .val (.int y51), .val (.ref b52), .val (.int (own_len (own_L y31 y41 y51 y9 y10 y11))), .val (.int y85), .val (.int (1 : Int32))] [(.int (0 : Int32)), (.ref b19)])) _
          refine X84.caload hx (j := (0 : Int32)) (v := (.int (F 0))) Ar91.1 (State.isArrayOf_alike hZ.alike Ar91.2.1) Ar91.2.2 hin91 hat91 (g := (mkF m 378 #[.val (.long q1), .second, .val (.long q2), .second, .val (.int p3), .val (.int p4), .val (.int p5), .val (.int p6), .val (.int y1), .val (.int y2), .val (.int y3), .val (.int y4), .val (.int (p5 &&& (3 : Int32))), .val (.int (own_hd p6)), .val (.int (0 : Int32)), .val (.int (y1 * (64 : Int32))), .val (.int y9), .val (.int y10), .val (.int y11), .val (.ref b12), .val (.ref b15), .val (.ref b19), .val (.int (own_hv (own_hd p6))), .val (.int y31), .val (.int y41), .val (.int y51), .val (.ref b52), .val (.int (own_len (own_L y31 y41 y51 y9 y10 y11))), .val (.int y85), .val (.int (1 : Int32))] [(.int (0 : Int32)), (.ref b19)])) rfl rfl (hb hby at_378) _ ?_
          show Steps p.tables e below (T84.setTop (mkF m 379 #[.val (.long q1), .second, .val (.long q2), .second, .val (.int p3), .val (.int p4), .val (.int p5), .val (.int p6), .val (.int y1), .val (.int y2), .val (.int y3), .val (.int y4), .val (.int (p5 &&& (3 : Int32))), .val (.int (own_hd p6)), .val (.int (0 : Int32)), .val (.int (y1 * (64 : Int32))), .val (.int y9), .val (.int y10), .val (.int y11), .val (.ref b12), .val (.ref b15), .val (.ref b19), .val (.int (own_hv (own_hd p6))), .val (.int y31), .val (.int y41), .val (.int y51), .val (.ref b52), .val (.int (own_len (own_L y31 y41 y51 y9 y10 y11))), .val (.int y85), .val (.int (1 : Int32))] [(.int (F 0))])) _
          refine XS.aload X84.here hx rfl (hb hby at_379) rfl rfl ?_
          refine XS.iconst X84.here hx rfl (hb hby at_381) ?_
          show Steps p.tables e below (T84.setTop (mkF m 382 #[.val (.long q1), .second, .val (.long q2), .second, .val (.int p3), .val (.int p4), .val (.int p5), .val (.int p6), .val (.int y1), .val (.int y2), .val (.int y3), .val (.int y4), .val (.int (p5 &&& (3 : Int32))), .val (.int (own_hd p6)), .val (.int (0 : Int32)), .val (.int (y1 * (64 : Int32))), .val (.int y9), .val (.int y10), .val (.int y11), .val (.ref b12), .val (.ref b15), .val (.ref b19), .val (.int (own_hv (own_hd p6))), .val (.int y31), .val (.int y41), .val (.int y51), .val (.ref b52), .val (.int (own_len (own_L y31 y41 y51 y9 y10 y11))), .val (.int y85), .val (.int (1 : Int32))] [(.int (0 : Int32)), (.ref b52), (.int (F 0))])) _
          refine X84.caload hx (j := (0 : Int32)) (v := (.int (E 0))) Ar92.1 (State.isArrayOf_alike hZ.alike Ar92.2.1) Ar92.2.2 hin92 hat92 (g := (mkF m 382 #[.val (.long q1), .second, .val (.long q2), .second, .val (.int p3), .val (.int p4), .val (.int p5), .val (.int p6), .val (.int y1), .val (.int y2), .val (.int y3), .val (.int y4), .val (.int (p5 &&& (3 : Int32))), .val (.int (own_hd p6)), .val (.int (0 : Int32)), .val (.int (y1 * (64 : Int32))), .val (.int y9), .val (.int y10), .val (.int y11), .val (.ref b12), .val (.ref b15), .val (.ref b19), .val (.int (own_hv (own_hd p6))), .val (.int y31), .val (.int y41), .val (.int y51), .val (.ref b52), .val (.int (own_len (own_L y31 y41 y51 y9 y10 y11))), .val (.int y85), .val (.int (1 : Int32))] [(.int (0 : Int32)), (.ref b52), (.int (F 0))])) rfl rfl (hb hby at_382) _ ?_
          show Steps p.tables e below (T84.setTop (mkF m 383 #[.val (.long q1), .second, .val (.long q2), .second, .val (.int p3), .val (.int p4), .val (.int p5), .val (.int p6), .val (.int y1), .val (.int y2), .val (.int y3), .val (.int y4), .val (.int (p5 &&& (3 : Int32))), .val (.int (own_hd p6)), .val (.int (0 : Int32)), .val (.int (y1 * (64 : Int32))), .val (.int y9), .val (.int y10), .val (.int y11), .val (.ref b12), .val (.ref b15), .val (.ref b19), .val (.int (own_hv (own_hd p6))), .val (.int y31), .val (.int y41), .val (.int y51), .val (.ref b52), .val (.int (own_len (own_L y31 y41 y51 y9 y10 y11))), .val (.int y85), .val (.int (1 : Int32))] [(.int (E 0)), (.int (F 0))])) _
          refine XS.icmpNo X84.here hx rfl (hb hby at_383) rfl (teq ((own_same fF fE hsel (own_lt 0 (by decide) (own_L3 _ _ _ _ _ _) hc367_90)) : ((F 0) = (E 0)))).2 ?_
          show Steps p.tables e below (T84.setTop (mkF m 386 #[.val (.long q1), .second, .val (.long q2), .second, .val (.int p3), .val (.int p4), .val (.int p5), .val (.int p6), .val (.int y1), .val (.int y2), .val (.int y3), .val (.int y4), .val (.int (p5 &&& (3 : Int32))), .val (.int (own_hd p6)), .val (.int (0 : Int32)), .val (.int (y1 * (64 : Int32))), .val (.int y9), .val (.int y10), .val (.int y11), .val (.ref b12), .val (.ref b15), .val (.ref b19), .val (.int (own_hv (own_hd p6))), .val (.int y31), .val (.int y41), .val (.int y51), .val (.ref b52), .val (.int (own_len (own_L y31 y41 y51 y9 y10 y11))), .val (.int y85), .val (.int (1 : Int32))] [])) _
          refine XS.iconst X84.here hx rfl (hb hby at_386) ?_
          refine XS.goto X84.here hx rfl (pc0 := 387) (pc' := 391) rfl (hb hby at_387) (by decide) (by decide) ?_
          show Steps p.tables e below (T84.setTop (mkF m 391 #[.val (.long q1), .second, .val (.long q2), .second, .val (.int p3), .val (.int p4), .val (.int p5), .val (.int p6), .val (.int y1), .val (.int y2), .val (.int y3), .val (.int y4), .val (.int (p5 &&& (3 : Int32))), .val (.int (own_hd p6)), .val (.int (0 : Int32)), .val (.int (y1 * (64 : Int32))), .val (.int y9), .val (.int y10), .val (.int y11), .val (.ref b12), .val (.ref b15), .val (.ref b19), .val (.int (own_hv (own_hd p6))), .val (.int y31), .val (.int y41), .val (.int y51), .val (.ref b52), .val (.int (own_len (own_L y31 y41 y51 y9 y10 y11))), .val (.int y85), .val (.int (1 : Int32))] [(.int (1 : Int32))])) _
          refine XS.istore X84.here hx rfl (hb hby at_391) rfl (l' := #[.val (.long q1), .second, .val (.long q2), .second, .val (.int p3), .val (.int p4), .val (.int p5), .val (.int p6), .val (.int y1), .val (.int y2), .val (.int y3), .val (.int y4), .val (.int (p5 &&& (3 : Int32))), .val (.int (own_hd p6)), .val (.int (0 : Int32)), .val (.int (y1 * (64 : Int32))), .val (.int y9), .val (.int y10), .val (.int y11), .val (.ref b12), .val (.ref b15), .val (.ref b19), .val (.int (own_hv (own_hd p6))), .val (.int y31), .val (.int y41), .val (.int y51), .val (.ref b52), .val (.int (own_len (own_L y31 y41 y51 y9 y10 y11))), .val (.int y85), .val (.int (1 : Int32))]) rfl ?_
          exact k
        refine ⟨_, _, X84, rfl, N84, fun t k => ?_⟩
        exact pre93 t k
      · have pre94 : ∀ t, Steps p.tables e below (T84.setTop (mkF m 393 #[.val (.long q1), .second, .val (.long q2), .second, .val (.int p3), .val (.int p4), .val (.int p5), .val (.int p6), .val (.int y1), .val (.int y2), .val (.int y3), .val (.int y4), .val (.int (p5 &&& (3 : Int32))), .val (.int (own_hd p6)), .val (.int (0 : Int32)), .val (.int (y1 * (64 : Int32))), .val (.int y9), .val (.int y10), .val (.int y11), .val (.ref b12), .val (.ref b15), .val (.ref b19), .val (.int (own_hv (own_hd p6))), .val (.int y31), .val (.int y41), .val (.int y51), .val (.ref b52), .val (.int (own_len (own_L y31 y41 y51 y9 y10 y11))), .val (.int y85), .val (.int (1 : Int32))] [])) t → Steps p.tables e below (s₁.setTop (entryFrame m #[(.long q1), (.long q2), (.int p3), (.int p4), (.int p5), (.int p6)] maxLocals)) t := by
          intro t k
          refine pre88 t ?_
          show Steps p.tables e below (T84.setTop (mkF m 367 #[.val (.long q1), .second, .val (.long q2), .second, .val (.int p3), .val (.int p4), .val (.int p5), .val (.int p6), .val (.int y1), .val (.int y2), .val (.int y3), .val (.int y4), .val (.int (p5 &&& (3 : Int32))), .val (.int (own_hd p6)), .val (.int (0 : Int32)), .val (.int (y1 * (64 : Int32))), .val (.int y9), .val (.int y10), .val (.int y11), .val (.ref b12), .val (.ref b15), .val (.ref b19), .val (.int (own_hv (own_hd p6))), .val (.int y31), .val (.int y41), .val (.int y51), .val (.ref b52), .val (.int (own_len (own_L y31 y41 y51 y9 y10 y11))), .val (.int y85), .val (.int (1 : Int32))] [(.int (own_len (own_L y31 y41 y51 y9 y10 y11)))])) _
          refine XS.ifYes X84.here hx rfl (pc0 := 367) (pc' := 393) rfl (hb hby at_367) rfl ((if0 _ _).trans (flt hc367_90).2.2.2) (by decide) (by decide) ?_
          exact k
        refine ⟨_, _, X84, rfl, N84, fun t k => ?_⟩
        exact pre94 t k
    have pre95 : ∀ t, Steps p.tables e below (T89.setTop (mkF m 396 #[.val (.long q1), .second, .val (.long q2), .second, .val (.int p3), .val (.int p4), .val (.int p5), .val (.int p6), .val (.int y1), .val (.int y2), .val (.int y3), .val (.int y4), .val (.int (p5 &&& (3 : Int32))), .val (.int (own_hd p6)), .val (.int (0 : Int32)), .val (.int (y1 * (64 : Int32))), .val (.int y9), .val (.int y10), .val (.int y11), .val (.ref b12), .val (.ref b15), .val (.ref b19), .val (.int (own_hv (own_hd p6))), .val (.int y31), .val (.int y41), .val (.int y51), .val (.ref b52), .val (.int (own_len (own_L y31 y41 y51 y9 y10 y11))), .val (.int y85), .val (.int (1 : Int32))] [(.int (1 : Int32)), (.int (own_len (own_L y31 y41 y51 y9 y10 y11)))])) t → Steps p.tables e below (s₁.setTop (entryFrame m #[(.long q1), (.long q2), (.int p3), (.int p4), (.int p5), (.int p6)] maxLocals)) t := by
      intro t k
      refine pre89 t ?_
      show Steps p.tables e below (T89.setTop (mkF m 393 #[.val (.long q1), .second, .val (.long q2), .second, .val (.int p3), .val (.int p4), .val (.int p5), .val (.int p6), .val (.int y1), .val (.int y2), .val (.int y3), .val (.int y4), .val (.int (p5 &&& (3 : Int32))), .val (.int (own_hd p6)), .val (.int (0 : Int32)), .val (.int (y1 * (64 : Int32))), .val (.int y9), .val (.int y10), .val (.int y11), .val (.ref b12), .val (.ref b15), .val (.ref b19), .val (.int (own_hv (own_hd p6))), .val (.int y31), .val (.int y41), .val (.int y51), .val (.ref b52), .val (.int (own_len (own_L y31 y41 y51 y9 y10 y11))), .val (.int y85), .val (.int (1 : Int32))] [])) _
      refine XS.iload X89.here hx rfl (hb hby at_393) rfl ?_
      refine XS.iconst X89.here hx rfl (hb hby at_395) ?_
      exact k
    obtain ⟨T96, L96, X96, e96, N96, pre96⟩ : ∃ (T' : State) (L' : List Loc), Stand p l e room_1 s m #[(.long q1), (.long q2), (.int p3), (.int p4), (.int p5), (.int p6)] below meth c T' L' 4 11 ∧ T'.heap = T84.heap ∧ Fr n0 L' ∧ ∀ t, Steps p.tables e below (T'.setTop (mkF m 422 #[.val (.long q1), .second, .val (.long q2), .second, .val (.int p3), .val (.int p4), .val (.int p5), .val (.int p6), .val (.int y1), .val (.int y2), .val (.int y3), .val (.int y4), .val (.int (p5 &&& (3 : Int32))), .val (.int (own_hd p6)), .val (.int (0 : Int32)), .val (.int (y1 * (64 : Int32))), .val (.int y9), .val (.int y10), .val (.int y11), .val (.ref b12), .val (.ref b15), .val (.ref b19), .val (.int (own_hv (own_hd p6))), .val (.int y31), .val (.int y41), .val (.int y51), .val (.ref b52), .val (.int (own_len (own_L y31 y41 y51 y9 y10 y11))), .val (.int y85), .val (.int (1 : Int32))] [])) t → Steps p.tables e below (s₁.setTop (entryFrame m #[(.long q1), (.long q2), (.int p3), (.int p4), (.int p5), (.int p6)] maxLocals)) t := by
      by_cases hc396_97 : (1 : Int32) < (own_len (own_L y31 y41 y51 y9 y10 y11))
      · obtain ⟨cl98, Ar98, S98, H98⟩ := id nf84_v84
        have hin98 : ¬ ((1 : Int32) < 0 ∨ cl98.slots.size ≤ ((1 : Int32)).toNatClampNeg) := inA S98 (by decide) (by decide)
        have hat98 : cl98.slots[((1 : Int32)).toNatClampNeg]? = some (.int (F 1)) := ArF.at S98 H98 hin98 rfl
        obtain ⟨cl99, Ar99, S99, H99⟩ := id VE_v84
        have hin99 : ¬ ((1 : Int32) < 0 ∨ cl99.slots.size ≤ ((1 : Int32)).toNatClampNeg) := inA S99 (by decide) (by decide)
        have hat99 : cl99.slots[((1 : Int32)).toNatClampNeg]? = some (.int (E 1)) := ArF.at S99 H99 hin99 rfl
        have pre100 : ∀ t, Steps p.tables e below (T89.setTop (mkF m 422 #[.val (.long q1), .second, .val (.long q2), .second, .val (.int p3), .val (.int p4), .val (.int p5), .val (.int p6), .val (.int y1), .val (.int y2), .val (.int y3), .val (.int y4), .val (.int (p5 &&& (3 : Int32))), .val (.int (own_hd p6)), .val (.int (0 : Int32)), .val (.int (y1 * (64 : Int32))), .val (.int y9), .val (.int y10), .val (.int y11), .val (.ref b12), .val (.ref b15), .val (.ref b19), .val (.int (own_hv (own_hd p6))), .val (.int y31), .val (.int y41), .val (.int y51), .val (.ref b52), .val (.int (own_len (own_L y31 y41 y51 y9 y10 y11))), .val (.int y85), .val (.int (1 : Int32))] [])) t → Steps p.tables e below (s₁.setTop (entryFrame m #[(.long q1), (.long q2), (.int p3), (.int p4), (.int p5), (.int p6)] maxLocals)) t := by
          intro t k
          refine pre95 t ?_
          show Steps p.tables e below (T89.setTop (mkF m 396 #[.val (.long q1), .second, .val (.long q2), .second, .val (.int p3), .val (.int p4), .val (.int p5), .val (.int p6), .val (.int y1), .val (.int y2), .val (.int y3), .val (.int y4), .val (.int (p5 &&& (3 : Int32))), .val (.int (own_hd p6)), .val (.int (0 : Int32)), .val (.int (y1 * (64 : Int32))), .val (.int y9), .val (.int y10), .val (.int y11), .val (.ref b12), .val (.ref b15), .val (.ref b19), .val (.int (own_hv (own_hd p6))), .val (.int y31), .val (.int y41), .val (.int y51), .val (.ref b52), .val (.int (own_len (own_L y31 y41 y51 y9 y10 y11))), .val (.int y85), .val (.int (1 : Int32))] [(.int (1 : Int32)), (.int (own_len (own_L y31 y41 y51 y9 y10 y11)))])) _
          refine XS.icmpNo X89.here hx rfl (hb hby at_396) rfl (tlt hc396_97).2.2.2 ?_
          show Steps p.tables e below (T89.setTop (mkF m 399 #[.val (.long q1), .second, .val (.long q2), .second, .val (.int p3), .val (.int p4), .val (.int p5), .val (.int p6), .val (.int y1), .val (.int y2), .val (.int y3), .val (.int y4), .val (.int (p5 &&& (3 : Int32))), .val (.int (own_hd p6)), .val (.int (0 : Int32)), .val (.int (y1 * (64 : Int32))), .val (.int y9), .val (.int y10), .val (.int y11), .val (.ref b12), .val (.ref b15), .val (.ref b19), .val (.int (own_hv (own_hd p6))), .val (.int y31), .val (.int y41), .val (.int y51), .val (.ref b52), .val (.int (own_len (own_L y31 y41 y51 y9 y10 y11))), .val (.int y85), .val (.int (1 : Int32))] [])) _
          refine XS.iload X89.here hx rfl (hb hby at_399) rfl ?_
          refine XS.ifNo X89.here hx rfl (hb hby at_401) rfl ((if0 _ _).trans (feq (by decide : ¬ ((1 : Int32) = (0 : Int32)))).1) ?_
          show Steps p.tables e below (T89.setTop (mkF m 404 #[.val (.long q1), .second, .val (.long q2), .second, .val (.int p3), .val (.int p4), .val (.int p5), .val (.int p6), .val (.int y1), .val (.int y2), .val (.int y3), .val (.int y4), .val (.int (p5 &&& (3 : Int32))), .val (.int (own_hd p6)), .val (.int (0 : Int32)), .val (.int (y1 * (64 : Int32))), .val (.int y9), .val (.int y10), .val (.int y11), .val (.ref b12), .val (.ref b15), .val (.ref b19), .val (.int (own_hv (own_hd p6))), .val (.int y31), .val (.int y41), .val (.int y51), .val (.ref b52), .val (.int (own_len (own_L y31 y41 y51 y9 y10 y11))), .val (.int y85), .val (.int (1 : Int32))] [])) _
          refine XS.aload X89.here hx rfl (hb hby at_404) rfl rfl ?_
          refine XS.iconst X89.here hx rfl (hb hby at_406) ?_
          show Steps p.tables e below (T89.setTop (mkF m 407 #[.val (.long q1), .second, .val (.long q2), .second, .val (.int p3), .val (.int p4), .val (.int p5), .val (.int p6), .val (.int y1), .val (.int y2), .val (.int y3), .val (.int y4), .val (.int (p5 &&& (3 : Int32))), .val (.int (own_hd p6)), .val (.int (0 : Int32)), .val (.int (y1 * (64 : Int32))), .val (.int y9), .val (.int y10), .val (.int y11), .val (.ref b12), .val (.ref b15), .val (.ref b19), .val (.int (own_hv (own_hd p6))), .val (.int y31), .val (.int y41), .val (.int y51), .val (.ref b52), .val (.int (own_len (own_L y31 y41 y51 y9 y10 y11))), .val (.int y85), .val (.int (1 : Int32))] [(.int (1 : Int32)), (.ref b19)])) _
          refine X89.caload hx (j := (1 : Int32)) (v := (.int (F 1))) (by rw [e89]; exact Ar98.1) (State.isArrayOf_alike hZ.alike Ar98.2.1) Ar98.2.2 hin98 hat98 (g := (mkF m 407 #[.val (.long q1), .second, .val (.long q2), .second, .val (.int p3), .val (.int p4), .val (.int p5), .val (.int p6), .val (.int y1), .val (.int y2), .val (.int y3), .val (.int y4), .val (.int (p5 &&& (3 : Int32))), .val (.int (own_hd p6)), .val (.int (0 : Int32)), .val (.int (y1 * (64 : Int32))), .val (.int y9), .val (.int y10), .val (.int y11), .val (.ref b12), .val (.ref b15), .val (.ref b19), .val (.int (own_hv (own_hd p6))), .val (.int y31), .val (.int y41), .val (.int y51), .val (.ref b52), .val (.int (own_len (own_L y31 y41 y51 y9 y10 y11))), .val (.int y85), .val (.int (1 : Int32))] [(.int (1 : Int32)), (.ref b19)])) rfl rfl (hb hby at_407) _ ?_
          show Steps p.tables e below (T89.setTop (mkF m 408 #[.val (.long q1), .second, .val (.long q2), .second, .val (.int p3), .val (.int p4), .val (.int p5), .val (.int p6), .val (.int y1), .val (.int y2), .val (.int y3), .val (.int y4), .val (.int (p5 &&& (3 : Int32))), .val (.int (own_hd p6)), .val (.int (0 : Int32)), .val (.int (y1 * (64 : Int32))), .val (.int y9), .val (.int y10), .val (.int y11), .val (.ref b12), .val (.ref b15), .val (.ref b19), .val (.int (own_hv (own_hd p6))), .val (.int y31), .val (.int y41), .val (.int y51), .val (.ref b52), .val (.int (own_len (own_L y31 y41 y51 y9 y10 y11))), .val (.int y85), .val (.int (1 : Int32))] [(.int (F 1))])) _
          refine XS.aload X89.here hx rfl (hb hby at_408) rfl rfl ?_
          refine XS.iconst X89.here hx rfl (hb hby at_410) ?_
          show Steps p.tables e below (T89.setTop (mkF m 411 #[.val (.long q1), .second, .val (.long q2), .second, .val (.int p3), .val (.int p4), .val (.int p5), .val (.int p6), .val (.int y1), .val (.int y2), .val (.int y3), .val (.int y4), .val (.int (p5 &&& (3 : Int32))), .val (.int (own_hd p6)), .val (.int (0 : Int32)), .val (.int (y1 * (64 : Int32))), .val (.int y9), .val (.int y10), .val (.int y11), .val (.ref b12), .val (.ref b15), .val (.ref b19), .val (.int (own_hv (own_hd p6))), .val (.int y31), .val (.int y41), .val (.int y51), .val (.ref b52), .val (.int (own_len (own_L y31 y41 y51 y9 y10 y11))), .val (.int y85), .val (.int (1 : Int32))] [(.int (1 : Int32)), (.ref b52), (.int (F 1))])) _
          refine X89.caload hx (j := (1 : Int32)) (v := (.int (E 1))) (by rw [e89]; exact Ar99.1) (State.isArrayOf_alike hZ.alike Ar99.2.1) Ar99.2.2 hin99 hat99 (g := (mkF m 411 #[.val (.long q1), .second, .val (.long q2), .second, .val (.int p3), .val (.int p4), .val (.int p5), .val (.int p6), .val (.int y1), .val (.int y2), .val (.int y3), .val (.int y4), .val (.int (p5 &&& (3 : Int32))), .val (.int (own_hd p6)), .val (.int (0 : Int32)), .val (.int (y1 * (64 : Int32))), .val (.int y9), .val (.int y10), .val (.int y11), .val (.ref b12), .val (.ref b15), .val (.ref b19), .val (.int (own_hv (own_hd p6))), .val (.int y31), .val (.int y41), .val (.int y51), .val (.ref b52), .val (.int (own_len (own_L y31 y41 y51 y9 y10 y11))), .val (.int y85), .val (.int (1 : Int32))] [(.int (1 : Int32)), (.ref b52), (.int (F 1))])) rfl rfl (hb hby at_411) _ ?_
          show Steps p.tables e below (T89.setTop (mkF m 412 #[.val (.long q1), .second, .val (.long q2), .second, .val (.int p3), .val (.int p4), .val (.int p5), .val (.int p6), .val (.int y1), .val (.int y2), .val (.int y3), .val (.int y4), .val (.int (p5 &&& (3 : Int32))), .val (.int (own_hd p6)), .val (.int (0 : Int32)), .val (.int (y1 * (64 : Int32))), .val (.int y9), .val (.int y10), .val (.int y11), .val (.ref b12), .val (.ref b15), .val (.ref b19), .val (.int (own_hv (own_hd p6))), .val (.int y31), .val (.int y41), .val (.int y51), .val (.ref b52), .val (.int (own_len (own_L y31 y41 y51 y9 y10 y11))), .val (.int y85), .val (.int (1 : Int32))] [(.int (E 1)), (.int (F 1))])) _
          refine XS.icmpNo X89.here hx rfl (hb hby at_412) rfl (teq ((own_same fF fE hsel (own_lt 1 (by decide) (own_L3 _ _ _ _ _ _) hc396_97)) : ((F 1) = (E 1)))).2 ?_
          show Steps p.tables e below (T89.setTop (mkF m 415 #[.val (.long q1), .second, .val (.long q2), .second, .val (.int p3), .val (.int p4), .val (.int p5), .val (.int p6), .val (.int y1), .val (.int y2), .val (.int y3), .val (.int y4), .val (.int (p5 &&& (3 : Int32))), .val (.int (own_hd p6)), .val (.int (0 : Int32)), .val (.int (y1 * (64 : Int32))), .val (.int y9), .val (.int y10), .val (.int y11), .val (.ref b12), .val (.ref b15), .val (.ref b19), .val (.int (own_hv (own_hd p6))), .val (.int y31), .val (.int y41), .val (.int y51), .val (.ref b52), .val (.int (own_len (own_L y31 y41 y51 y9 y10 y11))), .val (.int y85), .val (.int (1 : Int32))] [])) _
          refine XS.iconst X89.here hx rfl (hb hby at_415) ?_
          refine XS.goto X89.here hx rfl (pc0 := 416) (pc' := 420) rfl (hb hby at_416) (by decide) (by decide) ?_
          show Steps p.tables e below (T89.setTop (mkF m 420 #[.val (.long q1), .second, .val (.long q2), .second, .val (.int p3), .val (.int p4), .val (.int p5), .val (.int p6), .val (.int y1), .val (.int y2), .val (.int y3), .val (.int y4), .val (.int (p5 &&& (3 : Int32))), .val (.int (own_hd p6)), .val (.int (0 : Int32)), .val (.int (y1 * (64 : Int32))), .val (.int y9), .val (.int y10), .val (.int y11), .val (.ref b12), .val (.ref b15), .val (.ref b19), .val (.int (own_hv (own_hd p6))), .val (.int y31), .val (.int y41), .val (.int y51), .val (.ref b52), .val (.int (own_len (own_L y31 y41 y51 y9 y10 y11))), .val (.int y85), .val (.int (1 : Int32))] [(.int (1 : Int32))])) _
          refine XS.istore X89.here hx rfl (hb hby at_420) rfl (l' := #[.val (.long q1), .second, .val (.long q2), .second, .val (.int p3), .val (.int p4), .val (.int p5), .val (.int p6), .val (.int y1), .val (.int y2), .val (.int y3), .val (.int y4), .val (.int (p5 &&& (3 : Int32))), .val (.int (own_hd p6)), .val (.int (0 : Int32)), .val (.int (y1 * (64 : Int32))), .val (.int y9), .val (.int y10), .val (.int y11), .val (.ref b12), .val (.ref b15), .val (.ref b19), .val (.int (own_hv (own_hd p6))), .val (.int y31), .val (.int y41), .val (.int y51), .val (.ref b52), .val (.int (own_len (own_L y31 y41 y51 y9 y10 y11))), .val (.int y85), .val (.int (1 : Int32))]) rfl ?_
          exact k
        refine ⟨_, _, X89, e89, N89, fun t k => ?_⟩
        exact pre100 t k
      · have pre101 : ∀ t, Steps p.tables e below (T89.setTop (mkF m 422 #[.val (.long q1), .second, .val (.long q2), .second, .val (.int p3), .val (.int p4), .val (.int p5), .val (.int p6), .val (.int y1), .val (.int y2), .val (.int y3), .val (.int y4), .val (.int (p5 &&& (3 : Int32))), .val (.int (own_hd p6)), .val (.int (0 : Int32)), .val (.int (y1 * (64 : Int32))), .val (.int y9), .val (.int y10), .val (.int y11), .val (.ref b12), .val (.ref b15), .val (.ref b19), .val (.int (own_hv (own_hd p6))), .val (.int y31), .val (.int y41), .val (.int y51), .val (.ref b52), .val (.int (own_len (own_L y31 y41 y51 y9 y10 y11))), .val (.int y85), .val (.int (1 : Int32))] [])) t → Steps p.tables e below (s₁.setTop (entryFrame m #[(.long q1), (.long q2), (.int p3), (.int p4), (.int p5), (.int p6)] maxLocals)) t := by
          intro t k
          refine pre95 t ?_
          show Steps p.tables e below (T89.setTop (mkF m 396 #[.val (.long q1), .second, .val (.long q2), .second, .val (.int p3), .val (.int p4), .val (.int p5), .val (.int p6), .val (.int y1), .val (.int y2), .val (.int y3), .val (.int y4), .val (.int (p5 &&& (3 : Int32))), .val (.int (own_hd p6)), .val (.int (0 : Int32)), .val (.int (y1 * (64 : Int32))), .val (.int y9), .val (.int y10), .val (.int y11), .val (.ref b12), .val (.ref b15), .val (.ref b19), .val (.int (own_hv (own_hd p6))), .val (.int y31), .val (.int y41), .val (.int y51), .val (.ref b52), .val (.int (own_len (own_L y31 y41 y51 y9 y10 y11))), .val (.int y85), .val (.int (1 : Int32))] [(.int (1 : Int32)), (.int (own_len (own_L y31 y41 y51 y9 y10 y11)))])) _
          refine XS.icmpYes X89.here hx rfl (pc0 := 396) (pc' := 422) rfl (hb hby at_396) rfl (flt hc396_97).2.2.2 (by decide) (by decide) ?_
          exact k
        refine ⟨_, _, X89, e89, N89, fun t k => ?_⟩
        exact pre101 t k
    have pre102 : ∀ t, Steps p.tables e below (T96.setTop (mkF m 425 #[.val (.long q1), .second, .val (.long q2), .second, .val (.int p3), .val (.int p4), .val (.int p5), .val (.int p6), .val (.int y1), .val (.int y2), .val (.int y3), .val (.int y4), .val (.int (p5 &&& (3 : Int32))), .val (.int (own_hd p6)), .val (.int (0 : Int32)), .val (.int (y1 * (64 : Int32))), .val (.int y9), .val (.int y10), .val (.int y11), .val (.ref b12), .val (.ref b15), .val (.ref b19), .val (.int (own_hv (own_hd p6))), .val (.int y31), .val (.int y41), .val (.int y51), .val (.ref b52), .val (.int (own_len (own_L y31 y41 y51 y9 y10 y11))), .val (.int y85), .val (.int (1 : Int32))] [(.int (2 : Int32)), (.int (own_len (own_L y31 y41 y51 y9 y10 y11)))])) t → Steps p.tables e below (s₁.setTop (entryFrame m #[(.long q1), (.long q2), (.int p3), (.int p4), (.int p5), (.int p6)] maxLocals)) t := by
      intro t k
      refine pre96 t ?_
      show Steps p.tables e below (T96.setTop (mkF m 422 #[.val (.long q1), .second, .val (.long q2), .second, .val (.int p3), .val (.int p4), .val (.int p5), .val (.int p6), .val (.int y1), .val (.int y2), .val (.int y3), .val (.int y4), .val (.int (p5 &&& (3 : Int32))), .val (.int (own_hd p6)), .val (.int (0 : Int32)), .val (.int (y1 * (64 : Int32))), .val (.int y9), .val (.int y10), .val (.int y11), .val (.ref b12), .val (.ref b15), .val (.ref b19), .val (.int (own_hv (own_hd p6))), .val (.int y31), .val (.int y41), .val (.int y51), .val (.ref b52), .val (.int (own_len (own_L y31 y41 y51 y9 y10 y11))), .val (.int y85), .val (.int (1 : Int32))] [])) _
      refine XS.iload X96.here hx rfl (hb hby at_422) rfl ?_
      refine XS.iconst X96.here hx rfl (hb hby at_424) ?_
      exact k
    obtain ⟨T103, L103, X103, e103, N103, pre103⟩ : ∃ (T' : State) (L' : List Loc), Stand p l e room_1 s m #[(.long q1), (.long q2), (.int p3), (.int p4), (.int p5), (.int p6)] below meth c T' L' 4 11 ∧ T'.heap = T84.heap ∧ Fr n0 L' ∧ ∀ t, Steps p.tables e below (T'.setTop (mkF m 451 #[.val (.long q1), .second, .val (.long q2), .second, .val (.int p3), .val (.int p4), .val (.int p5), .val (.int p6), .val (.int y1), .val (.int y2), .val (.int y3), .val (.int y4), .val (.int (p5 &&& (3 : Int32))), .val (.int (own_hd p6)), .val (.int (0 : Int32)), .val (.int (y1 * (64 : Int32))), .val (.int y9), .val (.int y10), .val (.int y11), .val (.ref b12), .val (.ref b15), .val (.ref b19), .val (.int (own_hv (own_hd p6))), .val (.int y31), .val (.int y41), .val (.int y51), .val (.ref b52), .val (.int (own_len (own_L y31 y41 y51 y9 y10 y11))), .val (.int y85), .val (.int (1 : Int32))] [])) t → Steps p.tables e below (s₁.setTop (entryFrame m #[(.long q1), (.long q2), (.int p3), (.int p4), (.int p5), (.int p6)] maxLocals)) t := by
      by_cases hc425_104 : (2 : Int32) < (own_len (own_L y31 y41 y51 y9 y10 y11))
      · obtain ⟨cl105, Ar105, S105, H105⟩ := id nf84_v84
        have hin105 : ¬ ((2 : Int32) < 0 ∨ cl105.slots.size ≤ ((2 : Int32)).toNatClampNeg) := inA S105 (by decide) (by decide)
        have hat105 : cl105.slots[((2 : Int32)).toNatClampNeg]? = some (.int (F 2)) := ArF.at S105 H105 hin105 rfl
        obtain ⟨cl106, Ar106, S106, H106⟩ := id VE_v84
        have hin106 : ¬ ((2 : Int32) < 0 ∨ cl106.slots.size ≤ ((2 : Int32)).toNatClampNeg) := inA S106 (by decide) (by decide)
        have hat106 : cl106.slots[((2 : Int32)).toNatClampNeg]? = some (.int (E 2)) := ArF.at S106 H106 hin106 rfl
        have pre107 : ∀ t, Steps p.tables e below (T96.setTop (mkF m 451 #[.val (.long q1), .second, .val (.long q2), .second, .val (.int p3), .val (.int p4), .val (.int p5), .val (.int p6), .val (.int y1), .val (.int y2), .val (.int y3), .val (.int y4), .val (.int (p5 &&& (3 : Int32))), .val (.int (own_hd p6)), .val (.int (0 : Int32)), .val (.int (y1 * (64 : Int32))), .val (.int y9), .val (.int y10), .val (.int y11), .val (.ref b12), .val (.ref b15), .val (.ref b19), .val (.int (own_hv (own_hd p6))), .val (.int y31), .val (.int y41), .val (.int y51), .val (.ref b52), .val (.int (own_len (own_L y31 y41 y51 y9 y10 y11))), .val (.int y85), .val (.int (1 : Int32))] [])) t → Steps p.tables e below (s₁.setTop (entryFrame m #[(.long q1), (.long q2), (.int p3), (.int p4), (.int p5), (.int p6)] maxLocals)) t := by
          intro t k
          refine pre102 t ?_
          show Steps p.tables e below (T96.setTop (mkF m 425 #[.val (.long q1), .second, .val (.long q2), .second, .val (.int p3), .val (.int p4), .val (.int p5), .val (.int p6), .val (.int y1), .val (.int y2), .val (.int y3), .val (.int y4), .val (.int (p5 &&& (3 : Int32))), .val (.int (own_hd p6)), .val (.int (0 : Int32)), .val (.int (y1 * (64 : Int32))), .val (.int y9), .val (.int y10), .val (.int y11), .val (.ref b12), .val (.ref b15), .val (.ref b19), .val (.int (own_hv (own_hd p6))), .val (.int y31), .val (.int y41), .val (.int y51), .val (.ref b52), .val (.int (own_len (own_L y31 y41 y51 y9 y10 y11))), .val (.int y85), .val (.int (1 : Int32))] [(.int (2 : Int32)), (.int (own_len (own_L y31 y41 y51 y9 y10 y11)))])) _
          refine XS.icmpNo X96.here hx rfl (hb hby at_425) rfl (tlt hc425_104).2.2.2 ?_
          show Steps p.tables e below (T96.setTop (mkF m 428 #[.val (.long q1), .second, .val (.long q2), .second, .val (.int p3), .val (.int p4), .val (.int p5), .val (.int p6), .val (.int y1), .val (.int y2), .val (.int y3), .val (.int y4), .val (.int (p5 &&& (3 : Int32))), .val (.int (own_hd p6)), .val (.int (0 : Int32)), .val (.int (y1 * (64 : Int32))), .val (.int y9), .val (.int y10), .val (.int y11), .val (.ref b12), .val (.ref b15), .val (.ref b19), .val (.int (own_hv (own_hd p6))), .val (.int y31), .val (.int y41), .val (.int y51), .val (.ref b52), .val (.int (own_len (own_L y31 y41 y51 y9 y10 y11))), .val (.int y85), .val (.int (1 : Int32))] [])) _
          refine XS.iload X96.here hx rfl (hb hby at_428) rfl ?_
          refine XS.ifNo X96.here hx rfl (hb hby at_430) rfl ((if0 _ _).trans (feq (by decide : ¬ ((1 : Int32) = (0 : Int32)))).1) ?_
          show Steps p.tables e below (T96.setTop (mkF m 433 #[.val (.long q1), .second, .val (.long q2), .second, .val (.int p3), .val (.int p4), .val (.int p5), .val (.int p6), .val (.int y1), .val (.int y2), .val (.int y3), .val (.int y4), .val (.int (p5 &&& (3 : Int32))), .val (.int (own_hd p6)), .val (.int (0 : Int32)), .val (.int (y1 * (64 : Int32))), .val (.int y9), .val (.int y10), .val (.int y11), .val (.ref b12), .val (.ref b15), .val (.ref b19), .val (.int (own_hv (own_hd p6))), .val (.int y31), .val (.int y41), .val (.int y51), .val (.ref b52), .val (.int (own_len (own_L y31 y41 y51 y9 y10 y11))), .val (.int y85), .val (.int (1 : Int32))] [])) _
          refine XS.aload X96.here hx rfl (hb hby at_433) rfl rfl ?_
          refine XS.iconst X96.here hx rfl (hb hby at_435) ?_
          show Steps p.tables e below (T96.setTop (mkF m 436 #[.val (.long q1), .second, .val (.long q2), .second, .val (.int p3), .val (.int p4), .val (.int p5), .val (.int p6), .val (.int y1), .val (.int y2), .val (.int y3), .val (.int y4), .val (.int (p5 &&& (3 : Int32))), .val (.int (own_hd p6)), .val (.int (0 : Int32)), .val (.int (y1 * (64 : Int32))), .val (.int y9), .val (.int y10), .val (.int y11), .val (.ref b12), .val (.ref b15), .val (.ref b19), .val (.int (own_hv (own_hd p6))), .val (.int y31), .val (.int y41), .val (.int y51), .val (.ref b52), .val (.int (own_len (own_L y31 y41 y51 y9 y10 y11))), .val (.int y85), .val (.int (1 : Int32))] [(.int (2 : Int32)), (.ref b19)])) _
          refine X96.caload hx (j := (2 : Int32)) (v := (.int (F 2))) (by rw [e96]; exact Ar105.1) (State.isArrayOf_alike hZ.alike Ar105.2.1) Ar105.2.2 hin105 hat105 (g := (mkF m 436 #[.val (.long q1), .second, .val (.long q2), .second, .val (.int p3), .val (.int p4), .val (.int p5), .val (.int p6), .val (.int y1), .val (.int y2), .val (.int y3), .val (.int y4), .val (.int (p5 &&& (3 : Int32))), .val (.int (own_hd p6)), .val (.int (0 : Int32)), .val (.int (y1 * (64 : Int32))), .val (.int y9), .val (.int y10), .val (.int y11), .val (.ref b12), .val (.ref b15), .val (.ref b19), .val (.int (own_hv (own_hd p6))), .val (.int y31), .val (.int y41), .val (.int y51), .val (.ref b52), .val (.int (own_len (own_L y31 y41 y51 y9 y10 y11))), .val (.int y85), .val (.int (1 : Int32))] [(.int (2 : Int32)), (.ref b19)])) rfl rfl (hb hby at_436) _ ?_
          show Steps p.tables e below (T96.setTop (mkF m 437 #[.val (.long q1), .second, .val (.long q2), .second, .val (.int p3), .val (.int p4), .val (.int p5), .val (.int p6), .val (.int y1), .val (.int y2), .val (.int y3), .val (.int y4), .val (.int (p5 &&& (3 : Int32))), .val (.int (own_hd p6)), .val (.int (0 : Int32)), .val (.int (y1 * (64 : Int32))), .val (.int y9), .val (.int y10), .val (.int y11), .val (.ref b12), .val (.ref b15), .val (.ref b19), .val (.int (own_hv (own_hd p6))), .val (.int y31), .val (.int y41), .val (.int y51), .val (.ref b52), .val (.int (own_len (own_L y31 y41 y51 y9 y10 y11))), .val (.int y85), .val (.int (1 : Int32))] [(.int (F 2))])) _
          refine XS.aload X96.here hx rfl (hb hby at_437) rfl rfl ?_
          refine XS.iconst X96.here hx rfl (hb hby at_439) ?_
          show Steps p.tables e below (T96.setTop (mkF m 440 #[.val (.long q1), .second, .val (.long q2), .second, .val (.int p3), .val (.int p4), .val (.int p5), .val (.int p6), .val (.int y1), .val (.int y2), .val (.int y3), .val (.int y4), .val (.int (p5 &&& (3 : Int32))), .val (.int (own_hd p6)), .val (.int (0 : Int32)), .val (.int (y1 * (64 : Int32))), .val (.int y9), .val (.int y10), .val (.int y11), .val (.ref b12), .val (.ref b15), .val (.ref b19), .val (.int (own_hv (own_hd p6))), .val (.int y31), .val (.int y41), .val (.int y51), .val (.ref b52), .val (.int (own_len (own_L y31 y41 y51 y9 y10 y11))), .val (.int y85), .val (.int (1 : Int32))] [(.int (2 : Int32)), (.ref b52), (.int (F 2))])) _
          refine X96.caload hx (j := (2 : Int32)) (v := (.int (E 2))) (by rw [e96]; exact Ar106.1) (State.isArrayOf_alike hZ.alike Ar106.2.1) Ar106.2.2 hin106 hat106 (g := (mkF m 440 #[.val (.long q1), .second, .val (.long q2), .second, .val (.int p3), .val (.int p4), .val (.int p5), .val (.int p6), .val (.int y1), .val (.int y2), .val (.int y3), .val (.int y4), .val (.int (p5 &&& (3 : Int32))), .val (.int (own_hd p6)), .val (.int (0 : Int32)), .val (.int (y1 * (64 : Int32))), .val (.int y9), .val (.int y10), .val (.int y11), .val (.ref b12), .val (.ref b15), .val (.ref b19), .val (.int (own_hv (own_hd p6))), .val (.int y31), .val (.int y41), .val (.int y51), .val (.ref b52), .val (.int (own_len (own_L y31 y41 y51 y9 y10 y11))), .val (.int y85), .val (.int (1 : Int32))] [(.int (2 : Int32)), (.ref b52), (.int (F 2))])) rfl rfl (hb hby at_440) _ ?_
          show Steps p.tables e below (T96.setTop (mkF m 441 #[.val (.long q1), .second, .val (.long q2), .second, .val (.int p3), .val (.int p4), .val (.int p5), .val (.int p6), .val (.int y1), .val (.int y2), .val (.int y3), .val (.int y4), .val (.int (p5 &&& (3 : Int32))), .val (.int (own_hd p6)), .val (.int (0 : Int32)), .val (.int (y1 * (64 : Int32))), .val (.int y9), .val (.int y10), .val (.int y11), .val (.ref b12), .val (.ref b15), .val (.ref b19), .val (.int (own_hv (own_hd p6))), .val (.int y31), .val (.int y41), .val (.int y51), .val (.ref b52), .val (.int (own_len (own_L y31 y41 y51 y9 y10 y11))), .val (.int y85), .val (.int (1 : Int32))] [(.int (E 2)), (.int (F 2))])) _
          refine XS.icmpNo X96.here hx rfl (hb hby at_441) rfl (teq ((own_same fF fE hsel (own_lt 2 (by decide) (own_L3 _ _ _ _ _ _) hc425_104)) : ((F 2) = (E 2)))).2 ?_
          show Steps p.tables e below (T96.setTop (mkF m 444 #[.val (.long q1), .second, .val (.long q2), .second, .val (.int p3), .val (.int p4), .val (.int p5), .val (.int p6), .val (.int y1), .val (.int y2), .val (.int y3), .val (.int y4), .val (.int (p5 &&& (3 : Int32))), .val (.int (own_hd p6)), .val (.int (0 : Int32)), .val (.int (y1 * (64 : Int32))), .val (.int y9), .val (.int y10), .val (.int y11), .val (.ref b12), .val (.ref b15), .val (.ref b19), .val (.int (own_hv (own_hd p6))), .val (.int y31), .val (.int y41), .val (.int y51), .val (.ref b52), .val (.int (own_len (own_L y31 y41 y51 y9 y10 y11))), .val (.int y85), .val (.int (1 : Int32))] [])) _
          refine XS.iconst X96.here hx rfl (hb hby at_444) ?_
          refine XS.goto X96.here hx rfl (pc0 := 445) (pc' := 449) rfl (hb hby at_445) (by decide) (by decide) ?_
          show Steps p.tables e below (T96.setTop (mkF m 449 #[.val (.long q1), .second, .val (.long q2), .second, .val (.int p3), .val (.int p4), .val (.int p5), .val (.int p6), .val (.int y1), .val (.int y2), .val (.int y3), .val (.int y4), .val (.int (p5 &&& (3 : Int32))), .val (.int (own_hd p6)), .val (.int (0 : Int32)), .val (.int (y1 * (64 : Int32))), .val (.int y9), .val (.int y10), .val (.int y11), .val (.ref b12), .val (.ref b15), .val (.ref b19), .val (.int (own_hv (own_hd p6))), .val (.int y31), .val (.int y41), .val (.int y51), .val (.ref b52), .val (.int (own_len (own_L y31 y41 y51 y9 y10 y11))), .val (.int y85), .val (.int (1 : Int32))] [(.int (1 : Int32))])) _
          refine XS.istore X96.here hx rfl (hb hby at_449) rfl (l' := #[.val (.long q1), .second, .val (.long q2), .second, .val (.int p3), .val (.int p4), .val (.int p5), .val (.int p6), .val (.int y1), .val (.int y2), .val (.int y3), .val (.int y4), .val (.int (p5 &&& (3 : Int32))), .val (.int (own_hd p6)), .val (.int (0 : Int32)), .val (.int (y1 * (64 : Int32))), .val (.int y9), .val (.int y10), .val (.int y11), .val (.ref b12), .val (.ref b15), .val (.ref b19), .val (.int (own_hv (own_hd p6))), .val (.int y31), .val (.int y41), .val (.int y51), .val (.ref b52), .val (.int (own_len (own_L y31 y41 y51 y9 y10 y11))), .val (.int y85), .val (.int (1 : Int32))]) rfl ?_
          exact k
        refine ⟨_, _, X96, e96, N96, fun t k => ?_⟩
        exact pre107 t k
      · have pre108 : ∀ t, Steps p.tables e below (T96.setTop (mkF m 451 #[.val (.long q1), .second, .val (.long q2), .second, .val (.int p3), .val (.int p4), .val (.int p5), .val (.int p6), .val (.int y1), .val (.int y2), .val (.int y3), .val (.int y4), .val (.int (p5 &&& (3 : Int32))), .val (.int (own_hd p6)), .val (.int (0 : Int32)), .val (.int (y1 * (64 : Int32))), .val (.int y9), .val (.int y10), .val (.int y11), .val (.ref b12), .val (.ref b15), .val (.ref b19), .val (.int (own_hv (own_hd p6))), .val (.int y31), .val (.int y41), .val (.int y51), .val (.ref b52), .val (.int (own_len (own_L y31 y41 y51 y9 y10 y11))), .val (.int y85), .val (.int (1 : Int32))] [])) t → Steps p.tables e below (s₁.setTop (entryFrame m #[(.long q1), (.long q2), (.int p3), (.int p4), (.int p5), (.int p6)] maxLocals)) t := by
          intro t k
          refine pre102 t ?_
          show Steps p.tables e below (T96.setTop (mkF m 425 #[.val (.long q1), .second, .val (.long q2), .second, .val (.int p3), .val (.int p4), .val (.int p5), .val (.int p6), .val (.int y1), .val (.int y2), .val (.int y3), .val (.int y4), .val (.int (p5 &&& (3 : Int32))), .val (.int (own_hd p6)), .val (.int (0 : Int32)), .val (.int (y1 * (64 : Int32))), .val (.int y9), .val (.int y10), .val (.int y11), .val (.ref b12), .val (.ref b15), .val (.ref b19), .val (.int (own_hv (own_hd p6))), .val (.int y31), .val (.int y41), .val (.int y51), .val (.ref b52), .val (.int (own_len (own_L y31 y41 y51 y9 y10 y11))), .val (.int y85), .val (.int (1 : Int32))] [(.int (2 : Int32)), (.int (own_len (own_L y31 y41 y51 y9 y10 y11)))])) _
          refine XS.icmpYes X96.here hx rfl (pc0 := 425) (pc' := 451) rfl (hb hby at_425) rfl (flt hc425_104).2.2.2 (by decide) (by decide) ?_
          exact k
        refine ⟨_, _, X96, e96, N96, fun t k => ?_⟩
        exact pre108 t k
    obtain ⟨cl109, Ar109, S109, H109⟩ := id mf54_1_v84
    have hin109 : ¬ ((0 : Int32) < 0 ∨ cl109.slots.size ≤ ((0 : Int32)).toNatClampNeg) := inA S109 (by decide) (by decide)
    have hat109 : cl109.slots[((0 : Int32)).toNatClampNeg]? = some (.int y9) := ArF.at S109 H109 hin109 rfl
    obtain ⟨cl110, Ar110, S110, H110⟩ := id mf54_1_v84
    have hin110 : ¬ ((1 : Int32) < 0 ∨ cl110.slots.size ≤ ((1 : Int32)).toNatClampNeg) := inA S110 (by decide) (by decide)
    have hat110 : cl110.slots[((1 : Int32)).toNatClampNeg]? = some (.int y10) := ArF.at S110 H110 hin110 rfl
    obtain ⟨cl111, Ar111, S111, H111⟩ := id mf54_1_v84
    have hin111 : ¬ ((2 : Int32) < 0 ∨ cl111.slots.size ≤ ((2 : Int32)).toNatClampNeg) := inA S111 (by decide) (by decide)
    have hat111 : cl111.slots[((2 : Int32)).toNatClampNeg]? = some (.int y11) := ArF.at S111 H111 hin111 rfl
    obtain ⟨fs, hr, hrun, hended, hW, hsame⟩ := X103.leave (v := some (.int (1 : Int32))) (fun h => by rw [Bd.returns] at h; cases h)
    refine ⟨_, _, pre103 _ ?_, hrun, hended, _, _, rfl, ?_, ⟨_, rfl⟩, hW, hsame.mono (by decide) (by decide)⟩
    · show Steps p.tables e below (T103.setTop (mkF m 451 #[.val (.long q1), .second, .val (.long q2), .second, .val (.int p3), .val (.int p4), .val (.int p5), .val (.int p6), .val (.int y1), .val (.int y2), .val (.int y3), .val (.int y4), .val (.int (p5 &&& (3 : Int32))), .val (.int (own_hd p6)), .val (.int (0 : Int32)), .val (.int (y1 * (64 : Int32))), .val (.int y9), .val (.int y10), .val (.int y11), .val (.ref b12), .val (.ref b15), .val (.ref b19), .val (.int (own_hv (own_hd p6))), .val (.int y31), .val (.int y41), .val (.int y51), .val (.ref b52), .val (.int (own_len (own_L y31 y41 y51 y9 y10 y11))), .val (.int y85), .val (.int (1 : Int32))] [])) _
      refine XS.iload X103.here hx rfl (hb hby at_451) rfl ?_
      refine XS.ifNo X103.here hx rfl (hb hby at_453) rfl ((if0 _ _).trans (teq (by decide : ((0 : Int32) = (0 : Int32)))).2) ?_
      show Steps p.tables e below (T103.setTop (mkF m 456 #[.val (.long q1), .second, .val (.long q2), .second, .val (.int p3), .val (.int p4), .val (.int p5), .val (.int p6), .val (.int y1), .val (.int y2), .val (.int y3), .val (.int y4), .val (.int (p5 &&& (3 : Int32))), .val (.int (own_hd p6)), .val (.int (0 : Int32)), .val (.int (y1 * (64 : Int32))), .val (.int y9), .val (.int y10), .val (.int y11), .val (.ref b12), .val (.ref b15), .val (.ref b19), .val (.int (own_hv (own_hd p6))), .val (.int y31), .val (.int y41), .val (.int y51), .val (.ref b52), .val (.int (own_len (own_L y31 y41 y51 y9 y10 y11))), .val (.int y85), .val (.int (1 : Int32))] [])) _
      refine XS.iload X103.here hx rfl (hb hby at_456) rfl ?_
      refine XS.ifNo X103.here hx rfl (hb hby at_458) rfl ((if0 _ _).trans (feq (by decide : ¬ ((1 : Int32) = (0 : Int32)))).1) ?_
      show Steps p.tables e below (T103.setTop (mkF m 461 #[.val (.long q1), .second, .val (.long q2), .second, .val (.int p3), .val (.int p4), .val (.int p5), .val (.int p6), .val (.int y1), .val (.int y2), .val (.int y3), .val (.int y4), .val (.int (p5 &&& (3 : Int32))), .val (.int (own_hd p6)), .val (.int (0 : Int32)), .val (.int (y1 * (64 : Int32))), .val (.int y9), .val (.int y10), .val (.int y11), .val (.ref b12), .val (.ref b15), .val (.ref b19), .val (.int (own_hv (own_hd p6))), .val (.int y31), .val (.int y41), .val (.int y51), .val (.ref b52), .val (.int (own_len (own_L y31 y41 y51 y9 y10 y11))), .val (.int y85), .val (.int (1 : Int32))] [])) _
      refine XS.aload X103.here hx rfl (hb hby at_461) rfl rfl ?_
      refine XS.iconst X103.here hx rfl (hb hby at_463) ?_
      show Steps p.tables e below (T103.setTop (mkF m 464 #[.val (.long q1), .second, .val (.long q2), .second, .val (.int p3), .val (.int p4), .val (.int p5), .val (.int p6), .val (.int y1), .val (.int y2), .val (.int y3), .val (.int y4), .val (.int (p5 &&& (3 : Int32))), .val (.int (own_hd p6)), .val (.int (0 : Int32)), .val (.int (y1 * (64 : Int32))), .val (.int y9), .val (.int y10), .val (.int y11), .val (.ref b12), .val (.ref b15), .val (.ref b19), .val (.int (own_hv (own_hd p6))), .val (.int y31), .val (.int y41), .val (.int y51), .val (.ref b52), .val (.int (own_len (own_L y31 y41 y51 y9 y10 y11))), .val (.int y85), .val (.int (1 : Int32))] [(.int (0 : Int32)), (.ref b15)])) _
      refine X103.caload hx (j := (0 : Int32)) (v := (.int y9)) (by rw [e103]; exact Ar109.1) (State.isArrayOf_alike hZ.alike Ar109.2.1) Ar109.2.2 hin109 hat109 (g := (mkF m 464 #[.val (.long q1), .second, .val (.long q2), .second, .val (.int p3), .val (.int p4), .val (.int p5), .val (.int p6), .val (.int y1), .val (.int y2), .val (.int y3), .val (.int y4), .val (.int (p5 &&& (3 : Int32))), .val (.int (own_hd p6)), .val (.int (0 : Int32)), .val (.int (y1 * (64 : Int32))), .val (.int y9), .val (.int y10), .val (.int y11), .val (.ref b12), .val (.ref b15), .val (.ref b19), .val (.int (own_hv (own_hd p6))), .val (.int y31), .val (.int y41), .val (.int y51), .val (.ref b52), .val (.int (own_len (own_L y31 y41 y51 y9 y10 y11))), .val (.int y85), .val (.int (1 : Int32))] [(.int (0 : Int32)), (.ref b15)])) rfl rfl (hb hby at_464) _ ?_
      show Steps p.tables e below (T103.setTop (mkF m 465 #[.val (.long q1), .second, .val (.long q2), .second, .val (.int p3), .val (.int p4), .val (.int p5), .val (.int p6), .val (.int y1), .val (.int y2), .val (.int y3), .val (.int y4), .val (.int (p5 &&& (3 : Int32))), .val (.int (own_hd p6)), .val (.int (0 : Int32)), .val (.int (y1 * (64 : Int32))), .val (.int y9), .val (.int y10), .val (.int y11), .val (.ref b12), .val (.ref b15), .val (.ref b19), .val (.int (own_hv (own_hd p6))), .val (.int y31), .val (.int y41), .val (.int y51), .val (.ref b52), .val (.int (own_len (own_L y31 y41 y51 y9 y10 y11))), .val (.int y85), .val (.int (1 : Int32))] [(.int y9)])) _
      refine XS.iload X103.here hx rfl (hb hby at_465) rfl ?_
      refine XS.icmpNo X103.here hx rfl (hb hby at_467) rfl (teq (rfl : (y9 = y9))).2 ?_
      show Steps p.tables e below (T103.setTop (mkF m 470 #[.val (.long q1), .second, .val (.long q2), .second, .val (.int p3), .val (.int p4), .val (.int p5), .val (.int p6), .val (.int y1), .val (.int y2), .val (.int y3), .val (.int y4), .val (.int (p5 &&& (3 : Int32))), .val (.int (own_hd p6)), .val (.int (0 : Int32)), .val (.int (y1 * (64 : Int32))), .val (.int y9), .val (.int y10), .val (.int y11), .val (.ref b12), .val (.ref b15), .val (.ref b19), .val (.int (own_hv (own_hd p6))), .val (.int y31), .val (.int y41), .val (.int y51), .val (.ref b52), .val (.int (own_len (own_L y31 y41 y51 y9 y10 y11))), .val (.int y85), .val (.int (1 : Int32))] [])) _
      refine XS.aload X103.here hx rfl (hb hby at_470) rfl rfl ?_
      refine XS.iconst X103.here hx rfl (hb hby at_472) ?_
      show Steps p.tables e below (T103.setTop (mkF m 473 #[.val (.long q1), .second, .val (.long q2), .second, .val (.int p3), .val (.int p4), .val (.int p5), .val (.int p6), .val (.int y1), .val (.int y2), .val (.int y3), .val (.int y4), .val (.int (p5 &&& (3 : Int32))), .val (.int (own_hd p6)), .val (.int (0 : Int32)), .val (.int (y1 * (64 : Int32))), .val (.int y9), .val (.int y10), .val (.int y11), .val (.ref b12), .val (.ref b15), .val (.ref b19), .val (.int (own_hv (own_hd p6))), .val (.int y31), .val (.int y41), .val (.int y51), .val (.ref b52), .val (.int (own_len (own_L y31 y41 y51 y9 y10 y11))), .val (.int y85), .val (.int (1 : Int32))] [(.int (1 : Int32)), (.ref b15)])) _
      refine X103.caload hx (j := (1 : Int32)) (v := (.int y10)) (by rw [e103]; exact Ar110.1) (State.isArrayOf_alike hZ.alike Ar110.2.1) Ar110.2.2 hin110 hat110 (g := (mkF m 473 #[.val (.long q1), .second, .val (.long q2), .second, .val (.int p3), .val (.int p4), .val (.int p5), .val (.int p6), .val (.int y1), .val (.int y2), .val (.int y3), .val (.int y4), .val (.int (p5 &&& (3 : Int32))), .val (.int (own_hd p6)), .val (.int (0 : Int32)), .val (.int (y1 * (64 : Int32))), .val (.int y9), .val (.int y10), .val (.int y11), .val (.ref b12), .val (.ref b15), .val (.ref b19), .val (.int (own_hv (own_hd p6))), .val (.int y31), .val (.int y41), .val (.int y51), .val (.ref b52), .val (.int (own_len (own_L y31 y41 y51 y9 y10 y11))), .val (.int y85), .val (.int (1 : Int32))] [(.int (1 : Int32)), (.ref b15)])) rfl rfl (hb hby at_473) _ ?_
      show Steps p.tables e below (T103.setTop (mkF m 474 #[.val (.long q1), .second, .val (.long q2), .second, .val (.int p3), .val (.int p4), .val (.int p5), .val (.int p6), .val (.int y1), .val (.int y2), .val (.int y3), .val (.int y4), .val (.int (p5 &&& (3 : Int32))), .val (.int (own_hd p6)), .val (.int (0 : Int32)), .val (.int (y1 * (64 : Int32))), .val (.int y9), .val (.int y10), .val (.int y11), .val (.ref b12), .val (.ref b15), .val (.ref b19), .val (.int (own_hv (own_hd p6))), .val (.int y31), .val (.int y41), .val (.int y51), .val (.ref b52), .val (.int (own_len (own_L y31 y41 y51 y9 y10 y11))), .val (.int y85), .val (.int (1 : Int32))] [(.int y10)])) _
      refine XS.iload X103.here hx rfl (hb hby at_474) rfl ?_
      refine XS.icmpNo X103.here hx rfl (hb hby at_476) rfl (teq (rfl : (y10 = y10))).2 ?_
      show Steps p.tables e below (T103.setTop (mkF m 479 #[.val (.long q1), .second, .val (.long q2), .second, .val (.int p3), .val (.int p4), .val (.int p5), .val (.int p6), .val (.int y1), .val (.int y2), .val (.int y3), .val (.int y4), .val (.int (p5 &&& (3 : Int32))), .val (.int (own_hd p6)), .val (.int (0 : Int32)), .val (.int (y1 * (64 : Int32))), .val (.int y9), .val (.int y10), .val (.int y11), .val (.ref b12), .val (.ref b15), .val (.ref b19), .val (.int (own_hv (own_hd p6))), .val (.int y31), .val (.int y41), .val (.int y51), .val (.ref b52), .val (.int (own_len (own_L y31 y41 y51 y9 y10 y11))), .val (.int y85), .val (.int (1 : Int32))] [])) _
      refine XS.aload X103.here hx rfl (hb hby at_479) rfl rfl ?_
      refine XS.iconst X103.here hx rfl (hb hby at_481) ?_
      show Steps p.tables e below (T103.setTop (mkF m 482 #[.val (.long q1), .second, .val (.long q2), .second, .val (.int p3), .val (.int p4), .val (.int p5), .val (.int p6), .val (.int y1), .val (.int y2), .val (.int y3), .val (.int y4), .val (.int (p5 &&& (3 : Int32))), .val (.int (own_hd p6)), .val (.int (0 : Int32)), .val (.int (y1 * (64 : Int32))), .val (.int y9), .val (.int y10), .val (.int y11), .val (.ref b12), .val (.ref b15), .val (.ref b19), .val (.int (own_hv (own_hd p6))), .val (.int y31), .val (.int y41), .val (.int y51), .val (.ref b52), .val (.int (own_len (own_L y31 y41 y51 y9 y10 y11))), .val (.int y85), .val (.int (1 : Int32))] [(.int (2 : Int32)), (.ref b15)])) _
      refine X103.caload hx (j := (2 : Int32)) (v := (.int y11)) (by rw [e103]; exact Ar111.1) (State.isArrayOf_alike hZ.alike Ar111.2.1) Ar111.2.2 hin111 hat111 (g := (mkF m 482 #[.val (.long q1), .second, .val (.long q2), .second, .val (.int p3), .val (.int p4), .val (.int p5), .val (.int p6), .val (.int y1), .val (.int y2), .val (.int y3), .val (.int y4), .val (.int (p5 &&& (3 : Int32))), .val (.int (own_hd p6)), .val (.int (0 : Int32)), .val (.int (y1 * (64 : Int32))), .val (.int y9), .val (.int y10), .val (.int y11), .val (.ref b12), .val (.ref b15), .val (.ref b19), .val (.int (own_hv (own_hd p6))), .val (.int y31), .val (.int y41), .val (.int y51), .val (.ref b52), .val (.int (own_len (own_L y31 y41 y51 y9 y10 y11))), .val (.int y85), .val (.int (1 : Int32))] [(.int (2 : Int32)), (.ref b15)])) rfl rfl (hb hby at_482) _ ?_
      show Steps p.tables e below (T103.setTop (mkF m 483 #[.val (.long q1), .second, .val (.long q2), .second, .val (.int p3), .val (.int p4), .val (.int p5), .val (.int p6), .val (.int y1), .val (.int y2), .val (.int y3), .val (.int y4), .val (.int (p5 &&& (3 : Int32))), .val (.int (own_hd p6)), .val (.int (0 : Int32)), .val (.int (y1 * (64 : Int32))), .val (.int y9), .val (.int y10), .val (.int y11), .val (.ref b12), .val (.ref b15), .val (.ref b19), .val (.int (own_hv (own_hd p6))), .val (.int y31), .val (.int y41), .val (.int y51), .val (.ref b52), .val (.int (own_len (own_L y31 y41 y51 y9 y10 y11))), .val (.int y85), .val (.int (1 : Int32))] [(.int y11)])) _
      refine XS.iload X103.here hx rfl (hb hby at_483) rfl ?_
      refine XS.icmpNo X103.here hx rfl (hb hby at_485) rfl (teq (rfl : (y11 = y11))).2 ?_
      show Steps p.tables e below (T103.setTop (mkF m 488 #[.val (.long q1), .second, .val (.long q2), .second, .val (.int p3), .val (.int p4), .val (.int p5), .val (.int p6), .val (.int y1), .val (.int y2), .val (.int y3), .val (.int y4), .val (.int (p5 &&& (3 : Int32))), .val (.int (own_hd p6)), .val (.int (0 : Int32)), .val (.int (y1 * (64 : Int32))), .val (.int y9), .val (.int y10), .val (.int y11), .val (.ref b12), .val (.ref b15), .val (.ref b19), .val (.int (own_hv (own_hd p6))), .val (.int y31), .val (.int y41), .val (.int y51), .val (.ref b52), .val (.int (own_len (own_L y31 y41 y51 y9 y10 y11))), .val (.int y85), .val (.int (1 : Int32))] [])) _
      refine XS.iconst X103.here hx rfl (hb hby at_488) ?_
      refine XS.goto X103.here hx rfl (pc0 := 489) (pc' := 493) rfl (hb hby at_489) (by decide) (by decide) ?_
      show Steps p.tables e below (T103.setTop (mkF m 493 #[.val (.long q1), .second, .val (.long q2), .second, .val (.int p3), .val (.int p4), .val (.int p5), .val (.int p6), .val (.int y1), .val (.int y2), .val (.int y3), .val (.int y4), .val (.int (p5 &&& (3 : Int32))), .val (.int (own_hd p6)), .val (.int (0 : Int32)), .val (.int (y1 * (64 : Int32))), .val (.int y9), .val (.int y10), .val (.int y11), .val (.ref b12), .val (.ref b15), .val (.ref b19), .val (.int (own_hv (own_hd p6))), .val (.int y31), .val (.int y41), .val (.int y51), .val (.ref b52), .val (.int (own_len (own_L y31 y41 y51 y9 y10 y11))), .val (.int y85), .val (.int (1 : Int32))] [(.int (1 : Int32))])) _
      refine XS.istore X103.here hx rfl (hb hby at_493) rfl (l' := #[.val (.long q1), .second, .val (.long q2), .second, .val (.int p3), .val (.int p4), .val (.int p5), .val (.int p6), .val (.int y1), .val (.int y2), .val (.int y3), .val (.int y4), .val (.int (p5 &&& (3 : Int32))), .val (.int (own_hd p6)), .val (.int (0 : Int32)), .val (.int (y1 * (64 : Int32))), .val (.int y9), .val (.int y10), .val (.int y11), .val (.ref b12), .val (.ref b15), .val (.ref b19), .val (.int (own_hv (own_hd p6))), .val (.int y31), .val (.int y41), .val (.int y51), .val (.ref b52), .val (.int (own_len (own_L y31 y41 y51 y9 y10 y11))), .val (.int y85), .val (.int (1 : Int32))]) rfl ?_
      show Steps p.tables e below (T103.setTop (mkF m 495 #[.val (.long q1), .second, .val (.long q2), .second, .val (.int p3), .val (.int p4), .val (.int p5), .val (.int p6), .val (.int y1), .val (.int y2), .val (.int y3), .val (.int y4), .val (.int (p5 &&& (3 : Int32))), .val (.int (own_hd p6)), .val (.int (0 : Int32)), .val (.int (y1 * (64 : Int32))), .val (.int y9), .val (.int y10), .val (.int y11), .val (.ref b12), .val (.ref b15), .val (.ref b19), .val (.int (own_hv (own_hd p6))), .val (.int y31), .val (.int y41), .val (.int y51), .val (.ref b52), .val (.int (own_len (own_L y31 y41 y51 y9 y10 y11))), .val (.int y85), .val (.int (1 : Int32))] [])) _
      refine XS.iload X103.here hx rfl (hb hby at_495) rfl ?_
      show Steps p.tables e below (T103.setTop (mkF m 497 #[.val (.long q1), .second, .val (.long q2), .second, .val (.int p3), .val (.int p4), .val (.int p5), .val (.int p6), .val (.int y1), .val (.int y2), .val (.int y3), .val (.int y4), .val (.int (p5 &&& (3 : Int32))), .val (.int (own_hd p6)), .val (.int (0 : Int32)), .val (.int (y1 * (64 : Int32))), .val (.int y9), .val (.int y10), .val (.int y11), .val (.ref b12), .val (.ref b15), .val (.ref b19), .val (.int (own_hv (own_hd p6))), .val (.int y31), .val (.int y41), .val (.int y51), .val (.ref b52), .val (.int (own_len (own_L y31 y41 y51 y9 y10 y11))), .val (.int y85), .val (.int (1 : Int32))] [(.int (1 : Int32))])) _
      exact retN X103 hx (t := .boolean) Bd.returns (by simp) (hb hby at_497) hr
    · show Q_rm0 Z q1 q2 p3 p4 p5 p6 h0 n0 _ T103.heap _
      rw [e103]
      exact ⟨rfl, N103⟩
  · obtain ⟨y112, hy112⟩ : ∃ z : Int32, z = (((y1 * (64 : Int32)) + y2).toUInt32.toUInt16.toUInt32.toInt32) := ⟨_, rfl⟩
    obtain ⟨y113, hy113⟩ : ∃ z : Int32, z = (((y1 * (64 : Int32)) + y3).toUInt32.toUInt16.toUInt32.toInt32) := ⟨_, rfl⟩
    obtain ⟨y114, hy114⟩ : ∃ z : Int32, z = (((y1 * (64 : Int32)) + y4).toUInt32.toUInt16.toUInt32.toInt32) := ⟨_, rfl⟩
    obtain ⟨T115, h115, k115, X115, e115, E115, A115, st115⟩ := newP X0 hx hZ (hw _ (List.mem_of_getElem? (i := 2) rfl)) e0 (g := (mkF m 125 #[.val (.long q1), .second, .val (.long q2), .second, .val (.int p3), .val (.int p4), .val (.int p5), .val (.int p6), .val (.int y1), .val (.int y2), .val (.int y3), .val (.int y4), .val (.int (p5 &&& (3 : Int32))), .val (.int (own_hd p6)), .val (.int (1 : Int32)), .val (.int (y1 * (64 : Int32))), .val (.int y112), .val (.int y113), .val (.int y114), .unset, .unset, .unset, .unset, .unset, .unset, .unset, .unset, .unset, .unset, .unset] [(.int (2 : Int32))])) rfl (hb hby at_125) rfl (by decide) (cap := 2) (by decide) (by decide) (by decide) (by decide)
    obtain ⟨b115, g115⟩ : ∃ z, z = h0.size := ⟨_, rfl⟩
    rw [← g115] at A115 st115
    have g_b115 : n0 ≤ b115 := Nat.le_trans Z0 (Nat.le_of_eq g115.symm)
    have Z115 : n0 ≤ h115.size := Nat.le_trans Z0 E115.1
    have V115_v115 : ArF Z h115 b115 .long 2 (fun _ => (.long 0)) := ArF.mk0 A115 rfl rfl
    obtain ⟨cl116, Ar116, S116, H116⟩ := id V115_v115
    have hin116 : ¬ ((0 : Int32) < 0 ∨ cl116.slots.size ≤ ((0 : Int32)).toNatClampNeg) := inA S116 (by decide) (by decide)
    obtain ⟨T116, h116, X116, e116, W116, st116⟩ := stJ X115 hx hZ e115 Ar116 (j := (0 : Int32)) hin116 (g := (mkF m 133 #[.val (.long q1), .second, .val (.long q2), .second, .val (.int p3), .val (.int p4), .val (.int p5), .val (.int p6), .val (.int y1), .val (.int y2), .val (.int y3), .val (.int y4), .val (.int (p5 &&& (3 : Int32))), .val (.int (own_hd p6)), .val (.int (1 : Int32)), .val (.int (y1 * (64 : Int32))), .val (.int y112), .val (.int y113), .val (.int y114), .val (.ref b115), .unset, .unset, .unset, .unset, .unset, .unset, .unset, .unset, .unset, .unset] [(.long q1), (.int (0 : Int32)), (.ref b115)])) rfl rfl (hb hby at_133)
    have Z116 : n0 ≤ h116.size := Nat.le_trans Z115 (Nat.le_of_eq W116.size.symm)
    have V116_v116 := ArF.set Ar116 S116 H116 W116 hin116
    have N116 := Fr.snoc X116 N0 g_b115
    obtain ⟨cl117, Ar117, S117, H117⟩ := id V116_v116
    have hin117 : ¬ ((1 : Int32) < 0 ∨ cl117.slots.size ≤ ((1 : Int32)).toNatClampNeg) := inA S117 (by decide) (by decide)
    obtain ⟨T117, h117, X117, e117, W117, st117⟩ := stJ X116 hx hZ e116 Ar117 (j := (1 : Int32)) hin117 (g := (mkF m 138 #[.val (.long q1), .second, .val (.long q2), .second, .val (.int p3), .val (.int p4), .val (.int p5), .val (.int p6), .val (.int y1), .val (.int y2), .val (.int y3), .val (.int y4), .val (.int (p5 &&& (3 : Int32))), .val (.int (own_hd p6)), .val (.int (1 : Int32)), .val (.int (y1 * (64 : Int32))), .val (.int y112), .val (.int y113), .val (.int y114), .val (.ref b115), .unset, .unset, .unset, .unset, .unset, .unset, .unset, .unset, .unset, .unset] [(.long q2), (.int (1 : Int32)), (.ref b115)])) rfl rfl (hb hby at_138)
    have Z117 : n0 ≤ h117.size := Nat.le_trans Z116 (Nat.le_of_eq W117.size.symm)
    have V117_v117 := ArF.set Ar117 S117 H117 W117 hin117
    have N117 := Fr.snoc X117 N116 g_b115
    have VW_v0 : ArF Z h117 b115 .long 2 (fun i => .long (own_g q1 q2 i)) := V117_v117.congr (fun i hi => by
      match i, hi with
      | 0, _ => rfl
      | 1, _ => rfl)
    obtain ⟨T118, h118, k118, X118, e118, E118, A118, st118⟩ := newP X117 hx hZ (hw _ (List.mem_of_getElem? (i := 3) rfl)) e117 (g := (mkF m 140 #[.val (.long q1), .second, .val (.long q2), .second, .val (.int p3), .val (.int p4), .val (.int p5), .val (.int p6), .val (.int y1), .val (.int y2), .val (.int y3), .val (.int y4), .val (.int (p5 &&& (3 : Int32))), .val (.int (own_hd p6)), .val (.int (1 : Int32)), .val (.int (y1 * (64 : Int32))), .val (.int y112), .val (.int y113), .val (.int y114), .val (.ref b115), .unset, .unset, .unset, .unset, .unset, .unset, .unset, .unset, .unset, .unset] [(.int (3 : Int32))])) rfl (hb hby at_140) rfl (by decide) (cap := 3) (by decide) (by decide) (by decide) (by decide)
    obtain ⟨b118, g118⟩ : ∃ z, z = h117.size := ⟨_, rfl⟩
    rw [← g118] at A118 st118
    have ne_b115_b118 : b115 ≠ b118 := Nat.ne_of_lt (Nat.lt_of_lt_of_le VW_v0.lt (Nat.le_of_eq g118.symm))
    have g_b118 : n0 ≤ b118 := Nat.le_trans Z117 (Nat.le_of_eq g118.symm)
    have VW_v118 := VW_v0.ext E118
    have Z118 : n0 ≤ h118.size := Nat.le_trans Z117 E118.1
    have V118_v118 : ArF Z h118 b118 .char 3 (fun _ => (.int 0)) := ArF.mk0 A118 rfl rfl
    obtain ⟨cl119, Ar119, S119, H119⟩ := id V118_v118
    have hin119 : ¬ ((0 : Int32) < 0 ∨ cl119.slots.size ≤ ((0 : Int32)).toNatClampNeg) := inA S119 (by decide) (by decide)
    obtain ⟨T119, h119, X119, e119, W119, st119⟩ := stC X118 hx hZ e118 Ar119 (j := (0 : Int32)) hin119 (g := (mkF m 149 #[.val (.long q1), .second, .val (.long q2), .second, .val (.int p3), .val (.int p4), .val (.int p5), .val (.int p6), .val (.int y1), .val (.int y2), .val (.int y3), .val (.int y4), .val (.int (p5 &&& (3 : Int32))), .val (.int (own_hd p6)), .val (.int (1 : Int32)), .val (.int (y1 * (64 : Int32))), .val (.int y112), .val (.int y113), .val (.int y114), .val (.ref b115), .val (.ref b118), .unset, .unset, .unset, .unset, .unset, .unset, .unset, .unset, .unset] [(.int y112), (.int (0 : Int32)), (.ref b118)])) rfl rfl (hb hby at_149)
    have VW_v119 := VW_v118.other W119 ne_b115_b118
    have Z119 : n0 ≤ h119.size := Nat.le_trans Z118 (Nat.le_of_eq W119.size.symm)
    have V119_v119 := ArF.set Ar119 S119 H119 W119 hin119
    have N119 := Fr.snoc X119 N117 g_b118
    obtain ⟨cl120, Ar120, S120, H120⟩ := id V119_v119
    have hin120 : ¬ ((1 : Int32) < 0 ∨ cl120.slots.size ≤ ((1 : Int32)).toNatClampNeg) := inA S120 (by decide) (by decide)
    obtain ⟨T120, h120, X120, e120, W120, st120⟩ := stC X119 hx hZ e119 Ar120 (j := (1 : Int32)) hin120 (g := (mkF m 155 #[.val (.long q1), .second, .val (.long q2), .second, .val (.int p3), .val (.int p4), .val (.int p5), .val (.int p6), .val (.int y1), .val (.int y2), .val (.int y3), .val (.int y4), .val (.int (p5 &&& (3 : Int32))), .val (.int (own_hd p6)), .val (.int (1 : Int32)), .val (.int (y1 * (64 : Int32))), .val (.int y112), .val (.int y113), .val (.int y114), .val (.ref b115), .val (.ref b118), .unset, .unset, .unset, .unset, .unset, .unset, .unset, .unset, .unset] [(.int y113), (.int (1 : Int32)), (.ref b118)])) rfl rfl (hb hby at_155)
    have VW_v120 := VW_v119.other W120 ne_b115_b118
    have Z120 : n0 ≤ h120.size := Nat.le_trans Z119 (Nat.le_of_eq W120.size.symm)
    have V120_v120 := ArF.set Ar120 S120 H120 W120 hin120
    have N120 := Fr.snoc X120 N119 g_b118
    obtain ⟨cl121, Ar121, S121, H121⟩ := id V120_v120
    have hin121 : ¬ ((2 : Int32) < 0 ∨ cl121.slots.size ≤ ((2 : Int32)).toNatClampNeg) := inA S121 (by decide) (by decide)
    obtain ⟨T121, h121, X121, e121, W121, st121⟩ := stC X120 hx hZ e120 Ar121 (j := (2 : Int32)) hin121 (g := (mkF m 161 #[.val (.long q1), .second, .val (.long q2), .second, .val (.int p3), .val (.int p4), .val (.int p5), .val (.int p6), .val (.int y1), .val (.int y2), .val (.int y3), .val (.int y4), .val (.int (p5 &&& (3 : Int32))), .val (.int (own_hd p6)), .val (.int (1 : Int32)), .val (.int (y1 * (64 : Int32))), .val (.int y112), .val (.int y113), .val (.int y114), .val (.ref b115), .val (.ref b118), .unset, .unset, .unset, .unset, .unset, .unset, .unset, .unset, .unset] [(.int y114), (.int (2 : Int32)), (.ref b118)])) rfl rfl (hb hby at_161)
    have VW_v121 := VW_v120.other W121 ne_b115_b118
    have Z121 : n0 ≤ h121.size := Nat.le_trans Z120 (Nat.le_of_eq W121.size.symm)
    have V121_v121 := ArF.set Ar121 S121 H121 W121 hin121
    have N121 := Fr.snoc X121 N120 g_b118
    have hq0 := own_ch hfw.1 hfw.2 ho0.1 (Int.le_trans ho0.2 (by decide)) hy112
    have hq1 := own_ch hfw.1 hfw.2 (Int.le_of_lt (Int.lt_of_le_of_lt ho0.1 ho1.1)) (Int.le_trans ho1.2 (by decide)) hy113
    have hq2 := own_ch hfw.1 hfw.2 (Int.le_of_lt (Int.lt_of_le_of_lt ho0.1 (Int.lt_trans ho1.1 ho2.1))) ho2.2 hy114
    have hb0 := own_chB hq0 hfw.1 hfw.2 ho0.1 (Int.le_trans ho0.2 (by decide))
    have hb1 := own_chB hq1 hfw.1 hfw.2 (Int.le_of_lt (Int.lt_of_le_of_lt ho0.1 ho1.1)) (Int.le_trans ho1.2 (by decide))
    have hb2 := own_chB hq2 hfw.1 hfw.2 (Int.le_of_lt (Int.lt_of_le_of_lt ho0.1 (Int.lt_trans ho1.1 ho2.1))) ho2.2
    have VV_v0 : ArF Z h121 b118 .char 3 (fun i => .int ((own_f3 y112 y113 y114) i)) := V121_v121.congr (fun i hi => by
      match i, hi with
      | 0, _ => exact congrArg Value.int (own_nar hb0.1)
      | 1, _ => exact congrArg Value.int (own_nar hb1.1)
      | 2, _ => exact congrArg Value.int (own_nar hb2.1))
    have hin := own_hin hb0 hb1 hb2
    have hcn := own_cn p5
    have pre122 : ∀ t, Steps p.tables e below (T121.setTop (mkF m 179 #[.val (.long q1), .second, .val (.long q2), .second, .val (.int p3), .val (.int p4), .val (.int p5), .val (.int p6), .val (.int y1), .val (.int y2), .val (.int y3), .val (.int y4), .val (.int (p5 &&& (3 : Int32))), .val (.int (own_hd p6)), .val (.int (1 : Int32)), .val (.int (y1 * (64 : Int32))), .val (.int y112), .val (.int y113), .val (.int y114), .val (.ref b115), .val (.ref b118), .val (.ref b118), .unset, .unset, .unset, .unset, .unset, .unset, .unset, .unset] [(.int (own_hd p6))])) t → Steps p.tables e below (s₁.setTop (entryFrame m #[(.long q1), (.long q2), (.int p3), (.int p4), (.int p5), (.int p6)] maxLocals)) t := by
      intro t k
      refine pre7 t ?_
      show Steps p.tables e below (s₁.setTop (mkF m 83 #[.val (.long q1), .second, .val (.long q2), .second, .val (.int p3), .val (.int p4), .val (.int p5), .val (.int p6), .val (.int y1), .val (.int y2), .val (.int y3), .val (.int y4), .val (.int (p5 &&& (3 : Int32))), .val (.int (own_hd p6)), .unset, .unset, .unset, .unset, .unset, .unset, .unset, .unset, .unset, .unset, .unset, .unset, .unset, .unset, .unset, .unset] [(.int (p6 &&& (2 : Int32)))])) _
      refine XS.ifNo X0.here hx rfl (hb hby at_83) rfl ((if0 _ _).trans (feq hc83_8).1) ?_
      show Steps p.tables e below (s₁.setTop (mkF m 86 #[.val (.long q1), .second, .val (.long q2), .second, .val (.int p3), .val (.int p4), .val (.int p5), .val (.int p6), .val (.int y1), .val (.int y2), .val (.int y3), .val (.int y4), .val (.int (p5 &&& (3 : Int32))), .val (.int (own_hd p6)), .unset, .unset, .unset, .unset, .unset, .unset, .unset, .unset, .unset, .unset, .unset, .unset, .unset, .unset, .unset, .unset] [])) _
      refine XS.iconst X0.here hx rfl (hb hby at_86) ?_
      refine XS.goto X0.here hx rfl (pc0 := 87) (pc' := 91) rfl (hb hby at_87) (by decide) (by decide) ?_
      show Steps p.tables e below (s₁.setTop (mkF m 91 #[.val (.long q1), .second, .val (.long q2), .second, .val (.int p3), .val (.int p4), .val (.int p5), .val (.int p6), .val (.int y1), .val (.int y2), .val (.int y3), .val (.int y4), .val (.int (p5 &&& (3 : Int32))), .val (.int (own_hd p6)), .unset, .unset, .unset, .unset, .unset, .unset, .unset, .unset, .unset, .unset, .unset, .unset, .unset, .unset, .unset, .unset] [(.int (1 : Int32))])) _
      refine XS.istore X0.here hx rfl (hb hby at_91) rfl (l' := #[.val (.long q1), .second, .val (.long q2), .second, .val (.int p3), .val (.int p4), .val (.int p5), .val (.int p6), .val (.int y1), .val (.int y2), .val (.int y3), .val (.int y4), .val (.int (p5 &&& (3 : Int32))), .val (.int (own_hd p6)), .val (.int (1 : Int32)), .unset, .unset, .unset, .unset, .unset, .unset, .unset, .unset, .unset, .unset, .unset, .unset, .unset, .unset, .unset]) rfl ?_
      show Steps p.tables e below (s₁.setTop (mkF m 93 #[.val (.long q1), .second, .val (.long q2), .second, .val (.int p3), .val (.int p4), .val (.int p5), .val (.int p6), .val (.int y1), .val (.int y2), .val (.int y3), .val (.int y4), .val (.int (p5 &&& (3 : Int32))), .val (.int (own_hd p6)), .val (.int (1 : Int32)), .unset, .unset, .unset, .unset, .unset, .unset, .unset, .unset, .unset, .unset, .unset, .unset, .unset, .unset, .unset] [])) _
      refine XS.iload X0.here hx rfl (hb hby at_93) rfl ?_
      refine XS.bipush X0.here hx rfl (hb hby at_95) ?_
      refine XS.imul X0.here hx rfl (hb hby at_97) rfl ?_
      show Steps p.tables e below (s₁.setTop (mkF m 98 #[.val (.long q1), .second, .val (.long q2), .second, .val (.int p3), .val (.int p4), .val (.int p5), .val (.int p6), .val (.int y1), .val (.int y2), .val (.int y3), .val (.int y4), .val (.int (p5 &&& (3 : Int32))), .val (.int (own_hd p6)), .val (.int (1 : Int32)), .unset, .unset, .unset, .unset, .unset, .unset, .unset, .unset, .unset, .unset, .unset, .unset, .unset, .unset, .unset] [(.int (y1 * (64 : Int32)))])) _
      refine XS.istore X0.here hx rfl (hb hby at_98) rfl (l' := #[.val (.long q1), .second, .val (.long q2), .second, .val (.int p3), .val (.int p4), .val (.int p5), .val (.int p6), .val (.int y1), .val (.int y2), .val (.int y3), .val (.int y4), .val (.int (p5 &&& (3 : Int32))), .val (.int (own_hd p6)), .val (.int (1 : Int32)), .val (.int (y1 * (64 : Int32))), .unset, .unset, .unset, .unset, .unset, .unset, .unset, .unset, .unset, .unset, .unset, .unset, .unset, .unset]) rfl ?_
      show Steps p.tables e below (s₁.setTop (mkF m 100 #[.val (.long q1), .second, .val (.long q2), .second, .val (.int p3), .val (.int p4), .val (.int p5), .val (.int p6), .val (.int y1), .val (.int y2), .val (.int y3), .val (.int y4), .val (.int (p5 &&& (3 : Int32))), .val (.int (own_hd p6)), .val (.int (1 : Int32)), .val (.int (y1 * (64 : Int32))), .unset, .unset, .unset, .unset, .unset, .unset, .unset, .unset, .unset, .unset, .unset, .unset, .unset, .unset] [])) _
      refine XS.iload X0.here hx rfl (hb hby at_100) rfl ?_
      refine XS.iload X0.here hx rfl (hb hby at_102) rfl ?_
      refine XS.iadd X0.here hx rfl (hb hby at_104) rfl ?_
      show Steps p.tables e below (s₁.setTop (mkF m 105 #[.val (.long q1), .second, .val (.long q2), .second, .val (.int p3), .val (.int p4), .val (.int p5), .val (.int p6), .val (.int y1), .val (.int y2), .val (.int y3), .val (.int y4), .val (.int (p5 &&& (3 : Int32))), .val (.int (own_hd p6)), .val (.int (1 : Int32)), .val (.int (y1 * (64 : Int32))), .unset, .unset, .unset, .unset, .unset, .unset, .unset, .unset, .unset, .unset, .unset, .unset, .unset, .unset] [(.int ((y1 * (64 : Int32)) + y2))])) _
      refine XS.i2c X0.here hx rfl (hb hby at_105) rfl ?_
      show Steps p.tables e below (s₁.setTop (mkF m 106 #[.val (.long q1), .second, .val (.long q2), .second, .val (.int p3), .val (.int p4), .val (.int p5), .val (.int p6), .val (.int y1), .val (.int y2), .val (.int y3), .val (.int y4), .val (.int (p5 &&& (3 : Int32))), .val (.int (own_hd p6)), .val (.int (1 : Int32)), .val (.int (y1 * (64 : Int32))), .unset, .unset, .unset, .unset, .unset, .unset, .unset, .unset, .unset, .unset, .unset, .unset, .unset, .unset] [(.int (((y1 * (64 : Int32)) + y2).toUInt32.toUInt16.toUInt32.toInt32))])) _
      rw [← hy112]
      refine XS.istore X0.here hx rfl (hb hby at_106) rfl (l' := #[.val (.long q1), .second, .val (.long q2), .second, .val (.int p3), .val (.int p4), .val (.int p5), .val (.int p6), .val (.int y1), .val (.int y2), .val (.int y3), .val (.int y4), .val (.int (p5 &&& (3 : Int32))), .val (.int (own_hd p6)), .val (.int (1 : Int32)), .val (.int (y1 * (64 : Int32))), .val (.int y112), .unset, .unset, .unset, .unset, .unset, .unset, .unset, .unset, .unset, .unset, .unset, .unset, .unset]) rfl ?_
      show Steps p.tables e below (s₁.setTop (mkF m 108 #[.val (.long q1), .second, .val (.long q2), .second, .val (.int p3), .val (.int p4), .val (.int p5), .val (.int p6), .val (.int y1), .val (.int y2), .val (.int y3), .val (.int y4), .val (.int (p5 &&& (3 : Int32))), .val (.int (own_hd p6)), .val (.int (1 : Int32)), .val (.int (y1 * (64 : Int32))), .val (.int y112), .unset, .unset, .unset, .unset, .unset, .unset, .unset, .unset, .unset, .unset, .unset, .unset, .unset] [])) _
      refine XS.iload X0.here hx rfl (hb hby at_108) rfl ?_
      refine XS.iload X0.here hx rfl (hb hby at_110) rfl ?_
      refine XS.iadd X0.here hx rfl (hb hby at_112) rfl ?_
      show Steps p.tables e below (s₁.setTop (mkF m 113 #[.val (.long q1), .second, .val (.long q2), .second, .val (.int p3), .val (.int p4), .val (.int p5), .val (.int p6), .val (.int y1), .val (.int y2), .val (.int y3), .val (.int y4), .val (.int (p5 &&& (3 : Int32))), .val (.int (own_hd p6)), .val (.int (1 : Int32)), .val (.int (y1 * (64 : Int32))), .val (.int y112), .unset, .unset, .unset, .unset, .unset, .unset, .unset, .unset, .unset, .unset, .unset, .unset, .unset] [(.int ((y1 * (64 : Int32)) + y3))])) _
      refine XS.i2c X0.here hx rfl (hb hby at_113) rfl ?_
      show Steps p.tables e below (s₁.setTop (mkF m 114 #[.val (.long q1), .second, .val (.long q2), .second, .val (.int p3), .val (.int p4), .val (.int p5), .val (.int p6), .val (.int y1), .val (.int y2), .val (.int y3), .val (.int y4), .val (.int (p5 &&& (3 : Int32))), .val (.int (own_hd p6)), .val (.int (1 : Int32)), .val (.int (y1 * (64 : Int32))), .val (.int y112), .unset, .unset, .unset, .unset, .unset, .unset, .unset, .unset, .unset, .unset, .unset, .unset, .unset] [(.int (((y1 * (64 : Int32)) + y3).toUInt32.toUInt16.toUInt32.toInt32))])) _
      rw [← hy113]
      refine XS.istore X0.here hx rfl (hb hby at_114) rfl (l' := #[.val (.long q1), .second, .val (.long q2), .second, .val (.int p3), .val (.int p4), .val (.int p5), .val (.int p6), .val (.int y1), .val (.int y2), .val (.int y3), .val (.int y4), .val (.int (p5 &&& (3 : Int32))), .val (.int (own_hd p6)), .val (.int (1 : Int32)), .val (.int (y1 * (64 : Int32))), .val (.int y112), .val (.int y113), .unset, .unset, .unset, .unset, .unset, .unset, .unset, .unset, .unset, .unset, .unset, .unset]) rfl ?_
      show Steps p.tables e below (s₁.setTop (mkF m 116 #[.val (.long q1), .second, .val (.long q2), .second, .val (.int p3), .val (.int p4), .val (.int p5), .val (.int p6), .val (.int y1), .val (.int y2), .val (.int y3), .val (.int y4), .val (.int (p5 &&& (3 : Int32))), .val (.int (own_hd p6)), .val (.int (1 : Int32)), .val (.int (y1 * (64 : Int32))), .val (.int y112), .val (.int y113), .unset, .unset, .unset, .unset, .unset, .unset, .unset, .unset, .unset, .unset, .unset, .unset] [])) _
      refine XS.iload X0.here hx rfl (hb hby at_116) rfl ?_
      refine XS.iload X0.here hx rfl (hb hby at_118) rfl ?_
      refine XS.iadd X0.here hx rfl (hb hby at_120) rfl ?_
      show Steps p.tables e below (s₁.setTop (mkF m 121 #[.val (.long q1), .second, .val (.long q2), .second, .val (.int p3), .val (.int p4), .val (.int p5), .val (.int p6), .val (.int y1), .val (.int y2), .val (.int y3), .val (.int y4), .val (.int (p5 &&& (3 : Int32))), .val (.int (own_hd p6)), .val (.int (1 : Int32)), .val (.int (y1 * (64 : Int32))), .val (.int y112), .val (.int y113), .unset, .unset, .unset, .unset, .unset, .unset, .unset, .unset, .unset, .unset, .unset, .unset] [(.int ((y1 * (64 : Int32)) + y4))])) _
      refine XS.i2c X0.here hx rfl (hb hby at_121) rfl ?_
      show Steps p.tables e below (s₁.setTop (mkF m 122 #[.val (.long q1), .second, .val (.long q2), .second, .val (.int p3), .val (.int p4), .val (.int p5), .val (.int p6), .val (.int y1), .val (.int y2), .val (.int y3), .val (.int y4), .val (.int (p5 &&& (3 : Int32))), .val (.int (own_hd p6)), .val (.int (1 : Int32)), .val (.int (y1 * (64 : Int32))), .val (.int y112), .val (.int y113), .unset, .unset, .unset, .unset, .unset, .unset, .unset, .unset, .unset, .unset, .unset, .unset] [(.int (((y1 * (64 : Int32)) + y4).toUInt32.toUInt16.toUInt32.toInt32))])) _
      rw [← hy114]
      refine XS.istore X0.here hx rfl (hb hby at_122) rfl (l' := #[.val (.long q1), .second, .val (.long q2), .second, .val (.int p3), .val (.int p4), .val (.int p5), .val (.int p6), .val (.int y1), .val (.int y2), .val (.int y3), .val (.int y4), .val (.int (p5 &&& (3 : Int32))), .val (.int (own_hd p6)), .val (.int (1 : Int32)), .val (.int (y1 * (64 : Int32))), .val (.int y112), .val (.int y113), .val (.int y114), .unset, .unset, .unset, .unset, .unset, .unset, .unset, .unset, .unset, .unset, .unset]) rfl ?_
      show Steps p.tables e below (s₁.setTop (mkF m 124 #[.val (.long q1), .second, .val (.long q2), .second, .val (.int p3), .val (.int p4), .val (.int p5), .val (.int p6), .val (.int y1), .val (.int y2), .val (.int y3), .val (.int y4), .val (.int (p5 &&& (3 : Int32))), .val (.int (own_hd p6)), .val (.int (1 : Int32)), .val (.int (y1 * (64 : Int32))), .val (.int y112), .val (.int y113), .val (.int y114), .unset, .unset, .unset, .unset, .unset, .unset, .unset, .unset, .unset, .unset, .unset] [])) _
      refine XS.iconst X0.here hx rfl (hb hby at_124) ?_
      show Steps p.tables e below (s₁.setTop (mkF m 125 #[.val (.long q1), .second, .val (.long q2), .second, .val (.int p3), .val (.int p4), .val (.int p5), .val (.int p6), .val (.int y1), .val (.int y2), .val (.int y3), .val (.int y4), .val (.int (p5 &&& (3 : Int32))), .val (.int (own_hd p6)), .val (.int (1 : Int32)), .val (.int (y1 * (64 : Int32))), .val (.int y112), .val (.int y113), .val (.int y114), .unset, .unset, .unset, .unset, .unset, .unset, .unset, .unset, .unset, .unset, .unset] [(.int (2 : Int32))])) _
      refine st115 _ ?_
      show Steps p.tables e below (T115.setTop (mkF m 127 #[.val (.long q1), .second, .val (.long q2), .second, .val (.int p3), .val (.int p4), .val (.int p5), .val (.int p6), .val (.int y1), .val (.int y2), .val (.int y3), .val (.int y4), .val (.int (p5 &&& (3 : Int32))), .val (.int (own_hd p6)), .val (.int (1 : Int32)), .val (.int (y1 * (64 : Int32))), .val (.int y112), .val (.int y113), .val (.int y114), .unset, .unset, .unset, .unset, .unset, .unset, .unset, .unset, .unset, .unset, .unset] [(.ref b115)])) _
      refine XS.astore X115.here hx rfl (hb hby at_127) rfl rfl (l' := #[.val (.long q1), .second, .val (.long q2), .second, .val (.int p3), .val (.int p4), .val (.int p5), .val (.int p6), .val (.int y1), .val (.int y2), .val (.int y3), .val (.int y4), .val (.int (p5 &&& (3 : Int32))), .val (.int (own_hd p6)), .val (.int (1 : Int32)), .val (.int (y1 * (64 : Int32))), .val (.int y112), .val (.int y113), .val (.int y114), .val (.ref b115), .unset, .unset, .unset, .unset, .unset, .unset, .unset, .unset, .unset, .unset]) rfl ?_
      show Steps p.tables e below (T115.setTop (mkF m 129 #[.val (.long q1), .second, .val (.long q2), .second, .val (.int p3), .val (.int p4), .val (.int p5), .val (.int p6), .val (.int y1), .val (.int y2), .val (.int y3), .val (.int y4), .val (.int (p5 &&& (3 : Int32))), .val (.int (own_hd p6)), .val (.int (1 : Int32)), .val (.int (y1 * (64 : Int32))), .val (.int y112), .val (.int y113), .val (.int y114), .val (.ref b115), .unset, .unset, .unset, .unset, .unset, .unset, .unset, .unset, .unset, .unset] [])) _
      refine XS.aload X115.here hx rfl (hb hby at_129) rfl rfl ?_
      refine XS.iconst X115.here hx rfl (hb hby at_131) ?_
      refine XS.lloadN X115.here hx rfl (hb hby at_132) rfl ?_
      show Steps p.tables e below (T115.setTop (mkF m 133 #[.val (.long q1), .second, .val (.long q2), .second, .val (.int p3), .val (.int p4), .val (.int p5), .val (.int p6), .val (.int y1), .val (.int y2), .val (.int y3), .val (.int y4), .val (.int (p5 &&& (3 : Int32))), .val (.int (own_hd p6)), .val (.int (1 : Int32)), .val (.int (y1 * (64 : Int32))), .val (.int y112), .val (.int y113), .val (.int y114), .val (.ref b115), .unset, .unset, .unset, .unset, .unset, .unset, .unset, .unset, .unset, .unset] [(.long q1), (.int (0 : Int32)), (.ref b115)])) _
      refine st116 _ ?_
      show Steps p.tables e below (T116.setTop (mkF m 134 #[.val (.long q1), .second, .val (.long q2), .second, .val (.int p3), .val (.int p4), .val (.int p5), .val (.int p6), .val (.int y1), .val (.int y2), .val (.int y3), .val (.int y4), .val (.int (p5 &&& (3 : Int32))), .val (.int (own_hd p6)), .val (.int (1 : Int32)), .val (.int (y1 * (64 : Int32))), .val (.int y112), .val (.int y113), .val (.int y114), .val (.ref b115), .unset, .unset, .unset, .unset, .unset, .unset, .unset, .unset, .unset, .unset] [])) _
      refine XS.aload X116.here hx rfl (hb hby at_134) rfl rfl ?_
      refine XS.iconst X116.here hx rfl (hb hby at_136) ?_
      refine XS.lloadN X116.here hx rfl (hb hby at_137) rfl ?_
      show Steps p.tables e below (T116.setTop (mkF m 138 #[.val (.long q1), .second, .val (.long q2), .second, .val (.int p3), .val (.int p4), .val (.int p5), .val (.int p6), .val (.int y1), .val (.int y2), .val (.int y3), .val (.int y4), .val (.int (p5 &&& (3 : Int32))), .val (.int (own_hd p6)), .val (.int (1 : Int32)), .val (.int (y1 * (64 : Int32))), .val (.int y112), .val (.int y113), .val (.int y114), .val (.ref b115), .unset, .unset, .unset, .unset, .unset, .unset, .unset, .unset, .unset, .unset] [(.long q2), (.int (1 : Int32)), (.ref b115)])) _
      refine st117 _ ?_
      show Steps p.tables e below (T117.setTop (mkF m 139 #[.val (.long q1), .second, .val (.long q2), .second, .val (.int p3), .val (.int p4), .val (.int p5), .val (.int p6), .val (.int y1), .val (.int y2), .val (.int y3), .val (.int y4), .val (.int (p5 &&& (3 : Int32))), .val (.int (own_hd p6)), .val (.int (1 : Int32)), .val (.int (y1 * (64 : Int32))), .val (.int y112), .val (.int y113), .val (.int y114), .val (.ref b115), .unset, .unset, .unset, .unset, .unset, .unset, .unset, .unset, .unset, .unset] [])) _
      refine XS.iconst X117.here hx rfl (hb hby at_139) ?_
      show Steps p.tables e below (T117.setTop (mkF m 140 #[.val (.long q1), .second, .val (.long q2), .second, .val (.int p3), .val (.int p4), .val (.int p5), .val (.int p6), .val (.int y1), .val (.int y2), .val (.int y3), .val (.int y4), .val (.int (p5 &&& (3 : Int32))), .val (.int (own_hd p6)), .val (.int (1 : Int32)), .val (.int (y1 * (64 : Int32))), .val (.int y112), .val (.int y113), .val (.int y114), .val (.ref b115), .unset, .unset, .unset, .unset, .unset, .unset, .unset, .unset, .unset, .unset] [(.int (3 : Int32))])) _
      refine st118 _ ?_
      show Steps p.tables e below (T118.setTop (mkF m 142 #[.val (.long q1), .second, .val (.long q2), .second, .val (.int p3), .val (.int p4), .val (.int p5), .val (.int p6), .val (.int y1), .val (.int y2), .val (.int y3), .val (.int y4), .val (.int (p5 &&& (3 : Int32))), .val (.int (own_hd p6)), .val (.int (1 : Int32)), .val (.int (y1 * (64 : Int32))), .val (.int y112), .val (.int y113), .val (.int y114), .val (.ref b115), .unset, .unset, .unset, .unset, .unset, .unset, .unset, .unset, .unset, .unset] [(.ref b118)])) _
      refine XS.astore X118.here hx rfl (hb hby at_142) rfl rfl (l' := #[.val (.long q1), .second, .val (.long q2), .second, .val (.int p3), .val (.int p4), .val (.int p5), .val (.int p6), .val (.int y1), .val (.int y2), .val (.int y3), .val (.int y4), .val (.int (p5 &&& (3 : Int32))), .val (.int (own_hd p6)), .val (.int (1 : Int32)), .val (.int (y1 * (64 : Int32))), .val (.int y112), .val (.int y113), .val (.int y114), .val (.ref b115), .val (.ref b118), .unset, .unset, .unset, .unset, .unset, .unset, .unset, .unset, .unset]) rfl ?_
      show Steps p.tables e below (T118.setTop (mkF m 144 #[.val (.long q1), .second, .val (.long q2), .second, .val (.int p3), .val (.int p4), .val (.int p5), .val (.int p6), .val (.int y1), .val (.int y2), .val (.int y3), .val (.int y4), .val (.int (p5 &&& (3 : Int32))), .val (.int (own_hd p6)), .val (.int (1 : Int32)), .val (.int (y1 * (64 : Int32))), .val (.int y112), .val (.int y113), .val (.int y114), .val (.ref b115), .val (.ref b118), .unset, .unset, .unset, .unset, .unset, .unset, .unset, .unset, .unset] [])) _
      refine XS.aload X118.here hx rfl (hb hby at_144) rfl rfl ?_
      refine XS.iconst X118.here hx rfl (hb hby at_146) ?_
      refine XS.iload X118.here hx rfl (hb hby at_147) rfl ?_
      show Steps p.tables e below (T118.setTop (mkF m 149 #[.val (.long q1), .second, .val (.long q2), .second, .val (.int p3), .val (.int p4), .val (.int p5), .val (.int p6), .val (.int y1), .val (.int y2), .val (.int y3), .val (.int y4), .val (.int (p5 &&& (3 : Int32))), .val (.int (own_hd p6)), .val (.int (1 : Int32)), .val (.int (y1 * (64 : Int32))), .val (.int y112), .val (.int y113), .val (.int y114), .val (.ref b115), .val (.ref b118), .unset, .unset, .unset, .unset, .unset, .unset, .unset, .unset, .unset] [(.int y112), (.int (0 : Int32)), (.ref b118)])) _
      refine st119 _ ?_
      show Steps p.tables e below (T119.setTop (mkF m 150 #[.val (.long q1), .second, .val (.long q2), .second, .val (.int p3), .val (.int p4), .val (.int p5), .val (.int p6), .val (.int y1), .val (.int y2), .val (.int y3), .val (.int y4), .val (.int (p5 &&& (3 : Int32))), .val (.int (own_hd p6)), .val (.int (1 : Int32)), .val (.int (y1 * (64 : Int32))), .val (.int y112), .val (.int y113), .val (.int y114), .val (.ref b115), .val (.ref b118), .unset, .unset, .unset, .unset, .unset, .unset, .unset, .unset, .unset] [])) _
      refine XS.aload X119.here hx rfl (hb hby at_150) rfl rfl ?_
      refine XS.iconst X119.here hx rfl (hb hby at_152) ?_
      refine XS.iload X119.here hx rfl (hb hby at_153) rfl ?_
      show Steps p.tables e below (T119.setTop (mkF m 155 #[.val (.long q1), .second, .val (.long q2), .second, .val (.int p3), .val (.int p4), .val (.int p5), .val (.int p6), .val (.int y1), .val (.int y2), .val (.int y3), .val (.int y4), .val (.int (p5 &&& (3 : Int32))), .val (.int (own_hd p6)), .val (.int (1 : Int32)), .val (.int (y1 * (64 : Int32))), .val (.int y112), .val (.int y113), .val (.int y114), .val (.ref b115), .val (.ref b118), .unset, .unset, .unset, .unset, .unset, .unset, .unset, .unset, .unset] [(.int y113), (.int (1 : Int32)), (.ref b118)])) _
      refine st120 _ ?_
      show Steps p.tables e below (T120.setTop (mkF m 156 #[.val (.long q1), .second, .val (.long q2), .second, .val (.int p3), .val (.int p4), .val (.int p5), .val (.int p6), .val (.int y1), .val (.int y2), .val (.int y3), .val (.int y4), .val (.int (p5 &&& (3 : Int32))), .val (.int (own_hd p6)), .val (.int (1 : Int32)), .val (.int (y1 * (64 : Int32))), .val (.int y112), .val (.int y113), .val (.int y114), .val (.ref b115), .val (.ref b118), .unset, .unset, .unset, .unset, .unset, .unset, .unset, .unset, .unset] [])) _
      refine XS.aload X120.here hx rfl (hb hby at_156) rfl rfl ?_
      refine XS.iconst X120.here hx rfl (hb hby at_158) ?_
      refine XS.iload X120.here hx rfl (hb hby at_159) rfl ?_
      show Steps p.tables e below (T120.setTop (mkF m 161 #[.val (.long q1), .second, .val (.long q2), .second, .val (.int p3), .val (.int p4), .val (.int p5), .val (.int p6), .val (.int y1), .val (.int y2), .val (.int y3), .val (.int y4), .val (.int (p5 &&& (3 : Int32))), .val (.int (own_hd p6)), .val (.int (1 : Int32)), .val (.int (y1 * (64 : Int32))), .val (.int y112), .val (.int y113), .val (.int y114), .val (.ref b115), .val (.ref b118), .unset, .unset, .unset, .unset, .unset, .unset, .unset, .unset, .unset] [(.int y114), (.int (2 : Int32)), (.ref b118)])) _
      refine st121 _ ?_
      show Steps p.tables e below (T121.setTop (mkF m 162 #[.val (.long q1), .second, .val (.long q2), .second, .val (.int p3), .val (.int p4), .val (.int p5), .val (.int p6), .val (.int y1), .val (.int y2), .val (.int y3), .val (.int y4), .val (.int (p5 &&& (3 : Int32))), .val (.int (own_hd p6)), .val (.int (1 : Int32)), .val (.int (y1 * (64 : Int32))), .val (.int y112), .val (.int y113), .val (.int y114), .val (.ref b115), .val (.ref b118), .unset, .unset, .unset, .unset, .unset, .unset, .unset, .unset, .unset] [])) _
      refine XS.iload X121.here hx rfl (hb hby at_162) rfl ?_
      refine XS.ifNo X121.here hx rfl (hb hby at_164) rfl ((if0 _ _).trans (feq (by decide : ¬ ((1 : Int32) = (0 : Int32)))).1) ?_
      show Steps p.tables e below (T121.setTop (mkF m 167 #[.val (.long q1), .second, .val (.long q2), .second, .val (.int p3), .val (.int p4), .val (.int p5), .val (.int p6), .val (.int y1), .val (.int y2), .val (.int y3), .val (.int y4), .val (.int (p5 &&& (3 : Int32))), .val (.int (own_hd p6)), .val (.int (1 : Int32)), .val (.int (y1 * (64 : Int32))), .val (.int y112), .val (.int y113), .val (.int y114), .val (.ref b115), .val (.ref b118), .unset, .unset, .unset, .unset, .unset, .unset, .unset, .unset, .unset] [])) _
      refine XS.aload X121.here hx rfl (hb hby at_167) rfl rfl ?_
      refine XS.goto X121.here hx rfl (pc0 := 169) (pc' := 175) rfl (hb hby at_169) (by decide) (by decide) ?_
      show Steps p.tables e below (T121.setTop (mkF m 175 #[.val (.long q1), .second, .val (.long q2), .second, .val (.int p3), .val (.int p4), .val (.int p5), .val (.int p6), .val (.int y1), .val (.int y2), .val (.int y3), .val (.int y4), .val (.int (p5 &&& (3 : Int32))), .val (.int (own_hd p6)), .val (.int (1 : Int32)), .val (.int (y1 * (64 : Int32))), .val (.int y112), .val (.int y113), .val (.int y114), .val (.ref b115), .val (.ref b118), .unset, .unset, .unset, .unset, .unset, .unset, .unset, .unset, .unset] [(.ref b118)])) _
      refine XS.astore X121.here hx rfl (hb hby at_175) rfl rfl (l' := #[.val (.long q1), .second, .val (.long q2), .second, .val (.int p3), .val (.int p4), .val (.int p5), .val (.int p6), .val (.int y1), .val (.int y2), .val (.int y3), .val (.int y4), .val (.int (p5 &&& (3 : Int32))), .val (.int (own_hd p6)), .val (.int (1 : Int32)), .val (.int (y1 * (64 : Int32))), .val (.int y112), .val (.int y113), .val (.int y114), .val (.ref b115), .val (.ref b118), .val (.ref b118), .unset, .unset, .unset, .unset, .unset, .unset, .unset, .unset]) rfl ?_
      show Steps p.tables e below (T121.setTop (mkF m 177 #[.val (.long q1), .second, .val (.long q2), .second, .val (.int p3), .val (.int p4), .val (.int p5), .val (.int p6), .val (.int y1), .val (.int y2), .val (.int y3), .val (.int y4), .val (.int (p5 &&& (3 : Int32))), .val (.int (own_hd p6)), .val (.int (1 : Int32)), .val (.int (y1 * (64 : Int32))), .val (.int y112), .val (.int y113), .val (.int y114), .val (.ref b115), .val (.ref b118), .val (.ref b118), .unset, .unset, .unset, .unset, .unset, .unset, .unset, .unset] [])) _
      refine XS.iload X121.here hx rfl (hb hby at_177) rfl ?_
      exact k
    have pre123 : ∀ t, Steps p.tables e below (T121.setTop (mkF m 187 #[.val (.long q1), .second, .val (.long q2), .second, .val (.int p3), .val (.int p4), .val (.int p5), .val (.int p6), .val (.int y1), .val (.int y2), .val (.int y3), .val (.int y4), .val (.int (p5 &&& (3 : Int32))), .val (.int (own_hd p6)), .val (.int (1 : Int32)), .val (.int (y1 * (64 : Int32))), .val (.int y112), .val (.int y113), .val (.int y114), .val (.ref b115), .val (.ref b118), .val (.ref b118), .unset, .unset, .unset, .unset, .unset, .unset, .unset, .unset] [(.int (own_hv (own_hd p6)))])) t → Steps p.tables e below (s₁.setTop (entryFrame m #[(.long q1), (.long q2), (.int p3), (.int p4), (.int p5), (.int p6)] maxLocals)) t := by
      intro t k
      by_cases hd123 : (own_hd p6) = (0 : Int32)
      · rw [show (own_hv (own_hd p6)) = (0 : Int32) from if_pos hd123] at k
        refine pre122 t ?_
        show Steps p.tables e below (T121.setTop (mkF m 179 #[.val (.long q1), .second, .val (.long q2), .second, .val (.int p3), .val (.int p4), .val (.int p5), .val (.int p6), .val (.int y1), .val (.int y2), .val (.int y3), .val (.int y4), .val (.int (p5 &&& (3 : Int32))), .val (.int (own_hd p6)), .val (.int (1 : Int32)), .val (.int (y1 * (64 : Int32))), .val (.int y112), .val (.int y113), .val (.int y114), .val (.ref b115), .val (.ref b118), .val (.ref b118), .unset, .unset, .unset, .unset, .unset, .unset, .unset, .unset] [(.int (own_hd p6))])) _
        refine XS.ifYes X121.here hx rfl (pc0 := 179) (pc' := 186) rfl (hb hby at_179) rfl ((if0 _ _).trans (teq (hd123 : ((own_hd p6) = (0 : Int32)))).1) (by decide) (by decide) ?_
        show Steps p.tables e below (T121.setTop (mkF m 186 #[.val (.long q1), .second, .val (.long q2), .second, .val (.int p3), .val (.int p4), .val (.int p5), .val (.int p6), .val (.int y1), .val (.int y2), .val (.int y3), .val (.int y4), .val (.int (p5 &&& (3 : Int32))), .val (.int (own_hd p6)), .val (.int (1 : Int32)), .val (.int (y1 * (64 : Int32))), .val (.int y112), .val (.int y113), .val (.int y114), .val (.ref b115), .val (.ref b118), .val (.ref b118), .unset, .unset, .unset, .unset, .unset, .unset, .unset, .unset] [])) _
        refine XS.iconst X121.here hx rfl (hb hby at_186) ?_
        exact k
      · rw [show (own_hv (own_hd p6)) = (1 : Int32) from if_neg hd123] at k
        refine pre122 t ?_
        show Steps p.tables e below (T121.setTop (mkF m 179 #[.val (.long q1), .second, .val (.long q2), .second, .val (.int p3), .val (.int p4), .val (.int p5), .val (.int p6), .val (.int y1), .val (.int y2), .val (.int y3), .val (.int y4), .val (.int (p5 &&& (3 : Int32))), .val (.int (own_hd p6)), .val (.int (1 : Int32)), .val (.int (y1 * (64 : Int32))), .val (.int y112), .val (.int y113), .val (.int y114), .val (.ref b115), .val (.ref b118), .val (.ref b118), .unset, .unset, .unset, .unset, .unset, .unset, .unset, .unset] [(.int (own_hd p6))])) _
        refine XS.ifNo X121.here hx rfl (hb hby at_179) rfl ((if0 _ _).trans (feq (hd123 : ¬ ((own_hd p6) = (0 : Int32)))).1) ?_
        show Steps p.tables e below (T121.setTop (mkF m 182 #[.val (.long q1), .second, .val (.long q2), .second, .val (.int p3), .val (.int p4), .val (.int p5), .val (.int p6), .val (.int y1), .val (.int y2), .val (.int y3), .val (.int y4), .val (.int (p5 &&& (3 : Int32))), .val (.int (own_hd p6)), .val (.int (1 : Int32)), .val (.int (y1 * (64 : Int32))), .val (.int y112), .val (.int y113), .val (.int y114), .val (.ref b115), .val (.ref b118), .val (.ref b118), .unset, .unset, .unset, .unset, .unset, .unset, .unset, .unset] [])) _
        refine XS.iconst X121.here hx rfl (hb hby at_182) ?_
        refine XS.goto X121.here hx rfl (pc0 := 183) (pc' := 187) rfl (hb hby at_183) (by decide) (by decide) ?_
        exact k
    have pre124 : ∀ t, Steps p.tables e below (T121.setTop (mkF m 191 #[.val (.long q1), .second, .val (.long q2), .second, .val (.int p3), .val (.int p4), .val (.int p5), .val (.int p6), .val (.int y1), .val (.int y2), .val (.int y3), .val (.int y4), .val (.int (p5 &&& (3 : Int32))), .val (.int (own_hd p6)), .val (.int (1 : Int32)), .val (.int (y1 * (64 : Int32))), .val (.int y112), .val (.int y113), .val (.int y114), .val (.ref b115), .val (.ref b118), .val (.ref b118), .val (.int (own_hv (own_hd p6))), .unset, .unset, .unset, .unset, .unset, .unset, .unset] [(.int (p5 &&& (3 : Int32)))])) t → Steps p.tables e below (s₁.setTop (entryFrame m #[(.long q1), (.long q2), (.int p3), (.int p4), (.int p5), (.int p6)] maxLocals)) t := by
      intro t k
      refine pre123 t ?_
      show Steps p.tables e below (T121.setTop (mkF m 187 #[.val (.long q1), .second, .val (.long q2), .second, .val (.int p3), .val (.int p4), .val (.int p5), .val (.int p6), .val (.int y1), .val (.int y2), .val (.int y3), .val (.int y4), .val (.int (p5 &&& (3 : Int32))), .val (.int (own_hd p6)), .val (.int (1 : Int32)), .val (.int (y1 * (64 : Int32))), .val (.int y112), .val (.int y113), .val (.int y114), .val (.ref b115), .val (.ref b118), .val (.ref b118), .unset, .unset, .unset, .unset, .unset, .unset, .unset, .unset] [(.int (own_hv (own_hd p6)))])) _
      refine XS.istore X121.here hx rfl (hb hby at_187) rfl (l' := #[.val (.long q1), .second, .val (.long q2), .second, .val (.int p3), .val (.int p4), .val (.int p5), .val (.int p6), .val (.int y1), .val (.int y2), .val (.int y3), .val (.int y4), .val (.int (p5 &&& (3 : Int32))), .val (.int (own_hd p6)), .val (.int (1 : Int32)), .val (.int (y1 * (64 : Int32))), .val (.int y112), .val (.int y113), .val (.int y114), .val (.ref b115), .val (.ref b118), .val (.ref b118), .val (.int (own_hv (own_hd p6))), .unset, .unset, .unset, .unset, .unset, .unset, .unset]) rfl ?_
      show Steps p.tables e below (T121.setTop (mkF m 189 #[.val (.long q1), .second, .val (.long q2), .second, .val (.int p3), .val (.int p4), .val (.int p5), .val (.int p6), .val (.int y1), .val (.int y2), .val (.int y3), .val (.int y4), .val (.int (p5 &&& (3 : Int32))), .val (.int (own_hd p6)), .val (.int (1 : Int32)), .val (.int (y1 * (64 : Int32))), .val (.int y112), .val (.int y113), .val (.int y114), .val (.ref b115), .val (.ref b118), .val (.ref b118), .val (.int (own_hv (own_hd p6))), .unset, .unset, .unset, .unset, .unset, .unset, .unset] [])) _
      refine XS.iload X121.here hx rfl (hb hby at_189) rfl ?_
      exact k
    obtain ⟨T125, L125, X125, e125, N125, pre125⟩ : ∃ (T' : State) (L' : List Loc), Stand p l e room_1 s m #[(.long q1), (.long q2), (.int p3), (.int p4), (.int p5), (.int p6)] below meth c T' L' 2 5 ∧ T'.heap = h121 ∧ Fr n0 L' ∧ ∀ t, Steps p.tables e below (T'.setTop (mkF m 211 #[.val (.long q1), .second, .val (.long q2), .second, .val (.int p3), .val (.int p4), .val (.int p5), .val (.int p6), .val (.int y1), .val (.int y2), .val (.int y3), .val (.int y4), .val (.int (p5 &&& (3 : Int32))), .val (.int (own_hd p6)), .val (.int (1 : Int32)), .val (.int (y1 * (64 : Int32))), .val (.int y112), .val (.int y113), .val (.int y114), .val (.ref b115), .val (.ref b118), .val (.ref b118), .val (.int (own_hv (own_hd p6))), .unset, .unset, .unset, .unset, .unset, .unset, .unset] [(.int (own_kk (p5 &&& (3 : Int32)) (0 : Int32) (own_bit q1 q2 y2) (own_hv (own_hd p6))))])) t → Steps p.tables e below (s₁.setTop (entryFrame m #[(.long q1), (.long q2), (.int p3), (.int p4), (.int p5), (.int p6)] maxLocals)) t := by
      by_cases hc191_126 : (0 : Int32) < (p5 &&& (3 : Int32))
      · obtain ⟨_, _, ⟨T127, L127, k127, n127⟩, -, X127, ⟨Lc127, hQ127, l127, y127, z127⟩, st127⟩ := Jvm.LawKit.callS X121 hx (y := (⟨"com/example/bitstrata/bitstrata/BitsetChunkFilterPinLaw", "bit", "(JJI)I"⟩ : MethodName)) hown (mvT hZ (hw _ (List.mem_of_getElem? (i := 8) rfl))) (mvT hZ (hw _ (List.mem_of_getElem? (i := 9) rfl))) (mvT hZ (hw _ (List.mem_of_getElem? (i := 10) rfl))) (mvT hZ (hw _ (List.mem_of_getElem? (i := 11) rfl))) (by decide) (backOf (W := 0) (rm2 l Z a0 hw [] q1 q2 y2 h121 n0 Z121) hZ (hw _ (List.mem_of_getElem? (i := 11) rfl)) (hw _ (List.mem_of_getElem? (i := 10) rfl)) (by decide) (by decide)) (g := (mkF m 198 #[.val (.long q1), .second, .val (.long q2), .second, .val (.int p3), .val (.int p4), .val (.int p5), .val (.int p6), .val (.int y1), .val (.int y2), .val (.int y3), .val (.int y4), .val (.int (p5 &&& (3 : Int32))), .val (.int (own_hd p6)), .val (.int (1 : Int32)), .val (.int (y1 * (64 : Int32))), .val (.int y112), .val (.int y113), .val (.int y114), .val (.ref b115), .val (.ref b118), .val (.ref b118), .val (.int (own_hv (own_hd p6))), .unset, .unset, .unset, .unset, .unset, .unset, .unset] [(.int y2), (.long q2), (.long q1)])) rfl (by rw [hml]; rfl) (argsL := [(.long q1), (.long q2), (.int y2)]) (rest := []) (lenOf pd_0 rfl) rfl (by show 2 * 0 + _ ≤ _; exact Nat.le_of_eq rfl) (hb hby at_198) (fun _ _ => ⟨rfl, e121, (by decide : 2 + 0 ≤ _), (by decide : 5 + 0 ≤ _)⟩)
        dsimp only [Pt.U, Pt.locs, Pt.cells, Pt.slots] at X127 l127 y127 z127 st127 hQ127
        subst l127 y127 z127
        obtain ⟨rfl, N127q, e127⟩ := hQ127
        have N127 := Fr.app N121 N127q
        have pre128 : ∀ t, Steps p.tables e below (T127.setTop (mkF m 203 #[.val (.long q1), .second, .val (.long q2), .second, .val (.int p3), .val (.int p4), .val (.int p5), .val (.int p6), .val (.int y1), .val (.int y2), .val (.int y3), .val (.int y4), .val (.int (p5 &&& (3 : Int32))), .val (.int (own_hd p6)), .val (.int (1 : Int32)), .val (.int (y1 * (64 : Int32))), .val (.int y112), .val (.int y113), .val (.int y114), .val (.ref b115), .val (.ref b118), .val (.ref b118), .val (.int (own_hv (own_hd p6))), .unset, .unset, .unset, .unset, .unset, .unset, .unset] [(.int (own_hv (own_hd p6))), (.int (own_bit q1 q2 y2))])) t → Steps p.tables e below (s₁.setTop (entryFrame m #[(.long q1), (.long q2), (.int p3), (.int p4), (.int p5), (.int p6)] maxLocals)) t := by
          intro t k
          refine pre124 t ?_
          show Steps p.tables e below (T121.setTop (mkF m 191 #[.val (.long q1), .second, .val (.long q2), .second, .val (.int p3), .val (.int p4), .val (.int p5), .val (.int p6), .val (.int y1), .val (.int y2), .val (.int y3), .val (.int y4), .val (.int (p5 &&& (3 : Int32))), .val (.int (own_hd p6)), .val (.int (1 : Int32)), .val (.int (y1 * (64 : Int32))), .val (.int y112), .val (.int y113), .val (.int y114), .val (.ref b115), .val (.ref b118), .val (.ref b118), .val (.int (own_hv (own_hd p6))), .unset, .unset, .unset, .unset, .unset, .unset, .unset] [(.int (p5 &&& (3 : Int32)))])) _
          refine XS.ifNo X121.here hx rfl (hb hby at_191) rfl ((if0 _ _).trans (tlt hc191_126).2.2.2) ?_
          show Steps p.tables e below (T121.setTop (mkF m 194 #[.val (.long q1), .second, .val (.long q2), .second, .val (.int p3), .val (.int p4), .val (.int p5), .val (.int p6), .val (.int y1), .val (.int y2), .val (.int y3), .val (.int y4), .val (.int (p5 &&& (3 : Int32))), .val (.int (own_hd p6)), .val (.int (1 : Int32)), .val (.int (y1 * (64 : Int32))), .val (.int y112), .val (.int y113), .val (.int y114), .val (.ref b115), .val (.ref b118), .val (.ref b118), .val (.int (own_hv (own_hd p6))), .unset, .unset, .unset, .unset, .unset, .unset, .unset] [])) _
          refine XS.lloadN X121.here hx rfl (hb hby at_194) rfl ?_
          refine XS.lloadN X121.here hx rfl (hb hby at_195) rfl ?_
          refine XS.iload X121.here hx rfl (hb hby at_196) rfl ?_
          show Steps p.tables e below (T121.setTop (mkF m 198 #[.val (.long q1), .second, .val (.long q2), .second, .val (.int p3), .val (.int p4), .val (.int p5), .val (.int p6), .val (.int y1), .val (.int y2), .val (.int y3), .val (.int y4), .val (.int (p5 &&& (3 : Int32))), .val (.int (own_hd p6)), .val (.int (1 : Int32)), .val (.int (y1 * (64 : Int32))), .val (.int y112), .val (.int y113), .val (.int y114), .val (.ref b115), .val (.ref b118), .val (.ref b118), .val (.int (own_hv (own_hd p6))), .unset, .unset, .unset, .unset, .unset, .unset, .unset] [(.int y2), (.long q2), (.long q1)])) _
          refine st127 _ ?_
          show Steps p.tables e below (T127.setTop (mkF m 201 #[.val (.long q1), .second, .val (.long q2), .second, .val (.int p3), .val (.int p4), .val (.int p5), .val (.int p6), .val (.int y1), .val (.int y2), .val (.int y3), .val (.int y4), .val (.int (p5 &&& (3 : Int32))), .val (.int (own_hd p6)), .val (.int (1 : Int32)), .val (.int (y1 * (64 : Int32))), .val (.int y112), .val (.int y113), .val (.int y114), .val (.ref b115), .val (.ref b118), .val (.ref b118), .val (.int (own_hv (own_hd p6))), .unset, .unset, .unset, .unset, .unset, .unset, .unset] [(.int (own_bit q1 q2 y2))])) _
          refine XS.iload X127.here hx rfl (hb hby at_201) rfl ?_
          exact k
        by_cases hc203_129 : (own_bit q1 q2 y2) = (own_hv (own_hd p6))
        · have pre130 : ∀ t, Steps p.tables e below (T127.setTop (mkF m 211 #[.val (.long q1), .second, .val (.long q2), .second, .val (.int p3), .val (.int p4), .val (.int p5), .val (.int p6), .val (.int y1), .val (.int y2), .val (.int y3), .val (.int y4), .val (.int (p5 &&& (3 : Int32))), .val (.int (own_hd p6)), .val (.int (1 : Int32)), .val (.int (y1 * (64 : Int32))), .val (.int y112), .val (.int y113), .val (.int y114), .val (.ref b115), .val (.ref b118), .val (.ref b118), .val (.int (own_hv (own_hd p6))), .unset, .unset, .unset, .unset, .unset, .unset, .unset] [(.int (1 : Int32))])) t → Steps p.tables e below (s₁.setTop (entryFrame m #[(.long q1), (.long q2), (.int p3), (.int p4), (.int p5), (.int p6)] maxLocals)) t := by
            intro t k
            refine pre128 t ?_
            show Steps p.tables e below (T127.setTop (mkF m 203 #[.val (.long q1), .second, .val (.long q2), .second, .val (.int p3), .val (.int p4), .val (.int p5), .val (.int p6), .val (.int y1), .val (.int y2), .val (.int y3), .val (.int y4), .val (.int (p5 &&& (3 : Int32))), .val (.int (own_hd p6)), .val (.int (1 : Int32)), .val (.int (y1 * (64 : Int32))), .val (.int y112), .val (.int y113), .val (.int y114), .val (.ref b115), .val (.ref b118), .val (.ref b118), .val (.int (own_hv (own_hd p6))), .unset, .unset, .unset, .unset, .unset, .unset, .unset] [(.int (own_hv (own_hd p6))), (.int (own_bit q1 q2 y2))])) _
            refine XS.icmpNo X127.here hx rfl (hb hby at_203) rfl (teq hc203_129).2 ?_
            show Steps p.tables e below (T127.setTop (mkF m 206 #[.val (.long q1), .second, .val (.long q2), .second, .val (.int p3), .val (.int p4), .val (.int p5), .val (.int p6), .val (.int y1), .val (.int y2), .val (.int y3), .val (.int y4), .val (.int (p5 &&& (3 : Int32))), .val (.int (own_hd p6)), .val (.int (1 : Int32)), .val (.int (y1 * (64 : Int32))), .val (.int y112), .val (.int y113), .val (.int y114), .val (.ref b115), .val (.ref b118), .val (.ref b118), .val (.int (own_hv (own_hd p6))), .unset, .unset, .unset, .unset, .unset, .unset, .unset] [])) _
            refine XS.iconst X127.here hx rfl (hb hby at_206) ?_
            refine XS.goto X127.here hx rfl (pc0 := 207) (pc' := 211) rfl (hb hby at_207) (by decide) (by decide) ?_
            exact k
          refine ⟨_, _, X127, e127, N127, fun t k => ?_⟩
          rw [own_kk, if_pos hc191_126, if_pos hc203_129] at k
          exact pre130 t k
        · have pre131 : ∀ t, Steps p.tables e below (T127.setTop (mkF m 211 #[.val (.long q1), .second, .val (.long q2), .second, .val (.int p3), .val (.int p4), .val (.int p5), .val (.int p6), .val (.int y1), .val (.int y2), .val (.int y3), .val (.int y4), .val (.int (p5 &&& (3 : Int32))), .val (.int (own_hd p6)), .val (.int (1 : Int32)), .val (.int (y1 * (64 : Int32))), .val (.int y112), .val (.int y113), .val (.int y114), .val (.ref b115), .val (.ref b118), .val (.ref b118), .val (.int (own_hv (own_hd p6))), .unset, .unset, .unset, .unset, .unset, .unset, .unset] [(.int (0 : Int32))])) t → Steps p.tables e below (s₁.setTop (entryFrame m #[(.long q1), (.long q2), (.int p3), (.int p4), (.int p5), (.int p6)] maxLocals)) t := by
            intro t k
            refine pre128 t ?_
            show Steps p.tables e below (T127.setTop (mkF m 203 #[.val (.long q1), .second, .val (.long q2), .second, .val (.int p3), .val (.int p4), .val (.int p5), .val (.int p6), .val (.int y1), .val (.int y2), .val (.int y3), .val (.int y4), .val (.int (p5 &&& (3 : Int32))), .val (.int (own_hd p6)), .val (.int (1 : Int32)), .val (.int (y1 * (64 : Int32))), .val (.int y112), .val (.int y113), .val (.int y114), .val (.ref b115), .val (.ref b118), .val (.ref b118), .val (.int (own_hv (own_hd p6))), .unset, .unset, .unset, .unset, .unset, .unset, .unset] [(.int (own_hv (own_hd p6))), (.int (own_bit q1 q2 y2))])) _
            refine XS.icmpYes X127.here hx rfl (pc0 := 203) (pc' := 210) rfl (hb hby at_203) rfl (feq hc203_129).2 (by decide) (by decide) ?_
            show Steps p.tables e below (T127.setTop (mkF m 210 #[.val (.long q1), .second, .val (.long q2), .second, .val (.int p3), .val (.int p4), .val (.int p5), .val (.int p6), .val (.int y1), .val (.int y2), .val (.int y3), .val (.int y4), .val (.int (p5 &&& (3 : Int32))), .val (.int (own_hd p6)), .val (.int (1 : Int32)), .val (.int (y1 * (64 : Int32))), .val (.int y112), .val (.int y113), .val (.int y114), .val (.ref b115), .val (.ref b118), .val (.ref b118), .val (.int (own_hv (own_hd p6))), .unset, .unset, .unset, .unset, .unset, .unset, .unset] [])) _
            refine XS.iconst X127.here hx rfl (hb hby at_210) ?_
            exact k
          refine ⟨_, _, X127, e127, N127, fun t k => ?_⟩
          rw [own_kk, if_pos hc191_126, if_neg hc203_129] at k
          exact pre131 t k
      · have pre132 : ∀ t, Steps p.tables e below (T121.setTop (mkF m 211 #[.val (.long q1), .second, .val (.long q2), .second, .val (.int p3), .val (.int p4), .val (.int p5), .val (.int p6), .val (.int y1), .val (.int y2), .val (.int y3), .val (.int y4), .val (.int (p5 &&& (3 : Int32))), .val (.int (own_hd p6)), .val (.int (1 : Int32)), .val (.int (y1 * (64 : Int32))), .val (.int y112), .val (.int y113), .val (.int y114), .val (.ref b115), .val (.ref b118), .val (.ref b118), .val (.int (own_hv (own_hd p6))), .unset, .unset, .unset, .unset, .unset, .unset, .unset] [(.int (0 : Int32))])) t → Steps p.tables e below (s₁.setTop (entryFrame m #[(.long q1), (.long q2), (.int p3), (.int p4), (.int p5), (.int p6)] maxLocals)) t := by
          intro t k
          refine pre124 t ?_
          show Steps p.tables e below (T121.setTop (mkF m 191 #[.val (.long q1), .second, .val (.long q2), .second, .val (.int p3), .val (.int p4), .val (.int p5), .val (.int p6), .val (.int y1), .val (.int y2), .val (.int y3), .val (.int y4), .val (.int (p5 &&& (3 : Int32))), .val (.int (own_hd p6)), .val (.int (1 : Int32)), .val (.int (y1 * (64 : Int32))), .val (.int y112), .val (.int y113), .val (.int y114), .val (.ref b115), .val (.ref b118), .val (.ref b118), .val (.int (own_hv (own_hd p6))), .unset, .unset, .unset, .unset, .unset, .unset, .unset] [(.int (p5 &&& (3 : Int32)))])) _
          refine XS.ifYes X121.here hx rfl (pc0 := 191) (pc' := 210) rfl (hb hby at_191) rfl ((if0 _ _).trans (flt hc191_126).2.2.2) (by decide) (by decide) ?_
          show Steps p.tables e below (T121.setTop (mkF m 210 #[.val (.long q1), .second, .val (.long q2), .second, .val (.int p3), .val (.int p4), .val (.int p5), .val (.int p6), .val (.int y1), .val (.int y2), .val (.int y3), .val (.int y4), .val (.int (p5 &&& (3 : Int32))), .val (.int (own_hd p6)), .val (.int (1 : Int32)), .val (.int (y1 * (64 : Int32))), .val (.int y112), .val (.int y113), .val (.int y114), .val (.ref b115), .val (.ref b118), .val (.ref b118), .val (.int (own_hv (own_hd p6))), .unset, .unset, .unset, .unset, .unset, .unset, .unset] [])) _
          refine XS.iconst X121.here hx rfl (hb hby at_210) ?_
          exact k
        refine ⟨_, _, X121, e121, N121, fun t k => ?_⟩
        rw [own_kk, if_neg hc191_126] at k
        exact pre132 t k
    obtain ⟨y133, hy133⟩ : ∃ z : Int32, z = (own_kk (p5 &&& (3 : Int32)) (0 : Int32) (own_bit q1 q2 y2) (own_hv (own_hd p6))) := ⟨_, rfl⟩
    have pre134 : ∀ t, Steps p.tables e below (T125.setTop (mkF m 216 #[.val (.long q1), .second, .val (.long q2), .second, .val (.int p3), .val (.int p4), .val (.int p5), .val (.int p6), .val (.int y1), .val (.int y2), .val (.int y3), .val (.int y4), .val (.int (p5 &&& (3 : Int32))), .val (.int (own_hd p6)), .val (.int (1 : Int32)), .val (.int (y1 * (64 : Int32))), .val (.int y112), .val (.int y113), .val (.int y114), .val (.ref b115), .val (.ref b118), .val (.ref b118), .val (.int (own_hv (own_hd p6))), .val (.int y133), .unset, .unset, .unset, .unset, .unset, .unset] [(.int (1 : Int32)), (.int (p5 &&& (3 : Int32)))])) t → Steps p.tables e below (s₁.setTop (entryFrame m #[(.long q1), (.long q2), (.int p3), (.int p4), (.int p5), (.int p6)] maxLocals)) t := by
      intro t k
      refine pre125 t ?_
      show Steps p.tables e below (T125.setTop (mkF m 211 #[.val (.long q1), .second, .val (.long q2), .second, .val (.int p3), .val (.int p4), .val (.int p5), .val (.int p6), .val (.int y1), .val (.int y2), .val (.int y3), .val (.int y4), .val (.int (p5 &&& (3 : Int32))), .val (.int (own_hd p6)), .val (.int (1 : Int32)), .val (.int (y1 * (64 : Int32))), .val (.int y112), .val (.int y113), .val (.int y114), .val (.ref b115), .val (.ref b118), .val (.ref b118), .val (.int (own_hv (own_hd p6))), .unset, .unset, .unset, .unset, .unset, .unset, .unset] [(.int (own_kk (p5 &&& (3 : Int32)) (0 : Int32) (own_bit q1 q2 y2) (own_hv (own_hd p6))))])) _
      rw [← hy133]
      refine XS.istore X125.here hx rfl (hb hby at_211) rfl (l' := #[.val (.long q1), .second, .val (.long q2), .second, .val (.int p3), .val (.int p4), .val (.int p5), .val (.int p6), .val (.int y1), .val (.int y2), .val (.int y3), .val (.int y4), .val (.int (p5 &&& (3 : Int32))), .val (.int (own_hd p6)), .val (.int (1 : Int32)), .val (.int (y1 * (64 : Int32))), .val (.int y112), .val (.int y113), .val (.int y114), .val (.ref b115), .val (.ref b118), .val (.ref b118), .val (.int (own_hv (own_hd p6))), .val (.int y133), .unset, .unset, .unset, .unset, .unset, .unset]) rfl ?_
      show Steps p.tables e below (T125.setTop (mkF m 213 #[.val (.long q1), .second, .val (.long q2), .second, .val (.int p3), .val (.int p4), .val (.int p5), .val (.int p6), .val (.int y1), .val (.int y2), .val (.int y3), .val (.int y4), .val (.int (p5 &&& (3 : Int32))), .val (.int (own_hd p6)), .val (.int (1 : Int32)), .val (.int (y1 * (64 : Int32))), .val (.int y112), .val (.int y113), .val (.int y114), .val (.ref b115), .val (.ref b118), .val (.ref b118), .val (.int (own_hv (own_hd p6))), .val (.int y133), .unset, .unset, .unset, .unset, .unset, .unset] [])) _
      refine XS.iload X125.here hx rfl (hb hby at_213) rfl ?_
      refine XS.iconst X125.here hx rfl (hb hby at_215) ?_
      exact k
    obtain ⟨T135, L135, X135, e135, N135, pre135⟩ : ∃ (T' : State) (L' : List Loc), Stand p l e room_1 s m #[(.long q1), (.long q2), (.int p3), (.int p4), (.int p5), (.int p6)] below meth c T' L' 2 5 ∧ T'.heap = h121 ∧ Fr n0 L' ∧ ∀ t, Steps p.tables e below (T'.setTop (mkF m 236 #[.val (.long q1), .second, .val (.long q2), .second, .val (.int p3), .val (.int p4), .val (.int p5), .val (.int p6), .val (.int y1), .val (.int y2), .val (.int y3), .val (.int y4), .val (.int (p5 &&& (3 : Int32))), .val (.int (own_hd p6)), .val (.int (1 : Int32)), .val (.int (y1 * (64 : Int32))), .val (.int y112), .val (.int y113), .val (.int y114), .val (.ref b115), .val (.ref b118), .val (.ref b118), .val (.int (own_hv (own_hd p6))), .val (.int y133), .unset, .unset, .unset, .unset, .unset, .unset] [(.int (own_kk (p5 &&& (3 : Int32)) (1 : Int32) (own_bit q1 q2 y3) (own_hv (own_hd p6))))])) t → Steps p.tables e below (s₁.setTop (entryFrame m #[(.long q1), (.long q2), (.int p3), (.int p4), (.int p5), (.int p6)] maxLocals)) t := by
      by_cases hc216_136 : (1 : Int32) < (p5 &&& (3 : Int32))
      · obtain ⟨_, _, ⟨T137, L137, k137, n137⟩, -, X137, ⟨Lc137, hQ137, l137, y137, z137⟩, st137⟩ := Jvm.LawKit.callS X125 hx (y := (⟨"com/example/bitstrata/bitstrata/BitsetChunkFilterPinLaw", "bit", "(JJI)I"⟩ : MethodName)) hown (mvT hZ (hw _ (List.mem_of_getElem? (i := 8) rfl))) (mvT hZ (hw _ (List.mem_of_getElem? (i := 9) rfl))) (mvT hZ (hw _ (List.mem_of_getElem? (i := 10) rfl))) (mvT hZ (hw _ (List.mem_of_getElem? (i := 11) rfl))) (by decide) (backOf (W := 0) (rm2 l Z a0 hw [] q1 q2 y3 h121 n0 Z121) hZ (hw _ (List.mem_of_getElem? (i := 11) rfl)) (hw _ (List.mem_of_getElem? (i := 10) rfl)) (by decide) (by decide)) (g := (mkF m 223 #[.val (.long q1), .second, .val (.long q2), .second, .val (.int p3), .val (.int p4), .val (.int p5), .val (.int p6), .val (.int y1), .val (.int y2), .val (.int y3), .val (.int y4), .val (.int (p5 &&& (3 : Int32))), .val (.int (own_hd p6)), .val (.int (1 : Int32)), .val (.int (y1 * (64 : Int32))), .val (.int y112), .val (.int y113), .val (.int y114), .val (.ref b115), .val (.ref b118), .val (.ref b118), .val (.int (own_hv (own_hd p6))), .val (.int y133), .unset, .unset, .unset, .unset, .unset, .unset] [(.int y3), (.long q2), (.long q1)])) rfl (by rw [hml]; rfl) (argsL := [(.long q1), (.long q2), (.int y3)]) (rest := []) (lenOf pd_0 rfl) rfl (by show 2 * 0 + _ ≤ _; exact Nat.le_of_eq rfl) (hb hby at_223) (fun _ _ => ⟨rfl, e125, (by decide : 2 + 0 ≤ _), (by decide : 5 + 0 ≤ _)⟩)
        dsimp only [Pt.U, Pt.locs, Pt.cells, Pt.slots] at X137 l137 y137 z137 st137 hQ137
        subst l137 y137 z137
        obtain ⟨rfl, N137q, e137⟩ := hQ137
        have N137 := Fr.app N125 N137q
        have pre138 : ∀ t, Steps p.tables e below (T137.setTop (mkF m 228 #[.val (.long q1), .second, .val (.long q2), .second, .val (.int p3), .val (.int p4), .val (.int p5), .val (.int p6), .val (.int y1), .val (.int y2), .val (.int y3), .val (.int y4), .val (.int (p5 &&& (3 : Int32))), .val (.int (own_hd p6)), .val (.int (1 : Int32)), .val (.int (y1 * (64 : Int32))), .val (.int y112), .val (.int y113), .val (.int y114), .val (.ref b115), .val (.ref b118), .val (.ref b118), .val (.int (own_hv (own_hd p6))), .val (.int y133), .unset, .unset, .unset, .unset, .unset, .unset] [(.int (own_hv (own_hd p6))), (.int (own_bit q1 q2 y3))])) t → Steps p.tables e below (s₁.setTop (entryFrame m #[(.long q1), (.long q2), (.int p3), (.int p4), (.int p5), (.int p6)] maxLocals)) t := by
          intro t k
          refine pre134 t ?_
          show Steps p.tables e below (T125.setTop (mkF m 216 #[.val (.long q1), .second, .val (.long q2), .second, .val (.int p3), .val (.int p4), .val (.int p5), .val (.int p6), .val (.int y1), .val (.int y2), .val (.int y3), .val (.int y4), .val (.int (p5 &&& (3 : Int32))), .val (.int (own_hd p6)), .val (.int (1 : Int32)), .val (.int (y1 * (64 : Int32))), .val (.int y112), .val (.int y113), .val (.int y114), .val (.ref b115), .val (.ref b118), .val (.ref b118), .val (.int (own_hv (own_hd p6))), .val (.int y133), .unset, .unset, .unset, .unset, .unset, .unset] [(.int (1 : Int32)), (.int (p5 &&& (3 : Int32)))])) _
          refine XS.icmpNo X125.here hx rfl (hb hby at_216) rfl (tlt hc216_136).2.2.2 ?_
          show Steps p.tables e below (T125.setTop (mkF m 219 #[.val (.long q1), .second, .val (.long q2), .second, .val (.int p3), .val (.int p4), .val (.int p5), .val (.int p6), .val (.int y1), .val (.int y2), .val (.int y3), .val (.int y4), .val (.int (p5 &&& (3 : Int32))), .val (.int (own_hd p6)), .val (.int (1 : Int32)), .val (.int (y1 * (64 : Int32))), .val (.int y112), .val (.int y113), .val (.int y114), .val (.ref b115), .val (.ref b118), .val (.ref b118), .val (.int (own_hv (own_hd p6))), .val (.int y133), .unset, .unset, .unset, .unset, .unset, .unset] [])) _
          refine XS.lloadN X125.here hx rfl (hb hby at_219) rfl ?_
          refine XS.lloadN X125.here hx rfl (hb hby at_220) rfl ?_
          refine XS.iload X125.here hx rfl (hb hby at_221) rfl ?_
          show Steps p.tables e below (T125.setTop (mkF m 223 #[.val (.long q1), .second, .val (.long q2), .second, .val (.int p3), .val (.int p4), .val (.int p5), .val (.int p6), .val (.int y1), .val (.int y2), .val (.int y3), .val (.int y4), .val (.int (p5 &&& (3 : Int32))), .val (.int (own_hd p6)), .val (.int (1 : Int32)), .val (.int (y1 * (64 : Int32))), .val (.int y112), .val (.int y113), .val (.int y114), .val (.ref b115), .val (.ref b118), .val (.ref b118), .val (.int (own_hv (own_hd p6))), .val (.int y133), .unset, .unset, .unset, .unset, .unset, .unset] [(.int y3), (.long q2), (.long q1)])) _
          refine st137 _ ?_
          show Steps p.tables e below (T137.setTop (mkF m 226 #[.val (.long q1), .second, .val (.long q2), .second, .val (.int p3), .val (.int p4), .val (.int p5), .val (.int p6), .val (.int y1), .val (.int y2), .val (.int y3), .val (.int y4), .val (.int (p5 &&& (3 : Int32))), .val (.int (own_hd p6)), .val (.int (1 : Int32)), .val (.int (y1 * (64 : Int32))), .val (.int y112), .val (.int y113), .val (.int y114), .val (.ref b115), .val (.ref b118), .val (.ref b118), .val (.int (own_hv (own_hd p6))), .val (.int y133), .unset, .unset, .unset, .unset, .unset, .unset] [(.int (own_bit q1 q2 y3))])) _
          refine XS.iload X137.here hx rfl (hb hby at_226) rfl ?_
          exact k
        by_cases hc228_139 : (own_bit q1 q2 y3) = (own_hv (own_hd p6))
        · have pre140 : ∀ t, Steps p.tables e below (T137.setTop (mkF m 236 #[.val (.long q1), .second, .val (.long q2), .second, .val (.int p3), .val (.int p4), .val (.int p5), .val (.int p6), .val (.int y1), .val (.int y2), .val (.int y3), .val (.int y4), .val (.int (p5 &&& (3 : Int32))), .val (.int (own_hd p6)), .val (.int (1 : Int32)), .val (.int (y1 * (64 : Int32))), .val (.int y112), .val (.int y113), .val (.int y114), .val (.ref b115), .val (.ref b118), .val (.ref b118), .val (.int (own_hv (own_hd p6))), .val (.int y133), .unset, .unset, .unset, .unset, .unset, .unset] [(.int (1 : Int32))])) t → Steps p.tables e below (s₁.setTop (entryFrame m #[(.long q1), (.long q2), (.int p3), (.int p4), (.int p5), (.int p6)] maxLocals)) t := by
            intro t k
            refine pre138 t ?_
            show Steps p.tables e below (T137.setTop (mkF m 228 #[.val (.long q1), .second, .val (.long q2), .second, .val (.int p3), .val (.int p4), .val (.int p5), .val (.int p6), .val (.int y1), .val (.int y2), .val (.int y3), .val (.int y4), .val (.int (p5 &&& (3 : Int32))), .val (.int (own_hd p6)), .val (.int (1 : Int32)), .val (.int (y1 * (64 : Int32))), .val (.int y112), .val (.int y113), .val (.int y114), .val (.ref b115), .val (.ref b118), .val (.ref b118), .val (.int (own_hv (own_hd p6))), .val (.int y133), .unset, .unset, .unset, .unset, .unset, .unset] [(.int (own_hv (own_hd p6))), (.int (own_bit q1 q2 y3))])) _
            refine XS.icmpNo X137.here hx rfl (hb hby at_228) rfl (teq hc228_139).2 ?_
            show Steps p.tables e below (T137.setTop (mkF m 231 #[.val (.long q1), .second, .val (.long q2), .second, .val (.int p3), .val (.int p4), .val (.int p5), .val (.int p6), .val (.int y1), .val (.int y2), .val (.int y3), .val (.int y4), .val (.int (p5 &&& (3 : Int32))), .val (.int (own_hd p6)), .val (.int (1 : Int32)), .val (.int (y1 * (64 : Int32))), .val (.int y112), .val (.int y113), .val (.int y114), .val (.ref b115), .val (.ref b118), .val (.ref b118), .val (.int (own_hv (own_hd p6))), .val (.int y133), .unset, .unset, .unset, .unset, .unset, .unset] [])) _
            refine XS.iconst X137.here hx rfl (hb hby at_231) ?_
            refine XS.goto X137.here hx rfl (pc0 := 232) (pc' := 236) rfl (hb hby at_232) (by decide) (by decide) ?_
            exact k
          refine ⟨_, _, X137, e137, N137, fun t k => ?_⟩
          rw [own_kk, if_pos hc216_136, if_pos hc228_139] at k
          exact pre140 t k
        · have pre141 : ∀ t, Steps p.tables e below (T137.setTop (mkF m 236 #[.val (.long q1), .second, .val (.long q2), .second, .val (.int p3), .val (.int p4), .val (.int p5), .val (.int p6), .val (.int y1), .val (.int y2), .val (.int y3), .val (.int y4), .val (.int (p5 &&& (3 : Int32))), .val (.int (own_hd p6)), .val (.int (1 : Int32)), .val (.int (y1 * (64 : Int32))), .val (.int y112), .val (.int y113), .val (.int y114), .val (.ref b115), .val (.ref b118), .val (.ref b118), .val (.int (own_hv (own_hd p6))), .val (.int y133), .unset, .unset, .unset, .unset, .unset, .unset] [(.int (0 : Int32))])) t → Steps p.tables e below (s₁.setTop (entryFrame m #[(.long q1), (.long q2), (.int p3), (.int p4), (.int p5), (.int p6)] maxLocals)) t := by
            intro t k
            refine pre138 t ?_
            show Steps p.tables e below (T137.setTop (mkF m 228 #[.val (.long q1), .second, .val (.long q2), .second, .val (.int p3), .val (.int p4), .val (.int p5), .val (.int p6), .val (.int y1), .val (.int y2), .val (.int y3), .val (.int y4), .val (.int (p5 &&& (3 : Int32))), .val (.int (own_hd p6)), .val (.int (1 : Int32)), .val (.int (y1 * (64 : Int32))), .val (.int y112), .val (.int y113), .val (.int y114), .val (.ref b115), .val (.ref b118), .val (.ref b118), .val (.int (own_hv (own_hd p6))), .val (.int y133), .unset, .unset, .unset, .unset, .unset, .unset] [(.int (own_hv (own_hd p6))), (.int (own_bit q1 q2 y3))])) _
            refine XS.icmpYes X137.here hx rfl (pc0 := 228) (pc' := 235) rfl (hb hby at_228) rfl (feq hc228_139).2 (by decide) (by decide) ?_
            show Steps p.tables e below (T137.setTop (mkF m 235 #[.val (.long q1), .second, .val (.long q2), .second, .val (.int p3), .val (.int p4), .val (.int p5), .val (.int p6), .val (.int y1), .val (.int y2), .val (.int y3), .val (.int y4), .val (.int (p5 &&& (3 : Int32))), .val (.int (own_hd p6)), .val (.int (1 : Int32)), .val (.int (y1 * (64 : Int32))), .val (.int y112), .val (.int y113), .val (.int y114), .val (.ref b115), .val (.ref b118), .val (.ref b118), .val (.int (own_hv (own_hd p6))), .val (.int y133), .unset, .unset, .unset, .unset, .unset, .unset] [])) _
            refine XS.iconst X137.here hx rfl (hb hby at_235) ?_
            exact k
          refine ⟨_, _, X137, e137, N137, fun t k => ?_⟩
          rw [own_kk, if_pos hc216_136, if_neg hc228_139] at k
          exact pre141 t k
      · have pre142 : ∀ t, Steps p.tables e below (T125.setTop (mkF m 236 #[.val (.long q1), .second, .val (.long q2), .second, .val (.int p3), .val (.int p4), .val (.int p5), .val (.int p6), .val (.int y1), .val (.int y2), .val (.int y3), .val (.int y4), .val (.int (p5 &&& (3 : Int32))), .val (.int (own_hd p6)), .val (.int (1 : Int32)), .val (.int (y1 * (64 : Int32))), .val (.int y112), .val (.int y113), .val (.int y114), .val (.ref b115), .val (.ref b118), .val (.ref b118), .val (.int (own_hv (own_hd p6))), .val (.int y133), .unset, .unset, .unset, .unset, .unset, .unset] [(.int (0 : Int32))])) t → Steps p.tables e below (s₁.setTop (entryFrame m #[(.long q1), (.long q2), (.int p3), (.int p4), (.int p5), (.int p6)] maxLocals)) t := by
          intro t k
          refine pre134 t ?_
          show Steps p.tables e below (T125.setTop (mkF m 216 #[.val (.long q1), .second, .val (.long q2), .second, .val (.int p3), .val (.int p4), .val (.int p5), .val (.int p6), .val (.int y1), .val (.int y2), .val (.int y3), .val (.int y4), .val (.int (p5 &&& (3 : Int32))), .val (.int (own_hd p6)), .val (.int (1 : Int32)), .val (.int (y1 * (64 : Int32))), .val (.int y112), .val (.int y113), .val (.int y114), .val (.ref b115), .val (.ref b118), .val (.ref b118), .val (.int (own_hv (own_hd p6))), .val (.int y133), .unset, .unset, .unset, .unset, .unset, .unset] [(.int (1 : Int32)), (.int (p5 &&& (3 : Int32)))])) _
          refine XS.icmpYes X125.here hx rfl (pc0 := 216) (pc' := 235) rfl (hb hby at_216) rfl (flt hc216_136).2.2.2 (by decide) (by decide) ?_
          show Steps p.tables e below (T125.setTop (mkF m 235 #[.val (.long q1), .second, .val (.long q2), .second, .val (.int p3), .val (.int p4), .val (.int p5), .val (.int p6), .val (.int y1), .val (.int y2), .val (.int y3), .val (.int y4), .val (.int (p5 &&& (3 : Int32))), .val (.int (own_hd p6)), .val (.int (1 : Int32)), .val (.int (y1 * (64 : Int32))), .val (.int y112), .val (.int y113), .val (.int y114), .val (.ref b115), .val (.ref b118), .val (.ref b118), .val (.int (own_hv (own_hd p6))), .val (.int y133), .unset, .unset, .unset, .unset, .unset, .unset] [])) _
          refine XS.iconst X125.here hx rfl (hb hby at_235) ?_
          exact k
        refine ⟨_, _, X125, e125, N125, fun t k => ?_⟩
        rw [own_kk, if_neg hc216_136] at k
        exact pre142 t k
    obtain ⟨y143, hy143⟩ : ∃ z : Int32, z = (own_kk (p5 &&& (3 : Int32)) (1 : Int32) (own_bit q1 q2 y3) (own_hv (own_hd p6))) := ⟨_, rfl⟩
    have pre144 : ∀ t, Steps p.tables e below (T135.setTop (mkF m 241 #[.val (.long q1), .second, .val (.long q2), .second, .val (.int p3), .val (.int p4), .val (.int p5), .val (.int p6), .val (.int y1), .val (.int y2), .val (.int y3), .val (.int y4), .val (.int (p5 &&& (3 : Int32))), .val (.int (own_hd p6)), .val (.int (1 : Int32)), .val (.int (y1 * (64 : Int32))), .val (.int y112), .val (.int y113), .val (.int y114), .val (.ref b115), .val (.ref b118), .val (.ref b118), .val (.int (own_hv (own_hd p6))), .val (.int y133), .val (.int y143), .unset, .unset, .unset, .unset, .unset] [(.int (2 : Int32)), (.int (p5 &&& (3 : Int32)))])) t → Steps p.tables e below (s₁.setTop (entryFrame m #[(.long q1), (.long q2), (.int p3), (.int p4), (.int p5), (.int p6)] maxLocals)) t := by
      intro t k
      refine pre135 t ?_
      show Steps p.tables e below (T135.setTop (mkF m 236 #[.val (.long q1), .second, .val (.long q2), .second, .val (.int p3), .val (.int p4), .val (.int p5), .val (.int p6), .val (.int y1), .val (.int y2), .val (.int y3), .val (.int y4), .val (.int (p5 &&& (3 : Int32))), .val (.int (own_hd p6)), .val (.int (1 : Int32)), .val (.int (y1 * (64 : Int32))), .val (.int y112), .val (.int y113), .val (.int y114), .val (.ref b115), .val (.ref b118), .val (.ref b118), .val (.int (own_hv (own_hd p6))), .val (.int y133), .unset, .unset, .unset, .unset, .unset, .unset] [(.int (own_kk (p5 &&& (3 : Int32)) (1 : Int32) (own_bit q1 q2 y3) (own_hv (own_hd p6))))])) _
      rw [← hy143]
      refine XS.istore X135.here hx rfl (hb hby at_236) rfl (l' := #[.val (.long q1), .second, .val (.long q2), .second, .val (.int p3), .val (.int p4), .val (.int p5), .val (.int p6), .val (.int y1), .val (.int y2), .val (.int y3), .val (.int y4), .val (.int (p5 &&& (3 : Int32))), .val (.int (own_hd p6)), .val (.int (1 : Int32)), .val (.int (y1 * (64 : Int32))), .val (.int y112), .val (.int y113), .val (.int y114), .val (.ref b115), .val (.ref b118), .val (.ref b118), .val (.int (own_hv (own_hd p6))), .val (.int y133), .val (.int y143), .unset, .unset, .unset, .unset, .unset]) rfl ?_
      show Steps p.tables e below (T135.setTop (mkF m 238 #[.val (.long q1), .second, .val (.long q2), .second, .val (.int p3), .val (.int p4), .val (.int p5), .val (.int p6), .val (.int y1), .val (.int y2), .val (.int y3), .val (.int y4), .val (.int (p5 &&& (3 : Int32))), .val (.int (own_hd p6)), .val (.int (1 : Int32)), .val (.int (y1 * (64 : Int32))), .val (.int y112), .val (.int y113), .val (.int y114), .val (.ref b115), .val (.ref b118), .val (.ref b118), .val (.int (own_hv (own_hd p6))), .val (.int y133), .val (.int y143), .unset, .unset, .unset, .unset, .unset] [])) _
      refine XS.iload X135.here hx rfl (hb hby at_238) rfl ?_
      refine XS.iconst X135.here hx rfl (hb hby at_240) ?_
      exact k
    obtain ⟨T145, L145, X145, e145, N145, pre145⟩ : ∃ (T' : State) (L' : List Loc), Stand p l e room_1 s m #[(.long q1), (.long q2), (.int p3), (.int p4), (.int p5), (.int p6)] below meth c T' L' 2 5 ∧ T'.heap = h121 ∧ Fr n0 L' ∧ ∀ t, Steps p.tables e below (T'.setTop (mkF m 261 #[.val (.long q1), .second, .val (.long q2), .second, .val (.int p3), .val (.int p4), .val (.int p5), .val (.int p6), .val (.int y1), .val (.int y2), .val (.int y3), .val (.int y4), .val (.int (p5 &&& (3 : Int32))), .val (.int (own_hd p6)), .val (.int (1 : Int32)), .val (.int (y1 * (64 : Int32))), .val (.int y112), .val (.int y113), .val (.int y114), .val (.ref b115), .val (.ref b118), .val (.ref b118), .val (.int (own_hv (own_hd p6))), .val (.int y133), .val (.int y143), .unset, .unset, .unset, .unset, .unset] [(.int (own_kk (p5 &&& (3 : Int32)) (2 : Int32) (own_bit q1 q2 y4) (own_hv (own_hd p6))))])) t → Steps p.tables e below (s₁.setTop (entryFrame m #[(.long q1), (.long q2), (.int p3), (.int p4), (.int p5), (.int p6)] maxLocals)) t := by
      by_cases hc241_146 : (2 : Int32) < (p5 &&& (3 : Int32))
      · obtain ⟨_, _, ⟨T147, L147, k147, n147⟩, -, X147, ⟨Lc147, hQ147, l147, y147, z147⟩, st147⟩ := Jvm.LawKit.callS X135 hx (y := (⟨"com/example/bitstrata/bitstrata/BitsetChunkFilterPinLaw", "bit", "(JJI)I"⟩ : MethodName)) hown (mvT hZ (hw _ (List.mem_of_getElem? (i := 8) rfl))) (mvT hZ (hw _ (List.mem_of_getElem? (i := 9) rfl))) (mvT hZ (hw _ (List.mem_of_getElem? (i := 10) rfl))) (mvT hZ (hw _ (List.mem_of_getElem? (i := 11) rfl))) (by decide) (backOf (W := 0) (rm2 l Z a0 hw [] q1 q2 y4 h121 n0 Z121) hZ (hw _ (List.mem_of_getElem? (i := 11) rfl)) (hw _ (List.mem_of_getElem? (i := 10) rfl)) (by decide) (by decide)) (g := (mkF m 248 #[.val (.long q1), .second, .val (.long q2), .second, .val (.int p3), .val (.int p4), .val (.int p5), .val (.int p6), .val (.int y1), .val (.int y2), .val (.int y3), .val (.int y4), .val (.int (p5 &&& (3 : Int32))), .val (.int (own_hd p6)), .val (.int (1 : Int32)), .val (.int (y1 * (64 : Int32))), .val (.int y112), .val (.int y113), .val (.int y114), .val (.ref b115), .val (.ref b118), .val (.ref b118), .val (.int (own_hv (own_hd p6))), .val (.int y133), .val (.int y143), .unset, .unset, .unset, .unset, .unset] [(.int y4), (.long q2), (.long q1)])) rfl (by rw [hml]; rfl) (argsL := [(.long q1), (.long q2), (.int y4)]) (rest := []) (lenOf pd_0 rfl) rfl (by show 2 * 0 + _ ≤ _; exact Nat.le_of_eq rfl) (hb hby at_248) (fun _ _ => ⟨rfl, e135, (by decide : 2 + 0 ≤ _), (by decide : 5 + 0 ≤ _)⟩)
        dsimp only [Pt.U, Pt.locs, Pt.cells, Pt.slots] at X147 l147 y147 z147 st147 hQ147
        subst l147 y147 z147
        obtain ⟨rfl, N147q, e147⟩ := hQ147
        have N147 := Fr.app N135 N147q
        have pre148 : ∀ t, Steps p.tables e below (T147.setTop (mkF m 253 #[.val (.long q1), .second, .val (.long q2), .second, .val (.int p3), .val (.int p4), .val (.int p5), .val (.int p6), .val (.int y1), .val (.int y2), .val (.int y3), .val (.int y4), .val (.int (p5 &&& (3 : Int32))), .val (.int (own_hd p6)), .val (.int (1 : Int32)), .val (.int (y1 * (64 : Int32))), .val (.int y112), .val (.int y113), .val (.int y114), .val (.ref b115), .val (.ref b118), .val (.ref b118), .val (.int (own_hv (own_hd p6))), .val (.int y133), .val (.int y143), .unset, .unset, .unset, .unset, .unset] [(.int (own_hv (own_hd p6))), (.int (own_bit q1 q2 y4))])) t → Steps p.tables e below (s₁.setTop (entryFrame m #[(.long q1), (.long q2), (.int p3), (.int p4), (.int p5), (.int p6)] maxLocals)) t := by
          intro t k
          refine pre144 t ?_
          show Steps p.tables e below (T135.setTop (mkF m 241 #[.val (.long q1), .second, .val (.long q2), .second, .val (.int p3), .val (.int p4), .val (.int p5), .val (.int p6), .val (.int y1), .val (.int y2), .val (.int y3), .val (.int y4), .val (.int (p5 &&& (3 : Int32))), .val (.int (own_hd p6)), .val (.int (1 : Int32)), .val (.int (y1 * (64 : Int32))), .val (.int y112), .val (.int y113), .val (.int y114), .val (.ref b115), .val (.ref b118), .val (.ref b118), .val (.int (own_hv (own_hd p6))), .val (.int y133), .val (.int y143), .unset, .unset, .unset, .unset, .unset] [(.int (2 : Int32)), (.int (p5 &&& (3 : Int32)))])) _
          refine XS.icmpNo X135.here hx rfl (hb hby at_241) rfl (tlt hc241_146).2.2.2 ?_
          show Steps p.tables e below (T135.setTop (mkF m 244 #[.val (.long q1), .second, .val (.long q2), .second, .val (.int p3), .val (.int p4), .val (.int p5), .val (.int p6), .val (.int y1), .val (.int y2), .val (.int y3), .val (.int y4), .val (.int (p5 &&& (3 : Int32))), .val (.int (own_hd p6)), .val (.int (1 : Int32)), .val (.int (y1 * (64 : Int32))), .val (.int y112), .val (.int y113), .val (.int y114), .val (.ref b115), .val (.ref b118), .val (.ref b118), .val (.int (own_hv (own_hd p6))), .val (.int y133), .val (.int y143), .unset, .unset, .unset, .unset, .unset] [])) _
          refine XS.lloadN X135.here hx rfl (hb hby at_244) rfl ?_
          refine XS.lloadN X135.here hx rfl (hb hby at_245) rfl ?_
          refine XS.iload X135.here hx rfl (hb hby at_246) rfl ?_
          show Steps p.tables e below (T135.setTop (mkF m 248 #[.val (.long q1), .second, .val (.long q2), .second, .val (.int p3), .val (.int p4), .val (.int p5), .val (.int p6), .val (.int y1), .val (.int y2), .val (.int y3), .val (.int y4), .val (.int (p5 &&& (3 : Int32))), .val (.int (own_hd p6)), .val (.int (1 : Int32)), .val (.int (y1 * (64 : Int32))), .val (.int y112), .val (.int y113), .val (.int y114), .val (.ref b115), .val (.ref b118), .val (.ref b118), .val (.int (own_hv (own_hd p6))), .val (.int y133), .val (.int y143), .unset, .unset, .unset, .unset, .unset] [(.int y4), (.long q2), (.long q1)])) _
          refine st147 _ ?_
          show Steps p.tables e below (T147.setTop (mkF m 251 #[.val (.long q1), .second, .val (.long q2), .second, .val (.int p3), .val (.int p4), .val (.int p5), .val (.int p6), .val (.int y1), .val (.int y2), .val (.int y3), .val (.int y4), .val (.int (p5 &&& (3 : Int32))), .val (.int (own_hd p6)), .val (.int (1 : Int32)), .val (.int (y1 * (64 : Int32))), .val (.int y112), .val (.int y113), .val (.int y114), .val (.ref b115), .val (.ref b118), .val (.ref b118), .val (.int (own_hv (own_hd p6))), .val (.int y133), .val (.int y143), .unset, .unset, .unset, .unset, .unset] [(.int (own_bit q1 q2 y4))])) _
          refine XS.iload X147.here hx rfl (hb hby at_251) rfl ?_
          exact k
        by_cases hc253_149 : (own_bit q1 q2 y4) = (own_hv (own_hd p6))
        · have pre150 : ∀ t, Steps p.tables e below (T147.setTop (mkF m 261 #[.val (.long q1), .second, .val (.long q2), .second, .val (.int p3), .val (.int p4), .val (.int p5), .val (.int p6), .val (.int y1), .val (.int y2), .val (.int y3), .val (.int y4), .val (.int (p5 &&& (3 : Int32))), .val (.int (own_hd p6)), .val (.int (1 : Int32)), .val (.int (y1 * (64 : Int32))), .val (.int y112), .val (.int y113), .val (.int y114), .val (.ref b115), .val (.ref b118), .val (.ref b118), .val (.int (own_hv (own_hd p6))), .val (.int y133), .val (.int y143), .unset, .unset, .unset, .unset, .unset] [(.int (1 : Int32))])) t → Steps p.tables e below (s₁.setTop (entryFrame m #[(.long q1), (.long q2), (.int p3), (.int p4), (.int p5), (.int p6)] maxLocals)) t := by
            intro t k
            refine pre148 t ?_
            show Steps p.tables e below (T147.setTop (mkF m 253 #[.val (.long q1), .second, .val (.long q2), .second, .val (.int p3), .val (.int p4), .val (.int p5), .val (.int p6), .val (.int y1), .val (.int y2), .val (.int y3), .val (.int y4), .val (.int (p5 &&& (3 : Int32))), .val (.int (own_hd p6)), .val (.int (1 : Int32)), .val (.int (y1 * (64 : Int32))), .val (.int y112), .val (.int y113), .val (.int y114), .val (.ref b115), .val (.ref b118), .val (.ref b118), .val (.int (own_hv (own_hd p6))), .val (.int y133), .val (.int y143), .unset, .unset, .unset, .unset, .unset] [(.int (own_hv (own_hd p6))), (.int (own_bit q1 q2 y4))])) _
            refine XS.icmpNo X147.here hx rfl (hb hby at_253) rfl (teq hc253_149).2 ?_
            show Steps p.tables e below (T147.setTop (mkF m 256 #[.val (.long q1), .second, .val (.long q2), .second, .val (.int p3), .val (.int p4), .val (.int p5), .val (.int p6), .val (.int y1), .val (.int y2), .val (.int y3), .val (.int y4), .val (.int (p5 &&& (3 : Int32))), .val (.int (own_hd p6)), .val (.int (1 : Int32)), .val (.int (y1 * (64 : Int32))), .val (.int y112), .val (.int y113), .val (.int y114), .val (.ref b115), .val (.ref b118), .val (.ref b118), .val (.int (own_hv (own_hd p6))), .val (.int y133), .val (.int y143), .unset, .unset, .unset, .unset, .unset] [])) _
            refine XS.iconst X147.here hx rfl (hb hby at_256) ?_
            refine XS.goto X147.here hx rfl (pc0 := 257) (pc' := 261) rfl (hb hby at_257) (by decide) (by decide) ?_
            exact k
          refine ⟨_, _, X147, e147, N147, fun t k => ?_⟩
          rw [own_kk, if_pos hc241_146, if_pos hc253_149] at k
          exact pre150 t k
        · have pre151 : ∀ t, Steps p.tables e below (T147.setTop (mkF m 261 #[.val (.long q1), .second, .val (.long q2), .second, .val (.int p3), .val (.int p4), .val (.int p5), .val (.int p6), .val (.int y1), .val (.int y2), .val (.int y3), .val (.int y4), .val (.int (p5 &&& (3 : Int32))), .val (.int (own_hd p6)), .val (.int (1 : Int32)), .val (.int (y1 * (64 : Int32))), .val (.int y112), .val (.int y113), .val (.int y114), .val (.ref b115), .val (.ref b118), .val (.ref b118), .val (.int (own_hv (own_hd p6))), .val (.int y133), .val (.int y143), .unset, .unset, .unset, .unset, .unset] [(.int (0 : Int32))])) t → Steps p.tables e below (s₁.setTop (entryFrame m #[(.long q1), (.long q2), (.int p3), (.int p4), (.int p5), (.int p6)] maxLocals)) t := by
            intro t k
            refine pre148 t ?_
            show Steps p.tables e below (T147.setTop (mkF m 253 #[.val (.long q1), .second, .val (.long q2), .second, .val (.int p3), .val (.int p4), .val (.int p5), .val (.int p6), .val (.int y1), .val (.int y2), .val (.int y3), .val (.int y4), .val (.int (p5 &&& (3 : Int32))), .val (.int (own_hd p6)), .val (.int (1 : Int32)), .val (.int (y1 * (64 : Int32))), .val (.int y112), .val (.int y113), .val (.int y114), .val (.ref b115), .val (.ref b118), .val (.ref b118), .val (.int (own_hv (own_hd p6))), .val (.int y133), .val (.int y143), .unset, .unset, .unset, .unset, .unset] [(.int (own_hv (own_hd p6))), (.int (own_bit q1 q2 y4))])) _
            refine XS.icmpYes X147.here hx rfl (pc0 := 253) (pc' := 260) rfl (hb hby at_253) rfl (feq hc253_149).2 (by decide) (by decide) ?_
            show Steps p.tables e below (T147.setTop (mkF m 260 #[.val (.long q1), .second, .val (.long q2), .second, .val (.int p3), .val (.int p4), .val (.int p5), .val (.int p6), .val (.int y1), .val (.int y2), .val (.int y3), .val (.int y4), .val (.int (p5 &&& (3 : Int32))), .val (.int (own_hd p6)), .val (.int (1 : Int32)), .val (.int (y1 * (64 : Int32))), .val (.int y112), .val (.int y113), .val (.int y114), .val (.ref b115), .val (.ref b118), .val (.ref b118), .val (.int (own_hv (own_hd p6))), .val (.int y133), .val (.int y143), .unset, .unset, .unset, .unset, .unset] [])) _
            refine XS.iconst X147.here hx rfl (hb hby at_260) ?_
            exact k
          refine ⟨_, _, X147, e147, N147, fun t k => ?_⟩
          rw [own_kk, if_pos hc241_146, if_neg hc253_149] at k
          exact pre151 t k
      · have pre152 : ∀ t, Steps p.tables e below (T135.setTop (mkF m 261 #[.val (.long q1), .second, .val (.long q2), .second, .val (.int p3), .val (.int p4), .val (.int p5), .val (.int p6), .val (.int y1), .val (.int y2), .val (.int y3), .val (.int y4), .val (.int (p5 &&& (3 : Int32))), .val (.int (own_hd p6)), .val (.int (1 : Int32)), .val (.int (y1 * (64 : Int32))), .val (.int y112), .val (.int y113), .val (.int y114), .val (.ref b115), .val (.ref b118), .val (.ref b118), .val (.int (own_hv (own_hd p6))), .val (.int y133), .val (.int y143), .unset, .unset, .unset, .unset, .unset] [(.int (0 : Int32))])) t → Steps p.tables e below (s₁.setTop (entryFrame m #[(.long q1), (.long q2), (.int p3), (.int p4), (.int p5), (.int p6)] maxLocals)) t := by
          intro t k
          refine pre144 t ?_
          show Steps p.tables e below (T135.setTop (mkF m 241 #[.val (.long q1), .second, .val (.long q2), .second, .val (.int p3), .val (.int p4), .val (.int p5), .val (.int p6), .val (.int y1), .val (.int y2), .val (.int y3), .val (.int y4), .val (.int (p5 &&& (3 : Int32))), .val (.int (own_hd p6)), .val (.int (1 : Int32)), .val (.int (y1 * (64 : Int32))), .val (.int y112), .val (.int y113), .val (.int y114), .val (.ref b115), .val (.ref b118), .val (.ref b118), .val (.int (own_hv (own_hd p6))), .val (.int y133), .val (.int y143), .unset, .unset, .unset, .unset, .unset] [(.int (2 : Int32)), (.int (p5 &&& (3 : Int32)))])) _
          refine XS.icmpYes X135.here hx rfl (pc0 := 241) (pc' := 260) rfl (hb hby at_241) rfl (flt hc241_146).2.2.2 (by decide) (by decide) ?_
          show Steps p.tables e below (T135.setTop (mkF m 260 #[.val (.long q1), .second, .val (.long q2), .second, .val (.int p3), .val (.int p4), .val (.int p5), .val (.int p6), .val (.int y1), .val (.int y2), .val (.int y3), .val (.int y4), .val (.int (p5 &&& (3 : Int32))), .val (.int (own_hd p6)), .val (.int (1 : Int32)), .val (.int (y1 * (64 : Int32))), .val (.int y112), .val (.int y113), .val (.int y114), .val (.ref b115), .val (.ref b118), .val (.ref b118), .val (.int (own_hv (own_hd p6))), .val (.int y133), .val (.int y143), .unset, .unset, .unset, .unset, .unset] [])) _
          refine XS.iconst X135.here hx rfl (hb hby at_260) ?_
          exact k
        refine ⟨_, _, X135, e135, N135, fun t k => ?_⟩
        rw [own_kk, if_neg hc241_146] at k
        exact pre152 t k
    obtain ⟨y153, hy153⟩ : ∃ z : Int32, z = (own_kk (p5 &&& (3 : Int32)) (2 : Int32) (own_bit q1 q2 y4) (own_hv (own_hd p6))) := ⟨_, rfl⟩
    obtain ⟨T154, h154, k154, X154, e154, E154, A154, st154⟩ := newP X145 hx hZ (hw _ (List.mem_of_getElem? (i := 3) rfl)) e145 (g := (mkF m 264 #[.val (.long q1), .second, .val (.long q2), .second, .val (.int p3), .val (.int p4), .val (.int p5), .val (.int p6), .val (.int y1), .val (.int y2), .val (.int y3), .val (.int y4), .val (.int (p5 &&& (3 : Int32))), .val (.int (own_hd p6)), .val (.int (1 : Int32)), .val (.int (y1 * (64 : Int32))), .val (.int y112), .val (.int y113), .val (.int y114), .val (.ref b115), .val (.ref b118), .val (.ref b118), .val (.int (own_hv (own_hd p6))), .val (.int y133), .val (.int y143), .val (.int y153), .unset, .unset, .unset, .unset] [(.int (3 : Int32))])) rfl (hb hby at_264) rfl (by decide) (cap := 3) (by decide) (by decide) (by decide) (by decide)
    obtain ⟨b154, g154⟩ : ∃ z, z = h121.size := ⟨_, rfl⟩
    rw [← g154] at A154 st154
    have ne_b115_b154 : b115 ≠ b154 := Nat.ne_of_lt (Nat.lt_of_lt_of_le VW_v121.lt (Nat.le_of_eq g154.symm))
    have ne_b118_b154 : b118 ≠ b154 := Nat.ne_of_lt (Nat.lt_of_lt_of_le VV_v0.lt (Nat.le_of_eq g154.symm))
    have g_b154 : n0 ≤ b154 := Nat.le_trans Z121 (Nat.le_of_eq g154.symm)
    have VW_v154 := VW_v121.ext E154
    have VV_v154 := VV_v0.ext E154
    have Z154 : n0 ≤ h154.size := Nat.le_trans Z121 E154.1
    have V154_v154 : ArF Z h154 b154 .char 3 (fun _ => (.int 0)) := ArF.mk0 A154 rfl rfl
    have pre155 : ∀ t, Steps p.tables e below (T154.setTop (mkF m 271 #[.val (.long q1), .second, .val (.long q2), .second, .val (.int p3), .val (.int p4), .val (.int p5), .val (.int p6), .val (.int y1), .val (.int y2), .val (.int y3), .val (.int y4), .val (.int (p5 &&& (3 : Int32))), .val (.int (own_hd p6)), .val (.int (1 : Int32)), .val (.int (y1 * (64 : Int32))), .val (.int y112), .val (.int y113), .val (.int y114), .val (.ref b115), .val (.ref b118), .val (.ref b118), .val (.int (own_hv (own_hd p6))), .val (.int y133), .val (.int y143), .val (.int y153), .val (.ref b154), .val (.int (0 : Int32)), .unset, .unset] [])) t → Steps p.tables e below (s₁.setTop (entryFrame m #[(.long q1), (.long q2), (.int p3), (.int p4), (.int p5), (.int p6)] maxLocals)) t := by
      intro t k
      refine pre145 t ?_
      show Steps p.tables e below (T145.setTop (mkF m 261 #[.val (.long q1), .second, .val (.long q2), .second, .val (.int p3), .val (.int p4), .val (.int p5), .val (.int p6), .val (.int y1), .val (.int y2), .val (.int y3), .val (.int y4), .val (.int (p5 &&& (3 : Int32))), .val (.int (own_hd p6)), .val (.int (1 : Int32)), .val (.int (y1 * (64 : Int32))), .val (.int y112), .val (.int y113), .val (.int y114), .val (.ref b115), .val (.ref b118), .val (.ref b118), .val (.int (own_hv (own_hd p6))), .val (.int y133), .val (.int y143), .unset, .unset, .unset, .unset, .unset] [(.int (own_kk (p5 &&& (3 : Int32)) (2 : Int32) (own_bit q1 q2 y4) (own_hv (own_hd p6))))])) _
      rw [← hy153]
      refine XS.istore X145.here hx rfl (hb hby at_261) rfl (l' := #[.val (.long q1), .second, .val (.long q2), .second, .val (.int p3), .val (.int p4), .val (.int p5), .val (.int p6), .val (.int y1), .val (.int y2), .val (.int y3), .val (.int y4), .val (.int (p5 &&& (3 : Int32))), .val (.int (own_hd p6)), .val (.int (1 : Int32)), .val (.int (y1 * (64 : Int32))), .val (.int y112), .val (.int y113), .val (.int y114), .val (.ref b115), .val (.ref b118), .val (.ref b118), .val (.int (own_hv (own_hd p6))), .val (.int y133), .val (.int y143), .val (.int y153), .unset, .unset, .unset, .unset]) rfl ?_
      show Steps p.tables e below (T145.setTop (mkF m 263 #[.val (.long q1), .second, .val (.long q2), .second, .val (.int p3), .val (.int p4), .val (.int p5), .val (.int p6), .val (.int y1), .val (.int y2), .val (.int y3), .val (.int y4), .val (.int (p5 &&& (3 : Int32))), .val (.int (own_hd p6)), .val (.int (1 : Int32)), .val (.int (y1 * (64 : Int32))), .val (.int y112), .val (.int y113), .val (.int y114), .val (.ref b115), .val (.ref b118), .val (.ref b118), .val (.int (own_hv (own_hd p6))), .val (.int y133), .val (.int y143), .val (.int y153), .unset, .unset, .unset, .unset] [])) _
      refine XS.iconst X145.here hx rfl (hb hby at_263) ?_
      show Steps p.tables e below (T145.setTop (mkF m 264 #[.val (.long q1), .second, .val (.long q2), .second, .val (.int p3), .val (.int p4), .val (.int p5), .val (.int p6), .val (.int y1), .val (.int y2), .val (.int y3), .val (.int y4), .val (.int (p5 &&& (3 : Int32))), .val (.int (own_hd p6)), .val (.int (1 : Int32)), .val (.int (y1 * (64 : Int32))), .val (.int y112), .val (.int y113), .val (.int y114), .val (.ref b115), .val (.ref b118), .val (.ref b118), .val (.int (own_hv (own_hd p6))), .val (.int y133), .val (.int y143), .val (.int y153), .unset, .unset, .unset, .unset] [(.int (3 : Int32))])) _
      refine st154 _ ?_
      show Steps p.tables e below (T154.setTop (mkF m 266 #[.val (.long q1), .second, .val (.long q2), .second, .val (.int p3), .val (.int p4), .val (.int p5), .val (.int p6), .val (.int y1), .val (.int y2), .val (.int y3), .val (.int y4), .val (.int (p5 &&& (3 : Int32))), .val (.int (own_hd p6)), .val (.int (1 : Int32)), .val (.int (y1 * (64 : Int32))), .val (.int y112), .val (.int y113), .val (.int y114), .val (.ref b115), .val (.ref b118), .val (.ref b118), .val (.int (own_hv (own_hd p6))), .val (.int y133), .val (.int y143), .val (.int y153), .unset, .unset, .unset, .unset] [(.ref b154)])) _
      refine XS.astore X154.here hx rfl (hb hby at_266) rfl rfl (l' := #[.val (.long q1), .second, .val (.long q2), .second, .val (.int p3), .val (.int p4), .val (.int p5), .val (.int p6), .val (.int y1), .val (.int y2), .val (.int y3), .val (.int y4), .val (.int (p5 &&& (3 : Int32))), .val (.int (own_hd p6)), .val (.int (1 : Int32)), .val (.int (y1 * (64 : Int32))), .val (.int y112), .val (.int y113), .val (.int y114), .val (.ref b115), .val (.ref b118), .val (.ref b118), .val (.int (own_hv (own_hd p6))), .val (.int y133), .val (.int y143), .val (.int y153), .val (.ref b154), .unset, .unset, .unset]) rfl ?_
      show Steps p.tables e below (T154.setTop (mkF m 268 #[.val (.long q1), .second, .val (.long q2), .second, .val (.int p3), .val (.int p4), .val (.int p5), .val (.int p6), .val (.int y1), .val (.int y2), .val (.int y3), .val (.int y4), .val (.int (p5 &&& (3 : Int32))), .val (.int (own_hd p6)), .val (.int (1 : Int32)), .val (.int (y1 * (64 : Int32))), .val (.int y112), .val (.int y113), .val (.int y114), .val (.ref b115), .val (.ref b118), .val (.ref b118), .val (.int (own_hv (own_hd p6))), .val (.int y133), .val (.int y143), .val (.int y153), .val (.ref b154), .unset, .unset, .unset] [])) _
      refine XS.iconst X154.here hx rfl (hb hby at_268) ?_
      refine XS.istore X154.here hx rfl (hb hby at_269) rfl (l' := #[.val (.long q1), .second, .val (.long q2), .second, .val (.int p3), .val (.int p4), .val (.int p5), .val (.int p6), .val (.int y1), .val (.int y2), .val (.int y3), .val (.int y4), .val (.int (p5 &&& (3 : Int32))), .val (.int (own_hd p6)), .val (.int (1 : Int32)), .val (.int (y1 * (64 : Int32))), .val (.int y112), .val (.int y113), .val (.int y114), .val (.ref b115), .val (.ref b118), .val (.ref b118), .val (.int (own_hv (own_hd p6))), .val (.int y133), .val (.int y143), .val (.int y153), .val (.ref b154), .val (.int (0 : Int32)), .unset, .unset]) rfl ?_
      exact k
    obtain ⟨T156, L156, h156, X156, e156, N156, Z156, mf156_0_v156, mf156_1_v156, mf156_2_v156, pre156⟩ : ∃ (T' : State) (L' : List Loc) (h' : Heap), Stand p l e room_1 s m #[(.long q1), (.long q2), (.int p3), (.int p4), (.int p5), (.int p6)] below meth c T' L' 3 8 ∧ T'.heap = h' ∧ Fr n0 L' ∧ n0 ≤ h'.size ∧ ArF Z h' b115 .long 2 (fun i => .long (own_g q1 q2 i)) ∧ ArF Z h' b118 .char 3 (fun i => .int ((own_f3 y112 y113 y114) i)) ∧ (∃ E : Nat → Int32, ArF Z h' b154 .char 3 (fun i => .int (E i)) ∧ own_fit (own_L y133 y143 y153 y112 y113 y114) E) ∧ ∀ t, Steps p.tables e below (T'.setTop (mkF m 316 #[.val (.long q1), .second, .val (.long q2), .second, .val (.int p3), .val (.int p4), .val (.int p5), .val (.int p6), .val (.int y1), .val (.int y2), .val (.int y3), .val (.int y4), .val (.int (p5 &&& (3 : Int32))), .val (.int (own_hd p6)), .val (.int (1 : Int32)), .val (.int (y1 * (64 : Int32))), .val (.int y112), .val (.int y113), .val (.int y114), .val (.ref b115), .val (.ref b118), .val (.ref b118), .val (.int (own_hv (own_hd p6))), .val (.int y133), .val (.int y143), .val (.int y153), .val (.ref b154), .val (.int (own_len (own_L y133 y143 y153 y112 y113 y114))), .unset, .unset] [])) t → Steps p.tables e below (s₁.setTop (entryFrame m #[(.long q1), (.long q2), (.int p3), (.int p4), (.int p5), (.int p6)] maxLocals)) t := by
      have pre157 : ∀ t, Steps p.tables e below (T154.setTop (mkF m 273 #[.val (.long q1), .second, .val (.long q2), .second, .val (.int p3), .val (.int p4), .val (.int p5), .val (.int p6), .val (.int y1), .val (.int y2), .val (.int y3), .val (.int y4), .val (.int (p5 &&& (3 : Int32))), .val (.int (own_hd p6)), .val (.int (1 : Int32)), .val (.int (y1 * (64 : Int32))), .val (.int y112), .val (.int y113), .val (.int y114), .val (.ref b115), .val (.ref b118), .val (.ref b118), .val (.int (own_hv (own_hd p6))), .val (.int y133), .val (.int y143), .val (.int y153), .val (.ref b154), .val (.int (0 : Int32)), .unset, .unset] [(.int y133)])) t → Steps p.tables e below (s₁.setTop (entryFrame m #[(.long q1), (.long q2), (.int p3), (.int p4), (.int p5), (.int p6)] maxLocals)) t := by
        intro t k
        refine pre155 t ?_
        show Steps p.tables e below (T154.setTop (mkF m 271 #[.val (.long q1), .second, .val (.long q2), .second, .val (.int p3), .val (.int p4), .val (.int p5), .val (.int p6), .val (.int y1), .val (.int y2), .val (.int y3), .val (.int y4), .val (.int (p5 &&& (3 : Int32))), .val (.int (own_hd p6)), .val (.int (1 : Int32)), .val (.int (y1 * (64 : Int32))), .val (.int y112), .val (.int y113), .val (.int y114), .val (.ref b115), .val (.ref b118), .val (.ref b118), .val (.int (own_hv (own_hd p6))), .val (.int y133), .val (.int y143), .val (.int y153), .val (.ref b154), .val (.int (0 : Int32)), .unset, .unset] [])) _
        refine XS.iload X154.here hx rfl (hb hby at_271) rfl ?_
        exact k
      by_cases hc273_158 : y133 = (0 : Int32)
      · have pre159 : ∀ t, Steps p.tables e below (T154.setTop (mkF m 288 #[.val (.long q1), .second, .val (.long q2), .second, .val (.int p3), .val (.int p4), .val (.int p5), .val (.int p6), .val (.int y1), .val (.int y2), .val (.int y3), .val (.int y4), .val (.int (p5 &&& (3 : Int32))), .val (.int (own_hd p6)), .val (.int (1 : Int32)), .val (.int (y1 * (64 : Int32))), .val (.int y112), .val (.int y113), .val (.int y114), .val (.ref b115), .val (.ref b118), .val (.ref b118), .val (.int (own_hv (own_hd p6))), .val (.int y133), .val (.int y143), .val (.int y153), .val (.ref b154), .val (.int (0 : Int32)), .unset, .unset] [(.int y143)])) t → Steps p.tables e below (s₁.setTop (entryFrame m #[(.long q1), (.long q2), (.int p3), (.int p4), (.int p5), (.int p6)] maxLocals)) t := by
          intro t k
          refine pre157 t ?_
          show Steps p.tables e below (T154.setTop (mkF m 273 #[.val (.long q1), .second, .val (.long q2), .second, .val (.int p3), .val (.int p4), .val (.int p5), .val (.int p6), .val (.int y1), .val (.int y2), .val (.int y3), .val (.int y4), .val (.int (p5 &&& (3 : Int32))), .val (.int (own_hd p6)), .val (.int (1 : Int32)), .val (.int (y1 * (64 : Int32))), .val (.int y112), .val (.int y113), .val (.int y114), .val (.ref b115), .val (.ref b118), .val (.ref b118), .val (.int (own_hv (own_hd p6))), .val (.int y133), .val (.int y143), .val (.int y153), .val (.ref b154), .val (.int (0 : Int32)), .unset, .unset] [(.int y133)])) _
          refine XS.ifYes X154.here hx rfl (pc0 := 273) (pc' := 286) rfl (hb hby at_273) rfl ((if0 _ _).trans (teq hc273_158).1) (by decide) (by decide) ?_
          show Steps p.tables e below (T154.setTop (mkF m 286 #[.val (.long q1), .second, .val (.long q2), .second, .val (.int p3), .val (.int p4), .val (.int p5), .val (.int p6), .val (.int y1), .val (.int y2), .val (.int y3), .val (.int y4), .val (.int (p5 &&& (3 : Int32))), .val (.int (own_hd p6)), .val (.int (1 : Int32)), .val (.int (y1 * (64 : Int32))), .val (.int y112), .val (.int y113), .val (.int y114), .val (.ref b115), .val (.ref b118), .val (.ref b118), .val (.int (own_hv (own_hd p6))), .val (.int y133), .val (.int y143), .val (.int y153), .val (.ref b154), .val (.int (0 : Int32)), .unset, .unset] [])) _
          refine XS.iload X154.here hx rfl (hb hby at_286) rfl ?_
          exact k
        by_cases hc288_160 : y143 = (0 : Int32)
        · have pre161 : ∀ t, Steps p.tables e below (T154.setTop (mkF m 303 #[.val (.long q1), .second, .val (.long q2), .second, .val (.int p3), .val (.int p4), .val (.int p5), .val (.int p6), .val (.int y1), .val (.int y2), .val (.int y3), .val (.int y4), .val (.int (p5 &&& (3 : Int32))), .val (.int (own_hd p6)), .val (.int (1 : Int32)), .val (.int (y1 * (64 : Int32))), .val (.int y112), .val (.int y113), .val (.int y114), .val (.ref b115), .val (.ref b118), .val (.ref b118), .val (.int (own_hv (own_hd p6))), .val (.int y133), .val (.int y143), .val (.int y153), .val (.ref b154), .val (.int (0 : Int32)), .unset, .unset] [(.int y153)])) t → Steps p.tables e below (s₁.setTop (entryFrame m #[(.long q1), (.long q2), (.int p3), (.int p4), (.int p5), (.int p6)] maxLocals)) t := by
            intro t k
            refine pre159 t ?_
            show Steps p.tables e below (T154.setTop (mkF m 288 #[.val (.long q1), .second, .val (.long q2), .second, .val (.int p3), .val (.int p4), .val (.int p5), .val (.int p6), .val (.int y1), .val (.int y2), .val (.int y3), .val (.int y4), .val (.int (p5 &&& (3 : Int32))), .val (.int (own_hd p6)), .val (.int (1 : Int32)), .val (.int (y1 * (64 : Int32))), .val (.int y112), .val (.int y113), .val (.int y114), .val (.ref b115), .val (.ref b118), .val (.ref b118), .val (.int (own_hv (own_hd p6))), .val (.int y133), .val (.int y143), .val (.int y153), .val (.ref b154), .val (.int (0 : Int32)), .unset, .unset] [(.int y143)])) _
            refine XS.ifYes X154.here hx rfl (pc0 := 288) (pc' := 301) rfl (hb hby at_288) rfl ((if0 _ _).trans (teq hc288_160).1) (by decide) (by decide) ?_
            show Steps p.tables e below (T154.setTop (mkF m 301 #[.val (.long q1), .second, .val (.long q2), .second, .val (.int p3), .val (.int p4), .val (.int p5), .val (.int p6), .val (.int y1), .val (.int y2), .val (.int y3), .val (.int y4), .val (.int (p5 &&& (3 : Int32))), .val (.int (own_hd p6)), .val (.int (1 : Int32)), .val (.int (y1 * (64 : Int32))), .val (.int y112), .val (.int y113), .val (.int y114), .val (.ref b115), .val (.ref b118), .val (.ref b118), .val (.int (own_hv (own_hd p6))), .val (.int y133), .val (.int y143), .val (.int y153), .val (.ref b154), .val (.int (0 : Int32)), .unset, .unset] [])) _
            refine XS.iload X154.here hx rfl (hb hby at_301) rfl ?_
            exact k
          by_cases hc303_162 : y153 = (0 : Int32)
          · have pre163 : ∀ t, Steps p.tables e below (T154.setTop (mkF m 316 #[.val (.long q1), .second, .val (.long q2), .second, .val (.int p3), .val (.int p4), .val (.int p5), .val (.int p6), .val (.int y1), .val (.int y2), .val (.int y3), .val (.int y4), .val (.int (p5 &&& (3 : Int32))), .val (.int (own_hd p6)), .val (.int (1 : Int32)), .val (.int (y1 * (64 : Int32))), .val (.int y112), .val (.int y113), .val (.int y114), .val (.ref b115), .val (.ref b118), .val (.ref b118), .val (.int (own_hv (own_hd p6))), .val (.int y133), .val (.int y143), .val (.int y153), .val (.ref b154), .val (.int (0 : Int32)), .unset, .unset] [])) t → Steps p.tables e below (s₁.setTop (entryFrame m #[(.long q1), (.long q2), (.int p3), (.int p4), (.int p5), (.int p6)] maxLocals)) t := by
              intro t k
              refine pre161 t ?_
              show Steps p.tables e below (T154.setTop (mkF m 303 #[.val (.long q1), .second, .val (.long q2), .second, .val (.int p3), .val (.int p4), .val (.int p5), .val (.int p6), .val (.int y1), .val (.int y2), .val (.int y3), .val (.int y4), .val (.int (p5 &&& (3 : Int32))), .val (.int (own_hd p6)), .val (.int (1 : Int32)), .val (.int (y1 * (64 : Int32))), .val (.int y112), .val (.int y113), .val (.int y114), .val (.ref b115), .val (.ref b118), .val (.ref b118), .val (.int (own_hv (own_hd p6))), .val (.int y133), .val (.int y143), .val (.int y153), .val (.ref b154), .val (.int (0 : Int32)), .unset, .unset] [(.int y153)])) _
              refine XS.ifYes X154.here hx rfl (pc0 := 303) (pc' := 316) rfl (hb hby at_303) rfl ((if0 _ _).trans (teq hc303_162).1) (by decide) (by decide) ?_
              exact k
            have hs : (own_L y133 y143 y153 y112 y113 y114) = [] := by rw [own_L, own_c, own_c, own_c, if_pos hc273_158, if_pos hc288_160, if_pos hc303_162]; rfl
            refine ⟨_, _, _, X154, e154, N145, Z154, VW_v154, VV_v154, ⟨(fun i => if i = 0 then (0 : Int32) else if i = 1 then (0 : Int32) else (0 : Int32)), V154_v154.congr (fun i hi => by match i, hi with | 0, _ => rfl | 1, _ => rfl | 2, _ => rfl), (by rw [hs]; intro i hi; exact absurd hi (Nat.not_lt_zero i))⟩, fun t k => ?_⟩
            rw [show own_len (own_L y133 y143 y153 y112 y113 y114) = (0 : Int32) from by rw [hs]; rfl] at k
            exact pre163 t k
          · obtain ⟨cl164, Ar164, S164, H164⟩ := id V154_v154
            have hin164 : ¬ ((0 : Int32) < 0 ∨ cl164.slots.size ≤ ((0 : Int32)).toNatClampNeg) := inA S164 (by decide) (by decide)
            obtain ⟨T164, h164, X164, e164, W164, st164⟩ := stC X154 hx hZ e154 Ar164 (j := (0 : Int32)) hin164 (g := (mkF m 312 #[.val (.long q1), .second, .val (.long q2), .second, .val (.int p3), .val (.int p4), .val (.int p5), .val (.int p6), .val (.int y1), .val (.int y2), .val (.int y3), .val (.int y4), .val (.int (p5 &&& (3 : Int32))), .val (.int (own_hd p6)), .val (.int (1 : Int32)), .val (.int (y1 * (64 : Int32))), .val (.int y112), .val (.int y113), .val (.int y114), .val (.ref b115), .val (.ref b118), .val (.ref b118), .val (.int (own_hv (own_hd p6))), .val (.int y133), .val (.int y143), .val (.int y153), .val (.ref b154), .val (.int (0 : Int32)), .unset, .unset] [(.int y114), (.int (0 : Int32)), (.ref b154)])) rfl rfl (hb hby at_312)
            have VW_v164 := VW_v154.other W164 ne_b115_b154
            have VV_v164 := VV_v154.other W164 ne_b118_b154
            have Z164 : n0 ≤ h164.size := Nat.le_trans Z154 (Nat.le_of_eq W164.size.symm)
            have V164_v164 := ArF.set Ar164 S164 H164 W164 hin164
            have N164 := Fr.snoc X164 N145 g_b154
            have pre165 : ∀ t, Steps p.tables e below (T164.setTop (mkF m 316 #[.val (.long q1), .second, .val (.long q2), .second, .val (.int p3), .val (.int p4), .val (.int p5), .val (.int p6), .val (.int y1), .val (.int y2), .val (.int y3), .val (.int y4), .val (.int (p5 &&& (3 : Int32))), .val (.int (own_hd p6)), .val (.int (1 : Int32)), .val (.int (y1 * (64 : Int32))), .val (.int y112), .val (.int y113), .val (.int y114), .val (.ref b115), .val (.ref b118), .val (.ref b118), .val (.int (own_hv (own_hd p6))), .val (.int y133), .val (.int y143), .val (.int y153), .val (.ref b154), .val (.int (1 : Int32)), .unset, .unset] [])) t → Steps p.tables e below (s₁.setTop (entryFrame m #[(.long q1), (.long q2), (.int p3), (.int p4), (.int p5), (.int p6)] maxLocals)) t := by
              intro t k
              refine pre161 t ?_
              show Steps p.tables e below (T154.setTop (mkF m 303 #[.val (.long q1), .second, .val (.long q2), .second, .val (.int p3), .val (.int p4), .val (.int p5), .val (.int p6), .val (.int y1), .val (.int y2), .val (.int y3), .val (.int y4), .val (.int (p5 &&& (3 : Int32))), .val (.int (own_hd p6)), .val (.int (1 : Int32)), .val (.int (y1 * (64 : Int32))), .val (.int y112), .val (.int y113), .val (.int y114), .val (.ref b115), .val (.ref b118), .val (.ref b118), .val (.int (own_hv (own_hd p6))), .val (.int y133), .val (.int y143), .val (.int y153), .val (.ref b154), .val (.int (0 : Int32)), .unset, .unset] [(.int y153)])) _
              refine XS.ifNo X154.here hx rfl (hb hby at_303) rfl ((if0 _ _).trans (feq hc303_162).1) ?_
              show Steps p.tables e below (T154.setTop (mkF m 306 #[.val (.long q1), .second, .val (.long q2), .second, .val (.int p3), .val (.int p4), .val (.int p5), .val (.int p6), .val (.int y1), .val (.int y2), .val (.int y3), .val (.int y4), .val (.int (p5 &&& (3 : Int32))), .val (.int (own_hd p6)), .val (.int (1 : Int32)), .val (.int (y1 * (64 : Int32))), .val (.int y112), .val (.int y113), .val (.int y114), .val (.ref b115), .val (.ref b118), .val (.ref b118), .val (.int (own_hv (own_hd p6))), .val (.int y133), .val (.int y143), .val (.int y153), .val (.ref b154), .val (.int (0 : Int32)), .unset, .unset] [])) _
              refine XS.aload X154.here hx rfl (hb hby at_306) rfl rfl ?_
              refine XS.iload X154.here hx rfl (hb hby at_308) rfl ?_
              refine XS.iload X154.here hx rfl (hb hby at_310) rfl ?_
              show Steps p.tables e below (T154.setTop (mkF m 312 #[.val (.long q1), .second, .val (.long q2), .second, .val (.int p3), .val (.int p4), .val (.int p5), .val (.int p6), .val (.int y1), .val (.int y2), .val (.int y3), .val (.int y4), .val (.int (p5 &&& (3 : Int32))), .val (.int (own_hd p6)), .val (.int (1 : Int32)), .val (.int (y1 * (64 : Int32))), .val (.int y112), .val (.int y113), .val (.int y114), .val (.ref b115), .val (.ref b118), .val (.ref b118), .val (.int (own_hv (own_hd p6))), .val (.int y133), .val (.int y143), .val (.int y153), .val (.ref b154), .val (.int (0 : Int32)), .unset, .unset] [(.int y114), (.int (0 : Int32)), (.ref b154)])) _
              refine st164 _ ?_
              show Steps p.tables e below (T164.setTop (mkF m 313 #[.val (.long q1), .second, .val (.long q2), .second, .val (.int p3), .val (.int p4), .val (.int p5), .val (.int p6), .val (.int y1), .val (.int y2), .val (.int y3), .val (.int y4), .val (.int (p5 &&& (3 : Int32))), .val (.int (own_hd p6)), .val (.int (1 : Int32)), .val (.int (y1 * (64 : Int32))), .val (.int y112), .val (.int y113), .val (.int y114), .val (.ref b115), .val (.ref b118), .val (.ref b118), .val (.int (own_hv (own_hd p6))), .val (.int y133), .val (.int y143), .val (.int y153), .val (.ref b154), .val (.int (0 : Int32)), .unset, .unset] [])) _
              refine XS.iinc X164.here hx rfl (hb hby at_313) rfl (l' := #[.val (.long q1), .second, .val (.long q2), .second, .val (.int p3), .val (.int p4), .val (.int p5), .val (.int p6), .val (.int y1), .val (.int y2), .val (.int y3), .val (.int y4), .val (.int (p5 &&& (3 : Int32))), .val (.int (own_hd p6)), .val (.int (1 : Int32)), .val (.int (y1 * (64 : Int32))), .val (.int y112), .val (.int y113), .val (.int y114), .val (.ref b115), .val (.ref b118), .val (.ref b118), .val (.int (own_hv (own_hd p6))), .val (.int y133), .val (.int y143), .val (.int y153), .val (.ref b154), .val (.int (1 : Int32)), .unset, .unset]) rfl ?_
              exact k
            have hs : (own_L y133 y143 y153 y112 y113 y114) = [y114] := by rw [own_L, own_c, own_c, own_c, if_pos hc273_158, if_pos hc288_160, if_neg hc303_162]; rfl
            refine ⟨_, _, _, X164, e164, N164, Z164, VW_v164, VV_v164, ⟨(fun i => if i = 0 then y114 else if i = 1 then (0 : Int32) else (0 : Int32)), V164_v164.congr (fun i hi => by match i, hi with | 0, _ => exact congrArg Value.int (own_nar hb2.1) | 1, _ => rfl | 2, _ => rfl), (by rw [hs]; intro i hi; have hj : i = 0 := by { simp only [List.length_cons, List.length_nil] at hi; omega }; rcases hj with rfl <;> rfl)⟩, fun t k => ?_⟩
            rw [show own_len (own_L y133 y143 y153 y112 y113 y114) = (1 : Int32) from by rw [hs]; rfl] at k
            exact pre165 t k
        · obtain ⟨cl166, Ar166, S166, H166⟩ := id V154_v154
          have hin166 : ¬ ((0 : Int32) < 0 ∨ cl166.slots.size ≤ ((0 : Int32)).toNatClampNeg) := inA S166 (by decide) (by decide)
          obtain ⟨T166, h166, X166, e166, W166, st166⟩ := stC X154 hx hZ e154 Ar166 (j := (0 : Int32)) hin166 (g := (mkF m 297 #[.val (.long q1), .second, .val (.long q2), .second, .val (.int p3), .val (.int p4), .val (.int p5), .val (.int p6), .val (.int y1), .val (.int y2), .val (.int y3), .val (.int y4), .val (.int (p5 &&& (3 : Int32))), .val (.int (own_hd p6)), .val (.int (1 : Int32)), .val (.int (y1 * (64 : Int32))), .val (.int y112), .val (.int y113), .val (.int y114), .val (.ref b115), .val (.ref b118), .val (.ref b118), .val (.int (own_hv (own_hd p6))), .val (.int y133), .val (.int y143), .val (.int y153), .val (.ref b154), .val (.int (0 : Int32)), .unset, .unset] [(.int y113), (.int (0 : Int32)), (.ref b154)])) rfl rfl (hb hby at_297)
          have VW_v166 := VW_v154.other W166 ne_b115_b154
          have VV_v166 := VV_v154.other W166 ne_b118_b154
          have Z166 : n0 ≤ h166.size := Nat.le_trans Z154 (Nat.le_of_eq W166.size.symm)
          have V166_v166 := ArF.set Ar166 S166 H166 W166 hin166
          have N166 := Fr.snoc X166 N145 g_b154
          have pre167 : ∀ t, Steps p.tables e below (T166.setTop (mkF m 303 #[.val (.long q1), .second, .val (.long q2), .second, .val (.int p3), .val (.int p4), .val (.int p5), .val (.int p6), .val (.int y1), .val (.int y2), .val (.int y3), .val (.int y4), .val (.int (p5 &&& (3 : Int32))), .val (.int (own_hd p6)), .val (.int (1 : Int32)), .val (.int (y1 * (64 : Int32))), .val (.int y112), .val (.int y113), .val (.int y114), .val (.ref b115), .val (.ref b118), .val (.ref b118), .val (.int (own_hv (own_hd p6))), .val (.int y133), .val (.int y143), .val (.int y153), .val (.ref b154), .val (.int (1 : Int32)), .unset, .unset] [(.int y153)])) t → Steps p.tables e below (s₁.setTop (entryFrame m #[(.long q1), (.long q2), (.int p3), (.int p4), (.int p5), (.int p6)] maxLocals)) t := by
            intro t k
            refine pre159 t ?_
            show Steps p.tables e below (T154.setTop (mkF m 288 #[.val (.long q1), .second, .val (.long q2), .second, .val (.int p3), .val (.int p4), .val (.int p5), .val (.int p6), .val (.int y1), .val (.int y2), .val (.int y3), .val (.int y4), .val (.int (p5 &&& (3 : Int32))), .val (.int (own_hd p6)), .val (.int (1 : Int32)), .val (.int (y1 * (64 : Int32))), .val (.int y112), .val (.int y113), .val (.int y114), .val (.ref b115), .val (.ref b118), .val (.ref b118), .val (.int (own_hv (own_hd p6))), .val (.int y133), .val (.int y143), .val (.int y153), .val (.ref b154), .val (.int (0 : Int32)), .unset, .unset] [(.int y143)])) _
            refine XS.ifNo X154.here hx rfl (hb hby at_288) rfl ((if0 _ _).trans (feq hc288_160).1) ?_
            show Steps p.tables e below (T154.setTop (mkF m 291 #[.val (.long q1), .second, .val (.long q2), .second, .val (.int p3), .val (.int p4), .val (.int p5), .val (.int p6), .val (.int y1), .val (.int y2), .val (.int y3), .val (.int y4), .val (.int (p5 &&& (3 : Int32))), .val (.int (own_hd p6)), .val (.int (1 : Int32)), .val (.int (y1 * (64 : Int32))), .val (.int y112), .val (.int y113), .val (.int y114), .val (.ref b115), .val (.ref b118), .val (.ref b118), .val (.int (own_hv (own_hd p6))), .val (.int y133), .val (.int y143), .val (.int y153), .val (.ref b154), .val (.int (0 : Int32)), .unset, .unset] [])) _
            refine XS.aload X154.here hx rfl (hb hby at_291) rfl rfl ?_
            refine XS.iload X154.here hx rfl (hb hby at_293) rfl ?_
            refine XS.iload X154.here hx rfl (hb hby at_295) rfl ?_
            show Steps p.tables e below (T154.setTop (mkF m 297 #[.val (.long q1), .second, .val (.long q2), .second, .val (.int p3), .val (.int p4), .val (.int p5), .val (.int p6), .val (.int y1), .val (.int y2), .val (.int y3), .val (.int y4), .val (.int (p5 &&& (3 : Int32))), .val (.int (own_hd p6)), .val (.int (1 : Int32)), .val (.int (y1 * (64 : Int32))), .val (.int y112), .val (.int y113), .val (.int y114), .val (.ref b115), .val (.ref b118), .val (.ref b118), .val (.int (own_hv (own_hd p6))), .val (.int y133), .val (.int y143), .val (.int y153), .val (.ref b154), .val (.int (0 : Int32)), .unset, .unset] [(.int y113), (.int (0 : Int32)), (.ref b154)])) _
            refine st166 _ ?_
            show Steps p.tables e below (T166.setTop (mkF m 298 #[.val (.long q1), .second, .val (.long q2), .second, .val (.int p3), .val (.int p4), .val (.int p5), .val (.int p6), .val (.int y1), .val (.int y2), .val (.int y3), .val (.int y4), .val (.int (p5 &&& (3 : Int32))), .val (.int (own_hd p6)), .val (.int (1 : Int32)), .val (.int (y1 * (64 : Int32))), .val (.int y112), .val (.int y113), .val (.int y114), .val (.ref b115), .val (.ref b118), .val (.ref b118), .val (.int (own_hv (own_hd p6))), .val (.int y133), .val (.int y143), .val (.int y153), .val (.ref b154), .val (.int (0 : Int32)), .unset, .unset] [])) _
            refine XS.iinc X166.here hx rfl (hb hby at_298) rfl (l' := #[.val (.long q1), .second, .val (.long q2), .second, .val (.int p3), .val (.int p4), .val (.int p5), .val (.int p6), .val (.int y1), .val (.int y2), .val (.int y3), .val (.int y4), .val (.int (p5 &&& (3 : Int32))), .val (.int (own_hd p6)), .val (.int (1 : Int32)), .val (.int (y1 * (64 : Int32))), .val (.int y112), .val (.int y113), .val (.int y114), .val (.ref b115), .val (.ref b118), .val (.ref b118), .val (.int (own_hv (own_hd p6))), .val (.int y133), .val (.int y143), .val (.int y153), .val (.ref b154), .val (.int (1 : Int32)), .unset, .unset]) rfl ?_
            show Steps p.tables e below (T166.setTop (mkF m 301 #[.val (.long q1), .second, .val (.long q2), .second, .val (.int p3), .val (.int p4), .val (.int p5), .val (.int p6), .val (.int y1), .val (.int y2), .val (.int y3), .val (.int y4), .val (.int (p5 &&& (3 : Int32))), .val (.int (own_hd p6)), .val (.int (1 : Int32)), .val (.int (y1 * (64 : Int32))), .val (.int y112), .val (.int y113), .val (.int y114), .val (.ref b115), .val (.ref b118), .val (.ref b118), .val (.int (own_hv (own_hd p6))), .val (.int y133), .val (.int y143), .val (.int y153), .val (.ref b154), .val (.int (1 : Int32)), .unset, .unset] [])) _
            refine XS.iload X166.here hx rfl (hb hby at_301) rfl ?_
            exact k
          by_cases hc303_168 : y153 = (0 : Int32)
          · have pre169 : ∀ t, Steps p.tables e below (T166.setTop (mkF m 316 #[.val (.long q1), .second, .val (.long q2), .second, .val (.int p3), .val (.int p4), .val (.int p5), .val (.int p6), .val (.int y1), .val (.int y2), .val (.int y3), .val (.int y4), .val (.int (p5 &&& (3 : Int32))), .val (.int (own_hd p6)), .val (.int (1 : Int32)), .val (.int (y1 * (64 : Int32))), .val (.int y112), .val (.int y113), .val (.int y114), .val (.ref b115), .val (.ref b118), .val (.ref b118), .val (.int (own_hv (own_hd p6))), .val (.int y133), .val (.int y143), .val (.int y153), .val (.ref b154), .val (.int (1 : Int32)), .unset, .unset] [])) t → Steps p.tables e below (s₁.setTop (entryFrame m #[(.long q1), (.long q2), (.int p3), (.int p4), (.int p5), (.int p6)] maxLocals)) t := by
              intro t k
              refine pre167 t ?_
              show Steps p.tables e below (T166.setTop (mkF m 303 #[.val (.long q1), .second, .val (.long q2), .second, .val (.int p3), .val (.int p4), .val (.int p5), .val (.int p6), .val (.int y1), .val (.int y2), .val (.int y3), .val (.int y4), .val (.int (p5 &&& (3 : Int32))), .val (.int (own_hd p6)), .val (.int (1 : Int32)), .val (.int (y1 * (64 : Int32))), .val (.int y112), .val (.int y113), .val (.int y114), .val (.ref b115), .val (.ref b118), .val (.ref b118), .val (.int (own_hv (own_hd p6))), .val (.int y133), .val (.int y143), .val (.int y153), .val (.ref b154), .val (.int (1 : Int32)), .unset, .unset] [(.int y153)])) _
              refine XS.ifYes X166.here hx rfl (pc0 := 303) (pc' := 316) rfl (hb hby at_303) rfl ((if0 _ _).trans (teq hc303_168).1) (by decide) (by decide) ?_
              exact k
            have hs : (own_L y133 y143 y153 y112 y113 y114) = [y113] := by rw [own_L, own_c, own_c, own_c, if_pos hc273_158, if_neg hc288_160, if_pos hc303_168]; rfl
            refine ⟨_, _, _, X166, e166, N166, Z166, VW_v166, VV_v166, ⟨(fun i => if i = 0 then y113 else if i = 1 then (0 : Int32) else (0 : Int32)), V166_v166.congr (fun i hi => by match i, hi with | 0, _ => exact congrArg Value.int (own_nar hb1.1) | 1, _ => rfl | 2, _ => rfl), (by rw [hs]; intro i hi; have hj : i = 0 := by { simp only [List.length_cons, List.length_nil] at hi; omega }; rcases hj with rfl <;> rfl)⟩, fun t k => ?_⟩
            rw [show own_len (own_L y133 y143 y153 y112 y113 y114) = (1 : Int32) from by rw [hs]; rfl] at k
            exact pre169 t k
          · obtain ⟨cl170, Ar170, S170, H170⟩ := id V166_v166
            have hin170 : ¬ ((1 : Int32) < 0 ∨ cl170.slots.size ≤ ((1 : Int32)).toNatClampNeg) := inA S170 (by decide) (by decide)
            obtain ⟨T170, h170, X170, e170, W170, st170⟩ := stC X166 hx hZ e166 Ar170 (j := (1 : Int32)) hin170 (g := (mkF m 312 #[.val (.long q1), .second, .val (.long q2), .second, .val (.int p3), .val (.int p4), .val (.int p5), .val (.int p6), .val (.int y1), .val (.int y2), .val (.int y3), .val (.int y4), .val (.int (p5 &&& (3 : Int32))), .val (.int (own_hd p6)), .val (.int (1 : Int32)), .val (.int (y1 * (64 : Int32))), .val (.int y112), .val (.int y113), .val (.int y114), .val (.ref b115), .val (.ref b118), .val (.ref b118), .val (.int (own_hv (own_hd p6))), .val (.int y133), .val (.int y143), .val (.int y153), .val (.ref b154), .val (.int (1 : Int32)), .unset, .unset] [(.int y114), (.int (1 : Int32)), (.ref b154)])) rfl rfl (hb hby at_312)
            have VW_v170 := VW_v166.other W170 ne_b115_b154
            have VV_v170 := VV_v166.other W170 ne_b118_b154
            have Z170 : n0 ≤ h170.size := Nat.le_trans Z166 (Nat.le_of_eq W170.size.symm)
            have V170_v170 := ArF.set Ar170 S170 H170 W170 hin170
            have N170 := Fr.snoc X170 N166 g_b154
            have pre171 : ∀ t, Steps p.tables e below (T170.setTop (mkF m 316 #[.val (.long q1), .second, .val (.long q2), .second, .val (.int p3), .val (.int p4), .val (.int p5), .val (.int p6), .val (.int y1), .val (.int y2), .val (.int y3), .val (.int y4), .val (.int (p5 &&& (3 : Int32))), .val (.int (own_hd p6)), .val (.int (1 : Int32)), .val (.int (y1 * (64 : Int32))), .val (.int y112), .val (.int y113), .val (.int y114), .val (.ref b115), .val (.ref b118), .val (.ref b118), .val (.int (own_hv (own_hd p6))), .val (.int y133), .val (.int y143), .val (.int y153), .val (.ref b154), .val (.int (2 : Int32)), .unset, .unset] [])) t → Steps p.tables e below (s₁.setTop (entryFrame m #[(.long q1), (.long q2), (.int p3), (.int p4), (.int p5), (.int p6)] maxLocals)) t := by
              intro t k
              refine pre167 t ?_
              show Steps p.tables e below (T166.setTop (mkF m 303 #[.val (.long q1), .second, .val (.long q2), .second, .val (.int p3), .val (.int p4), .val (.int p5), .val (.int p6), .val (.int y1), .val (.int y2), .val (.int y3), .val (.int y4), .val (.int (p5 &&& (3 : Int32))), .val (.int (own_hd p6)), .val (.int (1 : Int32)), .val (.int (y1 * (64 : Int32))), .val (.int y112), .val (.int y113), .val (.int y114), .val (.ref b115), .val (.ref b118), .val (.ref b118), .val (.int (own_hv (own_hd p6))), .val (.int y133), .val (.int y143), .val (.int y153), .val (.ref b154), .val (.int (1 : Int32)), .unset, .unset] [(.int y153)])) _
              refine XS.ifNo X166.here hx rfl (hb hby at_303) rfl ((if0 _ _).trans (feq hc303_168).1) ?_
              show Steps p.tables e below (T166.setTop (mkF m 306 #[.val (.long q1), .second, .val (.long q2), .second, .val (.int p3), .val (.int p4), .val (.int p5), .val (.int p6), .val (.int y1), .val (.int y2), .val (.int y3), .val (.int y4), .val (.int (p5 &&& (3 : Int32))), .val (.int (own_hd p6)), .val (.int (1 : Int32)), .val (.int (y1 * (64 : Int32))), .val (.int y112), .val (.int y113), .val (.int y114), .val (.ref b115), .val (.ref b118), .val (.ref b118), .val (.int (own_hv (own_hd p6))), .val (.int y133), .val (.int y143), .val (.int y153), .val (.ref b154), .val (.int (1 : Int32)), .unset, .unset] [])) _
              refine XS.aload X166.here hx rfl (hb hby at_306) rfl rfl ?_
              refine XS.iload X166.here hx rfl (hb hby at_308) rfl ?_
              refine XS.iload X166.here hx rfl (hb hby at_310) rfl ?_
              show Steps p.tables e below (T166.setTop (mkF m 312 #[.val (.long q1), .second, .val (.long q2), .second, .val (.int p3), .val (.int p4), .val (.int p5), .val (.int p6), .val (.int y1), .val (.int y2), .val (.int y3), .val (.int y4), .val (.int (p5 &&& (3 : Int32))), .val (.int (own_hd p6)), .val (.int (1 : Int32)), .val (.int (y1 * (64 : Int32))), .val (.int y112), .val (.int y113), .val (.int y114), .val (.ref b115), .val (.ref b118), .val (.ref b118), .val (.int (own_hv (own_hd p6))), .val (.int y133), .val (.int y143), .val (.int y153), .val (.ref b154), .val (.int (1 : Int32)), .unset, .unset] [(.int y114), (.int (1 : Int32)), (.ref b154)])) _
              refine st170 _ ?_
              show Steps p.tables e below (T170.setTop (mkF m 313 #[.val (.long q1), .second, .val (.long q2), .second, .val (.int p3), .val (.int p4), .val (.int p5), .val (.int p6), .val (.int y1), .val (.int y2), .val (.int y3), .val (.int y4), .val (.int (p5 &&& (3 : Int32))), .val (.int (own_hd p6)), .val (.int (1 : Int32)), .val (.int (y1 * (64 : Int32))), .val (.int y112), .val (.int y113), .val (.int y114), .val (.ref b115), .val (.ref b118), .val (.ref b118), .val (.int (own_hv (own_hd p6))), .val (.int y133), .val (.int y143), .val (.int y153), .val (.ref b154), .val (.int (1 : Int32)), .unset, .unset] [])) _
              refine XS.iinc X170.here hx rfl (hb hby at_313) rfl (l' := #[.val (.long q1), .second, .val (.long q2), .second, .val (.int p3), .val (.int p4), .val (.int p5), .val (.int p6), .val (.int y1), .val (.int y2), .val (.int y3), .val (.int y4), .val (.int (p5 &&& (3 : Int32))), .val (.int (own_hd p6)), .val (.int (1 : Int32)), .val (.int (y1 * (64 : Int32))), .val (.int y112), .val (.int y113), .val (.int y114), .val (.ref b115), .val (.ref b118), .val (.ref b118), .val (.int (own_hv (own_hd p6))), .val (.int y133), .val (.int y143), .val (.int y153), .val (.ref b154), .val (.int (2 : Int32)), .unset, .unset]) rfl ?_
              exact k
            have hs : (own_L y133 y143 y153 y112 y113 y114) = [y113, y114] := by rw [own_L, own_c, own_c, own_c, if_pos hc273_158, if_neg hc288_160, if_neg hc303_168]; rfl
            refine ⟨_, _, _, X170, e170, N170, Z170, VW_v170, VV_v170, ⟨(fun i => if i = 0 then y113 else if i = 1 then y114 else (0 : Int32)), V170_v170.congr (fun i hi => by match i, hi with | 0, _ => exact congrArg Value.int (own_nar hb1.1) | 1, _ => exact congrArg Value.int (own_nar hb2.1) | 2, _ => rfl), (by rw [hs]; intro i hi; have hj : i = 0 ∨ i = 1 := by { simp only [List.length_cons, List.length_nil] at hi; omega }; rcases hj with rfl | rfl <;> rfl)⟩, fun t k => ?_⟩
            rw [show own_len (own_L y133 y143 y153 y112 y113 y114) = (2 : Int32) from by rw [hs]; rfl] at k
            exact pre171 t k
      · obtain ⟨cl172, Ar172, S172, H172⟩ := id V154_v154
        have hin172 : ¬ ((0 : Int32) < 0 ∨ cl172.slots.size ≤ ((0 : Int32)).toNatClampNeg) := inA S172 (by decide) (by decide)
        obtain ⟨T172, h172, X172, e172, W172, st172⟩ := stC X154 hx hZ e154 Ar172 (j := (0 : Int32)) hin172 (g := (mkF m 282 #[.val (.long q1), .second, .val (.long q2), .second, .val (.int p3), .val (.int p4), .val (.int p5), .val (.int p6), .val (.int y1), .val (.int y2), .val (.int y3), .val (.int y4), .val (.int (p5 &&& (3 : Int32))), .val (.int (own_hd p6)), .val (.int (1 : Int32)), .val (.int (y1 * (64 : Int32))), .val (.int y112), .val (.int y113), .val (.int y114), .val (.ref b115), .val (.ref b118), .val (.ref b118), .val (.int (own_hv (own_hd p6))), .val (.int y133), .val (.int y143), .val (.int y153), .val (.ref b154), .val (.int (0 : Int32)), .unset, .unset] [(.int y112), (.int (0 : Int32)), (.ref b154)])) rfl rfl (hb hby at_282)
        have VW_v172 := VW_v154.other W172 ne_b115_b154
        have VV_v172 := VV_v154.other W172 ne_b118_b154
        have Z172 : n0 ≤ h172.size := Nat.le_trans Z154 (Nat.le_of_eq W172.size.symm)
        have V172_v172 := ArF.set Ar172 S172 H172 W172 hin172
        have N172 := Fr.snoc X172 N145 g_b154
        have pre173 : ∀ t, Steps p.tables e below (T172.setTop (mkF m 288 #[.val (.long q1), .second, .val (.long q2), .second, .val (.int p3), .val (.int p4), .val (.int p5), .val (.int p6), .val (.int y1), .val (.int y2), .val (.int y3), .val (.int y4), .val (.int (p5 &&& (3 : Int32))), .val (.int (own_hd p6)), .val (.int (1 : Int32)), .val (.int (y1 * (64 : Int32))), .val (.int y112), .val (.int y113), .val (.int y114), .val (.ref b115), .val (.ref b118), .val (.ref b118), .val (.int (own_hv (own_hd p6))), .val (.int y133), .val (.int y143), .val (.int y153), .val (.ref b154), .val (.int (1 : Int32)), .unset, .unset] [(.int y143)])) t → Steps p.tables e below (s₁.setTop (entryFrame m #[(.long q1), (.long q2), (.int p3), (.int p4), (.int p5), (.int p6)] maxLocals)) t := by
          intro t k
          refine pre157 t ?_
          show Steps p.tables e below (T154.setTop (mkF m 273 #[.val (.long q1), .second, .val (.long q2), .second, .val (.int p3), .val (.int p4), .val (.int p5), .val (.int p6), .val (.int y1), .val (.int y2), .val (.int y3), .val (.int y4), .val (.int (p5 &&& (3 : Int32))), .val (.int (own_hd p6)), .val (.int (1 : Int32)), .val (.int (y1 * (64 : Int32))), .val (.int y112), .val (.int y113), .val (.int y114), .val (.ref b115), .val (.ref b118), .val (.ref b118), .val (.int (own_hv (own_hd p6))), .val (.int y133), .val (.int y143), .val (.int y153), .val (.ref b154), .val (.int (0 : Int32)), .unset, .unset] [(.int y133)])) _
          refine XS.ifNo X154.here hx rfl (hb hby at_273) rfl ((if0 _ _).trans (feq hc273_158).1) ?_
          show Steps p.tables e below (T154.setTop (mkF m 276 #[.val (.long q1), .second, .val (.long q2), .second, .val (.int p3), .val (.int p4), .val (.int p5), .val (.int p6), .val (.int y1), .val (.int y2), .val (.int y3), .val (.int y4), .val (.int (p5 &&& (3 : Int32))), .val (.int (own_hd p6)), .val (.int (1 : Int32)), .val (.int (y1 * (64 : Int32))), .val (.int y112), .val (.int y113), .val (.int y114), .val (.ref b115), .val (.ref b118), .val (.ref b118), .val (.int (own_hv (own_hd p6))), .val (.int y133), .val (.int y143), .val (.int y153), .val (.ref b154), .val (.int (0 : Int32)), .unset, .unset] [])) _
          refine XS.aload X154.here hx rfl (hb hby at_276) rfl rfl ?_
          refine XS.iload X154.here hx rfl (hb hby at_278) rfl ?_
          refine XS.iload X154.here hx rfl (hb hby at_280) rfl ?_
          show Steps p.tables e below (T154.setTop (mkF m 282 #[.val (.long q1), .second, .val (.long q2), .second, .val (.int p3), .val (.int p4), .val (.int p5), .val (.int p6), .val (.int y1), .val (.int y2), .val (.int y3), .val (.int y4), .val (.int (p5 &&& (3 : Int32))), .val (.int (own_hd p6)), .val (.int (1 : Int32)), .val (.int (y1 * (64 : Int32))), .val (.int y112), .val (.int y113), .val (.int y114), .val (.ref b115), .val (.ref b118), .val (.ref b118), .val (.int (own_hv (own_hd p6))), .val (.int y133), .val (.int y143), .val (.int y153), .val (.ref b154), .val (.int (0 : Int32)), .unset, .unset] [(.int y112), (.int (0 : Int32)), (.ref b154)])) _
          refine st172 _ ?_
          show Steps p.tables e below (T172.setTop (mkF m 283 #[.val (.long q1), .second, .val (.long q2), .second, .val (.int p3), .val (.int p4), .val (.int p5), .val (.int p6), .val (.int y1), .val (.int y2), .val (.int y3), .val (.int y4), .val (.int (p5 &&& (3 : Int32))), .val (.int (own_hd p6)), .val (.int (1 : Int32)), .val (.int (y1 * (64 : Int32))), .val (.int y112), .val (.int y113), .val (.int y114), .val (.ref b115), .val (.ref b118), .val (.ref b118), .val (.int (own_hv (own_hd p6))), .val (.int y133), .val (.int y143), .val (.int y153), .val (.ref b154), .val (.int (0 : Int32)), .unset, .unset] [])) _
          refine XS.iinc X172.here hx rfl (hb hby at_283) rfl (l' := #[.val (.long q1), .second, .val (.long q2), .second, .val (.int p3), .val (.int p4), .val (.int p5), .val (.int p6), .val (.int y1), .val (.int y2), .val (.int y3), .val (.int y4), .val (.int (p5 &&& (3 : Int32))), .val (.int (own_hd p6)), .val (.int (1 : Int32)), .val (.int (y1 * (64 : Int32))), .val (.int y112), .val (.int y113), .val (.int y114), .val (.ref b115), .val (.ref b118), .val (.ref b118), .val (.int (own_hv (own_hd p6))), .val (.int y133), .val (.int y143), .val (.int y153), .val (.ref b154), .val (.int (1 : Int32)), .unset, .unset]) rfl ?_
          show Steps p.tables e below (T172.setTop (mkF m 286 #[.val (.long q1), .second, .val (.long q2), .second, .val (.int p3), .val (.int p4), .val (.int p5), .val (.int p6), .val (.int y1), .val (.int y2), .val (.int y3), .val (.int y4), .val (.int (p5 &&& (3 : Int32))), .val (.int (own_hd p6)), .val (.int (1 : Int32)), .val (.int (y1 * (64 : Int32))), .val (.int y112), .val (.int y113), .val (.int y114), .val (.ref b115), .val (.ref b118), .val (.ref b118), .val (.int (own_hv (own_hd p6))), .val (.int y133), .val (.int y143), .val (.int y153), .val (.ref b154), .val (.int (1 : Int32)), .unset, .unset] [])) _
          refine XS.iload X172.here hx rfl (hb hby at_286) rfl ?_
          exact k
        by_cases hc288_174 : y143 = (0 : Int32)
        · have pre175 : ∀ t, Steps p.tables e below (T172.setTop (mkF m 303 #[.val (.long q1), .second, .val (.long q2), .second, .val (.int p3), .val (.int p4), .val (.int p5), .val (.int p6), .val (.int y1), .val (.int y2), .val (.int y3), .val (.int y4), .val (.int (p5 &&& (3 : Int32))), .val (.int (own_hd p6)), .val (.int (1 : Int32)), .val (.int (y1 * (64 : Int32))), .val (.int y112), .val (.int y113), .val (.int y114), .val (.ref b115), .val (.ref b118), .val (.ref b118), .val (.int (own_hv (own_hd p6))), .val (.int y133), .val (.int y143), .val (.int y153), .val (.ref b154), .val (.int (1 : Int32)), .unset, .unset] [(.int y153)])) t → Steps p.tables e below (s₁.setTop (entryFrame m #[(.long q1), (.long q2), (.int p3), (.int p4), (.int p5), (.int p6)] maxLocals)) t := by
            intro t k
            refine pre173 t ?_
            show Steps p.tables e below (T172.setTop (mkF m 288 #[.val (.long q1), .second, .val (.long q2), .second, .val (.int p3), .val (.int p4), .val (.int p5), .val (.int p6), .val (.int y1), .val (.int y2), .val (.int y3), .val (.int y4), .val (.int (p5 &&& (3 : Int32))), .val (.int (own_hd p6)), .val (.int (1 : Int32)), .val (.int (y1 * (64 : Int32))), .val (.int y112), .val (.int y113), .val (.int y114), .val (.ref b115), .val (.ref b118), .val (.ref b118), .val (.int (own_hv (own_hd p6))), .val (.int y133), .val (.int y143), .val (.int y153), .val (.ref b154), .val (.int (1 : Int32)), .unset, .unset] [(.int y143)])) _
            refine XS.ifYes X172.here hx rfl (pc0 := 288) (pc' := 301) rfl (hb hby at_288) rfl ((if0 _ _).trans (teq hc288_174).1) (by decide) (by decide) ?_
            show Steps p.tables e below (T172.setTop (mkF m 301 #[.val (.long q1), .second, .val (.long q2), .second, .val (.int p3), .val (.int p4), .val (.int p5), .val (.int p6), .val (.int y1), .val (.int y2), .val (.int y3), .val (.int y4), .val (.int (p5 &&& (3 : Int32))), .val (.int (own_hd p6)), .val (.int (1 : Int32)), .val (.int (y1 * (64 : Int32))), .val (.int y112), .val (.int y113), .val (.int y114), .val (.ref b115), .val (.ref b118), .val (.ref b118), .val (.int (own_hv (own_hd p6))), .val (.int y133), .val (.int y143), .val (.int y153), .val (.ref b154), .val (.int (1 : Int32)), .unset, .unset] [])) _
            refine XS.iload X172.here hx rfl (hb hby at_301) rfl ?_
            exact k
          by_cases hc303_176 : y153 = (0 : Int32)
          · have pre177 : ∀ t, Steps p.tables e below (T172.setTop (mkF m 316 #[.val (.long q1), .second, .val (.long q2), .second, .val (.int p3), .val (.int p4), .val (.int p5), .val (.int p6), .val (.int y1), .val (.int y2), .val (.int y3), .val (.int y4), .val (.int (p5 &&& (3 : Int32))), .val (.int (own_hd p6)), .val (.int (1 : Int32)), .val (.int (y1 * (64 : Int32))), .val (.int y112), .val (.int y113), .val (.int y114), .val (.ref b115), .val (.ref b118), .val (.ref b118), .val (.int (own_hv (own_hd p6))), .val (.int y133), .val (.int y143), .val (.int y153), .val (.ref b154), .val (.int (1 : Int32)), .unset, .unset] [])) t → Steps p.tables e below (s₁.setTop (entryFrame m #[(.long q1), (.long q2), (.int p3), (.int p4), (.int p5), (.int p6)] maxLocals)) t := by
              intro t k
              refine pre175 t ?_
              show Steps p.tables e below (T172.setTop (mkF m 303 #[.val (.long q1), .second, .val (.long q2), .second, .val (.int p3), .val (.int p4), .val (.int p5), .val (.int p6), .val (.int y1), .val (.int y2), .val (.int y3), .val (.int y4), .val (.int (p5 &&& (3 : Int32))), .val (.int (own_hd p6)), .val (.int (1 : Int32)), .val (.int (y1 * (64 : Int32))), .val (.int y112), .val (.int y113), .val (.int y114), .val (.ref b115), .val (.ref b118), .val (.ref b118), .val (.int (own_hv (own_hd p6))), .val (.int y133), .val (.int y143), .val (.int y153), .val (.ref b154), .val (.int (1 : Int32)), .unset, .unset] [(.int y153)])) _
              refine XS.ifYes X172.here hx rfl (pc0 := 303) (pc' := 316) rfl (hb hby at_303) rfl ((if0 _ _).trans (teq hc303_176).1) (by decide) (by decide) ?_
              exact k
            have hs : (own_L y133 y143 y153 y112 y113 y114) = [y112] := by rw [own_L, own_c, own_c, own_c, if_neg hc273_158, if_pos hc288_174, if_pos hc303_176]; rfl
            refine ⟨_, _, _, X172, e172, N172, Z172, VW_v172, VV_v172, ⟨(fun i => if i = 0 then y112 else if i = 1 then (0 : Int32) else (0 : Int32)), V172_v172.congr (fun i hi => by match i, hi with | 0, _ => exact congrArg Value.int (own_nar hb0.1) | 1, _ => rfl | 2, _ => rfl), (by rw [hs]; intro i hi; have hj : i = 0 := by { simp only [List.length_cons, List.length_nil] at hi; omega }; rcases hj with rfl <;> rfl)⟩, fun t k => ?_⟩
            rw [show own_len (own_L y133 y143 y153 y112 y113 y114) = (1 : Int32) from by rw [hs]; rfl] at k
            exact pre177 t k
          · obtain ⟨cl178, Ar178, S178, H178⟩ := id V172_v172
            have hin178 : ¬ ((1 : Int32) < 0 ∨ cl178.slots.size ≤ ((1 : Int32)).toNatClampNeg) := inA S178 (by decide) (by decide)
            obtain ⟨T178, h178, X178, e178, W178, st178⟩ := stC X172 hx hZ e172 Ar178 (j := (1 : Int32)) hin178 (g := (mkF m 312 #[.val (.long q1), .second, .val (.long q2), .second, .val (.int p3), .val (.int p4), .val (.int p5), .val (.int p6), .val (.int y1), .val (.int y2), .val (.int y3), .val (.int y4), .val (.int (p5 &&& (3 : Int32))), .val (.int (own_hd p6)), .val (.int (1 : Int32)), .val (.int (y1 * (64 : Int32))), .val (.int y112), .val (.int y113), .val (.int y114), .val (.ref b115), .val (.ref b118), .val (.ref b118), .val (.int (own_hv (own_hd p6))), .val (.int y133), .val (.int y143), .val (.int y153), .val (.ref b154), .val (.int (1 : Int32)), .unset, .unset] [(.int y114), (.int (1 : Int32)), (.ref b154)])) rfl rfl (hb hby at_312)
            have VW_v178 := VW_v172.other W178 ne_b115_b154
            have VV_v178 := VV_v172.other W178 ne_b118_b154
            have Z178 : n0 ≤ h178.size := Nat.le_trans Z172 (Nat.le_of_eq W178.size.symm)
            have V178_v178 := ArF.set Ar178 S178 H178 W178 hin178
            have N178 := Fr.snoc X178 N172 g_b154
            have pre179 : ∀ t, Steps p.tables e below (T178.setTop (mkF m 316 #[.val (.long q1), .second, .val (.long q2), .second, .val (.int p3), .val (.int p4), .val (.int p5), .val (.int p6), .val (.int y1), .val (.int y2), .val (.int y3), .val (.int y4), .val (.int (p5 &&& (3 : Int32))), .val (.int (own_hd p6)), .val (.int (1 : Int32)), .val (.int (y1 * (64 : Int32))), .val (.int y112), .val (.int y113), .val (.int y114), .val (.ref b115), .val (.ref b118), .val (.ref b118), .val (.int (own_hv (own_hd p6))), .val (.int y133), .val (.int y143), .val (.int y153), .val (.ref b154), .val (.int (2 : Int32)), .unset, .unset] [])) t → Steps p.tables e below (s₁.setTop (entryFrame m #[(.long q1), (.long q2), (.int p3), (.int p4), (.int p5), (.int p6)] maxLocals)) t := by
              intro t k
              refine pre175 t ?_
              show Steps p.tables e below (T172.setTop (mkF m 303 #[.val (.long q1), .second, .val (.long q2), .second, .val (.int p3), .val (.int p4), .val (.int p5), .val (.int p6), .val (.int y1), .val (.int y2), .val (.int y3), .val (.int y4), .val (.int (p5 &&& (3 : Int32))), .val (.int (own_hd p6)), .val (.int (1 : Int32)), .val (.int (y1 * (64 : Int32))), .val (.int y112), .val (.int y113), .val (.int y114), .val (.ref b115), .val (.ref b118), .val (.ref b118), .val (.int (own_hv (own_hd p6))), .val (.int y133), .val (.int y143), .val (.int y153), .val (.ref b154), .val (.int (1 : Int32)), .unset, .unset] [(.int y153)])) _
              refine XS.ifNo X172.here hx rfl (hb hby at_303) rfl ((if0 _ _).trans (feq hc303_176).1) ?_
              show Steps p.tables e below (T172.setTop (mkF m 306 #[.val (.long q1), .second, .val (.long q2), .second, .val (.int p3), .val (.int p4), .val (.int p5), .val (.int p6), .val (.int y1), .val (.int y2), .val (.int y3), .val (.int y4), .val (.int (p5 &&& (3 : Int32))), .val (.int (own_hd p6)), .val (.int (1 : Int32)), .val (.int (y1 * (64 : Int32))), .val (.int y112), .val (.int y113), .val (.int y114), .val (.ref b115), .val (.ref b118), .val (.ref b118), .val (.int (own_hv (own_hd p6))), .val (.int y133), .val (.int y143), .val (.int y153), .val (.ref b154), .val (.int (1 : Int32)), .unset, .unset] [])) _
              refine XS.aload X172.here hx rfl (hb hby at_306) rfl rfl ?_
              refine XS.iload X172.here hx rfl (hb hby at_308) rfl ?_
              refine XS.iload X172.here hx rfl (hb hby at_310) rfl ?_
              show Steps p.tables e below (T172.setTop (mkF m 312 #[.val (.long q1), .second, .val (.long q2), .second, .val (.int p3), .val (.int p4), .val (.int p5), .val (.int p6), .val (.int y1), .val (.int y2), .val (.int y3), .val (.int y4), .val (.int (p5 &&& (3 : Int32))), .val (.int (own_hd p6)), .val (.int (1 : Int32)), .val (.int (y1 * (64 : Int32))), .val (.int y112), .val (.int y113), .val (.int y114), .val (.ref b115), .val (.ref b118), .val (.ref b118), .val (.int (own_hv (own_hd p6))), .val (.int y133), .val (.int y143), .val (.int y153), .val (.ref b154), .val (.int (1 : Int32)), .unset, .unset] [(.int y114), (.int (1 : Int32)), (.ref b154)])) _
              refine st178 _ ?_
              show Steps p.tables e below (T178.setTop (mkF m 313 #[.val (.long q1), .second, .val (.long q2), .second, .val (.int p3), .val (.int p4), .val (.int p5), .val (.int p6), .val (.int y1), .val (.int y2), .val (.int y3), .val (.int y4), .val (.int (p5 &&& (3 : Int32))), .val (.int (own_hd p6)), .val (.int (1 : Int32)), .val (.int (y1 * (64 : Int32))), .val (.int y112), .val (.int y113), .val (.int y114), .val (.ref b115), .val (.ref b118), .val (.ref b118), .val (.int (own_hv (own_hd p6))), .val (.int y133), .val (.int y143), .val (.int y153), .val (.ref b154), .val (.int (1 : Int32)), .unset, .unset] [])) _
              refine XS.iinc X178.here hx rfl (hb hby at_313) rfl (l' := #[.val (.long q1), .second, .val (.long q2), .second, .val (.int p3), .val (.int p4), .val (.int p5), .val (.int p6), .val (.int y1), .val (.int y2), .val (.int y3), .val (.int y4), .val (.int (p5 &&& (3 : Int32))), .val (.int (own_hd p6)), .val (.int (1 : Int32)), .val (.int (y1 * (64 : Int32))), .val (.int y112), .val (.int y113), .val (.int y114), .val (.ref b115), .val (.ref b118), .val (.ref b118), .val (.int (own_hv (own_hd p6))), .val (.int y133), .val (.int y143), .val (.int y153), .val (.ref b154), .val (.int (2 : Int32)), .unset, .unset]) rfl ?_
              exact k
            have hs : (own_L y133 y143 y153 y112 y113 y114) = [y112, y114] := by rw [own_L, own_c, own_c, own_c, if_neg hc273_158, if_pos hc288_174, if_neg hc303_176]; rfl
            refine ⟨_, _, _, X178, e178, N178, Z178, VW_v178, VV_v178, ⟨(fun i => if i = 0 then y112 else if i = 1 then y114 else (0 : Int32)), V178_v178.congr (fun i hi => by match i, hi with | 0, _ => exact congrArg Value.int (own_nar hb0.1) | 1, _ => exact congrArg Value.int (own_nar hb2.1) | 2, _ => rfl), (by rw [hs]; intro i hi; have hj : i = 0 ∨ i = 1 := by { simp only [List.length_cons, List.length_nil] at hi; omega }; rcases hj with rfl | rfl <;> rfl)⟩, fun t k => ?_⟩
            rw [show own_len (own_L y133 y143 y153 y112 y113 y114) = (2 : Int32) from by rw [hs]; rfl] at k
            exact pre179 t k
        · obtain ⟨cl180, Ar180, S180, H180⟩ := id V172_v172
          have hin180 : ¬ ((1 : Int32) < 0 ∨ cl180.slots.size ≤ ((1 : Int32)).toNatClampNeg) := inA S180 (by decide) (by decide)
          obtain ⟨T180, h180, X180, e180, W180, st180⟩ := stC X172 hx hZ e172 Ar180 (j := (1 : Int32)) hin180 (g := (mkF m 297 #[.val (.long q1), .second, .val (.long q2), .second, .val (.int p3), .val (.int p4), .val (.int p5), .val (.int p6), .val (.int y1), .val (.int y2), .val (.int y3), .val (.int y4), .val (.int (p5 &&& (3 : Int32))), .val (.int (own_hd p6)), .val (.int (1 : Int32)), .val (.int (y1 * (64 : Int32))), .val (.int y112), .val (.int y113), .val (.int y114), .val (.ref b115), .val (.ref b118), .val (.ref b118), .val (.int (own_hv (own_hd p6))), .val (.int y133), .val (.int y143), .val (.int y153), .val (.ref b154), .val (.int (1 : Int32)), .unset, .unset] [(.int y113), (.int (1 : Int32)), (.ref b154)])) rfl rfl (hb hby at_297)
          have VW_v180 := VW_v172.other W180 ne_b115_b154
          have VV_v180 := VV_v172.other W180 ne_b118_b154
          have Z180 : n0 ≤ h180.size := Nat.le_trans Z172 (Nat.le_of_eq W180.size.symm)
          have V180_v180 := ArF.set Ar180 S180 H180 W180 hin180
          have N180 := Fr.snoc X180 N172 g_b154
          have pre181 : ∀ t, Steps p.tables e below (T180.setTop (mkF m 303 #[.val (.long q1), .second, .val (.long q2), .second, .val (.int p3), .val (.int p4), .val (.int p5), .val (.int p6), .val (.int y1), .val (.int y2), .val (.int y3), .val (.int y4), .val (.int (p5 &&& (3 : Int32))), .val (.int (own_hd p6)), .val (.int (1 : Int32)), .val (.int (y1 * (64 : Int32))), .val (.int y112), .val (.int y113), .val (.int y114), .val (.ref b115), .val (.ref b118), .val (.ref b118), .val (.int (own_hv (own_hd p6))), .val (.int y133), .val (.int y143), .val (.int y153), .val (.ref b154), .val (.int (2 : Int32)), .unset, .unset] [(.int y153)])) t → Steps p.tables e below (s₁.setTop (entryFrame m #[(.long q1), (.long q2), (.int p3), (.int p4), (.int p5), (.int p6)] maxLocals)) t := by
            intro t k
            refine pre173 t ?_
            show Steps p.tables e below (T172.setTop (mkF m 288 #[.val (.long q1), .second, .val (.long q2), .second, .val (.int p3), .val (.int p4), .val (.int p5), .val (.int p6), .val (.int y1), .val (.int y2), .val (.int y3), .val (.int y4), .val (.int (p5 &&& (3 : Int32))), .val (.int (own_hd p6)), .val (.int (1 : Int32)), .val (.int (y1 * (64 : Int32))), .val (.int y112), .val (.int y113), .val (.int y114), .val (.ref b115), .val (.ref b118), .val (.ref b118), .val (.int (own_hv (own_hd p6))), .val (.int y133), .val (.int y143), .val (.int y153), .val (.ref b154), .val (.int (1 : Int32)), .unset, .unset] [(.int y143)])) _
            refine XS.ifNo X172.here hx rfl (hb hby at_288) rfl ((if0 _ _).trans (feq hc288_174).1) ?_
            show Steps p.tables e below (T172.setTop (mkF m 291 #[.val (.long q1), .second, .val (.long q2), .second, .val (.int p3), .val (.int p4), .val (.int p5), .val (.int p6), .val (.int y1), .val (.int y2), .val (.int y3), .val (.int y4), .val (.int (p5 &&& (3 : Int32))), .val (.int (own_hd p6)), .val (.int (1 : Int32)), .val (.int (y1 * (64 : Int32))), .val (.int y112), .val (.int y113), .val (.int y114), .val (.ref b115), .val (.ref b118), .val (.ref b118), .val (.int (own_hv (own_hd p6))), .val (.int y133), .val (.int y143), .val (.int y153), .val (.ref b154), .val (.int (1 : Int32)), .unset, .unset] [])) _
            refine XS.aload X172.here hx rfl (hb hby at_291) rfl rfl ?_
            refine XS.iload X172.here hx rfl (hb hby at_293) rfl ?_
            refine XS.iload X172.here hx rfl (hb hby at_295) rfl ?_
            show Steps p.tables e below (T172.setTop (mkF m 297 #[.val (.long q1), .second, .val (.long q2), .second, .val (.int p3), .val (.int p4), .val (.int p5), .val (.int p6), .val (.int y1), .val (.int y2), .val (.int y3), .val (.int y4), .val (.int (p5 &&& (3 : Int32))), .val (.int (own_hd p6)), .val (.int (1 : Int32)), .val (.int (y1 * (64 : Int32))), .val (.int y112), .val (.int y113), .val (.int y114), .val (.ref b115), .val (.ref b118), .val (.ref b118), .val (.int (own_hv (own_hd p6))), .val (.int y133), .val (.int y143), .val (.int y153), .val (.ref b154), .val (.int (1 : Int32)), .unset, .unset] [(.int y113), (.int (1 : Int32)), (.ref b154)])) _
            refine st180 _ ?_
            show Steps p.tables e below (T180.setTop (mkF m 298 #[.val (.long q1), .second, .val (.long q2), .second, .val (.int p3), .val (.int p4), .val (.int p5), .val (.int p6), .val (.int y1), .val (.int y2), .val (.int y3), .val (.int y4), .val (.int (p5 &&& (3 : Int32))), .val (.int (own_hd p6)), .val (.int (1 : Int32)), .val (.int (y1 * (64 : Int32))), .val (.int y112), .val (.int y113), .val (.int y114), .val (.ref b115), .val (.ref b118), .val (.ref b118), .val (.int (own_hv (own_hd p6))), .val (.int y133), .val (.int y143), .val (.int y153), .val (.ref b154), .val (.int (1 : Int32)), .unset, .unset] [])) _
            refine XS.iinc X180.here hx rfl (hb hby at_298) rfl (l' := #[.val (.long q1), .second, .val (.long q2), .second, .val (.int p3), .val (.int p4), .val (.int p5), .val (.int p6), .val (.int y1), .val (.int y2), .val (.int y3), .val (.int y4), .val (.int (p5 &&& (3 : Int32))), .val (.int (own_hd p6)), .val (.int (1 : Int32)), .val (.int (y1 * (64 : Int32))), .val (.int y112), .val (.int y113), .val (.int y114), .val (.ref b115), .val (.ref b118), .val (.ref b118), .val (.int (own_hv (own_hd p6))), .val (.int y133), .val (.int y143), .val (.int y153), .val (.ref b154), .val (.int (2 : Int32)), .unset, .unset]) rfl ?_
            show Steps p.tables e below (T180.setTop (mkF m 301 #[.val (.long q1), .second, .val (.long q2), .second, .val (.int p3), .val (.int p4), .val (.int p5), .val (.int p6), .val (.int y1), .val (.int y2), .val (.int y3), .val (.int y4), .val (.int (p5 &&& (3 : Int32))), .val (.int (own_hd p6)), .val (.int (1 : Int32)), .val (.int (y1 * (64 : Int32))), .val (.int y112), .val (.int y113), .val (.int y114), .val (.ref b115), .val (.ref b118), .val (.ref b118), .val (.int (own_hv (own_hd p6))), .val (.int y133), .val (.int y143), .val (.int y153), .val (.ref b154), .val (.int (2 : Int32)), .unset, .unset] [])) _
            refine XS.iload X180.here hx rfl (hb hby at_301) rfl ?_
            exact k
          by_cases hc303_182 : y153 = (0 : Int32)
          · have pre183 : ∀ t, Steps p.tables e below (T180.setTop (mkF m 316 #[.val (.long q1), .second, .val (.long q2), .second, .val (.int p3), .val (.int p4), .val (.int p5), .val (.int p6), .val (.int y1), .val (.int y2), .val (.int y3), .val (.int y4), .val (.int (p5 &&& (3 : Int32))), .val (.int (own_hd p6)), .val (.int (1 : Int32)), .val (.int (y1 * (64 : Int32))), .val (.int y112), .val (.int y113), .val (.int y114), .val (.ref b115), .val (.ref b118), .val (.ref b118), .val (.int (own_hv (own_hd p6))), .val (.int y133), .val (.int y143), .val (.int y153), .val (.ref b154), .val (.int (2 : Int32)), .unset, .unset] [])) t → Steps p.tables e below (s₁.setTop (entryFrame m #[(.long q1), (.long q2), (.int p3), (.int p4), (.int p5), (.int p6)] maxLocals)) t := by
              intro t k
              refine pre181 t ?_
              show Steps p.tables e below (T180.setTop (mkF m 303 #[.val (.long q1), .second, .val (.long q2), .second, .val (.int p3), .val (.int p4), .val (.int p5), .val (.int p6), .val (.int y1), .val (.int y2), .val (.int y3), .val (.int y4), .val (.int (p5 &&& (3 : Int32))), .val (.int (own_hd p6)), .val (.int (1 : Int32)), .val (.int (y1 * (64 : Int32))), .val (.int y112), .val (.int y113), .val (.int y114), .val (.ref b115), .val (.ref b118), .val (.ref b118), .val (.int (own_hv (own_hd p6))), .val (.int y133), .val (.int y143), .val (.int y153), .val (.ref b154), .val (.int (2 : Int32)), .unset, .unset] [(.int y153)])) _
              refine XS.ifYes X180.here hx rfl (pc0 := 303) (pc' := 316) rfl (hb hby at_303) rfl ((if0 _ _).trans (teq hc303_182).1) (by decide) (by decide) ?_
              exact k
            have hs : (own_L y133 y143 y153 y112 y113 y114) = [y112, y113] := by rw [own_L, own_c, own_c, own_c, if_neg hc273_158, if_neg hc288_174, if_pos hc303_182]; rfl
            refine ⟨_, _, _, X180, e180, N180, Z180, VW_v180, VV_v180, ⟨(fun i => if i = 0 then y112 else if i = 1 then y113 else (0 : Int32)), V180_v180.congr (fun i hi => by match i, hi with | 0, _ => exact congrArg Value.int (own_nar hb0.1) | 1, _ => exact congrArg Value.int (own_nar hb1.1) | 2, _ => rfl), (by rw [hs]; intro i hi; have hj : i = 0 ∨ i = 1 := by { simp only [List.length_cons, List.length_nil] at hi; omega }; rcases hj with rfl | rfl <;> rfl)⟩, fun t k => ?_⟩
            rw [show own_len (own_L y133 y143 y153 y112 y113 y114) = (2 : Int32) from by rw [hs]; rfl] at k
            exact pre183 t k
          · obtain ⟨cl184, Ar184, S184, H184⟩ := id V180_v180
            have hin184 : ¬ ((2 : Int32) < 0 ∨ cl184.slots.size ≤ ((2 : Int32)).toNatClampNeg) := inA S184 (by decide) (by decide)
            obtain ⟨T184, h184, X184, e184, W184, st184⟩ := stC X180 hx hZ e180 Ar184 (j := (2 : Int32)) hin184 (g := (mkF m 312 #[.val (.long q1), .second, .val (.long q2), .second, .val (.int p3), .val (.int p4), .val (.int p5), .val (.int p6), .val (.int y1), .val (.int y2), .val (.int y3), .val (.int y4), .val (.int (p5 &&& (3 : Int32))), .val (.int (own_hd p6)), .val (.int (1 : Int32)), .val (.int (y1 * (64 : Int32))), .val (.int y112), .val (.int y113), .val (.int y114), .val (.ref b115), .val (.ref b118), .val (.ref b118), .val (.int (own_hv (own_hd p6))), .val (.int y133), .val (.int y143), .val (.int y153), .val (.ref b154), .val (.int (2 : Int32)), .unset, .unset] [(.int y114), (.int (2 : Int32)), (.ref b154)])) rfl rfl (hb hby at_312)
            have VW_v184 := VW_v180.other W184 ne_b115_b154
            have VV_v184 := VV_v180.other W184 ne_b118_b154
            have Z184 : n0 ≤ h184.size := Nat.le_trans Z180 (Nat.le_of_eq W184.size.symm)
            have V184_v184 := ArF.set Ar184 S184 H184 W184 hin184
            have N184 := Fr.snoc X184 N180 g_b154
            have pre185 : ∀ t, Steps p.tables e below (T184.setTop (mkF m 316 #[.val (.long q1), .second, .val (.long q2), .second, .val (.int p3), .val (.int p4), .val (.int p5), .val (.int p6), .val (.int y1), .val (.int y2), .val (.int y3), .val (.int y4), .val (.int (p5 &&& (3 : Int32))), .val (.int (own_hd p6)), .val (.int (1 : Int32)), .val (.int (y1 * (64 : Int32))), .val (.int y112), .val (.int y113), .val (.int y114), .val (.ref b115), .val (.ref b118), .val (.ref b118), .val (.int (own_hv (own_hd p6))), .val (.int y133), .val (.int y143), .val (.int y153), .val (.ref b154), .val (.int (3 : Int32)), .unset, .unset] [])) t → Steps p.tables e below (s₁.setTop (entryFrame m #[(.long q1), (.long q2), (.int p3), (.int p4), (.int p5), (.int p6)] maxLocals)) t := by
              intro t k
              refine pre181 t ?_
              show Steps p.tables e below (T180.setTop (mkF m 303 #[.val (.long q1), .second, .val (.long q2), .second, .val (.int p3), .val (.int p4), .val (.int p5), .val (.int p6), .val (.int y1), .val (.int y2), .val (.int y3), .val (.int y4), .val (.int (p5 &&& (3 : Int32))), .val (.int (own_hd p6)), .val (.int (1 : Int32)), .val (.int (y1 * (64 : Int32))), .val (.int y112), .val (.int y113), .val (.int y114), .val (.ref b115), .val (.ref b118), .val (.ref b118), .val (.int (own_hv (own_hd p6))), .val (.int y133), .val (.int y143), .val (.int y153), .val (.ref b154), .val (.int (2 : Int32)), .unset, .unset] [(.int y153)])) _
              refine XS.ifNo X180.here hx rfl (hb hby at_303) rfl ((if0 _ _).trans (feq hc303_182).1) ?_
              show Steps p.tables e below (T180.setTop (mkF m 306 #[.val (.long q1), .second, .val (.long q2), .second, .val (.int p3), .val (.int p4), .val (.int p5), .val (.int p6), .val (.int y1), .val (.int y2), .val (.int y3), .val (.int y4), .val (.int (p5 &&& (3 : Int32))), .val (.int (own_hd p6)), .val (.int (1 : Int32)), .val (.int (y1 * (64 : Int32))), .val (.int y112), .val (.int y113), .val (.int y114), .val (.ref b115), .val (.ref b118), .val (.ref b118), .val (.int (own_hv (own_hd p6))), .val (.int y133), .val (.int y143), .val (.int y153), .val (.ref b154), .val (.int (2 : Int32)), .unset, .unset] [])) _
              refine XS.aload X180.here hx rfl (hb hby at_306) rfl rfl ?_
              refine XS.iload X180.here hx rfl (hb hby at_308) rfl ?_
              refine XS.iload X180.here hx rfl (hb hby at_310) rfl ?_
              show Steps p.tables e below (T180.setTop (mkF m 312 #[.val (.long q1), .second, .val (.long q2), .second, .val (.int p3), .val (.int p4), .val (.int p5), .val (.int p6), .val (.int y1), .val (.int y2), .val (.int y3), .val (.int y4), .val (.int (p5 &&& (3 : Int32))), .val (.int (own_hd p6)), .val (.int (1 : Int32)), .val (.int (y1 * (64 : Int32))), .val (.int y112), .val (.int y113), .val (.int y114), .val (.ref b115), .val (.ref b118), .val (.ref b118), .val (.int (own_hv (own_hd p6))), .val (.int y133), .val (.int y143), .val (.int y153), .val (.ref b154), .val (.int (2 : Int32)), .unset, .unset] [(.int y114), (.int (2 : Int32)), (.ref b154)])) _
              refine st184 _ ?_
              show Steps p.tables e below (T184.setTop (mkF m 313 #[.val (.long q1), .second, .val (.long q2), .second, .val (.int p3), .val (.int p4), .val (.int p5), .val (.int p6), .val (.int y1), .val (.int y2), .val (.int y3), .val (.int y4), .val (.int (p5 &&& (3 : Int32))), .val (.int (own_hd p6)), .val (.int (1 : Int32)), .val (.int (y1 * (64 : Int32))), .val (.int y112), .val (.int y113), .val (.int y114), .val (.ref b115), .val (.ref b118), .val (.ref b118), .val (.int (own_hv (own_hd p6))), .val (.int y133), .val (.int y143), .val (.int y153), .val (.ref b154), .val (.int (2 : Int32)), .unset, .unset] [])) _
              refine XS.iinc X184.here hx rfl (hb hby at_313) rfl (l' := #[.val (.long q1), .second, .val (.long q2), .second, .val (.int p3), .val (.int p4), .val (.int p5), .val (.int p6), .val (.int y1), .val (.int y2), .val (.int y3), .val (.int y4), .val (.int (p5 &&& (3 : Int32))), .val (.int (own_hd p6)), .val (.int (1 : Int32)), .val (.int (y1 * (64 : Int32))), .val (.int y112), .val (.int y113), .val (.int y114), .val (.ref b115), .val (.ref b118), .val (.ref b118), .val (.int (own_hv (own_hd p6))), .val (.int y133), .val (.int y143), .val (.int y153), .val (.ref b154), .val (.int (3 : Int32)), .unset, .unset]) rfl ?_
              exact k
            have hs : (own_L y133 y143 y153 y112 y113 y114) = [y112, y113, y114] := by rw [own_L, own_c, own_c, own_c, if_neg hc273_158, if_neg hc288_174, if_neg hc303_182]; rfl
            refine ⟨_, _, _, X184, e184, N184, Z184, VW_v184, VV_v184, ⟨(fun i => if i = 0 then y112 else if i = 1 then y113 else y114), V184_v184.congr (fun i hi => by match i, hi with | 0, _ => exact congrArg Value.int (own_nar hb0.1) | 1, _ => exact congrArg Value.int (own_nar hb1.1) | 2, _ => exact congrArg Value.int (own_nar hb2.1)), (by rw [hs]; intro i hi; have hj : i = 0 ∨ i = 1 ∨ i = 2 := by { simp only [List.length_cons, List.length_nil] at hi; omega }; rcases hj with rfl | rfl | rfl <;> rfl)⟩, fun t k => ?_⟩
            rw [show own_len (own_L y133 y143 y153 y112 y113 y114) = (3 : Int32) from by rw [hs]; rfl] at k
            exact pre185 t k
    obtain ⟨E, VE_v0, fE⟩ := mf156_2_v156
    have hsel : own_sel (p5 &&& (3 : Int32)) (fun i => own_x (own_g q1 q2) y1 (own_nf (own_hd p6)) ((own_f3 y112 y113 y114) i)) (own_f3 y112 y113 y114) = (own_L y133 y143 y153 y112 y113 y114) := own_selL hy133 hy143 hy153 hq0 hq1 hq2 hfw.1 hfw.2 ho0.1 (Int.le_trans ho0.2 (by decide)) (Int.le_of_lt (Int.lt_of_le_of_lt ho0.1 ho1.1)) (Int.le_trans ho1.2 (by decide)) (Int.le_of_lt (Int.lt_of_le_of_lt ho0.1 (Int.lt_trans ho1.1 ho2.1))) ho2.2 (own_hd01 _)
    obtain ⟨_, _, ⟨T186, L186, k186, n186⟩, -, X186, ⟨Lc186, hQ186, l186, y186, z186⟩, st186⟩ := Jvm.LawKit.callS X156 hx (y := (⟨"com/example/bitstrata/bitstrata/BitsetChunk", "filter", "([JI[CIZ[C)I"⟩ : MethodName)) hown (mvT hZ (hw _ (List.mem_of_getElem? (i := 4) rfl))) (mvT hZ (hw _ (List.mem_of_getElem? (i := 5) rfl))) (mvT hZ (hw _ (List.mem_of_getElem? (i := 6) rfl))) (mvT hZ (hw _ (List.mem_of_getElem? (i := 7) rfl))) (by decide) (backOf (W := 0) (rm1a l Z a0 hw [] b115 y1 b118 (p5 &&& (3 : Int32)) (own_hd p6) (own_f3 y112 y113 y114) (own_g q1 q2) h156 n0 Z156 mf156_0_v156 mf156_1_v156 hin ne_b115_b118 g_b118 hcn) hZ (hw _ (List.mem_of_getElem? (i := 7) rfl)) (hw _ (List.mem_of_getElem? (i := 6) rfl)) (by decide) (by decide)) (g := (mkF m 328 #[.val (.long q1), .second, .val (.long q2), .second, .val (.int p3), .val (.int p4), .val (.int p5), .val (.int p6), .val (.int y1), .val (.int y2), .val (.int y3), .val (.int y4), .val (.int (p5 &&& (3 : Int32))), .val (.int (own_hd p6)), .val (.int (1 : Int32)), .val (.int (y1 * (64 : Int32))), .val (.int y112), .val (.int y113), .val (.int y114), .val (.ref b115), .val (.ref b118), .val (.ref b118), .val (.int (own_hv (own_hd p6))), .val (.int y133), .val (.int y143), .val (.int y153), .val (.ref b154), .val (.int (own_len (own_L y133 y143 y153 y112 y113 y114))), .unset, .unset] [(.ref b118), (.int (own_hd p6)), (.int (p5 &&& (3 : Int32))), (.ref b118), (.int y1), (.ref b115)])) rfl (by rw [hml]; rfl) (argsL := [(.ref b115), (.int y1), (.ref b118), (.int (p5 &&& (3 : Int32))), (.int (own_hd p6)), (.ref b118)]) (rest := []) (lenOf pd_1 rfl) rfl (by show 2 * 0 + _ ≤ _; exact Nat.le_of_eq rfl) (hb hby at_328) (fun _ _ => ⟨rfl, e156, (by decide : 3 + 0 ≤ _), (by decide : 8 + 0 ≤ _)⟩)
    dsimp only [Pt.U, Pt.locs, Pt.cells, Pt.slots] at X186 l186 y186 z186 st186 hQ186
    subst l186 y186 z186
    obtain ⟨F, rfl, N186q, Kc186, nf186_v186, fF⟩ := hQ186
    have N186 := Fr.app N156 N186q
    have mf156_0_v186 := mf156_0_v156.keep Kc186 (ninS ne_b115_b118 nin0)
    have VE_v186 := VE_v0.keep Kc186 (ninS (Ne.symm ne_b118_b154) nin0)
    have Z186 : n0 ≤ T186.heap.size := Nat.le_trans Z156 Kc186.1
    obtain ⟨y187, hy187⟩ : ∃ z : Int32, z = (own_len (own_sel (p5 &&& (3 : Int32)) (fun i => own_x (own_g q1 q2) y1 (own_nf (own_hd p6)) ((own_f3 y112 y113 y114) i)) (own_f3 y112 y113 y114))) := ⟨_, rfl⟩
    obtain ⟨cl188, Ar188, S188, H188⟩ := id mf156_0_v186
    have hin188 : ¬ ((0 : Int32) < 0 ∨ cl188.slots.size ≤ ((0 : Int32)).toNatClampNeg) := inA S188 (by decide) (by decide)
    have hat188 : cl188.slots[((0 : Int32)).toNatClampNeg]? = some (.long q1) := ArF.at S188 H188 hin188 rfl
    obtain ⟨cl189, Ar189, S189, H189⟩ := id mf156_0_v186
    have hin189 : ¬ ((1 : Int32) < 0 ∨ cl189.slots.size ≤ ((1 : Int32)).toNatClampNeg) := inA S189 (by decide) (by decide)
    have hat189 : cl189.slots[((1 : Int32)).toNatClampNeg]? = some (.long q2) := ArF.at S189 H189 hin189 rfl
    have pre190 : ∀ t, Steps p.tables e below (T186.setTop (mkF m 367 #[.val (.long q1), .second, .val (.long q2), .second, .val (.int p3), .val (.int p4), .val (.int p5), .val (.int p6), .val (.int y1), .val (.int y2), .val (.int y3), .val (.int y4), .val (.int (p5 &&& (3 : Int32))), .val (.int (own_hd p6)), .val (.int (1 : Int32)), .val (.int (y1 * (64 : Int32))), .val (.int y112), .val (.int y113), .val (.int y114), .val (.ref b115), .val (.ref b118), .val (.ref b118), .val (.int (own_hv (own_hd p6))), .val (.int y133), .val (.int y143), .val (.int y153), .val (.ref b154), .val (.int (own_len (own_L y133 y143 y153 y112 y113 y114))), .val (.int y187), .val (.int (1 : Int32))] [(.int (own_len (own_L y133 y143 y153 y112 y113 y114)))])) t → Steps p.tables e below (s₁.setTop (entryFrame m #[(.long q1), (.long q2), (.int p3), (.int p4), (.int p5), (.int p6)] maxLocals)) t := by
      intro t k
      refine pre156 t ?_
      show Steps p.tables e below (T156.setTop (mkF m 316 #[.val (.long q1), .second, .val (.long q2), .second, .val (.int p3), .val (.int p4), .val (.int p5), .val (.int p6), .val (.int y1), .val (.int y2), .val (.int y3), .val (.int y4), .val (.int (p5 &&& (3 : Int32))), .val (.int (own_hd p6)), .val (.int (1 : Int32)), .val (.int (y1 * (64 : Int32))), .val (.int y112), .val (.int y113), .val (.int y114), .val (.ref b115), .val (.ref b118), .val (.ref b118), .val (.int (own_hv (own_hd p6))), .val (.int y133), .val (.int y143), .val (.int y153), .val (.ref b154), .val (.int (own_len (own_L y133 y143 y153 y112 y113 y114))), .unset, .unset] [])) _
      refine XS.aload X156.here hx rfl (hb hby at_316) rfl rfl ?_
      refine XS.iload X156.here hx rfl (hb hby at_318) rfl ?_
      refine XS.aload X156.here hx rfl (hb hby at_320) rfl rfl ?_
      show Steps p.tables e below (T156.setTop (mkF m 322 #[.val (.long q1), .second, .val (.long q2), .second, .val (.int p3), .val (.int p4), .val (.int p5), .val (.int p6), .val (.int y1), .val (.int y2), .val (.int y3), .val (.int y4), .val (.int (p5 &&& (3 : Int32))), .val (.int (own_hd p6)), .val (.int (1 : Int32)), .val (.int (y1 * (64 : Int32))), .val (.int y112), .val (.int y113), .val (.int y114), .val (.ref b115), .val (.ref b118), .val (.ref b118), .val (.int (own_hv (own_hd p6))), .val (.int y133), .val (.int y143), .val (.int y153), .val (.ref b154), .val (.int (own_len (own_L y133 y143 y153 y112 y113 y114))), .unset, .unset] [(.ref b118), (.int y1), (.ref b115)])) _
      refine XS.iload X156.here hx rfl (hb hby at_322) rfl ?_
      refine XS.iload X156.here hx rfl (hb hby at_324) rfl ?_
      refine XS.aload X156.here hx rfl (hb hby at_326) rfl rfl ?_
      show Steps p.tables e below (T156.setTop (mkF m 328 #[.val (.long q1), .second, .val (.long q2), .second, .val (.int p3), .val (.int p4), .val (.int p5), .val (.int p6), .val (.int y1), .val (.int y2), .val (.int y3), .val (.int y4), .val (.int (p5 &&& (3 : Int32))), .val (.int (own_hd p6)), .val (.int (1 : Int32)), .val (.int (y1 * (64 : Int32))), .val (.int y112), .val (.int y113), .val (.int y114), .val (.ref b115), .val (.ref b118), .val (.ref b118), .val (.int (own_hv (own_hd p6))), .val (.int y133), .val (.int y143), .val (.int y153), .val (.ref b154), .val (.int (own_len (own_L y133 y143 y153 y112 y113 y114))), .unset, .unset] [(.ref b118), (.int (own_hd p6)), (.int (p5 &&& (3 : Int32))), (.ref b118), (.int y1), (.ref b115)])) _
      refine st186 _ ?_
      show Steps p.tables e below (T186.setTop (mkF m 331 #[.val (.long q1), .second, .val (.long q2), .second, .val (.int p3), .val (.int p4), .val (.int p5), .val (.int p6), .val (.int y1), .val (.int y2), .val (.int y3), .val (.int y4), .val (.int (p5 &&& (3 : Int32))), .val (.int (own_hd p6)), .val (.int (1 : Int32)), .val (.int (y1 * (64 : Int32))), .val (.int y112), .val (.int y113), .val (.int y114), .val (.ref b115), .val (.ref b118), .val (.ref b118), .val (.int (own_hv (own_hd p6))), .val (.int y133), .val (.int y143), .val (.int y153), .val (.ref b154), .val (.int (own_len (own_L y133 y143 y153 y112 y113 y114))), .unset, .unset] [(.int (own_len (own_sel (p5 &&& (3 : Int32)) (fun i => own_x (own_g q1 q2) y1 (own_nf (own_hd p6)) ((own_f3 y112 y113 y114) i)) (own_f3 y112 y113 y114))))])) _
      rw [← hy187]
      refine XS.istore X186.here hx rfl (hb hby at_331) rfl (l' := #[.val (.long q1), .second, .val (.long q2), .second, .val (.int p3), .val (.int p4), .val (.int p5), .val (.int p6), .val (.int y1), .val (.int y2), .val (.int y3), .val (.int y4), .val (.int (p5 &&& (3 : Int32))), .val (.int (own_hd p6)), .val (.int (1 : Int32)), .val (.int (y1 * (64 : Int32))), .val (.int y112), .val (.int y113), .val (.int y114), .val (.ref b115), .val (.ref b118), .val (.ref b118), .val (.int (own_hv (own_hd p6))), .val (.int y133), .val (.int y143), .val (.int y153), .val (.ref b154), .val (.int (own_len (own_L y133 y143 y153 y112 y113 y114))), .val (.int y187), .unset]) rfl ?_
      show Steps p.tables e below (T186.setTop (mkF m 333 #[.val (.long q1), .second, .val (.long q2), .second, .val (.int p3), .val (.int p4), .val (.int p5), .val (.int p6), .val (.int y1), .val (.int y2), .val (.int y3), .val (.int y4), .val (.int (p5 &&& (3 : Int32))), .val (.int (own_hd p6)), .val (.int (1 : Int32)), .val (.int (y1 * (64 : Int32))), .val (.int y112), .val (.int y113), .val (.int y114), .val (.ref b115), .val (.ref b118), .val (.ref b118), .val (.int (own_hv (own_hd p6))), .val (.int y133), .val (.int y143), .val (.int y153), .val (.ref b154), .val (.int (own_len (own_L y133 y143 y153 y112 y113 y114))), .val (.int y187), .unset] [])) _
      refine XS.iload X186.here hx rfl (hb hby at_333) rfl ?_
      refine XS.iload X186.here hx rfl (hb hby at_335) rfl ?_
      refine XS.icmpNo X186.here hx rfl (hb hby at_337) rfl (teq ((hy187.trans (congrArg own_len hsel)) : (y187 = (own_len (own_L y133 y143 y153 y112 y113 y114))))).2 ?_
      show Steps p.tables e below (T186.setTop (mkF m 340 #[.val (.long q1), .second, .val (.long q2), .second, .val (.int p3), .val (.int p4), .val (.int p5), .val (.int p6), .val (.int y1), .val (.int y2), .val (.int y3), .val (.int y4), .val (.int (p5 &&& (3 : Int32))), .val (.int (own_hd p6)), .val (.int (1 : Int32)), .val (.int (y1 * (64 : Int32))), .val (.int y112), .val (.int y113), .val (.int y114), .val (.ref b115), .val (.ref b118), .val (.ref b118), .val (.int (own_hv (own_hd p6))), .val (.int y133), .val (.int y143), .val (.int y153), .val (.ref b154), .val (.int (own_len (own_L y133 y143 y153 y112 y113 y114))), .val (.int y187), .unset] [])) _
      refine XS.aload X186.here hx rfl (hb hby at_340) rfl rfl ?_
      refine XS.iconst X186.here hx rfl (hb hby at_342) ?_
      show Steps p.tables e below (T186.setTop (mkF m 343 #[.val (.long q1), .second, .val (.long q2), .second, .val (.int p3), .val (.int p4), .val (.int p5), .val (.int p6), .val (.int y1), .val (.int y2), .val (.int y3), .val (.int y4), .val (.int (p5 &&& (3 : Int32))), .val (.int (own_hd p6)), .val (.int (1 : Int32)), .val (.int (y1 * (64 : Int32))), .val (.int y112), .val (.int y113), .val (.int y114), .val (.ref b115), .val (.ref b118), .val (.ref b118), .val (.int (own_hv (own_hd p6))), .val (.int y133), .val (.int y143), .val (.int y153), .val (.ref b154), .val (.int (own_len (own_L y133 y143 y153 y112 y113 y114))), .val (.int y187), .unset] [(.int (0 : Int32)), (.ref b115)])) _
      refine X186.laload hx (j := (0 : Int32)) (v := (.long q1)) Ar188.1 (State.isArrayOf_alike hZ.alike Ar188.2.1) Ar188.2.2 hin188 hat188 (g := (mkF m 343 #[.val (.long q1), .second, .val (.long q2), .second, .val (.int p3), .val (.int p4), .val (.int p5), .val (.int p6), .val (.int y1), .val (.int y2), .val (.int y3), .val (.int y4), .val (.int (p5 &&& (3 : Int32))), .val (.int (own_hd p6)), .val (.int (1 : Int32)), .val (.int (y1 * (64 : Int32))), .val (.int y112), .val (.int y113), .val (.int y114), .val (.ref b115), .val (.ref b118), .val (.ref b118), .val (.int (own_hv (own_hd p6))), .val (.int y133), .val (.int y143), .val (.int y153), .val (.ref b154), .val (.int (own_len (own_L y133 y143 y153 y112 y113 y114))), .val (.int y187), .unset] [(.int (0 : Int32)), (.ref b115)])) rfl rfl (hb hby at_343) _ ?_
      show Steps p.tables e below (T186.setTop (mkF m 344 #[.val (.long q1), .second, .val (.long q2), .second, .val (.int p3), .val (.int p4), .val (.int p5), .val (.int p6), .val (.int y1), .val (.int y2), .val (.int y3), .val (.int y4), .val (.int (p5 &&& (3 : Int32))), .val (.int (own_hd p6)), .val (.int (1 : Int32)), .val (.int (y1 * (64 : Int32))), .val (.int y112), .val (.int y113), .val (.int y114), .val (.ref b115), .val (.ref b118), .val (.ref b118), .val (.int (own_hv (own_hd p6))), .val (.int y133), .val (.int y143), .val (.int y153), .val (.ref b154), .val (.int (own_len (own_L y133 y143 y153 y112 y113 y114))), .val (.int y187), .unset] [(.long q1)])) _
      refine XS.lloadN X186.here hx rfl (hb hby at_344) rfl ?_
      refine XS.lcmp X186.here hx rfl (hb hby at_345) rfl ?_
      show Steps p.tables e below (T186.setTop (mkF m 346 #[.val (.long q1), .second, .val (.long q2), .second, .val (.int p3), .val (.int p4), .val (.int p5), .val (.int p6), .val (.int y1), .val (.int y2), .val (.int y3), .val (.int y4), .val (.int (p5 &&& (3 : Int32))), .val (.int (own_hd p6)), .val (.int (1 : Int32)), .val (.int (y1 * (64 : Int32))), .val (.int y112), .val (.int y113), .val (.int y114), .val (.ref b115), .val (.ref b118), .val (.ref b118), .val (.int (own_hv (own_hd p6))), .val (.int y133), .val (.int y143), .val (.int y153), .val (.ref b154), .val (.int (own_len (own_L y133 y143 y153 y112 y113 y114))), .val (.int y187), .unset] [(.int (lcmpW q1 q1))])) _
      refine XS.ifNo X186.here hx rfl (hb hby at_346) rfl ((if0 _ _).trans (teq (((lw_eq _ _).mpr rfl) : ((lcmpW q1 q1) = (0 : Int32)))).2) ?_
      show Steps p.tables e below (T186.setTop (mkF m 349 #[.val (.long q1), .second, .val (.long q2), .second, .val (.int p3), .val (.int p4), .val (.int p5), .val (.int p6), .val (.int y1), .val (.int y2), .val (.int y3), .val (.int y4), .val (.int (p5 &&& (3 : Int32))), .val (.int (own_hd p6)), .val (.int (1 : Int32)), .val (.int (y1 * (64 : Int32))), .val (.int y112), .val (.int y113), .val (.int y114), .val (.ref b115), .val (.ref b118), .val (.ref b118), .val (.int (own_hv (own_hd p6))), .val (.int y133), .val (.int y143), .val (.int y153), .val (.ref b154), .val (.int (own_len (own_L y133 y143 y153 y112 y113 y114))), .val (.int y187), .unset] [])) _
      refine XS.aload X186.here hx rfl (hb hby at_349) rfl rfl ?_
      refine XS.iconst X186.here hx rfl (hb hby at_351) ?_
      show Steps p.tables e below (T186.setTop (mkF m 352 #[.val (.long q1), .second, .val (.long q2), .second, .val (.int p3), .val (.int p4), .val (.int p5), .val (.int p6), .val (.int y1), .val (.int y2), .val (.int y3), .val (.int y4), .val (.int (p5 &&& (3 : Int32))), .val (.int (own_hd p6)), .val (.int (1 : Int32)), .val (.int (y1 * (64 : Int32))), .val (.int y112), .val (.int y113), .val (.int y114), .val (.ref b115), .val (.ref b118), .val (.ref b118), .val (.int (own_hv (own_hd p6))), .val (.int y133), .val (.int y143), .val (.int y153), .val (.ref b154), .val (.int (own_len (own_L y133 y143 y153 y112 y113 y114))), .val (.int y187), .unset] [(.int (1 : Int32)), (.ref b115)])) _
      refine X186.laload hx (j := (1 : Int32)) (v := (.long q2)) Ar189.1 (State.isArrayOf_alike hZ.alike Ar189.2.1) Ar189.2.2 hin189 hat189 (g := (mkF m 352 #[.val (.long q1), .second, .val (.long q2), .second, .val (.int p3), .val (.int p4), .val (.int p5), .val (.int p6), .val (.int y1), .val (.int y2), .val (.int y3), .val (.int y4), .val (.int (p5 &&& (3 : Int32))), .val (.int (own_hd p6)), .val (.int (1 : Int32)), .val (.int (y1 * (64 : Int32))), .val (.int y112), .val (.int y113), .val (.int y114), .val (.ref b115), .val (.ref b118), .val (.ref b118), .val (.int (own_hv (own_hd p6))), .val (.int y133), .val (.int y143), .val (.int y153), .val (.ref b154), .val (.int (own_len (own_L y133 y143 y153 y112 y113 y114))), .val (.int y187), .unset] [(.int (1 : Int32)), (.ref b115)])) rfl rfl (hb hby at_352) _ ?_
      show Steps p.tables e below (T186.setTop (mkF m 353 #[.val (.long q1), .second, .val (.long q2), .second, .val (.int p3), .val (.int p4), .val (.int p5), .val (.int p6), .val (.int y1), .val (.int y2), .val (.int y3), .val (.int y4), .val (.int (p5 &&& (3 : Int32))), .val (.int (own_hd p6)), .val (.int (1 : Int32)), .val (.int (y1 * (64 : Int32))), .val (.int y112), .val (.int y113), .val (.int y114), .val (.ref b115), .val (.ref b118), .val (.ref b118), .val (.int (own_hv (own_hd p6))), .val (.int y133), .val (.int y143), .val (.int y153), .val (.ref b154), .val (.int (own_len (own_L y133 y143 y153 y112 y113 y114))), .val (.int y187), .unset] [(.long q2)])) _
      refine XS.lloadN X186.here hx rfl (hb hby at_353) rfl ?_
      refine XS.lcmp X186.here hx rfl (hb hby at_354) rfl ?_
      show Steps p.tables e below (T186.setTop (mkF m 355 #[.val (.long q1), .second, .val (.long q2), .second, .val (.int p3), .val (.int p4), .val (.int p5), .val (.int p6), .val (.int y1), .val (.int y2), .val (.int y3), .val (.int y4), .val (.int (p5 &&& (3 : Int32))), .val (.int (own_hd p6)), .val (.int (1 : Int32)), .val (.int (y1 * (64 : Int32))), .val (.int y112), .val (.int y113), .val (.int y114), .val (.ref b115), .val (.ref b118), .val (.ref b118), .val (.int (own_hv (own_hd p6))), .val (.int y133), .val (.int y143), .val (.int y153), .val (.ref b154), .val (.int (own_len (own_L y133 y143 y153 y112 y113 y114))), .val (.int y187), .unset] [(.int (lcmpW q2 q2))])) _
      refine XS.ifNo X186.here hx rfl (hb hby at_355) rfl ((if0 _ _).trans (teq (((lw_eq _ _).mpr rfl) : ((lcmpW q2 q2) = (0 : Int32)))).2) ?_
      show Steps p.tables e below (T186.setTop (mkF m 358 #[.val (.long q1), .second, .val (.long q2), .second, .val (.int p3), .val (.int p4), .val (.int p5), .val (.int p6), .val (.int y1), .val (.int y2), .val (.int y3), .val (.int y4), .val (.int (p5 &&& (3 : Int32))), .val (.int (own_hd p6)), .val (.int (1 : Int32)), .val (.int (y1 * (64 : Int32))), .val (.int y112), .val (.int y113), .val (.int y114), .val (.ref b115), .val (.ref b118), .val (.ref b118), .val (.int (own_hv (own_hd p6))), .val (.int y133), .val (.int y143), .val (.int y153), .val (.ref b154), .val (.int (own_len (own_L y133 y143 y153 y112 y113 y114))), .val (.int y187), .unset] [])) _
      refine XS.iconst X186.here hx rfl (hb hby at_358) ?_
      refine XS.goto X186.here hx rfl (pc0 := 359) (pc' := 363) rfl (hb hby at_359) (by decide) (by decide) ?_
      show Steps p.tables e below (T186.setTop (mkF m 363 #[.val (.long q1), .second, .val (.long q2), .second, .val (.int p3), .val (.int p4), .val (.int p5), .val (.int p6), .val (.int y1), .val (.int y2), .val (.int y3), .val (.int y4), .val (.int (p5 &&& (3 : Int32))), .val (.int (own_hd p6)), .val (.int (1 : Int32)), .val (.int (y1 * (64 : Int32))), .val (.int y112), .val (.int y113), .val (.int y114), .val (.ref b115), .val (.ref b118), .val (.ref b118), .val (.int (own_hv (own_hd p6))), .val (.int y133), .val (.int y143), .val (.int y153), .val (.ref b154), .val (.int (own_len (own_L y133 y143 y153 y112 y113 y114))), .val (.int y187), .unset] [(.int (1 : Int32))])) _
      refine XS.istore X186.here hx rfl (hb hby at_363) rfl (l' := #[.val (.long q1), .second, .val (.long q2), .second, .val (.int p3), .val (.int p4), .val (.int p5), .val (.int p6), .val (.int y1), .val (.int y2), .val (.int y3), .val (.int y4), .val (.int (p5 &&& (3 : Int32))), .val (.int (own_hd p6)), .val (.int (1 : Int32)), .val (.int (y1 * (64 : Int32))), .val (.int y112), .val (.int y113), .val (.int y114), .val (.ref b115), .val (.ref b118), .val (.ref b118), .val (.int (own_hv (own_hd p6))), .val (.int y133), .val (.int y143), .val (.int y153), .val (.ref b154), .val (.int (own_len (own_L y133 y143 y153 y112 y113 y114))), .val (.int y187), .val (.int (1 : Int32))]) rfl ?_
      show Steps p.tables e below (T186.setTop (mkF m 365 #[.val (.long q1), .second, .val (.long q2), .second, .val (.int p3), .val (.int p4), .val (.int p5), .val (.int p6), .val (.int y1), .val (.int y2), .val (.int y3), .val (.int y4), .val (.int (p5 &&& (3 : Int32))), .val (.int (own_hd p6)), .val (.int (1 : Int32)), .val (.int (y1 * (64 : Int32))), .val (.int y112), .val (.int y113), .val (.int y114), .val (.ref b115), .val (.ref b118), .val (.ref b118), .val (.int (own_hv (own_hd p6))), .val (.int y133), .val (.int y143), .val (.int y153), .val (.ref b154), .val (.int (own_len (own_L y133 y143 y153 y112 y113 y114))), .val (.int y187), .val (.int (1 : Int32))] [])) _
      refine XS.iload X186.here hx rfl (hb hby at_365) rfl ?_
      exact k
    obtain ⟨T191, L191, X191, e191, N191, pre191⟩ : ∃ (T' : State) (L' : List Loc), Stand p l e room_1 s m #[(.long q1), (.long q2), (.int p3), (.int p4), (.int p5), (.int p6)] below meth c T' L' 3 8 ∧ T'.heap = T186.heap ∧ Fr n0 L' ∧ ∀ t, Steps p.tables e below (T'.setTop (mkF m 393 #[.val (.long q1), .second, .val (.long q2), .second, .val (.int p3), .val (.int p4), .val (.int p5), .val (.int p6), .val (.int y1), .val (.int y2), .val (.int y3), .val (.int y4), .val (.int (p5 &&& (3 : Int32))), .val (.int (own_hd p6)), .val (.int (1 : Int32)), .val (.int (y1 * (64 : Int32))), .val (.int y112), .val (.int y113), .val (.int y114), .val (.ref b115), .val (.ref b118), .val (.ref b118), .val (.int (own_hv (own_hd p6))), .val (.int y133), .val (.int y143), .val (.int y153), .val (.ref b154), .val (.int (own_len (own_L y133 y143 y153 y112 y113 y114))), .val (.int y187), .val (.int (1 : Int32))] [])) t → Steps p.tables e below (s₁.setTop (entryFrame m #[(.long q1), (.long q2), (.int p3), (.int p4), (.int p5), (.int p6)] maxLocals)) t := by
      by_cases hc367_192 : (0 : Int32) < (own_len (own_L y133 y143 y153 y112 y113 y114))
      · obtain ⟨cl193, Ar193, S193, H193⟩ := id nf186_v186
        have hin193 : ¬ ((0 : Int32) < 0 ∨ cl193.slots.size ≤ ((0 : Int32)).toNatClampNeg) := inA S193 (by decide) (by decide)
        have hat193 : cl193.slots[((0 : Int32)).toNatClampNeg]? = some (.int (F 0)) := ArF.at S193 H193 hin193 rfl
        obtain ⟨cl194, Ar194, S194, H194⟩ := id VE_v186
        have hin194 : ¬ ((0 : Int32) < 0 ∨ cl194.slots.size ≤ ((0 : Int32)).toNatClampNeg) := inA S194 (by decide) (by decide)
        have hat194 : cl194.slots[((0 : Int32)).toNatClampNeg]? = some (.int (E 0)) := ArF.at S194 H194 hin194 rfl
        have pre195 : ∀ t, Steps p.tables e below (T186.setTop (mkF m 393 #[.val (.long q1), .second, .val (.long q2), .second, .val (.int p3), .val (.int p4), .val (.int p5), .val (.int p6), .val (.int y1), .val (.int y2), .val (.int y3), .val (.int y4), .val (.int (p5 &&& (3 : Int32))), .val (.int (own_hd p6)), .val (.int (1 : Int32)), .val (.int (y1 * (64 : Int32))), .val (.int y112), .val (.int y113), .val (.int y114), .val (.ref b115), .val (.ref b118), .val (.ref b118), .val (.int (own_hv (own_hd p6))), .val (.int y133), .val (.int y143), .val (.int y153), .val (.ref b154), .val (.int (own_len (own_L y133 y143 y153 y112 y113 y114))), .val (.int y187), .val (.int (1 : Int32))] [])) t → Steps p.tables e below (s₁.setTop (entryFrame m #[(.long q1), (.long q2), (.int p3), (.int p4), (.int p5), (.int p6)] maxLocals)) t := by
          intro t k
          refine pre190 t ?_
          show Steps p.tables e below (T186.setTop (mkF m 367 #[.val (.long q1), .second, .val (.long q2), .second, .val (.int p3), .val (.int p4), .val (.int p5), .val (.int p6), .val (.int y1), .val (.int y2), .val (.int y3), .val (.int y4), .val (.int (p5 &&& (3 : Int32))), .val (.int (own_hd p6)), .val (.int (1 : Int32)), .val (.int (y1 * (64 : Int32))), .val (.int y112), .val (.int y113), .val (.int y114), .val (.ref b115), .val (.ref b118), .val (.ref b118), .val (.int (own_hv (own_hd p6))), .val (.int y133), .val (.int y143), .val (.int y153), .val (.ref b154), .val (.int (own_len (own_L y133 y143 y153 y112 y113 y114))), .val (.int y187), .val (.int (1 : Int32))] [(.int (own_len (own_L y133 y143 y153 y112 y113 y114)))])) _
          refine XS.ifNo X186.here hx rfl (hb hby at_367) rfl ((if0 _ _).trans (tlt hc367_192).2.2.2) ?_
          show Steps p.tables e below (T186.setTop (mkF m 370 #[.val (.long q1), .second, .val (.long q2), .second, .val (.int p3), .val (.int p4), .val (.int p5), .val (.int p6), .val (.int y1), .val (.int y2), .val (.int y3), .val (.int y4), .val (.int (p5 &&& (3 : Int32))), .val (.int (own_hd p6)), .val (.int (1 : Int32)), .val (.int (y1 * (64 : Int32))), .val (.int y112), .val (.int y113), .val (.int y114), .val (.ref b115), .val (.ref b118), .val (.ref b118), .val (.int (own_hv (own_hd p6))), .val (.int y133), .val (.int y143), .val (.int y153), .val (.ref b154), .val (.int (own_len (own_L y133 y143 y153 y112 y113 y114))), .val (.int y187), .val (.int (1 : Int32))] [])) _
          refine XS.iload X186.here hx rfl (hb hby at_370) rfl ?_
          refine XS.ifNo X186.here hx rfl (hb hby at_372) rfl ((if0 _ _).trans (feq (by decide : ¬ ((1 : Int32) = (0 : Int32)))).1) ?_
          show Steps p.tables e below (T186.setTop (mkF m 375 #[.val (.long q1), .second, .val (.long q2), .second, .val (.int p3), .val (.int p4), .val (.int p5), .val (.int p6), .val (.int y1), .val (.int y2), .val (.int y3), .val (.int y4), .val (.int (p5 &&& (3 : Int32))), .val (.int (own_hd p6)), .val (.int (1 : Int32)), .val (.int (y1 * (64 : Int32))), .val (.int y112), .val (.int y113), .val (.int y114), .val (.ref b115), .val (.ref b118), .val (.ref b118), .val (.int (own_hv (own_hd p6))), .val (.int y133), .val (.int y143), .val (.int y153), .val (.ref b154), .val (.int (own_len (own_L y133 y143 y153 y112 y113 y114))), .val (.int y187), .val (.int (1 : Int32))] [])) _
          refine XS.aload X186.here hx rfl (hb hby at_375) rfl rfl ?_
          refine XS.iconst X186.here hx rfl (hb hby at_377) ?_
          show Steps p.tables e below (T186.setTop (mkF m 378 #[.val (.long q1), .second, .val (.long q2), .second, .val (.int p3), .val (.int p4), .val (.int p5), .val (.int p6), .val (.int y1), .val (.int y2), .val (.int y3), .val (.int y4), .val (.int (p5 &&& (3 : Int32))), .val (.int (own_hd p6)), .val (.int (1 : Int32)), .val (.int (y1 * (64 : Int32))), .val (.int y112), .val (.int y113), .val (.int y114), .val (.ref b115), .val (.ref b118), .val (.ref b118), .val (.int (own_hv (own_hd p6))), .val (.int y133), .val (.int y143), .val (.int y153), .val (.ref b154), .val (.int (own_len (own_L y133 y143 y153 y112 y113 y114))), .val (.int y187), .val (.int (1 : Int32))] [(.int (0 : Int32)), (.ref b118)])) _
          refine X186.caload hx (j := (0 : Int32)) (v := (.int (F 0))) Ar193.1 (State.isArrayOf_alike hZ.alike Ar193.2.1) Ar193.2.2 hin193 hat193 (g := (mkF m 378 #[.val (.long q1), .second, .val (.long q2), .second, .val (.int p3), .val (.int p4), .val (.int p5), .val (.int p6), .val (.int y1), .val (.int y2), .val (.int y3), .val (.int y4), .val (.int (p5 &&& (3 : Int32))), .val (.int (own_hd p6)), .val (.int (1 : Int32)), .val (.int (y1 * (64 : Int32))), .val (.int y112), .val (.int y113), .val (.int y114), .val (.ref b115), .val (.ref b118), .val (.ref b118), .val (.int (own_hv (own_hd p6))), .val (.int y133), .val (.int y143), .val (.int y153), .val (.ref b154), .val (.int (own_len (own_L y133 y143 y153 y112 y113 y114))), .val (.int y187), .val (.int (1 : Int32))] [(.int (0 : Int32)), (.ref b118)])) rfl rfl (hb hby at_378) _ ?_
          show Steps p.tables e below (T186.setTop (mkF m 379 #[.val (.long q1), .second, .val (.long q2), .second, .val (.int p3), .val (.int p4), .val (.int p5), .val (.int p6), .val (.int y1), .val (.int y2), .val (.int y3), .val (.int y4), .val (.int (p5 &&& (3 : Int32))), .val (.int (own_hd p6)), .val (.int (1 : Int32)), .val (.int (y1 * (64 : Int32))), .val (.int y112), .val (.int y113), .val (.int y114), .val (.ref b115), .val (.ref b118), .val (.ref b118), .val (.int (own_hv (own_hd p6))), .val (.int y133), .val (.int y143), .val (.int y153), .val (.ref b154), .val (.int (own_len (own_L y133 y143 y153 y112 y113 y114))), .val (.int y187), .val (.int (1 : Int32))] [(.int (F 0))])) _
          refine XS.aload X186.here hx rfl (hb hby at_379) rfl rfl ?_
          refine XS.iconst X186.here hx rfl (hb hby at_381) ?_
          show Steps p.tables e below (T186.setTop (mkF m 382 #[.val (.long q1), .second, .val (.long q2), .second, .val (.int p3), .val (.int p4), .val (.int p5), .val (.int p6), .val (.int y1), .val (.int y2), .val (.int y3), .val (.int y4), .val (.int (p5 &&& (3 : Int32))), .val (.int (own_hd p6)), .val (.int (1 : Int32)), .val (.int (y1 * (64 : Int32))), .val (.int y112), .val (.int y113), .val (.int y114), .val (.ref b115), .val (.ref b118), .val (.ref b118), .val (.int (own_hv (own_hd p6))), .val (.int y133), .val (.int y143), .val (.int y153), .val (.ref b154), .val (.int (own_len (own_L y133 y143 y153 y112 y113 y114))), .val (.int y187), .val (.int (1 : Int32))] [(.int (0 : Int32)), (.ref b154), (.int (F 0))])) _
          refine X186.caload hx (j := (0 : Int32)) (v := (.int (E 0))) Ar194.1 (State.isArrayOf_alike hZ.alike Ar194.2.1) Ar194.2.2 hin194 hat194 (g := (mkF m 382 #[.val (.long q1), .second, .val (.long q2), .second, .val (.int p3), .val (.int p4), .val (.int p5), .val (.int p6), .val (.int y1), .val (.int y2), .val (.int y3), .val (.int y4), .val (.int (p5 &&& (3 : Int32))), .val (.int (own_hd p6)), .val (.int (1 : Int32)), .val (.int (y1 * (64 : Int32))), .val (.int y112), .val (.int y113), .val (.int y114), .val (.ref b115), .val (.ref b118), .val (.ref b118), .val (.int (own_hv (own_hd p6))), .val (.int y133), .val (.int y143), .val (.int y153), .val (.ref b154), .val (.int (own_len (own_L y133 y143 y153 y112 y113 y114))), .val (.int y187), .val (.int (1 : Int32))] [(.int (0 : Int32)), (.ref b154), (.int (F 0))])) rfl rfl (hb hby at_382) _ ?_
          show Steps p.tables e below (T186.setTop (mkF m 383 #[.val (.long q1), .second, .val (.long q2), .second, .val (.int p3), .val (.int p4), .val (.int p5), .val (.int p6), .val (.int y1), .val (.int y2), .val (.int y3), .val (.int y4), .val (.int (p5 &&& (3 : Int32))), .val (.int (own_hd p6)), .val (.int (1 : Int32)), .val (.int (y1 * (64 : Int32))), .val (.int y112), .val (.int y113), .val (.int y114), .val (.ref b115), .val (.ref b118), .val (.ref b118), .val (.int (own_hv (own_hd p6))), .val (.int y133), .val (.int y143), .val (.int y153), .val (.ref b154), .val (.int (own_len (own_L y133 y143 y153 y112 y113 y114))), .val (.int y187), .val (.int (1 : Int32))] [(.int (E 0)), (.int (F 0))])) _
          refine XS.icmpNo X186.here hx rfl (hb hby at_383) rfl (teq ((own_same fF fE hsel (own_lt 0 (by decide) (own_L3 _ _ _ _ _ _) hc367_192)) : ((F 0) = (E 0)))).2 ?_
          show Steps p.tables e below (T186.setTop (mkF m 386 #[.val (.long q1), .second, .val (.long q2), .second, .val (.int p3), .val (.int p4), .val (.int p5), .val (.int p6), .val (.int y1), .val (.int y2), .val (.int y3), .val (.int y4), .val (.int (p5 &&& (3 : Int32))), .val (.int (own_hd p6)), .val (.int (1 : Int32)), .val (.int (y1 * (64 : Int32))), .val (.int y112), .val (.int y113), .val (.int y114), .val (.ref b115), .val (.ref b118), .val (.ref b118), .val (.int (own_hv (own_hd p6))), .val (.int y133), .val (.int y143), .val (.int y153), .val (.ref b154), .val (.int (own_len (own_L y133 y143 y153 y112 y113 y114))), .val (.int y187), .val (.int (1 : Int32))] [])) _
          refine XS.iconst X186.here hx rfl (hb hby at_386) ?_
          refine XS.goto X186.here hx rfl (pc0 := 387) (pc' := 391) rfl (hb hby at_387) (by decide) (by decide) ?_
          show Steps p.tables e below (T186.setTop (mkF m 391 #[.val (.long q1), .second, .val (.long q2), .second, .val (.int p3), .val (.int p4), .val (.int p5), .val (.int p6), .val (.int y1), .val (.int y2), .val (.int y3), .val (.int y4), .val (.int (p5 &&& (3 : Int32))), .val (.int (own_hd p6)), .val (.int (1 : Int32)), .val (.int (y1 * (64 : Int32))), .val (.int y112), .val (.int y113), .val (.int y114), .val (.ref b115), .val (.ref b118), .val (.ref b118), .val (.int (own_hv (own_hd p6))), .val (.int y133), .val (.int y143), .val (.int y153), .val (.ref b154), .val (.int (own_len (own_L y133 y143 y153 y112 y113 y114))), .val (.int y187), .val (.int (1 : Int32))] [(.int (1 : Int32))])) _
          refine XS.istore X186.here hx rfl (hb hby at_391) rfl (l' := #[.val (.long q1), .second, .val (.long q2), .second, .val (.int p3), .val (.int p4), .val (.int p5), .val (.int p6), .val (.int y1), .val (.int y2), .val (.int y3), .val (.int y4), .val (.int (p5 &&& (3 : Int32))), .val (.int (own_hd p6)), .val (.int (1 : Int32)), .val (.int (y1 * (64 : Int32))), .val (.int y112), .val (.int y113), .val (.int y114), .val (.ref b115), .val (.ref b118), .val (.ref b118), .val (.int (own_hv (own_hd p6))), .val (.int y133), .val (.int y143), .val (.int y153), .val (.ref b154), .val (.int (own_len (own_L y133 y143 y153 y112 y113 y114))), .val (.int y187), .val (.int (1 : Int32))]) rfl ?_
          exact k
        refine ⟨_, _, X186, rfl, N186, fun t k => ?_⟩
        exact pre195 t k
      · have pre196 : ∀ t, Steps p.tables e below (T186.setTop (mkF m 393 #[.val (.long q1), .second, .val (.long q2), .second, .val (.int p3), .val (.int p4), .val (.int p5), .val (.int p6), .val (.int y1), .val (.int y2), .val (.int y3), .val (.int y4), .val (.int (p5 &&& (3 : Int32))), .val (.int (own_hd p6)), .val (.int (1 : Int32)), .val (.int (y1 * (64 : Int32))), .val (.int y112), .val (.int y113), .val (.int y114), .val (.ref b115), .val (.ref b118), .val (.ref b118), .val (.int (own_hv (own_hd p6))), .val (.int y133), .val (.int y143), .val (.int y153), .val (.ref b154), .val (.int (own_len (own_L y133 y143 y153 y112 y113 y114))), .val (.int y187), .val (.int (1 : Int32))] [])) t → Steps p.tables e below (s₁.setTop (entryFrame m #[(.long q1), (.long q2), (.int p3), (.int p4), (.int p5), (.int p6)] maxLocals)) t := by
          intro t k
          refine pre190 t ?_
          show Steps p.tables e below (T186.setTop (mkF m 367 #[.val (.long q1), .second, .val (.long q2), .second, .val (.int p3), .val (.int p4), .val (.int p5), .val (.int p6), .val (.int y1), .val (.int y2), .val (.int y3), .val (.int y4), .val (.int (p5 &&& (3 : Int32))), .val (.int (own_hd p6)), .val (.int (1 : Int32)), .val (.int (y1 * (64 : Int32))), .val (.int y112), .val (.int y113), .val (.int y114), .val (.ref b115), .val (.ref b118), .val (.ref b118), .val (.int (own_hv (own_hd p6))), .val (.int y133), .val (.int y143), .val (.int y153), .val (.ref b154), .val (.int (own_len (own_L y133 y143 y153 y112 y113 y114))), .val (.int y187), .val (.int (1 : Int32))] [(.int (own_len (own_L y133 y143 y153 y112 y113 y114)))])) _
          refine XS.ifYes X186.here hx rfl (pc0 := 367) (pc' := 393) rfl (hb hby at_367) rfl ((if0 _ _).trans (flt hc367_192).2.2.2) (by decide) (by decide) ?_
          exact k
        refine ⟨_, _, X186, rfl, N186, fun t k => ?_⟩
        exact pre196 t k
    have pre197 : ∀ t, Steps p.tables e below (T191.setTop (mkF m 396 #[.val (.long q1), .second, .val (.long q2), .second, .val (.int p3), .val (.int p4), .val (.int p5), .val (.int p6), .val (.int y1), .val (.int y2), .val (.int y3), .val (.int y4), .val (.int (p5 &&& (3 : Int32))), .val (.int (own_hd p6)), .val (.int (1 : Int32)), .val (.int (y1 * (64 : Int32))), .val (.int y112), .val (.int y113), .val (.int y114), .val (.ref b115), .val (.ref b118), .val (.ref b118), .val (.int (own_hv (own_hd p6))), .val (.int y133), .val (.int y143), .val (.int y153), .val (.ref b154), .val (.int (own_len (own_L y133 y143 y153 y112 y113 y114))), .val (.int y187), .val (.int (1 : Int32))] [(.int (1 : Int32)), (.int (own_len (own_L y133 y143 y153 y112 y113 y114)))])) t → Steps p.tables e below (s₁.setTop (entryFrame m #[(.long q1), (.long q2), (.int p3), (.int p4), (.int p5), (.int p6)] maxLocals)) t := by
      intro t k
      refine pre191 t ?_
      show Steps p.tables e below (T191.setTop (mkF m 393 #[.val (.long q1), .second, .val (.long q2), .second, .val (.int p3), .val (.int p4), .val (.int p5), .val (.int p6), .val (.int y1), .val (.int y2), .val (.int y3), .val (.int y4), .val (.int (p5 &&& (3 : Int32))), .val (.int (own_hd p6)), .val (.int (1 : Int32)), .val (.int (y1 * (64 : Int32))), .val (.int y112), .val (.int y113), .val (.int y114), .val (.ref b115), .val (.ref b118), .val (.ref b118), .val (.int (own_hv (own_hd p6))), .val (.int y133), .val (.int y143), .val (.int y153), .val (.ref b154), .val (.int (own_len (own_L y133 y143 y153 y112 y113 y114))), .val (.int y187), .val (.int (1 : Int32))] [])) _
      refine XS.iload X191.here hx rfl (hb hby at_393) rfl ?_
      refine XS.iconst X191.here hx rfl (hb hby at_395) ?_
      exact k
    obtain ⟨T198, L198, X198, e198, N198, pre198⟩ : ∃ (T' : State) (L' : List Loc), Stand p l e room_1 s m #[(.long q1), (.long q2), (.int p3), (.int p4), (.int p5), (.int p6)] below meth c T' L' 3 8 ∧ T'.heap = T186.heap ∧ Fr n0 L' ∧ ∀ t, Steps p.tables e below (T'.setTop (mkF m 422 #[.val (.long q1), .second, .val (.long q2), .second, .val (.int p3), .val (.int p4), .val (.int p5), .val (.int p6), .val (.int y1), .val (.int y2), .val (.int y3), .val (.int y4), .val (.int (p5 &&& (3 : Int32))), .val (.int (own_hd p6)), .val (.int (1 : Int32)), .val (.int (y1 * (64 : Int32))), .val (.int y112), .val (.int y113), .val (.int y114), .val (.ref b115), .val (.ref b118), .val (.ref b118), .val (.int (own_hv (own_hd p6))), .val (.int y133), .val (.int y143), .val (.int y153), .val (.ref b154), .val (.int (own_len (own_L y133 y143 y153 y112 y113 y114))), .val (.int y187), .val (.int (1 : Int32))] [])) t → Steps p.tables e below (s₁.setTop (entryFrame m #[(.long q1), (.long q2), (.int p3), (.int p4), (.int p5), (.int p6)] maxLocals)) t := by
      by_cases hc396_199 : (1 : Int32) < (own_len (own_L y133 y143 y153 y112 y113 y114))
      · obtain ⟨cl200, Ar200, S200, H200⟩ := id nf186_v186
        have hin200 : ¬ ((1 : Int32) < 0 ∨ cl200.slots.size ≤ ((1 : Int32)).toNatClampNeg) := inA S200 (by decide) (by decide)
        have hat200 : cl200.slots[((1 : Int32)).toNatClampNeg]? = some (.int (F 1)) := ArF.at S200 H200 hin200 rfl
        obtain ⟨cl201, Ar201, S201, H201⟩ := id VE_v186
        have hin201 : ¬ ((1 : Int32) < 0 ∨ cl201.slots.size ≤ ((1 : Int32)).toNatClampNeg) := inA S201 (by decide) (by decide)
        have hat201 : cl201.slots[((1 : Int32)).toNatClampNeg]? = some (.int (E 1)) := ArF.at S201 H201 hin201 rfl
        have pre202 : ∀ t, Steps p.tables e below (T191.setTop (mkF m 422 #[.val (.long q1), .second, .val (.long q2), .second, .val (.int p3), .val (.int p4), .val (.int p5), .val (.int p6), .val (.int y1), .val (.int y2), .val (.int y3), .val (.int y4), .val (.int (p5 &&& (3 : Int32))), .val (.int (own_hd p6)), .val (.int (1 : Int32)), .val (.int (y1 * (64 : Int32))), .val (.int y112), .val (.int y113), .val (.int y114), .val (.ref b115), .val (.ref b118), .val (.ref b118), .val (.int (own_hv (own_hd p6))), .val (.int y133), .val (.int y143), .val (.int y153), .val (.ref b154), .val (.int (own_len (own_L y133 y143 y153 y112 y113 y114))), .val (.int y187), .val (.int (1 : Int32))] [])) t → Steps p.tables e below (s₁.setTop (entryFrame m #[(.long q1), (.long q2), (.int p3), (.int p4), (.int p5), (.int p6)] maxLocals)) t := by
          intro t k
          refine pre197 t ?_
          show Steps p.tables e below (T191.setTop (mkF m 396 #[.val (.long q1), .second, .val (.long q2), .second, .val (.int p3), .val (.int p4), .val (.int p5), .val (.int p6), .val (.int y1), .val (.int y2), .val (.int y3), .val (.int y4), .val (.int (p5 &&& (3 : Int32))), .val (.int (own_hd p6)), .val (.int (1 : Int32)), .val (.int (y1 * (64 : Int32))), .val (.int y112), .val (.int y113), .val (.int y114), .val (.ref b115), .val (.ref b118), .val (.ref b118), .val (.int (own_hv (own_hd p6))), .val (.int y133), .val (.int y143), .val (.int y153), .val (.ref b154), .val (.int (own_len (own_L y133 y143 y153 y112 y113 y114))), .val (.int y187), .val (.int (1 : Int32))] [(.int (1 : Int32)), (.int (own_len (own_L y133 y143 y153 y112 y113 y114)))])) _
          refine XS.icmpNo X191.here hx rfl (hb hby at_396) rfl (tlt hc396_199).2.2.2 ?_
          show Steps p.tables e below (T191.setTop (mkF m 399 #[.val (.long q1), .second, .val (.long q2), .second, .val (.int p3), .val (.int p4), .val (.int p5), .val (.int p6), .val (.int y1), .val (.int y2), .val (.int y3), .val (.int y4), .val (.int (p5 &&& (3 : Int32))), .val (.int (own_hd p6)), .val (.int (1 : Int32)), .val (.int (y1 * (64 : Int32))), .val (.int y112), .val (.int y113), .val (.int y114), .val (.ref b115), .val (.ref b118), .val (.ref b118), .val (.int (own_hv (own_hd p6))), .val (.int y133), .val (.int y143), .val (.int y153), .val (.ref b154), .val (.int (own_len (own_L y133 y143 y153 y112 y113 y114))), .val (.int y187), .val (.int (1 : Int32))] [])) _
          refine XS.iload X191.here hx rfl (hb hby at_399) rfl ?_
          refine XS.ifNo X191.here hx rfl (hb hby at_401) rfl ((if0 _ _).trans (feq (by decide : ¬ ((1 : Int32) = (0 : Int32)))).1) ?_
          show Steps p.tables e below (T191.setTop (mkF m 404 #[.val (.long q1), .second, .val (.long q2), .second, .val (.int p3), .val (.int p4), .val (.int p5), .val (.int p6), .val (.int y1), .val (.int y2), .val (.int y3), .val (.int y4), .val (.int (p5 &&& (3 : Int32))), .val (.int (own_hd p6)), .val (.int (1 : Int32)), .val (.int (y1 * (64 : Int32))), .val (.int y112), .val (.int y113), .val (.int y114), .val (.ref b115), .val (.ref b118), .val (.ref b118), .val (.int (own_hv (own_hd p6))), .val (.int y133), .val (.int y143), .val (.int y153), .val (.ref b154), .val (.int (own_len (own_L y133 y143 y153 y112 y113 y114))), .val (.int y187), .val (.int (1 : Int32))] [])) _
          refine XS.aload X191.here hx rfl (hb hby at_404) rfl rfl ?_
          refine XS.iconst X191.here hx rfl (hb hby at_406) ?_
          show Steps p.tables e below (T191.setTop (mkF m 407 #[.val (.long q1), .second, .val (.long q2), .second, .val (.int p3), .val (.int p4), .val (.int p5), .val (.int p6), .val (.int y1), .val (.int y2), .val (.int y3), .val (.int y4), .val (.int (p5 &&& (3 : Int32))), .val (.int (own_hd p6)), .val (.int (1 : Int32)), .val (.int (y1 * (64 : Int32))), .val (.int y112), .val (.int y113), .val (.int y114), .val (.ref b115), .val (.ref b118), .val (.ref b118), .val (.int (own_hv (own_hd p6))), .val (.int y133), .val (.int y143), .val (.int y153), .val (.ref b154), .val (.int (own_len (own_L y133 y143 y153 y112 y113 y114))), .val (.int y187), .val (.int (1 : Int32))] [(.int (1 : Int32)), (.ref b118)])) _
          refine X191.caload hx (j := (1 : Int32)) (v := (.int (F 1))) (by rw [e191]; exact Ar200.1) (State.isArrayOf_alike hZ.alike Ar200.2.1) Ar200.2.2 hin200 hat200 (g := (mkF m 407 #[.val (.long q1), .second, .val (.long q2), .second, .val (.int p3), .val (.int p4), .val (.int p5), .val (.int p6), .val (.int y1), .val (.int y2), .val (.int y3), .val (.int y4), .val (.int (p5 &&& (3 : Int32))), .val (.int (own_hd p6)), .val (.int (1 : Int32)), .val (.int (y1 * (64 : Int32))), .val (.int y112), .val (.int y113), .val (.int y114), .val (.ref b115), .val (.ref b118), .val (.ref b118), .val (.int (own_hv (own_hd p6))), .val (.int y133), .val (.int y143), .val (.int y153), .val (.ref b154), .val (.int (own_len (own_L y133 y143 y153 y112 y113 y114))), .val (.int y187), .val (.int (1 : Int32))] [(.int (1 : Int32)), (.ref b118)])) rfl rfl (hb hby at_407) _ ?_
          show Steps p.tables e below (T191.setTop (mkF m 408 #[.val (.long q1), .second, .val (.long q2), .second, .val (.int p3), .val (.int p4), .val (.int p5), .val (.int p6), .val (.int y1), .val (.int y2), .val (.int y3), .val (.int y4), .val (.int (p5 &&& (3 : Int32))), .val (.int (own_hd p6)), .val (.int (1 : Int32)), .val (.int (y1 * (64 : Int32))), .val (.int y112), .val (.int y113), .val (.int y114), .val (.ref b115), .val (.ref b118), .val (.ref b118), .val (.int (own_hv (own_hd p6))), .val (.int y133), .val (.int y143), .val (.int y153), .val (.ref b154), .val (.int (own_len (own_L y133 y143 y153 y112 y113 y114))), .val (.int y187), .val (.int (1 : Int32))] [(.int (F 1))])) _
          refine XS.aload X191.here hx rfl (hb hby at_408) rfl rfl ?_
          refine XS.iconst X191.here hx rfl (hb hby at_410) ?_
          show Steps p.tables e below (T191.setTop (mkF m 411 #[.val (.long q1), .second, .val (.long q2), .second, .val (.int p3), .val (.int p4), .val (.int p5), .val (.int p6), .val (.int y1), .val (.int y2), .val (.int y3), .val (.int y4), .val (.int (p5 &&& (3 : Int32))), .val (.int (own_hd p6)), .val (.int (1 : Int32)), .val (.int (y1 * (64 : Int32))), .val (.int y112), .val (.int y113), .val (.int y114), .val (.ref b115), .val (.ref b118), .val (.ref b118), .val (.int (own_hv (own_hd p6))), .val (.int y133), .val (.int y143), .val (.int y153), .val (.ref b154), .val (.int (own_len (own_L y133 y143 y153 y112 y113 y114))), .val (.int y187), .val (.int (1 : Int32))] [(.int (1 : Int32)), (.ref b154), (.int (F 1))])) _
          refine X191.caload hx (j := (1 : Int32)) (v := (.int (E 1))) (by rw [e191]; exact Ar201.1) (State.isArrayOf_alike hZ.alike Ar201.2.1) Ar201.2.2 hin201 hat201 (g := (mkF m 411 #[.val (.long q1), .second, .val (.long q2), .second, .val (.int p3), .val (.int p4), .val (.int p5), .val (.int p6), .val (.int y1), .val (.int y2), .val (.int y3), .val (.int y4), .val (.int (p5 &&& (3 : Int32))), .val (.int (own_hd p6)), .val (.int (1 : Int32)), .val (.int (y1 * (64 : Int32))), .val (.int y112), .val (.int y113), .val (.int y114), .val (.ref b115), .val (.ref b118), .val (.ref b118), .val (.int (own_hv (own_hd p6))), .val (.int y133), .val (.int y143), .val (.int y153), .val (.ref b154), .val (.int (own_len (own_L y133 y143 y153 y112 y113 y114))), .val (.int y187), .val (.int (1 : Int32))] [(.int (1 : Int32)), (.ref b154), (.int (F 1))])) rfl rfl (hb hby at_411) _ ?_
          show Steps p.tables e below (T191.setTop (mkF m 412 #[.val (.long q1), .second, .val (.long q2), .second, .val (.int p3), .val (.int p4), .val (.int p5), .val (.int p6), .val (.int y1), .val (.int y2), .val (.int y3), .val (.int y4), .val (.int (p5 &&& (3 : Int32))), .val (.int (own_hd p6)), .val (.int (1 : Int32)), .val (.int (y1 * (64 : Int32))), .val (.int y112), .val (.int y113), .val (.int y114), .val (.ref b115), .val (.ref b118), .val (.ref b118), .val (.int (own_hv (own_hd p6))), .val (.int y133), .val (.int y143), .val (.int y153), .val (.ref b154), .val (.int (own_len (own_L y133 y143 y153 y112 y113 y114))), .val (.int y187), .val (.int (1 : Int32))] [(.int (E 1)), (.int (F 1))])) _
          refine XS.icmpNo X191.here hx rfl (hb hby at_412) rfl (teq ((own_same fF fE hsel (own_lt 1 (by decide) (own_L3 _ _ _ _ _ _) hc396_199)) : ((F 1) = (E 1)))).2 ?_
          show Steps p.tables e below (T191.setTop (mkF m 415 #[.val (.long q1), .second, .val (.long q2), .second, .val (.int p3), .val (.int p4), .val (.int p5), .val (.int p6), .val (.int y1), .val (.int y2), .val (.int y3), .val (.int y4), .val (.int (p5 &&& (3 : Int32))), .val (.int (own_hd p6)), .val (.int (1 : Int32)), .val (.int (y1 * (64 : Int32))), .val (.int y112), .val (.int y113), .val (.int y114), .val (.ref b115), .val (.ref b118), .val (.ref b118), .val (.int (own_hv (own_hd p6))), .val (.int y133), .val (.int y143), .val (.int y153), .val (.ref b154), .val (.int (own_len (own_L y133 y143 y153 y112 y113 y114))), .val (.int y187), .val (.int (1 : Int32))] [])) _
          refine XS.iconst X191.here hx rfl (hb hby at_415) ?_
          refine XS.goto X191.here hx rfl (pc0 := 416) (pc' := 420) rfl (hb hby at_416) (by decide) (by decide) ?_
          show Steps p.tables e below (T191.setTop (mkF m 420 #[.val (.long q1), .second, .val (.long q2), .second, .val (.int p3), .val (.int p4), .val (.int p5), .val (.int p6), .val (.int y1), .val (.int y2), .val (.int y3), .val (.int y4), .val (.int (p5 &&& (3 : Int32))), .val (.int (own_hd p6)), .val (.int (1 : Int32)), .val (.int (y1 * (64 : Int32))), .val (.int y112), .val (.int y113), .val (.int y114), .val (.ref b115), .val (.ref b118), .val (.ref b118), .val (.int (own_hv (own_hd p6))), .val (.int y133), .val (.int y143), .val (.int y153), .val (.ref b154), .val (.int (own_len (own_L y133 y143 y153 y112 y113 y114))), .val (.int y187), .val (.int (1 : Int32))] [(.int (1 : Int32))])) _
          refine XS.istore X191.here hx rfl (hb hby at_420) rfl (l' := #[.val (.long q1), .second, .val (.long q2), .second, .val (.int p3), .val (.int p4), .val (.int p5), .val (.int p6), .val (.int y1), .val (.int y2), .val (.int y3), .val (.int y4), .val (.int (p5 &&& (3 : Int32))), .val (.int (own_hd p6)), .val (.int (1 : Int32)), .val (.int (y1 * (64 : Int32))), .val (.int y112), .val (.int y113), .val (.int y114), .val (.ref b115), .val (.ref b118), .val (.ref b118), .val (.int (own_hv (own_hd p6))), .val (.int y133), .val (.int y143), .val (.int y153), .val (.ref b154), .val (.int (own_len (own_L y133 y143 y153 y112 y113 y114))), .val (.int y187), .val (.int (1 : Int32))]) rfl ?_
          exact k
        refine ⟨_, _, X191, e191, N191, fun t k => ?_⟩
        exact pre202 t k
      · have pre203 : ∀ t, Steps p.tables e below (T191.setTop (mkF m 422 #[.val (.long q1), .second, .val (.long q2), .second, .val (.int p3), .val (.int p4), .val (.int p5), .val (.int p6), .val (.int y1), .val (.int y2), .val (.int y3), .val (.int y4), .val (.int (p5 &&& (3 : Int32))), .val (.int (own_hd p6)), .val (.int (1 : Int32)), .val (.int (y1 * (64 : Int32))), .val (.int y112), .val (.int y113), .val (.int y114), .val (.ref b115), .val (.ref b118), .val (.ref b118), .val (.int (own_hv (own_hd p6))), .val (.int y133), .val (.int y143), .val (.int y153), .val (.ref b154), .val (.int (own_len (own_L y133 y143 y153 y112 y113 y114))), .val (.int y187), .val (.int (1 : Int32))] [])) t → Steps p.tables e below (s₁.setTop (entryFrame m #[(.long q1), (.long q2), (.int p3), (.int p4), (.int p5), (.int p6)] maxLocals)) t := by
          intro t k
          refine pre197 t ?_
          show Steps p.tables e below (T191.setTop (mkF m 396 #[.val (.long q1), .second, .val (.long q2), .second, .val (.int p3), .val (.int p4), .val (.int p5), .val (.int p6), .val (.int y1), .val (.int y2), .val (.int y3), .val (.int y4), .val (.int (p5 &&& (3 : Int32))), .val (.int (own_hd p6)), .val (.int (1 : Int32)), .val (.int (y1 * (64 : Int32))), .val (.int y112), .val (.int y113), .val (.int y114), .val (.ref b115), .val (.ref b118), .val (.ref b118), .val (.int (own_hv (own_hd p6))), .val (.int y133), .val (.int y143), .val (.int y153), .val (.ref b154), .val (.int (own_len (own_L y133 y143 y153 y112 y113 y114))), .val (.int y187), .val (.int (1 : Int32))] [(.int (1 : Int32)), (.int (own_len (own_L y133 y143 y153 y112 y113 y114)))])) _
          refine XS.icmpYes X191.here hx rfl (pc0 := 396) (pc' := 422) rfl (hb hby at_396) rfl (flt hc396_199).2.2.2 (by decide) (by decide) ?_
          exact k
        refine ⟨_, _, X191, e191, N191, fun t k => ?_⟩
        exact pre203 t k
    have pre204 : ∀ t, Steps p.tables e below (T198.setTop (mkF m 425 #[.val (.long q1), .second, .val (.long q2), .second, .val (.int p3), .val (.int p4), .val (.int p5), .val (.int p6), .val (.int y1), .val (.int y2), .val (.int y3), .val (.int y4), .val (.int (p5 &&& (3 : Int32))), .val (.int (own_hd p6)), .val (.int (1 : Int32)), .val (.int (y1 * (64 : Int32))), .val (.int y112), .val (.int y113), .val (.int y114), .val (.ref b115), .val (.ref b118), .val (.ref b118), .val (.int (own_hv (own_hd p6))), .val (.int y133), .val (.int y143), .val (.int y153), .val (.ref b154), .val (.int (own_len (own_L y133 y143 y153 y112 y113 y114))), .val (.int y187), .val (.int (1 : Int32))] [(.int (2 : Int32)), (.int (own_len (own_L y133 y143 y153 y112 y113 y114)))])) t → Steps p.tables e below (s₁.setTop (entryFrame m #[(.long q1), (.long q2), (.int p3), (.int p4), (.int p5), (.int p6)] maxLocals)) t := by
      intro t k
      refine pre198 t ?_
      show Steps p.tables e below (T198.setTop (mkF m 422 #[.val (.long q1), .second, .val (.long q2), .second, .val (.int p3), .val (.int p4), .val (.int p5), .val (.int p6), .val (.int y1), .val (.int y2), .val (.int y3), .val (.int y4), .val (.int (p5 &&& (3 : Int32))), .val (.int (own_hd p6)), .val (.int (1 : Int32)), .val (.int (y1 * (64 : Int32))), .val (.int y112), .val (.int y113), .val (.int y114), .val (.ref b115), .val (.ref b118), .val (.ref b118), .val (.int (own_hv (own_hd p6))), .val (.int y133), .val (.int y143), .val (.int y153), .val (.ref b154), .val (.int (own_len (own_L y133 y143 y153 y112 y113 y114))), .val (.int y187), .val (.int (1 : Int32))] [])) _
      refine XS.iload X198.here hx rfl (hb hby at_422) rfl ?_
      refine XS.iconst X198.here hx rfl (hb hby at_424) ?_
      exact k
    obtain ⟨T205, L205, X205, e205, N205, pre205⟩ : ∃ (T' : State) (L' : List Loc), Stand p l e room_1 s m #[(.long q1), (.long q2), (.int p3), (.int p4), (.int p5), (.int p6)] below meth c T' L' 3 8 ∧ T'.heap = T186.heap ∧ Fr n0 L' ∧ ∀ t, Steps p.tables e below (T'.setTop (mkF m 451 #[.val (.long q1), .second, .val (.long q2), .second, .val (.int p3), .val (.int p4), .val (.int p5), .val (.int p6), .val (.int y1), .val (.int y2), .val (.int y3), .val (.int y4), .val (.int (p5 &&& (3 : Int32))), .val (.int (own_hd p6)), .val (.int (1 : Int32)), .val (.int (y1 * (64 : Int32))), .val (.int y112), .val (.int y113), .val (.int y114), .val (.ref b115), .val (.ref b118), .val (.ref b118), .val (.int (own_hv (own_hd p6))), .val (.int y133), .val (.int y143), .val (.int y153), .val (.ref b154), .val (.int (own_len (own_L y133 y143 y153 y112 y113 y114))), .val (.int y187), .val (.int (1 : Int32))] [])) t → Steps p.tables e below (s₁.setTop (entryFrame m #[(.long q1), (.long q2), (.int p3), (.int p4), (.int p5), (.int p6)] maxLocals)) t := by
      by_cases hc425_206 : (2 : Int32) < (own_len (own_L y133 y143 y153 y112 y113 y114))
      · obtain ⟨cl207, Ar207, S207, H207⟩ := id nf186_v186
        have hin207 : ¬ ((2 : Int32) < 0 ∨ cl207.slots.size ≤ ((2 : Int32)).toNatClampNeg) := inA S207 (by decide) (by decide)
        have hat207 : cl207.slots[((2 : Int32)).toNatClampNeg]? = some (.int (F 2)) := ArF.at S207 H207 hin207 rfl
        obtain ⟨cl208, Ar208, S208, H208⟩ := id VE_v186
        have hin208 : ¬ ((2 : Int32) < 0 ∨ cl208.slots.size ≤ ((2 : Int32)).toNatClampNeg) := inA S208 (by decide) (by decide)
        have hat208 : cl208.slots[((2 : Int32)).toNatClampNeg]? = some (.int (E 2)) := ArF.at S208 H208 hin208 rfl
        have pre209 : ∀ t, Steps p.tables e below (T198.setTop (mkF m 451 #[.val (.long q1), .second, .val (.long q2), .second, .val (.int p3), .val (.int p4), .val (.int p5), .val (.int p6), .val (.int y1), .val (.int y2), .val (.int y3), .val (.int y4), .val (.int (p5 &&& (3 : Int32))), .val (.int (own_hd p6)), .val (.int (1 : Int32)), .val (.int (y1 * (64 : Int32))), .val (.int y112), .val (.int y113), .val (.int y114), .val (.ref b115), .val (.ref b118), .val (.ref b118), .val (.int (own_hv (own_hd p6))), .val (.int y133), .val (.int y143), .val (.int y153), .val (.ref b154), .val (.int (own_len (own_L y133 y143 y153 y112 y113 y114))), .val (.int y187), .val (.int (1 : Int32))] [])) t → Steps p.tables e below (s₁.setTop (entryFrame m #[(.long q1), (.long q2), (.int p3), (.int p4), (.int p5), (.int p6)] maxLocals)) t := by
          intro t k
          refine pre204 t ?_
          show Steps p.tables e below (T198.setTop (mkF m 425 #[.val (.long q1), .second, .val (.long q2), .second, .val (.int p3), .val (.int p4), .val (.int p5), .val (.int p6), .val (.int y1), .val (.int y2), .val (.int y3), .val (.int y4), .val (.int (p5 &&& (3 : Int32))), .val (.int (own_hd p6)), .val (.int (1 : Int32)), .val (.int (y1 * (64 : Int32))), .val (.int y112), .val (.int y113), .val (.int y114), .val (.ref b115), .val (.ref b118), .val (.ref b118), .val (.int (own_hv (own_hd p6))), .val (.int y133), .val (.int y143), .val (.int y153), .val (.ref b154), .val (.int (own_len (own_L y133 y143 y153 y112 y113 y114))), .val (.int y187), .val (.int (1 : Int32))] [(.int (2 : Int32)), (.int (own_len (own_L y133 y143 y153 y112 y113 y114)))])) _
          refine XS.icmpNo X198.here hx rfl (hb hby at_425) rfl (tlt hc425_206).2.2.2 ?_
          show Steps p.tables e below (T198.setTop (mkF m 428 #[.val (.long q1), .second, .val (.long q2), .second, .val (.int p3), .val (.int p4), .val (.int p5), .val (.int p6), .val (.int y1), .val (.int y2), .val (.int y3), .val (.int y4), .val (.int (p5 &&& (3 : Int32))), .val (.int (own_hd p6)), .val (.int (1 : Int32)), .val (.int (y1 * (64 : Int32))), .val (.int y112), .val (.int y113), .val (.int y114), .val (.ref b115), .val (.ref b118), .val (.ref b118), .val (.int (own_hv (own_hd p6))), .val (.int y133), .val (.int y143), .val (.int y153), .val (.ref b154), .val (.int (own_len (own_L y133 y143 y153 y112 y113 y114))), .val (.int y187), .val (.int (1 : Int32))] [])) _
          refine XS.iload X198.here hx rfl (hb hby at_428) rfl ?_
          refine XS.ifNo X198.here hx rfl (hb hby at_430) rfl ((if0 _ _).trans (feq (by decide : ¬ ((1 : Int32) = (0 : Int32)))).1) ?_
          show Steps p.tables e below (T198.setTop (mkF m 433 #[.val (.long q1), .second, .val (.long q2), .second, .val (.int p3), .val (.int p4), .val (.int p5), .val (.int p6), .val (.int y1), .val (.int y2), .val (.int y3), .val (.int y4), .val (.int (p5 &&& (3 : Int32))), .val (.int (own_hd p6)), .val (.int (1 : Int32)), .val (.int (y1 * (64 : Int32))), .val (.int y112), .val (.int y113), .val (.int y114), .val (.ref b115), .val (.ref b118), .val (.ref b118), .val (.int (own_hv (own_hd p6))), .val (.int y133), .val (.int y143), .val (.int y153), .val (.ref b154), .val (.int (own_len (own_L y133 y143 y153 y112 y113 y114))), .val (.int y187), .val (.int (1 : Int32))] [])) _
          refine XS.aload X198.here hx rfl (hb hby at_433) rfl rfl ?_
          refine XS.iconst X198.here hx rfl (hb hby at_435) ?_
          show Steps p.tables e below (T198.setTop (mkF m 436 #[.val (.long q1), .second, .val (.long q2), .second, .val (.int p3), .val (.int p4), .val (.int p5), .val (.int p6), .val (.int y1), .val (.int y2), .val (.int y3), .val (.int y4), .val (.int (p5 &&& (3 : Int32))), .val (.int (own_hd p6)), .val (.int (1 : Int32)), .val (.int (y1 * (64 : Int32))), .val (.int y112), .val (.int y113), .val (.int y114), .val (.ref b115), .val (.ref b118), .val (.ref b118), .val (.int (own_hv (own_hd p6))), .val (.int y133), .val (.int y143), .val (.int y153), .val (.ref b154), .val (.int (own_len (own_L y133 y143 y153 y112 y113 y114))), .val (.int y187), .val (.int (1 : Int32))] [(.int (2 : Int32)), (.ref b118)])) _
          refine X198.caload hx (j := (2 : Int32)) (v := (.int (F 2))) (by rw [e198]; exact Ar207.1) (State.isArrayOf_alike hZ.alike Ar207.2.1) Ar207.2.2 hin207 hat207 (g := (mkF m 436 #[.val (.long q1), .second, .val (.long q2), .second, .val (.int p3), .val (.int p4), .val (.int p5), .val (.int p6), .val (.int y1), .val (.int y2), .val (.int y3), .val (.int y4), .val (.int (p5 &&& (3 : Int32))), .val (.int (own_hd p6)), .val (.int (1 : Int32)), .val (.int (y1 * (64 : Int32))), .val (.int y112), .val (.int y113), .val (.int y114), .val (.ref b115), .val (.ref b118), .val (.ref b118), .val (.int (own_hv (own_hd p6))), .val (.int y133), .val (.int y143), .val (.int y153), .val (.ref b154), .val (.int (own_len (own_L y133 y143 y153 y112 y113 y114))), .val (.int y187), .val (.int (1 : Int32))] [(.int (2 : Int32)), (.ref b118)])) rfl rfl (hb hby at_436) _ ?_
          show Steps p.tables e below (T198.setTop (mkF m 437 #[.val (.long q1), .second, .val (.long q2), .second, .val (.int p3), .val (.int p4), .val (.int p5), .val (.int p6), .val (.int y1), .val (.int y2), .val (.int y3), .val (.int y4), .val (.int (p5 &&& (3 : Int32))), .val (.int (own_hd p6)), .val (.int (1 : Int32)), .val (.int (y1 * (64 : Int32))), .val (.int y112), .val (.int y113), .val (.int y114), .val (.ref b115), .val (.ref b118), .val (.ref b118), .val (.int (own_hv (own_hd p6))), .val (.int y133), .val (.int y143), .val (.int y153), .val (.ref b154), .val (.int (own_len (own_L y133 y143 y153 y112 y113 y114))), .val (.int y187), .val (.int (1 : Int32))] [(.int (F 2))])) _
          refine XS.aload X198.here hx rfl (hb hby at_437) rfl rfl ?_
          refine XS.iconst X198.here hx rfl (hb hby at_439) ?_
          show Steps p.tables e below (T198.setTop (mkF m 440 #[.val (.long q1), .second, .val (.long q2), .second, .val (.int p3), .val (.int p4), .val (.int p5), .val (.int p6), .val (.int y1), .val (.int y2), .val (.int y3), .val (.int y4), .val (.int (p5 &&& (3 : Int32))), .val (.int (own_hd p6)), .val (.int (1 : Int32)), .val (.int (y1 * (64 : Int32))), .val (.int y112), .val (.int y113), .val (.int y114), .val (.ref b115), .val (.ref b118), .val (.ref b118), .val (.int (own_hv (own_hd p6))), .val (.int y133), .val (.int y143), .val (.int y153), .val (.ref b154), .val (.int (own_len (own_L y133 y143 y153 y112 y113 y114))), .val (.int y187), .val (.int (1 : Int32))] [(.int (2 : Int32)), (.ref b154), (.int (F 2))])) _
          refine X198.caload hx (j := (2 : Int32)) (v := (.int (E 2))) (by rw [e198]; exact Ar208.1) (State.isArrayOf_alike hZ.alike Ar208.2.1) Ar208.2.2 hin208 hat208 (g := (mkF m 440 #[.val (.long q1), .second, .val (.long q2), .second, .val (.int p3), .val (.int p4), .val (.int p5), .val (.int p6), .val (.int y1), .val (.int y2), .val (.int y3), .val (.int y4), .val (.int (p5 &&& (3 : Int32))), .val (.int (own_hd p6)), .val (.int (1 : Int32)), .val (.int (y1 * (64 : Int32))), .val (.int y112), .val (.int y113), .val (.int y114), .val (.ref b115), .val (.ref b118), .val (.ref b118), .val (.int (own_hv (own_hd p6))), .val (.int y133), .val (.int y143), .val (.int y153), .val (.ref b154), .val (.int (own_len (own_L y133 y143 y153 y112 y113 y114))), .val (.int y187), .val (.int (1 : Int32))] [(.int (2 : Int32)), (.ref b154), (.int (F 2))])) rfl rfl (hb hby at_440) _ ?_
          show Steps p.tables e below (T198.setTop (mkF m 441 #[.val (.long q1), .second, .val (.long q2), .second, .val (.int p3), .val (.int p4), .val (.int p5), .val (.int p6), .val (.int y1), .val (.int y2), .val (.int y3), .val (.int y4), .val (.int (p5 &&& (3 : Int32))), .val (.int (own_hd p6)), .val (.int (1 : Int32)), .val (.int (y1 * (64 : Int32))), .val (.int y112), .val (.int y113), .val (.int y114), .val (.ref b115), .val (.ref b118), .val (.ref b118), .val (.int (own_hv (own_hd p6))), .val (.int y133), .val (.int y143), .val (.int y153), .val (.ref b154), .val (.int (own_len (own_L y133 y143 y153 y112 y113 y114))), .val (.int y187), .val (.int (1 : Int32))] [(.int (E 2)), (.int (F 2))])) _
          refine XS.icmpNo X198.here hx rfl (hb hby at_441) rfl (teq ((own_same fF fE hsel (own_lt 2 (by decide) (own_L3 _ _ _ _ _ _) hc425_206)) : ((F 2) = (E 2)))).2 ?_
          show Steps p.tables e below (T198.setTop (mkF m 444 #[.val (.long q1), .second, .val (.long q2), .second, .val (.int p3), .val (.int p4), .val (.int p5), .val (.int p6), .val (.int y1), .val (.int y2), .val (.int y3), .val (.int y4), .val (.int (p5 &&& (3 : Int32))), .val (.int (own_hd p6)), .val (.int (1 : Int32)), .val (.int (y1 * (64 : Int32))), .val (.int y112), .val (.int y113), .val (.int y114), .val (.ref b115), .val (.ref b118), .val (.ref b118), .val (.int (own_hv (own_hd p6))), .val (.int y133), .val (.int y143), .val (.int y153), .val (.ref b154), .val (.int (own_len (own_L y133 y143 y153 y112 y113 y114))), .val (.int y187), .val (.int (1 : Int32))] [])) _
          refine XS.iconst X198.here hx rfl (hb hby at_444) ?_
          refine XS.goto X198.here hx rfl (pc0 := 445) (pc' := 449) rfl (hb hby at_445) (by decide) (by decide) ?_
          show Steps p.tables e below (T198.setTop (mkF m 449 #[.val (.long q1), .second, .val (.long q2), .second, .val (.int p3), .val (.int p4), .val (.int p5), .val (.int p6), .val (.int y1), .val (.int y2), .val (.int y3), .val (.int y4), .val (.int (p5 &&& (3 : Int32))), .val (.int (own_hd p6)), .val (.int (1 : Int32)), .val (.int (y1 * (64 : Int32))), .val (.int y112), .val (.int y113), .val (.int y114), .val (.ref b115), .val (.ref b118), .val (.ref b118), .val (.int (own_hv (own_hd p6))), .val (.int y133), .val (.int y143), .val (.int y153), .val (.ref b154), .val (.int (own_len (own_L y133 y143 y153 y112 y113 y114))), .val (.int y187), .val (.int (1 : Int32))] [(.int (1 : Int32))])) _
          refine XS.istore X198.here hx rfl (hb hby at_449) rfl (l' := #[.val (.long q1), .second, .val (.long q2), .second, .val (.int p3), .val (.int p4), .val (.int p5), .val (.int p6), .val (.int y1), .val (.int y2), .val (.int y3), .val (.int y4), .val (.int (p5 &&& (3 : Int32))), .val (.int (own_hd p6)), .val (.int (1 : Int32)), .val (.int (y1 * (64 : Int32))), .val (.int y112), .val (.int y113), .val (.int y114), .val (.ref b115), .val (.ref b118), .val (.ref b118), .val (.int (own_hv (own_hd p6))), .val (.int y133), .val (.int y143), .val (.int y153), .val (.ref b154), .val (.int (own_len (own_L y133 y143 y153 y112 y113 y114))), .val (.int y187), .val (.int (1 : Int32))]) rfl ?_
          exact k
        refine ⟨_, _, X198, e198, N198, fun t k => ?_⟩
        exact pre209 t k
      · have pre210 : ∀ t, Steps p.tables e below (T198.setTop (mkF m 451 #[.val (.long q1), .second, .val (.long q2), .second, .val (.int p3), .val (.int p4), .val (.int p5), .val (.int p6), .val (.int y1), .val (.int y2), .val (.int y3), .val (.int y4), .val (.int (p5 &&& (3 : Int32))), .val (.int (own_hd p6)), .val (.int (1 : Int32)), .val (.int (y1 * (64 : Int32))), .val (.int y112), .val (.int y113), .val (.int y114), .val (.ref b115), .val (.ref b118), .val (.ref b118), .val (.int (own_hv (own_hd p6))), .val (.int y133), .val (.int y143), .val (.int y153), .val (.ref b154), .val (.int (own_len (own_L y133 y143 y153 y112 y113 y114))), .val (.int y187), .val (.int (1 : Int32))] [])) t → Steps p.tables e below (s₁.setTop (entryFrame m #[(.long q1), (.long q2), (.int p3), (.int p4), (.int p5), (.int p6)] maxLocals)) t := by
          intro t k
          refine pre204 t ?_
          show Steps p.tables e below (T198.setTop (mkF m 425 #[.val (.long q1), .second, .val (.long q2), .second, .val (.int p3), .val (.int p4), .val (.int p5), .val (.int p6), .val (.int y1), .val (.int y2), .val (.int y3), .val (.int y4), .val (.int (p5 &&& (3 : Int32))), .val (.int (own_hd p6)), .val (.int (1 : Int32)), .val (.int (y1 * (64 : Int32))), .val (.int y112), .val (.int y113), .val (.int y114), .val (.ref b115), .val (.ref b118), .val (.ref b118), .val (.int (own_hv (own_hd p6))), .val (.int y133), .val (.int y143), .val (.int y153), .val (.ref b154), .val (.int (own_len (own_L y133 y143 y153 y112 y113 y114))), .val (.int y187), .val (.int (1 : Int32))] [(.int (2 : Int32)), (.int (own_len (own_L y133 y143 y153 y112 y113 y114)))])) _
          refine XS.icmpYes X198.here hx rfl (pc0 := 425) (pc' := 451) rfl (hb hby at_425) rfl (flt hc425_206).2.2.2 (by decide) (by decide) ?_
          exact k
        refine ⟨_, _, X198, e198, N198, fun t k => ?_⟩
        exact pre210 t k
    obtain ⟨fs, hr, hrun, hended, hW, hsame⟩ := X205.leave (v := some (.int (1 : Int32))) (fun h => by rw [Bd.returns] at h; cases h)
    refine ⟨_, _, pre205 _ ?_, hrun, hended, _, _, rfl, ?_, ⟨_, rfl⟩, hW, hsame.mono (by decide) (by decide)⟩
    · show Steps p.tables e below (T205.setTop (mkF m 451 #[.val (.long q1), .second, .val (.long q2), .second, .val (.int p3), .val (.int p4), .val (.int p5), .val (.int p6), .val (.int y1), .val (.int y2), .val (.int y3), .val (.int y4), .val (.int (p5 &&& (3 : Int32))), .val (.int (own_hd p6)), .val (.int (1 : Int32)), .val (.int (y1 * (64 : Int32))), .val (.int y112), .val (.int y113), .val (.int y114), .val (.ref b115), .val (.ref b118), .val (.ref b118), .val (.int (own_hv (own_hd p6))), .val (.int y133), .val (.int y143), .val (.int y153), .val (.ref b154), .val (.int (own_len (own_L y133 y143 y153 y112 y113 y114))), .val (.int y187), .val (.int (1 : Int32))] [])) _
      refine XS.iload X205.here hx rfl (hb hby at_451) rfl ?_
      refine XS.ifYes X205.here hx rfl (pc0 := 453) (pc' := 495) rfl (hb hby at_453) rfl ((if0 _ _).trans (feq (by decide : ¬ ((1 : Int32) = (0 : Int32)))).2) (by decide) (by decide) ?_
      show Steps p.tables e below (T205.setTop (mkF m 495 #[.val (.long q1), .second, .val (.long q2), .second, .val (.int p3), .val (.int p4), .val (.int p5), .val (.int p6), .val (.int y1), .val (.int y2), .val (.int y3), .val (.int y4), .val (.int (p5 &&& (3 : Int32))), .val (.int (own_hd p6)), .val (.int (1 : Int32)), .val (.int (y1 * (64 : Int32))), .val (.int y112), .val (.int y113), .val (.int y114), .val (.ref b115), .val (.ref b118), .val (.ref b118), .val (.int (own_hv (own_hd p6))), .val (.int y133), .val (.int y143), .val (.int y153), .val (.ref b154), .val (.int (own_len (own_L y133 y143 y153 y112 y113 y114))), .val (.int y187), .val (.int (1 : Int32))] [])) _
      refine XS.iload X205.here hx rfl (hb hby at_495) rfl ?_
      show Steps p.tables e below (T205.setTop (mkF m 497 #[.val (.long q1), .second, .val (.long q2), .second, .val (.int p3), .val (.int p4), .val (.int p5), .val (.int p6), .val (.int y1), .val (.int y2), .val (.int y3), .val (.int y4), .val (.int (p5 &&& (3 : Int32))), .val (.int (own_hd p6)), .val (.int (1 : Int32)), .val (.int (y1 * (64 : Int32))), .val (.int y112), .val (.int y113), .val (.int y114), .val (.ref b115), .val (.ref b118), .val (.ref b118), .val (.int (own_hv (own_hd p6))), .val (.int y133), .val (.int y143), .val (.int y153), .val (.ref b154), .val (.int (own_len (own_L y133 y143 y153 y112 y113 y114))), .val (.int y187), .val (.int (1 : Int32))] [(.int (1 : Int32))])) _
      exact retN X205 hx (t := .boolean) Bd.returns (by simp) (hb hby at_497) hr
    · show Q_rm0 Z q1 q2 p3 p4 p5 p6 h0 n0 _ T205.heap _
      rw [e205]
      exact ⟨rfl, N205⟩
set_option maxRecDepth 65536 in
set_option maxHeartbeats 40000000 in
theorem comes_1 {Post : Tables → Env → Array Value → State → Outcome → State → Prop} (hpost : ∀ tb e args s v u, (limb_1_1.after args s (.returned v) u = true ∧ limb_1_2.after args s (.returned v) u = true ∧ True) → FrameEnd s (.returned v) u (Jvm.fieldLocs frame_1_writes args s ++ Jvm.arrayLocs frame_1_arrays args s ++ Jvm.staticLocs frame_1_statics s) 16 128 → Post tb e args s (.returned v) u) :
    ArmFor flags0 classFile x code maxLocals ret World_1 tables_1 room_1 Calls_1 rest_1 Pre_1 Post := by
  intro l hfl _ _ p e ha hc hk s m args below hf hA hF happ hP
  obtain ⟨hcalls, hrest, hpre⟩ := hP
  obtain ⟨-, -, -, hnamed, -, -, -, hat⟩ := (Spec.applies_iff hf).mp happ
  obtain ⟨hg, hn⟩ := and_e (Cond.before_iff.mp (show (Jvm.Cond.and given_1 narrow_1).before args s = true from hpre))
  obtain ⟨g0, gr0⟩ := and_e hg
  obtain ⟨ga0, gr1⟩ := and_e gr0
  obtain ⟨ga1, gr2⟩ := and_e gr1
  obtain ⟨ga2, gr3⟩ := and_e gr2
  obtain ⟨ga3, gr4⟩ := and_e gr3
  obtain ⟨ga4, gr5⟩ := and_e gr4
  obtain ⟨w0, w1, w2, w3, w4, w5, rfl⟩ : ∃ w0 w1 w2 w3 w4 w5 : Value, args = #[w0, w1, w2, w3, w4, w5] := by
    have hs : args.size = 6 := by simpa [Cond.value, given_1] using g0
    obtain ⟨L⟩ := args
    match L, hs with
    | [w0, w1, w2, w3, w4, w5], _ => exact ⟨w0, w1, w2, w3, w4, w5, rfl⟩
  have hw := fun d (hd : d ∈ tables_1) => atoms_spec (ws := Jvm.Cond.code x code maxLocals ret :: tables_1) hat d (List.mem_cons_of_mem _ hd)
  have hfit : Fit s := fun {y c} hc i hi => by
    obtain ⟨ha, rfl⟩ := Array.getElem?_eq_some_iff.mp hc
    have q := List.all_eq_true.mp ((Array.all_eq_true_iff_forall_mem.mp hF) _ (Array.getElem_mem ha)) i (List.mem_range.mpr hi)
    simpa [Array.getElem?_eq_getElem hi] using q
  obtain ⟨i0, ei0⟩ := isL_v ga0
  obtain rfl : w0 = (.long i0) := Option.some.inj ei0
  obtain ⟨i1, ei1⟩ := isL_v ga1
  obtain rfl : w1 = (.long i1) := Option.some.inj ei1
  obtain ⟨i2, ei2⟩ := is_v ga2
  obtain rfl : w2 = (.int i2) := Option.some.inj ei2
  obtain ⟨i3, ei3⟩ := is_v ga3
  obtain rfl : w3 = (.int i3) := Option.some.inj ei3
  obtain ⟨i4, ei4⟩ := is_v ga4
  obtain rfl : w4 = (.int i4) := Option.some.inj ei4
  obtain ⟨i5, ei5⟩ := is_v gr5
  obtain rfl : w5 = (.int i5) := Option.some.inj ei5
  obtain ⟨n, o, h1, h2, h3, _, L, rfl, ⟨rfl, N⟩, hq⟩ := rm0 l s _ hw tables_1 i0 i1 i2 i3 i4 i5 s.heap s.heap.size (Nat.le_refl _) p e ha hc hk s m _ below hf ((Spec.applies_iff_loose hf).mp happ).1 ⟨rfl, State.Warmed39.refl s, rfl⟩ trivial
  refine ⟨n, _, h1, h2, h3, hpost _ _ _ _ _ _ ⟨Cond.after_iff.mpr rfl, Cond.after_iff.mpr (eq_i res_at (Term.int_eval (1)) rfl), trivial⟩ ⟨hq.1, hq.2.1, (hq.2.2.sift fun y hy => Or.inr (N y hy)).mono (by decide) (by decide)⟩⟩
theorem main_1_1 : Claimed_1_1 := comes_1 fun _ _ _ _ _ _ h hF => ⟨h.1, hF⟩
theorem main_1_2 : Claimed_1_2 := comes_1 fun _ _ _ _ _ _ h hF => ⟨h.2.1, hF⟩
end Jvm.Pilot.@@N@@
namespace Jvm.Pilot.@@N@@
open Jvm Jvm.ClassFile Sem Op Lib Jvm.Free Jvm.Stand Jvm.Pilot.@@N@@.Jvm.D
/-! MADE BY PROGRAM (witnessworld.py) out of the Statement's table words and the real class files: 14 classes; the members and pool entries that the words name. The judged class is class 1, her method 2. -/
namespace start1
open Jvm.ClassFile
def u (s : String) : CpInfo := .utf8 (stringToUtf16 s)
/-- a pool by its gaps: so many unusable entries, then the entry; so many at the end -/
def gap : Nat → List CpInfo → List CpInfo
  | 0, r => r
  | n + 1, r => .unusable :: gap n r
def poolList (es : List (Nat × CpInfo)) (last : Nat) : List CpInfo := es.foldr (fun e r => gap e.1 (e.2 :: r)) (gap last [])
def pool (es : List (Nat × CpInfo)) (last : Nat) : Array CpInfo := ⟨poolList es last⟩
def fileOf (pool : Array CpInfo) (this : Nat) (attrs : Array Attribute := #[]) (ms : Array MethodInfo := #[]) (fl : Nat := 33) (sup : Nat := 0) (ifs : Array Nat := #[]) (fds : Array FieldInfo := #[]) : ClassFile where
  minorVersion := 0
  majorVersion := 65
  constantPool := pool
  accessFlags := fl
  thisClass := this
  superClass := sup
  interfaces := ifs
  fields := fds
  methods := ms
  attributes := attrs
def plain (name : String) (sup : Option ClassId) : Class where
  name := name
  kind := .ordinary
  loader := none
  accessFlags := 33
  super := sup
  interfaces := #[]
  cf := none
  fields := #[]
  methods := #[]
  instanceTypes := #[]
  staticTypes := #[]
  resolved := #[]
  callSites := []
  init := .initialized
  statics := none
  mirror := none

def pool0 : Array CpInfo := pool [(5, u "<init>"), (0, u "()V"), (1, .class_ 10), (1, u "java/lang/Object")] 113

def k0m0 : Method := { name := "<init>", desc := "()V", sig := { parameters := [], returnType := none }, accessFlags := 1, code := none }
/-- java/lang/Object -/
def k0 : Class := { plain "java/lang/Object" none with
  accessFlags := 33
  interfaces := #[]
  cf := some (fileOf pool0 8 #[] #[{ accessFlags := 1, nameIndex := 5, descriptorIndex := 6, attributes := #[] }] 33 0 #[] #[])
  fields := #[]
  methods := #[k0m0]
  instanceTypes := #[]
  staticTypes := #[]
  resolved := Array.replicate 124 none
  statics := none }

def pool1 : Array CpInfo := pool [(2, .class_ 4), (1, u "java/lang/Object"), (0, u "<init>"), (0, u "()V"), (0, .integer 2147483647), (0, .integer 65535), (0, .methodref 10 11), (0, .class_ 12), (0, .nameAndType 13 14), (0, u "com/example/bitstrata/bitstrata/BitsetChunkFilterPinLaw"), (0, u "bit"), (0, u "(JJI)I"), (0, .methodref 16 17), (0, .class_ 18), (0, .nameAndType 19 20), (0, u "com/example/bitstrata/bitstrata/BitsetChunk"), (0, u "filter"), (0, u "([JI[CIZ[C)I"), (3, u "law"), (0, u "(JJIIII)Z")] 6

def k1m0 : Method := { name := "<init>", desc := "()V", sig := { parameters := [], returnType := none }, accessFlags := 1, code := none }
def k1c1 : Code := { maxStack := 4, maxLocals := 5, code := method_2_code, exceptionTable := #[], attributes := #[] }
def k1m1 : Method := { name := "bit", desc := "(JJI)I", sig := { parameters := [.long, .long, .int], returnType := some .int }, accessFlags := 10, code := some k1c1 }
def k1c2 : Code := { maxStack := 6, maxLocals := 30, code := code, exceptionTable := #[], attributes := #[] }
def k1m2 : Method := { name := "law", desc := "(JJIIII)Z", sig := { parameters := [.long, .long, .int, .int, .int, .int], returnType := some .boolean }, accessFlags := 9, code := some k1c2 }
/-- com/example/bitstrata/bitstrata/BitsetChunkFilterPinLaw -/
def k1 : Class := { plain "com/example/bitstrata/bitstrata/BitsetChunkFilterPinLaw" (some 0) with
  accessFlags := 49
  interfaces := #[]
  cf := some (fileOf pool1 10 #[] #[{ accessFlags := 1, nameIndex := 5, descriptorIndex := 6, attributes := #[] }, { accessFlags := 10, nameIndex := 13, descriptorIndex := 14, attributes := #[] }, { accessFlags := 9, nameIndex := 24, descriptorIndex := 25, attributes := #[] }] 49 2 #[] #[])
  fields := #[]
  methods := #[k1m0, k1m1, k1m2]
  instanceTypes := #[]
  staticTypes := #[]
  resolved := Array.replicate 32 none
  statics := none }

def pool2 : Array CpInfo := pool [(1, .class_ 2), (0, u "com/example/bitstrata/bitstrata/Chunk"), (3, .class_ 8), (1, u "java/lang/Object"), (0, u "<init>"), (0, u "()V"), (12, u "BITS_OF_WORD"), (0, u "[J"), (133, u "CAPACITY"), (0, u "I"), (1, u "MAX_ARRAY_CARDINALITY"), (1, u "UNCOUNTED"), (1, u "BITSET_BYTES"), (75, .class_ 242), (0, u "com/example/bitstrata/bitstrata/Chunk$WordHashSum")] 3

def k2m0 : Method := { name := "<init>", desc := "()V", sig := { parameters := [], returnType := none }, accessFlags := 0, code := none }
/-- com/example/bitstrata/bitstrata/Chunk -/
def k2 : Class := { plain "com/example/bitstrata/bitstrata/Chunk" (some 0) with
  accessFlags := 1056
  interfaces := #[]
  cf := some (fileOf pool2 1 #[.nestMembers #[241]] #[{ accessFlags := 0, nameIndex := 9, descriptorIndex := 10, attributes := #[] }] 1056 6 #[] #[{ accessFlags := 24, nameIndex := 158, descriptorIndex := 159, attributes := #[] }, { accessFlags := 24, nameIndex := 161, descriptorIndex := 159, attributes := #[] }, { accessFlags := 24, nameIndex := 163, descriptorIndex := 159, attributes := #[] }, { accessFlags := 26, nameIndex := 23, descriptorIndex := 24, attributes := #[] }, { accessFlags := 24, nameIndex := 165, descriptorIndex := 159, attributes := #[] }])
  fields := #[{ name := "CAPACITY", type := .int, accessFlags := 24, slot := 0, constantValue := 0 }, { name := "MAX_ARRAY_CARDINALITY", type := .int, accessFlags := 24, slot := 1, constantValue := 0 }, { name := "UNCOUNTED", type := .int, accessFlags := 24, slot := 2, constantValue := 0 }, { name := "BITS_OF_WORD", type := (.array .long), accessFlags := 26, slot := 3, constantValue := 0 }, { name := "BITSET_BYTES", type := .int, accessFlags := 24, slot := 4, constantValue := 0 }]
  methods := #[k2m0]
  instanceTypes := #[]
  staticTypes := #[.int, .int, .int, (.array .long), .int]
  resolved := Array.replicate 246 none
  statics := none }

def pool3 : Array CpInfo := pool [(1, .class_ 2), (0, u "com/example/bitstrata/bitstrata/Chunk"), (2, .class_ 6), (0, u "com/example/bitstrata/bitstrata/BitsetChunk"), (6, u "countedRuns"), (0, u "I"), (2, u "words"), (0, u "[J"), (2, u "cardinality"), (13, u "runsAtLeast"), (0, u "Z"), (55, u "RUNS_REFUSED"), (2, u "MANY_RUNS"), (207, u "filter"), (0, u "([JI[CIZ[C)I"), (20, u "DOWN_BY_LEADING_ZEROS"), (46, u "WORD_COUNT"), (2, u "QUARTER"), (1, u "WORDS_TESTED_AT_ONCE"), (1, u "ARRAY_BLOCK"), (1, u "WORDS_PER_VALUE_IN_BLOCKS"), (0, u "STRETCH")] 93

def k3c0 : Code := { maxStack := 4, maxLocals := 10, code := prog_30_method_71_code, exceptionTable := #[], attributes := #[] }
def k3m0 : Method := { name := "filter", desc := "([JI[CIZ[C)I", sig := { parameters := [(.array .long), .int, (.array .char), .int, .boolean, (.array .char)], returnType := some .int }, accessFlags := 8, code := some k3c0 }
/-- com/example/bitstrata/bitstrata/BitsetChunk -/
def k3 : Class := { plain "com/example/bitstrata/bitstrata/BitsetChunk" (some 2) with
  accessFlags := 48
  interfaces := #[]
  cf := some (fileOf pool3 5 #[] #[{ accessFlags := 8, nameIndex := 303, descriptorIndex := 304, attributes := #[] }] 48 1 #[] #[{ accessFlags := 24, nameIndex := 372, descriptorIndex := 14, attributes := #[] }, { accessFlags := 26, nameIndex := 375, descriptorIndex := 14, attributes := #[] }, { accessFlags := 26, nameIndex := 92, descriptorIndex := 14, attributes := #[] }, { accessFlags := 26, nameIndex := 95, descriptorIndex := 14, attributes := #[] }, { accessFlags := 26, nameIndex := 377, descriptorIndex := 14, attributes := #[] }, { accessFlags := 26, nameIndex := 379, descriptorIndex := 14, attributes := #[] }, { accessFlags := 26, nameIndex := 381, descriptorIndex := 14, attributes := #[] }, { accessFlags := 26, nameIndex := 382, descriptorIndex := 14, attributes := #[] }, { accessFlags := 26, nameIndex := 325, descriptorIndex := 36, attributes := #[] }, { accessFlags := 18, nameIndex := 17, descriptorIndex := 18, attributes := #[] }, { accessFlags := 2, nameIndex := 21, descriptorIndex := 14, attributes := #[] }, { accessFlags := 2, nameIndex := 13, descriptorIndex := 14, attributes := #[] }, { accessFlags := 2, nameIndex := 35, descriptorIndex := 36, attributes := #[] }])
  fields := #[{ name := "WORD_COUNT", type := .int, accessFlags := 24, slot := 0, constantValue := 0 }, { name := "QUARTER", type := .int, accessFlags := 26, slot := 1, constantValue := 0 }, { name := "RUNS_REFUSED", type := .int, accessFlags := 26, slot := 2, constantValue := 0 }, { name := "MANY_RUNS", type := .int, accessFlags := 26, slot := 3, constantValue := 0 }, { name := "WORDS_TESTED_AT_ONCE", type := .int, accessFlags := 26, slot := 4, constantValue := 0 }, { name := "ARRAY_BLOCK", type := .int, accessFlags := 26, slot := 5, constantValue := 0 }, { name := "WORDS_PER_VALUE_IN_BLOCKS", type := .int, accessFlags := 26, slot := 6, constantValue := 0 }, { name := "STRETCH", type := .int, accessFlags := 26, slot := 7, constantValue := 0 }, { name := "DOWN_BY_LEADING_ZEROS", type := .boolean, accessFlags := 26, slot := 8, constantValue := 0 }, { name := "words", type := (.array .long), accessFlags := 18, slot := 0, constantValue := 0 }, { name := "cardinality", type := .int, accessFlags := 2, slot := 1, constantValue := 0 }, { name := "countedRuns", type := .int, accessFlags := 2, slot := 2, constantValue := 0 }, { name := "runsAtLeast", type := .boolean, accessFlags := 2, slot := 3, constantValue := 0 }]
  methods := #[k3m0]
  instanceTypes := #[(.array .long), .int, .int, .boolean]
  staticTypes := #[.int, .int, .int, .int, .int, .int, .int, .int, .boolean]
  resolved := Array.replicate 476 none
  statics := none }

def pool4 : Array CpInfo := pool [(1, u "java/lang/Cloneable"), (0, .class_ 1), (0, u "java/lang/Object"), (0, .class_ 3)] 3

/-- java/lang/Cloneable -/
def k4 : Class := { plain "java/lang/Cloneable" (some 0) with
  accessFlags := 1537
  interfaces := #[]
  cf := some (fileOf pool4 2 #[] #[] 1537 4 #[] #[])
  fields := #[]
  methods := #[]
  instanceTypes := #[]
  staticTypes := #[]
  resolved := Array.replicate 8 none
  statics := none }

def pool5 : Array CpInfo := pool [(1, u "java/io/Serializable"), (0, .class_ 1), (0, u "java/lang/Object"), (0, .class_ 3)] 3

/-- java/io/Serializable -/
def k5 : Class := { plain "java/io/Serializable" (some 0) with
  accessFlags := 1537
  interfaces := #[]
  cf := some (fileOf pool5 2 #[] #[] 1537 4 #[] #[])
  fields := #[]
  methods := #[]
  instanceTypes := #[]
  staticTypes := #[]
  resolved := Array.replicate 8 none
  statics := none }

/-- the primitive byte -/
def k6 : Class := { plain "byte" none with kind := .primitive 'B', accessFlags := 0x411 }
/-- [B -/
def k7 : Class := { plain "[B" (some 0) with kind := .array 6 .byte, interfaces := #[4, 5], accessFlags := 1041 }

/-- the primitive char -/
def k8 : Class := { plain "char" none with kind := .primitive 'C', accessFlags := 0x411 }
/-- [C -/
def k9 : Class := { plain "[C" (some 0) with kind := .array 8 .char, interfaces := #[4, 5], accessFlags := 1041 }

/-- the primitive int -/
def k10 : Class := { plain "int" none with kind := .primitive 'I', accessFlags := 0x411 }
/-- [I -/
def k11 : Class := { plain "[I" (some 0) with kind := .array 10 .int, interfaces := #[4, 5], accessFlags := 1041 }

/-- the primitive long -/
def k12 : Class := { plain "long" none with kind := .primitive 'J', accessFlags := 0x411 }
/-- [J -/
def k13 : Class := { plain "[J" (some 0) with kind := .array 12 .long, interfaces := #[4, 5], accessFlags := 1041 }

def heap : Heap := #[]
def classes : Array Class := #[k0, k1, k2, k3, k4, k5, k6, k7, k8, k9, k10, k11, k12, k13]
def interned : List (Array UInt16 × Addr) := []
def slotsUsed : Nat := 0
def theMethod : MethodId := ⟨1, 2⟩
def args0 : Array Value := #[.long 1, .long 2, .int 5, .int 7, .int 5, .int 3]
def aboutOver (below : List Frame) : State where
  vm := { classes := classes, interned := interned.toArray }
  heap := heap
  slotsUsed := slotsUsed
  threads := #[{ frames := .invoking theMethod args0 :: below }]
def below0 : List Frame := [.native { method := ⟨0, 0⟩, args := #[] }]
def about1 : State := aboutOver below0
def p0 : Program := .bare "" "" ""
def e0 : Env := launch0.env 0 0 0
theorem w_frames : about1.frames = Frame.invoking theMethod args0 :: below0 := rfl
set_option maxRecDepth 65536 in
theorem w_args : argsFit about1.vm theMethod args0 = true := by decide +kernel
set_option maxRecDepth 65536 in
theorem w_heap : heapFits about1 = true := by decide +kernel
set_option maxRecDepth 65536 in
theorem w_runnable : about1.curStatus? = some .runnable := by decide +kernel
set_option maxRecDepth 65536 in
theorem w_alone : about1.alone = true := by decide +kernel
set_option maxRecDepth 65536 in
theorem w_named : about1.methodNamed? x = some theMethod := by decide +kernel
set_option maxRecDepth 65536 in
theorem w_hears : about1.hears theMethod below0 = true := by decide +kernel
set_option maxRecDepth 65536 in
theorem w_ripe : about1.ripe theMethod args0 below0 = true := by decide +kernel
theorem w_running : about1.status = .running := rfl
set_option maxRecDepth 65536 in
theorem w_room : about1.hasRoom e0.platform room_1 = true :=
  launch0.hasRoom_least _ room_1 (by decide +kernel) (by decide +kernel) (by decide +kernel) (by decide +kernel) (by decide +kernel) (by decide +kernel)
theorem allAtoms_all (ts : List Jvm.Cond) (a : Array Jvm.Value) (st : Jvm.State) : (allAtoms ts).before a st = ts.all (fun c => c.before a st) := by
  induction ts with
  | nil => rfl
  | cons c t ih =>
    show (Jvm.Cond.and c (allAtoms t)).before a st = _
    rw [Jvm.Cond.before_and, ih, List.all_cons]
def words1 : List Jvm.Cond := Jvm.Cond.code x code maxLocals ret :: tables_1
/-- a 'code' word, met by the world's own term for the bytes: nothing is compared byte by byte -/
theorem code_word {y : MethodName} {bytes : ByteArray} {mx : Nat} {rt : Option FieldType} {a : Array Value} {s : State} {m : MethodId} {meth : Method} {c : Code} (h1 : s.methodNamed? y = some m) (h2 : s.vm.method? m = some meth) (h3 : meth.code = some c) (h4 : c.code = bytes)
    (h5 : (c.maxLocals == mx && c.exceptionTable.isEmpty && decide (c.maxStack ≤ mostOperands) && decide (meth.sig.returnType = rt) && !meth.locks && decide (parseMethodDescriptor y.desc = some meth.sig)) = true) : (Jvm.Cond.code y bytes mx rt).before a s = true := by
  simp only [Bool.and_eq_true, beq_iff_eq, Bool.not_eq_true', decide_eq_true_eq] at h5
  obtain ⟨⟨⟨⟨⟨g1, g2⟩, g3⟩, g4⟩, g5⟩, g6⟩ := h5
  simp [Cond.before, Cond.holds, Cond.value, h1, h2, h3, h4, g1, g2, g3, g4, g5, g6]
def isCode : Jvm.Cond → Bool
  | .code _ _ _ _ => true
  | _ => false
theorem all_split {L : List Jvm.Cond} {P : Jvm.Cond → Bool} (h1 : L.all (fun c => isCode c || P c) = true) (h2 : ∀ c ∈ L.filter isCode, P c = true) : L.all P = true := by
  refine List.all_eq_true.mpr fun c hc => ?_
  have h := List.all_eq_true.mp h1 c hc
  rcases Bool.eq_false_or_eq_true (isCode c) with hi | hi
  · exact h2 c (List.mem_filter.mpr ⟨hc, hi⟩)
  · simpa [hi] using h
set_option maxRecDepth 65536 in
theorem w_c0 : (Jvm.Cond.code x code maxLocals ret).before args0 about1 = true := code_word (m := ⟨1, 2⟩) (meth := k1m2) (c := k1c2) (by decide +kernel) rfl rfl rfl (by decide +kernel)
set_option maxRecDepth 65536 in
theorem w_c1 : (Jvm.Cond.code ({ cls := "com/example/bitstrata/bitstrata/BitsetChunk", name := "filter", desc := "([JI[CIZ[C)I" } : Jvm.MethodName) prog_30_method_71_code (10 : Nat) (Option.some Jvm.ClassFile.FieldType.int)).before args0 about1 = true := code_word (m := ⟨3, 0⟩) (meth := k3m0) (c := k3c0) (by decide +kernel) rfl rfl rfl (by decide +kernel)
set_option maxRecDepth 65536 in
theorem w_c2 : (Jvm.Cond.code ({ cls := "com/example/bitstrata/bitstrata/BitsetChunkFilterPinLaw", name := "bit", desc := "(JJI)I" } : Jvm.MethodName) method_2_code (5 : Nat) (Option.some Jvm.ClassFile.FieldType.int)).before args0 about1 = true := code_word (m := ⟨1, 1⟩) (meth := k1m1) (c := k1c1) (by decide +kernel) rfl rfl rfl (by decide +kernel)
def codes1 : List Jvm.Cond := [Jvm.Cond.code x code maxLocals ret, Jvm.Cond.code ({ cls := "com/example/bitstrata/bitstrata/BitsetChunk", name := "filter", desc := "([JI[CIZ[C)I" } : Jvm.MethodName) prog_30_method_71_code (10 : Nat) (Option.some Jvm.ClassFile.FieldType.int), Jvm.Cond.code ({ cls := "com/example/bitstrata/bitstrata/BitsetChunkFilterPinLaw", name := "bit", desc := "(JJI)I" } : Jvm.MethodName) method_2_code (5 : Nat) (Option.some Jvm.ClassFile.FieldType.int)]
set_option maxRecDepth 65536 in
theorem codes_eq : words1.filter isCode = codes1 := rfl
theorem w_codes : ∀ c ∈ words1.filter isCode, c.before args0 about1 = true := by
  rw [codes_eq]
  intro c hc
  simp only [codes1, List.mem_cons, List.not_mem_nil, or_false] at hc
  rcases hc with rfl | rfl | rfl
  · exact w_c0
  · exact w_c1
  · exact w_c2
set_option maxRecDepth 65536 in
theorem w_t1 : words1.all (fun c => isCode c || c.before args0 about1) = true := by decide +kernel
theorem w_tables : (allAtoms (Jvm.Cond.code x code maxLocals ret :: tables_1)).before args0 about1 = true := by
  rw [allAtoms_all]
  show words1.all (fun c => c.before args0 about1) = true
  refine all_split ?_ w_codes
  rw [w_t1]
set_option maxRecDepth 65536 in
theorem w_case : (Jvm.Cond.and given_1 narrow_1).before args0 about1 = true := by decide +kernel
theorem w_applies : (headSpec (Jvm.Cond.code x code maxLocals ret :: tables_1) room_1).applies x e0.platform about1 = true :=
  (Spec.applies_iff w_frames).mpr ⟨w_running, w_runnable, w_alone, w_named, w_hears, w_ripe, w_room, w_tables⟩
theorem atStart : AtStart classFile x code maxLocals ret World_1 tables_1 room_1 Calls_1 rest_1 Pre_1 launch0 p0 e0 about1 theMethod args0 below0 :=
  ⟨lists_1, trivial, launch0.admits_env _ _ _, launch0.least_env, fairChoices_fair.cas, fairChoices_fair.clock, w_frames, w_args, w_heap, w_applies, trivial, trivial, w_case⟩
end start1
theorem witness_1 : WitnessClaimed_1 := ⟨start1.p0, start1.e0, start1.about1, start1.theMethod, start1.args0, start1.below0, start1.atStart⟩
end Jvm.Pilot.@@N@@
