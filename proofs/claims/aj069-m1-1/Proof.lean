import JvmDerived
import JvmDerived.Pilot.@@N@@Statement
import JvmDerived.Pilot.@@N@@Code
set_option linter.unusedVariables false
set_option linter.unusedSimpArgs false
namespace Jvm.RoadKit
open Sem ClassFile Op Lib Jvm.Stand Jvm.Free Jvm.LawKit
section New
variable {p : Program} {l : Launch} {e : Env} {R : Room} {s : State} {m : MethodId} {args : Array Value} {below : List Frame} {meth : Method} {c : Code} {T : State} {locs : List Loc} {cells slots : Nat}
theorem retI (X : Stand p l e R s m args below meth c T locs cells slots) (hx : p.tables.exec = Jvm.exec) {pc : Nat} {Ls : Array Slot} {z : Int32} {rest : List Value} (hret : meth.sig.returnType = some .int) (hd : decode c.code pc = .ok (.ireturn, 1)) {fs : List Frame}
    (hl : ∀ (f : JFrame) (acts : List Action), f.method = m → f.locked = none → f.entered = [] → (doReturn e (T.setTop f) acts (some (.int z))).1 = T.setFrames fs) : Steps p.tables e below (T.setTop (mkF m pc Ls (.int z :: rest))) (T.setFrames fs) := by
  have hm' : T.vm.method? m = some meth := X.method'
  have hn : narrow .int (.int z) = .int z := rfl
  show Steps p.tables e below (T.setTop { method := m, pc := pc, locals := Ls, stack := _ :: rest, locked := none }) _
  jvm_step X.here [X.here.top, hx, hd, hm', hret, hn]
  first | (intro acts; rw [hl _ acts rfl rfl rfl]) | rw [hl _ _ rfl rfl rfl]
  exact Steps.refl _
theorem retJ (X : Stand p l e R s m args below meth c T locs cells slots) (hx : p.tables.exec = Jvm.exec) {pc : Nat} {Ls : Array Slot} {z : Int64} {rest : List Value} (hret : meth.sig.returnType = some .long) (hd : decode c.code pc = .ok (.lreturn, 1)) {fs : List Frame}
    (hl : ∀ (f : JFrame) (acts : List Action), f.method = m → f.locked = none → f.entered = [] → (doReturn e (T.setTop f) acts (some (.long z))).1 = T.setFrames fs) : Steps p.tables e below (T.setTop (mkF m pc Ls (.long z :: rest))) (T.setFrames fs) := by
  have hm' : T.vm.method? m = some meth := X.method'
  have hn : narrow .long (.long z) = .long z := rfl
  show Steps p.tables e below (T.setTop { method := m, pc := pc, locals := Ls, stack := _ :: rest, locked := none }) _
  jvm_step X.here [X.here.top, hx, hd, hm', hret, hn]
  first | (intro acts; rw [hl _ acts rfl rfl rfl]) | rw [hl _ _ rfl rfl rfl]
  exact Steps.refl _
end New
end Jvm.RoadKit
namespace Jvm.Pilot.@@N@@
open Jvm Jvm.ClassFile Sem Op Lib Jvm.Free Jvm.Stand Jvm.LawKit Jvm.RoadKit Bundle Jvm.Pilot.@@N@@.Jvm.D
def ArF (Z : State) (h : Heap) (a : Addr) (ty : FieldType) (n : Nat) (f : Nat → Value) : Prop := ∃ c : Cell, Arr Z h a c ty ∧ c.slots.size = n ∧ ∀ i, i < n → c.slots[i]? = some (f i)
theorem ArF.lt {Z : State} {h : Heap} {a : Addr} {ty : FieldType} {n : Nat} {f : Nat → Value} (F : ArF Z h a ty n f) : a < h.size := by obtain ⟨c, A, -⟩ := F; exact A.lt
theorem ArF.ext {Z : State} {h h' : Heap} {a : Addr} {ty : FieldType} {n : Nat} {f : Nat → Value} (F : ArF Z h a ty n f) (E : Ext h h') : ArF Z h' a ty n f := by obtain ⟨c, A, r⟩ := F; exact ⟨c, A.ext E, r⟩
theorem ArF.other {Z : State} {h h' : Heap} {a b : Addr} {ty : FieldType} {n sl : Nat} {f : Nat → Value} {v : Value} (F : ArF Z h b ty n f) (W : Wr h h' a sl v) (q : b ≠ a) : ArF Z h' b ty n f := by obtain ⟨c, A, r⟩ := F; exact ⟨c, A.other W q, r⟩
theorem ArF.keep {Z : State} {h h' : Heap} {a : Addr} {ty : FieldType} {n : Nat} {f : Nat → Value} {ws : List Addr} (F : ArF Z h a ty n f) (K : Keep h h' ws) (q : a ∉ ws) : ArF Z h' a ty n f := by obtain ⟨c, A, r⟩ := F; exact ⟨c, ⟨K.2.1 a c A.1 q, A.2⟩, r⟩
theorem ArF.mk0 {Z : State} {h : Heap} {a : Addr} {ty : FieldType} {k : ClassId} {z : Int32} {n : Nat} {v : Value} (A : Arr Z h a (newA k ty z) ty) (hn : z.toNatClampNeg = n) (hv : defaultValue ty = v) : ArF Z h a ty n (fun _ => v) := by
  subst hn hv
  refine ⟨_, A, sz_new _ _ _, fun i hi => ?_⟩
  show (Array.replicate _ _)[i]? = _
  rw [Array.getElem?_replicate, if_pos hi]
theorem ArF.set {Z : State} {h h' : Heap} {a : Addr} {ty : FieldType} {n : Nat} {f : Nat → Value} {c : Cell} {j : Int32} {v : Value} (A : Arr Z h a c ty) (S : c.slots.size = n) (H : ∀ i, i < n → c.slots[i]? = some (f i)) (W : Wr h h' a j.toNatClampNeg v) (hj : ¬ (j < 0 ∨ c.slots.size ≤ j.toNatClampNeg)) : ArF Z h' a ty n (fun i => if i = j.toNatClampNeg then v else f i) := by
  refine ⟨_, A.same W, by rw [sz_set]; exact S, fun i hi => ?_⟩
  have hjl : j.toNatClampNeg < c.slots.size := Nat.lt_of_not_le fun y => hj (Or.inr y)
  show (c.slots.setIfInBounds j.toNatClampNeg v)[i]? = some (if i = j.toNatClampNeg then v else f i)
  rw [Array.getElem?_setIfInBounds]
  by_cases e : j.toNatClampNeg = i
  · rw [if_pos e, if_pos hjl, if_pos e.symm]
  · rw [if_neg e, if_neg (Ne.symm e)]; exact H i hi
theorem ArF.at {n : Nat} {f : Nat → Value} {c : Cell} {j : Int32} {v : Value} (S : c.slots.size = n) (H : ∀ i, i < n → c.slots[i]? = some (f i)) (hj : ¬ (j < 0 ∨ c.slots.size ≤ j.toNatClampNeg)) (e : f j.toNatClampNeg = v) : c.slots[j.toNatClampNeg]? = some v := by
  rw [← e]; exact H _ (S ▸ Nat.lt_of_not_le fun y => hj (Or.inr y))
theorem inA {n : Nat} {c : Cell} {j : Int32} (S : c.slots.size = n) (h0 : ¬ j < 0) (h1 : j.toNatClampNeg < n) : ¬ (j < 0 ∨ c.slots.size ≤ j.toNatClampNeg) := fun q => q.elim h0 fun r => Nat.not_lt.mpr (S ▸ r) h1
theorem ArF.congr {Z : State} {h : Heap} {a : Addr} {ty : FieldType} {n : Nat} {f g : Nat → Value} (F : ArF Z h a ty n f) (q : ∀ i, i < n → f i = g i) : ArF Z h a ty n g := by obtain ⟨c, A, S, H⟩ := F; exact ⟨c, A, S, fun i hi => (H i hi).trans (congrArg some (q i hi))⟩
theorem Sta.keep0 {Z : State} {h h' : Heap} {C n d : String} {v : Value} (F : Sta Z h C n d v) (K : Keep h h' []) : Sta Z h' C n d v := by obtain ⟨cf, i, k, f, st, cell, h1, h2, h3, h4, h5, r⟩ := F; exact ⟨cf, i, k, f, st, cell, h1, h2, h3, h4, K.2.1 _ _ h5 nin0, r⟩
theorem pd_0 : parseMethodDescriptor "(I)Z" = some ⟨[.int], some .boolean⟩ := by decide +kernel
def own_ns (p : Int32) : Int32 := if ¬ p < (97 : Int32) ∧ ¬ (122 : Int32) < p then (1 : Int32) else if ¬ p < (65 : Int32) ∧ ¬ (90 : Int32) < p then (1 : Int32) else if p = (95 : Int32) then (1 : Int32) else if ¬ p < (192 : Int32) ∧ ¬ (214 : Int32) < p then (1 : Int32) else if ¬ p < (216 : Int32) ∧ ¬ (246 : Int32) < p then (1 : Int32) else if ¬ p < (248 : Int32) ∧ ¬ (767 : Int32) < p then (1 : Int32) else if ¬ p < (880 : Int32) ∧ ¬ (893 : Int32) < p then (1 : Int32) else if ¬ p < (895 : Int32) ∧ ¬ (8191 : Int32) < p then (1 : Int32) else if p = (8204 : Int32) then (1 : Int32) else if p = (8205 : Int32) then (1 : Int32) else if ¬ p < (8304 : Int32) ∧ ¬ (8591 : Int32) < p then (1 : Int32) else if ¬ p < (11264 : Int32) ∧ ¬ (12271 : Int32) < p then (1 : Int32) else if ¬ p < (12289 : Int32) ∧ ¬ (55295 : Int32) < p then (1 : Int32) else if ¬ p < (63744 : Int32) ∧ ¬ (64975 : Int32) < p then (1 : Int32) else if ¬ p < (65008 : Int32) ∧ ¬ (65533 : Int32) < p then (1 : Int32) else if ¬ p < (65536 : Int32) ∧ ¬ (983039 : Int32) < p then (1 : Int32) else (0 : Int32)
def own_nsI (p : Int) : Int32 := if ¬ p < (97 : Int) ∧ ¬ (122 : Int) < p then (1 : Int32) else if ¬ p < (65 : Int) ∧ ¬ (90 : Int) < p then (1 : Int32) else if p = (95 : Int) then (1 : Int32) else if ¬ p < (192 : Int) ∧ ¬ (214 : Int) < p then (1 : Int32) else if ¬ p < (216 : Int) ∧ ¬ (246 : Int) < p then (1 : Int32) else if ¬ p < (248 : Int) ∧ ¬ (767 : Int) < p then (1 : Int32) else if ¬ p < (880 : Int) ∧ ¬ (893 : Int) < p then (1 : Int32) else if ¬ p < (895 : Int) ∧ ¬ (8191 : Int) < p then (1 : Int32) else if p = (8204 : Int) then (1 : Int32) else if p = (8205 : Int) then (1 : Int32) else if ¬ p < (8304 : Int) ∧ ¬ (8591 : Int) < p then (1 : Int32) else if ¬ p < (11264 : Int) ∧ ¬ (12271 : Int) < p then (1 : Int32) else if ¬ p < (12289 : Int) ∧ ¬ (55295 : Int) < p then (1 : Int32) else if ¬ p < (63744 : Int) ∧ ¬ (64975 : Int) < p then (1 : Int32) else if ¬ p < (65008 : Int) ∧ ¬ (65533 : Int) < p then (1 : Int32) else if ¬ p < (65536 : Int) ∧ ¬ (983039 : Int) < p then (1 : Int32) else (0 : Int32)
theorem d1_0 : decode prog_117_method_3_code 0 = .ok (.iload_n 0, 1) := by decide +kernel
theorem d1_1 : decode prog_117_method_3_code 1 = .ok (.bipush 97, 2) := by decide +kernel
theorem d1_3 : decode prog_117_method_3_code 3 = .ok (.if_icmp .lt 9, 3) := by decide +kernel
theorem d1_6 : decode prog_117_method_3_code 6 = .ok (.iload_n 0, 1) := by decide +kernel
theorem d1_7 : decode prog_117_method_3_code 7 = .ok (.bipush 122, 2) := by decide +kernel
theorem d1_9 : decode prog_117_method_3_code 9 = .ok (.if_icmp .le 182, 3) := by decide +kernel
theorem d1_12 : decode prog_117_method_3_code 12 = .ok (.iload_n 0, 1) := by decide +kernel
theorem d1_13 : decode prog_117_method_3_code 13 = .ok (.bipush 65, 2) := by decide +kernel
theorem d1_15 : decode prog_117_method_3_code 15 = .ok (.if_icmp .lt 9, 3) := by decide +kernel
theorem d1_18 : decode prog_117_method_3_code 18 = .ok (.iload_n 0, 1) := by decide +kernel
theorem d1_19 : decode prog_117_method_3_code 19 = .ok (.bipush 90, 2) := by decide +kernel
theorem d1_21 : decode prog_117_method_3_code 21 = .ok (.if_icmp .le 170, 3) := by decide +kernel
theorem d1_24 : decode prog_117_method_3_code 24 = .ok (.iload_n 0, 1) := by decide +kernel
theorem d1_25 : decode prog_117_method_3_code 25 = .ok (.bipush 95, 2) := by decide +kernel
theorem d1_27 : decode prog_117_method_3_code 27 = .ok (.if_icmp .eq 164, 3) := by decide +kernel
theorem d1_30 : decode prog_117_method_3_code 30 = .ok (.iload_n 0, 1) := by decide +kernel
theorem d1_31 : decode prog_117_method_3_code 31 = .ok (.sipush 192, 3) := by decide +kernel
theorem d1_34 : decode prog_117_method_3_code 34 = .ok (.if_icmp .lt 10, 3) := by decide +kernel
theorem d1_37 : decode prog_117_method_3_code 37 = .ok (.iload_n 0, 1) := by decide +kernel
theorem d1_38 : decode prog_117_method_3_code 38 = .ok (.sipush 214, 3) := by decide +kernel
theorem d1_41 : decode prog_117_method_3_code 41 = .ok (.if_icmp .le 150, 3) := by decide +kernel
theorem d1_44 : decode prog_117_method_3_code 44 = .ok (.iload_n 0, 1) := by decide +kernel
theorem d1_45 : decode prog_117_method_3_code 45 = .ok (.sipush 216, 3) := by decide +kernel
theorem d1_48 : decode prog_117_method_3_code 48 = .ok (.if_icmp .lt 10, 3) := by decide +kernel
theorem d1_51 : decode prog_117_method_3_code 51 = .ok (.iload_n 0, 1) := by decide +kernel
theorem d1_52 : decode prog_117_method_3_code 52 = .ok (.sipush 246, 3) := by decide +kernel
theorem d1_55 : decode prog_117_method_3_code 55 = .ok (.if_icmp .le 136, 3) := by decide +kernel
theorem d1_58 : decode prog_117_method_3_code 58 = .ok (.iload_n 0, 1) := by decide +kernel
theorem d1_59 : decode prog_117_method_3_code 59 = .ok (.sipush 248, 3) := by decide +kernel
theorem d1_62 : decode prog_117_method_3_code 62 = .ok (.if_icmp .lt 10, 3) := by decide +kernel
theorem d1_65 : decode prog_117_method_3_code 65 = .ok (.iload_n 0, 1) := by decide +kernel
theorem d1_66 : decode prog_117_method_3_code 66 = .ok (.sipush 767, 3) := by decide +kernel
theorem d1_69 : decode prog_117_method_3_code 69 = .ok (.if_icmp .le 122, 3) := by decide +kernel
theorem d1_72 : decode prog_117_method_3_code 72 = .ok (.iload_n 0, 1) := by decide +kernel
theorem d1_73 : decode prog_117_method_3_code 73 = .ok (.sipush 880, 3) := by decide +kernel
theorem d1_76 : decode prog_117_method_3_code 76 = .ok (.if_icmp .lt 10, 3) := by decide +kernel
theorem d1_79 : decode prog_117_method_3_code 79 = .ok (.iload_n 0, 1) := by decide +kernel
theorem d1_80 : decode prog_117_method_3_code 80 = .ok (.sipush 893, 3) := by decide +kernel
theorem d1_83 : decode prog_117_method_3_code 83 = .ok (.if_icmp .le 108, 3) := by decide +kernel
theorem d1_86 : decode prog_117_method_3_code 86 = .ok (.iload_n 0, 1) := by decide +kernel
theorem d1_87 : decode prog_117_method_3_code 87 = .ok (.sipush 895, 3) := by decide +kernel
theorem d1_90 : decode prog_117_method_3_code 90 = .ok (.if_icmp .lt 10, 3) := by decide +kernel
theorem d1_93 : decode prog_117_method_3_code 93 = .ok (.iload_n 0, 1) := by decide +kernel
theorem d1_94 : decode prog_117_method_3_code 94 = .ok (.sipush 8191, 3) := by decide +kernel
theorem d1_97 : decode prog_117_method_3_code 97 = .ok (.if_icmp .le 94, 3) := by decide +kernel
theorem d1_100 : decode prog_117_method_3_code 100 = .ok (.iload_n 0, 1) := by decide +kernel
theorem d1_101 : decode prog_117_method_3_code 101 = .ok (.sipush 8204, 3) := by decide +kernel
theorem d1_104 : decode prog_117_method_3_code 104 = .ok (.if_icmp .eq 87, 3) := by decide +kernel
theorem d1_107 : decode prog_117_method_3_code 107 = .ok (.iload_n 0, 1) := by decide +kernel
theorem d1_108 : decode prog_117_method_3_code 108 = .ok (.sipush 8205, 3) := by decide +kernel
theorem d1_111 : decode prog_117_method_3_code 111 = .ok (.if_icmp .eq 80, 3) := by decide +kernel
theorem d1_114 : decode prog_117_method_3_code 114 = .ok (.iload_n 0, 1) := by decide +kernel
theorem d1_115 : decode prog_117_method_3_code 115 = .ok (.sipush 8304, 3) := by decide +kernel
theorem d1_118 : decode prog_117_method_3_code 118 = .ok (.if_icmp .lt 10, 3) := by decide +kernel
theorem d1_121 : decode prog_117_method_3_code 121 = .ok (.iload_n 0, 1) := by decide +kernel
theorem d1_122 : decode prog_117_method_3_code 122 = .ok (.sipush 8591, 3) := by decide +kernel
theorem d1_125 : decode prog_117_method_3_code 125 = .ok (.if_icmp .le 66, 3) := by decide +kernel
theorem d1_128 : decode prog_117_method_3_code 128 = .ok (.iload_n 0, 1) := by decide +kernel
theorem d1_129 : decode prog_117_method_3_code 129 = .ok (.sipush 11264, 3) := by decide +kernel
theorem d1_132 : decode prog_117_method_3_code 132 = .ok (.if_icmp .lt 10, 3) := by decide +kernel
theorem d1_135 : decode prog_117_method_3_code 135 = .ok (.iload_n 0, 1) := by decide +kernel
theorem d1_136 : decode prog_117_method_3_code 136 = .ok (.sipush 12271, 3) := by decide +kernel
theorem d1_139 : decode prog_117_method_3_code 139 = .ok (.if_icmp .le 52, 3) := by decide +kernel
theorem d1_142 : decode prog_117_method_3_code 142 = .ok (.iload_n 0, 1) := by decide +kernel
theorem d1_143 : decode prog_117_method_3_code 143 = .ok (.sipush 12289, 3) := by decide +kernel
theorem d1_146 : decode prog_117_method_3_code 146 = .ok (.if_icmp .lt 9, 3) := by decide +kernel
theorem d1_149 : decode prog_117_method_3_code 149 = .ok (.iload_n 0, 1) := by decide +kernel
theorem d1_150 : decode prog_117_method_3_code 150 = .ok (.ldc 7, 2) := by decide +kernel
theorem d1_152 : decode prog_117_method_3_code 152 = .ok (.if_icmp .le 39, 3) := by decide +kernel
theorem d1_155 : decode prog_117_method_3_code 155 = .ok (.iload_n 0, 1) := by decide +kernel
theorem d1_156 : decode prog_117_method_3_code 156 = .ok (.ldc 8, 2) := by decide +kernel
theorem d1_158 : decode prog_117_method_3_code 158 = .ok (.if_icmp .lt 9, 3) := by decide +kernel
theorem d1_161 : decode prog_117_method_3_code 161 = .ok (.iload_n 0, 1) := by decide +kernel
theorem d1_162 : decode prog_117_method_3_code 162 = .ok (.ldc 9, 2) := by decide +kernel
theorem d1_164 : decode prog_117_method_3_code 164 = .ok (.if_icmp .le 27, 3) := by decide +kernel
theorem d1_167 : decode prog_117_method_3_code 167 = .ok (.iload_n 0, 1) := by decide +kernel
theorem d1_168 : decode prog_117_method_3_code 168 = .ok (.ldc 10, 2) := by decide +kernel
theorem d1_170 : decode prog_117_method_3_code 170 = .ok (.if_icmp .lt 9, 3) := by decide +kernel
theorem d1_173 : decode prog_117_method_3_code 173 = .ok (.iload_n 0, 1) := by decide +kernel
theorem d1_174 : decode prog_117_method_3_code 174 = .ok (.ldc 11, 2) := by decide +kernel
theorem d1_176 : decode prog_117_method_3_code 176 = .ok (.if_icmp .le 15, 3) := by decide +kernel
theorem d1_179 : decode prog_117_method_3_code 179 = .ok (.iload_n 0, 1) := by decide +kernel
theorem d1_180 : decode prog_117_method_3_code 180 = .ok (.ldc 12, 2) := by decide +kernel
theorem d1_182 : decode prog_117_method_3_code 182 = .ok (.if_icmp .lt 13, 3) := by decide +kernel
theorem d1_185 : decode prog_117_method_3_code 185 = .ok (.iload_n 0, 1) := by decide +kernel
theorem d1_186 : decode prog_117_method_3_code 186 = .ok (.ldc 13, 2) := by decide +kernel
theorem d1_188 : decode prog_117_method_3_code 188 = .ok (.if_icmp .gt 7, 3) := by decide +kernel
theorem d1_191 : decode prog_117_method_3_code 191 = .ok (.iconst 1, 1) := by decide +kernel
theorem d1_192 : decode prog_117_method_3_code 192 = .ok (.goto 4, 3) := by decide +kernel
theorem d1_195 : decode prog_117_method_3_code 195 = .ok (.iconst 0, 1) := by decide +kernel
theorem d1_196 : decode prog_117_method_3_code 196 = .ok (.ireturn, 1) := by decide +kernel
theorem pn_rm1 : plainName "com/example/eventloom/eventloom/XmlChars" = true := by first | (simp [plainName, overriddenIn]; done) | decide +kernel
theorem ef_rm1 (m : MethodId) (x0 : Int32) : entryFrame m #[(.int x0)] 1 = mkF m 0 #[.val (.int x0)] [] := by first | (simp [entryFrame, mkF, argsToLocals, Value.category]; done) | rfl
def Q_rm1 (Z : State) (p1 : Int32) (h0 : Heap) (n0 : Nat) (v : Option Value) (h : Heap) (L : List Loc) : Prop := v = some (.int (own_ns p1)) ∧ Fr n0 L ∧ h = h0
set_option maxRecDepth 65536 in
set_option maxHeartbeats 40000000 in
theorem rm1 (l : Launch) (Z : State) (a0 : Array Value) (hw : ∀ d ∈ tables_1, d.before a0 Z = true) (ws : List Jvm.Cond) (p1 : Int32) (h0 : Heap) (n0 : Nat) (Z0 : n0 ≤ h0.size) :
    MetFree l (⟨"com/example/eventloom/eventloom/XmlChars", "isNameStartChar", "(I)Z"⟩ : MethodName) (head1 (Jvm.Cond.code (⟨"com/example/eventloom/eventloom/XmlChars", "isNameStartChar", "(I)Z"⟩ : MethodName) prog_117_method_3_code 1 (some .boolean) :: ws) ({ frames := 0, cells := 0, slots := 0, locals := 0 } : Room)) (fun a U => a = #[(.int p1)] ∧ Z.Warmed39 U.vm ∧ U.heap = h0) (fun _ _ _ _ _ => True) (fun _ U o U' => ∃ v L, o = .returned v ∧ Q_rm1 Z p1 h0 n0 v U'.heap L ∧ FrameEnd U o U' L ({ frames := 0, cells := 0, slots := 0, locals := 0 } : Room).cells ({ frames := 0, cells := 0, slots := 0, locals := 0 } : Room).slots) := by
  refine MetFree.of_bodySF (plainFor_of_name pn_rm1) hisR ?_
  intro p e s m args below meth c s₁ Bd hml0 hP hK
  obtain ⟨rfl, hZ, hh⟩ := hP
  have hx := Bd.exec
  have hby := Bd.bytes
  have hml : c.maxLocals = 1 := hml0
  have hown : s.vm.findClass "com/example/eventloom/eventloom/XmlChars" = some m.cls := findClass_of_methodNamed Bd.named
  have hnm := (name_of_methodNamed Bd.named Bd.method).1
  have X0 : Stand p l e ({ frames := 0, cells := 0, slots := 0, locals := 0 } : Room) s m #[(.int p1)] below meth c s₁ [] 0 0 := Stand.of_body Bd
  have e0 : s₁.heap = h0 := by rw [← hh, Bd.state]; rfl
  have N0 := Fr.nil n0
  have pre0 : ∀ t, Steps p.tables e below (s₁.setTop (mkF m 0 #[.val (.int p1)] [])) t → Steps p.tables e below (s₁.setTop (entryFrame m #[(.int p1)] 1)) t := fun t k => castTop (ef_rm1 m p1) k
  by_cases hg0 : ¬ p1 < (97 : Int32) ∧ ¬ (122 : Int32) < p1
  · obtain ⟨fs, hr, hrun, hended, hW, hsame⟩ := X0.leave (v := some (.int (1 : Int32))) (fun h => by rw [Bd.returns] at h; cases h)
    refine ⟨_, _, pre0 _ ?_, hrun, hended, _, _, rfl, ?_, ⟨_, rfl⟩, hW, hsame.mono (by decide) (by decide)⟩
    · show Steps p.tables e below (s₁.setTop (mkF m 0 #[.val (.int p1)] [])) _
      refine XS.iloadN X0.here hx rfl (hb hby d1_0) rfl ?_
      show Steps p.tables e below (s₁.setTop (mkF m 1 #[.val (.int p1)] [(.int p1)])) _
      refine XS.bipush X0.here hx rfl (hb hby d1_1) ?_
      show Steps p.tables e below (s₁.setTop (mkF m 3 #[.val (.int p1)] [(.int (97 : Int32)), (.int p1)])) _
      refine XS.icmpNo X0.here hx rfl (hb hby d1_3) rfl (flt (hg0.1 : ¬ (p1 < (97 : Int32)))).1 ?_
      show Steps p.tables e below (s₁.setTop (mkF m 6 #[.val (.int p1)] [])) _
      refine XS.iloadN X0.here hx rfl (hb hby d1_6) rfl ?_
      show Steps p.tables e below (s₁.setTop (mkF m 7 #[.val (.int p1)] [(.int p1)])) _
      refine XS.bipush X0.here hx rfl (hb hby d1_7) ?_
      show Steps p.tables e below (s₁.setTop (mkF m 9 #[.val (.int p1)] [(.int (122 : Int32)), (.int p1)])) _
      refine XS.icmpYes X0.here hx rfl (pc0 := 9) (pc' := 191) rfl (hb hby d1_9) rfl (flt (hg0.2 : ¬ ((122 : Int32) < p1))).2.2.2 (by decide) (by decide) ?_
      show Steps p.tables e below (s₁.setTop (mkF m 191 #[.val (.int p1)] [])) _
      refine XS.iconst X0.here hx rfl (hb hby d1_191) ?_
      show Steps p.tables e below (s₁.setTop (mkF m 192 #[.val (.int p1)] [(.int (1 : Int32))])) _
      refine XS.goto X0.here hx rfl (pc0 := 192) (pc' := 196) rfl (hb hby d1_192) (by decide) (by decide) ?_
      show Steps p.tables e below (s₁.setTop (mkF m 196 #[.val (.int p1)] [(.int (1 : Int32))])) _
      exact retN X0 hx (t := .boolean) Bd.returns (by simp) (hb hby d1_196) hr
    · show Q_rm1 Z p1 h0 n0 _ s₁.heap _
      rw [e0]
      exact ⟨by rw [own_ns, if_pos hg0], N0, rfl⟩
  · have pre1 : ∀ t, Steps p.tables e below (s₁.setTop (mkF m 12 #[.val (.int p1)] [])) t → Steps p.tables e below (s₁.setTop (entryFrame m #[(.int p1)] 1)) t := by
      intro t k
      by_cases hl : p1 < (97 : Int32)
      · refine pre0 t ?_
        show Steps p.tables e below (s₁.setTop (mkF m 0 #[.val (.int p1)] [])) _
        refine XS.iloadN X0.here hx rfl (hb hby d1_0) rfl ?_
        show Steps p.tables e below (s₁.setTop (mkF m 1 #[.val (.int p1)] [(.int p1)])) _
        refine XS.bipush X0.here hx rfl (hb hby d1_1) ?_
        show Steps p.tables e below (s₁.setTop (mkF m 3 #[.val (.int p1)] [(.int (97 : Int32)), (.int p1)])) _
        refine XS.icmpYes X0.here hx rfl (pc0 := 3) (pc' := 12) rfl (hb hby d1_3) rfl (tlt (hl : (p1 < (97 : Int32)))).1 (by decide) (by decide) ?_
        exact k
      · have hh : (122 : Int32) < p1 := Classical.byContradiction fun q => hg0 ⟨hl, q⟩
        refine pre0 t ?_
        show Steps p.tables e below (s₁.setTop (mkF m 0 #[.val (.int p1)] [])) _
        refine XS.iloadN X0.here hx rfl (hb hby d1_0) rfl ?_
        show Steps p.tables e below (s₁.setTop (mkF m 1 #[.val (.int p1)] [(.int p1)])) _
        refine XS.bipush X0.here hx rfl (hb hby d1_1) ?_
        show Steps p.tables e below (s₁.setTop (mkF m 3 #[.val (.int p1)] [(.int (97 : Int32)), (.int p1)])) _
        refine XS.icmpNo X0.here hx rfl (hb hby d1_3) rfl (flt (hl : ¬ (p1 < (97 : Int32)))).1 ?_
        show Steps p.tables e below (s₁.setTop (mkF m 6 #[.val (.int p1)] [])) _
        refine XS.iloadN X0.here hx rfl (hb hby d1_6) rfl ?_
        show Steps p.tables e below (s₁.setTop (mkF m 7 #[.val (.int p1)] [(.int p1)])) _
        refine XS.bipush X0.here hx rfl (hb hby d1_7) ?_
        show Steps p.tables e below (s₁.setTop (mkF m 9 #[.val (.int p1)] [(.int (122 : Int32)), (.int p1)])) _
        refine XS.icmpNo X0.here hx rfl (hb hby d1_9) rfl (tlt (hh : ((122 : Int32) < p1))).2.2.2 ?_
        exact k
    by_cases hg12 : ¬ p1 < (65 : Int32) ∧ ¬ (90 : Int32) < p1
    · obtain ⟨fs, hr, hrun, hended, hW, hsame⟩ := X0.leave (v := some (.int (1 : Int32))) (fun h => by rw [Bd.returns] at h; cases h)
      refine ⟨_, _, pre1 _ ?_, hrun, hended, _, _, rfl, ?_, ⟨_, rfl⟩, hW, hsame.mono (by decide) (by decide)⟩
      · show Steps p.tables e below (s₁.setTop (mkF m 12 #[.val (.int p1)] [])) _
        refine XS.iloadN X0.here hx rfl (hb hby d1_12) rfl ?_
        show Steps p.tables e below (s₁.setTop (mkF m 13 #[.val (.int p1)] [(.int p1)])) _
        refine XS.bipush X0.here hx rfl (hb hby d1_13) ?_
        show Steps p.tables e below (s₁.setTop (mkF m 15 #[.val (.int p1)] [(.int (65 : Int32)), (.int p1)])) _
        refine XS.icmpNo X0.here hx rfl (hb hby d1_15) rfl (flt (hg12.1 : ¬ (p1 < (65 : Int32)))).1 ?_
        show Steps p.tables e below (s₁.setTop (mkF m 18 #[.val (.int p1)] [])) _
        refine XS.iloadN X0.here hx rfl (hb hby d1_18) rfl ?_
        show Steps p.tables e below (s₁.setTop (mkF m 19 #[.val (.int p1)] [(.int p1)])) _
        refine XS.bipush X0.here hx rfl (hb hby d1_19) ?_
        show Steps p.tables e below (s₁.setTop (mkF m 21 #[.val (.int p1)] [(.int (90 : Int32)), (.int p1)])) _
        refine XS.icmpYes X0.here hx rfl (pc0 := 21) (pc' := 191) rfl (hb hby d1_21) rfl (flt (hg12.2 : ¬ ((90 : Int32) < p1))).2.2.2 (by decide) (by decide) ?_
        show Steps p.tables e below (s₁.setTop (mkF m 191 #[.val (.int p1)] [])) _
        refine XS.iconst X0.here hx rfl (hb hby d1_191) ?_
        show Steps p.tables e below (s₁.setTop (mkF m 192 #[.val (.int p1)] [(.int (1 : Int32))])) _
        refine XS.goto X0.here hx rfl (pc0 := 192) (pc' := 196) rfl (hb hby d1_192) (by decide) (by decide) ?_
        show Steps p.tables e below (s₁.setTop (mkF m 196 #[.val (.int p1)] [(.int (1 : Int32))])) _
        exact retN X0 hx (t := .boolean) Bd.returns (by simp) (hb hby d1_196) hr
      · show Q_rm1 Z p1 h0 n0 _ s₁.heap _
        rw [e0]
        exact ⟨by rw [own_ns, if_neg hg0, if_pos hg12], N0, rfl⟩
    · have pre2 : ∀ t, Steps p.tables e below (s₁.setTop (mkF m 24 #[.val (.int p1)] [])) t → Steps p.tables e below (s₁.setTop (entryFrame m #[(.int p1)] 1)) t := by
        intro t k
        by_cases hl : p1 < (65 : Int32)
        · refine pre1 t ?_
          show Steps p.tables e below (s₁.setTop (mkF m 12 #[.val (.int p1)] [])) _
          refine XS.iloadN X0.here hx rfl (hb hby d1_12) rfl ?_
          show Steps p.tables e below (s₁.setTop (mkF m 13 #[.val (.int p1)] [(.int p1)])) _
          refine XS.bipush X0.here hx rfl (hb hby d1_13) ?_
          show Steps p.tables e below (s₁.setTop (mkF m 15 #[.val (.int p1)] [(.int (65 : Int32)), (.int p1)])) _
          refine XS.icmpYes X0.here hx rfl (pc0 := 15) (pc' := 24) rfl (hb hby d1_15) rfl (tlt (hl : (p1 < (65 : Int32)))).1 (by decide) (by decide) ?_
          exact k
        · have hh : (90 : Int32) < p1 := Classical.byContradiction fun q => hg12 ⟨hl, q⟩
          refine pre1 t ?_
          show Steps p.tables e below (s₁.setTop (mkF m 12 #[.val (.int p1)] [])) _
          refine XS.iloadN X0.here hx rfl (hb hby d1_12) rfl ?_
          show Steps p.tables e below (s₁.setTop (mkF m 13 #[.val (.int p1)] [(.int p1)])) _
          refine XS.bipush X0.here hx rfl (hb hby d1_13) ?_
          show Steps p.tables e below (s₁.setTop (mkF m 15 #[.val (.int p1)] [(.int (65 : Int32)), (.int p1)])) _
          refine XS.icmpNo X0.here hx rfl (hb hby d1_15) rfl (flt (hl : ¬ (p1 < (65 : Int32)))).1 ?_
          show Steps p.tables e below (s₁.setTop (mkF m 18 #[.val (.int p1)] [])) _
          refine XS.iloadN X0.here hx rfl (hb hby d1_18) rfl ?_
          show Steps p.tables e below (s₁.setTop (mkF m 19 #[.val (.int p1)] [(.int p1)])) _
          refine XS.bipush X0.here hx rfl (hb hby d1_19) ?_
          show Steps p.tables e below (s₁.setTop (mkF m 21 #[.val (.int p1)] [(.int (90 : Int32)), (.int p1)])) _
          refine XS.icmpNo X0.here hx rfl (hb hby d1_21) rfl (tlt (hh : ((90 : Int32) < p1))).2.2.2 ?_
          exact k
      by_cases hg24 : p1 = (95 : Int32)
      · obtain ⟨fs, hr, hrun, hended, hW, hsame⟩ := X0.leave (v := some (.int (1 : Int32))) (fun h => by rw [Bd.returns] at h; cases h)
        refine ⟨_, _, pre2 _ ?_, hrun, hended, _, _, rfl, ?_, ⟨_, rfl⟩, hW, hsame.mono (by decide) (by decide)⟩
        · show Steps p.tables e below (s₁.setTop (mkF m 24 #[.val (.int p1)] [])) _
          refine XS.iloadN X0.here hx rfl (hb hby d1_24) rfl ?_
          show Steps p.tables e below (s₁.setTop (mkF m 25 #[.val (.int p1)] [(.int p1)])) _
          refine XS.bipush X0.here hx rfl (hb hby d1_25) ?_
          show Steps p.tables e below (s₁.setTop (mkF m 27 #[.val (.int p1)] [(.int (95 : Int32)), (.int p1)])) _
          refine XS.icmpYes X0.here hx rfl (pc0 := 27) (pc' := 191) rfl (hb hby d1_27) rfl (teq (hg24 : (p1 = (95 : Int32)))).1 (by decide) (by decide) ?_
          show Steps p.tables e below (s₁.setTop (mkF m 191 #[.val (.int p1)] [])) _
          refine XS.iconst X0.here hx rfl (hb hby d1_191) ?_
          show Steps p.tables e below (s₁.setTop (mkF m 192 #[.val (.int p1)] [(.int (1 : Int32))])) _
          refine XS.goto X0.here hx rfl (pc0 := 192) (pc' := 196) rfl (hb hby d1_192) (by decide) (by decide) ?_
          show Steps p.tables e below (s₁.setTop (mkF m 196 #[.val (.int p1)] [(.int (1 : Int32))])) _
          exact retN X0 hx (t := .boolean) Bd.returns (by simp) (hb hby d1_196) hr
        · show Q_rm1 Z p1 h0 n0 _ s₁.heap _
          rw [e0]
          exact ⟨by rw [own_ns, if_neg hg0, if_neg hg12, if_pos hg24], N0, rfl⟩
      · have pre3 : ∀ t, Steps p.tables e below (s₁.setTop (mkF m 30 #[.val (.int p1)] [])) t → Steps p.tables e below (s₁.setTop (entryFrame m #[(.int p1)] 1)) t := by
          intro t k
          refine pre2 t ?_
          show Steps p.tables e below (s₁.setTop (mkF m 24 #[.val (.int p1)] [])) _
          refine XS.iloadN X0.here hx rfl (hb hby d1_24) rfl ?_
          show Steps p.tables e below (s₁.setTop (mkF m 25 #[.val (.int p1)] [(.int p1)])) _
          refine XS.bipush X0.here hx rfl (hb hby d1_25) ?_
          show Steps p.tables e below (s₁.setTop (mkF m 27 #[.val (.int p1)] [(.int (95 : Int32)), (.int p1)])) _
          refine XS.icmpNo X0.here hx rfl (hb hby d1_27) rfl (feq (hg24 : ¬ (p1 = (95 : Int32)))).1 ?_
          exact k
        by_cases hg30 : ¬ p1 < (192 : Int32) ∧ ¬ (214 : Int32) < p1
        · obtain ⟨fs, hr, hrun, hended, hW, hsame⟩ := X0.leave (v := some (.int (1 : Int32))) (fun h => by rw [Bd.returns] at h; cases h)
          refine ⟨_, _, pre3 _ ?_, hrun, hended, _, _, rfl, ?_, ⟨_, rfl⟩, hW, hsame.mono (by decide) (by decide)⟩
          · show Steps p.tables e below (s₁.setTop (mkF m 30 #[.val (.int p1)] [])) _
            refine XS.iloadN X0.here hx rfl (hb hby d1_30) rfl ?_
            show Steps p.tables e below (s₁.setTop (mkF m 31 #[.val (.int p1)] [(.int p1)])) _
            refine XS.sipush X0.here hx rfl (hb hby d1_31) ?_
            show Steps p.tables e below (s₁.setTop (mkF m 34 #[.val (.int p1)] [(.int (192 : Int32)), (.int p1)])) _
            refine XS.icmpNo X0.here hx rfl (hb hby d1_34) rfl (flt (hg30.1 : ¬ (p1 < (192 : Int32)))).1 ?_
            show Steps p.tables e below (s₁.setTop (mkF m 37 #[.val (.int p1)] [])) _
            refine XS.iloadN X0.here hx rfl (hb hby d1_37) rfl ?_
            show Steps p.tables e below (s₁.setTop (mkF m 38 #[.val (.int p1)] [(.int p1)])) _
            refine XS.sipush X0.here hx rfl (hb hby d1_38) ?_
            show Steps p.tables e below (s₁.setTop (mkF m 41 #[.val (.int p1)] [(.int (214 : Int32)), (.int p1)])) _
            refine XS.icmpYes X0.here hx rfl (pc0 := 41) (pc' := 191) rfl (hb hby d1_41) rfl (flt (hg30.2 : ¬ ((214 : Int32) < p1))).2.2.2 (by decide) (by decide) ?_
            show Steps p.tables e below (s₁.setTop (mkF m 191 #[.val (.int p1)] [])) _
            refine XS.iconst X0.here hx rfl (hb hby d1_191) ?_
            show Steps p.tables e below (s₁.setTop (mkF m 192 #[.val (.int p1)] [(.int (1 : Int32))])) _
            refine XS.goto X0.here hx rfl (pc0 := 192) (pc' := 196) rfl (hb hby d1_192) (by decide) (by decide) ?_
            show Steps p.tables e below (s₁.setTop (mkF m 196 #[.val (.int p1)] [(.int (1 : Int32))])) _
            exact retN X0 hx (t := .boolean) Bd.returns (by simp) (hb hby d1_196) hr
          · show Q_rm1 Z p1 h0 n0 _ s₁.heap _
            rw [e0]
            exact ⟨by rw [own_ns, if_neg hg0, if_neg hg12, if_neg hg24, if_pos hg30], N0, rfl⟩
        · have pre4 : ∀ t, Steps p.tables e below (s₁.setTop (mkF m 44 #[.val (.int p1)] [])) t → Steps p.tables e below (s₁.setTop (entryFrame m #[(.int p1)] 1)) t := by
            intro t k
            by_cases hl : p1 < (192 : Int32)
            · refine pre3 t ?_
              show Steps p.tables e below (s₁.setTop (mkF m 30 #[.val (.int p1)] [])) _
              refine XS.iloadN X0.here hx rfl (hb hby d1_30) rfl ?_
              show Steps p.tables e below (s₁.setTop (mkF m 31 #[.val (.int p1)] [(.int p1)])) _
              refine XS.sipush X0.here hx rfl (hb hby d1_31) ?_
              show Steps p.tables e below (s₁.setTop (mkF m 34 #[.val (.int p1)] [(.int (192 : Int32)), (.int p1)])) _
              refine XS.icmpYes X0.here hx rfl (pc0 := 34) (pc' := 44) rfl (hb hby d1_34) rfl (tlt (hl : (p1 < (192 : Int32)))).1 (by decide) (by decide) ?_
              exact k
            · have hh : (214 : Int32) < p1 := Classical.byContradiction fun q => hg30 ⟨hl, q⟩
              refine pre3 t ?_
              show Steps p.tables e below (s₁.setTop (mkF m 30 #[.val (.int p1)] [])) _
              refine XS.iloadN X0.here hx rfl (hb hby d1_30) rfl ?_
              show Steps p.tables e below (s₁.setTop (mkF m 31 #[.val (.int p1)] [(.int p1)])) _
              refine XS.sipush X0.here hx rfl (hb hby d1_31) ?_
              show Steps p.tables e below (s₁.setTop (mkF m 34 #[.val (.int p1)] [(.int (192 : Int32)), (.int p1)])) _
              refine XS.icmpNo X0.here hx rfl (hb hby d1_34) rfl (flt (hl : ¬ (p1 < (192 : Int32)))).1 ?_
              show Steps p.tables e below (s₁.setTop (mkF m 37 #[.val (.int p1)] [])) _
              refine XS.iloadN X0.here hx rfl (hb hby d1_37) rfl ?_
              show Steps p.tables e below (s₁.setTop (mkF m 38 #[.val (.int p1)] [(.int p1)])) _
              refine XS.sipush X0.here hx rfl (hb hby d1_38) ?_
              show Steps p.tables e below (s₁.setTop (mkF m 41 #[.val (.int p1)] [(.int (214 : Int32)), (.int p1)])) _
              refine XS.icmpNo X0.here hx rfl (hb hby d1_41) rfl (tlt (hh : ((214 : Int32) < p1))).2.2.2 ?_
              exact k
          by_cases hg44 : ¬ p1 < (216 : Int32) ∧ ¬ (246 : Int32) < p1
          · obtain ⟨fs, hr, hrun, hended, hW, hsame⟩ := X0.leave (v := some (.int (1 : Int32))) (fun h => by rw [Bd.returns] at h; cases h)
            refine ⟨_, _, pre4 _ ?_, hrun, hended, _, _, rfl, ?_, ⟨_, rfl⟩, hW, hsame.mono (by decide) (by decide)⟩
            · show Steps p.tables e below (s₁.setTop (mkF m 44 #[.val (.int p1)] [])) _
              refine XS.iloadN X0.here hx rfl (hb hby d1_44) rfl ?_
              show Steps p.tables e below (s₁.setTop (mkF m 45 #[.val (.int p1)] [(.int p1)])) _
              refine XS.sipush X0.here hx rfl (hb hby d1_45) ?_
              show Steps p.tables e below (s₁.setTop (mkF m 48 #[.val (.int p1)] [(.int (216 : Int32)), (.int p1)])) _
              refine XS.icmpNo X0.here hx rfl (hb hby d1_48) rfl (flt (hg44.1 : ¬ (p1 < (216 : Int32)))).1 ?_
              show Steps p.tables e below (s₁.setTop (mkF m 51 #[.val (.int p1)] [])) _
              refine XS.iloadN X0.here hx rfl (hb hby d1_51) rfl ?_
              show Steps p.tables e below (s₁.setTop (mkF m 52 #[.val (.int p1)] [(.int p1)])) _
              refine XS.sipush X0.here hx rfl (hb hby d1_52) ?_
              show Steps p.tables e below (s₁.setTop (mkF m 55 #[.val (.int p1)] [(.int (246 : Int32)), (.int p1)])) _
              refine XS.icmpYes X0.here hx rfl (pc0 := 55) (pc' := 191) rfl (hb hby d1_55) rfl (flt (hg44.2 : ¬ ((246 : Int32) < p1))).2.2.2 (by decide) (by decide) ?_
              show Steps p.tables e below (s₁.setTop (mkF m 191 #[.val (.int p1)] [])) _
              refine XS.iconst X0.here hx rfl (hb hby d1_191) ?_
              show Steps p.tables e below (s₁.setTop (mkF m 192 #[.val (.int p1)] [(.int (1 : Int32))])) _
              refine XS.goto X0.here hx rfl (pc0 := 192) (pc' := 196) rfl (hb hby d1_192) (by decide) (by decide) ?_
              show Steps p.tables e below (s₁.setTop (mkF m 196 #[.val (.int p1)] [(.int (1 : Int32))])) _
              exact retN X0 hx (t := .boolean) Bd.returns (by simp) (hb hby d1_196) hr
            · show Q_rm1 Z p1 h0 n0 _ s₁.heap _
              rw [e0]
              exact ⟨by rw [own_ns, if_neg hg0, if_neg hg12, if_neg hg24, if_neg hg30, if_pos hg44], N0, rfl⟩
          · have pre5 : ∀ t, Steps p.tables e below (s₁.setTop (mkF m 58 #[.val (.int p1)] [])) t → Steps p.tables e below (s₁.setTop (entryFrame m #[(.int p1)] 1)) t := by
              intro t k
              by_cases hl : p1 < (216 : Int32)
              · refine pre4 t ?_
                show Steps p.tables e below (s₁.setTop (mkF m 44 #[.val (.int p1)] [])) _
                refine XS.iloadN X0.here hx rfl (hb hby d1_44) rfl ?_
                show Steps p.tables e below (s₁.setTop (mkF m 45 #[.val (.int p1)] [(.int p1)])) _
                refine XS.sipush X0.here hx rfl (hb hby d1_45) ?_
                show Steps p.tables e below (s₁.setTop (mkF m 48 #[.val (.int p1)] [(.int (216 : Int32)), (.int p1)])) _
                refine XS.icmpYes X0.here hx rfl (pc0 := 48) (pc' := 58) rfl (hb hby d1_48) rfl (tlt (hl : (p1 < (216 : Int32)))).1 (by decide) (by decide) ?_
                exact k
              · have hh : (246 : Int32) < p1 := Classical.byContradiction fun q => hg44 ⟨hl, q⟩
                refine pre4 t ?_
                show Steps p.tables e below (s₁.setTop (mkF m 44 #[.val (.int p1)] [])) _
                refine XS.iloadN X0.here hx rfl (hb hby d1_44) rfl ?_
                show Steps p.tables e below (s₁.setTop (mkF m 45 #[.val (.int p1)] [(.int p1)])) _
                refine XS.sipush X0.here hx rfl (hb hby d1_45) ?_
                show Steps p.tables e below (s₁.setTop (mkF m 48 #[.val (.int p1)] [(.int (216 : Int32)), (.int p1)])) _
                refine XS.icmpNo X0.here hx rfl (hb hby d1_48) rfl (flt (hl : ¬ (p1 < (216 : Int32)))).1 ?_
                show Steps p.tables e below (s₁.setTop (mkF m 51 #[.val (.int p1)] [])) _
                refine XS.iloadN X0.here hx rfl (hb hby d1_51) rfl ?_
                show Steps p.tables e below (s₁.setTop (mkF m 52 #[.val (.int p1)] [(.int p1)])) _
                refine XS.sipush X0.here hx rfl (hb hby d1_52) ?_
                show Steps p.tables e below (s₁.setTop (mkF m 55 #[.val (.int p1)] [(.int (246 : Int32)), (.int p1)])) _
                refine XS.icmpNo X0.here hx rfl (hb hby d1_55) rfl (tlt (hh : ((246 : Int32) < p1))).2.2.2 ?_
                exact k
            by_cases hg58 : ¬ p1 < (248 : Int32) ∧ ¬ (767 : Int32) < p1
            · obtain ⟨fs, hr, hrun, hended, hW, hsame⟩ := X0.leave (v := some (.int (1 : Int32))) (fun h => by rw [Bd.returns] at h; cases h)
              refine ⟨_, _, pre5 _ ?_, hrun, hended, _, _, rfl, ?_, ⟨_, rfl⟩, hW, hsame.mono (by decide) (by decide)⟩
              · show Steps p.tables e below (s₁.setTop (mkF m 58 #[.val (.int p1)] [])) _
                refine XS.iloadN X0.here hx rfl (hb hby d1_58) rfl ?_
                show Steps p.tables e below (s₁.setTop (mkF m 59 #[.val (.int p1)] [(.int p1)])) _
                refine XS.sipush X0.here hx rfl (hb hby d1_59) ?_
                show Steps p.tables e below (s₁.setTop (mkF m 62 #[.val (.int p1)] [(.int (248 : Int32)), (.int p1)])) _
                refine XS.icmpNo X0.here hx rfl (hb hby d1_62) rfl (flt (hg58.1 : ¬ (p1 < (248 : Int32)))).1 ?_
                show Steps p.tables e below (s₁.setTop (mkF m 65 #[.val (.int p1)] [])) _
                refine XS.iloadN X0.here hx rfl (hb hby d1_65) rfl ?_
                show Steps p.tables e below (s₁.setTop (mkF m 66 #[.val (.int p1)] [(.int p1)])) _
                refine XS.sipush X0.here hx rfl (hb hby d1_66) ?_
                show Steps p.tables e below (s₁.setTop (mkF m 69 #[.val (.int p1)] [(.int (767 : Int32)), (.int p1)])) _
                refine XS.icmpYes X0.here hx rfl (pc0 := 69) (pc' := 191) rfl (hb hby d1_69) rfl (flt (hg58.2 : ¬ ((767 : Int32) < p1))).2.2.2 (by decide) (by decide) ?_
                show Steps p.tables e below (s₁.setTop (mkF m 191 #[.val (.int p1)] [])) _
                refine XS.iconst X0.here hx rfl (hb hby d1_191) ?_
                show Steps p.tables e below (s₁.setTop (mkF m 192 #[.val (.int p1)] [(.int (1 : Int32))])) _
                refine XS.goto X0.here hx rfl (pc0 := 192) (pc' := 196) rfl (hb hby d1_192) (by decide) (by decide) ?_
                show Steps p.tables e below (s₁.setTop (mkF m 196 #[.val (.int p1)] [(.int (1 : Int32))])) _
                exact retN X0 hx (t := .boolean) Bd.returns (by simp) (hb hby d1_196) hr
              · show Q_rm1 Z p1 h0 n0 _ s₁.heap _
                rw [e0]
                exact ⟨by rw [own_ns, if_neg hg0, if_neg hg12, if_neg hg24, if_neg hg30, if_neg hg44, if_pos hg58], N0, rfl⟩
            · have pre6 : ∀ t, Steps p.tables e below (s₁.setTop (mkF m 72 #[.val (.int p1)] [])) t → Steps p.tables e below (s₁.setTop (entryFrame m #[(.int p1)] 1)) t := by
                intro t k
                by_cases hl : p1 < (248 : Int32)
                · refine pre5 t ?_
                  show Steps p.tables e below (s₁.setTop (mkF m 58 #[.val (.int p1)] [])) _
                  refine XS.iloadN X0.here hx rfl (hb hby d1_58) rfl ?_
                  show Steps p.tables e below (s₁.setTop (mkF m 59 #[.val (.int p1)] [(.int p1)])) _
                  refine XS.sipush X0.here hx rfl (hb hby d1_59) ?_
                  show Steps p.tables e below (s₁.setTop (mkF m 62 #[.val (.int p1)] [(.int (248 : Int32)), (.int p1)])) _
                  refine XS.icmpYes X0.here hx rfl (pc0 := 62) (pc' := 72) rfl (hb hby d1_62) rfl (tlt (hl : (p1 < (248 : Int32)))).1 (by decide) (by decide) ?_
                  exact k
                · have hh : (767 : Int32) < p1 := Classical.byContradiction fun q => hg58 ⟨hl, q⟩
                  refine pre5 t ?_
                  show Steps p.tables e below (s₁.setTop (mkF m 58 #[.val (.int p1)] [])) _
                  refine XS.iloadN X0.here hx rfl (hb hby d1_58) rfl ?_
                  show Steps p.tables e below (s₁.setTop (mkF m 59 #[.val (.int p1)] [(.int p1)])) _
                  refine XS.sipush X0.here hx rfl (hb hby d1_59) ?_
                  show Steps p.tables e below (s₁.setTop (mkF m 62 #[.val (.int p1)] [(.int (248 : Int32)), (.int p1)])) _
                  refine XS.icmpNo X0.here hx rfl (hb hby d1_62) rfl (flt (hl : ¬ (p1 < (248 : Int32)))).1 ?_
                  show Steps p.tables e below (s₁.setTop (mkF m 65 #[.val (.int p1)] [])) _
                  refine XS.iloadN X0.here hx rfl (hb hby d1_65) rfl ?_
                  show Steps p.tables e below (s₁.setTop (mkF m 66 #[.val (.int p1)] [(.int p1)])) _
                  refine XS.sipush X0.here hx rfl (hb hby d1_66) ?_
                  show Steps p.tables e below (s₁.setTop (mkF m 69 #[.val (.int p1)] [(.int (767 : Int32)), (.int p1)])) _
                  refine XS.icmpNo X0.here hx rfl (hb hby d1_69) rfl (tlt (hh : ((767 : Int32) < p1))).2.2.2 ?_
                  exact k
              by_cases hg72 : ¬ p1 < (880 : Int32) ∧ ¬ (893 : Int32) < p1
              · obtain ⟨fs, hr, hrun, hended, hW, hsame⟩ := X0.leave (v := some (.int (1 : Int32))) (fun h => by rw [Bd.returns] at h; cases h)
                refine ⟨_, _, pre6 _ ?_, hrun, hended, _, _, rfl, ?_, ⟨_, rfl⟩, hW, hsame.mono (by decide) (by decide)⟩
                · show Steps p.tables e below (s₁.setTop (mkF m 72 #[.val (.int p1)] [])) _
                  refine XS.iloadN X0.here hx rfl (hb hby d1_72) rfl ?_
                  show Steps p.tables e below (s₁.setTop (mkF m 73 #[.val (.int p1)] [(.int p1)])) _
                  refine XS.sipush X0.here hx rfl (hb hby d1_73) ?_
                  show Steps p.tables e below (s₁.setTop (mkF m 76 #[.val (.int p1)] [(.int (880 : Int32)), (.int p1)])) _
                  refine XS.icmpNo X0.here hx rfl (hb hby d1_76) rfl (flt (hg72.1 : ¬ (p1 < (880 : Int32)))).1 ?_
                  show Steps p.tables e below (s₁.setTop (mkF m 79 #[.val (.int p1)] [])) _
                  refine XS.iloadN X0.here hx rfl (hb hby d1_79) rfl ?_
                  show Steps p.tables e below (s₁.setTop (mkF m 80 #[.val (.int p1)] [(.int p1)])) _
                  refine XS.sipush X0.here hx rfl (hb hby d1_80) ?_
                  show Steps p.tables e below (s₁.setTop (mkF m 83 #[.val (.int p1)] [(.int (893 : Int32)), (.int p1)])) _
                  refine XS.icmpYes X0.here hx rfl (pc0 := 83) (pc' := 191) rfl (hb hby d1_83) rfl (flt (hg72.2 : ¬ ((893 : Int32) < p1))).2.2.2 (by decide) (by decide) ?_
                  show Steps p.tables e below (s₁.setTop (mkF m 191 #[.val (.int p1)] [])) _
                  refine XS.iconst X0.here hx rfl (hb hby d1_191) ?_
                  show Steps p.tables e below (s₁.setTop (mkF m 192 #[.val (.int p1)] [(.int (1 : Int32))])) _
                  refine XS.goto X0.here hx rfl (pc0 := 192) (pc' := 196) rfl (hb hby d1_192) (by decide) (by decide) ?_
                  show Steps p.tables e below (s₁.setTop (mkF m 196 #[.val (.int p1)] [(.int (1 : Int32))])) _
                  exact retN X0 hx (t := .boolean) Bd.returns (by simp) (hb hby d1_196) hr
                · show Q_rm1 Z p1 h0 n0 _ s₁.heap _
                  rw [e0]
                  exact ⟨by rw [own_ns, if_neg hg0, if_neg hg12, if_neg hg24, if_neg hg30, if_neg hg44, if_neg hg58, if_pos hg72], N0, rfl⟩
              · have pre7 : ∀ t, Steps p.tables e below (s₁.setTop (mkF m 86 #[.val (.int p1)] [])) t → Steps p.tables e below (s₁.setTop (entryFrame m #[(.int p1)] 1)) t := by
                  intro t k
                  by_cases hl : p1 < (880 : Int32)
                  · refine pre6 t ?_
                    show Steps p.tables e below (s₁.setTop (mkF m 72 #[.val (.int p1)] [])) _
                    refine XS.iloadN X0.here hx rfl (hb hby d1_72) rfl ?_
                    show Steps p.tables e below (s₁.setTop (mkF m 73 #[.val (.int p1)] [(.int p1)])) _
                    refine XS.sipush X0.here hx rfl (hb hby d1_73) ?_
                    show Steps p.tables e below (s₁.setTop (mkF m 76 #[.val (.int p1)] [(.int (880 : Int32)), (.int p1)])) _
                    refine XS.icmpYes X0.here hx rfl (pc0 := 76) (pc' := 86) rfl (hb hby d1_76) rfl (tlt (hl : (p1 < (880 : Int32)))).1 (by decide) (by decide) ?_
                    exact k
                  · have hh : (893 : Int32) < p1 := Classical.byContradiction fun q => hg72 ⟨hl, q⟩
                    refine pre6 t ?_
                    show Steps p.tables e below (s₁.setTop (mkF m 72 #[.val (.int p1)] [])) _
                    refine XS.iloadN X0.here hx rfl (hb hby d1_72) rfl ?_
                    show Steps p.tables e below (s₁.setTop (mkF m 73 #[.val (.int p1)] [(.int p1)])) _
                    refine XS.sipush X0.here hx rfl (hb hby d1_73) ?_
                    show Steps p.tables e below (s₁.setTop (mkF m 76 #[.val (.int p1)] [(.int (880 : Int32)), (.int p1)])) _
                    refine XS.icmpNo X0.here hx rfl (hb hby d1_76) rfl (flt (hl : ¬ (p1 < (880 : Int32)))).1 ?_
                    show Steps p.tables e below (s₁.setTop (mkF m 79 #[.val (.int p1)] [])) _
                    refine XS.iloadN X0.here hx rfl (hb hby d1_79) rfl ?_
                    show Steps p.tables e below (s₁.setTop (mkF m 80 #[.val (.int p1)] [(.int p1)])) _
                    refine XS.sipush X0.here hx rfl (hb hby d1_80) ?_
                    show Steps p.tables e below (s₁.setTop (mkF m 83 #[.val (.int p1)] [(.int (893 : Int32)), (.int p1)])) _
                    refine XS.icmpNo X0.here hx rfl (hb hby d1_83) rfl (tlt (hh : ((893 : Int32) < p1))).2.2.2 ?_
                    exact k
                by_cases hg86 : ¬ p1 < (895 : Int32) ∧ ¬ (8191 : Int32) < p1
                · obtain ⟨fs, hr, hrun, hended, hW, hsame⟩ := X0.leave (v := some (.int (1 : Int32))) (fun h => by rw [Bd.returns] at h; cases h)
                  refine ⟨_, _, pre7 _ ?_, hrun, hended, _, _, rfl, ?_, ⟨_, rfl⟩, hW, hsame.mono (by decide) (by decide)⟩
                  · show Steps p.tables e below (s₁.setTop (mkF m 86 #[.val (.int p1)] [])) _
                    refine XS.iloadN X0.here hx rfl (hb hby d1_86) rfl ?_
                    show Steps p.tables e below (s₁.setTop (mkF m 87 #[.val (.int p1)] [(.int p1)])) _
                    refine XS.sipush X0.here hx rfl (hb hby d1_87) ?_
                    show Steps p.tables e below (s₁.setTop (mkF m 90 #[.val (.int p1)] [(.int (895 : Int32)), (.int p1)])) _
                    refine XS.icmpNo X0.here hx rfl (hb hby d1_90) rfl (flt (hg86.1 : ¬ (p1 < (895 : Int32)))).1 ?_
                    show Steps p.tables e below (s₁.setTop (mkF m 93 #[.val (.int p1)] [])) _
                    refine XS.iloadN X0.here hx rfl (hb hby d1_93) rfl ?_
                    show Steps p.tables e below (s₁.setTop (mkF m 94 #[.val (.int p1)] [(.int p1)])) _
                    refine XS.sipush X0.here hx rfl (hb hby d1_94) ?_
                    show Steps p.tables e below (s₁.setTop (mkF m 97 #[.val (.int p1)] [(.int (8191 : Int32)), (.int p1)])) _
                    refine XS.icmpYes X0.here hx rfl (pc0 := 97) (pc' := 191) rfl (hb hby d1_97) rfl (flt (hg86.2 : ¬ ((8191 : Int32) < p1))).2.2.2 (by decide) (by decide) ?_
                    show Steps p.tables e below (s₁.setTop (mkF m 191 #[.val (.int p1)] [])) _
                    refine XS.iconst X0.here hx rfl (hb hby d1_191) ?_
                    show Steps p.tables e below (s₁.setTop (mkF m 192 #[.val (.int p1)] [(.int (1 : Int32))])) _
                    refine XS.goto X0.here hx rfl (pc0 := 192) (pc' := 196) rfl (hb hby d1_192) (by decide) (by decide) ?_
                    show Steps p.tables e below (s₁.setTop (mkF m 196 #[.val (.int p1)] [(.int (1 : Int32))])) _
                    exact retN X0 hx (t := .boolean) Bd.returns (by simp) (hb hby d1_196) hr
                  · show Q_rm1 Z p1 h0 n0 _ s₁.heap _
                    rw [e0]
                    exact ⟨by rw [own_ns, if_neg hg0, if_neg hg12, if_neg hg24, if_neg hg30, if_neg hg44, if_neg hg58, if_neg hg72, if_pos hg86], N0, rfl⟩
                · have pre8 : ∀ t, Steps p.tables e below (s₁.setTop (mkF m 100 #[.val (.int p1)] [])) t → Steps p.tables e below (s₁.setTop (entryFrame m #[(.int p1)] 1)) t := by
                    intro t k
                    by_cases hl : p1 < (895 : Int32)
                    · refine pre7 t ?_
                      show Steps p.tables e below (s₁.setTop (mkF m 86 #[.val (.int p1)] [])) _
                      refine XS.iloadN X0.here hx rfl (hb hby d1_86) rfl ?_
                      show Steps p.tables e below (s₁.setTop (mkF m 87 #[.val (.int p1)] [(.int p1)])) _
                      refine XS.sipush X0.here hx rfl (hb hby d1_87) ?_
                      show Steps p.tables e below (s₁.setTop (mkF m 90 #[.val (.int p1)] [(.int (895 : Int32)), (.int p1)])) _
                      refine XS.icmpYes X0.here hx rfl (pc0 := 90) (pc' := 100) rfl (hb hby d1_90) rfl (tlt (hl : (p1 < (895 : Int32)))).1 (by decide) (by decide) ?_
                      exact k
                    · have hh : (8191 : Int32) < p1 := Classical.byContradiction fun q => hg86 ⟨hl, q⟩
                      refine pre7 t ?_
                      show Steps p.tables e below (s₁.setTop (mkF m 86 #[.val (.int p1)] [])) _
                      refine XS.iloadN X0.here hx rfl (hb hby d1_86) rfl ?_
                      show Steps p.tables e below (s₁.setTop (mkF m 87 #[.val (.int p1)] [(.int p1)])) _
                      refine XS.sipush X0.here hx rfl (hb hby d1_87) ?_
                      show Steps p.tables e below (s₁.setTop (mkF m 90 #[.val (.int p1)] [(.int (895 : Int32)), (.int p1)])) _
                      refine XS.icmpNo X0.here hx rfl (hb hby d1_90) rfl (flt (hl : ¬ (p1 < (895 : Int32)))).1 ?_
                      show Steps p.tables e below (s₁.setTop (mkF m 93 #[.val (.int p1)] [])) _
                      refine XS.iloadN X0.here hx rfl (hb hby d1_93) rfl ?_
                      show Steps p.tables e below (s₁.setTop (mkF m 94 #[.val (.int p1)] [(.int p1)])) _
                      refine XS.sipush X0.here hx rfl (hb hby d1_94) ?_
                      show Steps p.tables e below (s₁.setTop (mkF m 97 #[.val (.int p1)] [(.int (8191 : Int32)), (.int p1)])) _
                      refine XS.icmpNo X0.here hx rfl (hb hby d1_97) rfl (tlt (hh : ((8191 : Int32) < p1))).2.2.2 ?_
                      exact k
                  by_cases hg100 : p1 = (8204 : Int32)
                  · obtain ⟨fs, hr, hrun, hended, hW, hsame⟩ := X0.leave (v := some (.int (1 : Int32))) (fun h => by rw [Bd.returns] at h; cases h)
                    refine ⟨_, _, pre8 _ ?_, hrun, hended, _, _, rfl, ?_, ⟨_, rfl⟩, hW, hsame.mono (by decide) (by decide)⟩
                    · show Steps p.tables e below (s₁.setTop (mkF m 100 #[.val (.int p1)] [])) _
                      refine XS.iloadN X0.here hx rfl (hb hby d1_100) rfl ?_
                      show Steps p.tables e below (s₁.setTop (mkF m 101 #[.val (.int p1)] [(.int p1)])) _
                      refine XS.sipush X0.here hx rfl (hb hby d1_101) ?_
                      show Steps p.tables e below (s₁.setTop (mkF m 104 #[.val (.int p1)] [(.int (8204 : Int32)), (.int p1)])) _
                      refine XS.icmpYes X0.here hx rfl (pc0 := 104) (pc' := 191) rfl (hb hby d1_104) rfl (teq (hg100 : (p1 = (8204 : Int32)))).1 (by decide) (by decide) ?_
                      show Steps p.tables e below (s₁.setTop (mkF m 191 #[.val (.int p1)] [])) _
                      refine XS.iconst X0.here hx rfl (hb hby d1_191) ?_
                      show Steps p.tables e below (s₁.setTop (mkF m 192 #[.val (.int p1)] [(.int (1 : Int32))])) _
                      refine XS.goto X0.here hx rfl (pc0 := 192) (pc' := 196) rfl (hb hby d1_192) (by decide) (by decide) ?_
                      show Steps p.tables e below (s₁.setTop (mkF m 196 #[.val (.int p1)] [(.int (1 : Int32))])) _
                      exact retN X0 hx (t := .boolean) Bd.returns (by simp) (hb hby d1_196) hr
                    · show Q_rm1 Z p1 h0 n0 _ s₁.heap _
                      rw [e0]
                      exact ⟨by rw [own_ns, if_neg hg0, if_neg hg12, if_neg hg24, if_neg hg30, if_neg hg44, if_neg hg58, if_neg hg72, if_neg hg86, if_pos hg100], N0, rfl⟩
                  · have pre9 : ∀ t, Steps p.tables e below (s₁.setTop (mkF m 107 #[.val (.int p1)] [])) t → Steps p.tables e below (s₁.setTop (entryFrame m #[(.int p1)] 1)) t := by
                      intro t k
                      refine pre8 t ?_
                      show Steps p.tables e below (s₁.setTop (mkF m 100 #[.val (.int p1)] [])) _
                      refine XS.iloadN X0.here hx rfl (hb hby d1_100) rfl ?_
                      show Steps p.tables e below (s₁.setTop (mkF m 101 #[.val (.int p1)] [(.int p1)])) _
                      refine XS.sipush X0.here hx rfl (hb hby d1_101) ?_
                      show Steps p.tables e below (s₁.setTop (mkF m 104 #[.val (.int p1)] [(.int (8204 : Int32)), (.int p1)])) _
                      refine XS.icmpNo X0.here hx rfl (hb hby d1_104) rfl (feq (hg100 : ¬ (p1 = (8204 : Int32)))).1 ?_
                      exact k
                    by_cases hg107 : p1 = (8205 : Int32)
                    · obtain ⟨fs, hr, hrun, hended, hW, hsame⟩ := X0.leave (v := some (.int (1 : Int32))) (fun h => by rw [Bd.returns] at h; cases h)
                      refine ⟨_, _, pre9 _ ?_, hrun, hended, _, _, rfl, ?_, ⟨_, rfl⟩, hW, hsame.mono (by decide) (by decide)⟩
                      · show Steps p.tables e below (s₁.setTop (mkF m 107 #[.val (.int p1)] [])) _
                        refine XS.iloadN X0.here hx rfl (hb hby d1_107) rfl ?_
                        show Steps p.tables e below (s₁.setTop (mkF m 108 #[.val (.int p1)] [(.int p1)])) _
                        refine XS.sipush X0.here hx rfl (hb hby d1_108) ?_
                        show Steps p.tables e below (s₁.setTop (mkF m 111 #[.val (.int p1)] [(.int (8205 : Int32)), (.int p1)])) _
                        refine XS.icmpYes X0.here hx rfl (pc0 := 111) (pc' := 191) rfl (hb hby d1_111) rfl (teq (hg107 : (p1 = (8205 : Int32)))).1 (by decide) (by decide) ?_
                        show Steps p.tables e below (s₁.setTop (mkF m 191 #[.val (.int p1)] [])) _
                        refine XS.iconst X0.here hx rfl (hb hby d1_191) ?_
                        show Steps p.tables e below (s₁.setTop (mkF m 192 #[.val (.int p1)] [(.int (1 : Int32))])) _
                        refine XS.goto X0.here hx rfl (pc0 := 192) (pc' := 196) rfl (hb hby d1_192) (by decide) (by decide) ?_
                        show Steps p.tables e below (s₁.setTop (mkF m 196 #[.val (.int p1)] [(.int (1 : Int32))])) _
                        exact retN X0 hx (t := .boolean) Bd.returns (by simp) (hb hby d1_196) hr
                      · show Q_rm1 Z p1 h0 n0 _ s₁.heap _
                        rw [e0]
                        exact ⟨by rw [own_ns, if_neg hg0, if_neg hg12, if_neg hg24, if_neg hg30, if_neg hg44, if_neg hg58, if_neg hg72, if_neg hg86, if_neg hg100, if_pos hg107], N0, rfl⟩
                    · have pre10 : ∀ t, Steps p.tables e below (s₁.setTop (mkF m 114 #[.val (.int p1)] [])) t → Steps p.tables e below (s₁.setTop (entryFrame m #[(.int p1)] 1)) t := by
                        intro t k
                        refine pre9 t ?_
                        show Steps p.tables e below (s₁.setTop (mkF m 107 #[.val (.int p1)] [])) _
                        refine XS.iloadN X0.here hx rfl (hb hby d1_107) rfl ?_
                        show Steps p.tables e below (s₁.setTop (mkF m 108 #[.val (.int p1)] [(.int p1)])) _
                        refine XS.sipush X0.here hx rfl (hb hby d1_108) ?_
                        show Steps p.tables e below (s₁.setTop (mkF m 111 #[.val (.int p1)] [(.int (8205 : Int32)), (.int p1)])) _
                        refine XS.icmpNo X0.here hx rfl (hb hby d1_111) rfl (feq (hg107 : ¬ (p1 = (8205 : Int32)))).1 ?_
                        exact k
                      by_cases hg114 : ¬ p1 < (8304 : Int32) ∧ ¬ (8591 : Int32) < p1
                      · obtain ⟨fs, hr, hrun, hended, hW, hsame⟩ := X0.leave (v := some (.int (1 : Int32))) (fun h => by rw [Bd.returns] at h; cases h)
                        refine ⟨_, _, pre10 _ ?_, hrun, hended, _, _, rfl, ?_, ⟨_, rfl⟩, hW, hsame.mono (by decide) (by decide)⟩
                        · show Steps p.tables e below (s₁.setTop (mkF m 114 #[.val (.int p1)] [])) _
                          refine XS.iloadN X0.here hx rfl (hb hby d1_114) rfl ?_
                          show Steps p.tables e below (s₁.setTop (mkF m 115 #[.val (.int p1)] [(.int p1)])) _
                          refine XS.sipush X0.here hx rfl (hb hby d1_115) ?_
                          show Steps p.tables e below (s₁.setTop (mkF m 118 #[.val (.int p1)] [(.int (8304 : Int32)), (.int p1)])) _
                          refine XS.icmpNo X0.here hx rfl (hb hby d1_118) rfl (flt (hg114.1 : ¬ (p1 < (8304 : Int32)))).1 ?_
                          show Steps p.tables e below (s₁.setTop (mkF m 121 #[.val (.int p1)] [])) _
                          refine XS.iloadN X0.here hx rfl (hb hby d1_121) rfl ?_
                          show Steps p.tables e below (s₁.setTop (mkF m 122 #[.val (.int p1)] [(.int p1)])) _
                          refine XS.sipush X0.here hx rfl (hb hby d1_122) ?_
                          show Steps p.tables e below (s₁.setTop (mkF m 125 #[.val (.int p1)] [(.int (8591 : Int32)), (.int p1)])) _
                          refine XS.icmpYes X0.here hx rfl (pc0 := 125) (pc' := 191) rfl (hb hby d1_125) rfl (flt (hg114.2 : ¬ ((8591 : Int32) < p1))).2.2.2 (by decide) (by decide) ?_
                          show Steps p.tables e below (s₁.setTop (mkF m 191 #[.val (.int p1)] [])) _
                          refine XS.iconst X0.here hx rfl (hb hby d1_191) ?_
                          show Steps p.tables e below (s₁.setTop (mkF m 192 #[.val (.int p1)] [(.int (1 : Int32))])) _
                          refine XS.goto X0.here hx rfl (pc0 := 192) (pc' := 196) rfl (hb hby d1_192) (by decide) (by decide) ?_
                          show Steps p.tables e below (s₁.setTop (mkF m 196 #[.val (.int p1)] [(.int (1 : Int32))])) _
                          exact retN X0 hx (t := .boolean) Bd.returns (by simp) (hb hby d1_196) hr
                        · show Q_rm1 Z p1 h0 n0 _ s₁.heap _
                          rw [e0]
                          exact ⟨by rw [own_ns, if_neg hg0, if_neg hg12, if_neg hg24, if_neg hg30, if_neg hg44, if_neg hg58, if_neg hg72, if_neg hg86, if_neg hg100, if_neg hg107, if_pos hg114], N0, rfl⟩
                      · have pre11 : ∀ t, Steps p.tables e below (s₁.setTop (mkF m 128 #[.val (.int p1)] [])) t → Steps p.tables e below (s₁.setTop (entryFrame m #[(.int p1)] 1)) t := by
                          intro t k
                          by_cases hl : p1 < (8304 : Int32)
                          · refine pre10 t ?_
                            show Steps p.tables e below (s₁.setTop (mkF m 114 #[.val (.int p1)] [])) _
                            refine XS.iloadN X0.here hx rfl (hb hby d1_114) rfl ?_
                            show Steps p.tables e below (s₁.setTop (mkF m 115 #[.val (.int p1)] [(.int p1)])) _
                            refine XS.sipush X0.here hx rfl (hb hby d1_115) ?_
                            show Steps p.tables e below (s₁.setTop (mkF m 118 #[.val (.int p1)] [(.int (8304 : Int32)), (.int p1)])) _
                            refine XS.icmpYes X0.here hx rfl (pc0 := 118) (pc' := 128) rfl (hb hby d1_118) rfl (tlt (hl : (p1 < (8304 : Int32)))).1 (by decide) (by decide) ?_
                            exact k
                          · have hh : (8591 : Int32) < p1 := Classical.byContradiction fun q => hg114 ⟨hl, q⟩
                            refine pre10 t ?_
                            show Steps p.tables e below (s₁.setTop (mkF m 114 #[.val (.int p1)] [])) _
                            refine XS.iloadN X0.here hx rfl (hb hby d1_114) rfl ?_
                            show Steps p.tables e below (s₁.setTop (mkF m 115 #[.val (.int p1)] [(.int p1)])) _
                            refine XS.sipush X0.here hx rfl (hb hby d1_115) ?_
                            show Steps p.tables e below (s₁.setTop (mkF m 118 #[.val (.int p1)] [(.int (8304 : Int32)), (.int p1)])) _
                            refine XS.icmpNo X0.here hx rfl (hb hby d1_118) rfl (flt (hl : ¬ (p1 < (8304 : Int32)))).1 ?_
                            show Steps p.tables e below (s₁.setTop (mkF m 121 #[.val (.int p1)] [])) _
                            refine XS.iloadN X0.here hx rfl (hb hby d1_121) rfl ?_
                            show Steps p.tables e below (s₁.setTop (mkF m 122 #[.val (.int p1)] [(.int p1)])) _
                            refine XS.sipush X0.here hx rfl (hb hby d1_122) ?_
                            show Steps p.tables e below (s₁.setTop (mkF m 125 #[.val (.int p1)] [(.int (8591 : Int32)), (.int p1)])) _
                            refine XS.icmpNo X0.here hx rfl (hb hby d1_125) rfl (tlt (hh : ((8591 : Int32) < p1))).2.2.2 ?_
                            exact k
                        by_cases hg128 : ¬ p1 < (11264 : Int32) ∧ ¬ (12271 : Int32) < p1
                        · obtain ⟨fs, hr, hrun, hended, hW, hsame⟩ := X0.leave (v := some (.int (1 : Int32))) (fun h => by rw [Bd.returns] at h; cases h)
                          refine ⟨_, _, pre11 _ ?_, hrun, hended, _, _, rfl, ?_, ⟨_, rfl⟩, hW, hsame.mono (by decide) (by decide)⟩
                          · show Steps p.tables e below (s₁.setTop (mkF m 128 #[.val (.int p1)] [])) _
                            refine XS.iloadN X0.here hx rfl (hb hby d1_128) rfl ?_
                            show Steps p.tables e below (s₁.setTop (mkF m 129 #[.val (.int p1)] [(.int p1)])) _
                            refine XS.sipush X0.here hx rfl (hb hby d1_129) ?_
                            show Steps p.tables e below (s₁.setTop (mkF m 132 #[.val (.int p1)] [(.int (11264 : Int32)), (.int p1)])) _
                            refine XS.icmpNo X0.here hx rfl (hb hby d1_132) rfl (flt (hg128.1 : ¬ (p1 < (11264 : Int32)))).1 ?_
                            show Steps p.tables e below (s₁.setTop (mkF m 135 #[.val (.int p1)] [])) _
                            refine XS.iloadN X0.here hx rfl (hb hby d1_135) rfl ?_
                            show Steps p.tables e below (s₁.setTop (mkF m 136 #[.val (.int p1)] [(.int p1)])) _
                            refine XS.sipush X0.here hx rfl (hb hby d1_136) ?_
                            show Steps p.tables e below (s₁.setTop (mkF m 139 #[.val (.int p1)] [(.int (12271 : Int32)), (.int p1)])) _
                            refine XS.icmpYes X0.here hx rfl (pc0 := 139) (pc' := 191) rfl (hb hby d1_139) rfl (flt (hg128.2 : ¬ ((12271 : Int32) < p1))).2.2.2 (by decide) (by decide) ?_
                            show Steps p.tables e below (s₁.setTop (mkF m 191 #[.val (.int p1)] [])) _
                            refine XS.iconst X0.here hx rfl (hb hby d1_191) ?_
                            show Steps p.tables e below (s₁.setTop (mkF m 192 #[.val (.int p1)] [(.int (1 : Int32))])) _
                            refine XS.goto X0.here hx rfl (pc0 := 192) (pc' := 196) rfl (hb hby d1_192) (by decide) (by decide) ?_
                            show Steps p.tables e below (s₁.setTop (mkF m 196 #[.val (.int p1)] [(.int (1 : Int32))])) _
                            exact retN X0 hx (t := .boolean) Bd.returns (by simp) (hb hby d1_196) hr
                          · show Q_rm1 Z p1 h0 n0 _ s₁.heap _
                            rw [e0]
                            exact ⟨by rw [own_ns, if_neg hg0, if_neg hg12, if_neg hg24, if_neg hg30, if_neg hg44, if_neg hg58, if_neg hg72, if_neg hg86, if_neg hg100, if_neg hg107, if_neg hg114, if_pos hg128], N0, rfl⟩
                        · have pre12 : ∀ t, Steps p.tables e below (s₁.setTop (mkF m 142 #[.val (.int p1)] [])) t → Steps p.tables e below (s₁.setTop (entryFrame m #[(.int p1)] 1)) t := by
                            intro t k
                            by_cases hl : p1 < (11264 : Int32)
                            · refine pre11 t ?_
                              show Steps p.tables e below (s₁.setTop (mkF m 128 #[.val (.int p1)] [])) _
                              refine XS.iloadN X0.here hx rfl (hb hby d1_128) rfl ?_
                              show Steps p.tables e below (s₁.setTop (mkF m 129 #[.val (.int p1)] [(.int p1)])) _
                              refine XS.sipush X0.here hx rfl (hb hby d1_129) ?_
                              show Steps p.tables e below (s₁.setTop (mkF m 132 #[.val (.int p1)] [(.int (11264 : Int32)), (.int p1)])) _
                              refine XS.icmpYes X0.here hx rfl (pc0 := 132) (pc' := 142) rfl (hb hby d1_132) rfl (tlt (hl : (p1 < (11264 : Int32)))).1 (by decide) (by decide) ?_
                              exact k
                            · have hh : (12271 : Int32) < p1 := Classical.byContradiction fun q => hg128 ⟨hl, q⟩
                              refine pre11 t ?_
                              show Steps p.tables e below (s₁.setTop (mkF m 128 #[.val (.int p1)] [])) _
                              refine XS.iloadN X0.here hx rfl (hb hby d1_128) rfl ?_
                              show Steps p.tables e below (s₁.setTop (mkF m 129 #[.val (.int p1)] [(.int p1)])) _
                              refine XS.sipush X0.here hx rfl (hb hby d1_129) ?_
                              show Steps p.tables e below (s₁.setTop (mkF m 132 #[.val (.int p1)] [(.int (11264 : Int32)), (.int p1)])) _
                              refine XS.icmpNo X0.here hx rfl (hb hby d1_132) rfl (flt (hl : ¬ (p1 < (11264 : Int32)))).1 ?_
                              show Steps p.tables e below (s₁.setTop (mkF m 135 #[.val (.int p1)] [])) _
                              refine XS.iloadN X0.here hx rfl (hb hby d1_135) rfl ?_
                              show Steps p.tables e below (s₁.setTop (mkF m 136 #[.val (.int p1)] [(.int p1)])) _
                              refine XS.sipush X0.here hx rfl (hb hby d1_136) ?_
                              show Steps p.tables e below (s₁.setTop (mkF m 139 #[.val (.int p1)] [(.int (12271 : Int32)), (.int p1)])) _
                              refine XS.icmpNo X0.here hx rfl (hb hby d1_139) rfl (tlt (hh : ((12271 : Int32) < p1))).2.2.2 ?_
                              exact k
                          by_cases hg142 : ¬ p1 < (12289 : Int32) ∧ ¬ (55295 : Int32) < p1
                          · obtain ⟨fs, hr, hrun, hended, hW, hsame⟩ := X0.leave (v := some (.int (1 : Int32))) (fun h => by rw [Bd.returns] at h; cases h)
                            refine ⟨_, _, pre12 _ ?_, hrun, hended, _, _, rfl, ?_, ⟨_, rfl⟩, hW, hsame.mono (by decide) (by decide)⟩
                            · show Steps p.tables e below (s₁.setTop (mkF m 142 #[.val (.int p1)] [])) _
                              refine XS.iloadN X0.here hx rfl (hb hby d1_142) rfl ?_
                              show Steps p.tables e below (s₁.setTop (mkF m 143 #[.val (.int p1)] [(.int p1)])) _
                              refine XS.sipush X0.here hx rfl (hb hby d1_143) ?_
                              show Steps p.tables e below (s₁.setTop (mkF m 146 #[.val (.int p1)] [(.int (12289 : Int32)), (.int p1)])) _
                              refine XS.icmpNo X0.here hx rfl (hb hby d1_146) rfl (flt (hg142.1 : ¬ (p1 < (12289 : Int32)))).1 ?_
                              show Steps p.tables e below (s₁.setTop (mkF m 149 #[.val (.int p1)] [])) _
                              refine XS.iloadN X0.here hx rfl (hb hby d1_149) rfl ?_
                              show Steps p.tables e below (s₁.setTop (mkF m 150 #[.val (.int p1)] [(.int p1)])) _
                              refine X0.ldcInt hx hown (mvT hZ (hw _ (List.mem_of_getElem? (i := 18) rfl))) (g := (mkF m 150 #[.val (.int p1)] [(.int p1)])) rfl (hb hby d1_150) _ ?_
                              show Steps p.tables e below (s₁.setTop (mkF m 152 #[.val (.int p1)] [(.int (55295 : Int32)), (.int p1)])) _
                              refine XS.icmpYes X0.here hx rfl (pc0 := 152) (pc' := 191) rfl (hb hby d1_152) rfl (flt (hg142.2 : ¬ ((55295 : Int32) < p1))).2.2.2 (by decide) (by decide) ?_
                              show Steps p.tables e below (s₁.setTop (mkF m 191 #[.val (.int p1)] [])) _
                              refine XS.iconst X0.here hx rfl (hb hby d1_191) ?_
                              show Steps p.tables e below (s₁.setTop (mkF m 192 #[.val (.int p1)] [(.int (1 : Int32))])) _
                              refine XS.goto X0.here hx rfl (pc0 := 192) (pc' := 196) rfl (hb hby d1_192) (by decide) (by decide) ?_
                              show Steps p.tables e below (s₁.setTop (mkF m 196 #[.val (.int p1)] [(.int (1 : Int32))])) _
                              exact retN X0 hx (t := .boolean) Bd.returns (by simp) (hb hby d1_196) hr
                            · show Q_rm1 Z p1 h0 n0 _ s₁.heap _
                              rw [e0]
                              exact ⟨by rw [own_ns, if_neg hg0, if_neg hg12, if_neg hg24, if_neg hg30, if_neg hg44, if_neg hg58, if_neg hg72, if_neg hg86, if_neg hg100, if_neg hg107, if_neg hg114, if_neg hg128, if_pos hg142], N0, rfl⟩
                          · have pre13 : ∀ t, Steps p.tables e below (s₁.setTop (mkF m 155 #[.val (.int p1)] [])) t → Steps p.tables e below (s₁.setTop (entryFrame m #[(.int p1)] 1)) t := by
                              intro t k
                              by_cases hl : p1 < (12289 : Int32)
                              · refine pre12 t ?_
                                show Steps p.tables e below (s₁.setTop (mkF m 142 #[.val (.int p1)] [])) _
                                refine XS.iloadN X0.here hx rfl (hb hby d1_142) rfl ?_
                                show Steps p.tables e below (s₁.setTop (mkF m 143 #[.val (.int p1)] [(.int p1)])) _
                                refine XS.sipush X0.here hx rfl (hb hby d1_143) ?_
                                show Steps p.tables e below (s₁.setTop (mkF m 146 #[.val (.int p1)] [(.int (12289 : Int32)), (.int p1)])) _
                                refine XS.icmpYes X0.here hx rfl (pc0 := 146) (pc' := 155) rfl (hb hby d1_146) rfl (tlt (hl : (p1 < (12289 : Int32)))).1 (by decide) (by decide) ?_
                                exact k
                              · have hh : (55295 : Int32) < p1 := Classical.byContradiction fun q => hg142 ⟨hl, q⟩
                                refine pre12 t ?_
                                show Steps p.tables e below (s₁.setTop (mkF m 142 #[.val (.int p1)] [])) _
                                refine XS.iloadN X0.here hx rfl (hb hby d1_142) rfl ?_
                                show Steps p.tables e below (s₁.setTop (mkF m 143 #[.val (.int p1)] [(.int p1)])) _
                                refine XS.sipush X0.here hx rfl (hb hby d1_143) ?_
                                show Steps p.tables e below (s₁.setTop (mkF m 146 #[.val (.int p1)] [(.int (12289 : Int32)), (.int p1)])) _
                                refine XS.icmpNo X0.here hx rfl (hb hby d1_146) rfl (flt (hl : ¬ (p1 < (12289 : Int32)))).1 ?_
                                show Steps p.tables e below (s₁.setTop (mkF m 149 #[.val (.int p1)] [])) _
                                refine XS.iloadN X0.here hx rfl (hb hby d1_149) rfl ?_
                                show Steps p.tables e below (s₁.setTop (mkF m 150 #[.val (.int p1)] [(.int p1)])) _
                                refine X0.ldcInt hx hown (mvT hZ (hw _ (List.mem_of_getElem? (i := 18) rfl))) (g := (mkF m 150 #[.val (.int p1)] [(.int p1)])) rfl (hb hby d1_150) _ ?_
                                show Steps p.tables e below (s₁.setTop (mkF m 152 #[.val (.int p1)] [(.int (55295 : Int32)), (.int p1)])) _
                                refine XS.icmpNo X0.here hx rfl (hb hby d1_152) rfl (tlt (hh : ((55295 : Int32) < p1))).2.2.2 ?_
                                exact k
                            by_cases hg155 : ¬ p1 < (63744 : Int32) ∧ ¬ (64975 : Int32) < p1
                            · obtain ⟨fs, hr, hrun, hended, hW, hsame⟩ := X0.leave (v := some (.int (1 : Int32))) (fun h => by rw [Bd.returns] at h; cases h)
                              refine ⟨_, _, pre13 _ ?_, hrun, hended, _, _, rfl, ?_, ⟨_, rfl⟩, hW, hsame.mono (by decide) (by decide)⟩
                              · show Steps p.tables e below (s₁.setTop (mkF m 155 #[.val (.int p1)] [])) _
                                refine XS.iloadN X0.here hx rfl (hb hby d1_155) rfl ?_
                                show Steps p.tables e below (s₁.setTop (mkF m 156 #[.val (.int p1)] [(.int p1)])) _
                                refine X0.ldcInt hx hown (mvT hZ (hw _ (List.mem_of_getElem? (i := 15) rfl))) (g := (mkF m 156 #[.val (.int p1)] [(.int p1)])) rfl (hb hby d1_156) _ ?_
                                show Steps p.tables e below (s₁.setTop (mkF m 158 #[.val (.int p1)] [(.int (63744 : Int32)), (.int p1)])) _
                                refine XS.icmpNo X0.here hx rfl (hb hby d1_158) rfl (flt (hg155.1 : ¬ (p1 < (63744 : Int32)))).1 ?_
                                show Steps p.tables e below (s₁.setTop (mkF m 161 #[.val (.int p1)] [])) _
                                refine XS.iloadN X0.here hx rfl (hb hby d1_161) rfl ?_
                                show Steps p.tables e below (s₁.setTop (mkF m 162 #[.val (.int p1)] [(.int p1)])) _
                                refine X0.ldcInt hx hown (mvT hZ (hw _ (List.mem_of_getElem? (i := 19) rfl))) (g := (mkF m 162 #[.val (.int p1)] [(.int p1)])) rfl (hb hby d1_162) _ ?_
                                show Steps p.tables e below (s₁.setTop (mkF m 164 #[.val (.int p1)] [(.int (64975 : Int32)), (.int p1)])) _
                                refine XS.icmpYes X0.here hx rfl (pc0 := 164) (pc' := 191) rfl (hb hby d1_164) rfl (flt (hg155.2 : ¬ ((64975 : Int32) < p1))).2.2.2 (by decide) (by decide) ?_
                                show Steps p.tables e below (s₁.setTop (mkF m 191 #[.val (.int p1)] [])) _
                                refine XS.iconst X0.here hx rfl (hb hby d1_191) ?_
                                show Steps p.tables e below (s₁.setTop (mkF m 192 #[.val (.int p1)] [(.int (1 : Int32))])) _
                                refine XS.goto X0.here hx rfl (pc0 := 192) (pc' := 196) rfl (hb hby d1_192) (by decide) (by decide) ?_
                                show Steps p.tables e below (s₁.setTop (mkF m 196 #[.val (.int p1)] [(.int (1 : Int32))])) _
                                exact retN X0 hx (t := .boolean) Bd.returns (by simp) (hb hby d1_196) hr
                              · show Q_rm1 Z p1 h0 n0 _ s₁.heap _
                                rw [e0]
                                exact ⟨by rw [own_ns, if_neg hg0, if_neg hg12, if_neg hg24, if_neg hg30, if_neg hg44, if_neg hg58, if_neg hg72, if_neg hg86, if_neg hg100, if_neg hg107, if_neg hg114, if_neg hg128, if_neg hg142, if_pos hg155], N0, rfl⟩
                            · have pre14 : ∀ t, Steps p.tables e below (s₁.setTop (mkF m 167 #[.val (.int p1)] [])) t → Steps p.tables e below (s₁.setTop (entryFrame m #[(.int p1)] 1)) t := by
                                intro t k
                                by_cases hl : p1 < (63744 : Int32)
                                · refine pre13 t ?_
                                  show Steps p.tables e below (s₁.setTop (mkF m 155 #[.val (.int p1)] [])) _
                                  refine XS.iloadN X0.here hx rfl (hb hby d1_155) rfl ?_
                                  show Steps p.tables e below (s₁.setTop (mkF m 156 #[.val (.int p1)] [(.int p1)])) _
                                  refine X0.ldcInt hx hown (mvT hZ (hw _ (List.mem_of_getElem? (i := 15) rfl))) (g := (mkF m 156 #[.val (.int p1)] [(.int p1)])) rfl (hb hby d1_156) _ ?_
                                  show Steps p.tables e below (s₁.setTop (mkF m 158 #[.val (.int p1)] [(.int (63744 : Int32)), (.int p1)])) _
                                  refine XS.icmpYes X0.here hx rfl (pc0 := 158) (pc' := 167) rfl (hb hby d1_158) rfl (tlt (hl : (p1 < (63744 : Int32)))).1 (by decide) (by decide) ?_
                                  exact k
                                · have hh : (64975 : Int32) < p1 := Classical.byContradiction fun q => hg155 ⟨hl, q⟩
                                  refine pre13 t ?_
                                  show Steps p.tables e below (s₁.setTop (mkF m 155 #[.val (.int p1)] [])) _
                                  refine XS.iloadN X0.here hx rfl (hb hby d1_155) rfl ?_
                                  show Steps p.tables e below (s₁.setTop (mkF m 156 #[.val (.int p1)] [(.int p1)])) _
                                  refine X0.ldcInt hx hown (mvT hZ (hw _ (List.mem_of_getElem? (i := 15) rfl))) (g := (mkF m 156 #[.val (.int p1)] [(.int p1)])) rfl (hb hby d1_156) _ ?_
                                  show Steps p.tables e below (s₁.setTop (mkF m 158 #[.val (.int p1)] [(.int (63744 : Int32)), (.int p1)])) _
                                  refine XS.icmpNo X0.here hx rfl (hb hby d1_158) rfl (flt (hl : ¬ (p1 < (63744 : Int32)))).1 ?_
                                  show Steps p.tables e below (s₁.setTop (mkF m 161 #[.val (.int p1)] [])) _
                                  refine XS.iloadN X0.here hx rfl (hb hby d1_161) rfl ?_
                                  show Steps p.tables e below (s₁.setTop (mkF m 162 #[.val (.int p1)] [(.int p1)])) _
                                  refine X0.ldcInt hx hown (mvT hZ (hw _ (List.mem_of_getElem? (i := 19) rfl))) (g := (mkF m 162 #[.val (.int p1)] [(.int p1)])) rfl (hb hby d1_162) _ ?_
                                  show Steps p.tables e below (s₁.setTop (mkF m 164 #[.val (.int p1)] [(.int (64975 : Int32)), (.int p1)])) _
                                  refine XS.icmpNo X0.here hx rfl (hb hby d1_164) rfl (tlt (hh : ((64975 : Int32) < p1))).2.2.2 ?_
                                  exact k
                              by_cases hg167 : ¬ p1 < (65008 : Int32) ∧ ¬ (65533 : Int32) < p1
                              · obtain ⟨fs, hr, hrun, hended, hW, hsame⟩ := X0.leave (v := some (.int (1 : Int32))) (fun h => by rw [Bd.returns] at h; cases h)
                                refine ⟨_, _, pre14 _ ?_, hrun, hended, _, _, rfl, ?_, ⟨_, rfl⟩, hW, hsame.mono (by decide) (by decide)⟩
                                · show Steps p.tables e below (s₁.setTop (mkF m 167 #[.val (.int p1)] [])) _
                                  refine XS.iloadN X0.here hx rfl (hb hby d1_167) rfl ?_
                                  show Steps p.tables e below (s₁.setTop (mkF m 168 #[.val (.int p1)] [(.int p1)])) _
                                  refine X0.ldcInt hx hown (mvT hZ (hw _ (List.mem_of_getElem? (i := 16) rfl))) (g := (mkF m 168 #[.val (.int p1)] [(.int p1)])) rfl (hb hby d1_168) _ ?_
                                  show Steps p.tables e below (s₁.setTop (mkF m 170 #[.val (.int p1)] [(.int (65008 : Int32)), (.int p1)])) _
                                  refine XS.icmpNo X0.here hx rfl (hb hby d1_170) rfl (flt (hg167.1 : ¬ (p1 < (65008 : Int32)))).1 ?_
                                  show Steps p.tables e below (s₁.setTop (mkF m 173 #[.val (.int p1)] [])) _
                                  refine XS.iloadN X0.here hx rfl (hb hby d1_173) rfl ?_
                                  show Steps p.tables e below (s₁.setTop (mkF m 174 #[.val (.int p1)] [(.int p1)])) _
                                  refine X0.ldcInt hx hown (mvT hZ (hw _ (List.mem_of_getElem? (i := 21) rfl))) (g := (mkF m 174 #[.val (.int p1)] [(.int p1)])) rfl (hb hby d1_174) _ ?_
                                  show Steps p.tables e below (s₁.setTop (mkF m 176 #[.val (.int p1)] [(.int (65533 : Int32)), (.int p1)])) _
                                  refine XS.icmpYes X0.here hx rfl (pc0 := 176) (pc' := 191) rfl (hb hby d1_176) rfl (flt (hg167.2 : ¬ ((65533 : Int32) < p1))).2.2.2 (by decide) (by decide) ?_
                                  show Steps p.tables e below (s₁.setTop (mkF m 191 #[.val (.int p1)] [])) _
                                  refine XS.iconst X0.here hx rfl (hb hby d1_191) ?_
                                  show Steps p.tables e below (s₁.setTop (mkF m 192 #[.val (.int p1)] [(.int (1 : Int32))])) _
                                  refine XS.goto X0.here hx rfl (pc0 := 192) (pc' := 196) rfl (hb hby d1_192) (by decide) (by decide) ?_
                                  show Steps p.tables e below (s₁.setTop (mkF m 196 #[.val (.int p1)] [(.int (1 : Int32))])) _
                                  exact retN X0 hx (t := .boolean) Bd.returns (by simp) (hb hby d1_196) hr
                                · show Q_rm1 Z p1 h0 n0 _ s₁.heap _
                                  rw [e0]
                                  exact ⟨by rw [own_ns, if_neg hg0, if_neg hg12, if_neg hg24, if_neg hg30, if_neg hg44, if_neg hg58, if_neg hg72, if_neg hg86, if_neg hg100, if_neg hg107, if_neg hg114, if_neg hg128, if_neg hg142, if_neg hg155, if_pos hg167], N0, rfl⟩
                              · have pre15 : ∀ t, Steps p.tables e below (s₁.setTop (mkF m 179 #[.val (.int p1)] [])) t → Steps p.tables e below (s₁.setTop (entryFrame m #[(.int p1)] 1)) t := by
                                  intro t k
                                  by_cases hl : p1 < (65008 : Int32)
                                  · refine pre14 t ?_
                                    show Steps p.tables e below (s₁.setTop (mkF m 167 #[.val (.int p1)] [])) _
                                    refine XS.iloadN X0.here hx rfl (hb hby d1_167) rfl ?_
                                    show Steps p.tables e below (s₁.setTop (mkF m 168 #[.val (.int p1)] [(.int p1)])) _
                                    refine X0.ldcInt hx hown (mvT hZ (hw _ (List.mem_of_getElem? (i := 16) rfl))) (g := (mkF m 168 #[.val (.int p1)] [(.int p1)])) rfl (hb hby d1_168) _ ?_
                                    show Steps p.tables e below (s₁.setTop (mkF m 170 #[.val (.int p1)] [(.int (65008 : Int32)), (.int p1)])) _
                                    refine XS.icmpYes X0.here hx rfl (pc0 := 170) (pc' := 179) rfl (hb hby d1_170) rfl (tlt (hl : (p1 < (65008 : Int32)))).1 (by decide) (by decide) ?_
                                    exact k
                                  · have hh : (65533 : Int32) < p1 := Classical.byContradiction fun q => hg167 ⟨hl, q⟩
                                    refine pre14 t ?_
                                    show Steps p.tables e below (s₁.setTop (mkF m 167 #[.val (.int p1)] [])) _
                                    refine XS.iloadN X0.here hx rfl (hb hby d1_167) rfl ?_
                                    show Steps p.tables e below (s₁.setTop (mkF m 168 #[.val (.int p1)] [(.int p1)])) _
                                    refine X0.ldcInt hx hown (mvT hZ (hw _ (List.mem_of_getElem? (i := 16) rfl))) (g := (mkF m 168 #[.val (.int p1)] [(.int p1)])) rfl (hb hby d1_168) _ ?_
                                    show Steps p.tables e below (s₁.setTop (mkF m 170 #[.val (.int p1)] [(.int (65008 : Int32)), (.int p1)])) _
                                    refine XS.icmpNo X0.here hx rfl (hb hby d1_170) rfl (flt (hl : ¬ (p1 < (65008 : Int32)))).1 ?_
                                    show Steps p.tables e below (s₁.setTop (mkF m 173 #[.val (.int p1)] [])) _
                                    refine XS.iloadN X0.here hx rfl (hb hby d1_173) rfl ?_
                                    show Steps p.tables e below (s₁.setTop (mkF m 174 #[.val (.int p1)] [(.int p1)])) _
                                    refine X0.ldcInt hx hown (mvT hZ (hw _ (List.mem_of_getElem? (i := 21) rfl))) (g := (mkF m 174 #[.val (.int p1)] [(.int p1)])) rfl (hb hby d1_174) _ ?_
                                    show Steps p.tables e below (s₁.setTop (mkF m 176 #[.val (.int p1)] [(.int (65533 : Int32)), (.int p1)])) _
                                    refine XS.icmpNo X0.here hx rfl (hb hby d1_176) rfl (tlt (hh : ((65533 : Int32) < p1))).2.2.2 ?_
                                    exact k
                                by_cases hg179 : ¬ p1 < (65536 : Int32) ∧ ¬ (983039 : Int32) < p1
                                · obtain ⟨fs, hr, hrun, hended, hW, hsame⟩ := X0.leave (v := some (.int (1 : Int32))) (fun h => by rw [Bd.returns] at h; cases h)
                                  refine ⟨_, _, pre15 _ ?_, hrun, hended, _, _, rfl, ?_, ⟨_, rfl⟩, hW, hsame.mono (by decide) (by decide)⟩
                                  · show Steps p.tables e below (s₁.setTop (mkF m 179 #[.val (.int p1)] [])) _
                                    refine XS.iloadN X0.here hx rfl (hb hby d1_179) rfl ?_
                                    show Steps p.tables e below (s₁.setTop (mkF m 180 #[.val (.int p1)] [(.int p1)])) _
                                    refine X0.ldcInt hx hown (mvT hZ (hw _ (List.mem_of_getElem? (i := 17) rfl))) (g := (mkF m 180 #[.val (.int p1)] [(.int p1)])) rfl (hb hby d1_180) _ ?_
                                    show Steps p.tables e below (s₁.setTop (mkF m 182 #[.val (.int p1)] [(.int (65536 : Int32)), (.int p1)])) _
                                    refine XS.icmpNo X0.here hx rfl (hb hby d1_182) rfl (flt (hg179.1 : ¬ (p1 < (65536 : Int32)))).1 ?_
                                    show Steps p.tables e below (s₁.setTop (mkF m 185 #[.val (.int p1)] [])) _
                                    refine XS.iloadN X0.here hx rfl (hb hby d1_185) rfl ?_
                                    show Steps p.tables e below (s₁.setTop (mkF m 186 #[.val (.int p1)] [(.int p1)])) _
                                    refine X0.ldcInt hx hown (mvT hZ (hw _ (List.mem_of_getElem? (i := 22) rfl))) (g := (mkF m 186 #[.val (.int p1)] [(.int p1)])) rfl (hb hby d1_186) _ ?_
                                    show Steps p.tables e below (s₁.setTop (mkF m 188 #[.val (.int p1)] [(.int (983039 : Int32)), (.int p1)])) _
                                    refine XS.icmpNo X0.here hx rfl (hb hby d1_188) rfl (flt (hg179.2 : ¬ ((983039 : Int32) < p1))).2.2.1 ?_
                                    show Steps p.tables e below (s₁.setTop (mkF m 191 #[.val (.int p1)] [])) _
                                    refine XS.iconst X0.here hx rfl (hb hby d1_191) ?_
                                    show Steps p.tables e below (s₁.setTop (mkF m 192 #[.val (.int p1)] [(.int (1 : Int32))])) _
                                    refine XS.goto X0.here hx rfl (pc0 := 192) (pc' := 196) rfl (hb hby d1_192) (by decide) (by decide) ?_
                                    show Steps p.tables e below (s₁.setTop (mkF m 196 #[.val (.int p1)] [(.int (1 : Int32))])) _
                                    exact retN X0 hx (t := .boolean) Bd.returns (by simp) (hb hby d1_196) hr
                                  · show Q_rm1 Z p1 h0 n0 _ s₁.heap _
                                    rw [e0]
                                    exact ⟨by rw [own_ns, if_neg hg0, if_neg hg12, if_neg hg24, if_neg hg30, if_neg hg44, if_neg hg58, if_neg hg72, if_neg hg86, if_neg hg100, if_neg hg107, if_neg hg114, if_neg hg128, if_neg hg142, if_neg hg155, if_neg hg167, if_pos hg179], N0, rfl⟩
                                · have pre16 : ∀ t, Steps p.tables e below (s₁.setTop (mkF m 195 #[.val (.int p1)] [])) t → Steps p.tables e below (s₁.setTop (entryFrame m #[(.int p1)] 1)) t := by
                                    intro t k
                                    by_cases hl : p1 < (65536 : Int32)
                                    · refine pre15 t ?_
                                      show Steps p.tables e below (s₁.setTop (mkF m 179 #[.val (.int p1)] [])) _
                                      refine XS.iloadN X0.here hx rfl (hb hby d1_179) rfl ?_
                                      show Steps p.tables e below (s₁.setTop (mkF m 180 #[.val (.int p1)] [(.int p1)])) _
                                      refine X0.ldcInt hx hown (mvT hZ (hw _ (List.mem_of_getElem? (i := 17) rfl))) (g := (mkF m 180 #[.val (.int p1)] [(.int p1)])) rfl (hb hby d1_180) _ ?_
                                      show Steps p.tables e below (s₁.setTop (mkF m 182 #[.val (.int p1)] [(.int (65536 : Int32)), (.int p1)])) _
                                      refine XS.icmpYes X0.here hx rfl (pc0 := 182) (pc' := 195) rfl (hb hby d1_182) rfl (tlt (hl : (p1 < (65536 : Int32)))).1 (by decide) (by decide) ?_
                                      exact k
                                    · have hh : (983039 : Int32) < p1 := Classical.byContradiction fun q => hg179 ⟨hl, q⟩
                                      refine pre15 t ?_
                                      show Steps p.tables e below (s₁.setTop (mkF m 179 #[.val (.int p1)] [])) _
                                      refine XS.iloadN X0.here hx rfl (hb hby d1_179) rfl ?_
                                      show Steps p.tables e below (s₁.setTop (mkF m 180 #[.val (.int p1)] [(.int p1)])) _
                                      refine X0.ldcInt hx hown (mvT hZ (hw _ (List.mem_of_getElem? (i := 17) rfl))) (g := (mkF m 180 #[.val (.int p1)] [(.int p1)])) rfl (hb hby d1_180) _ ?_
                                      show Steps p.tables e below (s₁.setTop (mkF m 182 #[.val (.int p1)] [(.int (65536 : Int32)), (.int p1)])) _
                                      refine XS.icmpNo X0.here hx rfl (hb hby d1_182) rfl (flt (hl : ¬ (p1 < (65536 : Int32)))).1 ?_
                                      show Steps p.tables e below (s₁.setTop (mkF m 185 #[.val (.int p1)] [])) _
                                      refine XS.iloadN X0.here hx rfl (hb hby d1_185) rfl ?_
                                      show Steps p.tables e below (s₁.setTop (mkF m 186 #[.val (.int p1)] [(.int p1)])) _
                                      refine X0.ldcInt hx hown (mvT hZ (hw _ (List.mem_of_getElem? (i := 22) rfl))) (g := (mkF m 186 #[.val (.int p1)] [(.int p1)])) rfl (hb hby d1_186) _ ?_
                                      show Steps p.tables e below (s₁.setTop (mkF m 188 #[.val (.int p1)] [(.int (983039 : Int32)), (.int p1)])) _
                                      refine XS.icmpYes X0.here hx rfl (pc0 := 188) (pc' := 195) rfl (hb hby d1_188) rfl (tlt (hh : ((983039 : Int32) < p1))).2.2.1 (by decide) (by decide) ?_
                                      exact k
                                  obtain ⟨fs, hr, hrun, hended, hW, hsame⟩ := X0.leave (v := some (.int (0 : Int32))) (fun h => by rw [Bd.returns] at h; cases h)
                                  refine ⟨_, _, pre16 _ ?_, hrun, hended, _, _, rfl, ?_, ⟨_, rfl⟩, hW, hsame.mono (by decide) (by decide)⟩
                                  · show Steps p.tables e below (s₁.setTop (mkF m 195 #[.val (.int p1)] [])) _
                                    refine XS.iconst X0.here hx rfl (hb hby d1_195) ?_
                                    show Steps p.tables e below (s₁.setTop (mkF m 196 #[.val (.int p1)] [(.int (0 : Int32))])) _
                                    exact retN X0 hx (t := .boolean) Bd.returns (by simp) (hb hby d1_196) hr
                                  · show Q_rm1 Z p1 h0 n0 _ s₁.heap _
                                    rw [e0]
                                    exact ⟨by rw [own_ns, if_neg hg0, if_neg hg12, if_neg hg24, if_neg hg30, if_neg hg44, if_neg hg58, if_neg hg72, if_neg hg86, if_neg hg100, if_neg hg107, if_neg hg114, if_neg hg128, if_neg hg142, if_neg hg155, if_neg hg167, if_neg hg179], N0, rfl⟩
def own_tab (j : Nat) : Int32 := ([65, 91, 95, 96, 97, 123, 192, 215, 216, 247, 248, 768, 880, 894, 895, 8192, 8204, 8206, 8304, 8592, 11264, 12272, 12289, 55296, 63744, 64976, 65008, 65534, 65536, 983040] : List Int32).getD j 0
def own_lo (j : Nat) : Int := ([-2147483648, 65, 91, 95, 96, 97, 123, 192, 215, 216, 247, 248, 768, 880, 894, 895, 8192, 8204, 8206, 8304, 8592, 11264, 12272, 12289, 55296, 63744, 64976, 65008, 65534, 65536, 983040] : List Int).getD j 0
def own_hi (j : Nat) : Int := ([64, 90, 94, 95, 96, 122, 191, 214, 215, 246, 247, 767, 879, 893, 894, 8191, 8203, 8205, 8303, 8591, 11263, 12271, 12288, 55295, 63743, 64975, 65007, 65533, 65535, 983039, 2147483647] : List Int).getD j 0
def own_wt (j : Nat) : Int32 := if j % 2 = 1 then 1 else 0
def own_start (i : Int32) : Int64 := if i = (0 : Int32) then (-2147483648 : Int64) else (own_tab (i - (1 : Int32)).toNatClampNeg).toInt64
def own_end (i : Int32) : Int64 := if i = (30 : Int32) then (2147483647 : Int64) else ((own_tab i.toNatClampNeg).toInt64 - (1 : Int64))
def own_want (i : Int32) : Int32 := if (i &&& (1 : Int32)) = (1 : Int32) then (1 : Int32) else (0 : Int32)
theorem own_tbl : ∀ n : Fin 31, (own_start (Int32.ofInt (n.val : Int))).toInt = own_lo n.val ∧ (own_end (Int32.ofInt (n.val : Int))).toInt = own_hi n.val ∧ own_want (Int32.ofInt (n.val : Int)) = own_wt n.val ∧ -2147483648 ≤ own_lo n.val ∧ own_lo n.val ≤ own_hi n.val ∧ own_hi n.val ≤ 2147483647 := by decide +kernel
theorem own_nsE (p : Int32) : own_ns p = own_nsI p.toInt := by
  simp only [own_ns, own_nsI, Int32.lt_iff_toInt_lt, ← Int32.toInt_inj, show (65 : Int32).toInt = 65 from by decide, show (90 : Int32).toInt = 90 from by decide, show (95 : Int32).toInt = 95 from by decide, show (97 : Int32).toInt = 97 from by decide, show (122 : Int32).toInt = 122 from by decide, show (192 : Int32).toInt = 192 from by decide, show (214 : Int32).toInt = 214 from by decide, show (216 : Int32).toInt = 216 from by decide, show (246 : Int32).toInt = 246 from by decide, show (248 : Int32).toInt = 248 from by decide, show (767 : Int32).toInt = 767 from by decide, show (880 : Int32).toInt = 880 from by decide, show (893 : Int32).toInt = 893 from by decide, show (895 : Int32).toInt = 895 from by decide, show (8191 : Int32).toInt = 8191 from by decide, show (8204 : Int32).toInt = 8204 from by decide, show (8205 : Int32).toInt = 8205 from by decide, show (8304 : Int32).toInt = 8304 from by decide, show (8591 : Int32).toInt = 8591 from by decide, show (11264 : Int32).toInt = 11264 from by decide, show (12271 : Int32).toInt = 12271 from by decide, show (12289 : Int32).toInt = 12289 from by decide, show (55295 : Int32).toInt = 55295 from by decide, show (63744 : Int32).toInt = 63744 from by decide, show (64975 : Int32).toInt = 64975 from by decide, show (65008 : Int32).toInt = 65008 from by decide, show (65533 : Int32).toInt = 65533 from by decide, show (65536 : Int32).toInt = 65536 from by decide, show (983039 : Int32).toInt = 983039 from by decide]
theorem own_k0 (x : Int) (h : -2147483648 ≤ x) (h' : x ≤ 64) : own_nsI x = 0 := by
  rw [own_nsI, if_neg (by omega), if_neg (by omega), if_neg (by omega), if_neg (by omega), if_neg (by omega), if_neg (by omega), if_neg (by omega), if_neg (by omega), if_neg (by omega), if_neg (by omega), if_neg (by omega), if_neg (by omega), if_neg (by omega), if_neg (by omega), if_neg (by omega), if_neg (by omega)]
theorem own_k1 (x : Int) (h : 65 ≤ x) (h' : x ≤ 90) : own_nsI x = 1 := by
  rw [own_nsI, if_neg (by omega), if_pos (by omega)]
theorem own_k2 (x : Int) (h : 91 ≤ x) (h' : x ≤ 94) : own_nsI x = 0 := by
  rw [own_nsI, if_neg (by omega), if_neg (by omega), if_neg (by omega), if_neg (by omega), if_neg (by omega), if_neg (by omega), if_neg (by omega), if_neg (by omega), if_neg (by omega), if_neg (by omega), if_neg (by omega), if_neg (by omega), if_neg (by omega), if_neg (by omega), if_neg (by omega), if_neg (by omega)]
theorem own_k3 (x : Int) (h : 95 ≤ x) (h' : x ≤ 95) : own_nsI x = 1 := by
  rw [own_nsI, if_neg (by omega), if_neg (by omega), if_pos (by omega)]
theorem own_k4 (x : Int) (h : 96 ≤ x) (h' : x ≤ 96) : own_nsI x = 0 := by
  rw [own_nsI, if_neg (by omega), if_neg (by omega), if_neg (by omega), if_neg (by omega), if_neg (by omega), if_neg (by omega), if_neg (by omega), if_neg (by omega), if_neg (by omega), if_neg (by omega), if_neg (by omega), if_neg (by omega), if_neg (by omega), if_neg (by omega), if_neg (by omega), if_neg (by omega)]
theorem own_k5 (x : Int) (h : 97 ≤ x) (h' : x ≤ 122) : own_nsI x = 1 := by
  rw [own_nsI, if_pos (by omega)]
theorem own_k6 (x : Int) (h : 123 ≤ x) (h' : x ≤ 191) : own_nsI x = 0 := by
  rw [own_nsI, if_neg (by omega), if_neg (by omega), if_neg (by omega), if_neg (by omega), if_neg (by omega), if_neg (by omega), if_neg (by omega), if_neg (by omega), if_neg (by omega), if_neg (by omega), if_neg (by omega), if_neg (by omega), if_neg (by omega), if_neg (by omega), if_neg (by omega), if_neg (by omega)]
theorem own_k7 (x : Int) (h : 192 ≤ x) (h' : x ≤ 214) : own_nsI x = 1 := by
  rw [own_nsI, if_neg (by omega), if_neg (by omega), if_neg (by omega), if_pos (by omega)]
theorem own_k8 (x : Int) (h : 215 ≤ x) (h' : x ≤ 215) : own_nsI x = 0 := by
  rw [own_nsI, if_neg (by omega), if_neg (by omega), if_neg (by omega), if_neg (by omega), if_neg (by omega), if_neg (by omega), if_neg (by omega), if_neg (by omega), if_neg (by omega), if_neg (by omega), if_neg (by omega), if_neg (by omega), if_neg (by omega), if_neg (by omega), if_neg (by omega), if_neg (by omega)]
theorem own_k9 (x : Int) (h : 216 ≤ x) (h' : x ≤ 246) : own_nsI x = 1 := by
  rw [own_nsI, if_neg (by omega), if_neg (by omega), if_neg (by omega), if_neg (by omega), if_pos (by omega)]
theorem own_k10 (x : Int) (h : 247 ≤ x) (h' : x ≤ 247) : own_nsI x = 0 := by
  rw [own_nsI, if_neg (by omega), if_neg (by omega), if_neg (by omega), if_neg (by omega), if_neg (by omega), if_neg (by omega), if_neg (by omega), if_neg (by omega), if_neg (by omega), if_neg (by omega), if_neg (by omega), if_neg (by omega), if_neg (by omega), if_neg (by omega), if_neg (by omega), if_neg (by omega)]
theorem own_k11 (x : Int) (h : 248 ≤ x) (h' : x ≤ 767) : own_nsI x = 1 := by
  rw [own_nsI, if_neg (by omega), if_neg (by omega), if_neg (by omega), if_neg (by omega), if_neg (by omega), if_pos (by omega)]
theorem own_k12 (x : Int) (h : 768 ≤ x) (h' : x ≤ 879) : own_nsI x = 0 := by
  rw [own_nsI, if_neg (by omega), if_neg (by omega), if_neg (by omega), if_neg (by omega), if_neg (by omega), if_neg (by omega), if_neg (by omega), if_neg (by omega), if_neg (by omega), if_neg (by omega), if_neg (by omega), if_neg (by omega), if_neg (by omega), if_neg (by omega), if_neg (by omega), if_neg (by omega)]
theorem own_k13 (x : Int) (h : 880 ≤ x) (h' : x ≤ 893) : own_nsI x = 1 := by
  rw [own_nsI, if_neg (by omega), if_neg (by omega), if_neg (by omega), if_neg (by omega), if_neg (by omega), if_neg (by omega), if_pos (by omega)]
theorem own_k14 (x : Int) (h : 894 ≤ x) (h' : x ≤ 894) : own_nsI x = 0 := by
  rw [own_nsI, if_neg (by omega), if_neg (by omega), if_neg (by omega), if_neg (by omega), if_neg (by omega), if_neg (by omega), if_neg (by omega), if_neg (by omega), if_neg (by omega), if_neg (by omega), if_neg (by omega), if_neg (by omega), if_neg (by omega), if_neg (by omega), if_neg (by omega), if_neg (by omega)]
theorem own_k15 (x : Int) (h : 895 ≤ x) (h' : x ≤ 8191) : own_nsI x = 1 := by
  rw [own_nsI, if_neg (by omega), if_neg (by omega), if_neg (by omega), if_neg (by omega), if_neg (by omega), if_neg (by omega), if_neg (by omega), if_pos (by omega)]
theorem own_k16 (x : Int) (h : 8192 ≤ x) (h' : x ≤ 8203) : own_nsI x = 0 := by
  rw [own_nsI, if_neg (by omega), if_neg (by omega), if_neg (by omega), if_neg (by omega), if_neg (by omega), if_neg (by omega), if_neg (by omega), if_neg (by omega), if_neg (by omega), if_neg (by omega), if_neg (by omega), if_neg (by omega), if_neg (by omega), if_neg (by omega), if_neg (by omega), if_neg (by omega)]
theorem own_k17 (x : Int) (h : 8204 ≤ x) (h' : x ≤ 8205) : own_nsI x = 1 := by
  rw [own_nsI, if_neg (by omega), if_neg (by omega), if_neg (by omega), if_neg (by omega), if_neg (by omega), if_neg (by omega), if_neg (by omega), if_neg (by omega)]
  by_cases q : x = 8204
  · rw [if_pos q]
  · rw [if_neg q, if_pos (by omega)]
theorem own_k18 (x : Int) (h : 8206 ≤ x) (h' : x ≤ 8303) : own_nsI x = 0 := by
  rw [own_nsI, if_neg (by omega), if_neg (by omega), if_neg (by omega), if_neg (by omega), if_neg (by omega), if_neg (by omega), if_neg (by omega), if_neg (by omega), if_neg (by omega), if_neg (by omega), if_neg (by omega), if_neg (by omega), if_neg (by omega), if_neg (by omega), if_neg (by omega), if_neg (by omega)]
theorem own_k19 (x : Int) (h : 8304 ≤ x) (h' : x ≤ 8591) : own_nsI x = 1 := by
  rw [own_nsI, if_neg (by omega), if_neg (by omega), if_neg (by omega), if_neg (by omega), if_neg (by omega), if_neg (by omega), if_neg (by omega), if_neg (by omega), if_neg (by omega), if_neg (by omega), if_pos (by omega)]
theorem own_k20 (x : Int) (h : 8592 ≤ x) (h' : x ≤ 11263) : own_nsI x = 0 := by
  rw [own_nsI, if_neg (by omega), if_neg (by omega), if_neg (by omega), if_neg (by omega), if_neg (by omega), if_neg (by omega), if_neg (by omega), if_neg (by omega), if_neg (by omega), if_neg (by omega), if_neg (by omega), if_neg (by omega), if_neg (by omega), if_neg (by omega), if_neg (by omega), if_neg (by omega)]
theorem own_k21 (x : Int) (h : 11264 ≤ x) (h' : x ≤ 12271) : own_nsI x = 1 := by
  rw [own_nsI, if_neg (by omega), if_neg (by omega), if_neg (by omega), if_neg (by omega), if_neg (by omega), if_neg (by omega), if_neg (by omega), if_neg (by omega), if_neg (by omega), if_neg (by omega), if_neg (by omega), if_pos (by omega)]
theorem own_k22 (x : Int) (h : 12272 ≤ x) (h' : x ≤ 12288) : own_nsI x = 0 := by
  rw [own_nsI, if_neg (by omega), if_neg (by omega), if_neg (by omega), if_neg (by omega), if_neg (by omega), if_neg (by omega), if_neg (by omega), if_neg (by omega), if_neg (by omega), if_neg (by omega), if_neg (by omega), if_neg (by omega), if_neg (by omega), if_neg (by omega), if_neg (by omega), if_neg (by omega)]
theorem own_k23 (x : Int) (h : 12289 ≤ x) (h' : x ≤ 55295) : own_nsI x = 1 := by
  rw [own_nsI, if_neg (by omega), if_neg (by omega), if_neg (by omega), if_neg (by omega), if_neg (by omega), if_neg (by omega), if_neg (by omega), if_neg (by omega), if_neg (by omega), if_neg (by omega), if_neg (by omega), if_neg (by omega), if_pos (by omega)]
theorem own_k24 (x : Int) (h : 55296 ≤ x) (h' : x ≤ 63743) : own_nsI x = 0 := by
  rw [own_nsI, if_neg (by omega), if_neg (by omega), if_neg (by omega), if_neg (by omega), if_neg (by omega), if_neg (by omega), if_neg (by omega), if_neg (by omega), if_neg (by omega), if_neg (by omega), if_neg (by omega), if_neg (by omega), if_neg (by omega), if_neg (by omega), if_neg (by omega), if_neg (by omega)]
theorem own_k25 (x : Int) (h : 63744 ≤ x) (h' : x ≤ 64975) : own_nsI x = 1 := by
  rw [own_nsI, if_neg (by omega), if_neg (by omega), if_neg (by omega), if_neg (by omega), if_neg (by omega), if_neg (by omega), if_neg (by omega), if_neg (by omega), if_neg (by omega), if_neg (by omega), if_neg (by omega), if_neg (by omega), if_neg (by omega), if_pos (by omega)]
theorem own_k26 (x : Int) (h : 64976 ≤ x) (h' : x ≤ 65007) : own_nsI x = 0 := by
  rw [own_nsI, if_neg (by omega), if_neg (by omega), if_neg (by omega), if_neg (by omega), if_neg (by omega), if_neg (by omega), if_neg (by omega), if_neg (by omega), if_neg (by omega), if_neg (by omega), if_neg (by omega), if_neg (by omega), if_neg (by omega), if_neg (by omega), if_neg (by omega), if_neg (by omega)]
theorem own_k27 (x : Int) (h : 65008 ≤ x) (h' : x ≤ 65533) : own_nsI x = 1 := by
  rw [own_nsI, if_neg (by omega), if_neg (by omega), if_neg (by omega), if_neg (by omega), if_neg (by omega), if_neg (by omega), if_neg (by omega), if_neg (by omega), if_neg (by omega), if_neg (by omega), if_neg (by omega), if_neg (by omega), if_neg (by omega), if_neg (by omega), if_pos (by omega)]
theorem own_k28 (x : Int) (h : 65534 ≤ x) (h' : x ≤ 65535) : own_nsI x = 0 := by
  rw [own_nsI, if_neg (by omega), if_neg (by omega), if_neg (by omega), if_neg (by omega), if_neg (by omega), if_neg (by omega), if_neg (by omega), if_neg (by omega), if_neg (by omega), if_neg (by omega), if_neg (by omega), if_neg (by omega), if_neg (by omega), if_neg (by omega), if_neg (by omega), if_neg (by omega)]
theorem own_k29 (x : Int) (h : 65536 ≤ x) (h' : x ≤ 983039) : own_nsI x = 1 := by
  rw [own_nsI, if_neg (by omega), if_neg (by omega), if_neg (by omega), if_neg (by omega), if_neg (by omega), if_neg (by omega), if_neg (by omega), if_neg (by omega), if_neg (by omega), if_neg (by omega), if_neg (by omega), if_neg (by omega), if_neg (by omega), if_neg (by omega), if_neg (by omega), if_pos (by omega)]
theorem own_k30 (x : Int) (h : 983040 ≤ x) (h' : x ≤ 2147483647) : own_nsI x = 0 := by
  rw [own_nsI, if_neg (by omega), if_neg (by omega), if_neg (by omega), if_neg (by omega), if_neg (by omega), if_neg (by omega), if_neg (by omega), if_neg (by omega), if_neg (by omega), if_neg (by omega), if_neg (by omega), if_neg (by omega), if_neg (by omega), if_neg (by omega), if_neg (by omega), if_neg (by omega)]
theorem own_key (n : Nat) (hn : n < 31) (x : Int) (h : own_lo n ≤ x) (h' : x ≤ own_hi n) : own_nsI x = own_wt n := by
  have c : n = 0 ∨ n = 1 ∨ n = 2 ∨ n = 3 ∨ n = 4 ∨ n = 5 ∨ n = 6 ∨ n = 7 ∨ n = 8 ∨ n = 9 ∨ n = 10 ∨ n = 11 ∨ n = 12 ∨ n = 13 ∨ n = 14 ∨ n = 15 ∨ n = 16 ∨ n = 17 ∨ n = 18 ∨ n = 19 ∨ n = 20 ∨ n = 21 ∨ n = 22 ∨ n = 23 ∨ n = 24 ∨ n = 25 ∨ n = 26 ∨ n = 27 ∨ n = 28 ∨ n = 29 ∨ n = 30 := by omega
  rcases c with rfl | rfl | rfl | rfl | rfl | rfl | rfl | rfl | rfl | rfl | rfl | rfl | rfl | rfl | rfl | rfl | rfl | rfl | rfl | rfl | rfl | rfl | rfl | rfl | rfl | rfl | rfl | rfl | rfl | rfl | rfl
  · exact own_k0 x h h'
  · exact own_k1 x h h'
  · exact own_k2 x h h'
  · exact own_k3 x h h'
  · exact own_k4 x h h'
  · exact own_k5 x h h'
  · exact own_k6 x h h'
  · exact own_k7 x h h'
  · exact own_k8 x h h'
  · exact own_k9 x h h'
  · exact own_k10 x h h'
  · exact own_k11 x h h'
  · exact own_k12 x h h'
  · exact own_k13 x h h'
  · exact own_k14 x h h'
  · exact own_k15 x h h'
  · exact own_k16 x h h'
  · exact own_k17 x h h'
  · exact own_k18 x h h'
  · exact own_k19 x h h'
  · exact own_k20 x h h'
  · exact own_k21 x h h'
  · exact own_k22 x h h'
  · exact own_k23 x h h'
  · exact own_k24 x h h'
  · exact own_k25 x h h'
  · exact own_k26 x h h'
  · exact own_k27 x h h'
  · exact own_k28 x h h'
  · exact own_k29 x h h'
  · exact own_k30 x h h'
theorem own_i {k i : Int32} (h : i = ((k &&& (2147483647 : Int32)) - ((k &&& (2147483647 : Int32)) / (31 : Int32)) * (31 : Int32))) : 0 ≤ i.toInt ∧ i.toInt ≤ 30 := by
  have hm := c_and k 2147483647 (by decide)
  rw [irem_eq_mod] at h
  generalize k &&& (2147483647 : Int32) = q at hm h
  have hr := (c_irem q 31 31 (by decide)).1 hm.1
  subst h
  omega
theorem own_facts {i : Int32} (h0 : 0 ≤ i.toInt) (h1 : i.toInt ≤ 30) : ∃ n : Nat, n < 31 ∧ (own_start i).toInt = own_lo n ∧ (own_end i).toInt = own_hi n ∧ own_want i = own_wt n ∧ -2147483648 ≤ own_lo n ∧ own_lo n ≤ own_hi n ∧ own_hi n ≤ 2147483647 := by
  have h := own_tbl ⟨i.toInt.toNat, by omega⟩
  have e : Int32.ofInt ((i.toInt.toNat : Nat) : Int) = i := by rw [Int.toNat_of_nonneg h0]; exact Int32.ofInt_toInt i
  dsimp only at h
  rw [e] at h
  exact ⟨i.toInt.toNat, by omega, h⟩
theorem own_at {n : Nat} (hn : n < 31) {y : Int64} (h0 : own_lo n ≤ y.toInt) (h1 : y.toInt ≤ own_hi n) (r0 : -2147483648 ≤ own_lo n) (r1 : own_hi n ≤ 2147483647) : own_ns y.toInt32 = own_wt n := by
  have c := c_l2i y
  have r := rng32 y.toInt32
  have e : y.toInt32.toInt = y.toInt := by omega
  rw [own_nsE, e]
  exact own_key n hn _ h0 h1
theorem own_ends {i : Int32} (h0 : 0 ≤ i.toInt) (h1 : i.toInt ≤ 30) : own_ns (own_start i).toInt32 = own_want i ∧ own_ns (own_end i).toInt32 = own_want i := by
  obtain ⟨n, hn, a, b, c, d, e, f⟩ := own_facts h0 h1
  rw [c]
  exact ⟨own_at hn (by omega) (by omega) d f, own_at hn (by omega) (by omega) d f⟩
theorem own_size {i : Int32} (h0 : 0 ≤ i.toInt) (h1 : i.toInt ≤ 30) : ((own_end i - own_start i) + (1 : Int64)).toInt = (own_end i).toInt - (own_start i).toInt + 1 ∧ (own_start i).toInt ≤ (own_end i).toInt ∧ -2147483648 ≤ (own_start i).toInt ∧ (own_end i).toInt ≤ 2147483647 := by
  obtain ⟨n, hn, a, b, c, d, e, f⟩ := own_facts h0 h1
  have s1 := c_lsub (own_end i) (own_start i)
  have r1 := rng64 (own_end i - own_start i)
  have s2 := c_ladd (own_end i - own_start i) 1
  have r2 := rng64 (own_end i - own_start i + 1)
  rw [show (1 : Int64).toInt = 1 from by decide] at s2
  omega
theorem own_nz {i : Int32} (h0 : 0 ≤ i.toInt) (h1 : i.toInt ≤ 30) : ((own_end i - own_start i) + (1 : Int64)) ≠ 0 := by
  intro q
  have h := own_size h0 h1
  rw [q, show (0 : Int64).toInt = 0 from by decide] at h
  omega
theorem own_mid {i off : Int32} {y : Int64} (h0 : 0 ≤ i.toInt) (h1 : i.toInt ≤ 30) (hy : y = (own_start i + (((off.toInt64) &&& (4294967295 : Int64)) - (((off.toInt64) &&& (4294967295 : Int64)) / ((own_end i - own_start i) + (1 : Int64))) * ((own_end i - own_start i) + (1 : Int64))))) : own_ns y.toInt32 = own_want i := by
  obtain ⟨n, hn, a, b, c, d, e, f⟩ := own_facts h0 h1
  have hs := own_size h0 h1
  have hm := c_maskL off.toInt64 4294967295 32 (by decide) (by decide +kernel)
  rw [show ((2 ^ 32 : Nat) : Int) = 4294967296 from by decide] at hm
  generalize (off.toInt64) &&& (4294967295 : Int64) = u at hm hy
  generalize (own_end i - own_start i) + (1 : Int64) = sz at hs hy
  have hr := (c_lrem u sz sz.toInt rfl).1 (by omega)
  generalize u - u / sz * sz = r at hr hy
  have e1 := Int.emod_nonneg u.toInt (b := sz.toInt) (by omega)
  have e2 := Int.emod_lt_of_pos u.toInt (b := sz.toInt) (by omega)
  have s1 := c_ladd (own_start i) r
  have r1 := rng64 (own_start i + r)
  subst hy
  rw [c]
  exact own_at hn (by omega) (by omega) d f
theorem own_ix1 {i : Int32} (h0 : 0 ≤ i.toInt) (h1 : i.toInt ≤ 30) (hne : ¬ i = (0 : Int32)) : ¬ (i - (1 : Int32)) < 0 ∧ (i - (1 : Int32)).toNatClampNeg < 30 := by
  have h2 : ¬ i.toInt = 0 := fun q => hne (Int32.toInt_inj.mp (q.trans (by decide)))
  have hs := c_isub i 1
  rw [show (1 : Int32).toInt = 1 from by decide] at hs
  have rr := rng32 (i - 1)
  have a2 : ¬ (i - 1) < 0 := by rw [Int32.lt_iff_toInt_lt, show (0 : Int32).toInt = 0 from by decide]; omega
  have n2 := nat_of a2
  exact ⟨a2, by omega⟩
theorem own_ix2 {i : Int32} (h0 : 0 ≤ i.toInt) (h1 : i.toInt ≤ 30) (hne : ¬ i = (30 : Int32)) : ¬ i < 0 ∧ i.toNatClampNeg < 30 := by
  have h2 : ¬ i.toInt = 30 := fun q => hne (Int32.toInt_inj.mp (q.trans (by decide)))
  have a2 : ¬ i < 0 := by rw [Int32.lt_iff_toInt_lt, show (0 : Int32).toInt = 0 from by decide]; omega
  have n2 := nat_of a2
  exact ⟨a2, by omega⟩
def own_pt (k j : Nat) : Value := if j < k then .int (own_tab j) else .int 0
theorem own_ptS (k : Nat) {c v : Int32} (hc : c.toNatClampNeg = k) (hv : own_tab k = v) (j : Nat) : (if j = c.toNatClampNeg then Value.int v else own_pt k j) = own_pt (k + 1) j := by
  rw [hc]
  unfold own_pt
  by_cases q : j = k
  · rw [if_pos q, if_pos (by omega), q, hv]
  · rw [if_neg q]
    by_cases r : j < k
    · rw [if_pos r, if_pos (by omega)]
    · rw [if_neg r, if_neg (by omega)]
theorem pn_rm0 : plainName "com/example/eventloom/eventloom/XmlCharsIsNameStartCharPinLaw" = true := by first | (simp [plainName, overriddenIn]; done) | decide +kernel
theorem ef_rm0 (m : MethodId) (x0 : Int32) (x1 : Int32) : entryFrame m #[(.int x0), (.int x1)] maxLocals = mkF m 0 #[.val (.int x0), .val (.int x1), .unset, .unset, .unset, .unset, .unset, .unset, .unset, .unset, .unset, .unset, .unset] [] := by first | (simp [entryFrame, mkF, argsToLocals, Value.category, maxLocals]; done) | rfl
def Q_rm0 (Z : State) (p1 : Int32) (p2 : Int32) (h0 : Heap) (n0 : Nat) (v : Option Value) (h : Heap) (L : List Loc) : Prop := v = some (.int 1) ∧ Fr n0 L
set_option maxRecDepth 65536 in
set_option maxHeartbeats 40000000 in
theorem rm0 (l : Launch) (Z : State) (a0 : Array Value) (hw : ∀ d ∈ tables_1, d.before a0 Z = true) (ws : List Jvm.Cond) (p1 : Int32) (p2 : Int32) (h0 : Heap) (n0 : Nat) (Z0 : n0 ≤ h0.size) :
    MetFree l x (head1 (Jvm.Cond.code x code maxLocals ret :: ws) room_1) (fun a U => a = #[(.int p1), (.int p2)] ∧ Z.Warmed39 U.vm ∧ U.heap = h0) (fun _ _ _ _ _ => True) (fun _ U o U' => ∃ v L, o = .returned v ∧ Q_rm0 Z p1 p2 h0 n0 v U'.heap L ∧ FrameEnd U o U' L room_1.cells room_1.slots) := by
  refine MetFree.of_bodySF (plainFor_of_name pn_rm0) hisR ?_
  intro p e s m args below meth c s₁ Bd hml0 hP hK
  obtain ⟨rfl, hZ, hh⟩ := hP
  have hx := Bd.exec
  have hby := Bd.bytes
  have hml : c.maxLocals = 13 := hml0
  have hown : s.vm.findClass "com/example/eventloom/eventloom/XmlCharsIsNameStartCharPinLaw" = some m.cls := findClass_of_methodNamed Bd.named
  have hnm := (name_of_methodNamed Bd.named Bd.method).1
  have X0 : Stand p l e room_1 s m #[(.int p1), (.int p2)] below meth c s₁ [] 0 0 := Stand.of_body Bd
  have e0 : s₁.heap = h0 := by rw [← hh, Bd.state]; rfl
  have N0 := Fr.nil n0
  have pre0 : ∀ t, Steps p.tables e below (s₁.setTop (mkF m 0 #[.val (.int p1), .val (.int p2), .unset, .unset, .unset, .unset, .unset, .unset, .unset, .unset, .unset, .unset, .unset] [])) t → Steps p.tables e below (s₁.setTop (entryFrame m #[(.int p1), (.int p2)] maxLocals)) t := fun t k => castTop (ef_rm0 m p1 p2) k
  obtain ⟨T1, h1, k1, X1, e1, E1, A1, st1⟩ := newP X0 hx hZ (hw _ (List.mem_of_getElem? (i := 0) rfl)) e0 (g := (mkF m 2 #[.val (.int p1), .val (.int p2), .unset, .unset, .unset, .unset, .unset, .unset, .unset, .unset, .unset, .unset, .unset] [(.int (30 : Int32))])) rfl (hb hby at_2) rfl (by decide) (cap := 30) (by decide) (by decide) (by decide) (by decide)
  obtain ⟨b1, g1⟩ : ∃ z, z = h0.size := ⟨_, rfl⟩
  rw [← g1] at A1 st1
  have g_b1 : n0 ≤ b1 := Nat.le_trans Z0 (Nat.le_of_eq g1.symm)
  have Z1 : n0 ≤ h1.size := Nat.le_trans Z0 E1.1
  have V1_v1 : ArF Z h1 b1 .int 30 (fun _ => (.int 0)) := ArF.mk0 A1 rfl rfl
  have pre3 : ∀ t, Steps p.tables e below (T1.setTop (mkF m 4 #[.val (.int p1), .val (.int p2), .unset, .unset, .unset, .unset, .unset, .unset, .unset, .unset, .unset, .unset, .unset] [(.ref b1)])) t → Steps p.tables e below (s₁.setTop (entryFrame m #[(.int p1), (.int p2)] maxLocals)) t := by
    intro t k
    refine pre0 t ?_
    show Steps p.tables e below (s₁.setTop (mkF m 0 #[.val (.int p1), .val (.int p2), .unset, .unset, .unset, .unset, .unset, .unset, .unset, .unset, .unset, .unset, .unset] [])) _
    refine XS.bipush X0.here hx rfl (hb hby at_0) ?_
    show Steps p.tables e below (s₁.setTop (mkF m 2 #[.val (.int p1), .val (.int p2), .unset, .unset, .unset, .unset, .unset, .unset, .unset, .unset, .unset, .unset, .unset] [(.int (30 : Int32))])) _
    refine st1 _ ?_
    exact k
  have VP2_v2 : ArF Z h1 b1 .int 30 (own_pt 0) := V1_v1.congr (fun j hj => (if_neg (Nat.not_lt_zero j)).symm)
  obtain ⟨cl4, Ar4, S4, H4⟩ := id VP2_v2
  have hin4 : ¬ ((0 : Int32) < 0 ∨ cl4.slots.size ≤ ((0 : Int32)).toNatClampNeg) := inA S4 (by decide) (by decide)
  obtain ⟨T4, h4, X4, e4, W4, st4⟩ := stI X1 hx hZ e1 Ar4 (j := (0 : Int32)) hin4 (g := (mkF m 8 #[.val (.int p1), .val (.int p2), .unset, .unset, .unset, .unset, .unset, .unset, .unset, .unset, .unset, .unset, .unset] [(.int (65 : Int32)), (.int (0 : Int32)), (.ref b1), (.ref b1)])) rfl rfl (hb hby at_8)
  have Z4 : n0 ≤ h4.size := Nat.le_trans Z1 (Nat.le_of_eq W4.size.symm)
  have V4_v4 := ArF.set Ar4 S4 H4 W4 hin4
  have N4 := Fr.snoc X4 N0 g_b1
  have VP5_v5 : ArF Z h4 b1 .int 30 (own_pt 1) := V4_v4.congr (fun j hj => own_ptS 0 (by decide) rfl j)
  obtain ⟨cl6, Ar6, S6, H6⟩ := id VP5_v5
  have hin6 : ¬ ((1 : Int32) < 0 ∨ cl6.slots.size ≤ ((1 : Int32)).toNatClampNeg) := inA S6 (by decide) (by decide)
  obtain ⟨T6, h6, X6, e6, W6, st6⟩ := stI X4 hx hZ e4 Ar6 (j := (1 : Int32)) hin6 (g := (mkF m 13 #[.val (.int p1), .val (.int p2), .unset, .unset, .unset, .unset, .unset, .unset, .unset, .unset, .unset, .unset, .unset] [(.int (91 : Int32)), (.int (1 : Int32)), (.ref b1), (.ref b1)])) rfl rfl (hb hby at_13)
  have Z6 : n0 ≤ h6.size := Nat.le_trans Z4 (Nat.le_of_eq W6.size.symm)
  have V6_v6 := ArF.set Ar6 S6 H6 W6 hin6
  have N6 := Fr.snoc X6 N4 g_b1
  have VP7_v7 : ArF Z h6 b1 .int 30 (own_pt 2) := V6_v6.congr (fun j hj => own_ptS 1 (by decide) rfl j)
  obtain ⟨cl8, Ar8, S8, H8⟩ := id VP7_v7
  have hin8 : ¬ ((2 : Int32) < 0 ∨ cl8.slots.size ≤ ((2 : Int32)).toNatClampNeg) := inA S8 (by decide) (by decide)
  obtain ⟨T8, h8, X8, e8, W8, st8⟩ := stI X6 hx hZ e6 Ar8 (j := (2 : Int32)) hin8 (g := (mkF m 18 #[.val (.int p1), .val (.int p2), .unset, .unset, .unset, .unset, .unset, .unset, .unset, .unset, .unset, .unset, .unset] [(.int (95 : Int32)), (.int (2 : Int32)), (.ref b1), (.ref b1)])) rfl rfl (hb hby at_18)
  have Z8 : n0 ≤ h8.size := Nat.le_trans Z6 (Nat.le_of_eq W8.size.symm)
  have V8_v8 := ArF.set Ar8 S8 H8 W8 hin8
  have N8 := Fr.snoc X8 N6 g_b1
  have pre10 : ∀ t, Steps p.tables e below (T8.setTop (mkF m 19 #[.val (.int p1), .val (.int p2), .unset, .unset, .unset, .unset, .unset, .unset, .unset, .unset, .unset, .unset, .unset] [(.ref b1)])) t → Steps p.tables e below (s₁.setTop (entryFrame m #[(.int p1), (.int p2)] maxLocals)) t := by
    intro t k
    refine pre3 t ?_
    show Steps p.tables e below (T1.setTop (mkF m 4 #[.val (.int p1), .val (.int p2), .unset, .unset, .unset, .unset, .unset, .unset, .unset, .unset, .unset, .unset, .unset] [(.ref b1)])) _
    refine XS.dup X1.here hx rfl (hb hby at_4) rfl rfl ?_
    show Steps p.tables e below (T1.setTop (mkF m 5 #[.val (.int p1), .val (.int p2), .unset, .unset, .unset, .unset, .unset, .unset, .unset, .unset, .unset, .unset, .unset] [(.ref b1), (.ref b1)])) _
    refine XS.iconst X1.here hx rfl (hb hby at_5) ?_
    show Steps p.tables e below (T1.setTop (mkF m 6 #[.val (.int p1), .val (.int p2), .unset, .unset, .unset, .unset, .unset, .unset, .unset, .unset, .unset, .unset, .unset] [(.int (0 : Int32)), (.ref b1), (.ref b1)])) _
    refine XS.bipush X1.here hx rfl (hb hby at_6) ?_
    show Steps p.tables e below (T1.setTop (mkF m 8 #[.val (.int p1), .val (.int p2), .unset, .unset, .unset, .unset, .unset, .unset, .unset, .unset, .unset, .unset, .unset] [(.int (65 : Int32)), (.int (0 : Int32)), (.ref b1), (.ref b1)])) _
    refine st4 _ ?_
    show Steps p.tables e below (T4.setTop (mkF m 9 #[.val (.int p1), .val (.int p2), .unset, .unset, .unset, .unset, .unset, .unset, .unset, .unset, .unset, .unset, .unset] [(.ref b1)])) _
    refine XS.dup X4.here hx rfl (hb hby at_9) rfl rfl ?_
    show Steps p.tables e below (T4.setTop (mkF m 10 #[.val (.int p1), .val (.int p2), .unset, .unset, .unset, .unset, .unset, .unset, .unset, .unset, .unset, .unset, .unset] [(.ref b1), (.ref b1)])) _
    refine XS.iconst X4.here hx rfl (hb hby at_10) ?_
    show Steps p.tables e below (T4.setTop (mkF m 11 #[.val (.int p1), .val (.int p2), .unset, .unset, .unset, .unset, .unset, .unset, .unset, .unset, .unset, .unset, .unset] [(.int (1 : Int32)), (.ref b1), (.ref b1)])) _
    refine XS.bipush X4.here hx rfl (hb hby at_11) ?_
    show Steps p.tables e below (T4.setTop (mkF m 13 #[.val (.int p1), .val (.int p2), .unset, .unset, .unset, .unset, .unset, .unset, .unset, .unset, .unset, .unset, .unset] [(.int (91 : Int32)), (.int (1 : Int32)), (.ref b1), (.ref b1)])) _
    refine st6 _ ?_
    show Steps p.tables e below (T6.setTop (mkF m 14 #[.val (.int p1), .val (.int p2), .unset, .unset, .unset, .unset, .unset, .unset, .unset, .unset, .unset, .unset, .unset] [(.ref b1)])) _
    refine XS.dup X6.here hx rfl (hb hby at_14) rfl rfl ?_
    show Steps p.tables e below (T6.setTop (mkF m 15 #[.val (.int p1), .val (.int p2), .unset, .unset, .unset, .unset, .unset, .unset, .unset, .unset, .unset, .unset, .unset] [(.ref b1), (.ref b1)])) _
    refine XS.iconst X6.here hx rfl (hb hby at_15) ?_
    show Steps p.tables e below (T6.setTop (mkF m 16 #[.val (.int p1), .val (.int p2), .unset, .unset, .unset, .unset, .unset, .unset, .unset, .unset, .unset, .unset, .unset] [(.int (2 : Int32)), (.ref b1), (.ref b1)])) _
    refine XS.bipush X6.here hx rfl (hb hby at_16) ?_
    show Steps p.tables e below (T6.setTop (mkF m 18 #[.val (.int p1), .val (.int p2), .unset, .unset, .unset, .unset, .unset, .unset, .unset, .unset, .unset, .unset, .unset] [(.int (95 : Int32)), (.int (2 : Int32)), (.ref b1), (.ref b1)])) _
    refine st8 _ ?_
    exact k
  have VP9_v9 : ArF Z h8 b1 .int 30 (own_pt 3) := V8_v8.congr (fun j hj => own_ptS 2 (by decide) rfl j)
  obtain ⟨cl11, Ar11, S11, H11⟩ := id VP9_v9
  have hin11 : ¬ ((3 : Int32) < 0 ∨ cl11.slots.size ≤ ((3 : Int32)).toNatClampNeg) := inA S11 (by decide) (by decide)
  obtain ⟨T11, h11, X11, e11, W11, st11⟩ := stI X8 hx hZ e8 Ar11 (j := (3 : Int32)) hin11 (g := (mkF m 23 #[.val (.int p1), .val (.int p2), .unset, .unset, .unset, .unset, .unset, .unset, .unset, .unset, .unset, .unset, .unset] [(.int (96 : Int32)), (.int (3 : Int32)), (.ref b1), (.ref b1)])) rfl rfl (hb hby at_23)
  have Z11 : n0 ≤ h11.size := Nat.le_trans Z8 (Nat.le_of_eq W11.size.symm)
  have V11_v11 := ArF.set Ar11 S11 H11 W11 hin11
  have N11 := Fr.snoc X11 N8 g_b1
  have VP12_v12 : ArF Z h11 b1 .int 30 (own_pt 4) := V11_v11.congr (fun j hj => own_ptS 3 (by decide) rfl j)
  obtain ⟨cl13, Ar13, S13, H13⟩ := id VP12_v12
  have hin13 : ¬ ((4 : Int32) < 0 ∨ cl13.slots.size ≤ ((4 : Int32)).toNatClampNeg) := inA S13 (by decide) (by decide)
  obtain ⟨T13, h13, X13, e13, W13, st13⟩ := stI X11 hx hZ e11 Ar13 (j := (4 : Int32)) hin13 (g := (mkF m 28 #[.val (.int p1), .val (.int p2), .unset, .unset, .unset, .unset, .unset, .unset, .unset, .unset, .unset, .unset, .unset] [(.int (97 : Int32)), (.int (4 : Int32)), (.ref b1), (.ref b1)])) rfl rfl (hb hby at_28)
  have Z13 : n0 ≤ h13.size := Nat.le_trans Z11 (Nat.le_of_eq W13.size.symm)
  have V13_v13 := ArF.set Ar13 S13 H13 W13 hin13
  have N13 := Fr.snoc X13 N11 g_b1
  have VP14_v14 : ArF Z h13 b1 .int 30 (own_pt 5) := V13_v13.congr (fun j hj => own_ptS 4 (by decide) rfl j)
  obtain ⟨cl15, Ar15, S15, H15⟩ := id VP14_v14
  have hin15 : ¬ ((5 : Int32) < 0 ∨ cl15.slots.size ≤ ((5 : Int32)).toNatClampNeg) := inA S15 (by decide) (by decide)
  obtain ⟨T15, h15, X15, e15, W15, st15⟩ := stI X13 hx hZ e13 Ar15 (j := (5 : Int32)) hin15 (g := (mkF m 33 #[.val (.int p1), .val (.int p2), .unset, .unset, .unset, .unset, .unset, .unset, .unset, .unset, .unset, .unset, .unset] [(.int (123 : Int32)), (.int (5 : Int32)), (.ref b1), (.ref b1)])) rfl rfl (hb hby at_33)
  have Z15 : n0 ≤ h15.size := Nat.le_trans Z13 (Nat.le_of_eq W15.size.symm)
  have V15_v15 := ArF.set Ar15 S15 H15 W15 hin15
  have N15 := Fr.snoc X15 N13 g_b1
  have pre17 : ∀ t, Steps p.tables e below (T15.setTop (mkF m 34 #[.val (.int p1), .val (.int p2), .unset, .unset, .unset, .unset, .unset, .unset, .unset, .unset, .unset, .unset, .unset] [(.ref b1)])) t → Steps p.tables e below (s₁.setTop (entryFrame m #[(.int p1), (.int p2)] maxLocals)) t := by
    intro t k
    refine pre10 t ?_
    show Steps p.tables e below (T8.setTop (mkF m 19 #[.val (.int p1), .val (.int p2), .unset, .unset, .unset, .unset, .unset, .unset, .unset, .unset, .unset, .unset, .unset] [(.ref b1)])) _
    refine XS.dup X8.here hx rfl (hb hby at_19) rfl rfl ?_
    show Steps p.tables e below (T8.setTop (mkF m 20 #[.val (.int p1), .val (.int p2), .unset, .unset, .unset, .unset, .unset, .unset, .unset, .unset, .unset, .unset, .unset] [(.ref b1), (.ref b1)])) _
    refine XS.iconst X8.here hx rfl (hb hby at_20) ?_
    show Steps p.tables e below (T8.setTop (mkF m 21 #[.val (.int p1), .val (.int p2), .unset, .unset, .unset, .unset, .unset, .unset, .unset, .unset, .unset, .unset, .unset] [(.int (3 : Int32)), (.ref b1), (.ref b1)])) _
    refine XS.bipush X8.here hx rfl (hb hby at_21) ?_
    show Steps p.tables e below (T8.setTop (mkF m 23 #[.val (.int p1), .val (.int p2), .unset, .unset, .unset, .unset, .unset, .unset, .unset, .unset, .unset, .unset, .unset] [(.int (96 : Int32)), (.int (3 : Int32)), (.ref b1), (.ref b1)])) _
    refine st11 _ ?_
    show Steps p.tables e below (T11.setTop (mkF m 24 #[.val (.int p1), .val (.int p2), .unset, .unset, .unset, .unset, .unset, .unset, .unset, .unset, .unset, .unset, .unset] [(.ref b1)])) _
    refine XS.dup X11.here hx rfl (hb hby at_24) rfl rfl ?_
    show Steps p.tables e below (T11.setTop (mkF m 25 #[.val (.int p1), .val (.int p2), .unset, .unset, .unset, .unset, .unset, .unset, .unset, .unset, .unset, .unset, .unset] [(.ref b1), (.ref b1)])) _
    refine XS.iconst X11.here hx rfl (hb hby at_25) ?_
    show Steps p.tables e below (T11.setTop (mkF m 26 #[.val (.int p1), .val (.int p2), .unset, .unset, .unset, .unset, .unset, .unset, .unset, .unset, .unset, .unset, .unset] [(.int (4 : Int32)), (.ref b1), (.ref b1)])) _
    refine XS.bipush X11.here hx rfl (hb hby at_26) ?_
    show Steps p.tables e below (T11.setTop (mkF m 28 #[.val (.int p1), .val (.int p2), .unset, .unset, .unset, .unset, .unset, .unset, .unset, .unset, .unset, .unset, .unset] [(.int (97 : Int32)), (.int (4 : Int32)), (.ref b1), (.ref b1)])) _
    refine st13 _ ?_
    show Steps p.tables e below (T13.setTop (mkF m 29 #[.val (.int p1), .val (.int p2), .unset, .unset, .unset, .unset, .unset, .unset, .unset, .unset, .unset, .unset, .unset] [(.ref b1)])) _
    refine XS.dup X13.here hx rfl (hb hby at_29) rfl rfl ?_
    show Steps p.tables e below (T13.setTop (mkF m 30 #[.val (.int p1), .val (.int p2), .unset, .unset, .unset, .unset, .unset, .unset, .unset, .unset, .unset, .unset, .unset] [(.ref b1), (.ref b1)])) _
    refine XS.iconst X13.here hx rfl (hb hby at_30) ?_
    show Steps p.tables e below (T13.setTop (mkF m 31 #[.val (.int p1), .val (.int p2), .unset, .unset, .unset, .unset, .unset, .unset, .unset, .unset, .unset, .unset, .unset] [(.int (5 : Int32)), (.ref b1), (.ref b1)])) _
    refine XS.bipush X13.here hx rfl (hb hby at_31) ?_
    show Steps p.tables e below (T13.setTop (mkF m 33 #[.val (.int p1), .val (.int p2), .unset, .unset, .unset, .unset, .unset, .unset, .unset, .unset, .unset, .unset, .unset] [(.int (123 : Int32)), (.int (5 : Int32)), (.ref b1), (.ref b1)])) _
    refine st15 _ ?_
    exact k
  have VP16_v16 : ArF Z h15 b1 .int 30 (own_pt 6) := V15_v15.congr (fun j hj => own_ptS 5 (by decide) rfl j)
  obtain ⟨cl18, Ar18, S18, H18⟩ := id VP16_v16
  have hin18 : ¬ ((6 : Int32) < 0 ∨ cl18.slots.size ≤ ((6 : Int32)).toNatClampNeg) := inA S18 (by decide) (by decide)
  obtain ⟨T18, h18, X18, e18, W18, st18⟩ := stI X15 hx hZ e15 Ar18 (j := (6 : Int32)) hin18 (g := (mkF m 40 #[.val (.int p1), .val (.int p2), .unset, .unset, .unset, .unset, .unset, .unset, .unset, .unset, .unset, .unset, .unset] [(.int (192 : Int32)), (.int (6 : Int32)), (.ref b1), (.ref b1)])) rfl rfl (hb hby at_40)
  have Z18 : n0 ≤ h18.size := Nat.le_trans Z15 (Nat.le_of_eq W18.size.symm)
  have V18_v18 := ArF.set Ar18 S18 H18 W18 hin18
  have N18 := Fr.snoc X18 N15 g_b1
  have VP19_v19 : ArF Z h18 b1 .int 30 (own_pt 7) := V18_v18.congr (fun j hj => own_ptS 6 (by decide) rfl j)
  obtain ⟨cl20, Ar20, S20, H20⟩ := id VP19_v19
  have hin20 : ¬ ((7 : Int32) < 0 ∨ cl20.slots.size ≤ ((7 : Int32)).toNatClampNeg) := inA S20 (by decide) (by decide)
  obtain ⟨T20, h20, X20, e20, W20, st20⟩ := stI X18 hx hZ e18 Ar20 (j := (7 : Int32)) hin20 (g := (mkF m 47 #[.val (.int p1), .val (.int p2), .unset, .unset, .unset, .unset, .unset, .unset, .unset, .unset, .unset, .unset, .unset] [(.int (215 : Int32)), (.int (7 : Int32)), (.ref b1), (.ref b1)])) rfl rfl (hb hby at_47)
  have Z20 : n0 ≤ h20.size := Nat.le_trans Z18 (Nat.le_of_eq W20.size.symm)
  have V20_v20 := ArF.set Ar20 S20 H20 W20 hin20
  have N20 := Fr.snoc X20 N18 g_b1
  have VP21_v21 : ArF Z h20 b1 .int 30 (own_pt 8) := V20_v20.congr (fun j hj => own_ptS 7 (by decide) rfl j)
  obtain ⟨cl22, Ar22, S22, H22⟩ := id VP21_v21
  have hin22 : ¬ ((8 : Int32) < 0 ∨ cl22.slots.size ≤ ((8 : Int32)).toNatClampNeg) := inA S22 (by decide) (by decide)
  obtain ⟨T22, h22, X22, e22, W22, st22⟩ := stI X20 hx hZ e20 Ar22 (j := (8 : Int32)) hin22 (g := (mkF m 54 #[.val (.int p1), .val (.int p2), .unset, .unset, .unset, .unset, .unset, .unset, .unset, .unset, .unset, .unset, .unset] [(.int (216 : Int32)), (.int (8 : Int32)), (.ref b1), (.ref b1)])) rfl rfl (hb hby at_54)
  have Z22 : n0 ≤ h22.size := Nat.le_trans Z20 (Nat.le_of_eq W22.size.symm)
  have V22_v22 := ArF.set Ar22 S22 H22 W22 hin22
  have N22 := Fr.snoc X22 N20 g_b1
  have pre24 : ∀ t, Steps p.tables e below (T22.setTop (mkF m 55 #[.val (.int p1), .val (.int p2), .unset, .unset, .unset, .unset, .unset, .unset, .unset, .unset, .unset, .unset, .unset] [(.ref b1)])) t → Steps p.tables e below (s₁.setTop (entryFrame m #[(.int p1), (.int p2)] maxLocals)) t := by
    intro t k
    refine pre17 t ?_
    show Steps p.tables e below (T15.setTop (mkF m 34 #[.val (.int p1), .val (.int p2), .unset, .unset, .unset, .unset, .unset, .unset, .unset, .unset, .unset, .unset, .unset] [(.ref b1)])) _
    refine XS.dup X15.here hx rfl (hb hby at_34) rfl rfl ?_
    show Steps p.tables e below (T15.setTop (mkF m 35 #[.val (.int p1), .val (.int p2), .unset, .unset, .unset, .unset, .unset, .unset, .unset, .unset, .unset, .unset, .unset] [(.ref b1), (.ref b1)])) _
    refine XS.bipush X15.here hx rfl (hb hby at_35) ?_
    show Steps p.tables e below (T15.setTop (mkF m 37 #[.val (.int p1), .val (.int p2), .unset, .unset, .unset, .unset, .unset, .unset, .unset, .unset, .unset, .unset, .unset] [(.int (6 : Int32)), (.ref b1), (.ref b1)])) _
    refine XS.sipush X15.here hx rfl (hb hby at_37) ?_
    show Steps p.tables e below (T15.setTop (mkF m 40 #[.val (.int p1), .val (.int p2), .unset, .unset, .unset, .unset, .unset, .unset, .unset, .unset, .unset, .unset, .unset] [(.int (192 : Int32)), (.int (6 : Int32)), (.ref b1), (.ref b1)])) _
    refine st18 _ ?_
    show Steps p.tables e below (T18.setTop (mkF m 41 #[.val (.int p1), .val (.int p2), .unset, .unset, .unset, .unset, .unset, .unset, .unset, .unset, .unset, .unset, .unset] [(.ref b1)])) _
    refine XS.dup X18.here hx rfl (hb hby at_41) rfl rfl ?_
    show Steps p.tables e below (T18.setTop (mkF m 42 #[.val (.int p1), .val (.int p2), .unset, .unset, .unset, .unset, .unset, .unset, .unset, .unset, .unset, .unset, .unset] [(.ref b1), (.ref b1)])) _
    refine XS.bipush X18.here hx rfl (hb hby at_42) ?_
    show Steps p.tables e below (T18.setTop (mkF m 44 #[.val (.int p1), .val (.int p2), .unset, .unset, .unset, .unset, .unset, .unset, .unset, .unset, .unset, .unset, .unset] [(.int (7 : Int32)), (.ref b1), (.ref b1)])) _
    refine XS.sipush X18.here hx rfl (hb hby at_44) ?_
    show Steps p.tables e below (T18.setTop (mkF m 47 #[.val (.int p1), .val (.int p2), .unset, .unset, .unset, .unset, .unset, .unset, .unset, .unset, .unset, .unset, .unset] [(.int (215 : Int32)), (.int (7 : Int32)), (.ref b1), (.ref b1)])) _
    refine st20 _ ?_
    show Steps p.tables e below (T20.setTop (mkF m 48 #[.val (.int p1), .val (.int p2), .unset, .unset, .unset, .unset, .unset, .unset, .unset, .unset, .unset, .unset, .unset] [(.ref b1)])) _
    refine XS.dup X20.here hx rfl (hb hby at_48) rfl rfl ?_
    show Steps p.tables e below (T20.setTop (mkF m 49 #[.val (.int p1), .val (.int p2), .unset, .unset, .unset, .unset, .unset, .unset, .unset, .unset, .unset, .unset, .unset] [(.ref b1), (.ref b1)])) _
    refine XS.bipush X20.here hx rfl (hb hby at_49) ?_
    show Steps p.tables e below (T20.setTop (mkF m 51 #[.val (.int p1), .val (.int p2), .unset, .unset, .unset, .unset, .unset, .unset, .unset, .unset, .unset, .unset, .unset] [(.int (8 : Int32)), (.ref b1), (.ref b1)])) _
    refine XS.sipush X20.here hx rfl (hb hby at_51) ?_
    show Steps p.tables e below (T20.setTop (mkF m 54 #[.val (.int p1), .val (.int p2), .unset, .unset, .unset, .unset, .unset, .unset, .unset, .unset, .unset, .unset, .unset] [(.int (216 : Int32)), (.int (8 : Int32)), (.ref b1), (.ref b1)])) _
    refine st22 _ ?_
    exact k
  have VP23_v23 : ArF Z h22 b1 .int 30 (own_pt 9) := V22_v22.congr (fun j hj => own_ptS 8 (by decide) rfl j)
  obtain ⟨cl25, Ar25, S25, H25⟩ := id VP23_v23
  have hin25 : ¬ ((9 : Int32) < 0 ∨ cl25.slots.size ≤ ((9 : Int32)).toNatClampNeg) := inA S25 (by decide) (by decide)
  obtain ⟨T25, h25, X25, e25, W25, st25⟩ := stI X22 hx hZ e22 Ar25 (j := (9 : Int32)) hin25 (g := (mkF m 61 #[.val (.int p1), .val (.int p2), .unset, .unset, .unset, .unset, .unset, .unset, .unset, .unset, .unset, .unset, .unset] [(.int (247 : Int32)), (.int (9 : Int32)), (.ref b1), (.ref b1)])) rfl rfl (hb hby at_61)
  have Z25 : n0 ≤ h25.size := Nat.le_trans Z22 (Nat.le_of_eq W25.size.symm)
  have V25_v25 := ArF.set Ar25 S25 H25 W25 hin25
  have N25 := Fr.snoc X25 N22 g_b1
  have VP26_v26 : ArF Z h25 b1 .int 30 (own_pt 10) := V25_v25.congr (fun j hj => own_ptS 9 (by decide) rfl j)
  obtain ⟨cl27, Ar27, S27, H27⟩ := id VP26_v26
  have hin27 : ¬ ((10 : Int32) < 0 ∨ cl27.slots.size ≤ ((10 : Int32)).toNatClampNeg) := inA S27 (by decide) (by decide)
  obtain ⟨T27, h27, X27, e27, W27, st27⟩ := stI X25 hx hZ e25 Ar27 (j := (10 : Int32)) hin27 (g := (mkF m 68 #[.val (.int p1), .val (.int p2), .unset, .unset, .unset, .unset, .unset, .unset, .unset, .unset, .unset, .unset, .unset] [(.int (248 : Int32)), (.int (10 : Int32)), (.ref b1), (.ref b1)])) rfl rfl (hb hby at_68)
  have Z27 : n0 ≤ h27.size := Nat.le_trans Z25 (Nat.le_of_eq W27.size.symm)
  have V27_v27 := ArF.set Ar27 S27 H27 W27 hin27
  have N27 := Fr.snoc X27 N25 g_b1
  have VP28_v28 : ArF Z h27 b1 .int 30 (own_pt 11) := V27_v27.congr (fun j hj => own_ptS 10 (by decide) rfl j)
  obtain ⟨cl29, Ar29, S29, H29⟩ := id VP28_v28
  have hin29 : ¬ ((11 : Int32) < 0 ∨ cl29.slots.size ≤ ((11 : Int32)).toNatClampNeg) := inA S29 (by decide) (by decide)
  obtain ⟨T29, h29, X29, e29, W29, st29⟩ := stI X27 hx hZ e27 Ar29 (j := (11 : Int32)) hin29 (g := (mkF m 75 #[.val (.int p1), .val (.int p2), .unset, .unset, .unset, .unset, .unset, .unset, .unset, .unset, .unset, .unset, .unset] [(.int (768 : Int32)), (.int (11 : Int32)), (.ref b1), (.ref b1)])) rfl rfl (hb hby at_75)
  have Z29 : n0 ≤ h29.size := Nat.le_trans Z27 (Nat.le_of_eq W29.size.symm)
  have V29_v29 := ArF.set Ar29 S29 H29 W29 hin29
  have N29 := Fr.snoc X29 N27 g_b1
  have pre31 : ∀ t, Steps p.tables e below (T29.setTop (mkF m 76 #[.val (.int p1), .val (.int p2), .unset, .unset, .unset, .unset, .unset, .unset, .unset, .unset, .unset, .unset, .unset] [(.ref b1)])) t → Steps p.tables e below (s₁.setTop (entryFrame m #[(.int p1), (.int p2)] maxLocals)) t := by
    intro t k
    refine pre24 t ?_
    show Steps p.tables e below (T22.setTop (mkF m 55 #[.val (.int p1), .val (.int p2), .unset, .unset, .unset, .unset, .unset, .unset, .unset, .unset, .unset, .unset, .unset] [(.ref b1)])) _
    refine XS.dup X22.here hx rfl (hb hby at_55) rfl rfl ?_
    show Steps p.tables e below (T22.setTop (mkF m 56 #[.val (.int p1), .val (.int p2), .unset, .unset, .unset, .unset, .unset, .unset, .unset, .unset, .unset, .unset, .unset] [(.ref b1), (.ref b1)])) _
    refine XS.bipush X22.here hx rfl (hb hby at_56) ?_
    show Steps p.tables e below (T22.setTop (mkF m 58 #[.val (.int p1), .val (.int p2), .unset, .unset, .unset, .unset, .unset, .unset, .unset, .unset, .unset, .unset, .unset] [(.int (9 : Int32)), (.ref b1), (.ref b1)])) _
    refine XS.sipush X22.here hx rfl (hb hby at_58) ?_
    show Steps p.tables e below (T22.setTop (mkF m 61 #[.val (.int p1), .val (.int p2), .unset, .unset, .unset, .unset, .unset, .unset, .unset, .unset, .unset, .unset, .unset] [(.int (247 : Int32)), (.int (9 : Int32)), (.ref b1), (.ref b1)])) _
    refine st25 _ ?_
    show Steps p.tables e below (T25.setTop (mkF m 62 #[.val (.int p1), .val (.int p2), .unset, .unset, .unset, .unset, .unset, .unset, .unset, .unset, .unset, .unset, .unset] [(.ref b1)])) _
    refine XS.dup X25.here hx rfl (hb hby at_62) rfl rfl ?_
    show Steps p.tables e below (T25.setTop (mkF m 63 #[.val (.int p1), .val (.int p2), .unset, .unset, .unset, .unset, .unset, .unset, .unset, .unset, .unset, .unset, .unset] [(.ref b1), (.ref b1)])) _
    refine XS.bipush X25.here hx rfl (hb hby at_63) ?_
    show Steps p.tables e below (T25.setTop (mkF m 65 #[.val (.int p1), .val (.int p2), .unset, .unset, .unset, .unset, .unset, .unset, .unset, .unset, .unset, .unset, .unset] [(.int (10 : Int32)), (.ref b1), (.ref b1)])) _
    refine XS.sipush X25.here hx rfl (hb hby at_65) ?_
    show Steps p.tables e below (T25.setTop (mkF m 68 #[.val (.int p1), .val (.int p2), .unset, .unset, .unset, .unset, .unset, .unset, .unset, .unset, .unset, .unset, .unset] [(.int (248 : Int32)), (.int (10 : Int32)), (.ref b1), (.ref b1)])) _
    refine st27 _ ?_
    show Steps p.tables e below (T27.setTop (mkF m 69 #[.val (.int p1), .val (.int p2), .unset, .unset, .unset, .unset, .unset, .unset, .unset, .unset, .unset, .unset, .unset] [(.ref b1)])) _
    refine XS.dup X27.here hx rfl (hb hby at_69) rfl rfl ?_
    show Steps p.tables e below (T27.setTop (mkF m 70 #[.val (.int p1), .val (.int p2), .unset, .unset, .unset, .unset, .unset, .unset, .unset, .unset, .unset, .unset, .unset] [(.ref b1), (.ref b1)])) _
    refine XS.bipush X27.here hx rfl (hb hby at_70) ?_
    show Steps p.tables e below (T27.setTop (mkF m 72 #[.val (.int p1), .val (.int p2), .unset, .unset, .unset, .unset, .unset, .unset, .unset, .unset, .unset, .unset, .unset] [(.int (11 : Int32)), (.ref b1), (.ref b1)])) _
    refine XS.sipush X27.here hx rfl (hb hby at_72) ?_
    show Steps p.tables e below (T27.setTop (mkF m 75 #[.val (.int p1), .val (.int p2), .unset, .unset, .unset, .unset, .unset, .unset, .unset, .unset, .unset, .unset, .unset] [(.int (768 : Int32)), (.int (11 : Int32)), (.ref b1), (.ref b1)])) _
    refine st29 _ ?_
    exact k
  have VP30_v30 : ArF Z h29 b1 .int 30 (own_pt 12) := V29_v29.congr (fun j hj => own_ptS 11 (by decide) rfl j)
  obtain ⟨cl32, Ar32, S32, H32⟩ := id VP30_v30
  have hin32 : ¬ ((12 : Int32) < 0 ∨ cl32.slots.size ≤ ((12 : Int32)).toNatClampNeg) := inA S32 (by decide) (by decide)
  obtain ⟨T32, h32, X32, e32, W32, st32⟩ := stI X29 hx hZ e29 Ar32 (j := (12 : Int32)) hin32 (g := (mkF m 82 #[.val (.int p1), .val (.int p2), .unset, .unset, .unset, .unset, .unset, .unset, .unset, .unset, .unset, .unset, .unset] [(.int (880 : Int32)), (.int (12 : Int32)), (.ref b1), (.ref b1)])) rfl rfl (hb hby at_82)
  have Z32 : n0 ≤ h32.size := Nat.le_trans Z29 (Nat.le_of_eq W32.size.symm)
  have V32_v32 := ArF.set Ar32 S32 H32 W32 hin32
  have N32 := Fr.snoc X32 N29 g_b1
  have VP33_v33 : ArF Z h32 b1 .int 30 (own_pt 13) := V32_v32.congr (fun j hj => own_ptS 12 (by decide) rfl j)
  obtain ⟨cl34, Ar34, S34, H34⟩ := id VP33_v33
  have hin34 : ¬ ((13 : Int32) < 0 ∨ cl34.slots.size ≤ ((13 : Int32)).toNatClampNeg) := inA S34 (by decide) (by decide)
  obtain ⟨T34, h34, X34, e34, W34, st34⟩ := stI X32 hx hZ e32 Ar34 (j := (13 : Int32)) hin34 (g := (mkF m 89 #[.val (.int p1), .val (.int p2), .unset, .unset, .unset, .unset, .unset, .unset, .unset, .unset, .unset, .unset, .unset] [(.int (894 : Int32)), (.int (13 : Int32)), (.ref b1), (.ref b1)])) rfl rfl (hb hby at_89)
  have Z34 : n0 ≤ h34.size := Nat.le_trans Z32 (Nat.le_of_eq W34.size.symm)
  have V34_v34 := ArF.set Ar34 S34 H34 W34 hin34
  have N34 := Fr.snoc X34 N32 g_b1
  have VP35_v35 : ArF Z h34 b1 .int 30 (own_pt 14) := V34_v34.congr (fun j hj => own_ptS 13 (by decide) rfl j)
  obtain ⟨cl36, Ar36, S36, H36⟩ := id VP35_v35
  have hin36 : ¬ ((14 : Int32) < 0 ∨ cl36.slots.size ≤ ((14 : Int32)).toNatClampNeg) := inA S36 (by decide) (by decide)
  obtain ⟨T36, h36, X36, e36, W36, st36⟩ := stI X34 hx hZ e34 Ar36 (j := (14 : Int32)) hin36 (g := (mkF m 96 #[.val (.int p1), .val (.int p2), .unset, .unset, .unset, .unset, .unset, .unset, .unset, .unset, .unset, .unset, .unset] [(.int (895 : Int32)), (.int (14 : Int32)), (.ref b1), (.ref b1)])) rfl rfl (hb hby at_96)
  have Z36 : n0 ≤ h36.size := Nat.le_trans Z34 (Nat.le_of_eq W36.size.symm)
  have V36_v36 := ArF.set Ar36 S36 H36 W36 hin36
  have N36 := Fr.snoc X36 N34 g_b1
  have pre38 : ∀ t, Steps p.tables e below (T36.setTop (mkF m 97 #[.val (.int p1), .val (.int p2), .unset, .unset, .unset, .unset, .unset, .unset, .unset, .unset, .unset, .unset, .unset] [(.ref b1)])) t → Steps p.tables e below (s₁.setTop (entryFrame m #[(.int p1), (.int p2)] maxLocals)) t := by
    intro t k
    refine pre31 t ?_
    show Steps p.tables e below (T29.setTop (mkF m 76 #[.val (.int p1), .val (.int p2), .unset, .unset, .unset, .unset, .unset, .unset, .unset, .unset, .unset, .unset, .unset] [(.ref b1)])) _
    refine XS.dup X29.here hx rfl (hb hby at_76) rfl rfl ?_
    show Steps p.tables e below (T29.setTop (mkF m 77 #[.val (.int p1), .val (.int p2), .unset, .unset, .unset, .unset, .unset, .unset, .unset, .unset, .unset, .unset, .unset] [(.ref b1), (.ref b1)])) _
    refine XS.bipush X29.here hx rfl (hb hby at_77) ?_
    show Steps p.tables e below (T29.setTop (mkF m 79 #[.val (.int p1), .val (.int p2), .unset, .unset, .unset, .unset, .unset, .unset, .unset, .unset, .unset, .unset, .unset] [(.int (12 : Int32)), (.ref b1), (.ref b1)])) _
    refine XS.sipush X29.here hx rfl (hb hby at_79) ?_
    show Steps p.tables e below (T29.setTop (mkF m 82 #[.val (.int p1), .val (.int p2), .unset, .unset, .unset, .unset, .unset, .unset, .unset, .unset, .unset, .unset, .unset] [(.int (880 : Int32)), (.int (12 : Int32)), (.ref b1), (.ref b1)])) _
    refine st32 _ ?_
    show Steps p.tables e below (T32.setTop (mkF m 83 #[.val (.int p1), .val (.int p2), .unset, .unset, .unset, .unset, .unset, .unset, .unset, .unset, .unset, .unset, .unset] [(.ref b1)])) _
    refine XS.dup X32.here hx rfl (hb hby at_83) rfl rfl ?_
    show Steps p.tables e below (T32.setTop (mkF m 84 #[.val (.int p1), .val (.int p2), .unset, .unset, .unset, .unset, .unset, .unset, .unset, .unset, .unset, .unset, .unset] [(.ref b1), (.ref b1)])) _
    refine XS.bipush X32.here hx rfl (hb hby at_84) ?_
    show Steps p.tables e below (T32.setTop (mkF m 86 #[.val (.int p1), .val (.int p2), .unset, .unset, .unset, .unset, .unset, .unset, .unset, .unset, .unset, .unset, .unset] [(.int (13 : Int32)), (.ref b1), (.ref b1)])) _
    refine XS.sipush X32.here hx rfl (hb hby at_86) ?_
    show Steps p.tables e below (T32.setTop (mkF m 89 #[.val (.int p1), .val (.int p2), .unset, .unset, .unset, .unset, .unset, .unset, .unset, .unset, .unset, .unset, .unset] [(.int (894 : Int32)), (.int (13 : Int32)), (.ref b1), (.ref b1)])) _
    refine st34 _ ?_
    show Steps p.tables e below (T34.setTop (mkF m 90 #[.val (.int p1), .val (.int p2), .unset, .unset, .unset, .unset, .unset, .unset, .unset, .unset, .unset, .unset, .unset] [(.ref b1)])) _
    refine XS.dup X34.here hx rfl (hb hby at_90) rfl rfl ?_
    show Steps p.tables e below (T34.setTop (mkF m 91 #[.val (.int p1), .val (.int p2), .unset, .unset, .unset, .unset, .unset, .unset, .unset, .unset, .unset, .unset, .unset] [(.ref b1), (.ref b1)])) _
    refine XS.bipush X34.here hx rfl (hb hby at_91) ?_
    show Steps p.tables e below (T34.setTop (mkF m 93 #[.val (.int p1), .val (.int p2), .unset, .unset, .unset, .unset, .unset, .unset, .unset, .unset, .unset, .unset, .unset] [(.int (14 : Int32)), (.ref b1), (.ref b1)])) _
    refine XS.sipush X34.here hx rfl (hb hby at_93) ?_
    show Steps p.tables e below (T34.setTop (mkF m 96 #[.val (.int p1), .val (.int p2), .unset, .unset, .unset, .unset, .unset, .unset, .unset, .unset, .unset, .unset, .unset] [(.int (895 : Int32)), (.int (14 : Int32)), (.ref b1), (.ref b1)])) _
    refine st36 _ ?_
    exact k
  have VP37_v37 : ArF Z h36 b1 .int 30 (own_pt 15) := V36_v36.congr (fun j hj => own_ptS 14 (by decide) rfl j)
  obtain ⟨cl39, Ar39, S39, H39⟩ := id VP37_v37
  have hin39 : ¬ ((15 : Int32) < 0 ∨ cl39.slots.size ≤ ((15 : Int32)).toNatClampNeg) := inA S39 (by decide) (by decide)
  obtain ⟨T39, h39, X39, e39, W39, st39⟩ := stI X36 hx hZ e36 Ar39 (j := (15 : Int32)) hin39 (g := (mkF m 103 #[.val (.int p1), .val (.int p2), .unset, .unset, .unset, .unset, .unset, .unset, .unset, .unset, .unset, .unset, .unset] [(.int (8192 : Int32)), (.int (15 : Int32)), (.ref b1), (.ref b1)])) rfl rfl (hb hby at_103)
  have Z39 : n0 ≤ h39.size := Nat.le_trans Z36 (Nat.le_of_eq W39.size.symm)
  have V39_v39 := ArF.set Ar39 S39 H39 W39 hin39
  have N39 := Fr.snoc X39 N36 g_b1
  have VP40_v40 : ArF Z h39 b1 .int 30 (own_pt 16) := V39_v39.congr (fun j hj => own_ptS 15 (by decide) rfl j)
  obtain ⟨cl41, Ar41, S41, H41⟩ := id VP40_v40
  have hin41 : ¬ ((16 : Int32) < 0 ∨ cl41.slots.size ≤ ((16 : Int32)).toNatClampNeg) := inA S41 (by decide) (by decide)
  obtain ⟨T41, h41, X41, e41, W41, st41⟩ := stI X39 hx hZ e39 Ar41 (j := (16 : Int32)) hin41 (g := (mkF m 110 #[.val (.int p1), .val (.int p2), .unset, .unset, .unset, .unset, .unset, .unset, .unset, .unset, .unset, .unset, .unset] [(.int (8204 : Int32)), (.int (16 : Int32)), (.ref b1), (.ref b1)])) rfl rfl (hb hby at_110)
  have Z41 : n0 ≤ h41.size := Nat.le_trans Z39 (Nat.le_of_eq W41.size.symm)
  have V41_v41 := ArF.set Ar41 S41 H41 W41 hin41
  have N41 := Fr.snoc X41 N39 g_b1
  have VP42_v42 : ArF Z h41 b1 .int 30 (own_pt 17) := V41_v41.congr (fun j hj => own_ptS 16 (by decide) rfl j)
  obtain ⟨cl43, Ar43, S43, H43⟩ := id VP42_v42
  have hin43 : ¬ ((17 : Int32) < 0 ∨ cl43.slots.size ≤ ((17 : Int32)).toNatClampNeg) := inA S43 (by decide) (by decide)
  obtain ⟨T43, h43, X43, e43, W43, st43⟩ := stI X41 hx hZ e41 Ar43 (j := (17 : Int32)) hin43 (g := (mkF m 117 #[.val (.int p1), .val (.int p2), .unset, .unset, .unset, .unset, .unset, .unset, .unset, .unset, .unset, .unset, .unset] [(.int (8206 : Int32)), (.int (17 : Int32)), (.ref b1), (.ref b1)])) rfl rfl (hb hby at_117)
  have Z43 : n0 ≤ h43.size := Nat.le_trans Z41 (Nat.le_of_eq W43.size.symm)
  have V43_v43 := ArF.set Ar43 S43 H43 W43 hin43
  have N43 := Fr.snoc X43 N41 g_b1
  have pre45 : ∀ t, Steps p.tables e below (T43.setTop (mkF m 118 #[.val (.int p1), .val (.int p2), .unset, .unset, .unset, .unset, .unset, .unset, .unset, .unset, .unset, .unset, .unset] [(.ref b1)])) t → Steps p.tables e below (s₁.setTop (entryFrame m #[(.int p1), (.int p2)] maxLocals)) t := by
    intro t k
    refine pre38 t ?_
    show Steps p.tables e below (T36.setTop (mkF m 97 #[.val (.int p1), .val (.int p2), .unset, .unset, .unset, .unset, .unset, .unset, .unset, .unset, .unset, .unset, .unset] [(.ref b1)])) _
    refine XS.dup X36.here hx rfl (hb hby at_97) rfl rfl ?_
    show Steps p.tables e below (T36.setTop (mkF m 98 #[.val (.int p1), .val (.int p2), .unset, .unset, .unset, .unset, .unset, .unset, .unset, .unset, .unset, .unset, .unset] [(.ref b1), (.ref b1)])) _
    refine XS.bipush X36.here hx rfl (hb hby at_98) ?_
    show Steps p.tables e below (T36.setTop (mkF m 100 #[.val (.int p1), .val (.int p2), .unset, .unset, .unset, .unset, .unset, .unset, .unset, .unset, .unset, .unset, .unset] [(.int (15 : Int32)), (.ref b1), (.ref b1)])) _
    refine XS.sipush X36.here hx rfl (hb hby at_100) ?_
    show Steps p.tables e below (T36.setTop (mkF m 103 #[.val (.int p1), .val (.int p2), .unset, .unset, .unset, .unset, .unset, .unset, .unset, .unset, .unset, .unset, .unset] [(.int (8192 : Int32)), (.int (15 : Int32)), (.ref b1), (.ref b1)])) _
    refine st39 _ ?_
    show Steps p.tables e below (T39.setTop (mkF m 104 #[.val (.int p1), .val (.int p2), .unset, .unset, .unset, .unset, .unset, .unset, .unset, .unset, .unset, .unset, .unset] [(.ref b1)])) _
    refine XS.dup X39.here hx rfl (hb hby at_104) rfl rfl ?_
    show Steps p.tables e below (T39.setTop (mkF m 105 #[.val (.int p1), .val (.int p2), .unset, .unset, .unset, .unset, .unset, .unset, .unset, .unset, .unset, .unset, .unset] [(.ref b1), (.ref b1)])) _
    refine XS.bipush X39.here hx rfl (hb hby at_105) ?_
    show Steps p.tables e below (T39.setTop (mkF m 107 #[.val (.int p1), .val (.int p2), .unset, .unset, .unset, .unset, .unset, .unset, .unset, .unset, .unset, .unset, .unset] [(.int (16 : Int32)), (.ref b1), (.ref b1)])) _
    refine XS.sipush X39.here hx rfl (hb hby at_107) ?_
    show Steps p.tables e below (T39.setTop (mkF m 110 #[.val (.int p1), .val (.int p2), .unset, .unset, .unset, .unset, .unset, .unset, .unset, .unset, .unset, .unset, .unset] [(.int (8204 : Int32)), (.int (16 : Int32)), (.ref b1), (.ref b1)])) _
    refine st41 _ ?_
    show Steps p.tables e below (T41.setTop (mkF m 111 #[.val (.int p1), .val (.int p2), .unset, .unset, .unset, .unset, .unset, .unset, .unset, .unset, .unset, .unset, .unset] [(.ref b1)])) _
    refine XS.dup X41.here hx rfl (hb hby at_111) rfl rfl ?_
    show Steps p.tables e below (T41.setTop (mkF m 112 #[.val (.int p1), .val (.int p2), .unset, .unset, .unset, .unset, .unset, .unset, .unset, .unset, .unset, .unset, .unset] [(.ref b1), (.ref b1)])) _
    refine XS.bipush X41.here hx rfl (hb hby at_112) ?_
    show Steps p.tables e below (T41.setTop (mkF m 114 #[.val (.int p1), .val (.int p2), .unset, .unset, .unset, .unset, .unset, .unset, .unset, .unset, .unset, .unset, .unset] [(.int (17 : Int32)), (.ref b1), (.ref b1)])) _
    refine XS.sipush X41.here hx rfl (hb hby at_114) ?_
    show Steps p.tables e below (T41.setTop (mkF m 117 #[.val (.int p1), .val (.int p2), .unset, .unset, .unset, .unset, .unset, .unset, .unset, .unset, .unset, .unset, .unset] [(.int (8206 : Int32)), (.int (17 : Int32)), (.ref b1), (.ref b1)])) _
    refine st43 _ ?_
    exact k
  have VP44_v44 : ArF Z h43 b1 .int 30 (own_pt 18) := V43_v43.congr (fun j hj => own_ptS 17 (by decide) rfl j)
  obtain ⟨cl46, Ar46, S46, H46⟩ := id VP44_v44
  have hin46 : ¬ ((18 : Int32) < 0 ∨ cl46.slots.size ≤ ((18 : Int32)).toNatClampNeg) := inA S46 (by decide) (by decide)
  obtain ⟨T46, h46, X46, e46, W46, st46⟩ := stI X43 hx hZ e43 Ar46 (j := (18 : Int32)) hin46 (g := (mkF m 124 #[.val (.int p1), .val (.int p2), .unset, .unset, .unset, .unset, .unset, .unset, .unset, .unset, .unset, .unset, .unset] [(.int (8304 : Int32)), (.int (18 : Int32)), (.ref b1), (.ref b1)])) rfl rfl (hb hby at_124)
  have Z46 : n0 ≤ h46.size := Nat.le_trans Z43 (Nat.le_of_eq W46.size.symm)
  have V46_v46 := ArF.set Ar46 S46 H46 W46 hin46
  have N46 := Fr.snoc X46 N43 g_b1
  have VP47_v47 : ArF Z h46 b1 .int 30 (own_pt 19) := V46_v46.congr (fun j hj => own_ptS 18 (by decide) rfl j)
  obtain ⟨cl48, Ar48, S48, H48⟩ := id VP47_v47
  have hin48 : ¬ ((19 : Int32) < 0 ∨ cl48.slots.size ≤ ((19 : Int32)).toNatClampNeg) := inA S48 (by decide) (by decide)
  obtain ⟨T48, h48, X48, e48, W48, st48⟩ := stI X46 hx hZ e46 Ar48 (j := (19 : Int32)) hin48 (g := (mkF m 131 #[.val (.int p1), .val (.int p2), .unset, .unset, .unset, .unset, .unset, .unset, .unset, .unset, .unset, .unset, .unset] [(.int (8592 : Int32)), (.int (19 : Int32)), (.ref b1), (.ref b1)])) rfl rfl (hb hby at_131)
  have Z48 : n0 ≤ h48.size := Nat.le_trans Z46 (Nat.le_of_eq W48.size.symm)
  have V48_v48 := ArF.set Ar48 S48 H48 W48 hin48
  have N48 := Fr.snoc X48 N46 g_b1
  have VP49_v49 : ArF Z h48 b1 .int 30 (own_pt 20) := V48_v48.congr (fun j hj => own_ptS 19 (by decide) rfl j)
  obtain ⟨cl50, Ar50, S50, H50⟩ := id VP49_v49
  have hin50 : ¬ ((20 : Int32) < 0 ∨ cl50.slots.size ≤ ((20 : Int32)).toNatClampNeg) := inA S50 (by decide) (by decide)
  obtain ⟨T50, h50, X50, e50, W50, st50⟩ := stI X48 hx hZ e48 Ar50 (j := (20 : Int32)) hin50 (g := (mkF m 138 #[.val (.int p1), .val (.int p2), .unset, .unset, .unset, .unset, .unset, .unset, .unset, .unset, .unset, .unset, .unset] [(.int (11264 : Int32)), (.int (20 : Int32)), (.ref b1), (.ref b1)])) rfl rfl (hb hby at_138)
  have Z50 : n0 ≤ h50.size := Nat.le_trans Z48 (Nat.le_of_eq W50.size.symm)
  have V50_v50 := ArF.set Ar50 S50 H50 W50 hin50
  have N50 := Fr.snoc X50 N48 g_b1
  have pre52 : ∀ t, Steps p.tables e below (T50.setTop (mkF m 139 #[.val (.int p1), .val (.int p2), .unset, .unset, .unset, .unset, .unset, .unset, .unset, .unset, .unset, .unset, .unset] [(.ref b1)])) t → Steps p.tables e below (s₁.setTop (entryFrame m #[(.int p1), (.int p2)] maxLocals)) t := by
    intro t k
    refine pre45 t ?_
    show Steps p.tables e below (T43.setTop (mkF m 118 #[.val (.int p1), .val (.int p2), .unset, .unset, .unset, .unset, .unset, .unset, .unset, .unset, .unset, .unset, .unset] [(.ref b1)])) _
    refine XS.dup X43.here hx rfl (hb hby at_118) rfl rfl ?_
    show Steps p.tables e below (T43.setTop (mkF m 119 #[.val (.int p1), .val (.int p2), .unset, .unset, .unset, .unset, .unset, .unset, .unset, .unset, .unset, .unset, .unset] [(.ref b1), (.ref b1)])) _
    refine XS.bipush X43.here hx rfl (hb hby at_119) ?_
    show Steps p.tables e below (T43.setTop (mkF m 121 #[.val (.int p1), .val (.int p2), .unset, .unset, .unset, .unset, .unset, .unset, .unset, .unset, .unset, .unset, .unset] [(.int (18 : Int32)), (.ref b1), (.ref b1)])) _
    refine XS.sipush X43.here hx rfl (hb hby at_121) ?_
    show Steps p.tables e below (T43.setTop (mkF m 124 #[.val (.int p1), .val (.int p2), .unset, .unset, .unset, .unset, .unset, .unset, .unset, .unset, .unset, .unset, .unset] [(.int (8304 : Int32)), (.int (18 : Int32)), (.ref b1), (.ref b1)])) _
    refine st46 _ ?_
    show Steps p.tables e below (T46.setTop (mkF m 125 #[.val (.int p1), .val (.int p2), .unset, .unset, .unset, .unset, .unset, .unset, .unset, .unset, .unset, .unset, .unset] [(.ref b1)])) _
    refine XS.dup X46.here hx rfl (hb hby at_125) rfl rfl ?_
    show Steps p.tables e below (T46.setTop (mkF m 126 #[.val (.int p1), .val (.int p2), .unset, .unset, .unset, .unset, .unset, .unset, .unset, .unset, .unset, .unset, .unset] [(.ref b1), (.ref b1)])) _
    refine XS.bipush X46.here hx rfl (hb hby at_126) ?_
    show Steps p.tables e below (T46.setTop (mkF m 128 #[.val (.int p1), .val (.int p2), .unset, .unset, .unset, .unset, .unset, .unset, .unset, .unset, .unset, .unset, .unset] [(.int (19 : Int32)), (.ref b1), (.ref b1)])) _
    refine XS.sipush X46.here hx rfl (hb hby at_128) ?_
    show Steps p.tables e below (T46.setTop (mkF m 131 #[.val (.int p1), .val (.int p2), .unset, .unset, .unset, .unset, .unset, .unset, .unset, .unset, .unset, .unset, .unset] [(.int (8592 : Int32)), (.int (19 : Int32)), (.ref b1), (.ref b1)])) _
    refine st48 _ ?_
    show Steps p.tables e below (T48.setTop (mkF m 132 #[.val (.int p1), .val (.int p2), .unset, .unset, .unset, .unset, .unset, .unset, .unset, .unset, .unset, .unset, .unset] [(.ref b1)])) _
    refine XS.dup X48.here hx rfl (hb hby at_132) rfl rfl ?_
    show Steps p.tables e below (T48.setTop (mkF m 133 #[.val (.int p1), .val (.int p2), .unset, .unset, .unset, .unset, .unset, .unset, .unset, .unset, .unset, .unset, .unset] [(.ref b1), (.ref b1)])) _
    refine XS.bipush X48.here hx rfl (hb hby at_133) ?_
    show Steps p.tables e below (T48.setTop (mkF m 135 #[.val (.int p1), .val (.int p2), .unset, .unset, .unset, .unset, .unset, .unset, .unset, .unset, .unset, .unset, .unset] [(.int (20 : Int32)), (.ref b1), (.ref b1)])) _
    refine XS.sipush X48.here hx rfl (hb hby at_135) ?_
    show Steps p.tables e below (T48.setTop (mkF m 138 #[.val (.int p1), .val (.int p2), .unset, .unset, .unset, .unset, .unset, .unset, .unset, .unset, .unset, .unset, .unset] [(.int (11264 : Int32)), (.int (20 : Int32)), (.ref b1), (.ref b1)])) _
    refine st50 _ ?_
    exact k
  have VP51_v51 : ArF Z h50 b1 .int 30 (own_pt 21) := V50_v50.congr (fun j hj => own_ptS 20 (by decide) rfl j)
  obtain ⟨cl53, Ar53, S53, H53⟩ := id VP51_v51
  have hin53 : ¬ ((21 : Int32) < 0 ∨ cl53.slots.size ≤ ((21 : Int32)).toNatClampNeg) := inA S53 (by decide) (by decide)
  obtain ⟨T53, h53, X53, e53, W53, st53⟩ := stI X50 hx hZ e50 Ar53 (j := (21 : Int32)) hin53 (g := (mkF m 145 #[.val (.int p1), .val (.int p2), .unset, .unset, .unset, .unset, .unset, .unset, .unset, .unset, .unset, .unset, .unset] [(.int (12272 : Int32)), (.int (21 : Int32)), (.ref b1), (.ref b1)])) rfl rfl (hb hby at_145)
  have Z53 : n0 ≤ h53.size := Nat.le_trans Z50 (Nat.le_of_eq W53.size.symm)
  have V53_v53 := ArF.set Ar53 S53 H53 W53 hin53
  have N53 := Fr.snoc X53 N50 g_b1
  have VP54_v54 : ArF Z h53 b1 .int 30 (own_pt 22) := V53_v53.congr (fun j hj => own_ptS 21 (by decide) rfl j)
  obtain ⟨cl55, Ar55, S55, H55⟩ := id VP54_v54
  have hin55 : ¬ ((22 : Int32) < 0 ∨ cl55.slots.size ≤ ((22 : Int32)).toNatClampNeg) := inA S55 (by decide) (by decide)
  obtain ⟨T55, h55, X55, e55, W55, st55⟩ := stI X53 hx hZ e53 Ar55 (j := (22 : Int32)) hin55 (g := (mkF m 152 #[.val (.int p1), .val (.int p2), .unset, .unset, .unset, .unset, .unset, .unset, .unset, .unset, .unset, .unset, .unset] [(.int (12289 : Int32)), (.int (22 : Int32)), (.ref b1), (.ref b1)])) rfl rfl (hb hby at_152)
  have Z55 : n0 ≤ h55.size := Nat.le_trans Z53 (Nat.le_of_eq W55.size.symm)
  have V55_v55 := ArF.set Ar55 S55 H55 W55 hin55
  have N55 := Fr.snoc X55 N53 g_b1
  have VP56_v56 : ArF Z h55 b1 .int 30 (own_pt 23) := V55_v55.congr (fun j hj => own_ptS 22 (by decide) rfl j)
  obtain ⟨cl57, Ar57, S57, H57⟩ := id VP56_v56
  have hin57 : ¬ ((23 : Int32) < 0 ∨ cl57.slots.size ≤ ((23 : Int32)).toNatClampNeg) := inA S57 (by decide) (by decide)
  obtain ⟨T57, h57, X57, e57, W57, st57⟩ := stI X55 hx hZ e55 Ar57 (j := (23 : Int32)) hin57 (g := (mkF m 158 #[.val (.int p1), .val (.int p2), .unset, .unset, .unset, .unset, .unset, .unset, .unset, .unset, .unset, .unset, .unset] [(.int (55296 : Int32)), (.int (23 : Int32)), (.ref b1), (.ref b1)])) rfl rfl (hb hby at_158)
  have Z57 : n0 ≤ h57.size := Nat.le_trans Z55 (Nat.le_of_eq W57.size.symm)
  have V57_v57 := ArF.set Ar57 S57 H57 W57 hin57
  have N57 := Fr.snoc X57 N55 g_b1
  have pre59 : ∀ t, Steps p.tables e below (T57.setTop (mkF m 159 #[.val (.int p1), .val (.int p2), .unset, .unset, .unset, .unset, .unset, .unset, .unset, .unset, .unset, .unset, .unset] [(.ref b1)])) t → Steps p.tables e below (s₁.setTop (entryFrame m #[(.int p1), (.int p2)] maxLocals)) t := by
    intro t k
    refine pre52 t ?_
    show Steps p.tables e below (T50.setTop (mkF m 139 #[.val (.int p1), .val (.int p2), .unset, .unset, .unset, .unset, .unset, .unset, .unset, .unset, .unset, .unset, .unset] [(.ref b1)])) _
    refine XS.dup X50.here hx rfl (hb hby at_139) rfl rfl ?_
    show Steps p.tables e below (T50.setTop (mkF m 140 #[.val (.int p1), .val (.int p2), .unset, .unset, .unset, .unset, .unset, .unset, .unset, .unset, .unset, .unset, .unset] [(.ref b1), (.ref b1)])) _
    refine XS.bipush X50.here hx rfl (hb hby at_140) ?_
    show Steps p.tables e below (T50.setTop (mkF m 142 #[.val (.int p1), .val (.int p2), .unset, .unset, .unset, .unset, .unset, .unset, .unset, .unset, .unset, .unset, .unset] [(.int (21 : Int32)), (.ref b1), (.ref b1)])) _
    refine XS.sipush X50.here hx rfl (hb hby at_142) ?_
    show Steps p.tables e below (T50.setTop (mkF m 145 #[.val (.int p1), .val (.int p2), .unset, .unset, .unset, .unset, .unset, .unset, .unset, .unset, .unset, .unset, .unset] [(.int (12272 : Int32)), (.int (21 : Int32)), (.ref b1), (.ref b1)])) _
    refine st53 _ ?_
    show Steps p.tables e below (T53.setTop (mkF m 146 #[.val (.int p1), .val (.int p2), .unset, .unset, .unset, .unset, .unset, .unset, .unset, .unset, .unset, .unset, .unset] [(.ref b1)])) _
    refine XS.dup X53.here hx rfl (hb hby at_146) rfl rfl ?_
    show Steps p.tables e below (T53.setTop (mkF m 147 #[.val (.int p1), .val (.int p2), .unset, .unset, .unset, .unset, .unset, .unset, .unset, .unset, .unset, .unset, .unset] [(.ref b1), (.ref b1)])) _
    refine XS.bipush X53.here hx rfl (hb hby at_147) ?_
    show Steps p.tables e below (T53.setTop (mkF m 149 #[.val (.int p1), .val (.int p2), .unset, .unset, .unset, .unset, .unset, .unset, .unset, .unset, .unset, .unset, .unset] [(.int (22 : Int32)), (.ref b1), (.ref b1)])) _
    refine XS.sipush X53.here hx rfl (hb hby at_149) ?_
    show Steps p.tables e below (T53.setTop (mkF m 152 #[.val (.int p1), .val (.int p2), .unset, .unset, .unset, .unset, .unset, .unset, .unset, .unset, .unset, .unset, .unset] [(.int (12289 : Int32)), (.int (22 : Int32)), (.ref b1), (.ref b1)])) _
    refine st55 _ ?_
    show Steps p.tables e below (T55.setTop (mkF m 153 #[.val (.int p1), .val (.int p2), .unset, .unset, .unset, .unset, .unset, .unset, .unset, .unset, .unset, .unset, .unset] [(.ref b1)])) _
    refine XS.dup X55.here hx rfl (hb hby at_153) rfl rfl ?_
    show Steps p.tables e below (T55.setTop (mkF m 154 #[.val (.int p1), .val (.int p2), .unset, .unset, .unset, .unset, .unset, .unset, .unset, .unset, .unset, .unset, .unset] [(.ref b1), (.ref b1)])) _
    refine XS.bipush X55.here hx rfl (hb hby at_154) ?_
    show Steps p.tables e below (T55.setTop (mkF m 156 #[.val (.int p1), .val (.int p2), .unset, .unset, .unset, .unset, .unset, .unset, .unset, .unset, .unset, .unset, .unset] [(.int (23 : Int32)), (.ref b1), (.ref b1)])) _
    refine X55.ldcInt hx hown (mvT hZ (hw _ (List.mem_of_getElem? (i := 1) rfl))) (g := (mkF m 156 #[.val (.int p1), .val (.int p2), .unset, .unset, .unset, .unset, .unset, .unset, .unset, .unset, .unset, .unset, .unset] [(.int (23 : Int32)), (.ref b1), (.ref b1)])) rfl (hb hby at_156) _ ?_
    show Steps p.tables e below (T55.setTop (mkF m 158 #[.val (.int p1), .val (.int p2), .unset, .unset, .unset, .unset, .unset, .unset, .unset, .unset, .unset, .unset, .unset] [(.int (55296 : Int32)), (.int (23 : Int32)), (.ref b1), (.ref b1)])) _
    refine st57 _ ?_
    exact k
  have VP58_v58 : ArF Z h57 b1 .int 30 (own_pt 24) := V57_v57.congr (fun j hj => own_ptS 23 (by decide) rfl j)
  obtain ⟨cl60, Ar60, S60, H60⟩ := id VP58_v58
  have hin60 : ¬ ((24 : Int32) < 0 ∨ cl60.slots.size ≤ ((24 : Int32)).toNatClampNeg) := inA S60 (by decide) (by decide)
  obtain ⟨T60, h60, X60, e60, W60, st60⟩ := stI X57 hx hZ e57 Ar60 (j := (24 : Int32)) hin60 (g := (mkF m 164 #[.val (.int p1), .val (.int p2), .unset, .unset, .unset, .unset, .unset, .unset, .unset, .unset, .unset, .unset, .unset] [(.int (63744 : Int32)), (.int (24 : Int32)), (.ref b1), (.ref b1)])) rfl rfl (hb hby at_164)
  have Z60 : n0 ≤ h60.size := Nat.le_trans Z57 (Nat.le_of_eq W60.size.symm)
  have V60_v60 := ArF.set Ar60 S60 H60 W60 hin60
  have N60 := Fr.snoc X60 N57 g_b1
  have VP61_v61 : ArF Z h60 b1 .int 30 (own_pt 25) := V60_v60.congr (fun j hj => own_ptS 24 (by decide) rfl j)
  obtain ⟨cl62, Ar62, S62, H62⟩ := id VP61_v61
  have hin62 : ¬ ((25 : Int32) < 0 ∨ cl62.slots.size ≤ ((25 : Int32)).toNatClampNeg) := inA S62 (by decide) (by decide)
  obtain ⟨T62, h62, X62, e62, W62, st62⟩ := stI X60 hx hZ e60 Ar62 (j := (25 : Int32)) hin62 (g := (mkF m 170 #[.val (.int p1), .val (.int p2), .unset, .unset, .unset, .unset, .unset, .unset, .unset, .unset, .unset, .unset, .unset] [(.int (64976 : Int32)), (.int (25 : Int32)), (.ref b1), (.ref b1)])) rfl rfl (hb hby at_170)
  have Z62 : n0 ≤ h62.size := Nat.le_trans Z60 (Nat.le_of_eq W62.size.symm)
  have V62_v62 := ArF.set Ar62 S62 H62 W62 hin62
  have N62 := Fr.snoc X62 N60 g_b1
  have VP63_v63 : ArF Z h62 b1 .int 30 (own_pt 26) := V62_v62.congr (fun j hj => own_ptS 25 (by decide) rfl j)
  obtain ⟨cl64, Ar64, S64, H64⟩ := id VP63_v63
  have hin64 : ¬ ((26 : Int32) < 0 ∨ cl64.slots.size ≤ ((26 : Int32)).toNatClampNeg) := inA S64 (by decide) (by decide)
  obtain ⟨T64, h64, X64, e64, W64, st64⟩ := stI X62 hx hZ e62 Ar64 (j := (26 : Int32)) hin64 (g := (mkF m 176 #[.val (.int p1), .val (.int p2), .unset, .unset, .unset, .unset, .unset, .unset, .unset, .unset, .unset, .unset, .unset] [(.int (65008 : Int32)), (.int (26 : Int32)), (.ref b1), (.ref b1)])) rfl rfl (hb hby at_176)
  have Z64 : n0 ≤ h64.size := Nat.le_trans Z62 (Nat.le_of_eq W64.size.symm)
  have V64_v64 := ArF.set Ar64 S64 H64 W64 hin64
  have N64 := Fr.snoc X64 N62 g_b1
  have pre66 : ∀ t, Steps p.tables e below (T64.setTop (mkF m 177 #[.val (.int p1), .val (.int p2), .unset, .unset, .unset, .unset, .unset, .unset, .unset, .unset, .unset, .unset, .unset] [(.ref b1)])) t → Steps p.tables e below (s₁.setTop (entryFrame m #[(.int p1), (.int p2)] maxLocals)) t := by
    intro t k
    refine pre59 t ?_
    show Steps p.tables e below (T57.setTop (mkF m 159 #[.val (.int p1), .val (.int p2), .unset, .unset, .unset, .unset, .unset, .unset, .unset, .unset, .unset, .unset, .unset] [(.ref b1)])) _
    refine XS.dup X57.here hx rfl (hb hby at_159) rfl rfl ?_
    show Steps p.tables e below (T57.setTop (mkF m 160 #[.val (.int p1), .val (.int p2), .unset, .unset, .unset, .unset, .unset, .unset, .unset, .unset, .unset, .unset, .unset] [(.ref b1), (.ref b1)])) _
    refine XS.bipush X57.here hx rfl (hb hby at_160) ?_
    show Steps p.tables e below (T57.setTop (mkF m 162 #[.val (.int p1), .val (.int p2), .unset, .unset, .unset, .unset, .unset, .unset, .unset, .unset, .unset, .unset, .unset] [(.int (24 : Int32)), (.ref b1), (.ref b1)])) _
    refine X57.ldcInt hx hown (mvT hZ (hw _ (List.mem_of_getElem? (i := 2) rfl))) (g := (mkF m 162 #[.val (.int p1), .val (.int p2), .unset, .unset, .unset, .unset, .unset, .unset, .unset, .unset, .unset, .unset, .unset] [(.int (24 : Int32)), (.ref b1), (.ref b1)])) rfl (hb hby at_162) _ ?_
    show Steps p.tables e below (T57.setTop (mkF m 164 #[.val (.int p1), .val (.int p2), .unset, .unset, .unset, .unset, .unset, .unset, .unset, .unset, .unset, .unset, .unset] [(.int (63744 : Int32)), (.int (24 : Int32)), (.ref b1), (.ref b1)])) _
    refine st60 _ ?_
    show Steps p.tables e below (T60.setTop (mkF m 165 #[.val (.int p1), .val (.int p2), .unset, .unset, .unset, .unset, .unset, .unset, .unset, .unset, .unset, .unset, .unset] [(.ref b1)])) _
    refine XS.dup X60.here hx rfl (hb hby at_165) rfl rfl ?_
    show Steps p.tables e below (T60.setTop (mkF m 166 #[.val (.int p1), .val (.int p2), .unset, .unset, .unset, .unset, .unset, .unset, .unset, .unset, .unset, .unset, .unset] [(.ref b1), (.ref b1)])) _
    refine XS.bipush X60.here hx rfl (hb hby at_166) ?_
    show Steps p.tables e below (T60.setTop (mkF m 168 #[.val (.int p1), .val (.int p2), .unset, .unset, .unset, .unset, .unset, .unset, .unset, .unset, .unset, .unset, .unset] [(.int (25 : Int32)), (.ref b1), (.ref b1)])) _
    refine X60.ldcInt hx hown (mvT hZ (hw _ (List.mem_of_getElem? (i := 3) rfl))) (g := (mkF m 168 #[.val (.int p1), .val (.int p2), .unset, .unset, .unset, .unset, .unset, .unset, .unset, .unset, .unset, .unset, .unset] [(.int (25 : Int32)), (.ref b1), (.ref b1)])) rfl (hb hby at_168) _ ?_
    show Steps p.tables e below (T60.setTop (mkF m 170 #[.val (.int p1), .val (.int p2), .unset, .unset, .unset, .unset, .unset, .unset, .unset, .unset, .unset, .unset, .unset] [(.int (64976 : Int32)), (.int (25 : Int32)), (.ref b1), (.ref b1)])) _
    refine st62 _ ?_
    show Steps p.tables e below (T62.setTop (mkF m 171 #[.val (.int p1), .val (.int p2), .unset, .unset, .unset, .unset, .unset, .unset, .unset, .unset, .unset, .unset, .unset] [(.ref b1)])) _
    refine XS.dup X62.here hx rfl (hb hby at_171) rfl rfl ?_
    show Steps p.tables e below (T62.setTop (mkF m 172 #[.val (.int p1), .val (.int p2), .unset, .unset, .unset, .unset, .unset, .unset, .unset, .unset, .unset, .unset, .unset] [(.ref b1), (.ref b1)])) _
    refine XS.bipush X62.here hx rfl (hb hby at_172) ?_
    show Steps p.tables e below (T62.setTop (mkF m 174 #[.val (.int p1), .val (.int p2), .unset, .unset, .unset, .unset, .unset, .unset, .unset, .unset, .unset, .unset, .unset] [(.int (26 : Int32)), (.ref b1), (.ref b1)])) _
    refine X62.ldcInt hx hown (mvT hZ (hw _ (List.mem_of_getElem? (i := 4) rfl))) (g := (mkF m 174 #[.val (.int p1), .val (.int p2), .unset, .unset, .unset, .unset, .unset, .unset, .unset, .unset, .unset, .unset, .unset] [(.int (26 : Int32)), (.ref b1), (.ref b1)])) rfl (hb hby at_174) _ ?_
    show Steps p.tables e below (T62.setTop (mkF m 176 #[.val (.int p1), .val (.int p2), .unset, .unset, .unset, .unset, .unset, .unset, .unset, .unset, .unset, .unset, .unset] [(.int (65008 : Int32)), (.int (26 : Int32)), (.ref b1), (.ref b1)])) _
    refine st64 _ ?_
    exact k
  have VP65_v65 : ArF Z h64 b1 .int 30 (own_pt 27) := V64_v64.congr (fun j hj => own_ptS 26 (by decide) rfl j)
  obtain ⟨cl67, Ar67, S67, H67⟩ := id VP65_v65
  have hin67 : ¬ ((27 : Int32) < 0 ∨ cl67.slots.size ≤ ((27 : Int32)).toNatClampNeg) := inA S67 (by decide) (by decide)
  obtain ⟨T67, h67, X67, e67, W67, st67⟩ := stI X64 hx hZ e64 Ar67 (j := (27 : Int32)) hin67 (g := (mkF m 182 #[.val (.int p1), .val (.int p2), .unset, .unset, .unset, .unset, .unset, .unset, .unset, .unset, .unset, .unset, .unset] [(.int (65534 : Int32)), (.int (27 : Int32)), (.ref b1), (.ref b1)])) rfl rfl (hb hby at_182)
  have Z67 : n0 ≤ h67.size := Nat.le_trans Z64 (Nat.le_of_eq W67.size.symm)
  have V67_v67 := ArF.set Ar67 S67 H67 W67 hin67
  have N67 := Fr.snoc X67 N64 g_b1
  have VP68_v68 : ArF Z h67 b1 .int 30 (own_pt 28) := V67_v67.congr (fun j hj => own_ptS 27 (by decide) rfl j)
  obtain ⟨cl69, Ar69, S69, H69⟩ := id VP68_v68
  have hin69 : ¬ ((28 : Int32) < 0 ∨ cl69.slots.size ≤ ((28 : Int32)).toNatClampNeg) := inA S69 (by decide) (by decide)
  obtain ⟨T69, h69, X69, e69, W69, st69⟩ := stI X67 hx hZ e67 Ar69 (j := (28 : Int32)) hin69 (g := (mkF m 188 #[.val (.int p1), .val (.int p2), .unset, .unset, .unset, .unset, .unset, .unset, .unset, .unset, .unset, .unset, .unset] [(.int (65536 : Int32)), (.int (28 : Int32)), (.ref b1), (.ref b1)])) rfl rfl (hb hby at_188)
  have Z69 : n0 ≤ h69.size := Nat.le_trans Z67 (Nat.le_of_eq W69.size.symm)
  have V69_v69 := ArF.set Ar69 S69 H69 W69 hin69
  have N69 := Fr.snoc X69 N67 g_b1
  have VP70_v70 : ArF Z h69 b1 .int 30 (own_pt 29) := V69_v69.congr (fun j hj => own_ptS 28 (by decide) rfl j)
  obtain ⟨cl71, Ar71, S71, H71⟩ := id VP70_v70
  have hin71 : ¬ ((29 : Int32) < 0 ∨ cl71.slots.size ≤ ((29 : Int32)).toNatClampNeg) := inA S71 (by decide) (by decide)
  obtain ⟨T71, h71, X71, e71, W71, st71⟩ := stI X69 hx hZ e69 Ar71 (j := (29 : Int32)) hin71 (g := (mkF m 194 #[.val (.int p1), .val (.int p2), .unset, .unset, .unset, .unset, .unset, .unset, .unset, .unset, .unset, .unset, .unset] [(.int (983040 : Int32)), (.int (29 : Int32)), (.ref b1), (.ref b1)])) rfl rfl (hb hby at_194)
  have Z71 : n0 ≤ h71.size := Nat.le_trans Z69 (Nat.le_of_eq W71.size.symm)
  have V71_v71 := ArF.set Ar71 S71 H71 W71 hin71
  have N71 := Fr.snoc X71 N69 g_b1
  have pre73 : ∀ t, Steps p.tables e below (T71.setTop (mkF m 195 #[.val (.int p1), .val (.int p2), .unset, .unset, .unset, .unset, .unset, .unset, .unset, .unset, .unset, .unset, .unset] [(.ref b1)])) t → Steps p.tables e below (s₁.setTop (entryFrame m #[(.int p1), (.int p2)] maxLocals)) t := by
    intro t k
    refine pre66 t ?_
    show Steps p.tables e below (T64.setTop (mkF m 177 #[.val (.int p1), .val (.int p2), .unset, .unset, .unset, .unset, .unset, .unset, .unset, .unset, .unset, .unset, .unset] [(.ref b1)])) _
    refine XS.dup X64.here hx rfl (hb hby at_177) rfl rfl ?_
    show Steps p.tables e below (T64.setTop (mkF m 178 #[.val (.int p1), .val (.int p2), .unset, .unset, .unset, .unset, .unset, .unset, .unset, .unset, .unset, .unset, .unset] [(.ref b1), (.ref b1)])) _
    refine XS.bipush X64.here hx rfl (hb hby at_178) ?_
    show Steps p.tables e below (T64.setTop (mkF m 180 #[.val (.int p1), .val (.int p2), .unset, .unset, .unset, .unset, .unset, .unset, .unset, .unset, .unset, .unset, .unset] [(.int (27 : Int32)), (.ref b1), (.ref b1)])) _
    refine X64.ldcInt hx hown (mvT hZ (hw _ (List.mem_of_getElem? (i := 5) rfl))) (g := (mkF m 180 #[.val (.int p1), .val (.int p2), .unset, .unset, .unset, .unset, .unset, .unset, .unset, .unset, .unset, .unset, .unset] [(.int (27 : Int32)), (.ref b1), (.ref b1)])) rfl (hb hby at_180) _ ?_
    show Steps p.tables e below (T64.setTop (mkF m 182 #[.val (.int p1), .val (.int p2), .unset, .unset, .unset, .unset, .unset, .unset, .unset, .unset, .unset, .unset, .unset] [(.int (65534 : Int32)), (.int (27 : Int32)), (.ref b1), (.ref b1)])) _
    refine st67 _ ?_
    show Steps p.tables e below (T67.setTop (mkF m 183 #[.val (.int p1), .val (.int p2), .unset, .unset, .unset, .unset, .unset, .unset, .unset, .unset, .unset, .unset, .unset] [(.ref b1)])) _
    refine XS.dup X67.here hx rfl (hb hby at_183) rfl rfl ?_
    show Steps p.tables e below (T67.setTop (mkF m 184 #[.val (.int p1), .val (.int p2), .unset, .unset, .unset, .unset, .unset, .unset, .unset, .unset, .unset, .unset, .unset] [(.ref b1), (.ref b1)])) _
    refine XS.bipush X67.here hx rfl (hb hby at_184) ?_
    show Steps p.tables e below (T67.setTop (mkF m 186 #[.val (.int p1), .val (.int p2), .unset, .unset, .unset, .unset, .unset, .unset, .unset, .unset, .unset, .unset, .unset] [(.int (28 : Int32)), (.ref b1), (.ref b1)])) _
    refine X67.ldcInt hx hown (mvT hZ (hw _ (List.mem_of_getElem? (i := 6) rfl))) (g := (mkF m 186 #[.val (.int p1), .val (.int p2), .unset, .unset, .unset, .unset, .unset, .unset, .unset, .unset, .unset, .unset, .unset] [(.int (28 : Int32)), (.ref b1), (.ref b1)])) rfl (hb hby at_186) _ ?_
    show Steps p.tables e below (T67.setTop (mkF m 188 #[.val (.int p1), .val (.int p2), .unset, .unset, .unset, .unset, .unset, .unset, .unset, .unset, .unset, .unset, .unset] [(.int (65536 : Int32)), (.int (28 : Int32)), (.ref b1), (.ref b1)])) _
    refine st69 _ ?_
    show Steps p.tables e below (T69.setTop (mkF m 189 #[.val (.int p1), .val (.int p2), .unset, .unset, .unset, .unset, .unset, .unset, .unset, .unset, .unset, .unset, .unset] [(.ref b1)])) _
    refine XS.dup X69.here hx rfl (hb hby at_189) rfl rfl ?_
    show Steps p.tables e below (T69.setTop (mkF m 190 #[.val (.int p1), .val (.int p2), .unset, .unset, .unset, .unset, .unset, .unset, .unset, .unset, .unset, .unset, .unset] [(.ref b1), (.ref b1)])) _
    refine XS.bipush X69.here hx rfl (hb hby at_190) ?_
    show Steps p.tables e below (T69.setTop (mkF m 192 #[.val (.int p1), .val (.int p2), .unset, .unset, .unset, .unset, .unset, .unset, .unset, .unset, .unset, .unset, .unset] [(.int (29 : Int32)), (.ref b1), (.ref b1)])) _
    refine X69.ldcInt hx hown (mvT hZ (hw _ (List.mem_of_getElem? (i := 7) rfl))) (g := (mkF m 192 #[.val (.int p1), .val (.int p2), .unset, .unset, .unset, .unset, .unset, .unset, .unset, .unset, .unset, .unset, .unset] [(.int (29 : Int32)), (.ref b1), (.ref b1)])) rfl (hb hby at_192) _ ?_
    show Steps p.tables e below (T69.setTop (mkF m 194 #[.val (.int p1), .val (.int p2), .unset, .unset, .unset, .unset, .unset, .unset, .unset, .unset, .unset, .unset, .unset] [(.int (983040 : Int32)), (.int (29 : Int32)), (.ref b1), (.ref b1)])) _
    refine st71 _ ?_
    exact k
  have VP72_v72 : ArF Z h71 b1 .int 30 (own_pt 30) := V71_v71.congr (fun j hj => own_ptS 29 (by decide) rfl j)
  obtain ⟨y74, hy74⟩ : ∃ z : Int32, z = ((p1 &&& (2147483647 : Int32)) - ((p1 &&& (2147483647 : Int32)) / (31 : Int32)) * (31 : Int32)) := ⟨_, rfl⟩
  obtain ⟨hi0, hi1⟩ := own_i hy74
  have VT_v0 : ArF Z h71 b1 .int 30 (fun j => .int (own_tab j)) := VP72_v72.congr (fun j hj => if_pos hj)
  have pre75 : ∀ t, Steps p.tables e below (T71.setTop (mkF m 204 #[.val (.int p1), .val (.int p2), .val (.ref b1), .val (.int y74), .unset, .unset, .unset, .unset, .unset, .unset, .unset, .unset, .unset] [])) t → Steps p.tables e below (s₁.setTop (entryFrame m #[(.int p1), (.int p2)] maxLocals)) t := by
    intro t k
    refine pre73 t ?_
    show Steps p.tables e below (T71.setTop (mkF m 195 #[.val (.int p1), .val (.int p2), .unset, .unset, .unset, .unset, .unset, .unset, .unset, .unset, .unset, .unset, .unset] [(.ref b1)])) _
    refine XS.astoreN X71.here hx rfl (hb hby at_195) rfl rfl (l' := #[.val (.int p1), .val (.int p2), .val (.ref b1), .unset, .unset, .unset, .unset, .unset, .unset, .unset, .unset, .unset, .unset]) rfl ?_
    show Steps p.tables e below (T71.setTop (mkF m 196 #[.val (.int p1), .val (.int p2), .val (.ref b1), .unset, .unset, .unset, .unset, .unset, .unset, .unset, .unset, .unset, .unset] [])) _
    refine XS.iloadN X71.here hx rfl (hb hby at_196) rfl ?_
    show Steps p.tables e below (T71.setTop (mkF m 197 #[.val (.int p1), .val (.int p2), .val (.ref b1), .unset, .unset, .unset, .unset, .unset, .unset, .unset, .unset, .unset, .unset] [(.int p1)])) _
    refine X71.ldcInt hx hown (mvT hZ (hw _ (List.mem_of_getElem? (i := 8) rfl))) (g := (mkF m 197 #[.val (.int p1), .val (.int p2), .val (.ref b1), .unset, .unset, .unset, .unset, .unset, .unset, .unset, .unset, .unset, .unset] [(.int p1)])) rfl (hb hby at_197) _ ?_
    show Steps p.tables e below (T71.setTop (mkF m 199 #[.val (.int p1), .val (.int p2), .val (.ref b1), .unset, .unset, .unset, .unset, .unset, .unset, .unset, .unset, .unset, .unset] [(.int (2147483647 : Int32)), (.int p1)])) _
    refine XS.iand X71.here hx rfl (hb hby at_199) rfl ?_
    show Steps p.tables e below (T71.setTop (mkF m 200 #[.val (.int p1), .val (.int p2), .val (.ref b1), .unset, .unset, .unset, .unset, .unset, .unset, .unset, .unset, .unset, .unset] [(.int (p1 &&& (2147483647 : Int32)))])) _
    refine XS.bipush X71.here hx rfl (hb hby at_200) ?_
    show Steps p.tables e below (T71.setTop (mkF m 202 #[.val (.int p1), .val (.int p2), .val (.ref b1), .unset, .unset, .unset, .unset, .unset, .unset, .unset, .unset, .unset, .unset] [(.int (31 : Int32)), (.int (p1 &&& (2147483647 : Int32)))])) _
    refine XS.irem X71.here hx rfl (hb hby at_202) rfl (by decide) ?_
    show Steps p.tables e below (T71.setTop (mkF m 203 #[.val (.int p1), .val (.int p2), .val (.ref b1), .unset, .unset, .unset, .unset, .unset, .unset, .unset, .unset, .unset, .unset] [(.int ((p1 &&& (2147483647 : Int32)) - ((p1 &&& (2147483647 : Int32)) / (31 : Int32)) * (31 : Int32)))])) _
    rw [← hy74]
    refine XS.istoreN X71.here hx rfl (hb hby at_203) rfl (l' := #[.val (.int p1), .val (.int p2), .val (.ref b1), .val (.int y74), .unset, .unset, .unset, .unset, .unset, .unset, .unset, .unset, .unset]) rfl ?_
    exact k
  obtain ⟨Lp76, X76, N76⟩ : ∃ Lz, Stand p l e room_1 s m #[(.int p1), (.int p2)] below meth c T71 Lz 1 30 ∧ Fr n0 Lz := ⟨_, X71, N71⟩
  have pre77 : ∀ t, Steps p.tables e below (T71.setTop (mkF m 205 #[.val (.int p1), .val (.int p2), .val (.ref b1), .val (.int y74), .unset, .unset, .unset, .unset, .unset, .unset, .unset, .unset, .unset] [(.int y74)])) t → Steps p.tables e below (s₁.setTop (entryFrame m #[(.int p1), (.int p2)] maxLocals)) t := by
    intro t k
    refine pre75 t ?_
    show Steps p.tables e below (T71.setTop (mkF m 204 #[.val (.int p1), .val (.int p2), .val (.ref b1), .val (.int y74), .unset, .unset, .unset, .unset, .unset, .unset, .unset, .unset, .unset] [])) _
    refine XS.iloadN X76.here hx rfl (hb hby at_204) rfl ?_
    exact k
  by_cases hc205_78 : y74 = (0 : Int32)
  · have es79 : (-2147483648 : Int64) = own_start y74 := by rw [own_start, if_pos hc205_78]
    have h30 : ¬ y74 = (30 : Int32) := fun q => absurd (hc205_78.symm.trans q) (by decide)
    obtain ⟨cl80, Ar80, S80, H80⟩ := id VT_v0
    have hin80 : ¬ (y74 < 0 ∨ cl80.slots.size ≤ (y74).toNatClampNeg) := inA S80 (own_ix2 hi0 hi1 h30).1 (own_ix2 hi0 hi1 h30).2
    have hat80 : cl80.slots[(y74).toNatClampNeg]? = some (.int (own_tab (y74).toNatClampNeg)) := ArF.at S80 H80 hin80 rfl
    have es81 : (((own_tab (y74).toNatClampNeg).toInt64) - (1 : Int64)) = own_end y74 := by rw [own_end, if_neg h30]
    obtain ⟨y82, hy82⟩ : ∃ z : Int64, z = ((own_start y74) + (((p2.toInt64) &&& (4294967295 : Int64)) - (((p2.toInt64) &&& (4294967295 : Int64)) / (((own_end y74) - (own_start y74)) + (1 : Int64))) * (((own_end y74) - (own_start y74)) + (1 : Int64)))) := ⟨_, rfl⟩
    have pre83 : ∀ t, Steps p.tables e below (T71.setTop (mkF m 269 #[.val (.int p1), .val (.int p2), .val (.ref b1), .val (.int y74), .val (.long (own_start y74)), .second, .val (.long (own_end y74)), .second, .val (.long (((own_end y74) - (own_start y74)) + (1 : Int64))), .second, .val (.long y82), .second, .unset] [(.int (1 : Int32)), (.int (y74 &&& (1 : Int32)))])) t → Steps p.tables e below (s₁.setTop (entryFrame m #[(.int p1), (.int p2)] maxLocals)) t := by
      intro t k
      refine pre77 t ?_
      show Steps p.tables e below (T71.setTop (mkF m 205 #[.val (.int p1), .val (.int p2), .val (.ref b1), .val (.int y74), .unset, .unset, .unset, .unset, .unset, .unset, .unset, .unset, .unset] [(.int y74)])) _
      refine XS.ifNo X76.here hx rfl (hb hby at_205) rfl ((if0 _ _).trans (teq hc205_78).2) ?_
      show Steps p.tables e below (T71.setTop (mkF m 208 #[.val (.int p1), .val (.int p2), .val (.ref b1), .val (.int y74), .unset, .unset, .unset, .unset, .unset, .unset, .unset, .unset, .unset] [])) _
      refine X76.ldc2Long hx hown (mvT hZ (hw _ (List.mem_of_getElem? (i := 9) rfl))) (g := (mkF m 208 #[.val (.int p1), .val (.int p2), .val (.ref b1), .val (.int y74), .unset, .unset, .unset, .unset, .unset, .unset, .unset, .unset, .unset] [])) rfl (hb hby at_208) _ ?_
      show Steps p.tables e below (T71.setTop (mkF m 211 #[.val (.int p1), .val (.int p2), .val (.ref b1), .val (.int y74), .unset, .unset, .unset, .unset, .unset, .unset, .unset, .unset, .unset] [(.long (-2147483648 : Int64))])) _
      refine XS.goto X76.here hx rfl (pc0 := 211) (pc' := 220) rfl (hb hby at_211) (by decide) (by decide) ?_
      show Steps p.tables e below (T71.setTop (mkF m 220 #[.val (.int p1), .val (.int p2), .val (.ref b1), .val (.int y74), .unset, .unset, .unset, .unset, .unset, .unset, .unset, .unset, .unset] [(.long (-2147483648 : Int64))])) _
      rw [es79]
      show Steps p.tables e below (T71.setTop (mkF m 220 #[.val (.int p1), .val (.int p2), .val (.ref b1), .val (.int y74), .unset, .unset, .unset, .unset, .unset, .unset, .unset, .unset, .unset] [(.long (own_start y74))])) _
      refine XS.lstore X76.here hx rfl (hb hby at_220) rfl (l' := #[.val (.int p1), .val (.int p2), .val (.ref b1), .val (.int y74), .val (.long (own_start y74)), .second, .unset, .unset, .unset, .unset, .unset, .unset, .unset]) rfl ?_
      show Steps p.tables e below (T71.setTop (mkF m 222 #[.val (.int p1), .val (.int p2), .val (.ref b1), .val (.int y74), .val (.long (own_start y74)), .second, .unset, .unset, .unset, .unset, .unset, .unset, .unset] [])) _
      refine XS.iloadN X76.here hx rfl (hb hby at_222) rfl ?_
      show Steps p.tables e below (T71.setTop (mkF m 223 #[.val (.int p1), .val (.int p2), .val (.ref b1), .val (.int y74), .val (.long (own_start y74)), .second, .unset, .unset, .unset, .unset, .unset, .unset, .unset] [(.int y74)])) _
      refine XS.bipush X76.here hx rfl (hb hby at_223) ?_
      show Steps p.tables e below (T71.setTop (mkF m 225 #[.val (.int p1), .val (.int p2), .val (.ref b1), .val (.int y74), .val (.long (own_start y74)), .second, .unset, .unset, .unset, .unset, .unset, .unset, .unset] [(.int (30 : Int32)), (.int y74)])) _
      refine XS.icmpYes X76.here hx rfl (pc0 := 225) (pc' := 234) rfl (hb hby at_225) rfl (feq (h30 : ¬ (y74 = (30 : Int32)))).2 (by decide) (by decide) ?_
      show Steps p.tables e below (T71.setTop (mkF m 234 #[.val (.int p1), .val (.int p2), .val (.ref b1), .val (.int y74), .val (.long (own_start y74)), .second, .unset, .unset, .unset, .unset, .unset, .unset, .unset] [])) _
      refine XS.aloadN X76.here hx rfl (hb hby at_234) rfl rfl ?_
      show Steps p.tables e below (T71.setTop (mkF m 235 #[.val (.int p1), .val (.int p2), .val (.ref b1), .val (.int y74), .val (.long (own_start y74)), .second, .unset, .unset, .unset, .unset, .unset, .unset, .unset] [(.ref b1)])) _
      refine XS.iloadN X76.here hx rfl (hb hby at_235) rfl ?_
      show Steps p.tables e below (T71.setTop (mkF m 236 #[.val (.int p1), .val (.int p2), .val (.ref b1), .val (.int y74), .val (.long (own_start y74)), .second, .unset, .unset, .unset, .unset, .unset, .unset, .unset] [(.int y74), (.ref b1)])) _
      refine X76.iaload hx (j := y74) (v := (.int (own_tab (y74).toNatClampNeg))) (by rw [e71]; exact Ar80.1) (State.isArrayOf_alike hZ.alike Ar80.2.1) Ar80.2.2 hin80 hat80 (g := (mkF m 236 #[.val (.int p1), .val (.int p2), .val (.ref b1), .val (.int y74), .val (.long (own_start y74)), .second, .unset, .unset, .unset, .unset, .unset, .unset, .unset] [(.int y74), (.ref b1)])) rfl rfl (hb hby at_236) _ ?_
      show Steps p.tables e below (T71.setTop (mkF m 237 #[.val (.int p1), .val (.int p2), .val (.ref b1), .val (.int y74), .val (.long (own_start y74)), .second, .unset, .unset, .unset, .unset, .unset, .unset, .unset] [(.int (own_tab (y74).toNatClampNeg))])) _
      refine XS.i2l X76.here hx rfl (hb hby at_237) rfl ?_
      show Steps p.tables e below (T71.setTop (mkF m 238 #[.val (.int p1), .val (.int p2), .val (.ref b1), .val (.int y74), .val (.long (own_start y74)), .second, .unset, .unset, .unset, .unset, .unset, .unset, .unset] [(.long ((own_tab (y74).toNatClampNeg).toInt64))])) _
      refine XS.lconst X76.here hx rfl (hb hby at_238) ?_
      show Steps p.tables e below (T71.setTop (mkF m 239 #[.val (.int p1), .val (.int p2), .val (.ref b1), .val (.int y74), .val (.long (own_start y74)), .second, .unset, .unset, .unset, .unset, .unset, .unset, .unset] [(.long (1 : Int64)), (.long ((own_tab (y74).toNatClampNeg).toInt64))])) _
      refine XS.lsub X76.here hx rfl (hb hby at_239) rfl ?_
      show Steps p.tables e below (T71.setTop (mkF m 240 #[.val (.int p1), .val (.int p2), .val (.ref b1), .val (.int y74), .val (.long (own_start y74)), .second, .unset, .unset, .unset, .unset, .unset, .unset, .unset] [(.long (((own_tab (y74).toNatClampNeg).toInt64) - (1 : Int64)))])) _
      rw [es81]
      show Steps p.tables e below (T71.setTop (mkF m 240 #[.val (.int p1), .val (.int p2), .val (.ref b1), .val (.int y74), .val (.long (own_start y74)), .second, .unset, .unset, .unset, .unset, .unset, .unset, .unset] [(.long (own_end y74))])) _
      refine XS.lstore X76.here hx rfl (hb hby at_240) rfl (l' := #[.val (.int p1), .val (.int p2), .val (.ref b1), .val (.int y74), .val (.long (own_start y74)), .second, .val (.long (own_end y74)), .second, .unset, .unset, .unset, .unset, .unset]) rfl ?_
      show Steps p.tables e below (T71.setTop (mkF m 242 #[.val (.int p1), .val (.int p2), .val (.ref b1), .val (.int y74), .val (.long (own_start y74)), .second, .val (.long (own_end y74)), .second, .unset, .unset, .unset, .unset, .unset] [])) _
      refine XS.lload X76.here hx rfl (hb hby at_242) rfl ?_
      show Steps p.tables e below (T71.setTop (mkF m 244 #[.val (.int p1), .val (.int p2), .val (.ref b1), .val (.int y74), .val (.long (own_start y74)), .second, .val (.long (own_end y74)), .second, .unset, .unset, .unset, .unset, .unset] [(.long (own_end y74))])) _
      refine XS.lload X76.here hx rfl (hb hby at_244) rfl ?_
      show Steps p.tables e below (T71.setTop (mkF m 246 #[.val (.int p1), .val (.int p2), .val (.ref b1), .val (.int y74), .val (.long (own_start y74)), .second, .val (.long (own_end y74)), .second, .unset, .unset, .unset, .unset, .unset] [(.long (own_start y74)), (.long (own_end y74))])) _
      refine XS.lsub X76.here hx rfl (hb hby at_246) rfl ?_
      show Steps p.tables e below (T71.setTop (mkF m 247 #[.val (.int p1), .val (.int p2), .val (.ref b1), .val (.int y74), .val (.long (own_start y74)), .second, .val (.long (own_end y74)), .second, .unset, .unset, .unset, .unset, .unset] [(.long ((own_end y74) - (own_start y74)))])) _
      refine XS.lconst X76.here hx rfl (hb hby at_247) ?_
      show Steps p.tables e below (T71.setTop (mkF m 248 #[.val (.int p1), .val (.int p2), .val (.ref b1), .val (.int y74), .val (.long (own_start y74)), .second, .val (.long (own_end y74)), .second, .unset, .unset, .unset, .unset, .unset] [(.long (1 : Int64)), (.long ((own_end y74) - (own_start y74)))])) _
      refine XS.ladd X76.here hx rfl (hb hby at_248) rfl ?_
      show Steps p.tables e below (T71.setTop (mkF m 249 #[.val (.int p1), .val (.int p2), .val (.ref b1), .val (.int y74), .val (.long (own_start y74)), .second, .val (.long (own_end y74)), .second, .unset, .unset, .unset, .unset, .unset] [(.long (((own_end y74) - (own_start y74)) + (1 : Int64)))])) _
      refine XS.lstore X76.here hx rfl (hb hby at_249) rfl (l' := #[.val (.int p1), .val (.int p2), .val (.ref b1), .val (.int y74), .val (.long (own_start y74)), .second, .val (.long (own_end y74)), .second, .val (.long (((own_end y74) - (own_start y74)) + (1 : Int64))), .second, .unset, .unset, .unset]) rfl ?_
      show Steps p.tables e below (T71.setTop (mkF m 251 #[.val (.int p1), .val (.int p2), .val (.ref b1), .val (.int y74), .val (.long (own_start y74)), .second, .val (.long (own_end y74)), .second, .val (.long (((own_end y74) - (own_start y74)) + (1 : Int64))), .second, .unset, .unset, .unset] [])) _
      refine XS.lload X76.here hx rfl (hb hby at_251) rfl ?_
      show Steps p.tables e below (T71.setTop (mkF m 253 #[.val (.int p1), .val (.int p2), .val (.ref b1), .val (.int y74), .val (.long (own_start y74)), .second, .val (.long (own_end y74)), .second, .val (.long (((own_end y74) - (own_start y74)) + (1 : Int64))), .second, .unset, .unset, .unset] [(.long (own_start y74))])) _
      refine XS.iloadN X76.here hx rfl (hb hby at_253) rfl ?_
      show Steps p.tables e below (T71.setTop (mkF m 254 #[.val (.int p1), .val (.int p2), .val (.ref b1), .val (.int y74), .val (.long (own_start y74)), .second, .val (.long (own_end y74)), .second, .val (.long (((own_end y74) - (own_start y74)) + (1 : Int64))), .second, .unset, .unset, .unset] [(.int p2), (.long (own_start y74))])) _
      refine XS.i2l X76.here hx rfl (hb hby at_254) rfl ?_
      show Steps p.tables e below (T71.setTop (mkF m 255 #[.val (.int p1), .val (.int p2), .val (.ref b1), .val (.int y74), .val (.long (own_start y74)), .second, .val (.long (own_end y74)), .second, .val (.long (((own_end y74) - (own_start y74)) + (1 : Int64))), .second, .unset, .unset, .unset] [(.long (p2.toInt64)), (.long (own_start y74))])) _
      refine X76.ldc2Long hx hown (mvT hZ (hw _ (List.mem_of_getElem? (i := 10) rfl))) (g := (mkF m 255 #[.val (.int p1), .val (.int p2), .val (.ref b1), .val (.int y74), .val (.long (own_start y74)), .second, .val (.long (own_end y74)), .second, .val (.long (((own_end y74) - (own_start y74)) + (1 : Int64))), .second, .unset, .unset, .unset] [(.long (p2.toInt64)), (.long (own_start y74))])) rfl (hb hby at_255) _ ?_
      show Steps p.tables e below (T71.setTop (mkF m 258 #[.val (.int p1), .val (.int p2), .val (.ref b1), .val (.int y74), .val (.long (own_start y74)), .second, .val (.long (own_end y74)), .second, .val (.long (((own_end y74) - (own_start y74)) + (1 : Int64))), .second, .unset, .unset, .unset] [(.long (4294967295 : Int64)), (.long (p2.toInt64)), (.long (own_start y74))])) _
      refine XS.land X76.here hx rfl (hb hby at_258) rfl ?_
      show Steps p.tables e below (T71.setTop (mkF m 259 #[.val (.int p1), .val (.int p2), .val (.ref b1), .val (.int y74), .val (.long (own_start y74)), .second, .val (.long (own_end y74)), .second, .val (.long (((own_end y74) - (own_start y74)) + (1 : Int64))), .second, .unset, .unset, .unset] [(.long ((p2.toInt64) &&& (4294967295 : Int64))), (.long (own_start y74))])) _
      refine XS.lload X76.here hx rfl (hb hby at_259) rfl ?_
      show Steps p.tables e below (T71.setTop (mkF m 261 #[.val (.int p1), .val (.int p2), .val (.ref b1), .val (.int y74), .val (.long (own_start y74)), .second, .val (.long (own_end y74)), .second, .val (.long (((own_end y74) - (own_start y74)) + (1 : Int64))), .second, .unset, .unset, .unset] [(.long (((own_end y74) - (own_start y74)) + (1 : Int64))), (.long ((p2.toInt64) &&& (4294967295 : Int64))), (.long (own_start y74))])) _
      refine XS.lrem X76.here hx rfl (hb hby at_261) rfl (own_nz hi0 hi1) ?_
      show Steps p.tables e below (T71.setTop (mkF m 262 #[.val (.int p1), .val (.int p2), .val (.ref b1), .val (.int y74), .val (.long (own_start y74)), .second, .val (.long (own_end y74)), .second, .val (.long (((own_end y74) - (own_start y74)) + (1 : Int64))), .second, .unset, .unset, .unset] [(.long (((p2.toInt64) &&& (4294967295 : Int64)) - (((p2.toInt64) &&& (4294967295 : Int64)) / (((own_end y74) - (own_start y74)) + (1 : Int64))) * (((own_end y74) - (own_start y74)) + (1 : Int64)))), (.long (own_start y74))])) _
      refine XS.ladd X76.here hx rfl (hb hby at_262) rfl ?_
      show Steps p.tables e below (T71.setTop (mkF m 263 #[.val (.int p1), .val (.int p2), .val (.ref b1), .val (.int y74), .val (.long (own_start y74)), .second, .val (.long (own_end y74)), .second, .val (.long (((own_end y74) - (own_start y74)) + (1 : Int64))), .second, .unset, .unset, .unset] [(.long ((own_start y74) + (((p2.toInt64) &&& (4294967295 : Int64)) - (((p2.toInt64) &&& (4294967295 : Int64)) / (((own_end y74) - (own_start y74)) + (1 : Int64))) * (((own_end y74) - (own_start y74)) + (1 : Int64)))))])) _
      rw [← hy82]
      refine XS.lstore X76.here hx rfl (hb hby at_263) rfl (l' := #[.val (.int p1), .val (.int p2), .val (.ref b1), .val (.int y74), .val (.long (own_start y74)), .second, .val (.long (own_end y74)), .second, .val (.long (((own_end y74) - (own_start y74)) + (1 : Int64))), .second, .val (.long y82), .second, .unset]) rfl ?_
      show Steps p.tables e below (T71.setTop (mkF m 265 #[.val (.int p1), .val (.int p2), .val (.ref b1), .val (.int y74), .val (.long (own_start y74)), .second, .val (.long (own_end y74)), .second, .val (.long (((own_end y74) - (own_start y74)) + (1 : Int64))), .second, .val (.long y82), .second, .unset] [])) _
      refine XS.iloadN X76.here hx rfl (hb hby at_265) rfl ?_
      show Steps p.tables e below (T71.setTop (mkF m 266 #[.val (.int p1), .val (.int p2), .val (.ref b1), .val (.int y74), .val (.long (own_start y74)), .second, .val (.long (own_end y74)), .second, .val (.long (((own_end y74) - (own_start y74)) + (1 : Int64))), .second, .val (.long y82), .second, .unset] [(.int y74)])) _
      refine XS.iconst X76.here hx rfl (hb hby at_266) ?_
      show Steps p.tables e below (T71.setTop (mkF m 267 #[.val (.int p1), .val (.int p2), .val (.ref b1), .val (.int y74), .val (.long (own_start y74)), .second, .val (.long (own_end y74)), .second, .val (.long (((own_end y74) - (own_start y74)) + (1 : Int64))), .second, .val (.long y82), .second, .unset] [(.int (1 : Int32)), (.int y74)])) _
      refine XS.iand X76.here hx rfl (hb hby at_267) rfl ?_
      show Steps p.tables e below (T71.setTop (mkF m 268 #[.val (.int p1), .val (.int p2), .val (.ref b1), .val (.int y74), .val (.long (own_start y74)), .second, .val (.long (own_end y74)), .second, .val (.long (((own_end y74) - (own_start y74)) + (1 : Int64))), .second, .val (.long y82), .second, .unset] [(.int (y74 &&& (1 : Int32)))])) _
      refine XS.iconst X76.here hx rfl (hb hby at_268) ?_
      exact k
    by_cases hc269_84 : (y74 &&& (1 : Int32)) = (1 : Int32)
    · obtain ⟨_, _, ⟨T85, L85, k85, n85⟩, -, X85, ⟨Lc85, hQ85, l85, y85, z85⟩, st85⟩ := Jvm.LawKit.callS X76 hx (y := (⟨"com/example/eventloom/eventloom/XmlChars", "isNameStartChar", "(I)Z"⟩ : MethodName)) hown (mvT hZ (hw _ (List.mem_of_getElem? (i := 11) rfl))) (mvT hZ (hw _ (List.mem_of_getElem? (i := 12) rfl))) (mvT hZ (hw _ (List.mem_of_getElem? (i := 13) rfl))) (mvT hZ (hw _ (List.mem_of_getElem? (i := 14) rfl))) (by decide) (backOf (W := 0) (rm1 l Z a0 hw [] (y82.toInt32) h71 n0 Z71) hZ (hw _ (List.mem_of_getElem? (i := 14) rfl)) (hw _ (List.mem_of_getElem? (i := 13) rfl)) (by decide) (by decide)) (g := (mkF m 282 #[.val (.int p1), .val (.int p2), .val (.ref b1), .val (.int y74), .val (.long (own_start y74)), .second, .val (.long (own_end y74)), .second, .val (.long (((own_end y74) - (own_start y74)) + (1 : Int64))), .second, .val (.long y82), .second, .val (.int (1 : Int32))] [(.int (y82.toInt32))])) rfl (by rw [hml]; rfl) (argsL := [(.int (y82.toInt32))]) (rest := []) (lenOf pd_0 rfl) rfl (by show 2 * 0 + _ ≤ _; exact Nat.le_of_eq rfl) (hb hby at_282) (fun _ _ => ⟨rfl, e71, (by decide : 1 + 0 ≤ _), (by decide : 30 + 0 ≤ _)⟩)
      dsimp only [Pt.U, Pt.locs, Pt.cells, Pt.slots] at X85 l85 y85 z85 st85 hQ85
      subst l85 y85 z85
      obtain ⟨rfl, N85q, e85⟩ := hQ85
      have N85 := Fr.app N76 N85q
      obtain ⟨_, _, ⟨T86, L86, k86, n86⟩, -, X86, ⟨Lc86, hQ86, l86, y86, z86⟩, st86⟩ := Jvm.LawKit.callS X85 hx (y := (⟨"com/example/eventloom/eventloom/XmlChars", "isNameStartChar", "(I)Z"⟩ : MethodName)) hown (mvT hZ (hw _ (List.mem_of_getElem? (i := 11) rfl))) (mvT hZ (hw _ (List.mem_of_getElem? (i := 12) rfl))) (mvT hZ (hw _ (List.mem_of_getElem? (i := 13) rfl))) (mvT hZ (hw _ (List.mem_of_getElem? (i := 14) rfl))) (by decide) (backOf (W := 0) (rm1 l Z a0 hw [] ((own_start y74).toInt32) h71 n0 Z71) hZ (hw _ (List.mem_of_getElem? (i := 14) rfl)) (hw _ (List.mem_of_getElem? (i := 13) rfl)) (by decide) (by decide)) (g := (mkF m 293 #[.val (.int p1), .val (.int p2), .val (.ref b1), .val (.int y74), .val (.long (own_start y74)), .second, .val (.long (own_end y74)), .second, .val (.long (((own_end y74) - (own_start y74)) + (1 : Int64))), .second, .val (.long y82), .second, .val (.int (1 : Int32))] [(.int ((own_start y74).toInt32))])) rfl (by rw [hml]; rfl) (argsL := [(.int ((own_start y74).toInt32))]) (rest := []) (lenOf pd_0 rfl) rfl (by show 2 * 0 + _ ≤ _; exact Nat.le_of_eq rfl) (hb hby at_293) (fun _ _ => ⟨rfl, e85, (by decide : 1 + 0 ≤ _), (by decide : 30 + 0 ≤ _)⟩)
      dsimp only [Pt.U, Pt.locs, Pt.cells, Pt.slots] at X86 l86 y86 z86 st86 hQ86
      subst l86 y86 z86
      obtain ⟨rfl, N86q, e86⟩ := hQ86
      have N86 := Fr.app N85 N86q
      obtain ⟨_, _, ⟨T87, L87, k87, n87⟩, -, X87, ⟨Lc87, hQ87, l87, y87, z87⟩, st87⟩ := Jvm.LawKit.callS X86 hx (y := (⟨"com/example/eventloom/eventloom/XmlChars", "isNameStartChar", "(I)Z"⟩ : MethodName)) hown (mvT hZ (hw _ (List.mem_of_getElem? (i := 11) rfl))) (mvT hZ (hw _ (List.mem_of_getElem? (i := 12) rfl))) (mvT hZ (hw _ (List.mem_of_getElem? (i := 13) rfl))) (mvT hZ (hw _ (List.mem_of_getElem? (i := 14) rfl))) (by decide) (backOf (W := 0) (rm1 l Z a0 hw [] ((own_end y74).toInt32) h71 n0 Z71) hZ (hw _ (List.mem_of_getElem? (i := 14) rfl)) (hw _ (List.mem_of_getElem? (i := 13) rfl)) (by decide) (by decide)) (g := (mkF m 304 #[.val (.int p1), .val (.int p2), .val (.ref b1), .val (.int y74), .val (.long (own_start y74)), .second, .val (.long (own_end y74)), .second, .val (.long (((own_end y74) - (own_start y74)) + (1 : Int64))), .second, .val (.long y82), .second, .val (.int (1 : Int32))] [(.int ((own_end y74).toInt32))])) rfl (by rw [hml]; rfl) (argsL := [(.int ((own_end y74).toInt32))]) (rest := []) (lenOf pd_0 rfl) rfl (by show 2 * 0 + _ ≤ _; exact Nat.le_of_eq rfl) (hb hby at_304) (fun _ _ => ⟨rfl, e86, (by decide : 1 + 0 ≤ _), (by decide : 30 + 0 ≤ _)⟩)
      dsimp only [Pt.U, Pt.locs, Pt.cells, Pt.slots] at X87 l87 y87 z87 st87 hQ87
      subst l87 y87 z87
      obtain ⟨rfl, N87q, e87⟩ := hQ87
      have N87 := Fr.app N86 N87q
      obtain ⟨fs, hr, hrun, hended, hW, hsame⟩ := X87.leave (v := some (.int (1 : Int32))) (fun h => by rw [Bd.returns] at h; cases h)
      refine ⟨_, _, pre83 _ ?_, hrun, hended, _, _, rfl, ?_, ⟨_, rfl⟩, hW, hsame.mono (by decide) (by decide)⟩
      · show Steps p.tables e below (T71.setTop (mkF m 269 #[.val (.int p1), .val (.int p2), .val (.ref b1), .val (.int y74), .val (.long (own_start y74)), .second, .val (.long (own_end y74)), .second, .val (.long (((own_end y74) - (own_start y74)) + (1 : Int64))), .second, .val (.long y82), .second, .unset] [(.int (1 : Int32)), (.int (y74 &&& (1 : Int32)))])) _
        refine XS.icmpNo X76.here hx rfl (hb hby at_269) rfl (teq hc269_84).2 ?_
        show Steps p.tables e below (T71.setTop (mkF m 272 #[.val (.int p1), .val (.int p2), .val (.ref b1), .val (.int y74), .val (.long (own_start y74)), .second, .val (.long (own_end y74)), .second, .val (.long (((own_end y74) - (own_start y74)) + (1 : Int64))), .second, .val (.long y82), .second, .unset] [])) _
        refine XS.iconst X76.here hx rfl (hb hby at_272) ?_
        show Steps p.tables e below (T71.setTop (mkF m 273 #[.val (.int p1), .val (.int p2), .val (.ref b1), .val (.int y74), .val (.long (own_start y74)), .second, .val (.long (own_end y74)), .second, .val (.long (((own_end y74) - (own_start y74)) + (1 : Int64))), .second, .val (.long y82), .second, .unset] [(.int (1 : Int32))])) _
        refine XS.goto X76.here hx rfl (pc0 := 273) (pc' := 277) rfl (hb hby at_273) (by decide) (by decide) ?_
        show Steps p.tables e below (T71.setTop (mkF m 277 #[.val (.int p1), .val (.int p2), .val (.ref b1), .val (.int y74), .val (.long (own_start y74)), .second, .val (.long (own_end y74)), .second, .val (.long (((own_end y74) - (own_start y74)) + (1 : Int64))), .second, .val (.long y82), .second, .unset] [(.int (1 : Int32))])) _
        refine XS.istore X76.here hx rfl (hb hby at_277) rfl (l' := #[.val (.int p1), .val (.int p2), .val (.ref b1), .val (.int y74), .val (.long (own_start y74)), .second, .val (.long (own_end y74)), .second, .val (.long (((own_end y74) - (own_start y74)) + (1 : Int64))), .second, .val (.long y82), .second, .val (.int (1 : Int32))]) rfl ?_
        show Steps p.tables e below (T71.setTop (mkF m 279 #[.val (.int p1), .val (.int p2), .val (.ref b1), .val (.int y74), .val (.long (own_start y74)), .second, .val (.long (own_end y74)), .second, .val (.long (((own_end y74) - (own_start y74)) + (1 : Int64))), .second, .val (.long y82), .second, .val (.int (1 : Int32))] [])) _
        refine XS.lload X76.here hx rfl (hb hby at_279) rfl ?_
        show Steps p.tables e below (T71.setTop (mkF m 281 #[.val (.int p1), .val (.int p2), .val (.ref b1), .val (.int y74), .val (.long (own_start y74)), .second, .val (.long (own_end y74)), .second, .val (.long (((own_end y74) - (own_start y74)) + (1 : Int64))), .second, .val (.long y82), .second, .val (.int (1 : Int32))] [(.long y82)])) _
        refine XS.l2i X76.here hx rfl (hb hby at_281) rfl ?_
        show Steps p.tables e below (T71.setTop (mkF m 282 #[.val (.int p1), .val (.int p2), .val (.ref b1), .val (.int y74), .val (.long (own_start y74)), .second, .val (.long (own_end y74)), .second, .val (.long (((own_end y74) - (own_start y74)) + (1 : Int64))), .second, .val (.long y82), .second, .val (.int (1 : Int32))] [(.int (y82.toInt32))])) _
        refine st85 _ ?_
        show Steps p.tables e below (T85.setTop (mkF m 285 #[.val (.int p1), .val (.int p2), .val (.ref b1), .val (.int y74), .val (.long (own_start y74)), .second, .val (.long (own_end y74)), .second, .val (.long (((own_end y74) - (own_start y74)) + (1 : Int64))), .second, .val (.long y82), .second, .val (.int (1 : Int32))] [(.int (own_ns (y82.toInt32)))])) _
        refine XS.iload X85.here hx rfl (hb hby at_285) rfl ?_
        show Steps p.tables e below (T85.setTop (mkF m 287 #[.val (.int p1), .val (.int p2), .val (.ref b1), .val (.int y74), .val (.long (own_start y74)), .second, .val (.long (own_end y74)), .second, .val (.long (((own_end y74) - (own_start y74)) + (1 : Int64))), .second, .val (.long y82), .second, .val (.int (1 : Int32))] [(.int (1 : Int32)), (.int (own_ns (y82.toInt32)))])) _
        refine XS.icmpNo X85.here hx rfl (hb hby at_287) rfl (teq (((own_mid hi0 hi1 hy82).trans (if_pos hc269_84)) : ((own_ns (y82.toInt32)) = (1 : Int32)))).2 ?_
        show Steps p.tables e below (T85.setTop (mkF m 290 #[.val (.int p1), .val (.int p2), .val (.ref b1), .val (.int y74), .val (.long (own_start y74)), .second, .val (.long (own_end y74)), .second, .val (.long (((own_end y74) - (own_start y74)) + (1 : Int64))), .second, .val (.long y82), .second, .val (.int (1 : Int32))] [])) _
        refine XS.lload X85.here hx rfl (hb hby at_290) rfl ?_
        show Steps p.tables e below (T85.setTop (mkF m 292 #[.val (.int p1), .val (.int p2), .val (.ref b1), .val (.int y74), .val (.long (own_start y74)), .second, .val (.long (own_end y74)), .second, .val (.long (((own_end y74) - (own_start y74)) + (1 : Int64))), .second, .val (.long y82), .second, .val (.int (1 : Int32))] [(.long (own_start y74))])) _
        refine XS.l2i X85.here hx rfl (hb hby at_292) rfl ?_
        show Steps p.tables e below (T85.setTop (mkF m 293 #[.val (.int p1), .val (.int p2), .val (.ref b1), .val (.int y74), .val (.long (own_start y74)), .second, .val (.long (own_end y74)), .second, .val (.long (((own_end y74) - (own_start y74)) + (1 : Int64))), .second, .val (.long y82), .second, .val (.int (1 : Int32))] [(.int ((own_start y74).toInt32))])) _
        refine st86 _ ?_
        show Steps p.tables e below (T86.setTop (mkF m 296 #[.val (.int p1), .val (.int p2), .val (.ref b1), .val (.int y74), .val (.long (own_start y74)), .second, .val (.long (own_end y74)), .second, .val (.long (((own_end y74) - (own_start y74)) + (1 : Int64))), .second, .val (.long y82), .second, .val (.int (1 : Int32))] [(.int (own_ns ((own_start y74).toInt32)))])) _
        refine XS.iload X86.here hx rfl (hb hby at_296) rfl ?_
        show Steps p.tables e below (T86.setTop (mkF m 298 #[.val (.int p1), .val (.int p2), .val (.ref b1), .val (.int y74), .val (.long (own_start y74)), .second, .val (.long (own_end y74)), .second, .val (.long (((own_end y74) - (own_start y74)) + (1 : Int64))), .second, .val (.long y82), .second, .val (.int (1 : Int32))] [(.int (1 : Int32)), (.int (own_ns ((own_start y74).toInt32)))])) _
        refine XS.icmpNo X86.here hx rfl (hb hby at_298) rfl (teq (((own_ends hi0 hi1).1.trans (if_pos hc269_84)) : ((own_ns ((own_start y74).toInt32)) = (1 : Int32)))).2 ?_
        show Steps p.tables e below (T86.setTop (mkF m 301 #[.val (.int p1), .val (.int p2), .val (.ref b1), .val (.int y74), .val (.long (own_start y74)), .second, .val (.long (own_end y74)), .second, .val (.long (((own_end y74) - (own_start y74)) + (1 : Int64))), .second, .val (.long y82), .second, .val (.int (1 : Int32))] [])) _
        refine XS.lload X86.here hx rfl (hb hby at_301) rfl ?_
        show Steps p.tables e below (T86.setTop (mkF m 303 #[.val (.int p1), .val (.int p2), .val (.ref b1), .val (.int y74), .val (.long (own_start y74)), .second, .val (.long (own_end y74)), .second, .val (.long (((own_end y74) - (own_start y74)) + (1 : Int64))), .second, .val (.long y82), .second, .val (.int (1 : Int32))] [(.long (own_end y74))])) _
        refine XS.l2i X86.here hx rfl (hb hby at_303) rfl ?_
        show Steps p.tables e below (T86.setTop (mkF m 304 #[.val (.int p1), .val (.int p2), .val (.ref b1), .val (.int y74), .val (.long (own_start y74)), .second, .val (.long (own_end y74)), .second, .val (.long (((own_end y74) - (own_start y74)) + (1 : Int64))), .second, .val (.long y82), .second, .val (.int (1 : Int32))] [(.int ((own_end y74).toInt32))])) _
        refine st87 _ ?_
        show Steps p.tables e below (T87.setTop (mkF m 307 #[.val (.int p1), .val (.int p2), .val (.ref b1), .val (.int y74), .val (.long (own_start y74)), .second, .val (.long (own_end y74)), .second, .val (.long (((own_end y74) - (own_start y74)) + (1 : Int64))), .second, .val (.long y82), .second, .val (.int (1 : Int32))] [(.int (own_ns ((own_end y74).toInt32)))])) _
        refine XS.iload X87.here hx rfl (hb hby at_307) rfl ?_
        show Steps p.tables e below (T87.setTop (mkF m 309 #[.val (.int p1), .val (.int p2), .val (.ref b1), .val (.int y74), .val (.long (own_start y74)), .second, .val (.long (own_end y74)), .second, .val (.long (((own_end y74) - (own_start y74)) + (1 : Int64))), .second, .val (.long y82), .second, .val (.int (1 : Int32))] [(.int (1 : Int32)), (.int (own_ns ((own_end y74).toInt32)))])) _
        refine XS.icmpNo X87.here hx rfl (hb hby at_309) rfl (teq (((own_ends hi0 hi1).2.trans (if_pos hc269_84)) : ((own_ns ((own_end y74).toInt32)) = (1 : Int32)))).2 ?_
        show Steps p.tables e below (T87.setTop (mkF m 312 #[.val (.int p1), .val (.int p2), .val (.ref b1), .val (.int y74), .val (.long (own_start y74)), .second, .val (.long (own_end y74)), .second, .val (.long (((own_end y74) - (own_start y74)) + (1 : Int64))), .second, .val (.long y82), .second, .val (.int (1 : Int32))] [])) _
        refine XS.iconst X87.here hx rfl (hb hby at_312) ?_
        show Steps p.tables e below (T87.setTop (mkF m 313 #[.val (.int p1), .val (.int p2), .val (.ref b1), .val (.int y74), .val (.long (own_start y74)), .second, .val (.long (own_end y74)), .second, .val (.long (((own_end y74) - (own_start y74)) + (1 : Int64))), .second, .val (.long y82), .second, .val (.int (1 : Int32))] [(.int (1 : Int32))])) _
        refine XS.goto X87.here hx rfl (pc0 := 313) (pc' := 317) rfl (hb hby at_313) (by decide) (by decide) ?_
        show Steps p.tables e below (T87.setTop (mkF m 317 #[.val (.int p1), .val (.int p2), .val (.ref b1), .val (.int y74), .val (.long (own_start y74)), .second, .val (.long (own_end y74)), .second, .val (.long (((own_end y74) - (own_start y74)) + (1 : Int64))), .second, .val (.long y82), .second, .val (.int (1 : Int32))] [(.int (1 : Int32))])) _
        exact retN X87 hx (t := .boolean) Bd.returns (by simp) (hb hby at_317) hr
      · show Q_rm0 Z p1 p2 h0 n0 _ T87.heap _
        rw [e87]
        exact ⟨rfl, N87⟩
    · obtain ⟨_, _, ⟨T88, L88, k88, n88⟩, -, X88, ⟨Lc88, hQ88, l88, y88, z88⟩, st88⟩ := Jvm.LawKit.callS X76 hx (y := (⟨"com/example/eventloom/eventloom/XmlChars", "isNameStartChar", "(I)Z"⟩ : MethodName)) hown (mvT hZ (hw _ (List.mem_of_getElem? (i := 11) rfl))) (mvT hZ (hw _ (List.mem_of_getElem? (i := 12) rfl))) (mvT hZ (hw _ (List.mem_of_getElem? (i := 13) rfl))) (mvT hZ (hw _ (List.mem_of_getElem? (i := 14) rfl))) (by decide) (backOf (W := 0) (rm1 l Z a0 hw [] (y82.toInt32) h71 n0 Z71) hZ (hw _ (List.mem_of_getElem? (i := 14) rfl)) (hw _ (List.mem_of_getElem? (i := 13) rfl)) (by decide) (by decide)) (g := (mkF m 282 #[.val (.int p1), .val (.int p2), .val (.ref b1), .val (.int y74), .val (.long (own_start y74)), .second, .val (.long (own_end y74)), .second, .val (.long (((own_end y74) - (own_start y74)) + (1 : Int64))), .second, .val (.long y82), .second, .val (.int (0 : Int32))] [(.int (y82.toInt32))])) rfl (by rw [hml]; rfl) (argsL := [(.int (y82.toInt32))]) (rest := []) (lenOf pd_0 rfl) rfl (by show 2 * 0 + _ ≤ _; exact Nat.le_of_eq rfl) (hb hby at_282) (fun _ _ => ⟨rfl, e71, (by decide : 1 + 0 ≤ _), (by decide : 30 + 0 ≤ _)⟩)
      dsimp only [Pt.U, Pt.locs, Pt.cells, Pt.slots] at X88 l88 y88 z88 st88 hQ88
      subst l88 y88 z88
      obtain ⟨rfl, N88q, e88⟩ := hQ88
      have N88 := Fr.app N76 N88q
      obtain ⟨_, _, ⟨T89, L89, k89, n89⟩, -, X89, ⟨Lc89, hQ89, l89, y89, z89⟩, st89⟩ := Jvm.LawKit.callS X88 hx (y := (⟨"com/example/eventloom/eventloom/XmlChars", "isNameStartChar", "(I)Z"⟩ : MethodName)) hown (mvT hZ (hw _ (List.mem_of_getElem? (i := 11) rfl))) (mvT hZ (hw _ (List.mem_of_getElem? (i := 12) rfl))) (mvT hZ (hw _ (List.mem_of_getElem? (i := 13) rfl))) (mvT hZ (hw _ (List.mem_of_getElem? (i := 14) rfl))) (by decide) (backOf (W := 0) (rm1 l Z a0 hw [] ((own_start y74).toInt32) h71 n0 Z71) hZ (hw _ (List.mem_of_getElem? (i := 14) rfl)) (hw _ (List.mem_of_getElem? (i := 13) rfl)) (by decide) (by decide)) (g := (mkF m 293 #[.val (.int p1), .val (.int p2), .val (.ref b1), .val (.int y74), .val (.long (own_start y74)), .second, .val (.long (own_end y74)), .second, .val (.long (((own_end y74) - (own_start y74)) + (1 : Int64))), .second, .val (.long y82), .second, .val (.int (0 : Int32))] [(.int ((own_start y74).toInt32))])) rfl (by rw [hml]; rfl) (argsL := [(.int ((own_start y74).toInt32))]) (rest := []) (lenOf pd_0 rfl) rfl (by show 2 * 0 + _ ≤ _; exact Nat.le_of_eq rfl) (hb hby at_293) (fun _ _ => ⟨rfl, e88, (by decide : 1 + 0 ≤ _), (by decide : 30 + 0 ≤ _)⟩)
      dsimp only [Pt.U, Pt.locs, Pt.cells, Pt.slots] at X89 l89 y89 z89 st89 hQ89
      subst l89 y89 z89
      obtain ⟨rfl, N89q, e89⟩ := hQ89
      have N89 := Fr.app N88 N89q
      obtain ⟨_, _, ⟨T90, L90, k90, n90⟩, -, X90, ⟨Lc90, hQ90, l90, y90, z90⟩, st90⟩ := Jvm.LawKit.callS X89 hx (y := (⟨"com/example/eventloom/eventloom/XmlChars", "isNameStartChar", "(I)Z"⟩ : MethodName)) hown (mvT hZ (hw _ (List.mem_of_getElem? (i := 11) rfl))) (mvT hZ (hw _ (List.mem_of_getElem? (i := 12) rfl))) (mvT hZ (hw _ (List.mem_of_getElem? (i := 13) rfl))) (mvT hZ (hw _ (List.mem_of_getElem? (i := 14) rfl))) (by decide) (backOf (W := 0) (rm1 l Z a0 hw [] ((own_end y74).toInt32) h71 n0 Z71) hZ (hw _ (List.mem_of_getElem? (i := 14) rfl)) (hw _ (List.mem_of_getElem? (i := 13) rfl)) (by decide) (by decide)) (g := (mkF m 304 #[.val (.int p1), .val (.int p2), .val (.ref b1), .val (.int y74), .val (.long (own_start y74)), .second, .val (.long (own_end y74)), .second, .val (.long (((own_end y74) - (own_start y74)) + (1 : Int64))), .second, .val (.long y82), .second, .val (.int (0 : Int32))] [(.int ((own_end y74).toInt32))])) rfl (by rw [hml]; rfl) (argsL := [(.int ((own_end y74).toInt32))]) (rest := []) (lenOf pd_0 rfl) rfl (by show 2 * 0 + _ ≤ _; exact Nat.le_of_eq rfl) (hb hby at_304) (fun _ _ => ⟨rfl, e89, (by decide : 1 + 0 ≤ _), (by decide : 30 + 0 ≤ _)⟩)
      dsimp only [Pt.U, Pt.locs, Pt.cells, Pt.slots] at X90 l90 y90 z90 st90 hQ90
      subst l90 y90 z90
      obtain ⟨rfl, N90q, e90⟩ := hQ90
      have N90 := Fr.app N89 N90q
      obtain ⟨fs, hr, hrun, hended, hW, hsame⟩ := X90.leave (v := some (.int (1 : Int32))) (fun h => by rw [Bd.returns] at h; cases h)
      refine ⟨_, _, pre83 _ ?_, hrun, hended, _, _, rfl, ?_, ⟨_, rfl⟩, hW, hsame.mono (by decide) (by decide)⟩
      · show Steps p.tables e below (T71.setTop (mkF m 269 #[.val (.int p1), .val (.int p2), .val (.ref b1), .val (.int y74), .val (.long (own_start y74)), .second, .val (.long (own_end y74)), .second, .val (.long (((own_end y74) - (own_start y74)) + (1 : Int64))), .second, .val (.long y82), .second, .unset] [(.int (1 : Int32)), (.int (y74 &&& (1 : Int32)))])) _
        refine XS.icmpYes X76.here hx rfl (pc0 := 269) (pc' := 276) rfl (hb hby at_269) rfl (feq hc269_84).2 (by decide) (by decide) ?_
        show Steps p.tables e below (T71.setTop (mkF m 276 #[.val (.int p1), .val (.int p2), .val (.ref b1), .val (.int y74), .val (.long (own_start y74)), .second, .val (.long (own_end y74)), .second, .val (.long (((own_end y74) - (own_start y74)) + (1 : Int64))), .second, .val (.long y82), .second, .unset] [])) _
        refine XS.iconst X76.here hx rfl (hb hby at_276) ?_
        show Steps p.tables e below (T71.setTop (mkF m 277 #[.val (.int p1), .val (.int p2), .val (.ref b1), .val (.int y74), .val (.long (own_start y74)), .second, .val (.long (own_end y74)), .second, .val (.long (((own_end y74) - (own_start y74)) + (1 : Int64))), .second, .val (.long y82), .second, .unset] [(.int (0 : Int32))])) _
        refine XS.istore X76.here hx rfl (hb hby at_277) rfl (l' := #[.val (.int p1), .val (.int p2), .val (.ref b1), .val (.int y74), .val (.long (own_start y74)), .second, .val (.long (own_end y74)), .second, .val (.long (((own_end y74) - (own_start y74)) + (1 : Int64))), .second, .val (.long y82), .second, .val (.int (0 : Int32))]) rfl ?_
        show Steps p.tables e below (T71.setTop (mkF m 279 #[.val (.int p1), .val (.int p2), .val (.ref b1), .val (.int y74), .val (.long (own_start y74)), .second, .val (.long (own_end y74)), .second, .val (.long (((own_end y74) - (own_start y74)) + (1 : Int64))), .second, .val (.long y82), .second, .val (.int (0 : Int32))] [])) _
        refine XS.lload X76.here hx rfl (hb hby at_279) rfl ?_
        show Steps p.tables e below (T71.setTop (mkF m 281 #[.val (.int p1), .val (.int p2), .val (.ref b1), .val (.int y74), .val (.long (own_start y74)), .second, .val (.long (own_end y74)), .second, .val (.long (((own_end y74) - (own_start y74)) + (1 : Int64))), .second, .val (.long y82), .second, .val (.int (0 : Int32))] [(.long y82)])) _
        refine XS.l2i X76.here hx rfl (hb hby at_281) rfl ?_
        show Steps p.tables e below (T71.setTop (mkF m 282 #[.val (.int p1), .val (.int p2), .val (.ref b1), .val (.int y74), .val (.long (own_start y74)), .second, .val (.long (own_end y74)), .second, .val (.long (((own_end y74) - (own_start y74)) + (1 : Int64))), .second, .val (.long y82), .second, .val (.int (0 : Int32))] [(.int (y82.toInt32))])) _
        refine st88 _ ?_
        show Steps p.tables e below (T88.setTop (mkF m 285 #[.val (.int p1), .val (.int p2), .val (.ref b1), .val (.int y74), .val (.long (own_start y74)), .second, .val (.long (own_end y74)), .second, .val (.long (((own_end y74) - (own_start y74)) + (1 : Int64))), .second, .val (.long y82), .second, .val (.int (0 : Int32))] [(.int (own_ns (y82.toInt32)))])) _
        refine XS.iload X88.here hx rfl (hb hby at_285) rfl ?_
        show Steps p.tables e below (T88.setTop (mkF m 287 #[.val (.int p1), .val (.int p2), .val (.ref b1), .val (.int y74), .val (.long (own_start y74)), .second, .val (.long (own_end y74)), .second, .val (.long (((own_end y74) - (own_start y74)) + (1 : Int64))), .second, .val (.long y82), .second, .val (.int (0 : Int32))] [(.int (0 : Int32)), (.int (own_ns (y82.toInt32)))])) _
        refine XS.icmpNo X88.here hx rfl (hb hby at_287) rfl (teq (((own_mid hi0 hi1 hy82).trans (if_neg hc269_84)) : ((own_ns (y82.toInt32)) = (0 : Int32)))).2 ?_
        show Steps p.tables e below (T88.setTop (mkF m 290 #[.val (.int p1), .val (.int p2), .val (.ref b1), .val (.int y74), .val (.long (own_start y74)), .second, .val (.long (own_end y74)), .second, .val (.long (((own_end y74) - (own_start y74)) + (1 : Int64))), .second, .val (.long y82), .second, .val (.int (0 : Int32))] [])) _
        refine XS.lload X88.here hx rfl (hb hby at_290) rfl ?_
        show Steps p.tables e below (T88.setTop (mkF m 292 #[.val (.int p1), .val (.int p2), .val (.ref b1), .val (.int y74), .val (.long (own_start y74)), .second, .val (.long (own_end y74)), .second, .val (.long (((own_end y74) - (own_start y74)) + (1 : Int64))), .second, .val (.long y82), .second, .val (.int (0 : Int32))] [(.long (own_start y74))])) _
        refine XS.l2i X88.here hx rfl (hb hby at_292) rfl ?_
        show Steps p.tables e below (T88.setTop (mkF m 293 #[.val (.int p1), .val (.int p2), .val (.ref b1), .val (.int y74), .val (.long (own_start y74)), .second, .val (.long (own_end y74)), .second, .val (.long (((own_end y74) - (own_start y74)) + (1 : Int64))), .second, .val (.long y82), .second, .val (.int (0 : Int32))] [(.int ((own_start y74).toInt32))])) _
        refine st89 _ ?_
        show Steps p.tables e below (T89.setTop (mkF m 296 #[.val (.int p1), .val (.int p2), .val (.ref b1), .val (.int y74), .val (.long (own_start y74)), .second, .val (.long (own_end y74)), .second, .val (.long (((own_end y74) - (own_start y74)) + (1 : Int64))), .second, .val (.long y82), .second, .val (.int (0 : Int32))] [(.int (own_ns ((own_start y74).toInt32)))])) _
        refine XS.iload X89.here hx rfl (hb hby at_296) rfl ?_
        show Steps p.tables e below (T89.setTop (mkF m 298 #[.val (.int p1), .val (.int p2), .val (.ref b1), .val (.int y74), .val (.long (own_start y74)), .second, .val (.long (own_end y74)), .second, .val (.long (((own_end y74) - (own_start y74)) + (1 : Int64))), .second, .val (.long y82), .second, .val (.int (0 : Int32))] [(.int (0 : Int32)), (.int (own_ns ((own_start y74).toInt32)))])) _
        refine XS.icmpNo X89.here hx rfl (hb hby at_298) rfl (teq (((own_ends hi0 hi1).1.trans (if_neg hc269_84)) : ((own_ns ((own_start y74).toInt32)) = (0 : Int32)))).2 ?_
        show Steps p.tables e below (T89.setTop (mkF m 301 #[.val (.int p1), .val (.int p2), .val (.ref b1), .val (.int y74), .val (.long (own_start y74)), .second, .val (.long (own_end y74)), .second, .val (.long (((own_end y74) - (own_start y74)) + (1 : Int64))), .second, .val (.long y82), .second, .val (.int (0 : Int32))] [])) _
        refine XS.lload X89.here hx rfl (hb hby at_301) rfl ?_
        show Steps p.tables e below (T89.setTop (mkF m 303 #[.val (.int p1), .val (.int p2), .val (.ref b1), .val (.int y74), .val (.long (own_start y74)), .second, .val (.long (own_end y74)), .second, .val (.long (((own_end y74) - (own_start y74)) + (1 : Int64))), .second, .val (.long y82), .second, .val (.int (0 : Int32))] [(.long (own_end y74))])) _
        refine XS.l2i X89.here hx rfl (hb hby at_303) rfl ?_
        show Steps p.tables e below (T89.setTop (mkF m 304 #[.val (.int p1), .val (.int p2), .val (.ref b1), .val (.int y74), .val (.long (own_start y74)), .second, .val (.long (own_end y74)), .second, .val (.long (((own_end y74) - (own_start y74)) + (1 : Int64))), .second, .val (.long y82), .second, .val (.int (0 : Int32))] [(.int ((own_end y74).toInt32))])) _
        refine st90 _ ?_
        show Steps p.tables e below (T90.setTop (mkF m 307 #[.val (.int p1), .val (.int p2), .val (.ref b1), .val (.int y74), .val (.long (own_start y74)), .second, .val (.long (own_end y74)), .second, .val (.long (((own_end y74) - (own_start y74)) + (1 : Int64))), .second, .val (.long y82), .second, .val (.int (0 : Int32))] [(.int (own_ns ((own_end y74).toInt32)))])) _
        refine XS.iload X90.here hx rfl (hb hby at_307) rfl ?_
        show Steps p.tables e below (T90.setTop (mkF m 309 #[.val (.int p1), .val (.int p2), .val (.ref b1), .val (.int y74), .val (.long (own_start y74)), .second, .val (.long (own_end y74)), .second, .val (.long (((own_end y74) - (own_start y74)) + (1 : Int64))), .second, .val (.long y82), .second, .val (.int (0 : Int32))] [(.int (0 : Int32)), (.int (own_ns ((own_end y74).toInt32)))])) _
        refine XS.icmpNo X90.here hx rfl (hb hby at_309) rfl (teq (((own_ends hi0 hi1).2.trans (if_neg hc269_84)) : ((own_ns ((own_end y74).toInt32)) = (0 : Int32)))).2 ?_
        show Steps p.tables e below (T90.setTop (mkF m 312 #[.val (.int p1), .val (.int p2), .val (.ref b1), .val (.int y74), .val (.long (own_start y74)), .second, .val (.long (own_end y74)), .second, .val (.long (((own_end y74) - (own_start y74)) + (1 : Int64))), .second, .val (.long y82), .second, .val (.int (0 : Int32))] [])) _
        refine XS.iconst X90.here hx rfl (hb hby at_312) ?_
        show Steps p.tables e below (T90.setTop (mkF m 313 #[.val (.int p1), .val (.int p2), .val (.ref b1), .val (.int y74), .val (.long (own_start y74)), .second, .val (.long (own_end y74)), .second, .val (.long (((own_end y74) - (own_start y74)) + (1 : Int64))), .second, .val (.long y82), .second, .val (.int (0 : Int32))] [(.int (1 : Int32))])) _
        refine XS.goto X90.here hx rfl (pc0 := 313) (pc' := 317) rfl (hb hby at_313) (by decide) (by decide) ?_
        show Steps p.tables e below (T90.setTop (mkF m 317 #[.val (.int p1), .val (.int p2), .val (.ref b1), .val (.int y74), .val (.long (own_start y74)), .second, .val (.long (own_end y74)), .second, .val (.long (((own_end y74) - (own_start y74)) + (1 : Int64))), .second, .val (.long y82), .second, .val (.int (0 : Int32))] [(.int (1 : Int32))])) _
        exact retN X90 hx (t := .boolean) Bd.returns (by simp) (hb hby at_317) hr
      · show Q_rm0 Z p1 p2 h0 n0 _ T90.heap _
        rw [e90]
        exact ⟨rfl, N90⟩
  · obtain ⟨cl91, Ar91, S91, H91⟩ := id VT_v0
    have hin91 : ¬ ((y74 - (1 : Int32)) < 0 ∨ cl91.slots.size ≤ ((y74 - (1 : Int32))).toNatClampNeg) := inA S91 (own_ix1 hi0 hi1 hc205_78).1 (own_ix1 hi0 hi1 hc205_78).2
    have hat91 : cl91.slots[((y74 - (1 : Int32))).toNatClampNeg]? = some (.int (own_tab ((y74 - (1 : Int32))).toNatClampNeg)) := ArF.at S91 H91 hin91 rfl
    have es92 : ((own_tab ((y74 - (1 : Int32))).toNatClampNeg).toInt64) = own_start y74 := by rw [own_start, if_neg hc205_78]
    have pre93 : ∀ t, Steps p.tables e below (T71.setTop (mkF m 225 #[.val (.int p1), .val (.int p2), .val (.ref b1), .val (.int y74), .val (.long (own_start y74)), .second, .unset, .unset, .unset, .unset, .unset, .unset, .unset] [(.int (30 : Int32)), (.int y74)])) t → Steps p.tables e below (s₁.setTop (entryFrame m #[(.int p1), (.int p2)] maxLocals)) t := by
      intro t k
      refine pre77 t ?_
      show Steps p.tables e below (T71.setTop (mkF m 205 #[.val (.int p1), .val (.int p2), .val (.ref b1), .val (.int y74), .unset, .unset, .unset, .unset, .unset, .unset, .unset, .unset, .unset] [(.int y74)])) _
      refine XS.ifYes X76.here hx rfl (pc0 := 205) (pc' := 214) rfl (hb hby at_205) rfl ((if0 _ _).trans (feq hc205_78).2) (by decide) (by decide) ?_
      show Steps p.tables e below (T71.setTop (mkF m 214 #[.val (.int p1), .val (.int p2), .val (.ref b1), .val (.int y74), .unset, .unset, .unset, .unset, .unset, .unset, .unset, .unset, .unset] [])) _
      refine XS.aloadN X76.here hx rfl (hb hby at_214) rfl rfl ?_
      show Steps p.tables e below (T71.setTop (mkF m 215 #[.val (.int p1), .val (.int p2), .val (.ref b1), .val (.int y74), .unset, .unset, .unset, .unset, .unset, .unset, .unset, .unset, .unset] [(.ref b1)])) _
      refine XS.iloadN X76.here hx rfl (hb hby at_215) rfl ?_
      show Steps p.tables e below (T71.setTop (mkF m 216 #[.val (.int p1), .val (.int p2), .val (.ref b1), .val (.int y74), .unset, .unset, .unset, .unset, .unset, .unset, .unset, .unset, .unset] [(.int y74), (.ref b1)])) _
      refine XS.iconst X76.here hx rfl (hb hby at_216) ?_
      show Steps p.tables e below (T71.setTop (mkF m 217 #[.val (.int p1), .val (.int p2), .val (.ref b1), .val (.int y74), .unset, .unset, .unset, .unset, .unset, .unset, .unset, .unset, .unset] [(.int (1 : Int32)), (.int y74), (.ref b1)])) _
      refine XS.isub X76.here hx rfl (hb hby at_217) rfl ?_
      show Steps p.tables e below (T71.setTop (mkF m 218 #[.val (.int p1), .val (.int p2), .val (.ref b1), .val (.int y74), .unset, .unset, .unset, .unset, .unset, .unset, .unset, .unset, .unset] [(.int (y74 - (1 : Int32))), (.ref b1)])) _
      refine X76.iaload hx (j := (y74 - (1 : Int32))) (v := (.int (own_tab ((y74 - (1 : Int32))).toNatClampNeg))) (by rw [e71]; exact Ar91.1) (State.isArrayOf_alike hZ.alike Ar91.2.1) Ar91.2.2 hin91 hat91 (g := (mkF m 218 #[.val (.int p1), .val (.int p2), .val (.ref b1), .val (.int y74), .unset, .unset, .unset, .unset, .unset, .unset, .unset, .unset, .unset] [(.int (y74 - (1 : Int32))), (.ref b1)])) rfl rfl (hb hby at_218) _ ?_
      show Steps p.tables e below (T71.setTop (mkF m 219 #[.val (.int p1), .val (.int p2), .val (.ref b1), .val (.int y74), .unset, .unset, .unset, .unset, .unset, .unset, .unset, .unset, .unset] [(.int (own_tab ((y74 - (1 : Int32))).toNatClampNeg))])) _
      refine XS.i2l X76.here hx rfl (hb hby at_219) rfl ?_
      show Steps p.tables e below (T71.setTop (mkF m 220 #[.val (.int p1), .val (.int p2), .val (.ref b1), .val (.int y74), .unset, .unset, .unset, .unset, .unset, .unset, .unset, .unset, .unset] [(.long ((own_tab ((y74 - (1 : Int32))).toNatClampNeg).toInt64))])) _
      rw [es92]
      show Steps p.tables e below (T71.setTop (mkF m 220 #[.val (.int p1), .val (.int p2), .val (.ref b1), .val (.int y74), .unset, .unset, .unset, .unset, .unset, .unset, .unset, .unset, .unset] [(.long (own_start y74))])) _
      refine XS.lstore X76.here hx rfl (hb hby at_220) rfl (l' := #[.val (.int p1), .val (.int p2), .val (.ref b1), .val (.int y74), .val (.long (own_start y74)), .second, .unset, .unset, .unset, .unset, .unset, .unset, .unset]) rfl ?_
      show Steps p.tables e below (T71.setTop (mkF m 222 #[.val (.int p1), .val (.int p2), .val (.ref b1), .val (.int y74), .val (.long (own_start y74)), .second, .unset, .unset, .unset, .unset, .unset, .unset, .unset] [])) _
      refine XS.iloadN X76.here hx rfl (hb hby at_222) rfl ?_
      show Steps p.tables e below (T71.setTop (mkF m 223 #[.val (.int p1), .val (.int p2), .val (.ref b1), .val (.int y74), .val (.long (own_start y74)), .second, .unset, .unset, .unset, .unset, .unset, .unset, .unset] [(.int y74)])) _
      refine XS.bipush X76.here hx rfl (hb hby at_223) ?_
      exact k
    by_cases hc225_94 : y74 = (30 : Int32)
    · have es95 : (2147483647 : Int64) = own_end y74 := by rw [own_end, if_pos hc225_94]
      obtain ⟨y96, hy96⟩ : ∃ z : Int64, z = ((own_start y74) + (((p2.toInt64) &&& (4294967295 : Int64)) - (((p2.toInt64) &&& (4294967295 : Int64)) / (((own_end y74) - (own_start y74)) + (1 : Int64))) * (((own_end y74) - (own_start y74)) + (1 : Int64)))) := ⟨_, rfl⟩
      have pre97 : ∀ t, Steps p.tables e below (T71.setTop (mkF m 269 #[.val (.int p1), .val (.int p2), .val (.ref b1), .val (.int y74), .val (.long (own_start y74)), .second, .val (.long (own_end y74)), .second, .val (.long (((own_end y74) - (own_start y74)) + (1 : Int64))), .second, .val (.long y96), .second, .unset] [(.int (1 : Int32)), (.int (y74 &&& (1 : Int32)))])) t → Steps p.tables e below (s₁.setTop (entryFrame m #[(.int p1), (.int p2)] maxLocals)) t := by
        intro t k
        refine pre93 t ?_
        show Steps p.tables e below (T71.setTop (mkF m 225 #[.val (.int p1), .val (.int p2), .val (.ref b1), .val (.int y74), .val (.long (own_start y74)), .second, .unset, .unset, .unset, .unset, .unset, .unset, .unset] [(.int (30 : Int32)), (.int y74)])) _
        refine XS.icmpNo X76.here hx rfl (hb hby at_225) rfl (teq hc225_94).2 ?_
        show Steps p.tables e below (T71.setTop (mkF m 228 #[.val (.int p1), .val (.int p2), .val (.ref b1), .val (.int y74), .val (.long (own_start y74)), .second, .unset, .unset, .unset, .unset, .unset, .unset, .unset] [])) _
        refine X76.ldc2Long hx hown (mvT hZ (hw _ (List.mem_of_getElem? (i := 20) rfl))) (g := (mkF m 228 #[.val (.int p1), .val (.int p2), .val (.ref b1), .val (.int y74), .val (.long (own_start y74)), .second, .unset, .unset, .unset, .unset, .unset, .unset, .unset] [])) rfl (hb hby at_228) _ ?_
        show Steps p.tables e below (T71.setTop (mkF m 231 #[.val (.int p1), .val (.int p2), .val (.ref b1), .val (.int y74), .val (.long (own_start y74)), .second, .unset, .unset, .unset, .unset, .unset, .unset, .unset] [(.long (2147483647 : Int64))])) _
        refine XS.goto X76.here hx rfl (pc0 := 231) (pc' := 240) rfl (hb hby at_231) (by decide) (by decide) ?_
        show Steps p.tables e below (T71.setTop (mkF m 240 #[.val (.int p1), .val (.int p2), .val (.ref b1), .val (.int y74), .val (.long (own_start y74)), .second, .unset, .unset, .unset, .unset, .unset, .unset, .unset] [(.long (2147483647 : Int64))])) _
        rw [es95]
        show Steps p.tables e below (T71.setTop (mkF m 240 #[.val (.int p1), .val (.int p2), .val (.ref b1), .val (.int y74), .val (.long (own_start y74)), .second, .unset, .unset, .unset, .unset, .unset, .unset, .unset] [(.long (own_end y74))])) _
        refine XS.lstore X76.here hx rfl (hb hby at_240) rfl (l' := #[.val (.int p1), .val (.int p2), .val (.ref b1), .val (.int y74), .val (.long (own_start y74)), .second, .val (.long (own_end y74)), .second, .unset, .unset, .unset, .unset, .unset]) rfl ?_
        show Steps p.tables e below (T71.setTop (mkF m 242 #[.val (.int p1), .val (.int p2), .val (.ref b1), .val (.int y74), .val (.long (own_start y74)), .second, .val (.long (own_end y74)), .second, .unset, .unset, .unset, .unset, .unset] [])) _
        refine XS.lload X76.here hx rfl (hb hby at_242) rfl ?_
        show Steps p.tables e below (T71.setTop (mkF m 244 #[.val (.int p1), .val (.int p2), .val (.ref b1), .val (.int y74), .val (.long (own_start y74)), .second, .val (.long (own_end y74)), .second, .unset, .unset, .unset, .unset, .unset] [(.long (own_end y74))])) _
        refine XS.lload X76.here hx rfl (hb hby at_244) rfl ?_
        show Steps p.tables e below (T71.setTop (mkF m 246 #[.val (.int p1), .val (.int p2), .val (.ref b1), .val (.int y74), .val (.long (own_start y74)), .second, .val (.long (own_end y74)), .second, .unset, .unset, .unset, .unset, .unset] [(.long (own_start y74)), (.long (own_end y74))])) _
        refine XS.lsub X76.here hx rfl (hb hby at_246) rfl ?_
        show Steps p.tables e below (T71.setTop (mkF m 247 #[.val (.int p1), .val (.int p2), .val (.ref b1), .val (.int y74), .val (.long (own_start y74)), .second, .val (.long (own_end y74)), .second, .unset, .unset, .unset, .unset, .unset] [(.long ((own_end y74) - (own_start y74)))])) _
        refine XS.lconst X76.here hx rfl (hb hby at_247) ?_
        show Steps p.tables e below (T71.setTop (mkF m 248 #[.val (.int p1), .val (.int p2), .val (.ref b1), .val (.int y74), .val (.long (own_start y74)), .second, .val (.long (own_end y74)), .second, .unset, .unset, .unset, .unset, .unset] [(.long (1 : Int64)), (.long ((own_end y74) - (own_start y74)))])) _
        refine XS.ladd X76.here hx rfl (hb hby at_248) rfl ?_
        show Steps p.tables e below (T71.setTop (mkF m 249 #[.val (.int p1), .val (.int p2), .val (.ref b1), .val (.int y74), .val (.long (own_start y74)), .second, .val (.long (own_end y74)), .second, .unset, .unset, .unset, .unset, .unset] [(.long (((own_end y74) - (own_start y74)) + (1 : Int64)))])) _
        refine XS.lstore X76.here hx rfl (hb hby at_249) rfl (l' := #[.val (.int p1), .val (.int p2), .val (.ref b1), .val (.int y74), .val (.long (own_start y74)), .second, .val (.long (own_end y74)), .second, .val (.long (((own_end y74) - (own_start y74)) + (1 : Int64))), .second, .unset, .unset, .unset]) rfl ?_
        show Steps p.tables e below (T71.setTop (mkF m 251 #[.val (.int p1), .val (.int p2), .val (.ref b1), .val (.int y74), .val (.long (own_start y74)), .second, .val (.long (own_end y74)), .second, .val (.long (((own_end y74) - (own_start y74)) + (1 : Int64))), .second, .unset, .unset, .unset] [])) _
        refine XS.lload X76.here hx rfl (hb hby at_251) rfl ?_
        show Steps p.tables e below (T71.setTop (mkF m 253 #[.val (.int p1), .val (.int p2), .val (.ref b1), .val (.int y74), .val (.long (own_start y74)), .second, .val (.long (own_end y74)), .second, .val (.long (((own_end y74) - (own_start y74)) + (1 : Int64))), .second, .unset, .unset, .unset] [(.long (own_start y74))])) _
        refine XS.iloadN X76.here hx rfl (hb hby at_253) rfl ?_
        show Steps p.tables e below (T71.setTop (mkF m 254 #[.val (.int p1), .val (.int p2), .val (.ref b1), .val (.int y74), .val (.long (own_start y74)), .second, .val (.long (own_end y74)), .second, .val (.long (((own_end y74) - (own_start y74)) + (1 : Int64))), .second, .unset, .unset, .unset] [(.int p2), (.long (own_start y74))])) _
        refine XS.i2l X76.here hx rfl (hb hby at_254) rfl ?_
        show Steps p.tables e below (T71.setTop (mkF m 255 #[.val (.int p1), .val (.int p2), .val (.ref b1), .val (.int y74), .val (.long (own_start y74)), .second, .val (.long (own_end y74)), .second, .val (.long (((own_end y74) - (own_start y74)) + (1 : Int64))), .second, .unset, .unset, .unset] [(.long (p2.toInt64)), (.long (own_start y74))])) _
        refine X76.ldc2Long hx hown (mvT hZ (hw _ (List.mem_of_getElem? (i := 10) rfl))) (g := (mkF m 255 #[.val (.int p1), .val (.int p2), .val (.ref b1), .val (.int y74), .val (.long (own_start y74)), .second, .val (.long (own_end y74)), .second, .val (.long (((own_end y74) - (own_start y74)) + (1 : Int64))), .second, .unset, .unset, .unset] [(.long (p2.toInt64)), (.long (own_start y74))])) rfl (hb hby at_255) _ ?_
        show Steps p.tables e below (T71.setTop (mkF m 258 #[.val (.int p1), .val (.int p2), .val (.ref b1), .val (.int y74), .val (.long (own_start y74)), .second, .val (.long (own_end y74)), .second, .val (.long (((own_end y74) - (own_start y74)) + (1 : Int64))), .second, .unset, .unset, .unset] [(.long (4294967295 : Int64)), (.long (p2.toInt64)), (.long (own_start y74))])) _
        refine XS.land X76.here hx rfl (hb hby at_258) rfl ?_
        show Steps p.tables e below (T71.setTop (mkF m 259 #[.val (.int p1), .val (.int p2), .val (.ref b1), .val (.int y74), .val (.long (own_start y74)), .second, .val (.long (own_end y74)), .second, .val (.long (((own_end y74) - (own_start y74)) + (1 : Int64))), .second, .unset, .unset, .unset] [(.long ((p2.toInt64) &&& (4294967295 : Int64))), (.long (own_start y74))])) _
        refine XS.lload X76.here hx rfl (hb hby at_259) rfl ?_
        show Steps p.tables e below (T71.setTop (mkF m 261 #[.val (.int p1), .val (.int p2), .val (.ref b1), .val (.int y74), .val (.long (own_start y74)), .second, .val (.long (own_end y74)), .second, .val (.long (((own_end y74) - (own_start y74)) + (1 : Int64))), .second, .unset, .unset, .unset] [(.long (((own_end y74) - (own_start y74)) + (1 : Int64))), (.long ((p2.toInt64) &&& (4294967295 : Int64))), (.long (own_start y74))])) _
        refine XS.lrem X76.here hx rfl (hb hby at_261) rfl (own_nz hi0 hi1) ?_
        show Steps p.tables e below (T71.setTop (mkF m 262 #[.val (.int p1), .val (.int p2), .val (.ref b1), .val (.int y74), .val (.long (own_start y74)), .second, .val (.long (own_end y74)), .second, .val (.long (((own_end y74) - (own_start y74)) + (1 : Int64))), .second, .unset, .unset, .unset] [(.long (((p2.toInt64) &&& (4294967295 : Int64)) - (((p2.toInt64) &&& (4294967295 : Int64)) / (((own_end y74) - (own_start y74)) + (1 : Int64))) * (((own_end y74) - (own_start y74)) + (1 : Int64)))), (.long (own_start y74))])) _
        refine XS.ladd X76.here hx rfl (hb hby at_262) rfl ?_
        show Steps p.tables e below (T71.setTop (mkF m 263 #[.val (.int p1), .val (.int p2), .val (.ref b1), .val (.int y74), .val (.long (own_start y74)), .second, .val (.long (own_end y74)), .second, .val (.long (((own_end y74) - (own_start y74)) + (1 : Int64))), .second, .unset, .unset, .unset] [(.long ((own_start y74) + (((p2.toInt64) &&& (4294967295 : Int64)) - (((p2.toInt64) &&& (4294967295 : Int64)) / (((own_end y74) - (own_start y74)) + (1 : Int64))) * (((own_end y74) - (own_start y74)) + (1 : Int64)))))])) _
        rw [← hy96]
        refine XS.lstore X76.here hx rfl (hb hby at_263) rfl (l' := #[.val (.int p1), .val (.int p2), .val (.ref b1), .val (.int y74), .val (.long (own_start y74)), .second, .val (.long (own_end y74)), .second, .val (.long (((own_end y74) - (own_start y74)) + (1 : Int64))), .second, .val (.long y96), .second, .unset]) rfl ?_
        show Steps p.tables e below (T71.setTop (mkF m 265 #[.val (.int p1), .val (.int p2), .val (.ref b1), .val (.int y74), .val (.long (own_start y74)), .second, .val (.long (own_end y74)), .second, .val (.long (((own_end y74) - (own_start y74)) + (1 : Int64))), .second, .val (.long y96), .second, .unset] [])) _
        refine XS.iloadN X76.here hx rfl (hb hby at_265) rfl ?_
        show Steps p.tables e below (T71.setTop (mkF m 266 #[.val (.int p1), .val (.int p2), .val (.ref b1), .val (.int y74), .val (.long (own_start y74)), .second, .val (.long (own_end y74)), .second, .val (.long (((own_end y74) - (own_start y74)) + (1 : Int64))), .second, .val (.long y96), .second, .unset] [(.int y74)])) _
        refine XS.iconst X76.here hx rfl (hb hby at_266) ?_
        show Steps p.tables e below (T71.setTop (mkF m 267 #[.val (.int p1), .val (.int p2), .val (.ref b1), .val (.int y74), .val (.long (own_start y74)), .second, .val (.long (own_end y74)), .second, .val (.long (((own_end y74) - (own_start y74)) + (1 : Int64))), .second, .val (.long y96), .second, .unset] [(.int (1 : Int32)), (.int y74)])) _
        refine XS.iand X76.here hx rfl (hb hby at_267) rfl ?_
        show Steps p.tables e below (T71.setTop (mkF m 268 #[.val (.int p1), .val (.int p2), .val (.ref b1), .val (.int y74), .val (.long (own_start y74)), .second, .val (.long (own_end y74)), .second, .val (.long (((own_end y74) - (own_start y74)) + (1 : Int64))), .second, .val (.long y96), .second, .unset] [(.int (y74 &&& (1 : Int32)))])) _
        refine XS.iconst X76.here hx rfl (hb hby at_268) ?_
        exact k
      by_cases hc269_98 : (y74 &&& (1 : Int32)) = (1 : Int32)
      · obtain ⟨_, _, ⟨T99, L99, k99, n99⟩, -, X99, ⟨Lc99, hQ99, l99, y99, z99⟩, st99⟩ := Jvm.LawKit.callS X76 hx (y := (⟨"com/example/eventloom/eventloom/XmlChars", "isNameStartChar", "(I)Z"⟩ : MethodName)) hown (mvT hZ (hw _ (List.mem_of_getElem? (i := 11) rfl))) (mvT hZ (hw _ (List.mem_of_getElem? (i := 12) rfl))) (mvT hZ (hw _ (List.mem_of_getElem? (i := 13) rfl))) (mvT hZ (hw _ (List.mem_of_getElem? (i := 14) rfl))) (by decide) (backOf (W := 0) (rm1 l Z a0 hw [] (y96.toInt32) h71 n0 Z71) hZ (hw _ (List.mem_of_getElem? (i := 14) rfl)) (hw _ (List.mem_of_getElem? (i := 13) rfl)) (by decide) (by decide)) (g := (mkF m 282 #[.val (.int p1), .val (.int p2), .val (.ref b1), .val (.int y74), .val (.long (own_start y74)), .second, .val (.long (own_end y74)), .second, .val (.long (((own_end y74) - (own_start y74)) + (1 : Int64))), .second, .val (.long y96), .second, .val (.int (1 : Int32))] [(.int (y96.toInt32))])) rfl (by rw [hml]; rfl) (argsL := [(.int (y96.toInt32))]) (rest := []) (lenOf pd_0 rfl) rfl (by show 2 * 0 + _ ≤ _; exact Nat.le_of_eq rfl) (hb hby at_282) (fun _ _ => ⟨rfl, e71, (by decide : 1 + 0 ≤ _), (by decide : 30 + 0 ≤ _)⟩)
        dsimp only [Pt.U, Pt.locs, Pt.cells, Pt.slots] at X99 l99 y99 z99 st99 hQ99
        subst l99 y99 z99
        obtain ⟨rfl, N99q, e99⟩ := hQ99
        have N99 := Fr.app N76 N99q
        obtain ⟨_, _, ⟨T100, L100, k100, n100⟩, -, X100, ⟨Lc100, hQ100, l100, y100, z100⟩, st100⟩ := Jvm.LawKit.callS X99 hx (y := (⟨"com/example/eventloom/eventloom/XmlChars", "isNameStartChar", "(I)Z"⟩ : MethodName)) hown (mvT hZ (hw _ (List.mem_of_getElem? (i := 11) rfl))) (mvT hZ (hw _ (List.mem_of_getElem? (i := 12) rfl))) (mvT hZ (hw _ (List.mem_of_getElem? (i := 13) rfl))) (mvT hZ (hw _ (List.mem_of_getElem? (i := 14) rfl))) (by decide) (backOf (W := 0) (rm1 l Z a0 hw [] ((own_start y74).toInt32) h71 n0 Z71) hZ (hw _ (List.mem_of_getElem? (i := 14) rfl)) (hw _ (List.mem_of_getElem? (i := 13) rfl)) (by decide) (by decide)) (g := (mkF m 293 #[.val (.int p1), .val (.int p2), .val (.ref b1), .val (.int y74), .val (.long (own_start y74)), .second, .val (.long (own_end y74)), .second, .val (.long (((own_end y74) - (own_start y74)) + (1 : Int64))), .second, .val (.long y96), .second, .val (.int (1 : Int32))] [(.int ((own_start y74).toInt32))])) rfl (by rw [hml]; rfl) (argsL := [(.int ((own_start y74).toInt32))]) (rest := []) (lenOf pd_0 rfl) rfl (by show 2 * 0 + _ ≤ _; exact Nat.le_of_eq rfl) (hb hby at_293) (fun _ _ => ⟨rfl, e99, (by decide : 1 + 0 ≤ _), (by decide : 30 + 0 ≤ _)⟩)
        dsimp only [Pt.U, Pt.locs, Pt.cells, Pt.slots] at X100 l100 y100 z100 st100 hQ100
        subst l100 y100 z100
        obtain ⟨rfl, N100q, e100⟩ := hQ100
        have N100 := Fr.app N99 N100q
        obtain ⟨_, _, ⟨T101, L101, k101, n101⟩, -, X101, ⟨Lc101, hQ101, l101, y101, z101⟩, st101⟩ := Jvm.LawKit.callS X100 hx (y := (⟨"com/example/eventloom/eventloom/XmlChars", "isNameStartChar", "(I)Z"⟩ : MethodName)) hown (mvT hZ (hw _ (List.mem_of_getElem? (i := 11) rfl))) (mvT hZ (hw _ (List.mem_of_getElem? (i := 12) rfl))) (mvT hZ (hw _ (List.mem_of_getElem? (i := 13) rfl))) (mvT hZ (hw _ (List.mem_of_getElem? (i := 14) rfl))) (by decide) (backOf (W := 0) (rm1 l Z a0 hw [] ((own_end y74).toInt32) h71 n0 Z71) hZ (hw _ (List.mem_of_getElem? (i := 14) rfl)) (hw _ (List.mem_of_getElem? (i := 13) rfl)) (by decide) (by decide)) (g := (mkF m 304 #[.val (.int p1), .val (.int p2), .val (.ref b1), .val (.int y74), .val (.long (own_start y74)), .second, .val (.long (own_end y74)), .second, .val (.long (((own_end y74) - (own_start y74)) + (1 : Int64))), .second, .val (.long y96), .second, .val (.int (1 : Int32))] [(.int ((own_end y74).toInt32))])) rfl (by rw [hml]; rfl) (argsL := [(.int ((own_end y74).toInt32))]) (rest := []) (lenOf pd_0 rfl) rfl (by show 2 * 0 + _ ≤ _; exact Nat.le_of_eq rfl) (hb hby at_304) (fun _ _ => ⟨rfl, e100, (by decide : 1 + 0 ≤ _), (by decide : 30 + 0 ≤ _)⟩)
        dsimp only [Pt.U, Pt.locs, Pt.cells, Pt.slots] at X101 l101 y101 z101 st101 hQ101
        subst l101 y101 z101
        obtain ⟨rfl, N101q, e101⟩ := hQ101
        have N101 := Fr.app N100 N101q
        obtain ⟨fs, hr, hrun, hended, hW, hsame⟩ := X101.leave (v := some (.int (1 : Int32))) (fun h => by rw [Bd.returns] at h; cases h)
        refine ⟨_, _, pre97 _ ?_, hrun, hended, _, _, rfl, ?_, ⟨_, rfl⟩, hW, hsame.mono (by decide) (by decide)⟩
        · show Steps p.tables e below (T71.setTop (mkF m 269 #[.val (.int p1), .val (.int p2), .val (.ref b1), .val (.int y74), .val (.long (own_start y74)), .second, .val (.long (own_end y74)), .second, .val (.long (((own_end y74) - (own_start y74)) + (1 : Int64))), .second, .val (.long y96), .second, .unset] [(.int (1 : Int32)), (.int (y74 &&& (1 : Int32)))])) _
          refine XS.icmpNo X76.here hx rfl (hb hby at_269) rfl (teq hc269_98).2 ?_
          show Steps p.tables e below (T71.setTop (mkF m 272 #[.val (.int p1), .val (.int p2), .val (.ref b1), .val (.int y74), .val (.long (own_start y74)), .second, .val (.long (own_end y74)), .second, .val (.long (((own_end y74) - (own_start y74)) + (1 : Int64))), .second, .val (.long y96), .second, .unset] [])) _
          refine XS.iconst X76.here hx rfl (hb hby at_272) ?_
          show Steps p.tables e below (T71.setTop (mkF m 273 #[.val (.int p1), .val (.int p2), .val (.ref b1), .val (.int y74), .val (.long (own_start y74)), .second, .val (.long (own_end y74)), .second, .val (.long (((own_end y74) - (own_start y74)) + (1 : Int64))), .second, .val (.long y96), .second, .unset] [(.int (1 : Int32))])) _
          refine XS.goto X76.here hx rfl (pc0 := 273) (pc' := 277) rfl (hb hby at_273) (by decide) (by decide) ?_
          show Steps p.tables e below (T71.setTop (mkF m 277 #[.val (.int p1), .val (.int p2), .val (.ref b1), .val (.int y74), .val (.long (own_start y74)), .second, .val (.long (own_end y74)), .second, .val (.long (((own_end y74) - (own_start y74)) + (1 : Int64))), .second, .val (.long y96), .second, .unset] [(.int (1 : Int32))])) _
          refine XS.istore X76.here hx rfl (hb hby at_277) rfl (l' := #[.val (.int p1), .val (.int p2), .val (.ref b1), .val (.int y74), .val (.long (own_start y74)), .second, .val (.long (own_end y74)), .second, .val (.long (((own_end y74) - (own_start y74)) + (1 : Int64))), .second, .val (.long y96), .second, .val (.int (1 : Int32))]) rfl ?_
          show Steps p.tables e below (T71.setTop (mkF m 279 #[.val (.int p1), .val (.int p2), .val (.ref b1), .val (.int y74), .val (.long (own_start y74)), .second, .val (.long (own_end y74)), .second, .val (.long (((own_end y74) - (own_start y74)) + (1 : Int64))), .second, .val (.long y96), .second, .val (.int (1 : Int32))] [])) _
          refine XS.lload X76.here hx rfl (hb hby at_279) rfl ?_
          show Steps p.tables e below (T71.setTop (mkF m 281 #[.val (.int p1), .val (.int p2), .val (.ref b1), .val (.int y74), .val (.long (own_start y74)), .second, .val (.long (own_end y74)), .second, .val (.long (((own_end y74) - (own_start y74)) + (1 : Int64))), .second, .val (.long y96), .second, .val (.int (1 : Int32))] [(.long y96)])) _
          refine XS.l2i X76.here hx rfl (hb hby at_281) rfl ?_
          show Steps p.tables e below (T71.setTop (mkF m 282 #[.val (.int p1), .val (.int p2), .val (.ref b1), .val (.int y74), .val (.long (own_start y74)), .second, .val (.long (own_end y74)), .second, .val (.long (((own_end y74) - (own_start y74)) + (1 : Int64))), .second, .val (.long y96), .second, .val (.int (1 : Int32))] [(.int (y96.toInt32))])) _
          refine st99 _ ?_
          show Steps p.tables e below (T99.setTop (mkF m 285 #[.val (.int p1), .val (.int p2), .val (.ref b1), .val (.int y74), .val (.long (own_start y74)), .second, .val (.long (own_end y74)), .second, .val (.long (((own_end y74) - (own_start y74)) + (1 : Int64))), .second, .val (.long y96), .second, .val (.int (1 : Int32))] [(.int (own_ns (y96.toInt32)))])) _
          refine XS.iload X99.here hx rfl (hb hby at_285) rfl ?_
          show Steps p.tables e below (T99.setTop (mkF m 287 #[.val (.int p1), .val (.int p2), .val (.ref b1), .val (.int y74), .val (.long (own_start y74)), .second, .val (.long (own_end y74)), .second, .val (.long (((own_end y74) - (own_start y74)) + (1 : Int64))), .second, .val (.long y96), .second, .val (.int (1 : Int32))] [(.int (1 : Int32)), (.int (own_ns (y96.toInt32)))])) _
          refine XS.icmpNo X99.here hx rfl (hb hby at_287) rfl (teq (((own_mid hi0 hi1 hy96).trans (if_pos hc269_98)) : ((own_ns (y96.toInt32)) = (1 : Int32)))).2 ?_
          show Steps p.tables e below (T99.setTop (mkF m 290 #[.val (.int p1), .val (.int p2), .val (.ref b1), .val (.int y74), .val (.long (own_start y74)), .second, .val (.long (own_end y74)), .second, .val (.long (((own_end y74) - (own_start y74)) + (1 : Int64))), .second, .val (.long y96), .second, .val (.int (1 : Int32))] [])) _
          refine XS.lload X99.here hx rfl (hb hby at_290) rfl ?_
          show Steps p.tables e below (T99.setTop (mkF m 292 #[.val (.int p1), .val (.int p2), .val (.ref b1), .val (.int y74), .val (.long (own_start y74)), .second, .val (.long (own_end y74)), .second, .val (.long (((own_end y74) - (own_start y74)) + (1 : Int64))), .second, .val (.long y96), .second, .val (.int (1 : Int32))] [(.long (own_start y74))])) _
          refine XS.l2i X99.here hx rfl (hb hby at_292) rfl ?_
          show Steps p.tables e below (T99.setTop (mkF m 293 #[.val (.int p1), .val (.int p2), .val (.ref b1), .val (.int y74), .val (.long (own_start y74)), .second, .val (.long (own_end y74)), .second, .val (.long (((own_end y74) - (own_start y74)) + (1 : Int64))), .second, .val (.long y96), .second, .val (.int (1 : Int32))] [(.int ((own_start y74).toInt32))])) _
          refine st100 _ ?_
          show Steps p.tables e below (T100.setTop (mkF m 296 #[.val (.int p1), .val (.int p2), .val (.ref b1), .val (.int y74), .val (.long (own_start y74)), .second, .val (.long (own_end y74)), .second, .val (.long (((own_end y74) - (own_start y74)) + (1 : Int64))), .second, .val (.long y96), .second, .val (.int (1 : Int32))] [(.int (own_ns ((own_start y74).toInt32)))])) _
          refine XS.iload X100.here hx rfl (hb hby at_296) rfl ?_
          show Steps p.tables e below (T100.setTop (mkF m 298 #[.val (.int p1), .val (.int p2), .val (.ref b1), .val (.int y74), .val (.long (own_start y74)), .second, .val (.long (own_end y74)), .second, .val (.long (((own_end y74) - (own_start y74)) + (1 : Int64))), .second, .val (.long y96), .second, .val (.int (1 : Int32))] [(.int (1 : Int32)), (.int (own_ns ((own_start y74).toInt32)))])) _
          refine XS.icmpNo X100.here hx rfl (hb hby at_298) rfl (teq (((own_ends hi0 hi1).1.trans (if_pos hc269_98)) : ((own_ns ((own_start y74).toInt32)) = (1 : Int32)))).2 ?_
          show Steps p.tables e below (T100.setTop (mkF m 301 #[.val (.int p1), .val (.int p2), .val (.ref b1), .val (.int y74), .val (.long (own_start y74)), .second, .val (.long (own_end y74)), .second, .val (.long (((own_end y74) - (own_start y74)) + (1 : Int64))), .second, .val (.long y96), .second, .val (.int (1 : Int32))] [])) _
          refine XS.lload X100.here hx rfl (hb hby at_301) rfl ?_
          show Steps p.tables e below (T100.setTop (mkF m 303 #[.val (.int p1), .val (.int p2), .val (.ref b1), .val (.int y74), .val (.long (own_start y74)), .second, .val (.long (own_end y74)), .second, .val (.long (((own_end y74) - (own_start y74)) + (1 : Int64))), .second, .val (.long y96), .second, .val (.int (1 : Int32))] [(.long (own_end y74))])) _
          refine XS.l2i X100.here hx rfl (hb hby at_303) rfl ?_
          show Steps p.tables e below (T100.setTop (mkF m 304 #[.val (.int p1), .val (.int p2), .val (.ref b1), .val (.int y74), .val (.long (own_start y74)), .second, .val (.long (own_end y74)), .second, .val (.long (((own_end y74) - (own_start y74)) + (1 : Int64))), .second, .val (.long y96), .second, .val (.int (1 : Int32))] [(.int ((own_end y74).toInt32))])) _
          refine st101 _ ?_
          show Steps p.tables e below (T101.setTop (mkF m 307 #[.val (.int p1), .val (.int p2), .val (.ref b1), .val (.int y74), .val (.long (own_start y74)), .second, .val (.long (own_end y74)), .second, .val (.long (((own_end y74) - (own_start y74)) + (1 : Int64))), .second, .val (.long y96), .second, .val (.int (1 : Int32))] [(.int (own_ns ((own_end y74).toInt32)))])) _
          refine XS.iload X101.here hx rfl (hb hby at_307) rfl ?_
          show Steps p.tables e below (T101.setTop (mkF m 309 #[.val (.int p1), .val (.int p2), .val (.ref b1), .val (.int y74), .val (.long (own_start y74)), .second, .val (.long (own_end y74)), .second, .val (.long (((own_end y74) - (own_start y74)) + (1 : Int64))), .second, .val (.long y96), .second, .val (.int (1 : Int32))] [(.int (1 : Int32)), (.int (own_ns ((own_end y74).toInt32)))])) _
          refine XS.icmpNo X101.here hx rfl (hb hby at_309) rfl (teq (((own_ends hi0 hi1).2.trans (if_pos hc269_98)) : ((own_ns ((own_end y74).toInt32)) = (1 : Int32)))).2 ?_
          show Steps p.tables e below (T101.setTop (mkF m 312 #[.val (.int p1), .val (.int p2), .val (.ref b1), .val (.int y74), .val (.long (own_start y74)), .second, .val (.long (own_end y74)), .second, .val (.long (((own_end y74) - (own_start y74)) + (1 : Int64))), .second, .val (.long y96), .second, .val (.int (1 : Int32))] [])) _
          refine XS.iconst X101.here hx rfl (hb hby at_312) ?_
          show Steps p.tables e below (T101.setTop (mkF m 313 #[.val (.int p1), .val (.int p2), .val (.ref b1), .val (.int y74), .val (.long (own_start y74)), .second, .val (.long (own_end y74)), .second, .val (.long (((own_end y74) - (own_start y74)) + (1 : Int64))), .second, .val (.long y96), .second, .val (.int (1 : Int32))] [(.int (1 : Int32))])) _
          refine XS.goto X101.here hx rfl (pc0 := 313) (pc' := 317) rfl (hb hby at_313) (by decide) (by decide) ?_
          show Steps p.tables e below (T101.setTop (mkF m 317 #[.val (.int p1), .val (.int p2), .val (.ref b1), .val (.int y74), .val (.long (own_start y74)), .second, .val (.long (own_end y74)), .second, .val (.long (((own_end y74) - (own_start y74)) + (1 : Int64))), .second, .val (.long y96), .second, .val (.int (1 : Int32))] [(.int (1 : Int32))])) _
          exact retN X101 hx (t := .boolean) Bd.returns (by simp) (hb hby at_317) hr
        · show Q_rm0 Z p1 p2 h0 n0 _ T101.heap _
          rw [e101]
          exact ⟨rfl, N101⟩
      · obtain ⟨_, _, ⟨T102, L102, k102, n102⟩, -, X102, ⟨Lc102, hQ102, l102, y102, z102⟩, st102⟩ := Jvm.LawKit.callS X76 hx (y := (⟨"com/example/eventloom/eventloom/XmlChars", "isNameStartChar", "(I)Z"⟩ : MethodName)) hown (mvT hZ (hw _ (List.mem_of_getElem? (i := 11) rfl))) (mvT hZ (hw _ (List.mem_of_getElem? (i := 12) rfl))) (mvT hZ (hw _ (List.mem_of_getElem? (i := 13) rfl))) (mvT hZ (hw _ (List.mem_of_getElem? (i := 14) rfl))) (by decide) (backOf (W := 0) (rm1 l Z a0 hw [] (y96.toInt32) h71 n0 Z71) hZ (hw _ (List.mem_of_getElem? (i := 14) rfl)) (hw _ (List.mem_of_getElem? (i := 13) rfl)) (by decide) (by decide)) (g := (mkF m 282 #[.val (.int p1), .val (.int p2), .val (.ref b1), .val (.int y74), .val (.long (own_start y74)), .second, .val (.long (own_end y74)), .second, .val (.long (((own_end y74) - (own_start y74)) + (1 : Int64))), .second, .val (.long y96), .second, .val (.int (0 : Int32))] [(.int (y96.toInt32))])) rfl (by rw [hml]; rfl) (argsL := [(.int (y96.toInt32))]) (rest := []) (lenOf pd_0 rfl) rfl (by show 2 * 0 + _ ≤ _; exact Nat.le_of_eq rfl) (hb hby at_282) (fun _ _ => ⟨rfl, e71, (by decide : 1 + 0 ≤ _), (by decide : 30 + 0 ≤ _)⟩)
        dsimp only [Pt.U, Pt.locs, Pt.cells, Pt.slots] at X102 l102 y102 z102 st102 hQ102
        subst l102 y102 z102
        obtain ⟨rfl, N102q, e102⟩ := hQ102
        have N102 := Fr.app N76 N102q
        obtain ⟨_, _, ⟨T103, L103, k103, n103⟩, -, X103, ⟨Lc103, hQ103, l103, y103, z103⟩, st103⟩ := Jvm.LawKit.callS X102 hx (y := (⟨"com/example/eventloom/eventloom/XmlChars", "isNameStartChar", "(I)Z"⟩ : MethodName)) hown (mvT hZ (hw _ (List.mem_of_getElem? (i := 11) rfl))) (mvT hZ (hw _ (List.mem_of_getElem? (i := 12) rfl))) (mvT hZ (hw _ (List.mem_of_getElem? (i := 13) rfl))) (mvT hZ (hw _ (List.mem_of_getElem? (i := 14) rfl))) (by decide) (backOf (W := 0) (rm1 l Z a0 hw [] ((own_start y74).toInt32) h71 n0 Z71) hZ (hw _ (List.mem_of_getElem? (i := 14) rfl)) (hw _ (List.mem_of_getElem? (i := 13) rfl)) (by decide) (by decide)) (g := (mkF m 293 #[.val (.int p1), .val (.int p2), .val (.ref b1), .val (.int y74), .val (.long (own_start y74)), .second, .val (.long (own_end y74)), .second, .val (.long (((own_end y74) - (own_start y74)) + (1 : Int64))), .second, .val (.long y96), .second, .val (.int (0 : Int32))] [(.int ((own_start y74).toInt32))])) rfl (by rw [hml]; rfl) (argsL := [(.int ((own_start y74).toInt32))]) (rest := []) (lenOf pd_0 rfl) rfl (by show 2 * 0 + _ ≤ _; exact Nat.le_of_eq rfl) (hb hby at_293) (fun _ _ => ⟨rfl, e102, (by decide : 1 + 0 ≤ _), (by decide : 30 + 0 ≤ _)⟩)
        dsimp only [Pt.U, Pt.locs, Pt.cells, Pt.slots] at X103 l103 y103 z103 st103 hQ103
        subst l103 y103 z103
        obtain ⟨rfl, N103q, e103⟩ := hQ103
        have N103 := Fr.app N102 N103q
        obtain ⟨_, _, ⟨T104, L104, k104, n104⟩, -, X104, ⟨Lc104, hQ104, l104, y104, z104⟩, st104⟩ := Jvm.LawKit.callS X103 hx (y := (⟨"com/example/eventloom/eventloom/XmlChars", "isNameStartChar", "(I)Z"⟩ : MethodName)) hown (mvT hZ (hw _ (List.mem_of_getElem? (i := 11) rfl))) (mvT hZ (hw _ (List.mem_of_getElem? (i := 12) rfl))) (mvT hZ (hw _ (List.mem_of_getElem? (i := 13) rfl))) (mvT hZ (hw _ (List.mem_of_getElem? (i := 14) rfl))) (by decide) (backOf (W := 0) (rm1 l Z a0 hw [] ((own_end y74).toInt32) h71 n0 Z71) hZ (hw _ (List.mem_of_getElem? (i := 14) rfl)) (hw _ (List.mem_of_getElem? (i := 13) rfl)) (by decide) (by decide)) (g := (mkF m 304 #[.val (.int p1), .val (.int p2), .val (.ref b1), .val (.int y74), .val (.long (own_start y74)), .second, .val (.long (own_end y74)), .second, .val (.long (((own_end y74) - (own_start y74)) + (1 : Int64))), .second, .val (.long y96), .second, .val (.int (0 : Int32))] [(.int ((own_end y74).toInt32))])) rfl (by rw [hml]; rfl) (argsL := [(.int ((own_end y74).toInt32))]) (rest := []) (lenOf pd_0 rfl) rfl (by show 2 * 0 + _ ≤ _; exact Nat.le_of_eq rfl) (hb hby at_304) (fun _ _ => ⟨rfl, e103, (by decide : 1 + 0 ≤ _), (by decide : 30 + 0 ≤ _)⟩)
        dsimp only [Pt.U, Pt.locs, Pt.cells, Pt.slots] at X104 l104 y104 z104 st104 hQ104
        subst l104 y104 z104
        obtain ⟨rfl, N104q, e104⟩ := hQ104
        have N104 := Fr.app N103 N104q
        obtain ⟨fs, hr, hrun, hended, hW, hsame⟩ := X104.leave (v := some (.int (1 : Int32))) (fun h => by rw [Bd.returns] at h; cases h)
        refine ⟨_, _, pre97 _ ?_, hrun, hended, _, _, rfl, ?_, ⟨_, rfl⟩, hW, hsame.mono (by decide) (by decide)⟩
        · show Steps p.tables e below (T71.setTop (mkF m 269 #[.val (.int p1), .val (.int p2), .val (.ref b1), .val (.int y74), .val (.long (own_start y74)), .second, .val (.long (own_end y74)), .second, .val (.long (((own_end y74) - (own_start y74)) + (1 : Int64))), .second, .val (.long y96), .second, .unset] [(.int (1 : Int32)), (.int (y74 &&& (1 : Int32)))])) _
          refine XS.icmpYes X76.here hx rfl (pc0 := 269) (pc' := 276) rfl (hb hby at_269) rfl (feq hc269_98).2 (by decide) (by decide) ?_
          show Steps p.tables e below (T71.setTop (mkF m 276 #[.val (.int p1), .val (.int p2), .val (.ref b1), .val (.int y74), .val (.long (own_start y74)), .second, .val (.long (own_end y74)), .second, .val (.long (((own_end y74) - (own_start y74)) + (1 : Int64))), .second, .val (.long y96), .second, .unset] [])) _
          refine XS.iconst X76.here hx rfl (hb hby at_276) ?_
          show Steps p.tables e below (T71.setTop (mkF m 277 #[.val (.int p1), .val (.int p2), .val (.ref b1), .val (.int y74), .val (.long (own_start y74)), .second, .val (.long (own_end y74)), .second, .val (.long (((own_end y74) - (own_start y74)) + (1 : Int64))), .second, .val (.long y96), .second, .unset] [(.int (0 : Int32))])) _
          refine XS.istore X76.here hx rfl (hb hby at_277) rfl (l' := #[.val (.int p1), .val (.int p2), .val (.ref b1), .val (.int y74), .val (.long (own_start y74)), .second, .val (.long (own_end y74)), .second, .val (.long (((own_end y74) - (own_start y74)) + (1 : Int64))), .second, .val (.long y96), .second, .val (.int (0 : Int32))]) rfl ?_
          show Steps p.tables e below (T71.setTop (mkF m 279 #[.val (.int p1), .val (.int p2), .val (.ref b1), .val (.int y74), .val (.long (own_start y74)), .second, .val (.long (own_end y74)), .second, .val (.long (((own_end y74) - (own_start y74)) + (1 : Int64))), .second, .val (.long y96), .second, .val (.int (0 : Int32))] [])) _
          refine XS.lload X76.here hx rfl (hb hby at_279) rfl ?_
          show Steps p.tables e below (T71.setTop (mkF m 281 #[.val (.int p1), .val (.int p2), .val (.ref b1), .val (.int y74), .val (.long (own_start y74)), .second, .val (.long (own_end y74)), .second, .val (.long (((own_end y74) - (own_start y74)) + (1 : Int64))), .second, .val (.long y96), .second, .val (.int (0 : Int32))] [(.long y96)])) _
          refine XS.l2i X76.here hx rfl (hb hby at_281) rfl ?_
          show Steps p.tables e below (T71.setTop (mkF m 282 #[.val (.int p1), .val (.int p2), .val (.ref b1), .val (.int y74), .val (.long (own_start y74)), .second, .val (.long (own_end y74)), .second, .val (.long (((own_end y74) - (own_start y74)) + (1 : Int64))), .second, .val (.long y96), .second, .val (.int (0 : Int32))] [(.int (y96.toInt32))])) _
          refine st102 _ ?_
          show Steps p.tables e below (T102.setTop (mkF m 285 #[.val (.int p1), .val (.int p2), .val (.ref b1), .val (.int y74), .val (.long (own_start y74)), .second, .val (.long (own_end y74)), .second, .val (.long (((own_end y74) - (own_start y74)) + (1 : Int64))), .second, .val (.long y96), .second, .val (.int (0 : Int32))] [(.int (own_ns (y96.toInt32)))])) _
          refine XS.iload X102.here hx rfl (hb hby at_285) rfl ?_
          show Steps p.tables e below (T102.setTop (mkF m 287 #[.val (.int p1), .val (.int p2), .val (.ref b1), .val (.int y74), .val (.long (own_start y74)), .second, .val (.long (own_end y74)), .second, .val (.long (((own_end y74) - (own_start y74)) + (1 : Int64))), .second, .val (.long y96), .second, .val (.int (0 : Int32))] [(.int (0 : Int32)), (.int (own_ns (y96.toInt32)))])) _
          refine XS.icmpNo X102.here hx rfl (hb hby at_287) rfl (teq (((own_mid hi0 hi1 hy96).trans (if_neg hc269_98)) : ((own_ns (y96.toInt32)) = (0 : Int32)))).2 ?_
          show Steps p.tables e below (T102.setTop (mkF m 290 #[.val (.int p1), .val (.int p2), .val (.ref b1), .val (.int y74), .val (.long (own_start y74)), .second, .val (.long (own_end y74)), .second, .val (.long (((own_end y74) - (own_start y74)) + (1 : Int64))), .second, .val (.long y96), .second, .val (.int (0 : Int32))] [])) _
          refine XS.lload X102.here hx rfl (hb hby at_290) rfl ?_
          show Steps p.tables e below (T102.setTop (mkF m 292 #[.val (.int p1), .val (.int p2), .val (.ref b1), .val (.int y74), .val (.long (own_start y74)), .second, .val (.long (own_end y74)), .second, .val (.long (((own_end y74) - (own_start y74)) + (1 : Int64))), .second, .val (.long y96), .second, .val (.int (0 : Int32))] [(.long (own_start y74))])) _
          refine XS.l2i X102.here hx rfl (hb hby at_292) rfl ?_
          show Steps p.tables e below (T102.setTop (mkF m 293 #[.val (.int p1), .val (.int p2), .val (.ref b1), .val (.int y74), .val (.long (own_start y74)), .second, .val (.long (own_end y74)), .second, .val (.long (((own_end y74) - (own_start y74)) + (1 : Int64))), .second, .val (.long y96), .second, .val (.int (0 : Int32))] [(.int ((own_start y74).toInt32))])) _
          refine st103 _ ?_
          show Steps p.tables e below (T103.setTop (mkF m 296 #[.val (.int p1), .val (.int p2), .val (.ref b1), .val (.int y74), .val (.long (own_start y74)), .second, .val (.long (own_end y74)), .second, .val (.long (((own_end y74) - (own_start y74)) + (1 : Int64))), .second, .val (.long y96), .second, .val (.int (0 : Int32))] [(.int (own_ns ((own_start y74).toInt32)))])) _
          refine XS.iload X103.here hx rfl (hb hby at_296) rfl ?_
          show Steps p.tables e below (T103.setTop (mkF m 298 #[.val (.int p1), .val (.int p2), .val (.ref b1), .val (.int y74), .val (.long (own_start y74)), .second, .val (.long (own_end y74)), .second, .val (.long (((own_end y74) - (own_start y74)) + (1 : Int64))), .second, .val (.long y96), .second, .val (.int (0 : Int32))] [(.int (0 : Int32)), (.int (own_ns ((own_start y74).toInt32)))])) _
          refine XS.icmpNo X103.here hx rfl (hb hby at_298) rfl (teq (((own_ends hi0 hi1).1.trans (if_neg hc269_98)) : ((own_ns ((own_start y74).toInt32)) = (0 : Int32)))).2 ?_
          show Steps p.tables e below (T103.setTop (mkF m 301 #[.val (.int p1), .val (.int p2), .val (.ref b1), .val (.int y74), .val (.long (own_start y74)), .second, .val (.long (own_end y74)), .second, .val (.long (((own_end y74) - (own_start y74)) + (1 : Int64))), .second, .val (.long y96), .second, .val (.int (0 : Int32))] [])) _
          refine XS.lload X103.here hx rfl (hb hby at_301) rfl ?_
          show Steps p.tables e below (T103.setTop (mkF m 303 #[.val (.int p1), .val (.int p2), .val (.ref b1), .val (.int y74), .val (.long (own_start y74)), .second, .val (.long (own_end y74)), .second, .val (.long (((own_end y74) - (own_start y74)) + (1 : Int64))), .second, .val (.long y96), .second, .val (.int (0 : Int32))] [(.long (own_end y74))])) _
          refine XS.l2i X103.here hx rfl (hb hby at_303) rfl ?_
          show Steps p.tables e below (T103.setTop (mkF m 304 #[.val (.int p1), .val (.int p2), .val (.ref b1), .val (.int y74), .val (.long (own_start y74)), .second, .val (.long (own_end y74)), .second, .val (.long (((own_end y74) - (own_start y74)) + (1 : Int64))), .second, .val (.long y96), .second, .val (.int (0 : Int32))] [(.int ((own_end y74).toInt32))])) _
          refine st104 _ ?_
          show Steps p.tables e below (T104.setTop (mkF m 307 #[.val (.int p1), .val (.int p2), .val (.ref b1), .val (.int y74), .val (.long (own_start y74)), .second, .val (.long (own_end y74)), .second, .val (.long (((own_end y74) - (own_start y74)) + (1 : Int64))), .second, .val (.long y96), .second, .val (.int (0 : Int32))] [(.int (own_ns ((own_end y74).toInt32)))])) _
          refine XS.iload X104.here hx rfl (hb hby at_307) rfl ?_
          show Steps p.tables e below (T104.setTop (mkF m 309 #[.val (.int p1), .val (.int p2), .val (.ref b1), .val (.int y74), .val (.long (own_start y74)), .second, .val (.long (own_end y74)), .second, .val (.long (((own_end y74) - (own_start y74)) + (1 : Int64))), .second, .val (.long y96), .second, .val (.int (0 : Int32))] [(.int (0 : Int32)), (.int (own_ns ((own_end y74).toInt32)))])) _
          refine XS.icmpNo X104.here hx rfl (hb hby at_309) rfl (teq (((own_ends hi0 hi1).2.trans (if_neg hc269_98)) : ((own_ns ((own_end y74).toInt32)) = (0 : Int32)))).2 ?_
          show Steps p.tables e below (T104.setTop (mkF m 312 #[.val (.int p1), .val (.int p2), .val (.ref b1), .val (.int y74), .val (.long (own_start y74)), .second, .val (.long (own_end y74)), .second, .val (.long (((own_end y74) - (own_start y74)) + (1 : Int64))), .second, .val (.long y96), .second, .val (.int (0 : Int32))] [])) _
          refine XS.iconst X104.here hx rfl (hb hby at_312) ?_
          show Steps p.tables e below (T104.setTop (mkF m 313 #[.val (.int p1), .val (.int p2), .val (.ref b1), .val (.int y74), .val (.long (own_start y74)), .second, .val (.long (own_end y74)), .second, .val (.long (((own_end y74) - (own_start y74)) + (1 : Int64))), .second, .val (.long y96), .second, .val (.int (0 : Int32))] [(.int (1 : Int32))])) _
          refine XS.goto X104.here hx rfl (pc0 := 313) (pc' := 317) rfl (hb hby at_313) (by decide) (by decide) ?_
          show Steps p.tables e below (T104.setTop (mkF m 317 #[.val (.int p1), .val (.int p2), .val (.ref b1), .val (.int y74), .val (.long (own_start y74)), .second, .val (.long (own_end y74)), .second, .val (.long (((own_end y74) - (own_start y74)) + (1 : Int64))), .second, .val (.long y96), .second, .val (.int (0 : Int32))] [(.int (1 : Int32))])) _
          exact retN X104 hx (t := .boolean) Bd.returns (by simp) (hb hby at_317) hr
        · show Q_rm0 Z p1 p2 h0 n0 _ T104.heap _
          rw [e104]
          exact ⟨rfl, N104⟩
    · obtain ⟨cl105, Ar105, S105, H105⟩ := id VT_v0
      have hin105 : ¬ (y74 < 0 ∨ cl105.slots.size ≤ (y74).toNatClampNeg) := inA S105 (own_ix2 hi0 hi1 hc225_94).1 (own_ix2 hi0 hi1 hc225_94).2
      have hat105 : cl105.slots[(y74).toNatClampNeg]? = some (.int (own_tab (y74).toNatClampNeg)) := ArF.at S105 H105 hin105 rfl
      have es106 : (((own_tab (y74).toNatClampNeg).toInt64) - (1 : Int64)) = own_end y74 := by rw [own_end, if_neg hc225_94]
      obtain ⟨y107, hy107⟩ : ∃ z : Int64, z = ((own_start y74) + (((p2.toInt64) &&& (4294967295 : Int64)) - (((p2.toInt64) &&& (4294967295 : Int64)) / (((own_end y74) - (own_start y74)) + (1 : Int64))) * (((own_end y74) - (own_start y74)) + (1 : Int64)))) := ⟨_, rfl⟩
      have pre108 : ∀ t, Steps p.tables e below (T71.setTop (mkF m 269 #[.val (.int p1), .val (.int p2), .val (.ref b1), .val (.int y74), .val (.long (own_start y74)), .second, .val (.long (own_end y74)), .second, .val (.long (((own_end y74) - (own_start y74)) + (1 : Int64))), .second, .val (.long y107), .second, .unset] [(.int (1 : Int32)), (.int (y74 &&& (1 : Int32)))])) t → Steps p.tables e below (s₁.setTop (entryFrame m #[(.int p1), (.int p2)] maxLocals)) t := by
        intro t k
        refine pre93 t ?_
        show Steps p.tables e below (T71.setTop (mkF m 225 #[.val (.int p1), .val (.int p2), .val (.ref b1), .val (.int y74), .val (.long (own_start y74)), .second, .unset, .unset, .unset, .unset, .unset, .unset, .unset] [(.int (30 : Int32)), (.int y74)])) _
        refine XS.icmpYes X76.here hx rfl (pc0 := 225) (pc' := 234) rfl (hb hby at_225) rfl (feq hc225_94).2 (by decide) (by decide) ?_
        show Steps p.tables e below (T71.setTop (mkF m 234 #[.val (.int p1), .val (.int p2), .val (.ref b1), .val (.int y74), .val (.long (own_start y74)), .second, .unset, .unset, .unset, .unset, .unset, .unset, .unset] [])) _
        refine XS.aloadN X76.here hx rfl (hb hby at_234) rfl rfl ?_
        show Steps p.tables e below (T71.setTop (mkF m 235 #[.val (.int p1), .val (.int p2), .val (.ref b1), .val (.int y74), .val (.long (own_start y74)), .second, .unset, .unset, .unset, .unset, .unset, .unset, .unset] [(.ref b1)])) _
        refine XS.iloadN X76.here hx rfl (hb hby at_235) rfl ?_
        show Steps p.tables e below (T71.setTop (mkF m 236 #[.val (.int p1), .val (.int p2), .val (.ref b1), .val (.int y74), .val (.long (own_start y74)), .second, .unset, .unset, .unset, .unset, .unset, .unset, .unset] [(.int y74), (.ref b1)])) _
        refine X76.iaload hx (j := y74) (v := (.int (own_tab (y74).toNatClampNeg))) (by rw [e71]; exact Ar105.1) (State.isArrayOf_alike hZ.alike Ar105.2.1) Ar105.2.2 hin105 hat105 (g := (mkF m 236 #[.val (.int p1), .val (.int p2), .val (.ref b1), .val (.int y74), .val (.long (own_start y74)), .second, .unset, .unset, .unset, .unset, .unset, .unset, .unset] [(.int y74), (.ref b1)])) rfl rfl (hb hby at_236) _ ?_
        show Steps p.tables e below (T71.setTop (mkF m 237 #[.val (.int p1), .val (.int p2), .val (.ref b1), .val (.int y74), .val (.long (own_start y74)), .second, .unset, .unset, .unset, .unset, .unset, .unset, .unset] [(.int (own_tab (y74).toNatClampNeg))])) _
        refine XS.i2l X76.here hx rfl (hb hby at_237) rfl ?_
        show Steps p.tables e below (T71.setTop (mkF m 238 #[.val (.int p1), .val (.int p2), .val (.ref b1), .val (.int y74), .val (.long (own_start y74)), .second, .unset, .unset, .unset, .unset, .unset, .unset, .unset] [(.long ((own_tab (y74).toNatClampNeg).toInt64))])) _
        refine XS.lconst X76.here hx rfl (hb hby at_238) ?_
        show Steps p.tables e below (T71.setTop (mkF m 239 #[.val (.int p1), .val (.int p2), .val (.ref b1), .val (.int y74), .val (.long (own_start y74)), .second, .unset, .unset, .unset, .unset, .unset, .unset, .unset] [(.long (1 : Int64)), (.long ((own_tab (y74).toNatClampNeg).toInt64))])) _
        refine XS.lsub X76.here hx rfl (hb hby at_239) rfl ?_
        show Steps p.tables e below (T71.setTop (mkF m 240 #[.val (.int p1), .val (.int p2), .val (.ref b1), .val (.int y74), .val (.long (own_start y74)), .second, .unset, .unset, .unset, .unset, .unset, .unset, .unset] [(.long (((own_tab (y74).toNatClampNeg).toInt64) - (1 : Int64)))])) _
        rw [es106]
        show Steps p.tables e below (T71.setTop (mkF m 240 #[.val (.int p1), .val (.int p2), .val (.ref b1), .val (.int y74), .val (.long (own_start y74)), .second, .unset, .unset, .unset, .unset, .unset, .unset, .unset] [(.long (own_end y74))])) _
        refine XS.lstore X76.here hx rfl (hb hby at_240) rfl (l' := #[.val (.int p1), .val (.int p2), .val (.ref b1), .val (.int y74), .val (.long (own_start y74)), .second, .val (.long (own_end y74)), .second, .unset, .unset, .unset, .unset, .unset]) rfl ?_
        show Steps p.tables e below (T71.setTop (mkF m 242 #[.val (.int p1), .val (.int p2), .val (.ref b1), .val (.int y74), .val (.long (own_start y74)), .second, .val (.long (own_end y74)), .second, .unset, .unset, .unset, .unset, .unset] [])) _
        refine XS.lload X76.here hx rfl (hb hby at_242) rfl ?_
        show Steps p.tables e below (T71.setTop (mkF m 244 #[.val (.int p1), .val (.int p2), .val (.ref b1), .val (.int y74), .val (.long (own_start y74)), .second, .val (.long (own_end y74)), .second, .unset, .unset, .unset, .unset, .unset] [(.long (own_end y74))])) _
        refine XS.lload X76.here hx rfl (hb hby at_244) rfl ?_
        show Steps p.tables e below (T71.setTop (mkF m 246 #[.val (.int p1), .val (.int p2), .val (.ref b1), .val (.int y74), .val (.long (own_start y74)), .second, .val (.long (own_end y74)), .second, .unset, .unset, .unset, .unset, .unset] [(.long (own_start y74)), (.long (own_end y74))])) _
        refine XS.lsub X76.here hx rfl (hb hby at_246) rfl ?_
        show Steps p.tables e below (T71.setTop (mkF m 247 #[.val (.int p1), .val (.int p2), .val (.ref b1), .val (.int y74), .val (.long (own_start y74)), .second, .val (.long (own_end y74)), .second, .unset, .unset, .unset, .unset, .unset] [(.long ((own_end y74) - (own_start y74)))])) _
        refine XS.lconst X76.here hx rfl (hb hby at_247) ?_
        show Steps p.tables e below (T71.setTop (mkF m 248 #[.val (.int p1), .val (.int p2), .val (.ref b1), .val (.int y74), .val (.long (own_start y74)), .second, .val (.long (own_end y74)), .second, .unset, .unset, .unset, .unset, .unset] [(.long (1 : Int64)), (.long ((own_end y74) - (own_start y74)))])) _
        refine XS.ladd X76.here hx rfl (hb hby at_248) rfl ?_
        show Steps p.tables e below (T71.setTop (mkF m 249 #[.val (.int p1), .val (.int p2), .val (.ref b1), .val (.int y74), .val (.long (own_start y74)), .second, .val (.long (own_end y74)), .second, .unset, .unset, .unset, .unset, .unset] [(.long (((own_end y74) - (own_start y74)) + (1 : Int64)))])) _
        refine XS.lstore X76.here hx rfl (hb hby at_249) rfl (l' := #[.val (.int p1), .val (.int p2), .val (.ref b1), .val (.int y74), .val (.long (own_start y74)), .second, .val (.long (own_end y74)), .second, .val (.long (((own_end y74) - (own_start y74)) + (1 : Int64))), .second, .unset, .unset, .unset]) rfl ?_
        show Steps p.tables e below (T71.setTop (mkF m 251 #[.val (.int p1), .val (.int p2), .val (.ref b1), .val (.int y74), .val (.long (own_start y74)), .second, .val (.long (own_end y74)), .second, .val (.long (((own_end y74) - (own_start y74)) + (1 : Int64))), .second, .unset, .unset, .unset] [])) _
        refine XS.lload X76.here hx rfl (hb hby at_251) rfl ?_
        show Steps p.tables e below (T71.setTop (mkF m 253 #[.val (.int p1), .val (.int p2), .val (.ref b1), .val (.int y74), .val (.long (own_start y74)), .second, .val (.long (own_end y74)), .second, .val (.long (((own_end y74) - (own_start y74)) + (1 : Int64))), .second, .unset, .unset, .unset] [(.long (own_start y74))])) _
        refine XS.iloadN X76.here hx rfl (hb hby at_253) rfl ?_
        show Steps p.tables e below (T71.setTop (mkF m 254 #[.val (.int p1), .val (.int p2), .val (.ref b1), .val (.int y74), .val (.long (own_start y74)), .second, .val (.long (own_end y74)), .second, .val (.long (((own_end y74) - (own_start y74)) + (1 : Int64))), .second, .unset, .unset, .unset] [(.int p2), (.long (own_start y74))])) _
        refine XS.i2l X76.here hx rfl (hb hby at_254) rfl ?_
        show Steps p.tables e below (T71.setTop (mkF m 255 #[.val (.int p1), .val (.int p2), .val (.ref b1), .val (.int y74), .val (.long (own_start y74)), .second, .val (.long (own_end y74)), .second, .val (.long (((own_end y74) - (own_start y74)) + (1 : Int64))), .second, .unset, .unset, .unset] [(.long (p2.toInt64)), (.long (own_start y74))])) _
        refine X76.ldc2Long hx hown (mvT hZ (hw _ (List.mem_of_getElem? (i := 10) rfl))) (g := (mkF m 255 #[.val (.int p1), .val (.int p2), .val (.ref b1), .val (.int y74), .val (.long (own_start y74)), .second, .val (.long (own_end y74)), .second, .val (.long (((own_end y74) - (own_start y74)) + (1 : Int64))), .second, .unset, .unset, .unset] [(.long (p2.toInt64)), (.long (own_start y74))])) rfl (hb hby at_255) _ ?_
        show Steps p.tables e below (T71.setTop (mkF m 258 #[.val (.int p1), .val (.int p2), .val (.ref b1), .val (.int y74), .val (.long (own_start y74)), .second, .val (.long (own_end y74)), .second, .val (.long (((own_end y74) - (own_start y74)) + (1 : Int64))), .second, .unset, .unset, .unset] [(.long (4294967295 : Int64)), (.long (p2.toInt64)), (.long (own_start y74))])) _
        refine XS.land X76.here hx rfl (hb hby at_258) rfl ?_
        show Steps p.tables e below (T71.setTop (mkF m 259 #[.val (.int p1), .val (.int p2), .val (.ref b1), .val (.int y74), .val (.long (own_start y74)), .second, .val (.long (own_end y74)), .second, .val (.long (((own_end y74) - (own_start y74)) + (1 : Int64))), .second, .unset, .unset, .unset] [(.long ((p2.toInt64) &&& (4294967295 : Int64))), (.long (own_start y74))])) _
        refine XS.lload X76.here hx rfl (hb hby at_259) rfl ?_
        show Steps p.tables e below (T71.setTop (mkF m 261 #[.val (.int p1), .val (.int p2), .val (.ref b1), .val (.int y74), .val (.long (own_start y74)), .second, .val (.long (own_end y74)), .second, .val (.long (((own_end y74) - (own_start y74)) + (1 : Int64))), .second, .unset, .unset, .unset] [(.long (((own_end y74) - (own_start y74)) + (1 : Int64))), (.long ((p2.toInt64) &&& (4294967295 : Int64))), (.long (own_start y74))])) _
        refine XS.lrem X76.here hx rfl (hb hby at_261) rfl (own_nz hi0 hi1) ?_
        show Steps p.tables e below (T71.setTop (mkF m 262 #[.val (.int p1), .val (.int p2), .val (.ref b1), .val (.int y74), .val (.long (own_start y74)), .second, .val (.long (own_end y74)), .second, .val (.long (((own_end y74) - (own_start y74)) + (1 : Int64))), .second, .unset, .unset, .unset] [(.long (((p2.toInt64) &&& (4294967295 : Int64)) - (((p2.toInt64) &&& (4294967295 : Int64)) / (((own_end y74) - (own_start y74)) + (1 : Int64))) * (((own_end y74) - (own_start y74)) + (1 : Int64)))), (.long (own_start y74))])) _
        refine XS.ladd X76.here hx rfl (hb hby at_262) rfl ?_
        show Steps p.tables e below (T71.setTop (mkF m 263 #[.val (.int p1), .val (.int p2), .val (.ref b1), .val (.int y74), .val (.long (own_start y74)), .second, .val (.long (own_end y74)), .second, .val (.long (((own_end y74) - (own_start y74)) + (1 : Int64))), .second, .unset, .unset, .unset] [(.long ((own_start y74) + (((p2.toInt64) &&& (4294967295 : Int64)) - (((p2.toInt64) &&& (4294967295 : Int64)) / (((own_end y74) - (own_start y74)) + (1 : Int64))) * (((own_end y74) - (own_start y74)) + (1 : Int64)))))])) _
        rw [← hy107]
        refine XS.lstore X76.here hx rfl (hb hby at_263) rfl (l' := #[.val (.int p1), .val (.int p2), .val (.ref b1), .val (.int y74), .val (.long (own_start y74)), .second, .val (.long (own_end y74)), .second, .val (.long (((own_end y74) - (own_start y74)) + (1 : Int64))), .second, .val (.long y107), .second, .unset]) rfl ?_
        show Steps p.tables e below (T71.setTop (mkF m 265 #[.val (.int p1), .val (.int p2), .val (.ref b1), .val (.int y74), .val (.long (own_start y74)), .second, .val (.long (own_end y74)), .second, .val (.long (((own_end y74) - (own_start y74)) + (1 : Int64))), .second, .val (.long y107), .second, .unset] [])) _
        refine XS.iloadN X76.here hx rfl (hb hby at_265) rfl ?_
        show Steps p.tables e below (T71.setTop (mkF m 266 #[.val (.int p1), .val (.int p2), .val (.ref b1), .val (.int y74), .val (.long (own_start y74)), .second, .val (.long (own_end y74)), .second, .val (.long (((own_end y74) - (own_start y74)) + (1 : Int64))), .second, .val (.long y107), .second, .unset] [(.int y74)])) _
        refine XS.iconst X76.here hx rfl (hb hby at_266) ?_
        show Steps p.tables e below (T71.setTop (mkF m 267 #[.val (.int p1), .val (.int p2), .val (.ref b1), .val (.int y74), .val (.long (own_start y74)), .second, .val (.long (own_end y74)), .second, .val (.long (((own_end y74) - (own_start y74)) + (1 : Int64))), .second, .val (.long y107), .second, .unset] [(.int (1 : Int32)), (.int y74)])) _
        refine XS.iand X76.here hx rfl (hb hby at_267) rfl ?_
        show Steps p.tables e below (T71.setTop (mkF m 268 #[.val (.int p1), .val (.int p2), .val (.ref b1), .val (.int y74), .val (.long (own_start y74)), .second, .val (.long (own_end y74)), .second, .val (.long (((own_end y74) - (own_start y74)) + (1 : Int64))), .second, .val (.long y107), .second, .unset] [(.int (y74 &&& (1 : Int32)))])) _
        refine XS.iconst X76.here hx rfl (hb hby at_268) ?_
        exact k
      by_cases hc269_109 : (y74 &&& (1 : Int32)) = (1 : Int32)
      · obtain ⟨_, _, ⟨T110, L110, k110, n110⟩, -, X110, ⟨Lc110, hQ110, l110, y110, z110⟩, st110⟩ := Jvm.LawKit.callS X76 hx (y := (⟨"com/example/eventloom/eventloom/XmlChars", "isNameStartChar", "(I)Z"⟩ : MethodName)) hown (mvT hZ (hw _ (List.mem_of_getElem? (i := 11) rfl))) (mvT hZ (hw _ (List.mem_of_getElem? (i := 12) rfl))) (mvT hZ (hw _ (List.mem_of_getElem? (i := 13) rfl))) (mvT hZ (hw _ (List.mem_of_getElem? (i := 14) rfl))) (by decide) (backOf (W := 0) (rm1 l Z a0 hw [] (y107.toInt32) h71 n0 Z71) hZ (hw _ (List.mem_of_getElem? (i := 14) rfl)) (hw _ (List.mem_of_getElem? (i := 13) rfl)) (by decide) (by decide)) (g := (mkF m 282 #[.val (.int p1), .val (.int p2), .val (.ref b1), .val (.int y74), .val (.long (own_start y74)), .second, .val (.long (own_end y74)), .second, .val (.long (((own_end y74) - (own_start y74)) + (1 : Int64))), .second, .val (.long y107), .second, .val (.int (1 : Int32))] [(.int (y107.toInt32))])) rfl (by rw [hml]; rfl) (argsL := [(.int (y107.toInt32))]) (rest := []) (lenOf pd_0 rfl) rfl (by show 2 * 0 + _ ≤ _; exact Nat.le_of_eq rfl) (hb hby at_282) (fun _ _ => ⟨rfl, e71, (by decide : 1 + 0 ≤ _), (by decide : 30 + 0 ≤ _)⟩)
        dsimp only [Pt.U, Pt.locs, Pt.cells, Pt.slots] at X110 l110 y110 z110 st110 hQ110
        subst l110 y110 z110
        obtain ⟨rfl, N110q, e110⟩ := hQ110
        have N110 := Fr.app N76 N110q
        obtain ⟨_, _, ⟨T111, L111, k111, n111⟩, -, X111, ⟨Lc111, hQ111, l111, y111, z111⟩, st111⟩ := Jvm.LawKit.callS X110 hx (y := (⟨"com/example/eventloom/eventloom/XmlChars", "isNameStartChar", "(I)Z"⟩ : MethodName)) hown (mvT hZ (hw _ (List.mem_of_getElem? (i := 11) rfl))) (mvT hZ (hw _ (List.mem_of_getElem? (i := 12) rfl))) (mvT hZ (hw _ (List.mem_of_getElem? (i := 13) rfl))) (mvT hZ (hw _ (List.mem_of_getElem? (i := 14) rfl))) (by decide) (backOf (W := 0) (rm1 l Z a0 hw [] ((own_start y74).toInt32) h71 n0 Z71) hZ (hw _ (List.mem_of_getElem? (i := 14) rfl)) (hw _ (List.mem_of_getElem? (i := 13) rfl)) (by decide) (by decide)) (g := (mkF m 293 #[.val (.int p1), .val (.int p2), .val (.ref b1), .val (.int y74), .val (.long (own_start y74)), .second, .val (.long (own_end y74)), .second, .val (.long (((own_end y74) - (own_start y74)) + (1 : Int64))), .second, .val (.long y107), .second, .val (.int (1 : Int32))] [(.int ((own_start y74).toInt32))])) rfl (by rw [hml]; rfl) (argsL := [(.int ((own_start y74).toInt32))]) (rest := []) (lenOf pd_0 rfl) rfl (by show 2 * 0 + _ ≤ _; exact Nat.le_of_eq rfl) (hb hby at_293) (fun _ _ => ⟨rfl, e110, (by decide : 1 + 0 ≤ _), (by decide : 30 + 0 ≤ _)⟩)
        dsimp only [Pt.U, Pt.locs, Pt.cells, Pt.slots] at X111 l111 y111 z111 st111 hQ111
        subst l111 y111 z111
        obtain ⟨rfl, N111q, e111⟩ := hQ111
        have N111 := Fr.app N110 N111q
        obtain ⟨_, _, ⟨T112, L112, k112, n112⟩, -, X112, ⟨Lc112, hQ112, l112, y112, z112⟩, st112⟩ := Jvm.LawKit.callS X111 hx (y := (⟨"com/example/eventloom/eventloom/XmlChars", "isNameStartChar", "(I)Z"⟩ : MethodName)) hown (mvT hZ (hw _ (List.mem_of_getElem? (i := 11) rfl))) (mvT hZ (hw _ (List.mem_of_getElem? (i := 12) rfl))) (mvT hZ (hw _ (List.mem_of_getElem? (i := 13) rfl))) (mvT hZ (hw _ (List.mem_of_getElem? (i := 14) rfl))) (by decide) (backOf (W := 0) (rm1 l Z a0 hw [] ((own_end y74).toInt32) h71 n0 Z71) hZ (hw _ (List.mem_of_getElem? (i := 14) rfl)) (hw _ (List.mem_of_getElem? (i := 13) rfl)) (by decide) (by decide)) (g := (mkF m 304 #[.val (.int p1), .val (.int p2), .val (.ref b1), .val (.int y74), .val (.long (own_start y74)), .second, .val (.long (own_end y74)), .second, .val (.long (((own_end y74) - (own_start y74)) + (1 : Int64))), .second, .val (.long y107), .second, .val (.int (1 : Int32))] [(.int ((own_end y74).toInt32))])) rfl (by rw [hml]; rfl) (argsL := [(.int ((own_end y74).toInt32))]) (rest := []) (lenOf pd_0 rfl) rfl (by show 2 * 0 + _ ≤ _; exact Nat.le_of_eq rfl) (hb hby at_304) (fun _ _ => ⟨rfl, e111, (by decide : 1 + 0 ≤ _), (by decide : 30 + 0 ≤ _)⟩)
        dsimp only [Pt.U, Pt.locs, Pt.cells, Pt.slots] at X112 l112 y112 z112 st112 hQ112
        subst l112 y112 z112
        obtain ⟨rfl, N112q, e112⟩ := hQ112
        have N112 := Fr.app N111 N112q
        obtain ⟨fs, hr, hrun, hended, hW, hsame⟩ := X112.leave (v := some (.int (1 : Int32))) (fun h => by rw [Bd.returns] at h; cases h)
        refine ⟨_, _, pre108 _ ?_, hrun, hended, _, _, rfl, ?_, ⟨_, rfl⟩, hW, hsame.mono (by decide) (by decide)⟩
        · show Steps p.tables e below (T71.setTop (mkF m 269 #[.val (.int p1), .val (.int p2), .val (.ref b1), .val (.int y74), .val (.long (own_start y74)), .second, .val (.long (own_end y74)), .second, .val (.long (((own_end y74) - (own_start y74)) + (1 : Int64))), .second, .val (.long y107), .second, .unset] [(.int (1 : Int32)), (.int (y74 &&& (1 : Int32)))])) _
          refine XS.icmpNo X76.here hx rfl (hb hby at_269) rfl (teq hc269_109).2 ?_
          show Steps p.tables e below (T71.setTop (mkF m 272 #[.val (.int p1), .val (.int p2), .val (.ref b1), .val (.int y74), .val (.long (own_start y74)), .second, .val (.long (own_end y74)), .second, .val (.long (((own_end y74) - (own_start y74)) + (1 : Int64))), .second, .val (.long y107), .second, .unset] [])) _
          refine XS.iconst X76.here hx rfl (hb hby at_272) ?_
          show Steps p.tables e below (T71.setTop (mkF m 273 #[.val (.int p1), .val (.int p2), .val (.ref b1), .val (.int y74), .val (.long (own_start y74)), .second, .val (.long (own_end y74)), .second, .val (.long (((own_end y74) - (own_start y74)) + (1 : Int64))), .second, .val (.long y107), .second, .unset] [(.int (1 : Int32))])) _
          refine XS.goto X76.here hx rfl (pc0 := 273) (pc' := 277) rfl (hb hby at_273) (by decide) (by decide) ?_
          show Steps p.tables e below (T71.setTop (mkF m 277 #[.val (.int p1), .val (.int p2), .val (.ref b1), .val (.int y74), .val (.long (own_start y74)), .second, .val (.long (own_end y74)), .second, .val (.long (((own_end y74) - (own_start y74)) + (1 : Int64))), .second, .val (.long y107), .second, .unset] [(.int (1 : Int32))])) _
          refine XS.istore X76.here hx rfl (hb hby at_277) rfl (l' := #[.val (.int p1), .val (.int p2), .val (.ref b1), .val (.int y74), .val (.long (own_start y74)), .second, .val (.long (own_end y74)), .second, .val (.long (((own_end y74) - (own_start y74)) + (1 : Int64))), .second, .val (.long y107), .second, .val (.int (1 : Int32))]) rfl ?_
          show Steps p.tables e below (T71.setTop (mkF m 279 #[.val (.int p1), .val (.int p2), .val (.ref b1), .val (.int y74), .val (.long (own_start y74)), .second, .val (.long (own_end y74)), .second, .val (.long (((own_end y74) - (own_start y74)) + (1 : Int64))), .second, .val (.long y107), .second, .val (.int (1 : Int32))] [])) _
          refine XS.lload X76.here hx rfl (hb hby at_279) rfl ?_
          show Steps p.tables e below (T71.setTop (mkF m 281 #[.val (.int p1), .val (.int p2), .val (.ref b1), .val (.int y74), .val (.long (own_start y74)), .second, .val (.long (own_end y74)), .second, .val (.long (((own_end y74) - (own_start y74)) + (1 : Int64))), .second, .val (.long y107), .second, .val (.int (1 : Int32))] [(.long y107)])) _
          refine XS.l2i X76.here hx rfl (hb hby at_281) rfl ?_
          show Steps p.tables e below (T71.setTop (mkF m 282 #[.val (.int p1), .val (.int p2), .val (.ref b1), .val (.int y74), .val (.long (own_start y74)), .second, .val (.long (own_end y74)), .second, .val (.long (((own_end y74) - (own_start y74)) + (1 : Int64))), .second, .val (.long y107), .second, .val (.int (1 : Int32))] [(.int (y107.toInt32))])) _
          refine st110 _ ?_
          show Steps p.tables e below (T110.setTop (mkF m 285 #[.val (.int p1), .val (.int p2), .val (.ref b1), .val (.int y74), .val (.long (own_start y74)), .second, .val (.long (own_end y74)), .second, .val (.long (((own_end y74) - (own_start y74)) + (1 : Int64))), .second, .val (.long y107), .second, .val (.int (1 : Int32))] [(.int (own_ns (y107.toInt32)))])) _
          refine XS.iload X110.here hx rfl (hb hby at_285) rfl ?_
          show Steps p.tables e below (T110.setTop (mkF m 287 #[.val (.int p1), .val (.int p2), .val (.ref b1), .val (.int y74), .val (.long (own_start y74)), .second, .val (.long (own_end y74)), .second, .val (.long (((own_end y74) - (own_start y74)) + (1 : Int64))), .second, .val (.long y107), .second, .val (.int (1 : Int32))] [(.int (1 : Int32)), (.int (own_ns (y107.toInt32)))])) _
          refine XS.icmpNo X110.here hx rfl (hb hby at_287) rfl (teq (((own_mid hi0 hi1 hy107).trans (if_pos hc269_109)) : ((own_ns (y107.toInt32)) = (1 : Int32)))).2 ?_
          show Steps p.tables e below (T110.setTop (mkF m 290 #[.val (.int p1), .val (.int p2), .val (.ref b1), .val (.int y74), .val (.long (own_start y74)), .second, .val (.long (own_end y74)), .second, .val (.long (((own_end y74) - (own_start y74)) + (1 : Int64))), .second, .val (.long y107), .second, .val (.int (1 : Int32))] [])) _
          refine XS.lload X110.here hx rfl (hb hby at_290) rfl ?_
          show Steps p.tables e below (T110.setTop (mkF m 292 #[.val (.int p1), .val (.int p2), .val (.ref b1), .val (.int y74), .val (.long (own_start y74)), .second, .val (.long (own_end y74)), .second, .val (.long (((own_end y74) - (own_start y74)) + (1 : Int64))), .second, .val (.long y107), .second, .val (.int (1 : Int32))] [(.long (own_start y74))])) _
          refine XS.l2i X110.here hx rfl (hb hby at_292) rfl ?_
          show Steps p.tables e below (T110.setTop (mkF m 293 #[.val (.int p1), .val (.int p2), .val (.ref b1), .val (.int y74), .val (.long (own_start y74)), .second, .val (.long (own_end y74)), .second, .val (.long (((own_end y74) - (own_start y74)) + (1 : Int64))), .second, .val (.long y107), .second, .val (.int (1 : Int32))] [(.int ((own_start y74).toInt32))])) _
          refine st111 _ ?_
          show Steps p.tables e below (T111.setTop (mkF m 296 #[.val (.int p1), .val (.int p2), .val (.ref b1), .val (.int y74), .val (.long (own_start y74)), .second, .val (.long (own_end y74)), .second, .val (.long (((own_end y74) - (own_start y74)) + (1 : Int64))), .second, .val (.long y107), .second, .val (.int (1 : Int32))] [(.int (own_ns ((own_start y74).toInt32)))])) _
          refine XS.iload X111.here hx rfl (hb hby at_296) rfl ?_
          show Steps p.tables e below (T111.setTop (mkF m 298 #[.val (.int p1), .val (.int p2), .val (.ref b1), .val (.int y74), .val (.long (own_start y74)), .second, .val (.long (own_end y74)), .second, .val (.long (((own_end y74) - (own_start y74)) + (1 : Int64))), .second, .val (.long y107), .second, .val (.int (1 : Int32))] [(.int (1 : Int32)), (.int (own_ns ((own_start y74).toInt32)))])) _
          refine XS.icmpNo X111.here hx rfl (hb hby at_298) rfl (teq (((own_ends hi0 hi1).1.trans (if_pos hc269_109)) : ((own_ns ((own_start y74).toInt32)) = (1 : Int32)))).2 ?_
          show Steps p.tables e below (T111.setTop (mkF m 301 #[.val (.int p1), .val (.int p2), .val (.ref b1), .val (.int y74), .val (.long (own_start y74)), .second, .val (.long (own_end y74)), .second, .val (.long (((own_end y74) - (own_start y74)) + (1 : Int64))), .second, .val (.long y107), .second, .val (.int (1 : Int32))] [])) _
          refine XS.lload X111.here hx rfl (hb hby at_301) rfl ?_
          show Steps p.tables e below (T111.setTop (mkF m 303 #[.val (.int p1), .val (.int p2), .val (.ref b1), .val (.int y74), .val (.long (own_start y74)), .second, .val (.long (own_end y74)), .second, .val (.long (((own_end y74) - (own_start y74)) + (1 : Int64))), .second, .val (.long y107), .second, .val (.int (1 : Int32))] [(.long (own_end y74))])) _
          refine XS.l2i X111.here hx rfl (hb hby at_303) rfl ?_
          show Steps p.tables e below (T111.setTop (mkF m 304 #[.val (.int p1), .val (.int p2), .val (.ref b1), .val (.int y74), .val (.long (own_start y74)), .second, .val (.long (own_end y74)), .second, .val (.long (((own_end y74) - (own_start y74)) + (1 : Int64))), .second, .val (.long y107), .second, .val (.int (1 : Int32))] [(.int ((own_end y74).toInt32))])) _
          refine st112 _ ?_
          show Steps p.tables e below (T112.setTop (mkF m 307 #[.val (.int p1), .val (.int p2), .val (.ref b1), .val (.int y74), .val (.long (own_start y74)), .second, .val (.long (own_end y74)), .second, .val (.long (((own_end y74) - (own_start y74)) + (1 : Int64))), .second, .val (.long y107), .second, .val (.int (1 : Int32))] [(.int (own_ns ((own_end y74).toInt32)))])) _
          refine XS.iload X112.here hx rfl (hb hby at_307) rfl ?_
          show Steps p.tables e below (T112.setTop (mkF m 309 #[.val (.int p1), .val (.int p2), .val (.ref b1), .val (.int y74), .val (.long (own_start y74)), .second, .val (.long (own_end y74)), .second, .val (.long (((own_end y74) - (own_start y74)) + (1 : Int64))), .second, .val (.long y107), .second, .val (.int (1 : Int32))] [(.int (1 : Int32)), (.int (own_ns ((own_end y74).toInt32)))])) _
          refine XS.icmpNo X112.here hx rfl (hb hby at_309) rfl (teq (((own_ends hi0 hi1).2.trans (if_pos hc269_109)) : ((own_ns ((own_end y74).toInt32)) = (1 : Int32)))).2 ?_
          show Steps p.tables e below (T112.setTop (mkF m 312 #[.val (.int p1), .val (.int p2), .val (.ref b1), .val (.int y74), .val (.long (own_start y74)), .second, .val (.long (own_end y74)), .second, .val (.long (((own_end y74) - (own_start y74)) + (1 : Int64))), .second, .val (.long y107), .second, .val (.int (1 : Int32))] [])) _
          refine XS.iconst X112.here hx rfl (hb hby at_312) ?_
          show Steps p.tables e below (T112.setTop (mkF m 313 #[.val (.int p1), .val (.int p2), .val (.ref b1), .val (.int y74), .val (.long (own_start y74)), .second, .val (.long (own_end y74)), .second, .val (.long (((own_end y74) - (own_start y74)) + (1 : Int64))), .second, .val (.long y107), .second, .val (.int (1 : Int32))] [(.int (1 : Int32))])) _
          refine XS.goto X112.here hx rfl (pc0 := 313) (pc' := 317) rfl (hb hby at_313) (by decide) (by decide) ?_
          show Steps p.tables e below (T112.setTop (mkF m 317 #[.val (.int p1), .val (.int p2), .val (.ref b1), .val (.int y74), .val (.long (own_start y74)), .second, .val (.long (own_end y74)), .second, .val (.long (((own_end y74) - (own_start y74)) + (1 : Int64))), .second, .val (.long y107), .second, .val (.int (1 : Int32))] [(.int (1 : Int32))])) _
          exact retN X112 hx (t := .boolean) Bd.returns (by simp) (hb hby at_317) hr
        · show Q_rm0 Z p1 p2 h0 n0 _ T112.heap _
          rw [e112]
          exact ⟨rfl, N112⟩
      · obtain ⟨_, _, ⟨T113, L113, k113, n113⟩, -, X113, ⟨Lc113, hQ113, l113, y113, z113⟩, st113⟩ := Jvm.LawKit.callS X76 hx (y := (⟨"com/example/eventloom/eventloom/XmlChars", "isNameStartChar", "(I)Z"⟩ : MethodName)) hown (mvT hZ (hw _ (List.mem_of_getElem? (i := 11) rfl))) (mvT hZ (hw _ (List.mem_of_getElem? (i := 12) rfl))) (mvT hZ (hw _ (List.mem_of_getElem? (i := 13) rfl))) (mvT hZ (hw _ (List.mem_of_getElem? (i := 14) rfl))) (by decide) (backOf (W := 0) (rm1 l Z a0 hw [] (y107.toInt32) h71 n0 Z71) hZ (hw _ (List.mem_of_getElem? (i := 14) rfl)) (hw _ (List.mem_of_getElem? (i := 13) rfl)) (by decide) (by decide)) (g := (mkF m 282 #[.val (.int p1), .val (.int p2), .val (.ref b1), .val (.int y74), .val (.long (own_start y74)), .second, .val (.long (own_end y74)), .second, .val (.long (((own_end y74) - (own_start y74)) + (1 : Int64))), .second, .val (.long y107), .second, .val (.int (0 : Int32))] [(.int (y107.toInt32))])) rfl (by rw [hml]; rfl) (argsL := [(.int (y107.toInt32))]) (rest := []) (lenOf pd_0 rfl) rfl (by show 2 * 0 + _ ≤ _; exact Nat.le_of_eq rfl) (hb hby at_282) (fun _ _ => ⟨rfl, e71, (by decide : 1 + 0 ≤ _), (by decide : 30 + 0 ≤ _)⟩)
        dsimp only [Pt.U, Pt.locs, Pt.cells, Pt.slots] at X113 l113 y113 z113 st113 hQ113
        subst l113 y113 z113
        obtain ⟨rfl, N113q, e113⟩ := hQ113
        have N113 := Fr.app N76 N113q
        obtain ⟨_, _, ⟨T114, L114, k114, n114⟩, -, X114, ⟨Lc114, hQ114, l114, y114, z114⟩, st114⟩ := Jvm.LawKit.callS X113 hx (y := (⟨"com/example/eventloom/eventloom/XmlChars", "isNameStartChar", "(I)Z"⟩ : MethodName)) hown (mvT hZ (hw _ (List.mem_of_getElem? (i := 11) rfl))) (mvT hZ (hw _ (List.mem_of_getElem? (i := 12) rfl))) (mvT hZ (hw _ (List.mem_of_getElem? (i := 13) rfl))) (mvT hZ (hw _ (List.mem_of_getElem? (i := 14) rfl))) (by decide) (backOf (W := 0) (rm1 l Z a0 hw [] ((own_start y74).toInt32) h71 n0 Z71) hZ (hw _ (List.mem_of_getElem? (i := 14) rfl)) (hw _ (List.mem_of_getElem? (i := 13) rfl)) (by decide) (by decide)) (g := (mkF m 293 #[.val (.int p1), .val (.int p2), .val (.ref b1), .val (.int y74), .val (.long (own_start y74)), .second, .val (.long (own_end y74)), .second, .val (.long (((own_end y74) - (own_start y74)) + (1 : Int64))), .second, .val (.long y107), .second, .val (.int (0 : Int32))] [(.int ((own_start y74).toInt32))])) rfl (by rw [hml]; rfl) (argsL := [(.int ((own_start y74).toInt32))]) (rest := []) (lenOf pd_0 rfl) rfl (by show 2 * 0 + _ ≤ _; exact Nat.le_of_eq rfl) (hb hby at_293) (fun _ _ => ⟨rfl, e113, (by decide : 1 + 0 ≤ _), (by decide : 30 + 0 ≤ _)⟩)
        dsimp only [Pt.U, Pt.locs, Pt.cells, Pt.slots] at X114 l114 y114 z114 st114 hQ114
        subst l114 y114 z114
        obtain ⟨rfl, N114q, e114⟩ := hQ114
        have N114 := Fr.app N113 N114q
        obtain ⟨_, _, ⟨T115, L115, k115, n115⟩, -, X115, ⟨Lc115, hQ115, l115, y115, z115⟩, st115⟩ := Jvm.LawKit.callS X114 hx (y := (⟨"com/example/eventloom/eventloom/XmlChars", "isNameStartChar", "(I)Z"⟩ : MethodName)) hown (mvT hZ (hw _ (List.mem_of_getElem? (i := 11) rfl))) (mvT hZ (hw _ (List.mem_of_getElem? (i := 12) rfl))) (mvT hZ (hw _ (List.mem_of_getElem? (i := 13) rfl))) (mvT hZ (hw _ (List.mem_of_getElem? (i := 14) rfl))) (by decide) (backOf (W := 0) (rm1 l Z a0 hw [] ((own_end y74).toInt32) h71 n0 Z71) hZ (hw _ (List.mem_of_getElem? (i := 14) rfl)) (hw _ (List.mem_of_getElem? (i := 13) rfl)) (by decide) (by decide)) (g := (mkF m 304 #[.val (.int p1), .val (.int p2), .val (.ref b1), .val (.int y74), .val (.long (own_start y74)), .second, .val (.long (own_end y74)), .second, .val (.long (((own_end y74) - (own_start y74)) + (1 : Int64))), .second, .val (.long y107), .second, .val (.int (0 : Int32))] [(.int ((own_end y74).toInt32))])) rfl (by rw [hml]; rfl) (argsL := [(.int ((own_end y74).toInt32))]) (rest := []) (lenOf pd_0 rfl) rfl (by show 2 * 0 + _ ≤ _; exact Nat.le_of_eq rfl) (hb hby at_304) (fun _ _ => ⟨rfl, e114, (by decide : 1 + 0 ≤ _), (by decide : 30 + 0 ≤ _)⟩)
        dsimp only [Pt.U, Pt.locs, Pt.cells, Pt.slots] at X115 l115 y115 z115 st115 hQ115
        subst l115 y115 z115
        obtain ⟨rfl, N115q, e115⟩ := hQ115
        have N115 := Fr.app N114 N115q
        obtain ⟨fs, hr, hrun, hended, hW, hsame⟩ := X115.leave (v := some (.int (1 : Int32))) (fun h => by rw [Bd.returns] at h; cases h)
        refine ⟨_, _, pre108 _ ?_, hrun, hended, _, _, rfl, ?_, ⟨_, rfl⟩, hW, hsame.mono (by decide) (by decide)⟩
        · show Steps p.tables e below (T71.setTop (mkF m 269 #[.val (.int p1), .val (.int p2), .val (.ref b1), .val (.int y74), .val (.long (own_start y74)), .second, .val (.long (own_end y74)), .second, .val (.long (((own_end y74) - (own_start y74)) + (1 : Int64))), .second, .val (.long y107), .second, .unset] [(.int (1 : Int32)), (.int (y74 &&& (1 : Int32)))])) _
          refine XS.icmpYes X76.here hx rfl (pc0 := 269) (pc' := 276) rfl (hb hby at_269) rfl (feq hc269_109).2 (by decide) (by decide) ?_
          show Steps p.tables e below (T71.setTop (mkF m 276 #[.val (.int p1), .val (.int p2), .val (.ref b1), .val (.int y74), .val (.long (own_start y74)), .second, .val (.long (own_end y74)), .second, .val (.long (((own_end y74) - (own_start y74)) + (1 : Int64))), .second, .val (.long y107), .second, .unset] [])) _
          refine XS.iconst X76.here hx rfl (hb hby at_276) ?_
          show Steps p.tables e below (T71.setTop (mkF m 277 #[.val (.int p1), .val (.int p2), .val (.ref b1), .val (.int y74), .val (.long (own_start y74)), .second, .val (.long (own_end y74)), .second, .val (.long (((own_end y74) - (own_start y74)) + (1 : Int64))), .second, .val (.long y107), .second, .unset] [(.int (0 : Int32))])) _
          refine XS.istore X76.here hx rfl (hb hby at_277) rfl (l' := #[.val (.int p1), .val (.int p2), .val (.ref b1), .val (.int y74), .val (.long (own_start y74)), .second, .val (.long (own_end y74)), .second, .val (.long (((own_end y74) - (own_start y74)) + (1 : Int64))), .second, .val (.long y107), .second, .val (.int (0 : Int32))]) rfl ?_
          show Steps p.tables e below (T71.setTop (mkF m 279 #[.val (.int p1), .val (.int p2), .val (.ref b1), .val (.int y74), .val (.long (own_start y74)), .second, .val (.long (own_end y74)), .second, .val (.long (((own_end y74) - (own_start y74)) + (1 : Int64))), .second, .val (.long y107), .second, .val (.int (0 : Int32))] [])) _
          refine XS.lload X76.here hx rfl (hb hby at_279) rfl ?_
          show Steps p.tables e below (T71.setTop (mkF m 281 #[.val (.int p1), .val (.int p2), .val (.ref b1), .val (.int y74), .val (.long (own_start y74)), .second, .val (.long (own_end y74)), .second, .val (.long (((own_end y74) - (own_start y74)) + (1 : Int64))), .second, .val (.long y107), .second, .val (.int (0 : Int32))] [(.long y107)])) _
          refine XS.l2i X76.here hx rfl (hb hby at_281) rfl ?_
          show Steps p.tables e below (T71.setTop (mkF m 282 #[.val (.int p1), .val (.int p2), .val (.ref b1), .val (.int y74), .val (.long (own_start y74)), .second, .val (.long (own_end y74)), .second, .val (.long (((own_end y74) - (own_start y74)) + (1 : Int64))), .second, .val (.long y107), .second, .val (.int (0 : Int32))] [(.int (y107.toInt32))])) _
          refine st113 _ ?_
          show Steps p.tables e below (T113.setTop (mkF m 285 #[.val (.int p1), .val (.int p2), .val (.ref b1), .val (.int y74), .val (.long (own_start y74)), .second, .val (.long (own_end y74)), .second, .val (.long (((own_end y74) - (own_start y74)) + (1 : Int64))), .second, .val (.long y107), .second, .val (.int (0 : Int32))] [(.int (own_ns (y107.toInt32)))])) _
          refine XS.iload X113.here hx rfl (hb hby at_285) rfl ?_
          show Steps p.tables e below (T113.setTop (mkF m 287 #[.val (.int p1), .val (.int p2), .val (.ref b1), .val (.int y74), .val (.long (own_start y74)), .second, .val (.long (own_end y74)), .second, .val (.long (((own_end y74) - (own_start y74)) + (1 : Int64))), .second, .val (.long y107), .second, .val (.int (0 : Int32))] [(.int (0 : Int32)), (.int (own_ns (y107.toInt32)))])) _
          refine XS.icmpNo X113.here hx rfl (hb hby at_287) rfl (teq (((own_mid hi0 hi1 hy107).trans (if_neg hc269_109)) : ((own_ns (y107.toInt32)) = (0 : Int32)))).2 ?_
          show Steps p.tables e below (T113.setTop (mkF m 290 #[.val (.int p1), .val (.int p2), .val (.ref b1), .val (.int y74), .val (.long (own_start y74)), .second, .val (.long (own_end y74)), .second, .val (.long (((own_end y74) - (own_start y74)) + (1 : Int64))), .second, .val (.long y107), .second, .val (.int (0 : Int32))] [])) _
          refine XS.lload X113.here hx rfl (hb hby at_290) rfl ?_
          show Steps p.tables e below (T113.setTop (mkF m 292 #[.val (.int p1), .val (.int p2), .val (.ref b1), .val (.int y74), .val (.long (own_start y74)), .second, .val (.long (own_end y74)), .second, .val (.long (((own_end y74) - (own_start y74)) + (1 : Int64))), .second, .val (.long y107), .second, .val (.int (0 : Int32))] [(.long (own_start y74))])) _
          refine XS.l2i X113.here hx rfl (hb hby at_292) rfl ?_
          show Steps p.tables e below (T113.setTop (mkF m 293 #[.val (.int p1), .val (.int p2), .val (.ref b1), .val (.int y74), .val (.long (own_start y74)), .second, .val (.long (own_end y74)), .second, .val (.long (((own_end y74) - (own_start y74)) + (1 : Int64))), .second, .val (.long y107), .second, .val (.int (0 : Int32))] [(.int ((own_start y74).toInt32))])) _
          refine st114 _ ?_
          show Steps p.tables e below (T114.setTop (mkF m 296 #[.val (.int p1), .val (.int p2), .val (.ref b1), .val (.int y74), .val (.long (own_start y74)), .second, .val (.long (own_end y74)), .second, .val (.long (((own_end y74) - (own_start y74)) + (1 : Int64))), .second, .val (.long y107), .second, .val (.int (0 : Int32))] [(.int (own_ns ((own_start y74).toInt32)))])) _
          refine XS.iload X114.here hx rfl (hb hby at_296) rfl ?_
          show Steps p.tables e below (T114.setTop (mkF m 298 #[.val (.int p1), .val (.int p2), .val (.ref b1), .val (.int y74), .val (.long (own_start y74)), .second, .val (.long (own_end y74)), .second, .val (.long (((own_end y74) - (own_start y74)) + (1 : Int64))), .second, .val (.long y107), .second, .val (.int (0 : Int32))] [(.int (0 : Int32)), (.int (own_ns ((own_start y74).toInt32)))])) _
          refine XS.icmpNo X114.here hx rfl (hb hby at_298) rfl (teq (((own_ends hi0 hi1).1.trans (if_neg hc269_109)) : ((own_ns ((own_start y74).toInt32)) = (0 : Int32)))).2 ?_
          show Steps p.tables e below (T114.setTop (mkF m 301 #[.val (.int p1), .val (.int p2), .val (.ref b1), .val (.int y74), .val (.long (own_start y74)), .second, .val (.long (own_end y74)), .second, .val (.long (((own_end y74) - (own_start y74)) + (1 : Int64))), .second, .val (.long y107), .second, .val (.int (0 : Int32))] [])) _
          refine XS.lload X114.here hx rfl (hb hby at_301) rfl ?_
          show Steps p.tables e below (T114.setTop (mkF m 303 #[.val (.int p1), .val (.int p2), .val (.ref b1), .val (.int y74), .val (.long (own_start y74)), .second, .val (.long (own_end y74)), .second, .val (.long (((own_end y74) - (own_start y74)) + (1 : Int64))), .second, .val (.long y107), .second, .val (.int (0 : Int32))] [(.long (own_end y74))])) _
          refine XS.l2i X114.here hx rfl (hb hby at_303) rfl ?_
          show Steps p.tables e below (T114.setTop (mkF m 304 #[.val (.int p1), .val (.int p2), .val (.ref b1), .val (.int y74), .val (.long (own_start y74)), .second, .val (.long (own_end y74)), .second, .val (.long (((own_end y74) - (own_start y74)) + (1 : Int64))), .second, .val (.long y107), .second, .val (.int (0 : Int32))] [(.int ((own_end y74).toInt32))])) _
          refine st115 _ ?_
          show Steps p.tables e below (T115.setTop (mkF m 307 #[.val (.int p1), .val (.int p2), .val (.ref b1), .val (.int y74), .val (.long (own_start y74)), .second, .val (.long (own_end y74)), .second, .val (.long (((own_end y74) - (own_start y74)) + (1 : Int64))), .second, .val (.long y107), .second, .val (.int (0 : Int32))] [(.int (own_ns ((own_end y74).toInt32)))])) _
          refine XS.iload X115.here hx rfl (hb hby at_307) rfl ?_
          show Steps p.tables e below (T115.setTop (mkF m 309 #[.val (.int p1), .val (.int p2), .val (.ref b1), .val (.int y74), .val (.long (own_start y74)), .second, .val (.long (own_end y74)), .second, .val (.long (((own_end y74) - (own_start y74)) + (1 : Int64))), .second, .val (.long y107), .second, .val (.int (0 : Int32))] [(.int (0 : Int32)), (.int (own_ns ((own_end y74).toInt32)))])) _
          refine XS.icmpNo X115.here hx rfl (hb hby at_309) rfl (teq (((own_ends hi0 hi1).2.trans (if_neg hc269_109)) : ((own_ns ((own_end y74).toInt32)) = (0 : Int32)))).2 ?_
          show Steps p.tables e below (T115.setTop (mkF m 312 #[.val (.int p1), .val (.int p2), .val (.ref b1), .val (.int y74), .val (.long (own_start y74)), .second, .val (.long (own_end y74)), .second, .val (.long (((own_end y74) - (own_start y74)) + (1 : Int64))), .second, .val (.long y107), .second, .val (.int (0 : Int32))] [])) _
          refine XS.iconst X115.here hx rfl (hb hby at_312) ?_
          show Steps p.tables e below (T115.setTop (mkF m 313 #[.val (.int p1), .val (.int p2), .val (.ref b1), .val (.int y74), .val (.long (own_start y74)), .second, .val (.long (own_end y74)), .second, .val (.long (((own_end y74) - (own_start y74)) + (1 : Int64))), .second, .val (.long y107), .second, .val (.int (0 : Int32))] [(.int (1 : Int32))])) _
          refine XS.goto X115.here hx rfl (pc0 := 313) (pc' := 317) rfl (hb hby at_313) (by decide) (by decide) ?_
          show Steps p.tables e below (T115.setTop (mkF m 317 #[.val (.int p1), .val (.int p2), .val (.ref b1), .val (.int y74), .val (.long (own_start y74)), .second, .val (.long (own_end y74)), .second, .val (.long (((own_end y74) - (own_start y74)) + (1 : Int64))), .second, .val (.long y107), .second, .val (.int (0 : Int32))] [(.int (1 : Int32))])) _
          exact retN X115 hx (t := .boolean) Bd.returns (by simp) (hb hby at_317) hr
        · show Q_rm0 Z p1 p2 h0 n0 _ T115.heap _
          rw [e115]
          exact ⟨rfl, N115⟩
set_option maxRecDepth 65536 in
set_option maxHeartbeats 40000000 in
theorem comes_1 {Post : Tables → Env → Array Value → State → Outcome → State → Prop} (hpost : ∀ tb e args s v u, (limb_1_1.after args s (.returned v) u = true ∧ limb_1_2.after args s (.returned v) u = true ∧ True) → FrameEnd s (.returned v) u (Jvm.fieldLocs frame_1_writes args s ++ Jvm.arrayLocs frame_1_arrays args s ++ Jvm.staticLocs frame_1_statics s) 16 128 → Post tb e args s (.returned v) u) :
    ArmFor flags0 classFile x code maxLocals ret World_1 tables_1 room_1 Calls_1 rest_1 Pre_1 Post := by
  intro l hfl _ _ p e ha hc hk s m args below hf hA hF happ hP
  obtain ⟨hcalls, hrest, hpre⟩ := hP
  obtain ⟨-, -, -, hnamed, -, -, -, hat⟩ := (Spec.applies_iff hf).mp happ
  obtain ⟨hg, hn⟩ := and_e (Cond.before_iff.mp (show (Jvm.Cond.and given_1 narrow_1).before args s = true from hpre))
  obtain ⟨g0, gr0⟩ := and_e hg
  obtain ⟨ga0, gr1⟩ := and_e gr0
  obtain ⟨w0, w1, rfl⟩ : ∃ w0 w1 : Value, args = #[w0, w1] := by
    have hs : args.size = 2 := by simpa [Cond.value, given_1] using g0
    obtain ⟨L⟩ := args
    match L, hs with
    | [w0, w1], _ => exact ⟨w0, w1, rfl⟩
  have hw := fun d (hd : d ∈ tables_1) => atoms_spec (ws := Jvm.Cond.code x code maxLocals ret :: tables_1) hat d (List.mem_cons_of_mem _ hd)
  have hfit : Fit s := fun {y c} hc i hi => by
    obtain ⟨ha, rfl⟩ := Array.getElem?_eq_some_iff.mp hc
    have q := List.all_eq_true.mp ((Array.all_eq_true_iff_forall_mem.mp hF) _ (Array.getElem_mem ha)) i (List.mem_range.mpr hi)
    simpa [Array.getElem?_eq_getElem hi] using q
  obtain ⟨i0, ei0⟩ := is_v ga0
  obtain rfl : w0 = (.int i0) := Option.some.inj ei0
  obtain ⟨i1, ei1⟩ := is_v gr1
  obtain rfl : w1 = (.int i1) := Option.some.inj ei1
  obtain ⟨n, o, h1, h2, h3, _, L, rfl, ⟨rfl, N⟩, hq⟩ := rm0 l s _ hw tables_1 i0 i1 s.heap s.heap.size (Nat.le_refl _) p e ha hc hk s m _ below hf ((Spec.applies_iff_loose hf).mp happ).1 ⟨rfl, State.Warmed39.refl s, rfl⟩ trivial
  refine ⟨n, _, h1, h2, h3, hpost _ _ _ _ _ _ ⟨Cond.after_iff.mpr rfl, Cond.after_iff.mpr (eq_i res_at (Term.int_eval (1)) rfl), trivial⟩ ⟨hq.1, hq.2.1, (hq.2.2.sift fun y hy => Or.inr (N y hy)).mono (by decide) (by decide)⟩⟩
theorem main_1_1 : Claimed_1_1 := comes_1 fun _ _ _ _ _ _ h hF => ⟨h.1, hF⟩
theorem main_1_2 : Claimed_1_2 := comes_1 fun _ _ _ _ _ _ h hF => ⟨h.2.1, hF⟩
end Jvm.Pilot.@@N@@
namespace Jvm.Pilot.@@N@@
open Jvm Jvm.ClassFile Sem Op Lib Jvm.Free Jvm.Stand Jvm.Pilot.@@N@@.Jvm.D
/-! MADE BY PROGRAM (witnessworld.py) out of the Statement's table words and the real class files: 9 classes; the members and pool entries that the words name. The judged class is class 1, her method 1. -/
namespace start1
open Jvm.ClassFile
def u (s : String) : CpInfo := .utf8 (stringToUtf16 s)
/-- a pool by its gaps: so many unusable entries, then the entry; so many at the end -/
def gap : Nat → List CpInfo → List CpInfo
  | 0, r => r
  | n + 1, r => .unusable :: gap n r
def poolList (es : List (Nat × CpInfo)) (last : Nat) : List CpInfo := es.foldr (fun e r => gap e.1 (e.2 :: r)) (gap last [])
def pool (es : List (Nat × CpInfo)) (last : Nat) : Array CpInfo := ⟨poolList es last⟩
def fileOf (pool : Array CpInfo) (this : Nat) (attrs : Array Attribute := #[]) (ms : Array MethodInfo := #[]) (fl : Nat := 33) (sup : Nat := 0) (ifs : Array Nat := #[]) (fds : Array FieldInfo := #[]) : ClassFile where
  minorVersion := 0
  majorVersion := 65
  constantPool := pool
  accessFlags := fl
  thisClass := this
  superClass := sup
  interfaces := ifs
  fields := fds
  methods := ms
  attributes := attrs
def plain (name : String) (sup : Option ClassId) : Class where
  name := name
  kind := .ordinary
  loader := none
  accessFlags := 33
  super := sup
  interfaces := #[]
  cf := none
  fields := #[]
  methods := #[]
  instanceTypes := #[]
  staticTypes := #[]
  resolved := #[]
  callSites := []
  init := .initialized
  statics := none
  mirror := none

def pool0 : Array CpInfo := pool [(5, u "<init>"), (0, u "()V"), (1, .class_ 10), (1, u "java/lang/Object")] 113

def k0m0 : Method := { name := "<init>", desc := "()V", sig := { parameters := [], returnType := none }, accessFlags := 1, code := none }
/-- java/lang/Object -/
def k0 : Class := { plain "java/lang/Object" none with
  accessFlags := 33
  interfaces := #[]
  cf := some (fileOf pool0 8 #[] #[{ accessFlags := 1, nameIndex := 5, descriptorIndex := 6, attributes := #[] }] 33 0 #[] #[])
  fields := #[]
  methods := #[k0m0]
  instanceTypes := #[]
  staticTypes := #[]
  resolved := Array.replicate 124 none
  statics := none }

def pool1 : Array CpInfo := pool [(2, .class_ 4), (1, u "java/lang/Object"), (0, u "<init>"), (0, u "()V"), (0, .integer 55296), (0, .integer 63744), (0, .integer 64976), (0, .integer 65008), (0, .integer 65534), (0, .integer 65536), (0, .integer 983040), (0, .integer 2147483647), (2, .long 18446744071562067968), (1, .long 2147483647), (1, .long 4294967295), (1, .methodref 24 25), (0, .class_ 26), (0, .nameAndType 27 28), (0, u "com/example/eventloom/eventloom/XmlChars"), (0, u "isNameStartChar"), (0, u "(I)Z"), (0, .class_ 30), (0, u "com/example/eventloom/eventloom/XmlCharsIsNameStartCharPinLaw"), (2, u "law"), (0, u "(II)Z")] 5

def k1m0 : Method := { name := "<init>", desc := "()V", sig := { parameters := [], returnType := none }, accessFlags := 2, code := none }
def k1c1 : Code := { maxStack := 6, maxLocals := 13, code := code, exceptionTable := #[], attributes := #[] }
def k1m1 : Method := { name := "law", desc := "(II)Z", sig := { parameters := [.int, .int], returnType := some .boolean }, accessFlags := 9, code := some k1c1 }
/-- com/example/eventloom/eventloom/XmlCharsIsNameStartCharPinLaw -/
def k1 : Class := { plain "com/example/eventloom/eventloom/XmlCharsIsNameStartCharPinLaw" (some 0) with
  accessFlags := 49
  interfaces := #[]
  cf := some (fileOf pool1 29 #[] #[{ accessFlags := 2, nameIndex := 5, descriptorIndex := 6, attributes := #[] }, { accessFlags := 9, nameIndex := 33, descriptorIndex := 34, attributes := #[] }] 49 2 #[] #[])
  fields := #[]
  methods := #[k1m0, k1m1]
  instanceTypes := #[]
  staticTypes := #[]
  resolved := Array.replicate 40 none
  statics := none }

def pool2 : Array CpInfo := pool [(2, .class_ 4), (1, u "java/lang/Object"), (0, u "<init>"), (0, u "()V"), (0, .integer 55295), (0, .integer 63744), (0, .integer 64975), (0, .integer 65008), (0, .integer 65533), (0, .integer 65536), (0, .integer 983039), (7, .class_ 23), (1, u "com/example/eventloom/eventloom/XmlChars"), (8, u "isNameStartChar"), (0, u "(I)Z")] 28

def k2m0 : Method := { name := "<init>", desc := "()V", sig := { parameters := [], returnType := none }, accessFlags := 2, code := none }
def k2c1 : Code := { maxStack := 2, maxLocals := 1, code := prog_117_method_3_code, exceptionTable := #[], attributes := #[] }
def k2m1 : Method := { name := "isNameStartChar", desc := "(I)Z", sig := { parameters := [.int], returnType := some .boolean }, accessFlags := 8, code := some k2c1 }
/-- com/example/eventloom/eventloom/XmlChars -/
def k2 : Class := { plain "com/example/eventloom/eventloom/XmlChars" (some 0) with
  accessFlags := 48
  interfaces := #[]
  cf := some (fileOf pool2 21 #[] #[{ accessFlags := 2, nameIndex := 5, descriptorIndex := 6, attributes := #[] }, { accessFlags := 8, nameIndex := 32, descriptorIndex := 33, attributes := #[] }] 48 2 #[] #[])
  fields := #[]
  methods := #[k2m0, k2m1]
  instanceTypes := #[]
  staticTypes := #[]
  resolved := Array.replicate 62 none
  statics := none }

def pool3 : Array CpInfo := pool [(1, u "java/lang/Cloneable"), (0, .class_ 1), (0, u "java/lang/Object"), (0, .class_ 3)] 3

/-- java/lang/Cloneable -/
def k3 : Class := { plain "java/lang/Cloneable" (some 0) with
  accessFlags := 1537
  interfaces := #[]
  cf := some (fileOf pool3 2 #[] #[] 1537 4 #[] #[])
  fields := #[]
  methods := #[]
  instanceTypes := #[]
  staticTypes := #[]
  resolved := Array.replicate 8 none
  statics := none }

def pool4 : Array CpInfo := pool [(1, u "java/io/Serializable"), (0, .class_ 1), (0, u "java/lang/Object"), (0, .class_ 3)] 3

/-- java/io/Serializable -/
def k4 : Class := { plain "java/io/Serializable" (some 0) with
  accessFlags := 1537
  interfaces := #[]
  cf := some (fileOf pool4 2 #[] #[] 1537 4 #[] #[])
  fields := #[]
  methods := #[]
  instanceTypes := #[]
  staticTypes := #[]
  resolved := Array.replicate 8 none
  statics := none }

/-- the primitive byte -/
def k5 : Class := { plain "byte" none with kind := .primitive 'B', accessFlags := 0x411 }
/-- [B -/
def k6 : Class := { plain "[B" (some 0) with kind := .array 5 .byte, interfaces := #[3, 4], accessFlags := 1041 }

/-- the primitive int -/
def k7 : Class := { plain "int" none with kind := .primitive 'I', accessFlags := 0x411 }
/-- [I -/
def k8 : Class := { plain "[I" (some 0) with kind := .array 7 .int, interfaces := #[3, 4], accessFlags := 1041 }

def heap : Heap := #[]
def classes : Array Class := #[k0, k1, k2, k3, k4, k5, k6, k7, k8]
def interned : List (Array UInt16 × Addr) := []
def slotsUsed : Nat := 0
def theMethod : MethodId := ⟨1, 1⟩
def args0 : Array Value := #[.int 5, .int 7]
def aboutOver (below : List Frame) : State where
  vm := { classes := classes, interned := interned.toArray }
  heap := heap
  slotsUsed := slotsUsed
  threads := #[{ frames := .invoking theMethod args0 :: below }]
def below0 : List Frame := [.native { method := ⟨0, 0⟩, args := #[] }]
def about1 : State := aboutOver below0
def p0 : Program := .bare "" "" ""
def e0 : Env := launch0.env 0 0 0
theorem w_frames : about1.frames = Frame.invoking theMethod args0 :: below0 := rfl
set_option maxRecDepth 65536 in
theorem w_args : argsFit about1.vm theMethod args0 = true := by decide +kernel
set_option maxRecDepth 65536 in
theorem w_heap : heapFits about1 = true := by decide +kernel
set_option maxRecDepth 65536 in
theorem w_runnable : about1.curStatus? = some .runnable := by decide +kernel
set_option maxRecDepth 65536 in
theorem w_alone : about1.alone = true := by decide +kernel
set_option maxRecDepth 65536 in
theorem w_named : about1.methodNamed? x = some theMethod := by decide +kernel
set_option maxRecDepth 65536 in
theorem w_hears : about1.hears theMethod below0 = true := by decide +kernel
set_option maxRecDepth 65536 in
theorem w_ripe : about1.ripe theMethod args0 below0 = true := by decide +kernel
theorem w_running : about1.status = .running := rfl
set_option maxRecDepth 65536 in
theorem w_room : about1.hasRoom e0.platform room_1 = true :=
  launch0.hasRoom_least _ room_1 (by decide +kernel) (by decide +kernel) (by decide +kernel) (by decide +kernel) (by decide +kernel) (by decide +kernel)
theorem allAtoms_all (ts : List Jvm.Cond) (a : Array Jvm.Value) (st : Jvm.State) : (allAtoms ts).before a st = ts.all (fun c => c.before a st) := by
  induction ts with
  | nil => rfl
  | cons c t ih =>
    show (Jvm.Cond.and c (allAtoms t)).before a st = _
    rw [Jvm.Cond.before_and, ih, List.all_cons]
def words1 : List Jvm.Cond := Jvm.Cond.code x code maxLocals ret :: tables_1
/-- a 'code' word, met by the world's own term for the bytes: nothing is compared byte by byte -/
theorem code_word {y : MethodName} {bytes : ByteArray} {mx : Nat} {rt : Option FieldType} {a : Array Value} {s : State} {m : MethodId} {meth : Method} {c : Code} (h1 : s.methodNamed? y = some m) (h2 : s.vm.method? m = some meth) (h3 : meth.code = some c) (h4 : c.code = bytes)
    (h5 : (c.maxLocals == mx && c.exceptionTable.isEmpty && decide (c.maxStack ≤ mostOperands) && decide (meth.sig.returnType = rt) && !meth.locks && decide (parseMethodDescriptor y.desc = some meth.sig)) = true) : (Jvm.Cond.code y bytes mx rt).before a s = true := by
  simp only [Bool.and_eq_true, beq_iff_eq, Bool.not_eq_true', decide_eq_true_eq] at h5
  obtain ⟨⟨⟨⟨⟨g1, g2⟩, g3⟩, g4⟩, g5⟩, g6⟩ := h5
  simp [Cond.before, Cond.holds, Cond.value, h1, h2, h3, h4, g1, g2, g3, g4, g5, g6]
def isCode : Jvm.Cond → Bool
  | .code _ _ _ _ => true
  | _ => false
theorem all_split {L : List Jvm.Cond} {P : Jvm.Cond → Bool} (h1 : L.all (fun c => isCode c || P c) = true) (h2 : ∀ c ∈ L.filter isCode, P c = true) : L.all P = true := by
  refine List.all_eq_true.mpr fun c hc => ?_
  have h := List.all_eq_true.mp h1 c hc
  rcases Bool.eq_false_or_eq_true (isCode c) with hi | hi
  · exact h2 c (List.mem_filter.mpr ⟨hc, hi⟩)
  · simpa [hi] using h
set_option maxRecDepth 65536 in
theorem w_c0 : (Jvm.Cond.code x code maxLocals ret).before args0 about1 = true := code_word (m := ⟨1, 1⟩) (meth := k1m1) (c := k1c1) (by decide +kernel) rfl rfl rfl (by decide +kernel)
set_option maxRecDepth 65536 in
theorem w_c1 : (Jvm.Cond.code ({ cls := "com/example/eventloom/eventloom/XmlChars", name := "isNameStartChar", desc := "(I)Z" } : Jvm.MethodName) prog_117_method_3_code (1 : Nat) (Option.some Jvm.ClassFile.FieldType.boolean)).before args0 about1 = true := code_word (m := ⟨2, 1⟩) (meth := k2m1) (c := k2c1) (by decide +kernel) rfl rfl rfl (by decide +kernel)
def codes1 : List Jvm.Cond := [Jvm.Cond.code x code maxLocals ret, Jvm.Cond.code ({ cls := "com/example/eventloom/eventloom/XmlChars", name := "isNameStartChar", desc := "(I)Z" } : Jvm.MethodName) prog_117_method_3_code (1 : Nat) (Option.some Jvm.ClassFile.FieldType.boolean)]
set_option maxRecDepth 65536 in
theorem codes_eq : words1.filter isCode = codes1 := rfl
theorem w_codes : ∀ c ∈ words1.filter isCode, c.before args0 about1 = true := by
  rw [codes_eq]
  intro c hc
  simp only [codes1, List.mem_cons, List.not_mem_nil, or_false] at hc
  rcases hc with rfl | rfl
  · exact w_c0
  · exact w_c1
set_option maxRecDepth 65536 in
theorem w_t1 : words1.all (fun c => isCode c || c.before args0 about1) = true := by decide +kernel
theorem w_tables : (allAtoms (Jvm.Cond.code x code maxLocals ret :: tables_1)).before args0 about1 = true := by
  rw [allAtoms_all]
  show words1.all (fun c => c.before args0 about1) = true
  refine all_split ?_ w_codes
  rw [w_t1]
set_option maxRecDepth 65536 in
theorem w_case : (Jvm.Cond.and given_1 narrow_1).before args0 about1 = true := by decide +kernel
theorem w_applies : (headSpec (Jvm.Cond.code x code maxLocals ret :: tables_1) room_1).applies x e0.platform about1 = true :=
  (Spec.applies_iff w_frames).mpr ⟨w_running, w_runnable, w_alone, w_named, w_hears, w_ripe, w_room, w_tables⟩
theorem atStart : AtStart classFile x code maxLocals ret World_1 tables_1 room_1 Calls_1 rest_1 Pre_1 launch0 p0 e0 about1 theMethod args0 below0 :=
  ⟨lists_1, trivial, launch0.admits_env _ _ _, launch0.least_env, fairChoices_fair.cas, fairChoices_fair.clock, w_frames, w_args, w_heap, w_applies, trivial, trivial, w_case⟩
end start1
theorem witness_1 : WitnessClaimed_1 := ⟨start1.p0, start1.e0, start1.about1, start1.theMethod, start1.args0, start1.below0, start1.atStart⟩
end Jvm.Pilot.@@N@@
