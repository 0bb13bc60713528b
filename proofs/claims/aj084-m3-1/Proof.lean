import JvmDerived
import JvmDerived.Pilot.@@N@@Statement
import JvmDerived.Pilot.@@N@@Code
set_option linter.unusedVariables false
set_option linter.unusedSimpArgs false
namespace Jvm.RoadKit
open Sem ClassFile Op Lib Jvm.Stand Jvm.Free Jvm.LawKit
section New
variable {p : Program} {l : Launch} {e : Env} {R : Room} {s : State} {m : MethodId} {args : Array Value} {below : List Frame} {meth : Method} {c : Code} {T : State} {locs : List Loc} {cells slots : Nat}
theorem retI (X : Stand p l e R s m args below meth c T locs cells slots) (hx : p.tables.exec = Jvm.exec) {pc : Nat} {Ls : Array Slot} {z : Int32} {rest : List Value} (hret : meth.sig.returnType = some .int) (hd : decode c.code pc = .ok (.ireturn, 1)) {fs : List Frame}
    (hl : ∀ (f : JFrame) (acts : List Action), f.method = m → f.locked = none → f.entered = [] → (doReturn e (T.setTop f) acts (some (.int z))).1 = T.setFrames fs) : Steps p.tables e below (T.setTop (mkF m pc Ls (.int z :: rest))) (T.setFrames fs) := by
  have hm' : T.vm.method? m = some meth := X.method'
  have hn : narrow .int (.int z) = .int z := rfl
  jvm_step X.here [X.here.top, hx, hd, hm', hret, hn]
  first | (intro acts; rw [hl _ acts rfl rfl rfl]) | rw [hl _ _ rfl rfl rfl]
  exact Steps.refl _
theorem retJ (X : Stand p l e R s m args below meth c T locs cells slots) (hx : p.tables.exec = Jvm.exec) {pc : Nat} {Ls : Array Slot} {z : Int64} {rest : List Value} (hret : meth.sig.returnType = some .long) (hd : decode c.code pc = .ok (.lreturn, 1)) {fs : List Frame}
    (hl : ∀ (f : JFrame) (acts : List Action), f.method = m → f.locked = none → f.entered = [] → (doReturn e (T.setTop f) acts (some (.long z))).1 = T.setFrames fs) : Steps p.tables e below (T.setTop (mkF m pc Ls (.long z :: rest))) (T.setFrames fs) := by
  have hm' : T.vm.method? m = some meth := X.method'
  have hn : narrow .long (.long z) = .long z := rfl
  jvm_step X.here [X.here.top, hx, hd, hm', hret, hn]
  first | (intro acts; rw [hl _ acts rfl rfl rfl]) | rw [hl _ _ rfl rfl rfl]
  exact Steps.refl _
end New
end Jvm.RoadKit
namespace Jvm.Pilot.@@N@@
open Jvm Jvm.ClassFile Sem Op Lib Jvm.Free Jvm.Stand Jvm.LawKit Jvm.RoadKit Bundle Jvm.Pilot.@@N@@.Jvm.D
theorem wq {Z : State} {a0 : Array Value} (hw : ∀ d ∈ tables_1, d.before a0 Z = true) {d : Jvm.Cond} (i : Nat) (h : tables_1[i]? = some d) : d.before a0 Z = true := hw d (List.mem_of_getElem? h)
theorem dq {A B : ByteArray} {L : List (Nat × Instr × Nat)} (h : A = B) (D : ∀ x ∈ L, decode B x.1 = .ok x.2) (i : Nat) {n k : Nat} {u : Instr} (e : L[i]? = some (n, u, k)) : decode A n = .ok (u, k) := by subst h; exact D (n, u, k) (List.mem_of_getElem? e)
abbrev vi (y : Int32) : Slot := .val (.int y)
abbrev vr (a : Addr) : Slot := .val (.ref a)
def ArF (Z : State) (h : Heap) (a : Addr) (ty : FieldType) (n : Nat) (f : Nat → Value) : Prop := ∃ c : Cell, Arr Z h a c ty ∧ c.slots.size = n ∧ ∀ i, i < n → c.slots[i]? = some (f i)
theorem ArF.lt {Z : State} {h : Heap} {a : Addr} {ty : FieldType} {n : Nat} {f : Nat → Value} (F : ArF Z h a ty n f) : a < h.size := by obtain ⟨c, A, -⟩ := F; exact A.lt
theorem ArF.ext {Z : State} {h h' : Heap} {a : Addr} {ty : FieldType} {n : Nat} {f : Nat → Value} (F : ArF Z h a ty n f) (E : Ext h h') : ArF Z h' a ty n f := by obtain ⟨c, A, r⟩ := F; exact ⟨c, A.ext E, r⟩
theorem ArF.other {Z : State} {h h' : Heap} {a b : Addr} {ty : FieldType} {n sl : Nat} {f : Nat → Value} {v : Value} (F : ArF Z h b ty n f) (W : Wr h h' a sl v) (q : b ≠ a) : ArF Z h' b ty n f := by obtain ⟨c, A, r⟩ := F; exact ⟨c, A.other W q, r⟩
theorem ArF.keep {Z : State} {h h' : Heap} {a : Addr} {ty : FieldType} {n : Nat} {f : Nat → Value} {ws : List Addr} (F : ArF Z h a ty n f) (K : Keep h h' ws) (q : a ∉ ws) : ArF Z h' a ty n f := by obtain ⟨c, A, r⟩ := F; exact ⟨c, ⟨K.2.1 a c A.1 q, A.2⟩, r⟩
theorem ArF.mk0 {Z : State} {h : Heap} {a : Addr} {ty : FieldType} {k : ClassId} {z : Int32} {n : Nat} {v : Value} (A : Arr Z h a (newA k ty z) ty) (hn : z.toNatClampNeg = n) (hv : defaultValue ty = v) : ArF Z h a ty n (fun _ => v) := by
  subst hn hv
  refine ⟨_, A, sz_new _ _ _, fun i hi => ?_⟩
  show (Array.replicate _ _)[i]? = _
  rw [Array.getElem?_replicate, if_pos hi]
theorem ArF.set {Z : State} {h h' : Heap} {a : Addr} {ty : FieldType} {n : Nat} {f : Nat → Value} {c : Cell} {j : Int32} {v : Value} (A : Arr Z h a c ty) (S : c.slots.size = n) (H : ∀ i, i < n → c.slots[i]? = some (f i)) (W : Wr h h' a j.toNatClampNeg v) (hj : ¬ (j < 0 ∨ c.slots.size ≤ j.toNatClampNeg)) : ArF Z h' a ty n (fun i => if i = j.toNatClampNeg then v else f i) := by
  refine ⟨_, A.same W, by rw [sz_set]; exact S, fun i hi => ?_⟩
  have hjl : j.toNatClampNeg < c.slots.size := Nat.lt_of_not_le fun y => hj (Or.inr y)
  show (c.slots.setIfInBounds j.toNatClampNeg v)[i]? = some (if i = j.toNatClampNeg then v else f i)
  rw [Array.getElem?_setIfInBounds]
  by_cases e : j.toNatClampNeg = i
  · rw [if_pos e, if_pos hjl, if_pos e.symm]
  · rw [if_neg e, if_neg (Ne.symm e)]; exact H i hi
theorem ArF.at {n : Nat} {f : Nat → Value} {c : Cell} {j : Int32} {v : Value} (S : c.slots.size = n) (H : ∀ i, i < n → c.slots[i]? = some (f i)) (hj : ¬ (j < 0 ∨ c.slots.size ≤ j.toNatClampNeg)) (e : f j.toNatClampNeg = v) : c.slots[j.toNatClampNeg]? = some v := by
  rw [← e]; exact H _ (S ▸ Nat.lt_of_not_le fun y => hj (Or.inr y))
theorem inA {n : Nat} {c : Cell} {j : Int32} (S : c.slots.size = n) (h0 : ¬ j < 0) (h1 : j.toNatClampNeg < n) : ¬ (j < 0 ∨ c.slots.size ≤ j.toNatClampNeg) := fun q => q.elim h0 fun r => Nat.not_lt.mpr (S ▸ r) h1
theorem ArF.congr {Z : State} {h : Heap} {a : Addr} {ty : FieldType} {n : Nat} {f g : Nat → Value} (F : ArF Z h a ty n f) (q : ∀ i, i < n → f i = g i) : ArF Z h a ty n g := by obtain ⟨c, A, S, H⟩ := F; exact ⟨c, A, S, fun i hi => (H i hi).trans (congrArg some (q i hi))⟩
theorem Sta.keep0 {Z : State} {h h' : Heap} {C n d : String} {v : Value} (F : Sta Z h C n d v) (K : Keep h h' []) : Sta Z h' C n d v := by obtain ⟨cf, i, k, f, st, cell, h1, h2, h3, h4, h5, r⟩ := F; exact ⟨cf, i, k, f, st, cell, h1, h2, h3, h4, K.2.1 _ _ h5 nin0, r⟩
theorem Sta.keepW {Z : State} {h h' : Heap} {C n d : String} {v : Value} {ws : List Addr} (F : Sta Z h C n d v) (K : Keep h h' ws) (q : ∀ x ∈ ws, ∀ c : Cell, h[x]? = some c → c.vm.isStatics = false) : Sta Z h' C n d v := by
  obtain ⟨cf, i, k, f, st, cell, h1, h2, h3, h4, h5, h6, r⟩ := F
  exact ⟨cf, i, k, f, st, cell, h1, h2, h3, h4, K.2.1 _ _ h5 (fun z => by rw [q st z cell h5] at h6; cases h6), h6, r⟩
theorem nos0 {h : Heap} : ∀ x ∈ ([] : List Addr), ∀ c : Cell, h[x]? = some c → c.vm.isStatics = false := fun _ z => nomatch z
theorem nosS {h : Heap} {a : Addr} {l : List Addr} (q : ∀ c : Cell, h[a]? = some c → c.vm.isStatics = false) (r : ∀ x ∈ l, ∀ c : Cell, h[x]? = some c → c.vm.isStatics = false) : ∀ x ∈ a :: l, ∀ c : Cell, h[x]? = some c → c.vm.isStatics = false := fun x z => (List.mem_cons.mp z).elim (fun e => e ▸ q) (r x)
theorem nosV {Z : State} {h : Heap} {a : Addr} {ty : FieldType} {n : Nat} {f : Nat → Value} (F : ArF Z h a ty n f) : ∀ cell : Cell, h[a]? = some cell → cell.vm.isStatics = false := by obtain ⟨c, A, -⟩ := F; intro cell q; cases A.1.symm.trans q; exact A.plain
theorem nosE {Z : State} {h : Heap} {a : Addr} {C : String} (F : Exa Z h a C) : ∀ cell : Cell, h[a]? = some cell → cell.vm.isStatics = false := by obtain ⟨c, k, h1, h2, h3, h4, -⟩ := F; intro cell q; cases h1.symm.trans q; exact h4
def ArR (Z : State) (h : Heap) (a : Addr) (n : Nat) (f : Nat → Value) : Prop := ∃ c : Cell, Arr Z h a c (.object "java/lang/Object") ∧ c.slots.size = n ∧ (∀ i, i < n → c.slots[i]? = some (f i)) ∧ Ovr Z c.cls "java/lang/Object"
theorem ArR.lt {Z : State} {h : Heap} {a : Addr} {n : Nat} {f : Nat → Value} (F : ArR Z h a n f) : a < h.size := by obtain ⟨c, A, -⟩ := F; exact A.lt
theorem ArR.ext {Z : State} {h h' : Heap} {a : Addr} {n : Nat} {f : Nat → Value} (F : ArR Z h a n f) (E : Ext h h') : ArR Z h' a n f := by obtain ⟨c, A, r⟩ := F; exact ⟨c, A.ext E, r⟩
theorem ArR.other {Z : State} {h h' : Heap} {a b : Addr} {n sl : Nat} {f : Nat → Value} {v : Value} (F : ArR Z h b n f) (W : Wr h h' a sl v) (q : b ≠ a) : ArR Z h' b n f := by obtain ⟨c, A, r⟩ := F; exact ⟨c, A.other W q, r⟩
theorem ArR.keep {Z : State} {h h' : Heap} {a : Addr} {n : Nat} {f : Nat → Value} {ws : List Addr} (F : ArR Z h a n f) (K : Keep h h' ws) (q : a ∉ ws) : ArR Z h' a n f := by obtain ⟨c, A, r⟩ := F; exact ⟨c, ⟨K.2.1 a c A.1 q, A.2⟩, r⟩
theorem nosR {Z : State} {h : Heap} {a : Addr} {n : Nat} {f : Nat → Value} (F : ArR Z h a n f) : ∀ cell : Cell, h[a]? = some cell → cell.vm.isStatics = false := by obtain ⟨c, A, -⟩ := F; intro cell q; cases A.1.symm.trans q; exact A.plain
theorem ArR.mk0 {Z : State} {h : Heap} {a : Addr} {k : ClassId} {z : Int32} {n : Nat} (A : Arr Z h a (newA k (.object "java/lang/Object") z) (.object "java/lang/Object")) (O : Ovr Z k "java/lang/Object") (hn : z.toNatClampNeg = n) : ArR Z h a n (fun _ => .null) := by
  subst hn
  refine ⟨_, A, sz_new _ _ _, fun i hi => ?_, O⟩
  show (Array.replicate _ _)[i]? = _
  rw [Array.getElem?_replicate, if_pos hi]; rfl
theorem ArR.set {Z : State} {h h' : Heap} {a : Addr} {n : Nat} {f : Nat → Value} {c : Cell} {j : Int32} {v : Value} (A : Arr Z h a c (.object "java/lang/Object")) (S : c.slots.size = n) (H : (∀ i, i < n → c.slots[i]? = some (f i)) ∧ Ovr Z c.cls "java/lang/Object") (W : Wr h h' a j.toNatClampNeg v) (hj : ¬ (j < 0 ∨ c.slots.size ≤ j.toNatClampNeg)) : ArR Z h' a n (fun i => if i = j.toNatClampNeg then v else f i) := by
  obtain ⟨c', A', S', H'⟩ := ArF.set A S H.1 W hj
  cases A'.1.symm.trans (A.same W).1
  exact ⟨_, A', S', H', H.2⟩
theorem ArR.congr {Z : State} {h : Heap} {a : Addr} {n : Nat} {f g : Nat → Value} (F : ArR Z h a n f) (q : ∀ i, i < n → f i = g i) : ArR Z h a n g := by obtain ⟨c, A, S, H, O⟩ := F; exact ⟨c, A, S, fun i hi => (H i hi).trans (congrArg some (q i hi)), O⟩
theorem own_selp {s : State} {args : Array Value} {y : MethodName} {n : Nat} (hi : (Jvm.Cond.instantiable y.cls n).before args s = true) (hpriv : s.PrivateAt y) (hinst : (Jvm.Cond.instanceMethod y).before args s = true) (hy : y.cls ≠ "java/lang/invoke/MethodHandle" ∧ y.cls ≠ "java/lang/invoke/VarHandle") : (Jvm.Cond.selects y.cls y y).before args s = true := by
  obtain ⟨c, k, hc, hk, -, hni, -⟩ := Cond.instantiable_spec hi
  exact Jvm.Stand.selects_self_of_private hc hk (Bool.or_eq_false_iff.mp hni).1 hpriv hinst hy
theorem own_fc {s : State} {vm : Vm} {n : Nat} {own : String} {cls : ClassId} (hS : s.Since vm n) (h : s.vm.findClass own = some cls) : vm.findClass own = some cls := by rw [hS.1.alike.findClass]; exact h
theorem pd_0 : parseMethodDescriptor "(III)V" = some ⟨[.int, .int, .int], none⟩ := by decide +kernel
theorem pd_1 : parseMethodDescriptor "([IIII)V" = some ⟨[(.array .int), .int, .int, .int], none⟩ := by decide +kernel
theorem pd_2 : parseMethodDescriptor "(II)I" = some ⟨[.int, .int], some .int⟩ := by decide +kernel
theorem pd_3 : parseMethodDescriptor "([I[II[I[I)V" = some ⟨[(.array .int), (.array .int), .int, (.array .int), (.array .int)], none⟩ := by decide +kernel
theorem pd_4 : parseMethodDescriptor "([I[I[II)Z" = some ⟨[(.array .int), (.array .int), (.array .int), .int], some .boolean⟩ := by decide +kernel
theorem pd_5 : parseMethodDescriptor "([I[II[I[I)I" = some ⟨[(.array .int), (.array .int), .int, (.array .int), (.array .int)], some .int⟩ := by decide +kernel
theorem pd_6 : parseMethodDescriptor "(I)I" = some ⟨[.int], some .int⟩ := by decide +kernel
theorem pd_7 : parseMethodDescriptor "(IIILjava/util/function/BiFunction;)I" = some ⟨[.int, .int, .int, (.object "java/util/function/BiFunction")], some .int⟩ := by decide +kernel
theorem pd_8 : parseMethodDescriptor "([B)I" = some ⟨[(.array .byte)], some .int⟩ := by decide +kernel
theorem pd_9 : parseMethodDescriptor "(III)I" = some ⟨[.int, .int, .int], some .int⟩ := by decide +kernel
theorem pd_10 : parseMethodDescriptor "()B" = some ⟨[], some .byte⟩ := by decide +kernel
theorem pd_11 : parseMethodDescriptor "([BI[CII)V" = some ⟨[(.array .byte), .int, (.array .char), .int, .int], none⟩ := by decide +kernel
theorem pd_12 : parseMethodDescriptor "(II[B)V" = some ⟨[.int, .int, (.array .byte)], none⟩ := by decide +kernel
theorem pd_13 : parseMethodDescriptor "([BI)C" = some ⟨[(.array .byte), .int], some .char⟩ := by decide +kernel
theorem pd_14 : parseMethodDescriptor "()I" = some ⟨[], some .int⟩ := by decide +kernel
theorem pd_15 : parseMethodDescriptor "()Z" = some ⟨[], some .boolean⟩ := by decide +kernel
theorem pd_16 : parseMethodDescriptor "([BII[CI)V" = some ⟨[(.array .byte), .int, .int, (.array .char), .int], none⟩ := by decide +kernel
theorem pd_17 : parseMethodDescriptor "(I)[B" = some ⟨[.int], some (.array .byte)⟩ := by decide +kernel
theorem pd_18 : parseMethodDescriptor "([BII)V" = some ⟨[(.array .byte), .int, .int], none⟩ := by decide +kernel
theorem pd_19 : parseMethodDescriptor "([CI[BII)I" = some ⟨[(.array .char), .int, (.array .byte), .int, .int], some .int⟩ := by decide +kernel
theorem pd_20 : parseMethodDescriptor "([CII)[B" = some ⟨[(.array .char), .int, .int], some (.array .byte)⟩ := by decide +kernel
theorem pd_21 : parseMethodDescriptor "([BI)B" = some ⟨[(.array .byte), .int], some .byte⟩ := by decide +kernel
theorem pd_22 : parseMethodDescriptor "([CIILjava/lang/Void;)V" = some ⟨[(.array .char), .int, .int, (.object "java/lang/Void")], none⟩ := by decide +kernel
theorem pd_23 : parseMethodDescriptor "([C)V" = some ⟨[(.array .char)], none⟩ := by decide +kernel
theorem pd_24 : parseMethodDescriptor "()V" = some ⟨[], none⟩ := by decide +kernel
theorem pd_25 : parseMethodDescriptor "(I)[Ljava/lang/Object;" = some ⟨[.int], some (.array (.object "java/lang/Object"))⟩ := by decide +kernel
theorem pd_26 : parseMethodDescriptor "()[Ljava/lang/Object;" = some ⟨[], some (.array (.object "java/lang/Object"))⟩ := by decide +kernel
theorem pd_27 : parseMethodDescriptor "(Ljava/lang/Object;[Ljava/lang/Object;I)V" = some ⟨[(.object "java/lang/Object"), (.array (.object "java/lang/Object")), .int], none⟩ := by decide +kernel
theorem pd_28 : parseMethodDescriptor "(IILjava/util/function/BiFunction;)I" = some ⟨[.int, .int, (.object "java/util/function/BiFunction")], some .int⟩ := by decide +kernel
theorem pd_29 : parseMethodDescriptor "(I)Ljava/lang/Object;" = some ⟨[.int], some (.object "java/lang/Object")⟩ := by decide +kernel
theorem pd_30 : parseMethodDescriptor "([C[I)[I" = some ⟨[(.array .char), (.array .int)], some (.array .int)⟩ := by decide +kernel
theorem pd_31 : parseMethodDescriptor "(II[CI)V" = some ⟨[.int, .int, (.array .char), .int], none⟩ := by decide +kernel
theorem pd_32 : parseMethodDescriptor "(ICC)Ljava/lang/String;" = some ⟨[.int, .char, .char], some (.object "java/lang/String")⟩ := by decide +kernel
theorem pd_33 : parseMethodDescriptor "(Ljava/lang/Object;)Z" = some ⟨[(.object "java/lang/Object")], some .boolean⟩ := by decide +kernel
theorem pd_34 : parseMethodDescriptor "(Ljava/util/List;)V" = some ⟨[(.object "java/util/List")], none⟩ := by decide +kernel
theorem pd_35 : parseMethodDescriptor "([III)[I" = some ⟨[(.array .int), .int, .int], some (.array .int)⟩ := by decide +kernel
theorem pd_36 : parseMethodDescriptor "(Lcom/example/even_roster/evenroster/scim/SortedSuffixes;[I[III)Z" = some ⟨[(.object "com/example/even_roster/evenroster/scim/SortedSuffixes"), (.array .int), (.array .int), .int, .int], some .boolean⟩ := by decide +kernel
theorem own_cps {P : Prop} (h : ∀ G : Prop, (P → G) → G) : P := h P id
/-- facts on addresses that omega does not look at -/
def Dif (a b : Nat) : Prop := a ≠ b
def Lq (a b : Nat) : Prop := a ≤ b
def Sq (a b : Nat) : Prop := a = b
def Hq (j : Int32) (n : Nat) : Prop := ¬ (j < 0 ∨ n ≤ j.toNatClampNeg)
abbrev oi (k : Nat) : Int32 := Int32.ofNat k
theorem oi_i {k : Nat} (h : k < 2147483648) : (oi k).toInt = k := Int32.toInt_ofNat_of_lt (by omega)
theorem oi_n {k : Nat} (h : k < 2147483648) : (oi k).toNatClampNeg = k := by
  show (oi k).toInt.toNat = k
  rw [oi_i h]; rfl
theorem oi_nn {k : Nat} (h : k < 2147483648) : ¬ (oi k) < 0 := by
  rw [Int32.lt_iff_toInt_lt, oi_i h, show (0 : Int32).toInt = 0 from by decide]; omega
theorem oi_s (k : Nat) : oi k + (1 : Int32) = oi (k + 1) := (Int32.ofNat_add k 1).symm
theorem oi_lt {a b : Nat} (ha : a < 2147483648) (hb : b < 2147483648) : oi a < oi b ↔ a < b := by
  rw [Int32.lt_iff_toInt_lt, oi_i ha, oi_i hb]; omega
theorem oi_eq {a b : Nat} (ha : a < 2147483648) (hb : b < 2147483648) : oi a = oi b ↔ a = b := by
  rw [← Int32.toInt_inj, oi_i ha, oi_i hb]; omega
theorem oi_sub {a b : Nat} (h : b ≤ a) : oi a - oi b = oi (a - b) := by
  have e : oi a = oi (a - b) + oi b := by rw [show oi (a - b) + oi b = oi (a - b + b) from (Int32.ofNat_add _ _).symm, Nat.sub_add_cancel h]
  rw [e]; exact Int32.add_sub_cancel _ _
theorem oi_add (a b : Nat) : oi a + oi b = oi (a + b) := (Int32.ofNat_add a b).symm
theorem oi_len {n : Nat} (h : n < 2147483648) : n.toInt32 = oi n := rfl
theorem oi_at {n i : Nat} {c : Cell} (S : c.slots.size = n) (h : i < n) (q : i < 2147483648) : ¬ ((oi i) < 0 ∨ c.slots.size ≤ (oi i).toNatClampNeg) := inA S (oi_nn q) (by rw [oi_n q]; exact h)
def up (f : Nat → Int32) (i : Nat) (v : Int32) (j : Nat) : Int32 := if j = i then v else f j
def upN (f : Nat → Nat) (i v j : Nat) : Nat := if j = i then v else f j
theorem set_up {f : Nat → Int32} {c v : Int32} {i : Nat} (h : c.toNatClampNeg = i) (j : Nat) : (if j = c.toNatClampNeg then Value.int v else Value.int (f j)) = Value.int (up f i v j) := by
  rw [h]; unfold up; split <;> rfl
theorem set_upN {f : Nat → Nat} {c : Int32} {i v : Nat} (h : c.toNatClampNeg = i) (j : Nat) : (if j = c.toNatClampNeg then Value.int (oi v) else Value.int (oi (f j))) = Value.int (oi (upN f i v j)) := by
  rw [h]; unfold upN; split <;> rfl
theorem upN_self (f : Nat → Nat) (i v : Nat) : upN f i v i = v := if_pos rfl
theorem upN_ne (f : Nat → Nat) {i j : Nat} (v : Nat) (h : j ≠ i) : upN f i v j = f j := if_neg h
def cnt (p : Nat → Bool) : Nat → Nat
  | 0 => 0
  | n + 1 => cnt p n + (if p n = true then 1 else 0)
theorem cnt_le (p : Nat → Bool) : ∀ n, cnt p n ≤ n
  | 0 => Nat.le_refl _
  | n + 1 => by
    have := cnt_le p n
    unfold cnt; split <;> omega
theorem cnt_mono {p q : Nat → Bool} : ∀ {n : Nat}, (∀ i, i < n → p i = true → q i = true) → cnt p n ≤ cnt q n
  | 0, _ => Nat.le_refl _
  | n + 1, h => by
    have ih := cnt_mono (p := p) (q := q) (n := n) fun i hi => h i (by omega)
    have hn := h n (by omega)
    unfold cnt
    by_cases a : p n = true
    · rw [if_pos a, if_pos (hn a)]; omega
    · rw [if_neg a]; omega
theorem cnt_congr {p q : Nat → Bool} {n : Nat} (h : ∀ i, i < n → p i = q i) : cnt p n = cnt q n :=
  Nat.le_antisymm (cnt_mono fun i hi a => h i hi ▸ a) (cnt_mono fun i hi a => (h i hi).symm ▸ a)
theorem cnt_step {p : Nat → Bool} {i n : Nat} (h : i ≤ n) : cnt p i ≤ cnt p n := by
  induction n with
  | zero => rw [Nat.le_zero.mp h]; exact Nat.le_refl _
  | succ n ih =>
    by_cases q : i = n + 1
    · rw [q]; exact Nat.le_refl _
    · have := ih (by omega)
      show cnt p i ≤ cnt p n + _
      omega
theorem cnt_hit {p : Nat → Bool} {i n : Nat} (h : i < n) (a : p i = true) : cnt p i < cnt p n := by
  have s := cnt_step (p := p) (show i + 1 ≤ n from h)
  have e : cnt p (i + 1) = cnt p i + 1 := by show cnt p i + (if p i = true then 1 else 0) = _; rw [if_pos a]
  omega
theorem cnt_add {p q r : Nat → Bool} : ∀ {n : Nat}, (∀ i, i < n → (if p i = true then 1 else 0) + (if q i = true then 1 else 0) = (if r i = true then 1 else (0 : Nat))) → cnt p n + cnt q n = cnt r n
  | 0, _ => rfl
  | n + 1, h => by
    have ih := cnt_add (p := p) (q := q) (r := r) (n := n) fun i hi => h i (by omega)
    have hn := h n (by omega)
    unfold cnt
    omega
theorem cnt_one (v : Nat) : ∀ n, cnt (fun j => decide (j = v)) n = if v < n then 1 else 0
  | 0 => rfl
  | n + 1 => by
    have ih := cnt_one v n
    show cnt _ n + (if decide (n = v) = true then 1 else 0) = _
    rw [ih]
    by_cases e : n = v
    · subst e; simp
    · have d : decide (n = v) = false := by simpa using e
      rw [d]
      by_cases l : v < n
      · have : v < n + 1 := by omega
        simp [l, this]
      · have : ¬ v < n + 1 := by omega
        simp [l, this]
theorem cnt_inj {m : Nat} {s : Nat → Nat} : ∀ {n : Nat} {B : Nat → Bool}, (∀ i, i < n → s i < m) → (∀ i j, i < j → j < n → s i ≠ s j) → cnt (fun i => B (s i)) n ≤ cnt B m
  | 0, _, _, _ => Nat.zero_le _
  | n + 1, B, h, hi => by
    have ih := cnt_inj (m := m) (s := s) (n := n) (B := fun v => B v && !decide (v = s n)) (fun i q => h i (by omega)) (fun i j a b => hi i j a (by omega))
    have e1 : cnt (fun i => (fun v => B v && !decide (v = s n)) (s i)) n = cnt (fun i => B (s i)) n := cnt_congr fun i q => by
      have := hi i n q (by omega)
      simp [this]
    rw [e1] at ih
    have e2 : cnt (fun v => B v && !decide (v = s n)) m + cnt (fun v => B v && decide (v = s n)) m = cnt B m := cnt_add fun v q => by
      by_cases a : B v = true <;> by_cases b : v = s n <;> simp [a, b]
    show cnt (fun i => B (s i)) n + (if B (s n) = true then 1 else 0) ≤ _
    by_cases a : B (s n) = true
    · have e3 : cnt (fun j => decide (j = s n)) m ≤ cnt (fun v => B v && decide (v = s n)) m := cnt_mono fun v q b => by
        have b' : v = s n := by simpa using b
        simp [b', a]
      rw [cnt_one, if_pos (h n (by omega))] at e3
      rw [if_pos a]; omega
    · rw [if_neg a]; omega
theorem cnt_not (p : Nat → Bool) (n : Nat) : cnt p n + cnt (fun i => !p i) n = n := by
  have h : cnt p n + cnt (fun i => !p i) n = cnt (fun _ => true) n := cnt_add fun i _ => by cases p i <;> simp
  have e : ∀ n, cnt (fun _ => true) n = n := fun n => by
    induction n with
    | zero => rfl
    | succ n ih => show cnt _ n + 1 = n + 1; rw [ih]
  rw [h, e]
theorem cnt_perm {n : Nat} {s : Nat → Nat} {B : Nat → Bool} (h : ∀ i, i < n → s i < n) (hi : ∀ i j, i < j → j < n → s i ≠ s j) : cnt (fun i => B (s i)) n = cnt B n := by
  have a := cnt_inj (B := B) h hi
  have b := cnt_inj (B := fun v => !B v) h hi
  have c := cnt_not B n
  have d := cnt_not (fun i => B (s i)) n
  omega
def sg (R : Nat → Nat) (N i : Nat) : Nat := cnt (fun j => decide (R j < R i)) N + cnt (fun j => decide (R j = R i)) i
theorem cnt_lteq (R : Nat → Nat) (r N : Nat) : cnt (fun j => decide (R j < r)) N + cnt (fun j => decide (R j = r)) N = cnt (fun j => decide (R j < r + 1)) N := cnt_add fun i _ => by
  by_cases a : R i < r
  · have : ¬ R i = r := by omega
    have : R i < r + 1 := by omega
    simp [*]
  · by_cases b : R i = r
    · simp [b]
    · have : ¬ R i < r + 1 := by omega
      simp [*]
theorem sg_hi {R : Nat → Nat} {N i : Nat} (h : i < N) : sg R N i < cnt (fun j => decide (R j < R i + 1)) N := by
  have a := cnt_hit (p := fun j => decide (R j = R i)) h (by simp)
  have b := cnt_lteq R (R i) N
  unfold sg; omega
theorem sg_lt {R : Nat → Nat} {N i : Nat} (h : i < N) : sg R N i < N := Nat.lt_of_lt_of_le (sg_hi h) (cnt_le _ _)
theorem sg_lt' {R : Nat → Nat} {N i j : Nat} (hi : i < N) (h : R i < R j) : sg R N i < sg R N j := by
  have a := sg_hi (R := R) hi
  have b : cnt (fun q => decide (R q < R i + 1)) N ≤ cnt (fun q => decide (R q < R j)) N := cnt_mono fun q _ z => by
    have z' : R q < R i + 1 := by simpa using z
    have : R q < R j := by omega
    simpa using this
  unfold sg at a ⊢; omega
theorem sg_inj {R : Nat → Nat} {N : Nat} : ∀ i j, i < j → j < N → sg R N i ≠ sg R N j := fun i j h hj => by
  rcases Nat.lt_trichotomy (R i) (R j) with q | q | q
  · exact Nat.ne_of_lt (sg_lt' (by omega) q)
  · have a := cnt_hit (p := fun z => decide (R z = R j)) h (by simp [q])
    unfold sg; rw [q]; omega
  · exact Nat.ne_of_gt (sg_lt' hj q)
/-- what a whole counting sort leaves is what it was given, in another order -/
theorem sg_perm {R P F : Nat → Nat} {N : Nat} (h : ∀ i, i < N → F (sg R N i) = P i) (A : Nat → Bool) : cnt (fun t => A (F t)) N = cnt (fun i => A (P i)) N := by
  rw [← cnt_perm (B := fun t => A (F t)) (fun i hi => sg_lt (R := R) hi) sg_inj]
  exact cnt_congr fun i hi => by rw [h i hi]
theorem oi_s2 (k : Nat) : oi k + (2 : Int32) = oi (k + 2) := (Int32.ofNat_add k 2).symm
theorem oi_p {a : Nat} (h : 1 ≤ a) : oi a - (1 : Int32) = oi (a - 1) := oi_sub (b := 1) h
def fil (f : Nat → Int32) (u r : Nat) (v : Int32) (j : Nat) : Int32 := if u ≤ j ∧ j < r then v else f j
theorem fil_0 (f : Nat → Int32) (u : Nat) (v : Int32) (j : Nat) : fil f u u v j = f j := if_neg (by omega)
theorem fil_s {f : Nat → Int32} {u i : Nat} {v c : Int32} (hc : c.toNatClampNeg = i) (h : u ≤ i) (j : Nat) : (if j = c.toNatClampNeg then Value.int v else Value.int (fil f u i v j)) = Value.int (fil f u (i + 1) v j) := by
  rw [hc]; unfold fil
  by_cases q : j = i
  · rw [if_pos q, if_pos (by omega)]
  · rw [if_neg q]
    by_cases z : u ≤ j ∧ j < i
    · rw [if_pos z, if_pos (by omega)]
    · rw [if_neg z, if_neg (by omega)]
def c2 (rk P : Nat → Nat) (i r : Nat) : Nat := cnt (fun j => decide (rk (P j) + 1 = r)) i
def c3 (rk P : Nat → Nat) (N r : Nat) : Nat := cnt (fun j => decide (rk (P j) < r)) N
def c4 (rk P : Nat → Nat) (N i r : Nat) : Nat := cnt (fun j => decide (rk (P j) < r)) N + cnt (fun j => decide (rk (P j) = r)) i
theorem c2_le (rk P : Nat → Nat) (i r : Nat) : c2 rk P i r ≤ i := cnt_le _ _
theorem c3_le (rk P : Nat → Nat) (N r : Nat) : c3 rk P N r ≤ N := cnt_le _ _
theorem c4_le (rk P : Nat → Nat) (N r : Nat) : c4 rk P N N r ≤ N := by
  have := cnt_lteq (fun j => rk (P j)) r N
  have q := cnt_le (fun j => decide (rk (P j) < r + 1)) N
  unfold c4; omega
theorem c4_mono {rk P : Nat → Nat} {N i r : Nat} (h : i ≤ N) : c4 rk P N i r ≤ N := by
  have a := c4_le rk P N r
  have b := cnt_step (p := fun j => decide (rk (P j) = r)) h
  unfold c4 at a ⊢; omega
theorem c4_sg (rk P : Nat → Nat) (N i : Nat) : c4 rk P N i (rk (P i)) = sg (fun j => rk (P j)) N i := rfl
theorem c4_lt {rk P : Nat → Nat} {N i : Nat} (h : i < N) : c4 rk P N i (rk (P i)) < N := sg_lt (R := fun j => rk (P j)) h
theorem ph1 (rk P : Nat → Nat) (f : Nat → Int32) (m r : Nat) (h : r < m) : fil f 0 m 0 r = oi (c2 rk P 0 r) := if_pos ⟨Nat.zero_le _, h⟩
theorem ph2 {rk P : Nat → Nat} {c : Nat → Int32} {i m : Nat} (hc : ∀ r, r < m → c r = oi (c2 rk P i r)) (r : Nat) (h : r < m) : up c (rk (P i) + 1) (oi (c2 rk P i (rk (P i) + 1) + 1)) r = oi (c2 rk P (i + 1) r) := by
  have e : c2 rk P (i + 1) r = c2 rk P i r + (if decide (rk (P i) + 1 = r) = true then 1 else 0) := rfl
  rw [e]
  unfold up
  by_cases q : r = rk (P i) + 1
  · rw [if_pos q, ← q, if_pos (by simp)]
  · rw [if_neg q, if_neg (by simp; omega), hc r h]; rfl
theorem c23_0 (rk P : Nat → Nat) (N : Nat) : c2 rk P N 0 = c3 rk P N 0 := cnt_congr fun i _ => by simp
theorem c23 {rk P : Nat → Nat} {N r : Nat} (h : 1 ≤ r) : c2 rk P N r + c3 rk P N (r - 1) = c3 rk P N r := cnt_add fun i _ => by
  by_cases a : rk (P i) + 1 = r
  · have b : ¬ rk (P i) < r - 1 := by omega
    have d : rk (P i) < r := by omega
    simp [a, b, d]
  · by_cases b : rk (P i) < r - 1
    · have d : rk (P i) < r := by omega
      simp [a, b, d]
    · have d : ¬ rk (P i) < r := by omega
      simp [a, b, d]
theorem ph3lo {rk P : Nat → Nat} {c : Nat → Int32} {N r : Nat} (h1 : 1 ≤ r) (hc : ∀ q, q < r → c q = oi (c3 rk P N q)) (q : Nat) (h : q < r + 1) : up c r (oi (c2 rk P N r + c3 rk P N (r - 1))) q = oi (c3 rk P N q) := by
  unfold up
  by_cases e : q = r
  · rw [if_pos e, c23 h1, e]
  · rw [if_neg e]; exact hc q (by omega)
theorem ph3hi {rk P : Nat → Nat} {c : Nat → Int32} {N r m : Nat} {w : Int32} (hc : ∀ q, r ≤ q → q < m → c q = oi (c2 rk P N q)) (q : Nat) (h : r + 1 ≤ q) (h' : q < m) : up c r w q = oi (c2 rk P N q) := by
  unfold up; rw [if_neg (by omega)]; exact hc q (by omega) h'
theorem ph4 {rk P : Nat → Nat} {c : Nat → Int32} {N i m : Nat} (hc : ∀ r, r < m → c r = oi (c4 rk P N i r)) (r : Nat) (h : r < m) : up c (rk (P i)) (oi (c4 rk P N i (rk (P i)) + 1)) r = oi (c4 rk P N (i + 1) r) := by
  have e : c4 rk P N (i + 1) r = c4 rk P N i r + (if decide (rk (P i) = r) = true then 1 else 0) := by
    show _ + (_ + _) = (_ + _) + _
    exact (Nat.add_assoc _ _ _).symm
  rw [e]
  unfold up
  by_cases q : r = rk (P i)
  · rw [if_pos q, ← q, if_pos (by simp)]
  · rw [if_neg q, if_neg (by simp; omega), hc r h]; rfl
theorem ph4F {rk P F : Nat → Nat} {N i : Nat} (hi : i < N) (hF : ∀ j, j < i → F (sg (fun j => rk (P j)) N j) = P j) (j : Nat) (h : j < i + 1) : upN F (c4 rk P N i (rk (P i))) (P i) (sg (fun j => rk (P j)) N j) = P j := by
  rw [c4_sg]
  by_cases e : j = i
  · subst e; exact upN_self _ _ _
  · have q := sg_inj (R := fun j => rk (P j)) (N := N) j i (by omega) hi
    rw [upN_ne _ _ q]; exact hF j (by omega)
theorem upN_lt {F : Nat → Nat} {N i v : Nat} (hF : ∀ j, j < N → F j < N) (hv : v < N) (j : Nat) (h : j < N) : upN F i v j < N := by
  unfold upN; split
  · exact hv
  · exact hF j h
def omx (u r : Nat) : Nat := if u < r then r else u
theorem omx_le {u r m : Nat} (hu : u ≤ m) (hr : r ≤ m) : omx u r ≤ m := by unfold omx; split <;> assumption
def own_B (c : Int32) : Prop := 0 ≤ c.toInt ∧ c.toInt < 65536
theorem oi_of {y : Int32} (h : 0 ≤ y.toInt) : y = oi y.toNatClampNeg := by
  have r := rng32 y
  have e : (y.toNatClampNeg : Int) = y.toInt := Int.toNat_of_nonneg h
  apply Int32.toInt_inj.mp
  rw [oi_i (by omega), e]
def lowN (f : Nat → Int32) (j : Nat) : Nat := (f j &&& (255 : Int32)).toNatClampNeg + 1
def hiN (f : Nat → Int32) (j : Nat) : Nat := (((f j).toUInt32 >>> ((8 : Int32) &&& 31).toUInt32).toInt32).toNatClampNeg + 1
theorem low_e (f : Nat → Int32) (j : Nat) : ((f j &&& (255 : Int32)) + (1 : Int32)) = oi (lowN f j) := by
  have h := c_and (f j) 255 (by decide)
  unfold lowN
  rw [← oi_s, ← oi_of h.1]
theorem low_le (f : Nat → Int32) (j : Nat) : lowN f j ≤ 256 := by
  have h := c_and (f j) 255 (by decide)
  rw [show (255 : Int32).toInt = 255 from by decide] at h
  have e : ((f j &&& (255 : Int32)).toNatClampNeg : Int) = (f j &&& (255 : Int32)).toInt := Int.toNat_of_nonneg h.1
  unfold lowN; omega
theorem hi_b {y : Int32} (h : own_B y) : 0 ≤ ((y.toUInt32 >>> ((8 : Int32) &&& 31).toUInt32).toInt32).toInt ∧ ((y.toUInt32 >>> ((8 : Int32) &&& 31).toUInt32).toInt32).toInt ≤ 255 := by
  have u := c_iushr y 8 8 (by decide) (by decide)
  rw [show ((2 ^ 8 : Nat) : Int) = 256 from by decide] at u
  obtain ⟨h1, h2⟩ := h
  omega
theorem hi_e {f : Nat → Int32} {j : Nat} (h : own_B (f j)) : ((((f j).toUInt32 >>> ((8 : Int32) &&& 31).toUInt32).toInt32) + (1 : Int32)) = oi (hiN f j) := by
  unfold hiN
  rw [← oi_s, ← oi_of (hi_b h).1]
theorem hi_le {f : Nat → Int32} {j : Nat} (h : own_B (f j)) : hiN f j ≤ 256 := by
  have u := hi_b h
  have e : ((((f j).toUInt32 >>> ((8 : Int32) &&& 31).toUInt32).toInt32).toNatClampNeg : Int) = _ := Int.toNat_of_nonneg u.1
  unfold hiN; omega
def tab (g : Nat → Nat) (i j : Nat) : Nat := if j < i then g j else 0
theorem tab_s {g : Nat → Nat} {c : Int32} {i : Nat} (hc : c.toNatClampNeg = i) (j : Nat) : (if j = c.toNatClampNeg then Value.int (oi (g i)) else Value.int (oi (tab g i j))) = Value.int (oi (tab g (i + 1) j)) := by
  rw [hc]; unfold tab
  by_cases q : j = i
  · rw [if_pos q, if_pos (by omega), q]
  · rw [if_neg q]
    by_cases z : j < i
    · rw [if_pos z, if_pos (by omega)]
    · rw [if_neg z, if_neg (by omega)]
theorem tab_0 (g : Nat → Nat) (j : Nat) : tab g 0 j = 0 := if_neg (Nat.not_lt_zero j)
theorem tab_in {g : Nat → Nat} {i j : Nat} (h : j < i) : tab g i j = g j := if_pos h
def filN (f : Nat → Nat) (u r v j : Nat) : Nat := if u ≤ j ∧ j < r then v else f j
theorem filN_e (f : Nat → Nat) (u r v j : Nat) : fil (fun j => oi (f j)) u r (oi v) j = oi (filN f u r v j) := by unfold fil filN; split <;> rfl
theorem filN_le {f : Nat → Nat} {u r v m N : Nat} (hf : ∀ j, j < N → f j ≤ m) (hv : v ≤ m) (j : Nat) (h : j < N) : filN f u r v j ≤ m := by unfold filN; split; exact hv; exact hf j h
theorem upN_le {F : Nat → Nat} {N i v m m' : Nat} (hF : ∀ j, j < N → F j ≤ m) (hm : m ≤ m') (hv : v ≤ m') (j : Nat) (h : j < N) : upN F i v j ≤ m' := by
  unfold upN; split
  · exact hv
  · exact Nat.le_trans (hF j h) hm
theorem cnt_y {p : Nat → Bool} {i : Nat} (h : p i = true) : cnt p (i + 1) = cnt p i + 1 := by show _ + (if p i = true then 1 else 0) = _; rw [if_pos h]
theorem cnt_n {p : Nat → Bool} {i : Nat} (h : ¬ p i = true) : cnt p (i + 1) = cnt p i := by show _ + (if p i = true then 1 else 0) = _; rw [if_neg h]; rfl
def zr (g : Nat → Int32) (j : Nat) : Bool := decide (g j = 0)
def sx (g : Nat → Int32) (v : Nat) : Bool := decide (1 ≤ v) && !decide (g (v - 1) = 0)
theorem sx_y {g : Nat → Int32} {v : Nat} (h1 : 1 ≤ v) (h2 : ¬ g (v - 1) = 0) : sx g v = true := by unfold sx; simp [h1, h2]
theorem sx_n1 {g : Nat → Int32} {v : Nat} (h : ¬ 1 ≤ v) : ¬ sx g v = true := by unfold sx; simp; omega
theorem sx_n2 {g : Nat → Int32} {v : Nat} (h : g (v - 1) = 0) : ¬ sx g v = true := by unfold sx; simp [h]
theorem sx_cnt (g : Nat → Int32) : ∀ N, cnt (sx g) N + cnt (zr g) N ≤ N := by
  have key : ∀ N, cnt (sx g) (N + 1) = cnt (fun j => !zr g j) N := fun N => by
    induction N with
    | zero => rfl
    | succ n ih =>
      show cnt (sx g) (n + 1) + (if sx g (n + 1) = true then 1 else 0) = cnt (fun j => !zr g j) n + (if (!zr g n) = true then 1 else 0)
      rw [ih]
      have e : sx g (n + 1) = !zr g n := by unfold sx zr; simp
      rw [e]
  intro N
  cases N with
  | zero => exact Nat.le_refl _
  | succ n =>
    have a := key n
    have b := cnt_not (zr g) n
    have d : cnt (zr g) (n + 1) ≤ cnt (zr g) n + 1 := by show _ + (if zr g n = true then 1 else 0) ≤ _; split <;> omega
    omega
theorem ct_lt {g : Nat → Int32} {F : Nat → Nat} {N i : Nat} (hp : ∀ A : Nat → Bool, cnt (fun j => A (F j)) N = cnt A N) (hi : i < N) (h1 : 1 ≤ F i) (h2 : ¬ g (F i - 1) = 0) : cnt (zr g) N + cnt (fun j => sx g (F j)) i < N := by
  have a := cnt_hit (p := fun j => sx g (F j)) hi (sx_y h1 h2)
  have b := hp (sx g)
  have d := sx_cnt g N
  omega
theorem oi_ltY {a b : Nat} (ha : a < 2147483648) (hb : b < 2147483648) (h : oi a < oi b) : a < b := (oi_lt ha hb).mp h
theorem oi_ltN {a b : Nat} (ha : a < 2147483648) (hb : b < 2147483648) (h : ¬ oi a < oi b) : ¬ a < b := fun z => h ((oi_lt ha hb).mpr z)
theorem oi_0 (k : Nat) : oi k + (0 : Int32) = oi k := Int32.add_zero _
theorem oi_shl (k : Nat) : (oi k <<< ((1 : Int32) &&& 31)) = oi (2 * k) := by
  rw [shlm (m := 2) (by decide), Nat.mul_comm]
  exact (Int32.ofNat_mul k 2).symm
theorem oi_half {k : Nat} (h : k < 2147483648) : (((oi k).toUInt32 >>> ((1 : Int32) &&& 31).toUInt32).toInt32) = oi (k / 2) := by
  have u : (((oi k).toUInt32 >>> ((1 : Int32) &&& 31).toUInt32).toInt32).toInt = ((oi k).toInt % 4294967296) / 2 := c_iushr (oi k) 1 1 (by decide) (by decide)
  apply Int32.toInt_inj.mp
  rw [u, oi_i h, oi_i (by omega)]
  omega
theorem oi_or3 {a b d : Nat} (ha : a < 2147483648) (hb : b < 2147483648) (hd : d < 2147483648) : ¬ ((oi a ||| oi b) ||| oi d) < (0 : Int32) := by
  rw [Int32.lt_iff_toInt_lt, show (0 : Int32).toInt = 0 from by decide]
  have p := (c_orS (oi a) (oi b)).1 (by rw [oi_i ha]; omega) (by rw [oi_i hb]; omega)
  have q := (c_orS (oi a ||| oi b) (oi d)).1 p (by rw [oi_i hd]; omega)
  omega
theorem oi_nz {k : Nat} (h : 0 < k) (hk : k < 2147483648) : oi k ≠ 0 := fun z => by
  have q := oi_i hk
  rw [z, show (0 : Int32).toInt = 0 from by decide] at q
  omega
def th (K : Nat) (S : Nat → Nat) (q : Nat) : Nat := if K = 1 then 0 else if q < S 1 then 0 else if K = 2 then 1 else if q < S 2 then 1 else 2
theorem th1 {S : Nat → Nat} {q : Nat} : th 1 S q = 0 := if_pos rfl
theorem th2y {S : Nat → Nat} {q : Nat} (h : q < S 1) : th 2 S q = 0 := by unfold th; rw [if_neg (by decide), if_pos h]
theorem th2n {S : Nat → Nat} {q : Nat} (h : ¬ q < S 1) : th 2 S q = 1 := by unfold th; rw [if_neg (by decide), if_neg h, if_pos rfl]
theorem th3a {S : Nat → Nat} {q : Nat} (h : q < S 1) : th 3 S q = 0 := by unfold th; rw [if_neg (by decide), if_pos h]
theorem th3b {S : Nat → Nat} {q : Nat} (h : ¬ q < S 1) (h' : q < S 2) : th 3 S q = 1 := by unfold th; rw [if_neg (by decide), if_neg h, if_neg (by decide), if_pos h']
theorem th3c {S : Nat → Nat} {q : Nat} (h : ¬ q < S 1) (h' : ¬ q < S 2) : th 3 S q = 2 := by unfold th; rw [if_neg (by decide), if_neg h, if_neg (by decide), if_neg h']
theorem th_lt {K : Nat} {S : Nat → Nat} {q : Nat} (hK : K = 1 ∨ K = 2 ∨ K = 3) : th K S q < K := by
  unfold th
  rcases hK with rfl | rfl | rfl <;> (repeat' split) <;> omega
theorem th_le {K N : Nat} {S : Nat → Nat} (hS : ∀ t, t < K → S t ≤ S (t + 1) ∧ S (t + 1) ≤ N ∧ S (t + 1) - S t ≤ 2) (hSN : S K = N) {j : Nat} (h : j ≤ K) : S j ≤ N := by
  by_cases q : j = K
  · rw [q, hSN]; exact Nat.le_refl _
  · have := hS j (by omega); omega
theorem th_at {K N t q : Nat} {S : Nat → Nat} (hK : K = 1 ∨ K = 2 ∨ K = 3) (hS : ∀ t, t < K → S t ≤ S (t + 1) ∧ S (t + 1) ≤ N ∧ S (t + 1) - S t ≤ 2) (ht : t < K) (h1 : S t ≤ q) (h2 : q < S (t + 1)) : th K S q = t := by
  rcases hK with rfl | rfl | rfl
  · rw [th1]; omega
  · have a0 : S 0 ≤ S 1 := (hS 0 (by omega)).1
    have a1 : S 1 ≤ S 2 := (hS 1 (by omega)).1
    rcases (show t = 0 ∨ t = 1 by omega) with rfl | rfl
    · exact th2y h2
    · exact th2n (by omega)
  · have a0 : S 0 ≤ S 1 := (hS 0 (by omega)).1
    have a1 : S 1 ≤ S 2 := (hS 1 (by omega)).1
    have a2 : S 2 ≤ S 3 := (hS 2 (by omega)).1
    rcases (show t = 0 ∨ t = 1 ∨ t = 2 by omega) with rfl | rfl | rfl
    · exact th3a h2
    · exact th3b (by omega) h2
    · exact th3c (by omega) (by omega)
theorem th_fill {K N t : Nat} {S : Nat → Nat} {vs O : Nat → Int32} (hK : K = 1 ∨ K = 2 ∨ K = 3) (hS : ∀ t, t < K → S t ≤ S (t + 1) ∧ S (t + 1) ≤ N ∧ S (t + 1) - S t ≤ 2) (ht : t < K) (hO : ∀ q, q < S t → O q = vs (th K S q)) (q : Nat) (h : q < S (t + 1)) : fil O (S t) (S (t + 1)) (vs t) q = vs (th K S q) := by
  unfold fil
  by_cases z : S t ≤ q
  · rw [if_pos ⟨z, h⟩, th_at hK hS ht z h]
  · rw [if_neg (fun y => z y.1)]; exact hO q (by omega)
def ocv (vs : Nat → Int32) (K : Nat) (S F : Nat → Nat) (u j : Nat) : Int32 := vs (th K S (F (u + j)))
theorem ocv_s {vs O c5 : Nat → Int32} {K N u i : Nat} {S F : Nat → Nat} (hO : ∀ q, q < N → O q = vs (th K S q)) (hF : F i < N) (hu : u ≤ i) (h : ∀ j, u + j < i → c5 j = ocv vs K S F u j) (j : Nat) (hj : u + j < i + 1) : up c5 (i - u) (O (F i)) j = ocv vs K S F u j := by
  unfold up
  by_cases q : j = i - u
  · rw [if_pos q, hO _ hF]; unfold ocv; rw [show u + j = i by omega]
  · rw [if_neg q]; exact h j (by omega)
/-- the two bytes of a char, and the char of two bytes -/
def b0 (y : Int32) : Int32 := nar .byte ((y >>> ((0 : Int32) &&& 31)).toInt8.toInt32)
def b1 (y : Int32) : Int32 := nar .byte ((y >>> ((8 : Int32) &&& 31)).toInt8.toInt32)
def gch (u r : Int32) : Int32 := nar .char ((((u &&& (255 : Int32)) <<< ((0 : Int32) &&& 31)) ||| ((r &&& (255 : Int32)) <<< ((8 : Int32) &&& 31))).toUInt32.toUInt16.toUInt32.toInt32)
theorem nar_B (y : Int32) : own_B (nar .char y) := ⟨(c_i2c y).2.1, (c_i2c y).2.2⟩
theorem zero_B : own_B 0 := ⟨by decide, by decide⟩
theorem up_B {f : Nat → Int32} {i M : Nat} {y : Int32} (h : ∀ j, j < M → own_B (f j)) (hy : own_B y) (j : Nat) (hj : j < M) : own_B (up f i y j) := by
  unfold up; split
  · exact hy
  · exact h j hj
theorem gch_gt {y : Int32} (hB : own_B y) (h : (255 : Int32) < y) : (255 : Int32) < gch (b0 y) (b1 y) := by
  rw [Int32.lt_iff_toInt_lt, show (255 : Int32).toInt = 255 from by decide] at h ⊢
  obtain ⟨h1, h2⟩ := hB
  have a0 : (y >>> ((0 : Int32) &&& 31)).toInt = y.toInt / 1 := c_ishr y 0 0 (by decide)
  have a1 : (y >>> ((8 : Int32) &&& 31)).toInt = y.toInt / 256 := c_ishr y 8 8 (by decide)
  unfold gch b0 b1 nar
  generalize (y >>> ((0 : Int32) &&& 31)) = x0 at a0 ⊢
  generalize (y >>> ((8 : Int32) &&& 31)) = x1 at a1 ⊢
  have i0 := c_i2b x0
  have i1 := c_i2b x1
  dsimp only
  generalize x0.toInt8.toInt32 = y0 at i0 ⊢
  generalize x1.toInt8.toInt32 = y1 at i1 ⊢
  have j0 := c_i2b y0
  have j1 := c_i2b y1
  generalize y0.toInt8.toInt32 = z0 at j0 ⊢
  generalize y1.toInt8.toInt32 = z1 at j1 ⊢
  have m0 : (z0 &&& 255).toInt = z0.toInt % 256 := c_mask z0 255 8 (by decide) (by decide)
  have m1 : (z1 &&& 255).toInt = z1.toInt % 256 := c_mask z1 255 8 (by decide) (by decide)
  generalize (z0 &&& 255) = w0 at m0 ⊢
  generalize (z1 &&& 255) = w1 at m1 ⊢
  have s0 : ((w0 <<< ((0 : Int32) &&& 31)).toInt - w0.toInt * 1) % 4294967296 = 0 := c_ishl w0 0 0 (by decide)
  have s1 : ((w1 <<< ((8 : Int32) &&& 31)).toInt - w1.toInt * 256) % 4294967296 = 0 := c_ishl w1 8 8 (by decide)
  generalize (w0 <<< ((0 : Int32) &&& 31)) = v0 at s0 ⊢
  generalize (w1 <<< ((8 : Int32) &&& 31)) = v1 at s1 ⊢
  have r0 := rng32 v0
  have r1 := rng32 v1
  have o := c_or' v0 v1 8 (by decide) 256 (by decide) (by omega) (by omega) (by omega)
  generalize v0 ||| v1 = x at o ⊢
  have rx := rng32 x
  have t1 := c_i2c x
  generalize x.toUInt32.toUInt16.toUInt32.toInt32 = x' at t1 ⊢
  have t2 := c_i2c x'
  omega
theorem up2a {g : Nat → Int32} {i : Nat} {y z : Int32} : up (up g i y) (i + 1) z i = y := by unfold up; rw [if_neg (by omega), if_pos rfl]
theorem up2b {g : Nat → Int32} {i : Nat} {y z : Int32} : up (up g i y) (i + 1) z (i + 1) = z := if_pos rfl
theorem up2c {g : Nat → Int32} {i j : Nat} {y z : Int32} (h : j ≠ i) (h' : j ≠ i + 1) : up (up g i y) (i + 1) z j = g j := by unfold up; rw [if_neg h', if_neg h]
theorem tob_s {f gb g' : Nat → Int32} {i ci : Nat} (hci : ci = i) (hg : ∀ j, j < i → gb (2 * j) = b0 (f j) ∧ gb (2 * j + 1) = b1 (f j)) (ha : g' (2 * i) = b0 (f ci)) (hb : g' (2 * i + 1) = b1 (f ci)) (hd : ∀ j, j ≠ 2 * i → j ≠ 2 * i + 1 → g' j = gb j) (j : Nat) (hj : j < i + 1) : g' (2 * j) = b0 (f j) ∧ g' (2 * j + 1) = b1 (f j) := by
  subst hci
  by_cases q : j = ci
  · subst q; exact ⟨ha, hb⟩
  · rw [hd _ (by omega) (by omega), hd _ (by omega) (by omega)]; exact hg j (by omega)
def upV (f : Nat → Value) (i : Nat) (v : Value) (j : Nat) : Value := if j = i then v else f j
theorem set_upV {f : Nat → Value} {c : Int32} {v : Value} {i : Nat} (h : c.toNatClampNeg = i) (j : Nat) : (if j = c.toNatClampNeg then v else f j) = upV f i v j := by rw [h]; rfl
def cum (su : Nat → Nat) : Nat → Nat
  | 0 => 0
  | i + 1 => cum su i + su i
theorem cum_mono {su : Nat → Nat} {i K : Nat} (h : i ≤ K) : cum su i ≤ cum su K := by
  induction K with
  | zero => rw [Nat.le_zero.mp h]; exact Nat.le_refl _
  | succ k ih =>
    by_cases q : i = k + 1
    · rw [q]; exact Nat.le_refl _
    · have := ih (by omega)
      show cum su i ≤ cum su k + su k
      omega
theorem cum_up {su : Nat → Nat} {K : Nat} (h : ∀ i, i < K → su i = 1 ∨ su i = 2) : K ≤ cum su K ∧ cum su K ≤ 2 * K := by
  induction K with
  | zero => exact ⟨Nat.le_refl _, Nat.le_refl _⟩
  | succ k ih =>
    have a := ih fun i hi => h i (by omega)
    have b := h k (by omega)
    show k + 1 ≤ cum su k + su k ∧ cum su k + su k ≤ 2 * (k + 1)
    omega
theorem cum_at {su : Nat → Nat} {i K : Nat} (h : i < K) : cum su i + su i ≤ cum su K := cum_mono (i := i + 1) h
theorem cum_ok {su : Nat → Nat} {K : Nat} (h : ∀ i, i < K → su i = 1 ∨ su i = 2) (t : Nat) (ht : t < K) : cum su t ≤ cum su (t + 1) ∧ cum su (t + 1) ≤ cum su K ∧ cum su (t + 1) - cum su t ≤ 2 := by
  have a := h t ht
  have b := cum_mono (su := su) (i := t + 1) (K := K) ht
  have e : cum su (t + 1) = cum su t + su t := rfl
  omega
def StrL (Z : State) (h : Heap) (K : Nat) (sa sb : Nat → Addr) (sn : Nat → Nat) (sc : Nat → Int32) (sg : Nat → Nat → Int32) : Prop := ∀ i, i < K → Exa Z h (sa i) "java/lang/String" ∧ Fld Z h (sa i) "java/lang/String" "value" "[B" (.ref (sb i)) ∧ Fld Z h (sa i) "java/lang/String" "coder" "B" (.int (sc i)) ∧ ArF Z h (sb i) .byte (sn i) (fun j => .int (sg i j))
def Aw (K : Nat) (sa sb : Nat → Addr) (b : Addr) : Prop := ∀ i, i < K → sa i ≠ b ∧ sb i ≠ b
section StrL
variable {Z : State} {h h' : Heap} {K : Nat} {sa sb : Nat → Addr} {sn : Nat → Nat} {sc : Nat → Int32} {sg : Nat → Nat → Int32}
theorem StrL.ext (F : StrL Z h K sa sb sn sc sg) (E : Ext h h') : StrL Z h' K sa sb sn sc sg := fun i hi => ⟨(F i hi).1.ext E, (F i hi).2.1.ext E, (F i hi).2.2.1.ext E, (F i hi).2.2.2.ext E⟩
theorem StrL.other {a : Addr} {sl : Nat} {v : Value} (F : StrL Z h K sa sb sn sc sg) (W : Wr h h' a sl v) (q : Aw K sa sb a) : StrL Z h' K sa sb sn sc sg := fun i hi => ⟨(F i hi).1.wr W, (F i hi).2.1.other W (Or.inl (q i hi).1), (F i hi).2.2.1.other W (Or.inl (q i hi).1), (F i hi).2.2.2.other W (q i hi).2⟩
theorem StrL.keep0 (F : StrL Z h K sa sb sn sc sg) (k : Keep h h' []) : StrL Z h' K sa sb sn sc sg := fun i hi => ⟨(F i hi).1.keep k, (F i hi).2.1.keep k nin0, (F i hi).2.2.1.keep k nin0, (F i hi).2.2.2.keep k nin0⟩
theorem StrL.keep1 {a : Addr} (F : StrL Z h K sa sb sn sc sg) (k : Keep h h' [a]) (q : Aw K sa sb a) : StrL Z h' K sa sb sn sc sg := fun i hi => ⟨(F i hi).1.keep k, (F i hi).2.1.keep k (ninS (q i hi).1 nin0), (F i hi).2.2.1.keep k (ninS (q i hi).1 nin0), (F i hi).2.2.2.keep k (ninS (q i hi).2 nin0)⟩
theorem StrL.aw {b : Addr} (F : StrL Z h K sa sb sn sc sg) (hb : h.size ≤ b) : Aw K sa sb b := fun i hi => ⟨Nat.ne_of_lt (Nat.lt_of_lt_of_le (F i hi).1.lt hb), Nat.ne_of_lt (Nat.lt_of_lt_of_le (F i hi).2.2.2.lt hb)⟩
end StrL
def f3 {α : Type} (a b d : α) (i : Nat) : α := match i with
  | 0 => a
  | 1 => b
  | _ => d
theorem all1 {P : Nat → Prop} (h0 : P 0) (i : Nat) (hi : i < 1) : P i := by
  obtain rfl : i = 0 := by omega
  exact h0
theorem all2 {P : Nat → Prop} (h0 : P 0) (h1 : P 1) (i : Nat) (hi : i < 2) : P i := by
  rcases (show i = 0 ∨ i = 1 by omega) with rfl | rfl
  · exact h0
  · exact h1
theorem all3 {P : Nat → Prop} (h0 : P 0) (h1 : P 1) (h2 : P 2) (i : Nat) (hi : i < 3) : P i := by
  rcases (show i = 0 ∨ i = 1 ∨ i = 2 by omega) with rfl | rfl | rfl
  · exact h0
  · exact h1
  · exact h2
theorem tab_1 {g : Nat → Nat} (h : g 0 = 0) (j : Nat) : 0 = tab g 1 j := by
  unfold tab; split
  · obtain rfl : j = 0 := by omega
    exact h.symm
  · rfl
theorem own_tx (y : Int32) : (1 : Int32) + ((y &&& 3) - ((y &&& 3) / 3) * 3) = 1 ∨ (1 : Int32) + ((y &&& 3) - ((y &&& 3) / 3) * 3) = 2 ∨ (1 : Int32) + ((y &&& 3) - ((y &&& 3) / 3) * 3) = 3 := by
  have h := c_and y 3 (by decide)
  rw [show (3 : Int32).toInt = 3 from by decide] at h
  have e := oi_of h.1
  have q : (((y &&& 3).toNatClampNeg : Nat) : Int) = (y &&& 3).toInt := Int.toNat_of_nonneg h.1
  rw [e]
  generalize (y &&& 3).toNatClampNeg = k at q ⊢
  rcases (show k = 0 ∨ k = 1 ∨ k = 2 ∨ k = 3 by omega) with rfl | rfl | rfl | rfl <;> decide
theorem own_len (y : Int32) : ∃ n : Nat, (n = 1 ∨ n = 2) ∧ (1 : Int32) + (y &&& 1) = oi n := by
  rcases and_one y with h | h <;> rw [h]
  · exact ⟨1, Or.inl rfl, by decide⟩
  · exact ⟨2, Or.inr rfl, by decide⟩
theorem own_rem (y : Int32) {b : Nat} (hb : b < 100) : ∃ r : Nat, r ≤ b ∧ ((y &&& 7) - ((y &&& 7) / oi (b + 1)) * oi (b + 1)) = oi r := by
  have h := c_and y 7 (by decide)
  rw [show (7 : Int32).toInt = 7 from by decide] at h
  have hb1 : (oi (b + 1)).toInt = (b + 1 : Nat) := oi_i (by omega)
  have d := (c_idiv (y &&& 7) (oi (b + 1)) _ hb1 (fun z => by rw [z] at hb1; exact absurd hb1 (by rw [show (-1 : Int32).toInt = -1 from by decide]; omega))).1 h.1
  have e1 := c_imul ((y &&& 7) / oi (b + 1)) (oi (b + 1))
  have e2 := c_isub (y &&& 7) (((y &&& 7) / oi (b + 1)) * oi (b + 1))
  rw [hb1, d] at e1
  have q1 := Int.emod_add_mul_ediv (y &&& 7).toInt ((b + 1 : Nat) : Int)
  have q2 := Int.emod_nonneg (y &&& 7).toInt (b := ((b + 1 : Nat) : Int)) (by omega)
  have q3 := Int.emod_lt_of_pos (y &&& 7).toInt (b := ((b + 1 : Nat) : Int)) (by omega)
  have q4 := Int.ediv_nonneg h.1 (b := ((b + 1 : Nat) : Int)) (by omega)
  rw [Int.mul_comm] at q1
  generalize (y &&& 7).toInt / ((b + 1 : Nat) : Int) * ((b + 1 : Nat) : Int) = P at e1 q1
  have r1 := rng32 ((y &&& 7) - ((y &&& 7) / oi (b + 1)) * oi (b + 1))
  have r2 := rng32 (((y &&& 7) / oi (b + 1)) * oi (b + 1))
  generalize ((y &&& 7) - ((y &&& 7) / oi (b + 1)) * oi (b + 1)) = X at e2 r1 ⊢
  generalize ((y &&& 7) / oi (b + 1)) * oi (b + 1) = Y at e1 e2 r2
  generalize (y &&& 7).toInt % ((b + 1 : Nat) : Int) = M at q1 q2 q3
  have hX : 0 ≤ X.toInt ∧ X.toInt ≤ b := by omega
  refine ⟨X.toNatClampNeg, ?_, oi_of hX.1⟩
  have q : ((X.toNatClampNeg : Nat) : Int) = X.toInt := Int.toNat_of_nonneg hX.1
  omega
theorem D34 : ∀ x ∈ ([(0, .iload_n 1, 1), (1, .iload_n 2, 1), (2, .if_icmp .le 44, 3), (46, .iload_n 1, 1), (47, .ifCond .ge 12, 3), (59, .iload_n 2, 1), (60, .iload_n 0, 1), (61, .if_icmp .le 12, 3), (73, .return_, 1)] : List (Nat × Instr × Nat)), decode jdk_65_method_30_code x.1 = .ok x.2 := by decide +kernel
theorem pn_rrc : plainName "java/util/Arrays" = true := by first | (simp [plainName, overriddenIn]; done) | decide +kernel
theorem ef_rrc (m : MethodId) (x0 : Int32) (x1 : Int32) (x2 : Int32) : entryFrame m #[(.int x0), (.int x1), (.int x2)] 3 = mkF m 0 #[.val (.int x0), .val (.int x1), .val (.int x2)] [] := by first | (simp [entryFrame, mkF, argsToLocals, Value.category]; done) | rfl
def Q_rrc (Z : State)  (N u r : Nat) (h0 : Heap) (n0 : Nat) (v : Option Value) (h : Heap) (L : List Loc) : Prop := v = none ∧ Fr n0 L ∧ h = h0
set_option maxRecDepth 65536 in
set_option maxHeartbeats 40000000 in
theorem rrc (l : Launch) (Z : State) (a0 : Array Value) (hw : ∀ d ∈ tables_1, d.before a0 Z = true) (ws : List Jvm.Cond)  (N u r : Nat) (h0 : Heap) (n0 : Nat) (Z0 : n0 ≤ h0.size) (hu : u ≤ r) (hr : r ≤ N) (hN : N < 2147483648) :
    MetFree l (⟨"java/util/Arrays", "rangeCheck", "(III)V"⟩ : MethodName) (head1 (Jvm.Cond.code (⟨"java/util/Arrays", "rangeCheck", "(III)V"⟩ : MethodName) jdk_65_method_30_code 3 none :: ws) ({ frames := 0, cells := 0, slots := 0, locals := 0 } : Room)) (fun a U => a = #[(.int (oi N)), (.int (oi u)), (.int (oi r))] ∧ Z.Warmed39 U.vm ∧ U.heap = h0) (fun _ _ _ _ _ => True) (fun _ U o U' => ∃ v L, o = .returned v ∧ Q_rrc Z  N u r h0 n0 v U'.heap L ∧ FrameEnd U o U' L ({ frames := 0, cells := 0, slots := 0, locals := 0 } : Room).cells ({ frames := 0, cells := 0, slots := 0, locals := 0 } : Room).slots) := by
  refine MetFree.of_bodySF (plainFor_of_name pn_rrc) hisR ?_
  intro p e s m args below meth c s₁ Bd hml0 hP hK
  obtain ⟨rfl, hZ, hh⟩ := hP
  have hx := Bd.exec
  have hby := Bd.bytes
  have hml : c.maxLocals = 3 := hml0
  have hown : s.vm.findClass "java/util/Arrays" = some m.cls := findClass_of_methodNamed Bd.named
  have hnm := (name_of_methodNamed Bd.named Bd.method).1
  have X0 : Stand p l e ({ frames := 0, cells := 0, slots := 0, locals := 0 } : Room) s m #[(.int (oi N)), (.int (oi u)), (.int (oi r))] below meth c s₁ [] 0 0 := Stand.of_body Bd
  have e0 : s₁.heap = h0 := by rw [← hh, Bd.state]; rfl
  have N0 := Fr.nil n0
  have pre0 : ∀ t, Steps p.tables e below (s₁.setTop (mkF m 0 #[.val (.int (oi N)), .val (.int (oi u)), .val (.int (oi r))] [])) t → Steps p.tables e below (s₁.setTop (entryFrame m #[(.int (oi N)), (.int (oi u)), (.int (oi r))] 3)) t := fun t k => castTop (ef_rrc m (oi N) (oi u) (oi r)) k
  obtain ⟨fs, hr, hrun, hended, hW, hsame⟩ := X0.leave (v := none) (fun _ => rfl)
  refine ⟨_, _, pre0 _ ?_, hrun, hended, _, _, rfl, ?_, ⟨_, rfl⟩, hW, hsame.mono (by decide) (by decide)⟩
  · show Steps p.tables e below (s₁.setTop (mkF m 0 #[.val (.int (oi N)), .val (.int (oi u)), .val (.int (oi r))] [])) _
    refine XS.iloadN X0.here hx rfl (dq hby D34 0 rfl) rfl ?_
    refine XS.iloadN X0.here hx rfl (dq hby D34 1 rfl) rfl ?_
    refine XS.icmpYes X0.here hx rfl (pc0 := 2) (pc' := 46) rfl (dq hby D34 2 rfl) rfl (flt ((by rw [oi_lt (by omega) (by omega)]; omega) : ¬ ((oi r) < (oi u)))).2.2.2 (by decide) (by decide) ?_
    refine XS.iloadN X0.here hx rfl (dq hby D34 3 rfl) rfl ?_
    refine XS.ifYes X0.here hx rfl (pc0 := 47) (pc' := 59) rfl (dq hby D34 4 rfl) rfl ((if0 _ _).trans (flt ((oi_nn (by omega)) : ¬ ((oi u) < (0 : Int32)))).2.1) (by decide) (by decide) ?_
    refine XS.iloadN X0.here hx rfl (dq hby D34 5 rfl) rfl ?_
    refine XS.iloadN X0.here hx rfl (dq hby D34 6 rfl) rfl ?_
    refine XS.icmpYes X0.here hx rfl (pc0 := 61) (pc' := 73) rfl (dq hby D34 7 rfl) rfl (flt ((by rw [oi_lt (by omega) (by omega)]; omega) : ¬ ((oi N) < (oi r)))).2.2.2 (by decide) (by decide) ?_
    exact X0.returnOut hx Bd.returns (dq hby D34 8 rfl) hr
  · show Q_rrc Z  N u r h0 n0 _ s₁.heap _
    rw [e0]
    exact ⟨rfl, N0, rfl⟩
theorem D33 : ∀ x ∈ ([(0, .aload_n 0, 1), (1, .arraylength, 1), (2, .iload_n 1, 1), (3, .iload_n 2, 1), (4, .invokestatic 13, 3), (7, .iload_n 1, 1), (8, .istore 4, 2), (10, .iload 4, 2), (12, .iload_n 2, 1), (13, .if_icmp .ge 14, 3), (16, .aload_n 0, 1), (17, .iload 4, 2), (19, .iload_n 3, 1), (20, .iastore, 1), (21, .iinc 4 1, 3), (24, .goto (-14), 3), (27, .return_, 1)] : List (Nat × Instr × Nat)), decode jdk_65_method_104_code x.1 = .ok x.2 := by decide +kernel
theorem pn_rfill : plainName "java/util/Arrays" = true := by first | (simp [plainName, overriddenIn]; done) | decide +kernel
theorem ef_rfill (m : MethodId) (x0 : Addr) (x1 : Int32) (x2 : Int32) (x3 : Int32) : entryFrame m #[(.ref x0), (.int x1), (.int x2), (.int x3)] 5 = mkF m 0 #[.val (.ref x0), .val (.int x1), .val (.int x2), .val (.int x3), .unset] [] := by first | (simp [entryFrame, mkF, argsToLocals, Value.category]; done) | rfl
def Q_rfill (Z : State) (a1 : Addr) (p4 : Int32) (N u r : Nat) (f : Nat → Int32) (h0 : Heap) (n0 : Nat) (v : Option Value) (h : Heap) (L : List Loc) : Prop := v = none ∧ Fr n0 L ∧ Keep h0 h [a1] ∧ ArF Z h a1 .int N (fun j => .int (fil f u r p4 j))
set_option maxRecDepth 65536 in
set_option maxHeartbeats 40000000 in
theorem rfill (l : Launch) (Z : State) (a0 : Array Value) (hw : ∀ d ∈ tables_1, d.before a0 Z = true) (ws : List Jvm.Cond) (a1 : Addr) (p4 : Int32) (N u r : Nat) (f : Nat → Int32) (h0 : Heap) (n0 : Nat) (Z0 : n0 ≤ h0.size) (V0 : ArF Z h0 a1 .int N (fun j => .int (f j))) (ga : n0 ≤ a1) (hu : u ≤ r) (hr : r ≤ N) (hN : N < 2147483648) :
    MetFree l (⟨"java/util/Arrays", "fill", "([IIII)V"⟩ : MethodName) (head1 (Jvm.Cond.code (⟨"java/util/Arrays", "fill", "([IIII)V"⟩ : MethodName) jdk_65_method_104_code 5 none :: ws) ({ frames := 1, cells := 0, slots := 0, locals := 14 } : Room)) (fun a U => a = #[(.ref a1), (.int (oi u)), (.int (oi r)), (.int p4)] ∧ Z.Warmed39 U.vm ∧ U.heap = h0) (fun _ _ _ _ _ => True) (fun _ U o U' => ∃ v L, o = .returned v ∧ Q_rfill Z a1 p4 N u r f h0 n0 v U'.heap L ∧ FrameEnd U o U' L ({ frames := 1, cells := 0, slots := 0, locals := 14 } : Room).cells ({ frames := 1, cells := 0, slots := 0, locals := 14 } : Room).slots) := by
  refine MetFree.of_bodySF (plainFor_of_name pn_rfill) hisR ?_
  intro p e s m args below meth c s₁ Bd hml0 hP hK
  obtain ⟨rfl, hZ, hh⟩ := hP
  have hx := Bd.exec
  have hby := Bd.bytes
  have hml : c.maxLocals = 5 := hml0
  have hown : s.vm.findClass "java/util/Arrays" = some m.cls := findClass_of_methodNamed Bd.named
  have hnm := (name_of_methodNamed Bd.named Bd.method).1
  have X0 : Stand p l e ({ frames := 1, cells := 0, slots := 0, locals := 14 } : Room) s m #[(.ref a1), (.int (oi u)), (.int (oi r)), (.int p4)] below meth c s₁ [] 0 0 := Stand.of_body Bd
  have e0 : s₁.heap = h0 := by rw [← hh, Bd.state]; rfl
  have N0 := Fr.nil n0
  have pre0 : ∀ t, Steps p.tables e below (s₁.setTop (mkF m 0 #[.val (.ref a1), .val (.int (oi u)), .val (.int (oi r)), .val (.int p4), .unset] [])) t → Steps p.tables e below (s₁.setTop (entryFrame m #[(.ref a1), (.int (oi u)), (.int (oi r)), (.int p4)] 5)) t := fun t k => castTop (ef_rfill m a1 (oi u) (oi r) p4) k
  have K0 := Keep.refl h0 [a1]
  refine own_cps fun G hG => ?_
  obtain ⟨cl1, Ar1, S1, H1⟩ := id V0
  replace S1 : Sq cl1.slots.size _ := S1
  obtain ⟨_, _, ⟨T2, L2, k2, n2⟩, -, X2, ⟨Lc2, hQ2, l2, y2, z2⟩, st2⟩ := Jvm.LawKit.callS X0 hx (y := (⟨"java/util/Arrays", "rangeCheck", "(III)V"⟩ : MethodName)) hown (mvT hZ (wq hw 180 rfl)) (mvT hZ (wq hw 181 rfl)) (mvT hZ (wq hw 178 rfl)) (mvT hZ (wq hw 182 rfl)) (by decide) (backOf (W := 0) (rrc l Z a0 hw [] (N) (u) (r) h0 n0 Z0 (by omega) (by omega) (by omega)) hZ (wq hw 182 rfl) (wq hw 178 rfl) (by decide) (by decide)) (g := (mkF m 4 #[.val (.ref a1), .val (.int (oi u)), .val (.int (oi r)), .val (.int p4), .unset] [(.int (oi r)), (.int (oi u)), (.int (oi N))])) rfl (by rw [hml]; rfl) (argsL := [(.int (oi N)), (.int (oi u)), (.int (oi r))]) (rest := []) (lenOf pd_0 rfl) rfl (by show 2 * 0 + _ ≤ _; exact Nat.le_of_eq rfl) (dq hby D33 4 rfl) (fun _ _ => ⟨rfl, e0, (by decide : 0 + 0 ≤ _), (by decide : 0 + 0 ≤ _)⟩)
  dsimp only [Pt.U, Pt.locs, Pt.cells, Pt.slots] at X2 l2 y2 z2 st2 hQ2
  subst l2 y2 z2
  obtain ⟨rfl, N2q, e2⟩ := hQ2
  have N2 := Fr.app N0 N2q
  have pre3 : ∀ t, Steps p.tables e below (T2.setTop (mkF m 10 #[.val (.ref a1), .val (.int (oi u)), .val (.int (oi r)), .val (.int p4), .val (.int (oi u))] [])) t → Steps p.tables e below (s₁.setTop (entryFrame m #[(.ref a1), (.int (oi u)), (.int (oi r)), (.int p4)] 5)) t := by
    intro t k
    refine pre0 t ?_
    refine XS.aloadN X0.here hx rfl (dq hby D33 0 rfl) rfl rfl ?_
    refine X0.arraylength hx (by rw [e0]; exact Ar1.1) (State.isArrayOf_alike hZ.alike Ar1.2.1) (g := (mkF m 1 #[.val (.ref a1), .val (.int (oi u)), .val (.int (oi r)), .val (.int p4), .unset] [(.ref a1)])) rfl rfl (dq hby D33 1 rfl) _ ?_
    rw [show cl1.slots.size.toInt32 = (oi N) from (congrArg Nat.toInt32 S1).trans rfl]
    refine XS.iloadN X0.here hx rfl (dq hby D33 2 rfl) rfl ?_
    refine XS.iloadN X0.here hx rfl (dq hby D33 3 rfl) rfl ?_
    refine st2 _ ?_
    refine XS.iloadN X2.here hx rfl (dq hby D33 5 rfl) rfl ?_
    refine XS.istore X2.here hx rfl (dq hby D33 6 rfl) rfl (l' := #[.val (.ref a1), .val (.int (oi u)), .val (.int (oi r)), .val (.int p4), .val (.int (oi u))]) rfl ?_
    exact k
  have loop4 : ∀ (k4 : Nat) (TL4 : State) (Lc4 : List Loc) (hL4 : Heap) (i : Nat), Stand p l e ({ frames := 1, cells := 0, slots := 0, locals := 14 } : Room) s m #[(.ref a1), (.int (oi u)), (.int (oi r)), (.int p4)] below meth c TL4 Lc4 0 0 → TL4.heap = hL4 → Fr n0 Lc4 → Lq n0 hL4.size → Keep h0 hL4 [a1] → ArF Z hL4 a1 .int N (fun j => .int (fil f u i p4 j)) → u ≤ i → i + k4 = r → (∀ t, Steps p.tables e below (TL4.setTop (mkF m 10 #[.val (.ref a1), .val (.int (oi u)), .val (.int (oi r)), .val (.int p4), .val (.int (oi i))] [])) t → Steps p.tables e below (s₁.setTop (entryFrame m #[(.ref a1), (.int (oi u)), (.int (oi r)), (.int p4)] 5)) t) → G := by
    intro k4
    induction k4 with
    | zero =>
      intro TL4 Lc4 hL4 i XL4 eL4 NL4 ZL4 KL4 lf4_0_v4 hi hk prL4
      refine hG ?_
      obtain ⟨fs, hr, hrun, hended, hW, hsame⟩ := XL4.leave (v := none) (fun _ => rfl)
      refine ⟨_, _, prL4 _ ?_, hrun, hended, _, _, rfl, ?_, ⟨_, rfl⟩, hW, hsame.mono (by decide) (by decide)⟩
      · show Steps p.tables e below (TL4.setTop (mkF m 10 #[.val (.ref a1), .val (.int (oi u)), .val (.int (oi r)), .val (.int p4), .val (.int (oi i))] [])) _
        refine XS.iload XL4.here hx rfl (dq hby D33 7 rfl) rfl ?_
        refine XS.iloadN XL4.here hx rfl (dq hby D33 8 rfl) rfl ?_
        refine XS.icmpYes XL4.here hx rfl (pc0 := 13) (pc' := 27) rfl (dq hby D33 9 rfl) rfl (flt ((by rw [oi_lt (by omega) (by omega)]; omega) : ¬ ((oi i) < (oi r)))).2.1 (by decide) (by decide) ?_
        exact XL4.returnOut hx Bd.returns (dq hby D33 16 rfl) hr
      · show Q_rfill Z a1 p4 N u r f h0 n0 _ TL4.heap _
        rw [eL4]
        exact ⟨rfl, NL4, KL4, lf4_0_v4.congr (fun j hj => by rw [show i = r from by omega])⟩
    | succ k4 ih4 =>
      intro TL4 Lc4 hL4 i XL4 eL4 NL4 ZL4 KL4 lf4_0_v4 hi hk prL4
      obtain ⟨cl5, Ar5, S5, H5⟩ := id lf4_0_v4
      replace S5 : Sq cl5.slots.size _ := S5
      have hin5 : Hq (oi i) cl5.slots.size := oi_at S5 (show i < _ by omega) (by omega)
      obtain ⟨T5, h5, X5, e5, W5, st5⟩ := stI XL4 hx hZ eL4 Ar5 (j := (oi i)) hin5 (g := (mkF m 20 #[.val (.ref a1), .val (.int (oi u)), .val (.int (oi r)), .val (.int p4), .val (.int (oi i))] [(.int p4), (.int (oi i)), (.ref a1)])) rfl rfl (dq hby D33 13 rfl)
      have Z5 : Lq n0 h5.size := Nat.le_trans ZL4 (Nat.le_of_eq W5.size.symm)
      have K5 := KL4.wr W5 (Or.inl (by simp))
      have V5_v5 := ArF.set Ar5 S5 H5 W5 hin5
      have N5 := Fr.snoc X5 NL4 ga
      have pre6 : ∀ t, Steps p.tables e below (T5.setTop (mkF m 10 #[.val (.ref a1), .val (.int (oi u)), .val (.int (oi r)), .val (.int p4), .val (.int (oi (i + 1)))] [])) t → Steps p.tables e below (s₁.setTop (entryFrame m #[(.ref a1), (.int (oi u)), (.int (oi r)), (.int p4)] 5)) t := by
        intro t k
        refine prL4 t ?_
        show Steps p.tables e below (TL4.setTop (mkF m 10 #[.val (.ref a1), .val (.int (oi u)), .val (.int (oi r)), .val (.int p4), .val (.int (oi i))] [])) _
        refine XS.iload XL4.here hx rfl (dq hby D33 7 rfl) rfl ?_
        refine XS.iloadN XL4.here hx rfl (dq hby D33 8 rfl) rfl ?_
        refine XS.icmpNo XL4.here hx rfl (dq hby D33 9 rfl) rfl (tlt ((by rw [oi_lt (by omega) (by omega)]; omega) : ((oi i) < (oi r)))).2.1 ?_
        refine XS.aloadN XL4.here hx rfl (dq hby D33 10 rfl) rfl rfl ?_
        refine XS.iload XL4.here hx rfl (dq hby D33 11 rfl) rfl ?_
        refine XS.iloadN XL4.here hx rfl (dq hby D33 12 rfl) rfl ?_
        refine st5 _ ?_
        refine XS.iinc X5.here hx rfl (dq hby D33 14 rfl) rfl (l' := #[.val (.ref a1), .val (.int (oi u)), .val (.int (oi r)), .val (.int p4), .val (.int ((oi i) + (1 : Int32)))]) rfl ?_
        show Steps p.tables e below (T5.setTop (mkF m 24 #[.val (.ref a1), .val (.int (oi u)), .val (.int (oi r)), .val (.int p4), .val (.int ((oi i) + (1 : Int32)))] [])) _
        rw [oi_s (i)]
        refine XS.goto X5.here hx rfl (pc0 := 24) (pc' := 10) rfl (dq hby D33 15 rfl) (by decide) (by decide) ?_
        exact k
      exact ih4 _ _ _ (i + 1) X5 e5 N5 Z5 K5 (V5_v5.congr (fun j hj => fil_s (oi_n (by omega)) hi j)) (by omega) (by omega) pre6
  exact loop4 (r - u) _ _ _ u X2 e2 N2 Z0 K0 (V0.congr (fun j hj => congrArg Value.int (fil_0 f u p4 j).symm)) (Nat.le_refl u) (by omega) pre3
theorem D35 : ∀ x ∈ ([(0, .aload_n 3, 1), (1, .iconst 0, 1), (2, .iload_n 2, 1), (3, .iconst 2, 1), (4, .iadd, 1), (5, .iconst 0, 1), (6, .invokestatic 59, 3), (9, .aload_n 0, 1), (10, .astore 5, 2), (12, .aload 5, 2), (14, .arraylength, 1), (15, .istore 6, 2), (17, .iconst 0, 1), (18, .istore 7, 2), (20, .iload 7, 2), (22, .iload 6, 2), (24, .if_icmp .ge 28, 3), (27, .aload 5, 2), (29, .iload 7, 2), (31, .iaload, 1), (32, .istore 8, 2), (34, .aload_n 3, 1), (35, .aload_n 1, 1), (36, .iload 8, 2), (38, .iaload, 1), (39, .iconst 1, 1), (40, .iadd, 1), (41, .dup2, 1), (42, .iaload, 1), (43, .iconst 1, 1), (44, .iadd, 1), (45, .iastore, 1), (46, .iinc 7 1, 3), (49, .goto (-29), 3), (52, .iconst 1, 1), (53, .istore 5, 2), (55, .iload 5, 2), (57, .iload_n 2, 1), (58, .iconst 2, 1), (59, .iadd, 1), (60, .if_icmp .ge 22, 3), (63, .aload_n 3, 1), (64, .iload 5, 2), (66, .dup2, 1), (67, .iaload, 1), (68, .aload_n 3, 1), (69, .iload 5, 2), (71, .iconst 1, 1), (72, .isub, 1), (73, .iaload, 1), (74, .iadd, 1), (75, .iastore, 1), (76, .iinc 5 1, 3), (79, .goto (-24), 3), (82, .aload_n 0, 1), (83, .astore 5, 2), (85, .aload 5, 2), (87, .arraylength, 1), (88, .istore 6, 2), (90, .iconst 0, 1), (91, .istore 7, 2), (93, .iload 7, 2), (95, .iload 6, 2), (97, .if_icmp .ge 37, 3), (100, .aload 5, 2), (102, .iload 7, 2), (104, .iaload, 1), (105, .istore 8, 2), (107, .aload 4, 2), (109, .aload_n 3, 1), (110, .aload_n 1, 1), (111, .iload 8, 2), (113, .iaload, 1), (114, .iaload, 1), (115, .iload 8, 2), (117, .iastore, 1), (118, .aload_n 3, 1), (119, .aload_n 1, 1), (120, .iload 8, 2), (122, .iaload, 1), (123, .dup2, 1), (124, .iaload, 1), (125, .iconst 1, 1), (126, .iadd, 1), (127, .iastore, 1), (128, .iinc 7 1, 3), (131, .goto (-38), 3), (134, .return_, 1)] : List (Nat × Instr × Nat)), decode prog_11_method_13_code x.1 = .ok x.2 := by decide +kernel
theorem pn_rby : plainName "com/example/even_roster/evenroster/scim/SortedSuffixes" = true := by first | (simp [plainName, overriddenIn]; done) | decide +kernel
theorem ef_rby (m : MethodId) (x0 : Addr) (x1 : Addr) (x2 : Int32) (x3 : Addr) (x4 : Addr) : entryFrame m #[(.ref x0), (.ref x1), (.int x2), (.ref x3), (.ref x4)] 9 = mkF m 0 #[.val (.ref x0), .val (.ref x1), .val (.int x2), .val (.ref x3), .val (.ref x4), .unset, .unset, .unset, .unset] [] := by first | (simp [entryFrame, mkF, argsToLocals, Value.category]; done) | rfl
def Q_rby (Z : State) (a1 : Addr) (a2 : Addr) (a4 : Addr) (a5 : Addr) (N M mo : Nat) (P rk F0 : Nat → Nat) (c0 : Nat → Int32) (h0 : Heap) (n0 : Nat) (v : Option Value) (h : Heap) (L : List Loc) : Prop := ∃ (cc : Nat → Int32) (F : Nat → Nat), v = none ∧ Fr n0 L ∧ Keep h0 h [a4, a5] ∧ ArF Z h a4 .int M (fun j => .int (cc j)) ∧ ArF Z h a5 .int N (fun j => .int (oi (F j))) ∧ (∀ r, r < mo + 2 → ∃ q, q ≤ N ∧ cc r = oi q) ∧ (∀ j, j < N → F j < N) ∧ (∀ A : Nat → Bool, cnt (fun j => A (F j)) N = cnt (fun j => A (P j)) N)
set_option maxRecDepth 65536 in
set_option maxHeartbeats 40000000 in
theorem rby (l : Launch) (Z : State) (a0 : Array Value) (hw : ∀ d ∈ tables_1, d.before a0 Z = true) (ws : List Jvm.Cond) (a1 : Addr) (a2 : Addr) (a4 : Addr) (a5 : Addr) (N M mo : Nat) (P rk F0 : Nat → Nat) (c0 : Nat → Int32) (h0 : Heap) (n0 : Nat) (Z0 : n0 ≤ h0.size) (V1 : ArF Z h0 a1 .int N (fun j => .int (oi (P j)))) (V2 : ArF Z h0 a2 .int N (fun j => .int (oi (rk j)))) (V4 : ArF Z h0 a4 .int M (fun j => .int (c0 j))) (V5 : ArF Z h0 a5 .int N (fun j => .int (oi (F0 j)))) (g4 : n0 ≤ a4) (g5 : n0 ≤ a5) (n14 : a1 ≠ a4) (n24 : a2 ≠ a4) (n54 : a5 ≠ a4) (n15 : a1 ≠ a5) (n25 : a2 ≠ a5) (hP : ∀ j, j < N → P j < N) (hR : ∀ j, j < N → rk j ≤ mo) (hF0 : ∀ j, j < N → F0 j < N) (hm : mo + 2 ≤ M) (hM : M < 2147483648) (hN : N < 2147483648) :
    MetFree l (⟨"com/example/even_roster/evenroster/scim/SortedSuffixes", "byRank", "([I[II[I[I)V"⟩ : MethodName) (head1 (Jvm.Cond.code (⟨"com/example/even_roster/evenroster/scim/SortedSuffixes", "byRank", "([I[II[I[I)V"⟩ : MethodName) prog_11_method_13_code 9 none :: ws) ({ frames := 2, cells := 0, slots := 0, locals := 30 } : Room)) (fun a U => a = #[(.ref a1), (.ref a2), (.int (oi mo)), (.ref a4), (.ref a5)] ∧ Z.Warmed39 U.vm ∧ U.heap = h0) (fun _ _ _ _ _ => True) (fun _ U o U' => ∃ v L, o = .returned v ∧ Q_rby Z a1 a2 a4 a5 N M mo P rk F0 c0 h0 n0 v U'.heap L ∧ FrameEnd U o U' L ({ frames := 2, cells := 0, slots := 0, locals := 30 } : Room).cells ({ frames := 2, cells := 0, slots := 0, locals := 30 } : Room).slots) := by
  refine MetFree.of_bodySF (plainFor_of_name pn_rby) hisR ?_
  intro p e s m args below meth c s₁ Bd hml0 hP hK
  obtain ⟨rfl, hZ, hh⟩ := hP
  have hx := Bd.exec
  have hby := Bd.bytes
  have hml : c.maxLocals = 9 := hml0
  have hown : s.vm.findClass "com/example/even_roster/evenroster/scim/SortedSuffixes" = some m.cls := findClass_of_methodNamed Bd.named
  have hnm := (name_of_methodNamed Bd.named Bd.method).1
  have X0 : Stand p l e ({ frames := 2, cells := 0, slots := 0, locals := 30 } : Room) s m #[(.ref a1), (.ref a2), (.int (oi mo)), (.ref a4), (.ref a5)] below meth c s₁ [] 0 0 := Stand.of_body Bd
  have e0 : s₁.heap = h0 := by rw [← hh, Bd.state]; rfl
  have N0 := Fr.nil n0
  have pre0 : ∀ t, Steps p.tables e below (s₁.setTop (mkF m 0 #[.val (.ref a1), .val (.ref a2), .val (.int (oi mo)), .val (.ref a4), .val (.ref a5), .unset, .unset, .unset, .unset] [])) t → Steps p.tables e below (s₁.setTop (entryFrame m #[(.ref a1), (.ref a2), (.int (oi mo)), (.ref a4), (.ref a5)] 9)) t := fun t k => castTop (ef_rby m a1 a2 (oi mo) a4 a5) k
  have K0 := Keep.refl h0 [a4, a5]
  refine own_cps fun G hG => ?_
  obtain ⟨_, _, ⟨T1, L1, k1, n1⟩, -, X1, ⟨Lc1, hQ1, l1, y1, z1⟩, st1⟩ := Jvm.LawKit.callS X0 hx (y := (⟨"java/util/Arrays", "fill", "([IIII)V"⟩ : MethodName)) hown (mvT hZ (wq hw 176 rfl)) (mvT hZ (wq hw 177 rfl)) (mvT hZ (wq hw 178 rfl)) (mvT hZ (wq hw 179 rfl)) (by decide) (backOf (W := 0) (rfill l Z a0 hw [] a4 (0 : Int32) M 0 ((mo + 2)) c0 h0 n0 Z0 V4 g4 (by omega) (by omega) (by omega)) hZ (wq hw 179 rfl) (wq hw 178 rfl) (by decide) (by decide)) (g := (mkF m 6 #[.val (.ref a1), .val (.ref a2), .val (.int (oi mo)), .val (.ref a4), .val (.ref a5), .unset, .unset, .unset, .unset] [(.int (0 : Int32)), (.int (oi (mo + 2))), (.int (0 : Int32)), (.ref a4)])) rfl (by rw [hml]; rfl) (argsL := [(.ref a4), (.int (0 : Int32)), (.int (oi (mo + 2))), (.int (0 : Int32))]) (rest := []) (lenOf pd_1 rfl) rfl (by show 2 * 0 + _ ≤ _; exact Nat.le_of_eq rfl) (dq hby D35 6 rfl) (fun _ _ => ⟨rfl, e0, (by decide : 0 + 0 ≤ _), (by decide : 0 + 0 ≤ _)⟩)
  dsimp only [Pt.U, Pt.locs, Pt.cells, Pt.slots] at X1 l1 y1 z1 st1 hQ1
  subst l1 y1 z1
  obtain ⟨rfl, N1q, Kc1, nf1_0_v1⟩ := hQ1
  have N1 := Fr.app N0 N1q
  have V1_v1 := V1.keep Kc1 (ninS n14 nin0)
  have V2_v1 := V2.keep Kc1 (ninS n24 nin0)
  have V5_v1 := V5.keep Kc1 (ninS n54 nin0)
  have Z1 : Lq n0 T1.heap.size := Nat.le_trans Z0 Kc1.1
  have KK1 := K0.trans Kc1 (allS (Or.inl (by simp)) all0)
  obtain ⟨cl2, Ar2, S2, H2⟩ := id V1_v1
  replace S2 : Sq cl2.slots.size _ := S2
  have pre3 : ∀ t, Steps p.tables e below (T1.setTop (mkF m 20 #[.val (.ref a1), .val (.ref a2), .val (.int (oi mo)), .val (.ref a4), .val (.ref a5), .val (.ref a1), .val (.int (oi N)), .val (.int (0 : Int32)), .unset] [])) t → Steps p.tables e below (s₁.setTop (entryFrame m #[(.ref a1), (.ref a2), (.int (oi mo)), (.ref a4), (.ref a5)] 9)) t := by
    intro t k
    refine pre0 t ?_
    refine XS.aloadN X0.here hx rfl (dq hby D35 0 rfl) rfl rfl ?_
    refine XS.iconst X0.here hx rfl (dq hby D35 1 rfl) ?_
    refine XS.iloadN X0.here hx rfl (dq hby D35 2 rfl) rfl ?_
    refine XS.iconst X0.here hx rfl (dq hby D35 3 rfl) ?_
    refine XS.iadd X0.here hx rfl (dq hby D35 4 rfl) rfl ?_
    show Steps p.tables e below (s₁.setTop (mkF m 5 #[.val (.ref a1), .val (.ref a2), .val (.int (oi mo)), .val (.ref a4), .val (.ref a5), .unset, .unset, .unset, .unset] [(.int ((oi mo) + (2 : Int32))), (.int (0 : Int32)), (.ref a4)])) _
    rw [oi_s2 (mo)]
    refine XS.iconst X0.here hx rfl (dq hby D35 5 rfl) ?_
    refine st1 _ ?_
    refine XS.aloadN X1.here hx rfl (dq hby D35 7 rfl) rfl rfl ?_
    refine XS.astore X1.here hx rfl (dq hby D35 8 rfl) rfl rfl (l' := #[.val (.ref a1), .val (.ref a2), .val (.int (oi mo)), .val (.ref a4), .val (.ref a5), .val (.ref a1), .unset, .unset, .unset]) rfl ?_
    refine XS.aload X1.here hx rfl (dq hby D35 9 rfl) rfl rfl ?_
    refine X1.arraylength hx Ar2.1 (State.isArrayOf_alike hZ.alike Ar2.2.1) (g := (mkF m 14 #[.val (.ref a1), .val (.ref a2), .val (.int (oi mo)), .val (.ref a4), .val (.ref a5), .val (.ref a1), .unset, .unset, .unset] [(.ref a1)])) rfl rfl (dq hby D35 10 rfl) _ ?_
    rw [show cl2.slots.size.toInt32 = (oi N) from (congrArg Nat.toInt32 S2).trans rfl]
    refine XS.istore X1.here hx rfl (dq hby D35 11 rfl) rfl (l' := #[.val (.ref a1), .val (.ref a2), .val (.int (oi mo)), .val (.ref a4), .val (.ref a5), .val (.ref a1), .val (.int (oi N)), .unset, .unset]) rfl ?_
    refine XS.iconst X1.here hx rfl (dq hby D35 12 rfl) ?_
    refine XS.istore X1.here hx rfl (dq hby D35 13 rfl) rfl (l' := #[.val (.ref a1), .val (.ref a2), .val (.int (oi mo)), .val (.ref a4), .val (.ref a5), .val (.ref a1), .val (.int (oi N)), .val (.int (0 : Int32)), .unset]) rfl ?_
    exact k
  have loop4 : ∀ (k4 : Nat) (TL4 : State) (Lc4 : List Loc) (hL4 : Heap) (i : Nat) (cc : Nat → Int32) (sl : Slot), Stand p l e ({ frames := 2, cells := 0, slots := 0, locals := 30 } : Room) s m #[(.ref a1), (.ref a2), (.int (oi mo)), (.ref a4), (.ref a5)] below meth c TL4 Lc4 0 0 → TL4.heap = hL4 → Fr n0 Lc4 → Lq n0 hL4.size → Keep h0 hL4 [a4, a5] → ArF Z hL4 a1 .int N (fun j => .int (oi (P j))) → ArF Z hL4 a2 .int N (fun j => .int (oi (rk j))) → ArF Z hL4 a5 .int N (fun j => .int (oi (F0 j))) → ArF Z hL4 a4 .int M (fun j => .int (cc j)) → i + k4 = N → (∀ r, r < mo + 2 → cc r = oi (c2 rk P i r)) → (sl = .unset ∨ ∃ z, sl = .val (.int z)) → (∀ t, Steps p.tables e below (TL4.setTop (mkF m 20 #[.val (.ref a1), .val (.ref a2), .val (.int (oi mo)), .val (.ref a4), .val (.ref a5), .val (.ref a1), .val (.int (oi N)), .val (.int (oi i)), sl] [])) t → Steps p.tables e below (s₁.setTop (entryFrame m #[(.ref a1), (.ref a2), (.int (oi mo)), (.ref a4), (.ref a5)] 9)) t) → G := by
    intro k4
    induction k4 with
    | zero =>
      intro TL4 Lc4 hL4 i cc sl XL4 eL4 NL4 ZL4 KL4 lf4_0_v4 lf4_1_v4 lf4_2_v4 lf4_3_v4 hk hc hsl prL4
      have hiN : i = N := by omega
      rw [hiN] at hc
      have pre5 : ∀ t, Steps p.tables e below (TL4.setTop (mkF m 55 #[.val (.ref a1), .val (.ref a2), .val (.int (oi mo)), .val (.ref a4), .val (.ref a5), .val (.int (1 : Int32)), .val (.int (oi N)), .val (.int (oi i)), sl] [])) t → Steps p.tables e below (s₁.setTop (entryFrame m #[(.ref a1), (.ref a2), (.int (oi mo)), (.ref a4), (.ref a5)] 9)) t := by
        intro t k
        refine prL4 t ?_
        refine XS.iload XL4.here hx rfl (dq hby D35 14 rfl) rfl ?_
        refine XS.iload XL4.here hx rfl (dq hby D35 15 rfl) rfl ?_
        refine XS.icmpYes XL4.here hx rfl (pc0 := 24) (pc' := 52) rfl (dq hby D35 16 rfl) rfl (flt ((by rw [oi_lt (by omega) (by omega)]; omega) : ¬ ((oi i) < (oi N)))).2.1 (by decide) (by decide) ?_
        refine XS.iconst XL4.here hx rfl (dq hby D35 34 rfl) ?_
        refine XS.istore XL4.here hx rfl (dq hby D35 35 rfl) rfl (l' := #[.val (.ref a1), .val (.ref a2), .val (.int (oi mo)), .val (.ref a4), .val (.ref a5), .val (.int (1 : Int32)), .val (.int (oi N)), .val (.int (oi i)), sl]) rfl ?_
        exact k
      have loop6 : ∀ (k6 : Nat) (TL6 : State) (Lc6 : List Loc) (hL6 : Heap) (r : Nat) (cc : Nat → Int32), Stand p l e ({ frames := 2, cells := 0, slots := 0, locals := 30 } : Room) s m #[(.ref a1), (.ref a2), (.int (oi mo)), (.ref a4), (.ref a5)] below meth c TL6 Lc6 0 0 → TL6.heap = hL6 → Fr n0 Lc6 → Lq n0 hL6.size → Keep h0 hL6 [a4, a5] → ArF Z hL6 a1 .int N (fun j => .int (oi (P j))) → ArF Z hL6 a2 .int N (fun j => .int (oi (rk j))) → ArF Z hL6 a5 .int N (fun j => .int (oi (F0 j))) → ArF Z hL6 a4 .int M (fun j => .int (cc j)) → 1 ≤ r → r + k6 = mo + 2 → (∀ q, q < r → cc q = oi (c3 rk P N q)) → (∀ q, r ≤ q → q < mo + 2 → cc q = oi (c2 rk P N q)) → (∀ t, Steps p.tables e below (TL6.setTop (mkF m 55 #[.val (.ref a1), .val (.ref a2), .val (.int (oi mo)), .val (.ref a4), .val (.ref a5), .val (.int (oi r)), .val (.int (oi N)), .val (.int (oi i)), sl] [])) t → Steps p.tables e below (s₁.setTop (entryFrame m #[(.ref a1), (.ref a2), (.int (oi mo)), (.ref a4), (.ref a5)] 9)) t) → G := by
        intro k6
        induction k6 with
        | zero =>
          intro TL6 Lc6 hL6 r cc XL6 eL6 NL6 ZL6 KL6 lf6_0_v6 lf6_1_v6 lf6_2_v6 lf6_3_v6 hr1 hkr hlo hhi prL6
          obtain ⟨cl7, Ar7, S7, H7⟩ := id lf6_0_v6
          replace S7 : Sq cl7.slots.size _ := S7
          have hrm : r = mo + 2 := by omega
          rw [hrm] at hlo
          have pre8 : ∀ t, Steps p.tables e below (TL6.setTop (mkF m 93 #[.val (.ref a1), .val (.ref a2), .val (.int (oi mo)), .val (.ref a4), .val (.ref a5), .val (.ref a1), .val (.int (oi N)), .val (.int (0 : Int32)), sl] [])) t → Steps p.tables e below (s₁.setTop (entryFrame m #[(.ref a1), (.ref a2), (.int (oi mo)), (.ref a4), (.ref a5)] 9)) t := by
            intro t k
            refine prL6 t ?_
            refine XS.iload XL6.here hx rfl (dq hby D35 36 rfl) rfl ?_
            refine XS.iloadN XL6.here hx rfl (dq hby D35 37 rfl) rfl ?_
            refine XS.iconst XL6.here hx rfl (dq hby D35 38 rfl) ?_
            refine XS.iadd XL6.here hx rfl (dq hby D35 39 rfl) rfl ?_
            show Steps p.tables e below (TL6.setTop (mkF m 60 #[.val (.ref a1), .val (.ref a2), .val (.int (oi mo)), .val (.ref a4), .val (.ref a5), .val (.int (oi r)), .val (.int (oi N)), .val (.int (oi i)), sl] [(.int ((oi mo) + (2 : Int32))), (.int (oi r))])) _
            rw [oi_s2 (mo)]
            refine XS.icmpYes XL6.here hx rfl (pc0 := 60) (pc' := 82) rfl (dq hby D35 40 rfl) rfl (flt ((by rw [oi_lt (by omega) (by omega)]; omega) : ¬ ((oi r) < (oi (mo + 2))))).2.1 (by decide) (by decide) ?_
            refine XS.aloadN XL6.here hx rfl (dq hby D35 54 rfl) rfl rfl ?_
            refine XS.astore XL6.here hx rfl (dq hby D35 55 rfl) rfl rfl (l' := #[.val (.ref a1), .val (.ref a2), .val (.int (oi mo)), .val (.ref a4), .val (.ref a5), .val (.ref a1), .val (.int (oi N)), .val (.int (oi i)), sl]) rfl ?_
            refine XS.aload XL6.here hx rfl (dq hby D35 56 rfl) rfl rfl ?_
            refine XL6.arraylength hx (by rw [eL6]; exact Ar7.1) (State.isArrayOf_alike hZ.alike Ar7.2.1) (g := (mkF m 87 #[.val (.ref a1), .val (.ref a2), .val (.int (oi mo)), .val (.ref a4), .val (.ref a5), .val (.ref a1), .val (.int (oi N)), .val (.int (oi i)), sl] [(.ref a1)])) rfl rfl (dq hby D35 57 rfl) _ ?_
            rw [show cl7.slots.size.toInt32 = (oi N) from (congrArg Nat.toInt32 S7).trans rfl]
            refine XS.istore XL6.here hx rfl (dq hby D35 58 rfl) rfl (l' := #[.val (.ref a1), .val (.ref a2), .val (.int (oi mo)), .val (.ref a4), .val (.ref a5), .val (.ref a1), .val (.int (oi N)), .val (.int (oi i)), sl]) rfl ?_
            refine XS.iconst XL6.here hx rfl (dq hby D35 59 rfl) ?_
            refine XS.istore XL6.here hx rfl (dq hby D35 60 rfl) rfl (l' := #[.val (.ref a1), .val (.ref a2), .val (.int (oi mo)), .val (.ref a4), .val (.ref a5), .val (.ref a1), .val (.int (oi N)), .val (.int (0 : Int32)), sl]) rfl ?_
            exact k
          have loop9 : ∀ (k9 : Nat) (TL9 : State) (Lc9 : List Loc) (hL9 : Heap) (i : Nat) (cc : Nat → Int32) (F : Nat → Nat) (sl : Slot), Stand p l e ({ frames := 2, cells := 0, slots := 0, locals := 30 } : Room) s m #[(.ref a1), (.ref a2), (.int (oi mo)), (.ref a4), (.ref a5)] below meth c TL9 Lc9 0 0 → TL9.heap = hL9 → Fr n0 Lc9 → Lq n0 hL9.size → Keep h0 hL9 [a4, a5] → ArF Z hL9 a1 .int N (fun j => .int (oi (P j))) → ArF Z hL9 a2 .int N (fun j => .int (oi (rk j))) → ArF Z hL9 a5 .int N (fun j => .int (oi (F j))) → ArF Z hL9 a4 .int M (fun j => .int (cc j)) → i + k9 = N → (∀ r, r < mo + 2 → cc r = oi (c4 rk P N i r)) → (∀ j, j < N → F j < N) → (∀ j, j < i → F (sg (fun j => rk (P j)) N j) = P j) → (sl = .unset ∨ ∃ z, sl = .val (.int z)) → (∀ t, Steps p.tables e below (TL9.setTop (mkF m 93 #[.val (.ref a1), .val (.ref a2), .val (.int (oi mo)), .val (.ref a4), .val (.ref a5), .val (.ref a1), .val (.int (oi N)), .val (.int (oi i)), sl] [])) t → Steps p.tables e below (s₁.setTop (entryFrame m #[(.ref a1), (.ref a2), (.int (oi mo)), (.ref a4), (.ref a5)] 9)) t) → G := by
            intro k9
            induction k9 with
            | zero =>
              intro TL9 Lc9 hL9 i cc F sl XL9 eL9 NL9 ZL9 KL9 lf9_0_v9 lf9_1_v9 lf9_2_v9 lf9_3_v9 hk hc hF hG4 hsl prL9
              refine hG ?_
              obtain ⟨fs, hr, hrun, hended, hW, hsame⟩ := XL9.leave (v := none) (fun _ => rfl)
              refine ⟨_, _, prL9 _ ?_, hrun, hended, _, _, rfl, ?_, ⟨_, rfl⟩, hW, hsame.mono (by decide) (by decide)⟩
              · show Steps p.tables e below (TL9.setTop (mkF m 93 #[.val (.ref a1), .val (.ref a2), .val (.int (oi mo)), .val (.ref a4), .val (.ref a5), .val (.ref a1), .val (.int (oi N)), .val (.int (oi i)), sl] [])) _
                refine XS.iload XL9.here hx rfl (dq hby D35 61 rfl) rfl ?_
                refine XS.iload XL9.here hx rfl (dq hby D35 62 rfl) rfl ?_
                refine XS.icmpYes XL9.here hx rfl (pc0 := 97) (pc' := 134) rfl (dq hby D35 63 rfl) rfl (flt ((by rw [oi_lt (by omega) (by omega)]; omega) : ¬ ((oi i) < (oi N)))).2.1 (by decide) (by decide) ?_
                exact XL9.returnOut hx Bd.returns (dq hby D35 87 rfl) hr
              · show Q_rby Z a1 a2 a4 a5 N M mo P rk F0 c0 h0 n0 _ TL9.heap _
                rw [eL9]
                have hiN : i = N := by omega
                rw [hiN] at hc hG4
                exact ⟨cc, F, rfl, NL9, KL9, lf9_3_v9, lf9_2_v9, fun r hr => ⟨_, c4_le rk P N r, hc r hr⟩, hF, sg_perm hG4⟩
            | succ k9 ih9 =>
              intro TL9 Lc9 hL9 i cc F sl XL9 eL9 NL9 ZL9 KL9 lf9_0_v9 lf9_1_v9 lf9_2_v9 lf9_3_v9 hk hc hF hG4 hsl prL9
              have hPi := hP i (by omega)
              have hRi := hR _ hPi
              have hC4 := c4_lt (rk := rk) (P := P) (N := N) (i := i) (by omega)
              obtain ⟨cl10, Ar10, S10, H10⟩ := id lf9_0_v9
              replace S10 : Sq cl10.slots.size _ := S10
              have hin10 : Hq (oi i) cl10.slots.size := oi_at S10 (by omega) (by omega)
              have hat10 : cl10.slots[((oi i)).toNatClampNeg]? = some (.int (oi (P i))) := ArF.at S10 H10 hin10 (congrArg (fun zz => Value.int (oi (P zz))) (oi_n (by omega)))
              obtain ⟨cl11, Ar11, S11, H11⟩ := id lf9_1_v9
              replace S11 : Sq cl11.slots.size _ := S11
              have hin11 : Hq (oi (P i)) cl11.slots.size := oi_at S11 hPi (by omega)
              have hat11 : cl11.slots[((oi (P i))).toNatClampNeg]? = some (.int (oi (rk (P i)))) := ArF.at S11 H11 hin11 (congrArg (fun zz => Value.int (oi (rk zz))) (oi_n (by omega)))
              obtain ⟨cl12, Ar12, S12, H12⟩ := id lf9_3_v9
              replace S12 : Sq cl12.slots.size _ := S12
              have hin12 : Hq (oi (rk (P i))) cl12.slots.size := oi_at S12 (by omega) (by omega)
              have hat12 : cl12.slots[((oi (rk (P i)))).toNatClampNeg]? = some (.int (oi (c4 rk P N i (rk (P i))))) := ArF.at S12 H12 hin12 (congrArg Value.int ((congrArg cc (oi_n (by omega))).trans (hc _ (by omega))))
              obtain ⟨cl13, Ar13, S13, H13⟩ := id lf9_2_v9
              replace S13 : Sq cl13.slots.size _ := S13
              have hin13 : Hq (oi (c4 rk P N i (rk (P i)))) cl13.slots.size := oi_at S13 (by omega) (by omega)
              obtain ⟨T13, h13, X13, e13, W13, st13⟩ := stI XL9 hx hZ eL9 Ar13 (j := (oi (c4 rk P N i (rk (P i))))) hin13 (g := (mkF m 117 #[.val (.ref a1), .val (.ref a2), .val (.int (oi mo)), .val (.ref a4), .val (.ref a5), .val (.ref a1), .val (.int (oi N)), .val (.int (oi i)), .val (.int (oi (P i)))] [(.int (oi (P i))), (.int (oi (c4 rk P N i (rk (P i))))), (.ref a5)])) rfl rfl (dq hby D35 75 rfl)
              have lf9_0_v13 := lf9_0_v9.other W13 n15
              have lf9_1_v13 := lf9_1_v9.other W13 n25
              have lf9_3_v13 := lf9_3_v9.other W13 (Ne.symm n54)
              have Z13 : Lq n0 h13.size := Nat.le_trans ZL9 (Nat.le_of_eq W13.size.symm)
              have K13 := KL9.wr W13 (Or.inl (by simp))
              have V13_v13 := ArF.set Ar13 S13 H13 W13 hin13
              have N13 := Fr.snoc X13 NL9 g5
              have VU14_v14 : ArF Z h13 a5 .int N (fun j => .int (oi (upN F (c4 rk P N i (rk (P i))) (P i) j))) := V13_v13.congr (fun j hj => set_upN (oi_n (by omega)) j)
              obtain ⟨cl15, Ar15, S15, H15⟩ := id lf9_1_v13
              replace S15 : Sq cl15.slots.size _ := S15
              have hin15 : Hq (oi (P i)) cl15.slots.size := oi_at S15 hPi (by omega)
              have hat15 : cl15.slots[((oi (P i))).toNatClampNeg]? = some (.int (oi (rk (P i)))) := ArF.at S15 H15 hin15 (congrArg (fun zz => Value.int (oi (rk zz))) (oi_n (by omega)))
              obtain ⟨cl16, Ar16, S16, H16⟩ := id lf9_3_v13
              replace S16 : Sq cl16.slots.size _ := S16
              have hin16 : Hq (oi (rk (P i))) cl16.slots.size := oi_at S16 (by omega) (by omega)
              have hat16 : cl16.slots[((oi (rk (P i)))).toNatClampNeg]? = some (.int (oi (c4 rk P N i (rk (P i))))) := ArF.at S16 H16 hin16 (congrArg Value.int ((congrArg cc (oi_n (by omega))).trans (hc _ (by omega))))
              obtain ⟨cl17, Ar17, S17, H17⟩ := id lf9_3_v13
              replace S17 : Sq cl17.slots.size _ := S17
              have hin17 : Hq (oi (rk (P i))) cl17.slots.size := oi_at S17 (by omega) (by omega)
              obtain ⟨T17, h17, X17, e17, W17, st17⟩ := stI X13 hx hZ e13 Ar17 (j := (oi (rk (P i)))) hin17 (g := (mkF m 127 #[.val (.ref a1), .val (.ref a2), .val (.int (oi mo)), .val (.ref a4), .val (.ref a5), .val (.ref a1), .val (.int (oi N)), .val (.int (oi i)), .val (.int (oi (P i)))] [(.int (oi ((c4 rk P N i (rk (P i))) + 1))), (.int (oi (rk (P i)))), (.ref a4)])) rfl rfl (dq hby D35 84 rfl)
              have lf9_0_v17 := lf9_0_v13.other W17 n14
              have lf9_1_v17 := lf9_1_v13.other W17 n24
              have VU14_v17 := VU14_v14.other W17 n54
              have Z17 : Lq n0 h17.size := Nat.le_trans Z13 (Nat.le_of_eq W17.size.symm)
              have K17 := K13.wr W17 (Or.inl (by simp))
              have V17_v17 := ArF.set Ar17 S17 H17 W17 hin17
              have N17 := Fr.snoc X17 N13 g4
              have pre18 : ∀ t, Steps p.tables e below (T17.setTop (mkF m 93 #[.val (.ref a1), .val (.ref a2), .val (.int (oi mo)), .val (.ref a4), .val (.ref a5), .val (.ref a1), .val (.int (oi N)), .val (.int (oi (i + 1))), .val (.int (oi (P i)))] [])) t → Steps p.tables e below (s₁.setTop (entryFrame m #[(.ref a1), (.ref a2), (.int (oi mo)), (.ref a4), (.ref a5)] 9)) t := by
                intro t k
                refine prL9 t ?_
                refine XS.iload XL9.here hx rfl (dq hby D35 61 rfl) rfl ?_
                refine XS.iload XL9.here hx rfl (dq hby D35 62 rfl) rfl ?_
                refine XS.icmpNo XL9.here hx rfl (dq hby D35 63 rfl) rfl (tlt ((by rw [oi_lt (by omega) (by omega)]; omega) : ((oi i) < (oi N)))).2.1 ?_
                refine XS.aload XL9.here hx rfl (dq hby D35 64 rfl) rfl rfl ?_
                refine XS.iload XL9.here hx rfl (dq hby D35 65 rfl) rfl ?_
                refine XL9.iaload hx (j := (oi i)) (v := (.int (oi (P i)))) (by rw [eL9]; exact Ar10.1) (State.isArrayOf_alike hZ.alike Ar10.2.1) Ar10.2.2 hin10 hat10 (g := (mkF m 104 #[.val (.ref a1), .val (.ref a2), .val (.int (oi mo)), .val (.ref a4), .val (.ref a5), .val (.ref a1), .val (.int (oi N)), .val (.int (oi i)), sl] [(.int (oi i)), (.ref a1)])) rfl rfl (dq hby D35 66 rfl) _ ?_
                refine XS.istore XL9.here hx rfl (dq hby D35 67 rfl) rfl (l' := #[.val (.ref a1), .val (.ref a2), .val (.int (oi mo)), .val (.ref a4), .val (.ref a5), .val (.ref a1), .val (.int (oi N)), .val (.int (oi i)), .val (.int (oi (P i)))]) (by rcases hsl with rfl | ⟨_, rfl⟩ <;> rfl) ?_
                refine XS.aload XL9.here hx rfl (dq hby D35 68 rfl) rfl rfl ?_
                refine XS.aloadN XL9.here hx rfl (dq hby D35 69 rfl) rfl rfl ?_
                show Steps p.tables e below (TL9.setTop (mkF m 110 #[.val (.ref a1), .val (.ref a2), .val (.int (oi mo)), .val (.ref a4), .val (.ref a5), .val (.ref a1), .val (.int (oi N)), .val (.int (oi i)), .val (.int (oi (P i)))] [(.ref a4), (.ref a5)])) _
                refine XS.aloadN XL9.here hx rfl (dq hby D35 70 rfl) rfl rfl ?_
                refine XS.iload XL9.here hx rfl (dq hby D35 71 rfl) rfl ?_
                refine XL9.iaload hx (j := (oi (P i))) (v := (.int (oi (rk (P i))))) (by rw [eL9]; exact Ar11.1) (State.isArrayOf_alike hZ.alike Ar11.2.1) Ar11.2.2 hin11 hat11 (g := (mkF m 113 #[.val (.ref a1), .val (.ref a2), .val (.int (oi mo)), .val (.ref a4), .val (.ref a5), .val (.ref a1), .val (.int (oi N)), .val (.int (oi i)), .val (.int (oi (P i)))] [(.int (oi (P i))), (.ref a2), (.ref a4), (.ref a5)])) rfl rfl (dq hby D35 72 rfl) _ ?_
                refine XL9.iaload hx (j := (oi (rk (P i)))) (v := (.int (oi (c4 rk P N i (rk (P i)))))) (by rw [eL9]; exact Ar12.1) (State.isArrayOf_alike hZ.alike Ar12.2.1) Ar12.2.2 hin12 hat12 (g := (mkF m 114 #[.val (.ref a1), .val (.ref a2), .val (.int (oi mo)), .val (.ref a4), .val (.ref a5), .val (.ref a1), .val (.int (oi N)), .val (.int (oi i)), .val (.int (oi (P i)))] [(.int (oi (rk (P i)))), (.ref a4), (.ref a5)])) rfl rfl (dq hby D35 73 rfl) _ ?_
                refine XS.iload XL9.here hx rfl (dq hby D35 74 rfl) rfl ?_
                refine st13 _ ?_
                refine XS.aloadN X13.here hx rfl (dq hby D35 76 rfl) rfl rfl ?_
                refine XS.aloadN X13.here hx rfl (dq hby D35 77 rfl) rfl rfl ?_
                refine XS.iload X13.here hx rfl (dq hby D35 78 rfl) rfl ?_
                refine X13.iaload hx (j := (oi (P i))) (v := (.int (oi (rk (P i))))) (by rw [e13]; exact Ar15.1) (State.isArrayOf_alike hZ.alike Ar15.2.1) Ar15.2.2 hin15 hat15 (g := (mkF m 122 #[.val (.ref a1), .val (.ref a2), .val (.int (oi mo)), .val (.ref a4), .val (.ref a5), .val (.ref a1), .val (.int (oi N)), .val (.int (oi i)), .val (.int (oi (P i)))] [(.int (oi (P i))), (.ref a2), (.ref a4)])) rfl rfl (dq hby D35 79 rfl) _ ?_
                refine Jvm.Free.XT.dup2 X13.here hx rfl (dq hby D35 80 rfl) rfl rfl rfl ?_
                refine X13.iaload hx (j := (oi (rk (P i)))) (v := (.int (oi (c4 rk P N i (rk (P i)))))) (by rw [e13]; exact Ar16.1) (State.isArrayOf_alike hZ.alike Ar16.2.1) Ar16.2.2 hin16 hat16 (g := (mkF m 124 #[.val (.ref a1), .val (.ref a2), .val (.int (oi mo)), .val (.ref a4), .val (.ref a5), .val (.ref a1), .val (.int (oi N)), .val (.int (oi i)), .val (.int (oi (P i)))] [(.int (oi (rk (P i)))), (.ref a4), (.int (oi (rk (P i)))), (.ref a4)])) rfl rfl (dq hby D35 81 rfl) _ ?_
                refine XS.iconst X13.here hx rfl (dq hby D35 82 rfl) ?_
                refine XS.iadd X13.here hx rfl (dq hby D35 83 rfl) rfl ?_
                show Steps p.tables e below (T13.setTop (mkF m 127 #[.val (.ref a1), .val (.ref a2), .val (.int (oi mo)), .val (.ref a4), .val (.ref a5), .val (.ref a1), .val (.int (oi N)), .val (.int (oi i)), .val (.int (oi (P i)))] [(.int ((oi (c4 rk P N i (rk (P i)))) + (1 : Int32))), (.int (oi (rk (P i)))), (.ref a4)])) _
                rw [oi_s ((c4 rk P N i (rk (P i))))]
                refine st17 _ ?_
                refine XS.iinc X17.here hx rfl (dq hby D35 85 rfl) rfl (l' := #[.val (.ref a1), .val (.ref a2), .val (.int (oi mo)), .val (.ref a4), .val (.ref a5), .val (.ref a1), .val (.int (oi N)), .val (.int ((oi i) + (1 : Int32))), .val (.int (oi (P i)))]) rfl ?_
                show Steps p.tables e below (T17.setTop (mkF m 131 #[.val (.ref a1), .val (.ref a2), .val (.int (oi mo)), .val (.ref a4), .val (.ref a5), .val (.ref a1), .val (.int (oi N)), .val (.int ((oi i) + (1 : Int32))), .val (.int (oi (P i)))] [])) _
                rw [oi_s (i)]
                refine XS.goto X17.here hx rfl (pc0 := 131) (pc' := 93) rfl (dq hby D35 86 rfl) (by decide) (by decide) ?_
                exact k
              exact ih9 _ _ _ (i + 1) _ _ _ X17 e17 N17 Z17 K17 lf9_0_v17 lf9_1_v17 VU14_v17 (V17_v17.congr (fun j hj => set_up (oi_n (by omega)) j)) (by omega) (ph4 hc) (upN_lt hF hPi) (ph4F (by omega) hG4) (Or.inr ⟨_, rfl⟩) pre18
          exact loop9 N _ _ _ 0 _ F0 _ XL6 eL6 NL6 ZL6 KL6 lf6_0_v6 lf6_1_v6 lf6_2_v6 lf6_3_v6 (by omega) hlo hF0 (fun j hj => absurd hj (Nat.not_lt_zero j)) hsl pre8
        | succ k6 ih6 =>
          intro TL6 Lc6 hL6 r cc XL6 eL6 NL6 ZL6 KL6 lf6_0_v6 lf6_1_v6 lf6_2_v6 lf6_3_v6 hr1 hkr hlo hhi prL6
          have hC2 := c2_le rk P N r
          have hC3 := c3_le rk P N (r - 1)
          obtain ⟨cl19, Ar19, S19, H19⟩ := id lf6_3_v6
          replace S19 : Sq cl19.slots.size _ := S19
          have hin19 : Hq (oi r) cl19.slots.size := oi_at S19 (by omega) (by omega)
          have hat19 : cl19.slots[((oi r)).toNatClampNeg]? = some (.int (oi (c2 rk P N r))) := ArF.at S19 H19 hin19 (congrArg Value.int ((congrArg cc (oi_n (by omega))).trans (hhi _ (by omega) (by omega))))
          obtain ⟨cl20, Ar20, S20, H20⟩ := id lf6_3_v6
          replace S20 : Sq cl20.slots.size _ := S20
          have hin20 : Hq (oi (r - 1)) cl20.slots.size := oi_at S20 (by omega) (by omega)
          have hat20 : cl20.slots[((oi (r - 1))).toNatClampNeg]? = some (.int (oi (c3 rk P N (r - 1)))) := ArF.at S20 H20 hin20 (congrArg Value.int ((congrArg cc (oi_n (by omega))).trans (hlo _ (by omega))))
          obtain ⟨cl21, Ar21, S21, H21⟩ := id lf6_3_v6
          replace S21 : Sq cl21.slots.size _ := S21
          have hin21 : Hq (oi r) cl21.slots.size := oi_at S21 (by omega) (by omega)
          obtain ⟨T21, h21, X21, e21, W21, st21⟩ := stI XL6 hx hZ eL6 Ar21 (j := (oi r)) hin21 (g := (mkF m 75 #[.val (.ref a1), .val (.ref a2), .val (.int (oi mo)), .val (.ref a4), .val (.ref a5), .val (.int (oi r)), .val (.int (oi N)), .val (.int (oi i)), sl] [(.int (oi ((c2 rk P N r) + (c3 rk P N (r - 1))))), (.int (oi r)), (.ref a4)])) rfl rfl (dq hby D35 51 rfl)
          have lf6_0_v21 := lf6_0_v6.other W21 n14
          have lf6_1_v21 := lf6_1_v6.other W21 n24
          have lf6_2_v21 := lf6_2_v6.other W21 n54
          have Z21 : Lq n0 h21.size := Nat.le_trans ZL6 (Nat.le_of_eq W21.size.symm)
          have K21 := KL6.wr W21 (Or.inl (by simp))
          have V21_v21 := ArF.set Ar21 S21 H21 W21 hin21
          have N21 := Fr.snoc X21 NL6 g4
          have pre22 : ∀ t, Steps p.tables e below (T21.setTop (mkF m 55 #[.val (.ref a1), .val (.ref a2), .val (.int (oi mo)), .val (.ref a4), .val (.ref a5), .val (.int (oi (r + 1))), .val (.int (oi N)), .val (.int (oi i)), sl] [])) t → Steps p.tables e below (s₁.setTop (entryFrame m #[(.ref a1), (.ref a2), (.int (oi mo)), (.ref a4), (.ref a5)] 9)) t := by
            intro t k
            refine prL6 t ?_
            refine XS.iload XL6.here hx rfl (dq hby D35 36 rfl) rfl ?_
            refine XS.iloadN XL6.here hx rfl (dq hby D35 37 rfl) rfl ?_
            refine XS.iconst XL6.here hx rfl (dq hby D35 38 rfl) ?_
            refine XS.iadd XL6.here hx rfl (dq hby D35 39 rfl) rfl ?_
            show Steps p.tables e below (TL6.setTop (mkF m 60 #[.val (.ref a1), .val (.ref a2), .val (.int (oi mo)), .val (.ref a4), .val (.ref a5), .val (.int (oi r)), .val (.int (oi N)), .val (.int (oi i)), sl] [(.int ((oi mo) + (2 : Int32))), (.int (oi r))])) _
            rw [oi_s2 (mo)]
            refine XS.icmpNo XL6.here hx rfl (dq hby D35 40 rfl) rfl (tlt ((by rw [oi_lt (by omega) (by omega)]; omega) : ((oi r) < (oi (mo + 2))))).2.1 ?_
            refine XS.aloadN XL6.here hx rfl (dq hby D35 41 rfl) rfl rfl ?_
            refine XS.iload XL6.here hx rfl (dq hby D35 42 rfl) rfl ?_
            refine Jvm.Free.XT.dup2 XL6.here hx rfl (dq hby D35 43 rfl) rfl rfl rfl ?_
            refine XL6.iaload hx (j := (oi r)) (v := (.int (oi (c2 rk P N r)))) (by rw [eL6]; exact Ar19.1) (State.isArrayOf_alike hZ.alike Ar19.2.1) Ar19.2.2 hin19 hat19 (g := (mkF m 67 #[.val (.ref a1), .val (.ref a2), .val (.int (oi mo)), .val (.ref a4), .val (.ref a5), .val (.int (oi r)), .val (.int (oi N)), .val (.int (oi i)), sl] [(.int (oi r)), (.ref a4), (.int (oi r)), (.ref a4)])) rfl rfl (dq hby D35 44 rfl) _ ?_
            refine XS.aloadN XL6.here hx rfl (dq hby D35 45 rfl) rfl rfl ?_
            refine XS.iload XL6.here hx rfl (dq hby D35 46 rfl) rfl ?_
            refine XS.iconst XL6.here hx rfl (dq hby D35 47 rfl) ?_
            refine XS.isub XL6.here hx rfl (dq hby D35 48 rfl) rfl ?_
            show Steps p.tables e below (TL6.setTop (mkF m 73 #[.val (.ref a1), .val (.ref a2), .val (.int (oi mo)), .val (.ref a4), .val (.ref a5), .val (.int (oi r)), .val (.int (oi N)), .val (.int (oi i)), sl] [(.int ((oi r) - (1 : Int32))), (.ref a4), (.int (oi (c2 rk P N r))), (.int (oi r)), (.ref a4)])) _
            rw [oi_p (a := r) (by omega)]
            refine XL6.iaload hx (j := (oi (r - 1))) (v := (.int (oi (c3 rk P N (r - 1))))) (by rw [eL6]; exact Ar20.1) (State.isArrayOf_alike hZ.alike Ar20.2.1) Ar20.2.2 hin20 hat20 (g := (mkF m 73 #[.val (.ref a1), .val (.ref a2), .val (.int (oi mo)), .val (.ref a4), .val (.ref a5), .val (.int (oi r)), .val (.int (oi N)), .val (.int (oi i)), sl] [(.int (oi (r - 1))), (.ref a4), (.int (oi (c2 rk P N r))), (.int (oi r)), (.ref a4)])) rfl rfl (dq hby D35 49 rfl) _ ?_
            refine XS.iadd XL6.here hx rfl (dq hby D35 50 rfl) rfl ?_
            show Steps p.tables e below (TL6.setTop (mkF m 75 #[.val (.ref a1), .val (.ref a2), .val (.int (oi mo)), .val (.ref a4), .val (.ref a5), .val (.int (oi r)), .val (.int (oi N)), .val (.int (oi i)), sl] [(.int ((oi (c2 rk P N r)) + (oi (c3 rk P N (r - 1))))), (.int (oi r)), (.ref a4)])) _
            rw [oi_add ((c2 rk P N r)) ((c3 rk P N (r - 1)))]
            refine st21 _ ?_
            refine XS.iinc X21.here hx rfl (dq hby D35 52 rfl) rfl (l' := #[.val (.ref a1), .val (.ref a2), .val (.int (oi mo)), .val (.ref a4), .val (.ref a5), .val (.int ((oi r) + (1 : Int32))), .val (.int (oi N)), .val (.int (oi i)), sl]) rfl ?_
            show Steps p.tables e below (T21.setTop (mkF m 79 #[.val (.ref a1), .val (.ref a2), .val (.int (oi mo)), .val (.ref a4), .val (.ref a5), .val (.int ((oi r) + (1 : Int32))), .val (.int (oi N)), .val (.int (oi i)), sl] [])) _
            rw [oi_s (r)]
            refine XS.goto X21.here hx rfl (pc0 := 79) (pc' := 55) rfl (dq hby D35 53 rfl) (by decide) (by decide) ?_
            exact k
          exact ih6 _ _ _ (r + 1) _ X21 e21 N21 Z21 K21 lf6_0_v21 lf6_1_v21 lf6_2_v21 (V21_v21.congr (fun j hj => set_up (oi_n (by omega)) j)) (by omega) (by omega) (ph3lo hr1 hlo) (ph3hi hhi) pre22
      exact loop6 (mo + 1) _ _ _ 1 _ XL4 eL4 NL4 ZL4 KL4 lf4_0_v4 lf4_1_v4 lf4_2_v4 lf4_3_v4 (Nat.le_refl 1) (by omega) (fun q hq => by rw [show q = 0 from by omega, hc 0 (by omega), c23_0]) (fun q _ hq => hc q hq) pre5
    | succ k4 ih4 =>
      intro TL4 Lc4 hL4 i cc sl XL4 eL4 NL4 ZL4 KL4 lf4_0_v4 lf4_1_v4 lf4_2_v4 lf4_3_v4 hk hc hsl prL4
      have hPi := hP i (by omega)
      have hRi := hR _ hPi
      have hC2 := c2_le rk P i (rk (P i) + 1)
      obtain ⟨cl23, Ar23, S23, H23⟩ := id lf4_0_v4
      replace S23 : Sq cl23.slots.size _ := S23
      have hin23 : Hq (oi i) cl23.slots.size := oi_at S23 (by omega) (by omega)
      have hat23 : cl23.slots[((oi i)).toNatClampNeg]? = some (.int (oi (P i))) := ArF.at S23 H23 hin23 (congrArg (fun zz => Value.int (oi (P zz))) (oi_n (by omega)))
      obtain ⟨cl24, Ar24, S24, H24⟩ := id lf4_1_v4
      replace S24 : Sq cl24.slots.size _ := S24
      have hin24 : Hq (oi (P i)) cl24.slots.size := oi_at S24 hPi (by omega)
      have hat24 : cl24.slots[((oi (P i))).toNatClampNeg]? = some (.int (oi (rk (P i)))) := ArF.at S24 H24 hin24 (congrArg (fun zz => Value.int (oi (rk zz))) (oi_n (by omega)))
      obtain ⟨cl25, Ar25, S25, H25⟩ := id lf4_3_v4
      replace S25 : Sq cl25.slots.size _ := S25
      have hin25 : Hq (oi ((rk (P i)) + 1)) cl25.slots.size := oi_at S25 (by omega) (by omega)
      have hat25 : cl25.slots[((oi ((rk (P i)) + 1))).toNatClampNeg]? = some (.int (oi (c2 rk P i (((rk (P i)) + 1))))) := ArF.at S25 H25 hin25 (congrArg Value.int ((congrArg cc (oi_n (by omega))).trans (hc _ (by omega))))
      obtain ⟨cl26, Ar26, S26, H26⟩ := id lf4_3_v4
      replace S26 : Sq cl26.slots.size _ := S26
      have hin26 : Hq (oi ((rk (P i)) + 1)) cl26.slots.size := oi_at S26 (by omega) (by omega)
      obtain ⟨T26, h26, X26, e26, W26, st26⟩ := stI XL4 hx hZ eL4 Ar26 (j := (oi ((rk (P i)) + 1))) hin26 (g := (mkF m 45 #[.val (.ref a1), .val (.ref a2), .val (.int (oi mo)), .val (.ref a4), .val (.ref a5), .val (.ref a1), .val (.int (oi N)), .val (.int (oi i)), .val (.int (oi (P i)))] [(.int (oi ((c2 rk P i (((rk (P i)) + 1))) + 1))), (.int (oi ((rk (P i)) + 1))), (.ref a4)])) rfl rfl (dq hby D35 31 rfl)
      have lf4_0_v26 := lf4_0_v4.other W26 n14
      have lf4_1_v26 := lf4_1_v4.other W26 n24
      have lf4_2_v26 := lf4_2_v4.other W26 n54
      have Z26 : Lq n0 h26.size := Nat.le_trans ZL4 (Nat.le_of_eq W26.size.symm)
      have K26 := KL4.wr W26 (Or.inl (by simp))
      have V26_v26 := ArF.set Ar26 S26 H26 W26 hin26
      have N26 := Fr.snoc X26 NL4 g4
      have pre27 : ∀ t, Steps p.tables e below (T26.setTop (mkF m 20 #[.val (.ref a1), .val (.ref a2), .val (.int (oi mo)), .val (.ref a4), .val (.ref a5), .val (.ref a1), .val (.int (oi N)), .val (.int (oi (i + 1))), .val (.int (oi (P i)))] [])) t → Steps p.tables e below (s₁.setTop (entryFrame m #[(.ref a1), (.ref a2), (.int (oi mo)), (.ref a4), (.ref a5)] 9)) t := by
        intro t k
        refine prL4 t ?_
        refine XS.iload XL4.here hx rfl (dq hby D35 14 rfl) rfl ?_
        refine XS.iload XL4.here hx rfl (dq hby D35 15 rfl) rfl ?_
        refine XS.icmpNo XL4.here hx rfl (dq hby D35 16 rfl) rfl (tlt ((by rw [oi_lt (by omega) (by omega)]; omega) : ((oi i) < (oi N)))).2.1 ?_
        refine XS.aload XL4.here hx rfl (dq hby D35 17 rfl) rfl rfl ?_
        refine XS.iload XL4.here hx rfl (dq hby D35 18 rfl) rfl ?_
        refine XL4.iaload hx (j := (oi i)) (v := (.int (oi (P i)))) (by rw [eL4]; exact Ar23.1) (State.isArrayOf_alike hZ.alike Ar23.2.1) Ar23.2.2 hin23 hat23 (g := (mkF m 31 #[.val (.ref a1), .val (.ref a2), .val (.int (oi mo)), .val (.ref a4), .val (.ref a5), .val (.ref a1), .val (.int (oi N)), .val (.int (oi i)), sl] [(.int (oi i)), (.ref a1)])) rfl rfl (dq hby D35 19 rfl) _ ?_
        refine XS.istore XL4.here hx rfl (dq hby D35 20 rfl) rfl (l' := #[.val (.ref a1), .val (.ref a2), .val (.int (oi mo)), .val (.ref a4), .val (.ref a5), .val (.ref a1), .val (.int (oi N)), .val (.int (oi i)), .val (.int (oi (P i)))]) (by rcases hsl with rfl | ⟨_, rfl⟩ <;> rfl) ?_
        refine XS.aloadN XL4.here hx rfl (dq hby D35 21 rfl) rfl rfl ?_
        refine XS.aloadN XL4.here hx rfl (dq hby D35 22 rfl) rfl rfl ?_
        refine XS.iload XL4.here hx rfl (dq hby D35 23 rfl) rfl ?_
        refine XL4.iaload hx (j := (oi (P i))) (v := (.int (oi (rk (P i))))) (by rw [eL4]; exact Ar24.1) (State.isArrayOf_alike hZ.alike Ar24.2.1) Ar24.2.2 hin24 hat24 (g := (mkF m 38 #[.val (.ref a1), .val (.ref a2), .val (.int (oi mo)), .val (.ref a4), .val (.ref a5), .val (.ref a1), .val (.int (oi N)), .val (.int (oi i)), .val (.int (oi (P i)))] [(.int (oi (P i))), (.ref a2), (.ref a4)])) rfl rfl (dq hby D35 24 rfl) _ ?_
        refine XS.iconst XL4.here hx rfl (dq hby D35 25 rfl) ?_
        refine XS.iadd XL4.here hx rfl (dq hby D35 26 rfl) rfl ?_
        show Steps p.tables e below (TL4.setTop (mkF m 41 #[.val (.ref a1), .val (.ref a2), .val (.int (oi mo)), .val (.ref a4), .val (.ref a5), .val (.ref a1), .val (.int (oi N)), .val (.int (oi i)), .val (.int (oi (P i)))] [(.int ((oi (rk (P i))) + (1 : Int32))), (.ref a4)])) _
        rw [oi_s ((rk (P i)))]
        refine Jvm.Free.XT.dup2 XL4.here hx rfl (dq hby D35 27 rfl) rfl rfl rfl ?_
        refine XL4.iaload hx (j := (oi ((rk (P i)) + 1))) (v := (.int (oi (c2 rk P i (((rk (P i)) + 1)))))) (by rw [eL4]; exact Ar25.1) (State.isArrayOf_alike hZ.alike Ar25.2.1) Ar25.2.2 hin25 hat25 (g := (mkF m 42 #[.val (.ref a1), .val (.ref a2), .val (.int (oi mo)), .val (.ref a4), .val (.ref a5), .val (.ref a1), .val (.int (oi N)), .val (.int (oi i)), .val (.int (oi (P i)))] [(.int (oi ((rk (P i)) + 1))), (.ref a4), (.int (oi ((rk (P i)) + 1))), (.ref a4)])) rfl rfl (dq hby D35 28 rfl) _ ?_
        refine XS.iconst XL4.here hx rfl (dq hby D35 29 rfl) ?_
        refine XS.iadd XL4.here hx rfl (dq hby D35 30 rfl) rfl ?_
        show Steps p.tables e below (TL4.setTop (mkF m 45 #[.val (.ref a1), .val (.ref a2), .val (.int (oi mo)), .val (.ref a4), .val (.ref a5), .val (.ref a1), .val (.int (oi N)), .val (.int (oi i)), .val (.int (oi (P i)))] [(.int ((oi (c2 rk P i (((rk (P i)) + 1)))) + (1 : Int32))), (.int (oi ((rk (P i)) + 1))), (.ref a4)])) _
        rw [oi_s ((c2 rk P i (((rk (P i)) + 1))))]
        refine st26 _ ?_
        refine XS.iinc X26.here hx rfl (dq hby D35 32 rfl) rfl (l' := #[.val (.ref a1), .val (.ref a2), .val (.int (oi mo)), .val (.ref a4), .val (.ref a5), .val (.ref a1), .val (.int (oi N)), .val (.int ((oi i) + (1 : Int32))), .val (.int (oi (P i)))]) rfl ?_
        show Steps p.tables e below (T26.setTop (mkF m 49 #[.val (.ref a1), .val (.ref a2), .val (.int (oi mo)), .val (.ref a4), .val (.ref a5), .val (.ref a1), .val (.int (oi N)), .val (.int ((oi i) + (1 : Int32))), .val (.int (oi (P i)))] [])) _
        rw [oi_s (i)]
        refine XS.goto X26.here hx rfl (pc0 := 49) (pc' := 20) rfl (dq hby D35 33 rfl) (by decide) (by decide) ?_
        exact k
      exact ih4 _ _ _ (i + 1) _ _ X26 e26 N26 Z26 K26 lf4_0_v26 lf4_1_v26 lf4_2_v26 (V26_v26.congr (fun j hj => set_up (oi_n (by omega)) j)) (by omega) (ph2 hc) (Or.inr ⟨_, rfl⟩) pre27
  exact loop4 N _ _ _ 0 _ .unset X1 rfl N1 Z1 KK1 V1_v1 V2_v1 V5_v1 nf1_0_v1 (by omega) (fun r hr => ph1 rk P _ _ r hr) (Or.inl rfl) pre3
theorem D15 : ∀ x ∈ ([(0, .iload_n 0, 1), (1, .iload_n 1, 1), (2, .if_icmp .lt 7, 3), (5, .iload_n 0, 1), (6, .goto 4, 3), (9, .iload_n 1, 1), (10, .ireturn, 1)] : List (Nat × Instr × Nat)), decode jdk_29_method_65_code x.1 = .ok x.2 := by decide +kernel
theorem ef_rmax (m : MethodId) (x0 : Int32) (x1 : Int32) : entryFrame m #[(.int x0), (.int x1)] 2 = mkF m 0 #[.val (.int x0), .val (.int x1)] [] := by first | (simp [entryFrame, mkF, argsToLocals, Value.category]; done) | rfl
def Q_rmax (Z : State)  (u r : Nat) (h0 : Heap) (n0 : Nat) (v : Option Value) (h : Heap) (L : List Loc) : Prop := v = some (.int (oi (omx u r))) ∧ Fr n0 L ∧ h = h0
set_option maxRecDepth 65536 in
set_option maxHeartbeats 40000000 in
theorem rmax (l : Launch) (Z : State) (a0 : Array Value) (hw : ∀ d ∈ tables_1, d.before a0 Z = true) (ws : List Jvm.Cond)  (u r : Nat) (h0 : Heap) (n0 : Nat) (Z0 : n0 ≤ h0.size) (hu : u < 2147483648) (hr : r < 2147483648) :
    MetFree l (⟨"java/lang/Math", "max", "(II)I"⟩ : MethodName) (head1 (Jvm.Cond.code (⟨"java/lang/Math", "max", "(II)I"⟩ : MethodName) jdk_29_method_65_code 2 (some .int) :: ws) ({ frames := 0, cells := 0, slots := 0, locals := 0 } : Room)) (fun a U => a = #[(.int (oi u)), (.int (oi r))] ∧ Z.Warmed39 U.vm ∧ U.heap = h0) (fun _ _ _ _ _ => True) (fun _ U o U' => ∃ v L, o = .returned v ∧ Q_rmax Z  u r h0 n0 v U'.heap L ∧ FrameEnd U o U' L ({ frames := 0, cells := 0, slots := 0, locals := 0 } : Room).cells ({ frames := 0, cells := 0, slots := 0, locals := 0 } : Room).slots) := by
  refine MetFree.of_bodySF (Jvm.Free.JP.mathPlain rfl (by decide +kernel)) hisR ?_
  intro p e s m args below meth c s₁ Bd hml0 hP hK
  obtain ⟨rfl, hZ, hh⟩ := hP
  have hx := Bd.exec
  have hby := Bd.bytes
  have hml : c.maxLocals = 2 := hml0
  have hown : s.vm.findClass "java/lang/Math" = some m.cls := findClass_of_methodNamed Bd.named
  have hnm := (name_of_methodNamed Bd.named Bd.method).1
  have X0 : Stand p l e ({ frames := 0, cells := 0, slots := 0, locals := 0 } : Room) s m #[(.int (oi u)), (.int (oi r))] below meth c s₁ [] 0 0 := Stand.of_body Bd
  have e0 : s₁.heap = h0 := by rw [← hh, Bd.state]; rfl
  have N0 := Fr.nil n0
  have pre0 : ∀ t, Steps p.tables e below (s₁.setTop (mkF m 0 #[.val (.int (oi u)), .val (.int (oi r))] [])) t → Steps p.tables e below (s₁.setTop (entryFrame m #[(.int (oi u)), (.int (oi r))] 2)) t := fun t k => castTop (ef_rmax m (oi u) (oi r)) k
  have pre1 : ∀ t, Steps p.tables e below (s₁.setTop (mkF m 2 #[.val (.int (oi u)), .val (.int (oi r))] [(.int (oi r)), (.int (oi u))])) t → Steps p.tables e below (s₁.setTop (entryFrame m #[(.int (oi u)), (.int (oi r))] 2)) t := by
    intro t k
    refine pre0 t ?_
    refine XS.iloadN X0.here hx rfl (dq hby D15 0 rfl) rfl ?_
    refine XS.iloadN X0.here hx rfl (dq hby D15 1 rfl) rfl ?_
    exact k
  by_cases hc2_2 : (oi u) < (oi r)
  · obtain ⟨fs, hr, hrun, hended, hW, hsame⟩ := X0.leave (v := some (.int (oi r))) (fun h => by rw [Bd.returns] at h; cases h)
    refine ⟨_, _, pre1 _ ?_, hrun, hended, _, _, rfl, ?_, ⟨_, rfl⟩, hW, hsame.mono (by decide) (by decide)⟩
    · show Steps p.tables e below (s₁.setTop (mkF m 2 #[.val (.int (oi u)), .val (.int (oi r))] [(.int (oi r)), (.int (oi u))])) _
      refine XS.icmpYes X0.here hx rfl (pc0 := 2) (pc' := 9) rfl (dq hby D15 2 rfl) rfl (tlt hc2_2).1 (by decide) (by decide) ?_
      refine XS.iloadN X0.here hx rfl (dq hby D15 5 rfl) rfl ?_
      exact retI X0 hx Bd.returns (dq hby D15 6 rfl) hr
    · show Q_rmax Z  u r h0 n0 _ s₁.heap _
      rw [e0]
      exact ⟨by rw [omx, if_pos ((oi_lt (by omega) (by omega)).mp hc2_2)], N0, rfl⟩
  · obtain ⟨fs, hr, hrun, hended, hW, hsame⟩ := X0.leave (v := some (.int (oi u))) (fun h => by rw [Bd.returns] at h; cases h)
    refine ⟨_, _, pre1 _ ?_, hrun, hended, _, _, rfl, ?_, ⟨_, rfl⟩, hW, hsame.mono (by decide) (by decide)⟩
    · show Steps p.tables e below (s₁.setTop (mkF m 2 #[.val (.int (oi u)), .val (.int (oi r))] [(.int (oi r)), (.int (oi u))])) _
      refine XS.icmpNo X0.here hx rfl (dq hby D15 2 rfl) rfl (flt hc2_2).1 ?_
      refine XS.iloadN X0.here hx rfl (dq hby D15 3 rfl) rfl ?_
      refine XS.goto X0.here hx rfl (pc0 := 6) (pc' := 10) rfl (dq hby D15 4 rfl) (by decide) (by decide) ?_
      exact retI X0 hx Bd.returns (dq hby D15 6 rfl) hr
    · show Q_rmax Z  u r h0 n0 _ s₁.heap _
      rw [e0]
      exact ⟨by rw [omx, if_neg (fun q => hc2_2 ((oi_lt (by omega) (by omega)).mpr q))], N0, rfl⟩
theorem D38 : ∀ x ∈ ([(0, .iconst 1, 1), (1, .istore 4, 2), (3, .iload 4, 2), (5, .aload_n 0, 1), (6, .arraylength, 1), (7, .if_icmp .ge 58, 3), (10, .aload_n 0, 1), (11, .iload 4, 2), (13, .iaload, 1), (14, .istore 5, 2), (16, .aload_n 0, 1), (17, .iload 4, 2), (19, .iconst 1, 1), (20, .isub, 1), (21, .iaload, 1), (22, .istore 6, 2), (24, .aload_n 1, 1), (25, .iload 5, 2), (27, .iaload, 1), (28, .aload_n 1, 1), (29, .iload 6, 2), (31, .iaload, 1), (32, .if_icmp .ne 27, 3), (35, .iload 5, 2), (37, .iload_n 3, 1), (38, .iadd, 1), (39, .aload_n 2, 1), (40, .iload 5, 2), (42, .iaload, 1), (43, .if_icmp .lt 14, 3), (46, .iload 6, 2), (48, .iload_n 3, 1), (49, .iadd, 1), (50, .aload_n 2, 1), (51, .iload 6, 2), (53, .iaload, 1), (54, .if_icmp .ge 5, 3), (57, .iconst 0, 1), (58, .ireturn, 1), (59, .iinc 4 1, 3), (62, .goto (-59), 3), (65, .iconst 1, 1), (66, .ireturn, 1)] : List (Nat × Instr × Nat)), decode prog_11_method_12_code x.1 = .ok x.2 := by decide +kernel
theorem pn_risw : plainName "com/example/even_roster/evenroster/scim/SortedSuffixes" = true := by first | (simp [plainName, overriddenIn]; done) | decide +kernel
theorem ef_risw (m : MethodId) (x0 : Addr) (x1 : Addr) (x2 : Addr) (x3 : Int32) : entryFrame m #[(.ref x0), (.ref x1), (.ref x2), (.int x3)] 7 = mkF m 0 #[.val (.ref x0), .val (.ref x1), .val (.ref x2), .val (.int x3), .unset, .unset, .unset] [] := by first | (simp [entryFrame, mkF, argsToLocals, Value.category]; done) | rfl
def Q_risw (Z : State) (a1 : Addr) (a2 : Addr) (a3 : Addr) (p4 : Int32) (N : Nat) (F : Nat → Nat) (g2 g3 : Nat → Int32) (h0 : Heap) (n0 : Nat) (v : Option Value) (h : Heap) (L : List Loc) : Prop := ∃ y : Int32, v = some (.int y) ∧ Fr n0 L ∧ h = h0 ∧ (y = 0 ∨ y = 1)
set_option maxRecDepth 65536 in
set_option maxHeartbeats 40000000 in
theorem risw (l : Launch) (Z : State) (a0 : Array Value) (hw : ∀ d ∈ tables_1, d.before a0 Z = true) (ws : List Jvm.Cond) (a1 : Addr) (a2 : Addr) (a3 : Addr) (p4 : Int32) (N : Nat) (F : Nat → Nat) (g2 g3 : Nat → Int32) (h0 : Heap) (n0 : Nat) (Z0 : n0 ≤ h0.size) (V1 : ArF Z h0 a1 .int N (fun j => .int (oi (F j)))) (V2 : ArF Z h0 a2 .int N (fun j => .int (g2 j))) (V3 : ArF Z h0 a3 .int N (fun j => .int (g3 j))) (hF : ∀ j, j < N → F j < N) (h1 : 1 ≤ N) (hN : N < 2147483648) :
    MetFree l (⟨"com/example/even_roster/evenroster/scim/SortedSuffixes", "isSortedWhole", "([I[I[II)Z"⟩ : MethodName) (head1 (Jvm.Cond.code (⟨"com/example/even_roster/evenroster/scim/SortedSuffixes", "isSortedWhole", "([I[I[II)Z"⟩ : MethodName) prog_11_method_12_code 7 (some .boolean) :: ws) ({ frames := 0, cells := 0, slots := 0, locals := 0 } : Room)) (fun a U => a = #[(.ref a1), (.ref a2), (.ref a3), (.int p4)] ∧ Z.Warmed39 U.vm ∧ U.heap = h0) (fun _ _ _ _ _ => True) (fun _ U o U' => ∃ v L, o = .returned v ∧ Q_risw Z a1 a2 a3 p4 N F g2 g3 h0 n0 v U'.heap L ∧ FrameEnd U o U' L ({ frames := 0, cells := 0, slots := 0, locals := 0 } : Room).cells ({ frames := 0, cells := 0, slots := 0, locals := 0 } : Room).slots) := by
  refine MetFree.of_bodySF (plainFor_of_name pn_risw) hisR ?_
  intro p e s m args below meth c s₁ Bd hml0 hP hK
  obtain ⟨rfl, hZ, hh⟩ := hP
  have hx := Bd.exec
  have hby := Bd.bytes
  have hml : c.maxLocals = 7 := hml0
  have hown : s.vm.findClass "com/example/even_roster/evenroster/scim/SortedSuffixes" = some m.cls := findClass_of_methodNamed Bd.named
  have hnm := (name_of_methodNamed Bd.named Bd.method).1
  have X0 : Stand p l e ({ frames := 0, cells := 0, slots := 0, locals := 0 } : Room) s m #[(.ref a1), (.ref a2), (.ref a3), (.int p4)] below meth c s₁ [] 0 0 := Stand.of_body Bd
  have e0 : s₁.heap = h0 := by rw [← hh, Bd.state]; rfl
  have N0 := Fr.nil n0
  have pre0 : ∀ t, Steps p.tables e below (s₁.setTop (mkF m 0 #[.val (.ref a1), .val (.ref a2), .val (.ref a3), .val (.int p4), .unset, .unset, .unset] [])) t → Steps p.tables e below (s₁.setTop (entryFrame m #[(.ref a1), (.ref a2), (.ref a3), (.int p4)] 7)) t := fun t k => castTop (ef_risw m a1 a2 a3 p4) k
  refine own_cps fun G hG => ?_
  have pre1 : ∀ t, Steps p.tables e below (s₁.setTop (mkF m 3 #[.val (.ref a1), .val (.ref a2), .val (.ref a3), .val (.int p4), .val (.int (1 : Int32)), .unset, .unset] [])) t → Steps p.tables e below (s₁.setTop (entryFrame m #[(.ref a1), (.ref a2), (.ref a3), (.int p4)] 7)) t := by
    intro t k
    refine pre0 t ?_
    refine XS.iconst X0.here hx rfl (dq hby D38 0 rfl) ?_
    refine XS.istore X0.here hx rfl (dq hby D38 1 rfl) rfl (l' := #[.val (.ref a1), .val (.ref a2), .val (.ref a3), .val (.int p4), .val (.int (1 : Int32)), .unset, .unset]) rfl ?_
    exact k
  have loop2 : ∀ (k2 : Nat) (TL2 : State) (Lc2 : List Loc) (hL2 : Heap) (i : Nat) (s5 : Slot) (s6 : Slot), Stand p l e ({ frames := 0, cells := 0, slots := 0, locals := 0 } : Room) s m #[(.ref a1), (.ref a2), (.ref a3), (.int p4)] below meth c TL2 Lc2 0 0 → TL2.heap = hL2 → Fr n0 Lc2 → Lq n0 hL2.size → ArF Z hL2 a1 .int N (fun j => .int (oi (F j))) → ArF Z hL2 a2 .int N (fun j => .int (g2 j)) → ArF Z hL2 a3 .int N (fun j => .int (g3 j)) → 1 ≤ i → i + k2 = N → hL2 = h0 → (s5 = .unset ∨ ∃ z, s5 = .val (.int z)) → (s6 = .unset ∨ ∃ z, s6 = .val (.int z)) → (∀ t, Steps p.tables e below (TL2.setTop (mkF m 3 #[.val (.ref a1), .val (.ref a2), .val (.ref a3), .val (.int p4), .val (.int (oi i)), s5, s6] [])) t → Steps p.tables e below (s₁.setTop (entryFrame m #[(.ref a1), (.ref a2), (.ref a3), (.int p4)] 7)) t) → G := by
    intro k2
    induction k2 with
    | zero =>
      intro TL2 Lc2 hL2 i s5 s6 XL2 eL2 NL2 ZL2 lf2_0_v2 lf2_1_v2 lf2_2_v2 hi hk heq0 hs5 hs6 prL2
      obtain ⟨cl3, Ar3, S3, H3⟩ := id lf2_0_v2
      replace S3 : Sq cl3.slots.size _ := S3
      refine hG ?_
      obtain ⟨fs, hr, hrun, hended, hW, hsame⟩ := XL2.leave (v := some (.int (1 : Int32))) (fun h => by rw [Bd.returns] at h; cases h)
      refine ⟨_, _, prL2 _ ?_, hrun, hended, _, _, rfl, ?_, ⟨_, rfl⟩, hW, hsame.mono (by decide) (by decide)⟩
      · show Steps p.tables e below (TL2.setTop (mkF m 3 #[.val (.ref a1), .val (.ref a2), .val (.ref a3), .val (.int p4), .val (.int (oi i)), s5, s6] [])) _
        refine XS.iload XL2.here hx rfl (dq hby D38 2 rfl) rfl ?_
        refine XS.aloadN XL2.here hx rfl (dq hby D38 3 rfl) rfl rfl ?_
        refine XL2.arraylength hx (by rw [eL2]; exact Ar3.1) (State.isArrayOf_alike hZ.alike Ar3.2.1) (g := (mkF m 6 #[.val (.ref a1), .val (.ref a2), .val (.ref a3), .val (.int p4), .val (.int (oi i)), s5, s6] [(.ref a1), (.int (oi i))])) rfl rfl (dq hby D38 4 rfl) _ ?_
        rw [show cl3.slots.size.toInt32 = (oi N) from (congrArg Nat.toInt32 S3).trans rfl]
        refine XS.icmpYes XL2.here hx rfl (pc0 := 7) (pc' := 65) rfl (dq hby D38 5 rfl) rfl (flt ((by rw [oi_lt (by omega) (by omega)]; omega) : ¬ ((oi i) < (oi N)))).2.1 (by decide) (by decide) ?_
        refine XS.iconst XL2.here hx rfl (dq hby D38 41 rfl) ?_
        exact retN XL2 hx (t := .boolean) Bd.returns (by simp) (dq hby D38 42 rfl) hr
      · show Q_risw Z a1 a2 a3 p4 N F g2 g3 h0 n0 _ TL2.heap _
        rw [eL2]
        exact ⟨_, rfl, NL2, heq0, Or.inr rfl⟩
    | succ k2 ih2 =>
      intro TL2 Lc2 hL2 i s5 s6 XL2 eL2 NL2 ZL2 lf2_0_v2 lf2_1_v2 lf2_2_v2 hi hk heq0 hs5 hs6 prL2
      have hF1 := hF i (by omega)
      have hF2 := hF (i - 1) (by omega)
      obtain ⟨cl4, Ar4, S4, H4⟩ := id lf2_0_v2
      replace S4 : Sq cl4.slots.size _ := S4
      obtain ⟨cl5, Ar5, S5, H5⟩ := id lf2_0_v2
      replace S5 : Sq cl5.slots.size _ := S5
      have hin5 : Hq (oi i) cl5.slots.size := oi_at S5 (by omega) (by omega)
      have hat5 : cl5.slots[((oi i)).toNatClampNeg]? = some (.int (oi (F i))) := ArF.at S5 H5 hin5 (congrArg (fun zz => Value.int (oi (F zz))) (oi_n (by omega)))
      obtain ⟨cl6, Ar6, S6, H6⟩ := id lf2_0_v2
      replace S6 : Sq cl6.slots.size _ := S6
      have hin6 : Hq (oi (i - 1)) cl6.slots.size := oi_at S6 (by omega) (by omega)
      have hat6 : cl6.slots[((oi (i - 1))).toNatClampNeg]? = some (.int (oi (F ((i - 1))))) := ArF.at S6 H6 hin6 (congrArg (fun zz => Value.int (oi (F zz))) (oi_n (by omega)))
      obtain ⟨cl7, Ar7, S7, H7⟩ := id lf2_1_v2
      replace S7 : Sq cl7.slots.size _ := S7
      have hin7 : Hq (oi (F i)) cl7.slots.size := oi_at S7 (by first | exact hF1 | exact hF2) (by omega)
      have hat7 : cl7.slots[((oi (F i))).toNatClampNeg]? = some (.int (g2 ((F i)))) := ArF.at S7 H7 hin7 (congrArg (fun zz => Value.int (g2 zz)) (oi_n (by omega)))
      obtain ⟨cl8, Ar8, S8, H8⟩ := id lf2_1_v2
      replace S8 : Sq cl8.slots.size _ := S8
      have hin8 : Hq (oi (F ((i - 1)))) cl8.slots.size := oi_at S8 (by first | exact hF1 | exact hF2) (by omega)
      have hat8 : cl8.slots[((oi (F ((i - 1))))).toNatClampNeg]? = some (.int (g2 ((F ((i - 1)))))) := ArF.at S8 H8 hin8 (congrArg (fun zz => Value.int (g2 zz)) (oi_n (by omega)))
      have pre9 : ∀ t, Steps p.tables e below (TL2.setTop (mkF m 32 #[.val (.ref a1), .val (.ref a2), .val (.ref a3), .val (.int p4), .val (.int (oi i)), .val (.int (oi (F i))), .val (.int (oi (F ((i - 1)))))] [(.int (g2 ((F ((i - 1)))))), (.int (g2 ((F i))))])) t → Steps p.tables e below (s₁.setTop (entryFrame m #[(.ref a1), (.ref a2), (.ref a3), (.int p4)] 7)) t := by
        intro t k
        refine prL2 t ?_
        refine XS.iload XL2.here hx rfl (dq hby D38 2 rfl) rfl ?_
        refine XS.aloadN XL2.here hx rfl (dq hby D38 3 rfl) rfl rfl ?_
        refine XL2.arraylength hx (by rw [eL2]; exact Ar4.1) (State.isArrayOf_alike hZ.alike Ar4.2.1) (g := (mkF m 6 #[.val (.ref a1), .val (.ref a2), .val (.ref a3), .val (.int p4), .val (.int (oi i)), s5, s6] [(.ref a1), (.int (oi i))])) rfl rfl (dq hby D38 4 rfl) _ ?_
        rw [show cl4.slots.size.toInt32 = (oi N) from (congrArg Nat.toInt32 S4).trans rfl]
        refine XS.icmpNo XL2.here hx rfl (dq hby D38 5 rfl) rfl (tlt ((by rw [oi_lt (by omega) (by omega)]; omega) : ((oi i) < (oi N)))).2.1 ?_
        refine XS.aloadN XL2.here hx rfl (dq hby D38 6 rfl) rfl rfl ?_
        show Steps p.tables e below (TL2.setTop (mkF m 11 #[.val (.ref a1), .val (.ref a2), .val (.ref a3), .val (.int p4), .val (.int (oi i)), s5, s6] [(.ref a1)])) _
        refine XS.iload XL2.here hx rfl (dq hby D38 7 rfl) rfl ?_
        refine XL2.iaload hx (j := (oi i)) (v := (.int (oi (F i)))) (by rw [eL2]; exact Ar5.1) (State.isArrayOf_alike hZ.alike Ar5.2.1) Ar5.2.2 hin5 hat5 (g := (mkF m 13 #[.val (.ref a1), .val (.ref a2), .val (.ref a3), .val (.int p4), .val (.int (oi i)), s5, s6] [(.int (oi i)), (.ref a1)])) rfl rfl (dq hby D38 8 rfl) _ ?_
        refine XS.istore XL2.here hx rfl (dq hby D38 9 rfl) rfl (l' := #[.val (.ref a1), .val (.ref a2), .val (.ref a3), .val (.int p4), .val (.int (oi i)), .val (.int (oi (F i))), s6]) (by rcases hs5 with rfl | ⟨_, rfl⟩ <;> rfl) ?_
        refine XS.aloadN XL2.here hx rfl (dq hby D38 10 rfl) rfl rfl ?_
        refine XS.iload XL2.here hx rfl (dq hby D38 11 rfl) rfl ?_
        refine XS.iconst XL2.here hx rfl (dq hby D38 12 rfl) ?_
        refine XS.isub XL2.here hx rfl (dq hby D38 13 rfl) rfl ?_
        show Steps p.tables e below (TL2.setTop (mkF m 21 #[.val (.ref a1), .val (.ref a2), .val (.ref a3), .val (.int p4), .val (.int (oi i)), .val (.int (oi (F i))), s6] [(.int ((oi i) - (1 : Int32))), (.ref a1)])) _
        rw [oi_p (a := i) (by omega)]
        refine XL2.iaload hx (j := (oi (i - 1))) (v := (.int (oi (F ((i - 1)))))) (by rw [eL2]; exact Ar6.1) (State.isArrayOf_alike hZ.alike Ar6.2.1) Ar6.2.2 hin6 hat6 (g := (mkF m 21 #[.val (.ref a1), .val (.ref a2), .val (.ref a3), .val (.int p4), .val (.int (oi i)), .val (.int (oi (F i))), s6] [(.int (oi (i - 1))), (.ref a1)])) rfl rfl (dq hby D38 14 rfl) _ ?_
        refine XS.istore XL2.here hx rfl (dq hby D38 15 rfl) rfl (l' := #[.val (.ref a1), .val (.ref a2), .val (.ref a3), .val (.int p4), .val (.int (oi i)), .val (.int (oi (F i))), .val (.int (oi (F ((i - 1)))))]) (by rcases hs6 with rfl | ⟨_, rfl⟩ <;> rfl) ?_
        refine XS.aloadN XL2.here hx rfl (dq hby D38 16 rfl) rfl rfl ?_
        refine XS.iload XL2.here hx rfl (dq hby D38 17 rfl) rfl ?_
        refine XL2.iaload hx (j := (oi (F i))) (v := (.int (g2 ((F i))))) (by rw [eL2]; exact Ar7.1) (State.isArrayOf_alike hZ.alike Ar7.2.1) Ar7.2.2 hin7 hat7 (g := (mkF m 27 #[.val (.ref a1), .val (.ref a2), .val (.ref a3), .val (.int p4), .val (.int (oi i)), .val (.int (oi (F i))), .val (.int (oi (F ((i - 1)))))] [(.int (oi (F i))), (.ref a2)])) rfl rfl (dq hby D38 18 rfl) _ ?_
        refine XS.aloadN XL2.here hx rfl (dq hby D38 19 rfl) rfl rfl ?_
        refine XS.iload XL2.here hx rfl (dq hby D38 20 rfl) rfl ?_
        refine XL2.iaload hx (j := (oi (F ((i - 1))))) (v := (.int (g2 ((F ((i - 1))))))) (by rw [eL2]; exact Ar8.1) (State.isArrayOf_alike hZ.alike Ar8.2.1) Ar8.2.2 hin8 hat8 (g := (mkF m 31 #[.val (.ref a1), .val (.ref a2), .val (.ref a3), .val (.int p4), .val (.int (oi i)), .val (.int (oi (F i))), .val (.int (oi (F ((i - 1)))))] [(.int (oi (F ((i - 1))))), (.ref a2), (.int (g2 ((F i))))])) rfl rfl (dq hby D38 21 rfl) _ ?_
        exact k
      by_cases hc32_10 : (g2 ((F i))) = (g2 ((F ((i - 1)))))
      · obtain ⟨cl11, Ar11, S11, H11⟩ := id lf2_2_v2
        replace S11 : Sq cl11.slots.size _ := S11
        have hin11 : Hq (oi (F i)) cl11.slots.size := oi_at S11 (by first | exact hF1 | exact hF2) (by omega)
        have hat11 : cl11.slots[((oi (F i))).toNatClampNeg]? = some (.int (g3 ((F i)))) := ArF.at S11 H11 hin11 (congrArg (fun zz => Value.int (g3 zz)) (oi_n (by omega)))
        have pre12 : ∀ t, Steps p.tables e below (TL2.setTop (mkF m 43 #[.val (.ref a1), .val (.ref a2), .val (.ref a3), .val (.int p4), .val (.int (oi i)), .val (.int (oi (F i))), .val (.int (oi (F ((i - 1)))))] [(.int (g3 ((F i)))), (.int ((oi (F i)) + p4))])) t → Steps p.tables e below (s₁.setTop (entryFrame m #[(.ref a1), (.ref a2), (.ref a3), (.int p4)] 7)) t := by
          intro t k
          refine pre9 t ?_
          refine XS.icmpNo XL2.here hx rfl (dq hby D38 22 rfl) rfl (teq hc32_10).2 ?_
          refine XS.iload XL2.here hx rfl (dq hby D38 23 rfl) rfl ?_
          refine XS.iloadN XL2.here hx rfl (dq hby D38 24 rfl) rfl ?_
          refine XS.iadd XL2.here hx rfl (dq hby D38 25 rfl) rfl ?_
          refine XS.aloadN XL2.here hx rfl (dq hby D38 26 rfl) rfl rfl ?_
          refine XS.iload XL2.here hx rfl (dq hby D38 27 rfl) rfl ?_
          refine XL2.iaload hx (j := (oi (F i))) (v := (.int (g3 ((F i))))) (by rw [eL2]; exact Ar11.1) (State.isArrayOf_alike hZ.alike Ar11.2.1) Ar11.2.2 hin11 hat11 (g := (mkF m 42 #[.val (.ref a1), .val (.ref a2), .val (.ref a3), .val (.int p4), .val (.int (oi i)), .val (.int (oi (F i))), .val (.int (oi (F ((i - 1)))))] [(.int (oi (F i))), (.ref a3), (.int ((oi (F i)) + p4))])) rfl rfl (dq hby D38 28 rfl) _ ?_
          exact k
        by_cases hc43_13 : ((oi (F i)) + p4) < (g3 ((F i)))
        · refine hG ?_
          obtain ⟨fs, hr, hrun, hended, hW, hsame⟩ := XL2.leave (v := some (.int (0 : Int32))) (fun h => by rw [Bd.returns] at h; cases h)
          refine ⟨_, _, pre12 _ ?_, hrun, hended, _, _, rfl, ?_, ⟨_, rfl⟩, hW, hsame.mono (by decide) (by decide)⟩
          · show Steps p.tables e below (TL2.setTop (mkF m 43 #[.val (.ref a1), .val (.ref a2), .val (.ref a3), .val (.int p4), .val (.int (oi i)), .val (.int (oi (F i))), .val (.int (oi (F ((i - 1)))))] [(.int (g3 ((F i)))), (.int ((oi (F i)) + p4))])) _
            refine XS.icmpYes XL2.here hx rfl (pc0 := 43) (pc' := 57) rfl (dq hby D38 29 rfl) rfl (tlt hc43_13).1 (by decide) (by decide) ?_
            refine XS.iconst XL2.here hx rfl (dq hby D38 37 rfl) ?_
            exact retN XL2 hx (t := .boolean) Bd.returns (by simp) (dq hby D38 38 rfl) hr
          · show Q_risw Z a1 a2 a3 p4 N F g2 g3 h0 n0 _ TL2.heap _
            rw [eL2]
            exact ⟨_, rfl, NL2, heq0, Or.inl rfl⟩
        · obtain ⟨cl14, Ar14, S14, H14⟩ := id lf2_2_v2
          replace S14 : Sq cl14.slots.size _ := S14
          have hin14 : Hq (oi (F ((i - 1)))) cl14.slots.size := oi_at S14 (by first | exact hF1 | exact hF2) (by omega)
          have hat14 : cl14.slots[((oi (F ((i - 1))))).toNatClampNeg]? = some (.int (g3 ((F ((i - 1)))))) := ArF.at S14 H14 hin14 (congrArg (fun zz => Value.int (g3 zz)) (oi_n (by omega)))
          have pre15 : ∀ t, Steps p.tables e below (TL2.setTop (mkF m 54 #[.val (.ref a1), .val (.ref a2), .val (.ref a3), .val (.int p4), .val (.int (oi i)), .val (.int (oi (F i))), .val (.int (oi (F ((i - 1)))))] [(.int (g3 ((F ((i - 1)))))), (.int ((oi (F ((i - 1)))) + p4))])) t → Steps p.tables e below (s₁.setTop (entryFrame m #[(.ref a1), (.ref a2), (.ref a3), (.int p4)] 7)) t := by
            intro t k
            refine pre12 t ?_
            refine XS.icmpNo XL2.here hx rfl (dq hby D38 29 rfl) rfl (flt hc43_13).1 ?_
            refine XS.iload XL2.here hx rfl (dq hby D38 30 rfl) rfl ?_
            refine XS.iloadN XL2.here hx rfl (dq hby D38 31 rfl) rfl ?_
            show Steps p.tables e below (TL2.setTop (mkF m 49 #[.val (.ref a1), .val (.ref a2), .val (.ref a3), .val (.int p4), .val (.int (oi i)), .val (.int (oi (F i))), .val (.int (oi (F ((i - 1)))))] [(.int p4), (.int (oi (F ((i - 1)))))])) _
            refine XS.iadd XL2.here hx rfl (dq hby D38 32 rfl) rfl ?_
            refine XS.aloadN XL2.here hx rfl (dq hby D38 33 rfl) rfl rfl ?_
            refine XS.iload XL2.here hx rfl (dq hby D38 34 rfl) rfl ?_
            refine XL2.iaload hx (j := (oi (F ((i - 1))))) (v := (.int (g3 ((F ((i - 1))))))) (by rw [eL2]; exact Ar14.1) (State.isArrayOf_alike hZ.alike Ar14.2.1) Ar14.2.2 hin14 hat14 (g := (mkF m 53 #[.val (.ref a1), .val (.ref a2), .val (.ref a3), .val (.int p4), .val (.int (oi i)), .val (.int (oi (F i))), .val (.int (oi (F ((i - 1)))))] [(.int (oi (F ((i - 1))))), (.ref a3), (.int ((oi (F ((i - 1)))) + p4))])) rfl rfl (dq hby D38 35 rfl) _ ?_
            exact k
          by_cases hc54_16 : ((oi (F ((i - 1)))) + p4) < (g3 ((F ((i - 1)))))
          · refine hG ?_
            obtain ⟨fs, hr, hrun, hended, hW, hsame⟩ := XL2.leave (v := some (.int (0 : Int32))) (fun h => by rw [Bd.returns] at h; cases h)
            refine ⟨_, _, pre15 _ ?_, hrun, hended, _, _, rfl, ?_, ⟨_, rfl⟩, hW, hsame.mono (by decide) (by decide)⟩
            · show Steps p.tables e below (TL2.setTop (mkF m 54 #[.val (.ref a1), .val (.ref a2), .val (.ref a3), .val (.int p4), .val (.int (oi i)), .val (.int (oi (F i))), .val (.int (oi (F ((i - 1)))))] [(.int (g3 ((F ((i - 1)))))), (.int ((oi (F ((i - 1)))) + p4))])) _
              refine XS.icmpNo XL2.here hx rfl (dq hby D38 36 rfl) rfl (tlt hc54_16).2.1 ?_
              refine XS.iconst XL2.here hx rfl (dq hby D38 37 rfl) ?_
              exact retN XL2 hx (t := .boolean) Bd.returns (by simp) (dq hby D38 38 rfl) hr
            · show Q_risw Z a1 a2 a3 p4 N F g2 g3 h0 n0 _ TL2.heap _
              rw [eL2]
              exact ⟨_, rfl, NL2, heq0, Or.inl rfl⟩
          · have pre17 : ∀ t, Steps p.tables e below (TL2.setTop (mkF m 3 #[.val (.ref a1), .val (.ref a2), .val (.ref a3), .val (.int p4), .val (.int (oi (i + 1))), .val (.int (oi (F i))), .val (.int (oi (F ((i - 1)))))] [])) t → Steps p.tables e below (s₁.setTop (entryFrame m #[(.ref a1), (.ref a2), (.ref a3), (.int p4)] 7)) t := by
              intro t k
              refine pre15 t ?_
              refine XS.icmpYes XL2.here hx rfl (pc0 := 54) (pc' := 59) rfl (dq hby D38 36 rfl) rfl (flt hc54_16).2.1 (by decide) (by decide) ?_
              refine XS.iinc XL2.here hx rfl (dq hby D38 39 rfl) rfl (l' := #[.val (.ref a1), .val (.ref a2), .val (.ref a3), .val (.int p4), .val (.int ((oi i) + (1 : Int32))), .val (.int (oi (F i))), .val (.int (oi (F ((i - 1)))))]) rfl ?_
              show Steps p.tables e below (TL2.setTop (mkF m 62 #[.val (.ref a1), .val (.ref a2), .val (.ref a3), .val (.int p4), .val (.int ((oi i) + (1 : Int32))), .val (.int (oi (F i))), .val (.int (oi (F ((i - 1)))))] [])) _
              rw [oi_s (i)]
              refine XS.goto XL2.here hx rfl (pc0 := 62) (pc' := 3) rfl (dq hby D38 40 rfl) (by decide) (by decide) ?_
              exact k
            exact ih2 _ _ _ (i + 1) _ _ XL2 eL2 NL2 ZL2 lf2_0_v2 lf2_1_v2 lf2_2_v2 (by omega) (by omega) heq0 (Or.inr ⟨_, rfl⟩) (Or.inr ⟨_, rfl⟩) pre17
      · have pre18 : ∀ t, Steps p.tables e below (TL2.setTop (mkF m 3 #[.val (.ref a1), .val (.ref a2), .val (.ref a3), .val (.int p4), .val (.int (oi (i + 1))), .val (.int (oi (F i))), .val (.int (oi (F ((i - 1)))))] [])) t → Steps p.tables e below (s₁.setTop (entryFrame m #[(.ref a1), (.ref a2), (.ref a3), (.int p4)] 7)) t := by
          intro t k
          refine pre9 t ?_
          refine XS.icmpYes XL2.here hx rfl (pc0 := 32) (pc' := 59) rfl (dq hby D38 22 rfl) rfl (feq hc32_10).2 (by decide) (by decide) ?_
          refine XS.iinc XL2.here hx rfl (dq hby D38 39 rfl) rfl (l' := #[.val (.ref a1), .val (.ref a2), .val (.ref a3), .val (.int p4), .val (.int ((oi i) + (1 : Int32))), .val (.int (oi (F i))), .val (.int (oi (F ((i - 1)))))]) rfl ?_
          show Steps p.tables e below (TL2.setTop (mkF m 62 #[.val (.ref a1), .val (.ref a2), .val (.ref a3), .val (.int p4), .val (.int ((oi i) + (1 : Int32))), .val (.int (oi (F i))), .val (.int (oi (F ((i - 1)))))] [])) _
          rw [oi_s (i)]
          refine XS.goto XL2.here hx rfl (pc0 := 62) (pc' := 3) rfl (dq hby D38 40 rfl) (by decide) (by decide) ?_
          exact k
        exact ih2 _ _ _ (i + 1) _ _ XL2 eL2 NL2 ZL2 lf2_0_v2 lf2_1_v2 lf2_2_v2 (by omega) (by omega) heq0 (Or.inr ⟨_, rfl⟩) (Or.inr ⟨_, rfl⟩) pre18
  exact loop2 (N - 1) _ _ _ 1 .unset .unset X0 e0 N0 Z0 V1 V2 V3 (Nat.le_refl 1) (by omega) rfl (Or.inl rfl) (Or.inl rfl) pre1
theorem D49 : ∀ x ∈ ([(0, .iconst 0, 1), (1, .istore 5, 2), (3, .iconst 0, 1), (4, .istore 6, 2), (6, .iconst 1, 1), (7, .istore 7, 2), (9, .iload 7, 2), (11, .iload_n 2, 1), (12, .if_icmp .gt 68, 3), (15, .iconst (-1), 1), (16, .istore 8, 2), (18, .iload 6, 2), (20, .istore 9, 2), (22, .iload 9, 2), (24, .aload_n 1, 1), (25, .iload 7, 2), (27, .iaload, 1), (28, .if_icmp .ge 40, 3), (31, .aload_n 0, 1), (32, .iload 9, 2), (34, .iaload, 1), (35, .istore 10, 2), (37, .aload_n 3, 1), (38, .iload 10, 2), (40, .iaload, 1), (41, .iload 8, 2), (43, .if_icmp .eq 12, 3), (46, .iinc 5 1, 3), (49, .aload_n 3, 1), (50, .iload 10, 2), (52, .iaload, 1), (53, .istore 8, 2), (55, .aload 4, 2), (57, .iload 10, 2), (59, .iload 5, 2), (61, .iastore, 1), (62, .iinc 9 1, 3), (65, .goto (-43), 3), (68, .aload_n 1, 1), (69, .iload 7, 2), (71, .iaload, 1), (72, .istore 6, 2), (74, .iinc 7 1, 3), (77, .goto (-68), 3), (80, .iload 5, 2), (82, .ireturn, 1)] : List (Nat × Instr × Nat)), decode prog_11_method_14_code x.1 = .ok x.2 := by decide +kernel
theorem pn_rran : plainName "com/example/even_roster/evenroster/scim/SortedSuffixes" = true := by first | (simp [plainName, overriddenIn]; done) | decide +kernel
theorem ef_rran (m : MethodId) (x0 : Addr) (x1 : Addr) (x2 : Int32) (x3 : Addr) (x4 : Addr) : entryFrame m #[(.ref x0), (.ref x1), (.int x2), (.ref x3), (.ref x4)] 11 = mkF m 0 #[.val (.ref x0), .val (.ref x1), .val (.int x2), .val (.ref x3), .val (.ref x4), .unset, .unset, .unset, .unset, .unset, .unset] [] := by first | (simp [entryFrame, mkF, argsToLocals, Value.category]; done) | rfl
def Q_rran (Z : State) (a1 : Addr) (a2 : Addr) (a4 : Addr) (a5 : Addr) (N M rn : Nat) (F : Nat → Nat) (cc g4 g5 : Nat → Int32) (h0 : Heap) (n0 : Nat) (v : Option Value) (h : Heap) (L : List Loc) : Prop := ∃ (y : Int32) (g : Nat → Int32), v = some (.int y) ∧ Fr n0 L ∧ Keep h0 h [a5] ∧ ArF Z h a5 .int N (fun j => .int (g j))
set_option maxRecDepth 65536 in
set_option maxHeartbeats 40000000 in
theorem rran (l : Launch) (Z : State) (a0 : Array Value) (hw : ∀ d ∈ tables_1, d.before a0 Z = true) (ws : List Jvm.Cond) (a1 : Addr) (a2 : Addr) (a4 : Addr) (a5 : Addr) (N M rn : Nat) (F : Nat → Nat) (cc g4 g5 : Nat → Int32) (h0 : Heap) (n0 : Nat) (Z0 : n0 ≤ h0.size) (V1 : ArF Z h0 a1 .int N (fun j => .int (oi (F j)))) (V2 : ArF Z h0 a2 .int M (fun j => .int (cc j))) (V4 : ArF Z h0 a4 .int N (fun j => .int (g4 j))) (V5 : ArF Z h0 a5 .int N (fun j => .int (g5 j))) (gz : n0 ≤ a5) (n15 : a1 ≠ a5) (n25 : a2 ≠ a5) (n45 : a4 ≠ a5) (hF : ∀ j, j < N → F j < N) (hcc : ∀ r, r < rn + 2 → ∃ q, q ≤ N ∧ cc r = oi q) (hm : rn + 2 ≤ M) (hM : M < 2147483648) (hN : N < 2147483648) :
    MetFree l (⟨"com/example/even_roster/evenroster/scim/SortedSuffixes", "rankAnew", "([I[II[I[I)I"⟩ : MethodName) (head1 (Jvm.Cond.code (⟨"com/example/even_roster/evenroster/scim/SortedSuffixes", "rankAnew", "([I[II[I[I)I"⟩ : MethodName) prog_11_method_14_code 11 (some .int) :: ws) ({ frames := 0, cells := 0, slots := 0, locals := 0 } : Room)) (fun a U => a = #[(.ref a1), (.ref a2), (.int (oi rn)), (.ref a4), (.ref a5)] ∧ Z.Warmed39 U.vm ∧ U.heap = h0) (fun _ _ _ _ _ => True) (fun _ U o U' => ∃ v L, o = .returned v ∧ Q_rran Z a1 a2 a4 a5 N M rn F cc g4 g5 h0 n0 v U'.heap L ∧ FrameEnd U o U' L ({ frames := 0, cells := 0, slots := 0, locals := 0 } : Room).cells ({ frames := 0, cells := 0, slots := 0, locals := 0 } : Room).slots) := by
  refine MetFree.of_bodySF (plainFor_of_name pn_rran) hisR ?_
  intro p e s m args below meth c s₁ Bd hml0 hP hK
  obtain ⟨rfl, hZ, hh⟩ := hP
  have hx := Bd.exec
  have hby := Bd.bytes
  have hml : c.maxLocals = 11 := hml0
  have hown : s.vm.findClass "com/example/even_roster/evenroster/scim/SortedSuffixes" = some m.cls := findClass_of_methodNamed Bd.named
  have hnm := (name_of_methodNamed Bd.named Bd.method).1
  have X0 : Stand p l e ({ frames := 0, cells := 0, slots := 0, locals := 0 } : Room) s m #[(.ref a1), (.ref a2), (.int (oi rn)), (.ref a4), (.ref a5)] below meth c s₁ [] 0 0 := Stand.of_body Bd
  have e0 : s₁.heap = h0 := by rw [← hh, Bd.state]; rfl
  have N0 := Fr.nil n0
  have pre0 : ∀ t, Steps p.tables e below (s₁.setTop (mkF m 0 #[.val (.ref a1), .val (.ref a2), .val (.int (oi rn)), .val (.ref a4), .val (.ref a5), .unset, .unset, .unset, .unset, .unset, .unset] [])) t → Steps p.tables e below (s₁.setTop (entryFrame m #[(.ref a1), (.ref a2), (.int (oi rn)), (.ref a4), (.ref a5)] 11)) t := fun t k => castTop (ef_rran m a1 a2 (oi rn) a4 a5) k
  have K0 := Keep.refl h0 [a5]
  refine own_cps fun G hG => ?_
  have pre1 : ∀ t, Steps p.tables e below (s₁.setTop (mkF m 9 #[.val (.ref a1), .val (.ref a2), .val (.int (oi rn)), .val (.ref a4), .val (.ref a5), .val (.int (0 : Int32)), .val (.int (0 : Int32)), .val (.int (1 : Int32)), .unset, .unset, .unset] [])) t → Steps p.tables e below (s₁.setTop (entryFrame m #[(.ref a1), (.ref a2), (.int (oi rn)), (.ref a4), (.ref a5)] 11)) t := by
    intro t k
    refine pre0 t ?_
    refine XS.iconst X0.here hx rfl (dq hby D49 0 rfl) ?_
    refine XS.istore X0.here hx rfl (dq hby D49 1 rfl) rfl (l' := #[.val (.ref a1), .val (.ref a2), .val (.int (oi rn)), .val (.ref a4), .val (.ref a5), .val (.int (0 : Int32)), .unset, .unset, .unset, .unset, .unset]) rfl ?_
    refine XS.iconst X0.here hx rfl (dq hby D49 2 rfl) ?_
    refine XS.istore X0.here hx rfl (dq hby D49 3 rfl) rfl (l' := #[.val (.ref a1), .val (.ref a2), .val (.int (oi rn)), .val (.ref a4), .val (.ref a5), .val (.int (0 : Int32)), .val (.int (0 : Int32)), .unset, .unset, .unset, .unset]) rfl ?_
    refine XS.iconst X0.here hx rfl (dq hby D49 4 rfl) ?_
    refine XS.istore X0.here hx rfl (dq hby D49 5 rfl) rfl (l' := #[.val (.ref a1), .val (.ref a2), .val (.int (oi rn)), .val (.ref a4), .val (.ref a5), .val (.int (0 : Int32)), .val (.int (0 : Int32)), .val (.int (1 : Int32)), .unset, .unset, .unset]) rfl ?_
    exact k
  have loop2 : ∀ (k2 : Nat) (TL2 : State) (Lc2 : List Loc) (hL2 : Heap) (x5 : Int32) (u : Nat) (r : Nat) (g : Nat → Int32) (s8 : Slot) (s9 : Slot) (s10 : Slot), Stand p l e ({ frames := 0, cells := 0, slots := 0, locals := 0 } : Room) s m #[(.ref a1), (.ref a2), (.int (oi rn)), (.ref a4), (.ref a5)] below meth c TL2 Lc2 0 0 → TL2.heap = hL2 → Fr n0 Lc2 → Lq n0 hL2.size → Keep h0 hL2 [a5] → ArF Z hL2 a1 .int N (fun j => .int (oi (F j))) → ArF Z hL2 a2 .int M (fun j => .int (cc j)) → ArF Z hL2 a4 .int N (fun j => .int (g4 j)) → ArF Z hL2 a5 .int N (fun j => .int (g j)) → u ≤ N → r + k2 = rn + 1 → (s8 = .unset ∨ ∃ z, s8 = .val (.int z)) → (s9 = .unset ∨ ∃ z, s9 = .val (.int z)) → (s10 = .unset ∨ ∃ z, s10 = .val (.int z)) → (∀ t, Steps p.tables e below (TL2.setTop (mkF m 9 #[.val (.ref a1), .val (.ref a2), .val (.int (oi rn)), .val (.ref a4), .val (.ref a5), .val (.int x5), .val (.int (oi u)), .val (.int (oi r)), s8, s9, s10] [])) t → Steps p.tables e below (s₁.setTop (entryFrame m #[(.ref a1), (.ref a2), (.int (oi rn)), (.ref a4), (.ref a5)] 11)) t) → G := by
    intro k2
    induction k2 with
    | zero =>
      intro TL2 Lc2 hL2 x5 u r g s8 s9 s10 XL2 eL2 NL2 ZL2 KL2 lf2_0_v2 lf2_1_v2 lf2_2_v2 lf2_3_v2 hu hk hs8 hs9 hs10 prL2
      refine hG ?_
      obtain ⟨fs, hr, hrun, hended, hW, hsame⟩ := XL2.leave (v := some (.int x5)) (fun h => by rw [Bd.returns] at h; cases h)
      refine ⟨_, _, prL2 _ ?_, hrun, hended, _, _, rfl, ?_, ⟨_, rfl⟩, hW, hsame.mono (by decide) (by decide)⟩
      · show Steps p.tables e below (TL2.setTop (mkF m 9 #[.val (.ref a1), .val (.ref a2), .val (.int (oi rn)), .val (.ref a4), .val (.ref a5), .val (.int x5), .val (.int (oi u)), .val (.int (oi r)), s8, s9, s10] [])) _
        refine XS.iload XL2.here hx rfl (dq hby D49 6 rfl) rfl ?_
        refine XS.iloadN XL2.here hx rfl (dq hby D49 7 rfl) rfl ?_
        refine XS.icmpYes XL2.here hx rfl (pc0 := 12) (pc' := 80) rfl (dq hby D49 8 rfl) rfl (tlt ((by rw [oi_lt (by omega) (by omega)]; omega) : ((oi rn) < (oi r)))).2.2.1 (by decide) (by decide) ?_
        refine XS.iload XL2.here hx rfl (dq hby D49 44 rfl) rfl ?_
        exact retI XL2 hx Bd.returns (dq hby D49 45 rfl) hr
      · show Q_rran Z a1 a2 a4 a5 N M rn F cc g4 g5 h0 n0 _ TL2.heap _
        rw [eL2]
        exact ⟨_, _, rfl, NL2, KL2, lf2_3_v2⟩
    | succ k2 ih2 =>
      intro TL2 Lc2 hL2 x5 u r g s8 s9 s10 XL2 eL2 NL2 ZL2 KL2 lf2_0_v2 lf2_1_v2 lf2_2_v2 lf2_3_v2 hu hk hs8 hs9 hs10 prL2
      obtain ⟨q, hq, eqq⟩ := hcc r (by omega)
      have pre3 : ∀ t, Steps p.tables e below (TL2.setTop (mkF m 22 #[.val (.ref a1), .val (.ref a2), .val (.int (oi rn)), .val (.ref a4), .val (.ref a5), .val (.int x5), .val (.int (oi u)), .val (.int (oi r)), .val (.int (-1 : Int32)), .val (.int (oi u)), s10] [])) t → Steps p.tables e below (s₁.setTop (entryFrame m #[(.ref a1), (.ref a2), (.int (oi rn)), (.ref a4), (.ref a5)] 11)) t := by
        intro t k
        refine prL2 t ?_
        refine XS.iload XL2.here hx rfl (dq hby D49 6 rfl) rfl ?_
        refine XS.iloadN XL2.here hx rfl (dq hby D49 7 rfl) rfl ?_
        refine XS.icmpNo XL2.here hx rfl (dq hby D49 8 rfl) rfl (flt ((by rw [oi_lt (by omega) (by omega)]; omega) : ¬ ((oi rn) < (oi r)))).2.2.1 ?_
        refine XS.iconst XL2.here hx rfl (dq hby D49 9 rfl) ?_
        refine XS.istore XL2.here hx rfl (dq hby D49 10 rfl) rfl (l' := #[.val (.ref a1), .val (.ref a2), .val (.int (oi rn)), .val (.ref a4), .val (.ref a5), .val (.int x5), .val (.int (oi u)), .val (.int (oi r)), .val (.int (-1 : Int32)), s9, s10]) (by rcases hs8 with rfl | ⟨_, rfl⟩ <;> rfl) ?_
        refine XS.iload XL2.here hx rfl (dq hby D49 11 rfl) rfl ?_
        refine XS.istore XL2.here hx rfl (dq hby D49 12 rfl) rfl (l' := #[.val (.ref a1), .val (.ref a2), .val (.int (oi rn)), .val (.ref a4), .val (.ref a5), .val (.int x5), .val (.int (oi u)), .val (.int (oi r)), .val (.int (-1 : Int32)), .val (.int (oi u)), s10]) (by rcases hs9 with rfl | ⟨_, rfl⟩ <;> rfl) ?_
        exact k
      have loop4 : ∀ (k4 : Nat) (TL4 : State) (Lc4 : List Loc) (hL4 : Heap) (x5 : Int32) (x8 : Int32) (i : Nat) (g : Nat → Int32) (s10 : Slot), Stand p l e ({ frames := 0, cells := 0, slots := 0, locals := 0 } : Room) s m #[(.ref a1), (.ref a2), (.int (oi rn)), (.ref a4), (.ref a5)] below meth c TL4 Lc4 0 0 → TL4.heap = hL4 → Fr n0 Lc4 → Lq n0 hL4.size → Keep h0 hL4 [a5] → ArF Z hL4 a1 .int N (fun j => .int (oi (F j))) → ArF Z hL4 a2 .int M (fun j => .int (cc j)) → ArF Z hL4 a4 .int N (fun j => .int (g4 j)) → ArF Z hL4 a5 .int N (fun j => .int (g j)) → q - i = k4 → i ≤ N → (s10 = .unset ∨ ∃ z, s10 = .val (.int z)) → (∀ t, Steps p.tables e below (TL4.setTop (mkF m 22 #[.val (.ref a1), .val (.ref a2), .val (.int (oi rn)), .val (.ref a4), .val (.ref a5), .val (.int x5), .val (.int (oi u)), .val (.int (oi r)), .val (.int x8), .val (.int (oi i)), s10] [])) t → Steps p.tables e below (s₁.setTop (entryFrame m #[(.ref a1), (.ref a2), (.int (oi rn)), (.ref a4), (.ref a5)] 11)) t) → G := by
        intro k4
        induction k4 with
        | zero =>
          intro TL4 Lc4 hL4 x5 x8 i g s10 XL4 eL4 NL4 ZL4 KL4 lf4_0_v4 lf4_1_v4 lf4_2_v4 lf4_3_v4 hk2 hiN hs10 prL4
          obtain ⟨cl5, Ar5, S5, H5⟩ := id lf4_1_v4
          replace S5 : Sq cl5.slots.size _ := S5
          have hin5 : Hq (oi r) cl5.slots.size := oi_at S5 (by omega) (by omega)
          have hat5 : cl5.slots[((oi r)).toNatClampNeg]? = some (.int (oi q)) := ArF.at S5 H5 hin5 (congrArg Value.int ((congrArg cc (oi_n (by omega))).trans eqq))
          obtain ⟨cl6, Ar6, S6, H6⟩ := id lf4_1_v4
          replace S6 : Sq cl6.slots.size _ := S6
          have hin6 : Hq (oi r) cl6.slots.size := oi_at S6 (by omega) (by omega)
          have hat6 : cl6.slots[((oi r)).toNatClampNeg]? = some (.int (oi q)) := ArF.at S6 H6 hin6 (congrArg Value.int ((congrArg cc (oi_n (by omega))).trans eqq))
          have pre7 : ∀ t, Steps p.tables e below (TL4.setTop (mkF m 9 #[.val (.ref a1), .val (.ref a2), .val (.int (oi rn)), .val (.ref a4), .val (.ref a5), .val (.int x5), .val (.int (oi q)), .val (.int (oi (r + 1))), .val (.int x8), .val (.int (oi i)), s10] [])) t → Steps p.tables e below (s₁.setTop (entryFrame m #[(.ref a1), (.ref a2), (.int (oi rn)), (.ref a4), (.ref a5)] 11)) t := by
            intro t k
            refine prL4 t ?_
            refine XS.iload XL4.here hx rfl (dq hby D49 13 rfl) rfl ?_
            refine XS.aloadN XL4.here hx rfl (dq hby D49 14 rfl) rfl rfl ?_
            show Steps p.tables e below (TL4.setTop (mkF m 25 #[.val (.ref a1), .val (.ref a2), .val (.int (oi rn)), .val (.ref a4), .val (.ref a5), .val (.int x5), .val (.int (oi u)), .val (.int (oi r)), .val (.int x8), .val (.int (oi i)), s10] [(.ref a2), (.int (oi i))])) _
            refine XS.iload XL4.here hx rfl (dq hby D49 15 rfl) rfl ?_
            refine XL4.iaload hx (j := (oi r)) (v := (.int (oi q))) (by rw [eL4]; exact Ar5.1) (State.isArrayOf_alike hZ.alike Ar5.2.1) Ar5.2.2 hin5 hat5 (g := (mkF m 27 #[.val (.ref a1), .val (.ref a2), .val (.int (oi rn)), .val (.ref a4), .val (.ref a5), .val (.int x5), .val (.int (oi u)), .val (.int (oi r)), .val (.int x8), .val (.int (oi i)), s10] [(.int (oi r)), (.ref a2), (.int (oi i))])) rfl rfl (dq hby D49 16 rfl) _ ?_
            refine XS.icmpYes XL4.here hx rfl (pc0 := 28) (pc' := 68) rfl (dq hby D49 17 rfl) rfl (flt ((by rw [oi_lt (by omega) (by omega)]; omega) : ¬ ((oi i) < (oi q)))).2.1 (by decide) (by decide) ?_
            refine XS.aloadN XL4.here hx rfl (dq hby D49 38 rfl) rfl rfl ?_
            refine XS.iload XL4.here hx rfl (dq hby D49 39 rfl) rfl ?_
            refine XL4.iaload hx (j := (oi r)) (v := (.int (oi q))) (by rw [eL4]; exact Ar6.1) (State.isArrayOf_alike hZ.alike Ar6.2.1) Ar6.2.2 hin6 hat6 (g := (mkF m 71 #[.val (.ref a1), .val (.ref a2), .val (.int (oi rn)), .val (.ref a4), .val (.ref a5), .val (.int x5), .val (.int (oi u)), .val (.int (oi r)), .val (.int x8), .val (.int (oi i)), s10] [(.int (oi r)), (.ref a2)])) rfl rfl (dq hby D49 40 rfl) _ ?_
            refine XS.istore XL4.here hx rfl (dq hby D49 41 rfl) rfl (l' := #[.val (.ref a1), .val (.ref a2), .val (.int (oi rn)), .val (.ref a4), .val (.ref a5), .val (.int x5), .val (.int (oi q)), .val (.int (oi r)), .val (.int x8), .val (.int (oi i)), s10]) rfl ?_
            refine XS.iinc XL4.here hx rfl (dq hby D49 42 rfl) rfl (l' := #[.val (.ref a1), .val (.ref a2), .val (.int (oi rn)), .val (.ref a4), .val (.ref a5), .val (.int x5), .val (.int (oi q)), .val (.int ((oi r) + (1 : Int32))), .val (.int x8), .val (.int (oi i)), s10]) rfl ?_
            show Steps p.tables e below (TL4.setTop (mkF m 77 #[.val (.ref a1), .val (.ref a2), .val (.int (oi rn)), .val (.ref a4), .val (.ref a5), .val (.int x5), .val (.int (oi q)), .val (.int ((oi r) + (1 : Int32))), .val (.int x8), .val (.int (oi i)), s10] [])) _
            rw [oi_s (r)]
            refine XS.goto XL4.here hx rfl (pc0 := 77) (pc' := 9) rfl (dq hby D49 43 rfl) (by decide) (by decide) ?_
            exact k
          exact ih2 _ _ _ x5 q (r + 1) _ _ _ _ XL4 eL4 NL4 ZL4 KL4 lf4_0_v4 lf4_1_v4 lf4_2_v4 lf4_3_v4 (by omega) (by omega) (Or.inr ⟨_, rfl⟩) (Or.inr ⟨_, rfl⟩) hs10 pre7
        | succ k4 ih4 =>
          intro TL4 Lc4 hL4 x5 x8 i g s10 XL4 eL4 NL4 ZL4 KL4 lf4_0_v4 lf4_1_v4 lf4_2_v4 lf4_3_v4 hk2 hiN hs10 prL4
          have hFi := hF i (by omega)
          obtain ⟨cl8, Ar8, S8, H8⟩ := id lf4_1_v4
          replace S8 : Sq cl8.slots.size _ := S8
          have hin8 : Hq (oi r) cl8.slots.size := oi_at S8 (by omega) (by omega)
          have hat8 : cl8.slots[((oi r)).toNatClampNeg]? = some (.int (oi q)) := ArF.at S8 H8 hin8 (congrArg Value.int ((congrArg cc (oi_n (by omega))).trans eqq))
          obtain ⟨cl9, Ar9, S9, H9⟩ := id lf4_0_v4
          replace S9 : Sq cl9.slots.size _ := S9
          have hin9 : Hq (oi i) cl9.slots.size := oi_at S9 (by omega) (by omega)
          have hat9 : cl9.slots[((oi i)).toNatClampNeg]? = some (.int (oi (F i))) := ArF.at S9 H9 hin9 (congrArg (fun zz => Value.int (oi (F zz))) (oi_n (by omega)))
          obtain ⟨cl10, Ar10, S10, H10⟩ := id lf4_2_v4
          replace S10 : Sq cl10.slots.size _ := S10
          have hin10 : Hq (oi (F i)) cl10.slots.size := oi_at S10 hFi (by omega)
          have hat10 : cl10.slots[((oi (F i))).toNatClampNeg]? = some (.int (g4 ((F i)))) := ArF.at S10 H10 hin10 (congrArg (fun zz => Value.int (g4 zz)) (oi_n (by omega)))
          have pre11 : ∀ t, Steps p.tables e below (TL4.setTop (mkF m 43 #[.val (.ref a1), .val (.ref a2), .val (.int (oi rn)), .val (.ref a4), .val (.ref a5), .val (.int x5), .val (.int (oi u)), .val (.int (oi r)), .val (.int x8), .val (.int (oi i)), .val (.int (oi (F i)))] [(.int x8), (.int (g4 ((F i))))])) t → Steps p.tables e below (s₁.setTop (entryFrame m #[(.ref a1), (.ref a2), (.int (oi rn)), (.ref a4), (.ref a5)] 11)) t := by
            intro t k
            refine prL4 t ?_
            refine XS.iload XL4.here hx rfl (dq hby D49 13 rfl) rfl ?_
            refine XS.aloadN XL4.here hx rfl (dq hby D49 14 rfl) rfl rfl ?_
            refine XS.iload XL4.here hx rfl (dq hby D49 15 rfl) rfl ?_
            refine XL4.iaload hx (j := (oi r)) (v := (.int (oi q))) (by rw [eL4]; exact Ar8.1) (State.isArrayOf_alike hZ.alike Ar8.2.1) Ar8.2.2 hin8 hat8 (g := (mkF m 27 #[.val (.ref a1), .val (.ref a2), .val (.int (oi rn)), .val (.ref a4), .val (.ref a5), .val (.int x5), .val (.int (oi u)), .val (.int (oi r)), .val (.int x8), .val (.int (oi i)), s10] [(.int (oi r)), (.ref a2), (.int (oi i))])) rfl rfl (dq hby D49 16 rfl) _ ?_
            refine XS.icmpNo XL4.here hx rfl (dq hby D49 17 rfl) rfl (tlt ((by rw [oi_lt (by omega) (by omega)]; omega) : ((oi i) < (oi q)))).2.1 ?_
            refine XS.aloadN XL4.here hx rfl (dq hby D49 18 rfl) rfl rfl ?_
            refine XS.iload XL4.here hx rfl (dq hby D49 19 rfl) rfl ?_
            refine XL4.iaload hx (j := (oi i)) (v := (.int (oi (F i)))) (by rw [eL4]; exact Ar9.1) (State.isArrayOf_alike hZ.alike Ar9.2.1) Ar9.2.2 hin9 hat9 (g := (mkF m 34 #[.val (.ref a1), .val (.ref a2), .val (.int (oi rn)), .val (.ref a4), .val (.ref a5), .val (.int x5), .val (.int (oi u)), .val (.int (oi r)), .val (.int x8), .val (.int (oi i)), s10] [(.int (oi i)), (.ref a1)])) rfl rfl (dq hby D49 20 rfl) _ ?_
            refine XS.istore XL4.here hx rfl (dq hby D49 21 rfl) rfl (l' := #[.val (.ref a1), .val (.ref a2), .val (.int (oi rn)), .val (.ref a4), .val (.ref a5), .val (.int x5), .val (.int (oi u)), .val (.int (oi r)), .val (.int x8), .val (.int (oi i)), .val (.int (oi (F i)))]) (by rcases hs10 with rfl | ⟨_, rfl⟩ <;> rfl) ?_
            refine XS.aloadN XL4.here hx rfl (dq hby D49 22 rfl) rfl rfl ?_
            refine XS.iload XL4.here hx rfl (dq hby D49 23 rfl) rfl ?_
            refine XL4.iaload hx (j := (oi (F i))) (v := (.int (g4 ((F i))))) (by rw [eL4]; exact Ar10.1) (State.isArrayOf_alike hZ.alike Ar10.2.1) Ar10.2.2 hin10 hat10 (g := (mkF m 40 #[.val (.ref a1), .val (.ref a2), .val (.int (oi rn)), .val (.ref a4), .val (.ref a5), .val (.int x5), .val (.int (oi u)), .val (.int (oi r)), .val (.int x8), .val (.int (oi i)), .val (.int (oi (F i)))] [(.int (oi (F i))), (.ref a4)])) rfl rfl (dq hby D49 24 rfl) _ ?_
            refine XS.iload XL4.here hx rfl (dq hby D49 25 rfl) rfl ?_
            exact k
          by_cases hc43_12 : (g4 ((F i))) = x8
          · obtain ⟨cl13, Ar13, S13, H13⟩ := id lf4_3_v4
            replace S13 : Sq cl13.slots.size _ := S13
            have hin13 : Hq (oi (F i)) cl13.slots.size := oi_at S13 hFi (by omega)
            obtain ⟨T13, h13, X13, e13, W13, st13⟩ := stI XL4 hx hZ eL4 Ar13 (j := (oi (F i))) hin13 (g := (mkF m 61 #[.val (.ref a1), .val (.ref a2), .val (.int (oi rn)), .val (.ref a4), .val (.ref a5), .val (.int x5), .val (.int (oi u)), .val (.int (oi r)), .val (.int x8), .val (.int (oi i)), .val (.int (oi (F i)))] [(.int x5), (.int (oi (F i))), (.ref a5)])) rfl rfl (dq hby D49 35 rfl)
            have lf4_0_v13 := lf4_0_v4.other W13 n15
            have lf4_1_v13 := lf4_1_v4.other W13 n25
            have lf4_2_v13 := lf4_2_v4.other W13 n45
            have Z13 : Lq n0 h13.size := Nat.le_trans ZL4 (Nat.le_of_eq W13.size.symm)
            have K13 := KL4.wr W13 (Or.inl (by simp))
            have V13_v13 := ArF.set Ar13 S13 H13 W13 hin13
            have N13 := Fr.snoc X13 NL4 gz
            have pre14 : ∀ t, Steps p.tables e below (T13.setTop (mkF m 22 #[.val (.ref a1), .val (.ref a2), .val (.int (oi rn)), .val (.ref a4), .val (.ref a5), .val (.int x5), .val (.int (oi u)), .val (.int (oi r)), .val (.int x8), .val (.int (oi (i + 1))), .val (.int (oi (F i)))] [])) t → Steps p.tables e below (s₁.setTop (entryFrame m #[(.ref a1), (.ref a2), (.int (oi rn)), (.ref a4), (.ref a5)] 11)) t := by
              intro t k
              refine pre11 t ?_
              refine XS.icmpYes XL4.here hx rfl (pc0 := 43) (pc' := 55) rfl (dq hby D49 26 rfl) rfl (teq hc43_12).1 (by decide) (by decide) ?_
              refine XS.aload XL4.here hx rfl (dq hby D49 32 rfl) rfl rfl ?_
              refine XS.iload XL4.here hx rfl (dq hby D49 33 rfl) rfl ?_
              refine XS.iload XL4.here hx rfl (dq hby D49 34 rfl) rfl ?_
              refine st13 _ ?_
              refine XS.iinc X13.here hx rfl (dq hby D49 36 rfl) rfl (l' := #[.val (.ref a1), .val (.ref a2), .val (.int (oi rn)), .val (.ref a4), .val (.ref a5), .val (.int x5), .val (.int (oi u)), .val (.int (oi r)), .val (.int x8), .val (.int ((oi i) + (1 : Int32))), .val (.int (oi (F i)))]) rfl ?_
              show Steps p.tables e below (T13.setTop (mkF m 65 #[.val (.ref a1), .val (.ref a2), .val (.int (oi rn)), .val (.ref a4), .val (.ref a5), .val (.int x5), .val (.int (oi u)), .val (.int (oi r)), .val (.int x8), .val (.int ((oi i) + (1 : Int32))), .val (.int (oi (F i)))] [])) _
              rw [oi_s (i)]
              refine XS.goto X13.here hx rfl (pc0 := 65) (pc' := 22) rfl (dq hby D49 37 rfl) (by decide) (by decide) ?_
              exact k
            exact ih4 _ _ _ x5 x8 (i + 1) _ _ X13 e13 N13 Z13 K13 lf4_0_v13 lf4_1_v13 lf4_2_v13 (V13_v13.congr (fun j hj => set_up (oi_n (by omega)) j)) (by omega) (by omega) (Or.inr ⟨_, rfl⟩) pre14
          · obtain ⟨cl15, Ar15, S15, H15⟩ := id lf4_2_v4
            replace S15 : Sq cl15.slots.size _ := S15
            have hin15 : Hq (oi (F i)) cl15.slots.size := oi_at S15 hFi (by omega)
            have hat15 : cl15.slots[((oi (F i))).toNatClampNeg]? = some (.int (g4 ((F i)))) := ArF.at S15 H15 hin15 (congrArg (fun zz => Value.int (g4 zz)) (oi_n (by omega)))
            obtain ⟨cl16, Ar16, S16, H16⟩ := id lf4_3_v4
            replace S16 : Sq cl16.slots.size _ := S16
            have hin16 : Hq (oi (F i)) cl16.slots.size := oi_at S16 hFi (by omega)
            obtain ⟨T16, h16, X16, e16, W16, st16⟩ := stI XL4 hx hZ eL4 Ar16 (j := (oi (F i))) hin16 (g := (mkF m 61 #[.val (.ref a1), .val (.ref a2), .val (.int (oi rn)), .val (.ref a4), .val (.ref a5), .val (.int (x5 + (1 : Int32))), .val (.int (oi u)), .val (.int (oi r)), .val (.int (g4 ((F i)))), .val (.int (oi i)), .val (.int (oi (F i)))] [(.int (x5 + (1 : Int32))), (.int (oi (F i))), (.ref a5)])) rfl rfl (dq hby D49 35 rfl)
            have lf4_0_v16 := lf4_0_v4.other W16 n15
            have lf4_1_v16 := lf4_1_v4.other W16 n25
            have lf4_2_v16 := lf4_2_v4.other W16 n45
            have Z16 : Lq n0 h16.size := Nat.le_trans ZL4 (Nat.le_of_eq W16.size.symm)
            have K16 := KL4.wr W16 (Or.inl (by simp))
            have V16_v16 := ArF.set Ar16 S16 H16 W16 hin16
            have N16 := Fr.snoc X16 NL4 gz
            have pre17 : ∀ t, Steps p.tables e below (T16.setTop (mkF m 22 #[.val (.ref a1), .val (.ref a2), .val (.int (oi rn)), .val (.ref a4), .val (.ref a5), .val (.int (x5 + (1 : Int32))), .val (.int (oi u)), .val (.int (oi r)), .val (.int (g4 ((F i)))), .val (.int (oi (i + 1))), .val (.int (oi (F i)))] [])) t → Steps p.tables e below (s₁.setTop (entryFrame m #[(.ref a1), (.ref a2), (.int (oi rn)), (.ref a4), (.ref a5)] 11)) t := by
              intro t k
              refine pre11 t ?_
              refine XS.icmpNo XL4.here hx rfl (dq hby D49 26 rfl) rfl (feq hc43_12).1 ?_
              refine XS.iinc XL4.here hx rfl (dq hby D49 27 rfl) rfl (l' := #[.val (.ref a1), .val (.ref a2), .val (.int (oi rn)), .val (.ref a4), .val (.ref a5), .val (.int (x5 + (1 : Int32))), .val (.int (oi u)), .val (.int (oi r)), .val (.int x8), .val (.int (oi i)), .val (.int (oi (F i)))]) rfl ?_
              refine XS.aloadN XL4.here hx rfl (dq hby D49 28 rfl) rfl rfl ?_
              refine XS.iload XL4.here hx rfl (dq hby D49 29 rfl) rfl ?_
              refine XL4.iaload hx (j := (oi (F i))) (v := (.int (g4 ((F i))))) (by rw [eL4]; exact Ar15.1) (State.isArrayOf_alike hZ.alike Ar15.2.1) Ar15.2.2 hin15 hat15 (g := (mkF m 52 #[.val (.ref a1), .val (.ref a2), .val (.int (oi rn)), .val (.ref a4), .val (.ref a5), .val (.int (x5 + (1 : Int32))), .val (.int (oi u)), .val (.int (oi r)), .val (.int x8), .val (.int (oi i)), .val (.int (oi (F i)))] [(.int (oi (F i))), (.ref a4)])) rfl rfl (dq hby D49 30 rfl) _ ?_
              refine XS.istore XL4.here hx rfl (dq hby D49 31 rfl) rfl (l' := #[.val (.ref a1), .val (.ref a2), .val (.int (oi rn)), .val (.ref a4), .val (.ref a5), .val (.int (x5 + (1 : Int32))), .val (.int (oi u)), .val (.int (oi r)), .val (.int (g4 ((F i)))), .val (.int (oi i)), .val (.int (oi (F i)))]) rfl ?_
              refine XS.aload XL4.here hx rfl (dq hby D49 32 rfl) rfl rfl ?_
              refine XS.iload XL4.here hx rfl (dq hby D49 33 rfl) rfl ?_
              refine XS.iload XL4.here hx rfl (dq hby D49 34 rfl) rfl ?_
              refine st16 _ ?_
              refine XS.iinc X16.here hx rfl (dq hby D49 36 rfl) rfl (l' := #[.val (.ref a1), .val (.ref a2), .val (.int (oi rn)), .val (.ref a4), .val (.ref a5), .val (.int (x5 + (1 : Int32))), .val (.int (oi u)), .val (.int (oi r)), .val (.int (g4 ((F i)))), .val (.int ((oi i) + (1 : Int32))), .val (.int (oi (F i)))]) rfl ?_
              show Steps p.tables e below (T16.setTop (mkF m 65 #[.val (.ref a1), .val (.ref a2), .val (.int (oi rn)), .val (.ref a4), .val (.ref a5), .val (.int (x5 + (1 : Int32))), .val (.int (oi u)), .val (.int (oi r)), .val (.int (g4 ((F i)))), .val (.int ((oi i) + (1 : Int32))), .val (.int (oi (F i)))] [])) _
              rw [oi_s (i)]
              refine XS.goto X16.here hx rfl (pc0 := 65) (pc' := 22) rfl (dq hby D49 37 rfl) (by decide) (by decide) ?_
              exact k
            exact ih4 _ _ _ (x5 + (1 : Int32)) (g4 ((F i))) (i + 1) _ _ X16 e16 N16 Z16 K16 lf4_0_v16 lf4_1_v16 lf4_2_v16 (V16_v16.congr (fun j hj => set_up (oi_n (by omega)) j)) (by omega) (by omega) (Or.inr ⟨_, rfl⟩) pre17
      exact loop4 (q - u) _ _ _ _ _ u _ _ XL2 eL2 NL2 ZL2 KL2 lf2_0_v2 lf2_1_v2 lf2_2_v2 lf2_3_v2 rfl hu hs10 pre3
  exact loop2 rn _ _ _ _ 0 1 _ .unset .unset .unset X0 e0 N0 Z0 K0 V1 V2 V4 V5 (Nat.zero_le N) (by omega) (Or.inl rfl) (Or.inl rfl) (Or.inl rfl) pre1
theorem D32 : ∀ x ∈ ([(0, .aload_n 0, 1), (1, .arraylength, 1), (2, .newarray .int, 2), (4, .astore_n 2, 1), (5, .iconst 0, 1), (6, .istore_n 3, 1), (7, .iconst 0, 1), (8, .istore 4, 2), (10, .iload 4, 2), (12, .iconst 1, 1), (13, .iadd, 1), (14, .aload_n 1, 1), (15, .arraylength, 1), (16, .if_icmp .ge 45, 3), (19, .aload_n 2, 1), (20, .aload_n 1, 1), (21, .iload 4, 2), (23, .iaload, 1), (24, .aload_n 1, 1), (25, .iload 4, 2), (27, .iconst 1, 1), (28, .iadd, 1), (29, .iaload, 1), (30, .aload_n 1, 1), (31, .iload 4, 2), (33, .iconst 1, 1), (34, .iadd, 1), (35, .iaload, 1), (36, .invokestatic 59, 3), (39, .iload_n 3, 1), (40, .aload_n 1, 1), (41, .iload 4, 2), (43, .iconst 1, 1), (44, .iadd, 1), (45, .iaload, 1), (46, .aload_n 1, 1), (47, .iload 4, 2), (49, .iaload, 1), (50, .isub, 1), (51, .invokestatic 82, 3), (54, .istore_n 3, 1), (55, .iinc 4 1, 3), (58, .goto (-48), 3), (61, .aload_n 0, 1), (62, .arraylength, 1), (63, .newarray .int, 2), (65, .astore 4, 2), (67, .aload_n 0, 1), (68, .arraylength, 1), (69, .newarray .int, 2), (71, .astore 5, 2), (73, .aload_n 0, 1), (74, .arraylength, 1), (75, .newarray .int, 2), (77, .astore 6, 2), (79, .iconst 0, 1), (80, .istore 7, 2), (82, .iload 7, 2), (84, .aload_n 0, 1), (85, .arraylength, 1), (86, .if_icmp .ge 45, 3), (89, .aload 4, 2), (91, .iload 7, 2), (93, .iload 7, 2), (95, .iastore, 1), (96, .aload 5, 2), (98, .iload 7, 2), (100, .aload_n 0, 1), (101, .iload 7, 2), (103, .caload, 1), (104, .sipush 255, 3), (107, .iand, 1), (108, .iconst 1, 1), (109, .iadd, 1), (110, .iastore, 1), (111, .aload 6, 2), (113, .iload 7, 2), (115, .aload_n 0, 1), (116, .iload 7, 2), (118, .caload, 1), (119, .bipush 8, 2), (121, .iushr, 1), (122, .iconst 1, 1), (123, .iadd, 1), (124, .iastore, 1), (125, .iinc 7 1, 3), (128, .goto (-46), 3), (131, .aload_n 0, 1), (132, .arraylength, 1), (133, .sipush 256, 3), (136, .invokestatic 82, 3), (139, .iconst 2, 1), (140, .iadd, 1), (141, .newarray .int, 2), (143, .astore 7, 2), (145, .aload_n 0, 1), (146, .arraylength, 1), (147, .newarray .int, 2), (149, .astore 8, 2), (151, .aload_n 0, 1), (152, .arraylength, 1), (153, .newarray .int, 2), (155, .astore 9, 2), (157, .aload 4, 2), (159, .aload 5, 2), (161, .sipush 256, 3), (164, .aload 7, 2), (166, .aload 8, 2), (168, .invokestatic 85, 3), (171, .aload 8, 2), (173, .aload 6, 2), (175, .sipush 256, 3), (178, .aload 7, 2), (180, .aload 9, 2), (182, .invokestatic 85, 3), (185, .aload_n 0, 1), (186, .arraylength, 1), (187, .newarray .int, 2), (189, .astore 10, 2), (191, .iconst 0, 1), (192, .istore 11, 2), (194, .iconst 0, 1), (195, .istore 12, 2), (197, .iload 12, 2), (199, .aload 9, 2), (201, .arraylength, 1), (202, .if_icmp .ge 46, 3), (205, .iload 12, 2), (207, .ifCond .eq 22, 3), (210, .aload_n 0, 1), (211, .aload 9, 2), (213, .iload 12, 2), (215, .iaload, 1), (216, .caload, 1), (217, .aload_n 0, 1), (218, .aload 9, 2), (220, .iload 12, 2), (222, .iconst 1, 1), (223, .isub, 1), (224, .iaload, 1), (225, .caload, 1), (226, .if_icmp .eq 6, 3), (229, .iinc 11 1, 3), (232, .aload 10, 2), (234, .aload 9, 2), (236, .iload 12, 2), (238, .iaload, 1), (239, .iload 11, 2), (241, .iastore, 1), (242, .iinc 12 1, 3), (245, .goto (-48), 3), (248, .aload 6, 2), (250, .astore 12, 2), (252, .aload 5, 2), (254, .astore 13, 2), (256, .iconst 1, 1), (257, .istore 14, 2), (259, .iload 14, 2), (261, .iload_n 3, 1), (262, .if_icmp .ge 210, 3), (265, .aload 9, 2), (267, .aload 10, 2), (269, .aload_n 2, 1), (270, .iload 14, 2), (272, .invokestatic 89, 3), (275, .ifCond .ne 197, 3), (278, .iconst 0, 1), (279, .istore 15, 2), (281, .iload 15, 2), (283, .aload_n 0, 1), (284, .arraylength, 1), (285, .if_icmp .ge 38, 3), (288, .aload 12, 2), (290, .iload 15, 2), (292, .iload 15, 2), (294, .iload 14, 2), (296, .iadd, 1), (297, .aload_n 2, 1), (298, .iload 15, 2), (300, .iaload, 1), (301, .if_icmp .ge 14, 3), (304, .aload 10, 2), (306, .iload 15, 2), (308, .iload 14, 2), (310, .iadd, 1), (311, .iaload, 1), (312, .goto 4, 3), (315, .iconst 0, 1), (316, .iastore, 1), (317, .iinc 15 1, 3), (320, .goto (-39), 3), (323, .iconst 0, 1), (324, .istore 15, 2), (326, .iconst 0, 1), (327, .istore 16, 2), (329, .iload 16, 2), (331, .aload_n 0, 1), (332, .arraylength, 1), (333, .if_icmp .ge 27, 3), (336, .aload 12, 2), (338, .iload 16, 2), (340, .iaload, 1), (341, .ifCond .ne 13, 3), (344, .aload 8, 2), (346, .iload 15, 2), (348, .iload 16, 2), (350, .iastore, 1), (351, .iinc 15 1, 3), (354, .iinc 16 1, 3), (357, .goto (-28), 3), (360, .aload 9, 2), (362, .astore 16, 2), (364, .aload 16, 2), (366, .arraylength, 1), (367, .istore 17, 2), (369, .iconst 0, 1), (370, .istore 18, 2), (372, .iload 18, 2), (374, .iload 17, 2), (376, .if_icmp .ge 47, 3), (379, .aload 16, 2), (381, .iload 18, 2), (383, .iaload, 1), (384, .istore 19, 2), (386, .iload 19, 2), (388, .iload 14, 2), (390, .if_icmp .lt 27, 3), (393, .aload 12, 2), (395, .iload 19, 2), (397, .iload 14, 2), (399, .isub, 1), (400, .iaload, 1), (401, .ifCond .eq 16, 3), (404, .aload 8, 2), (406, .iload 15, 2), (408, .iload 19, 2), (410, .iload 14, 2), (412, .isub, 1), (413, .iastore, 1), (414, .iinc 15 1, 3), (417, .iinc 18 1, 3), (420, .goto (-48), 3), (423, .aload 8, 2), (425, .aload 10, 2), (427, .iload 11, 2), (429, .aload 7, 2), (431, .aload 9, 2), (433, .invokestatic 85, 3), (436, .aload 9, 2), (438, .aload 7, 2), (440, .iload 11, 2), (442, .aload 12, 2), (444, .aload 13, 2), (446, .invokestatic 93, 3), (449, .istore 11, 2), (451, .aload 10, 2), (453, .astore 16, 2), (455, .aload 13, 2), (457, .astore 10, 2), (459, .aload 16, 2), (461, .astore 13, 2), (463, .iload 14, 2), (465, .iconst 2, 1), (466, .imul, 1), (467, .istore 14, 2), (469, .goto (-210), 3), (472, .aload 9, 2), (474, .areturn, 1)] : List (Nat × Instr × Nat)), decode prog_11_method_11_code x.1 = .ok x.2 := by decide +kernel
theorem pn_rsort : plainName "com/example/even_roster/evenroster/scim/SortedSuffixes" = true := by first | (simp [plainName, overriddenIn]; done) | decide +kernel
theorem ef_rsort (m : MethodId) (x0 : Addr) (x1 : Addr) : entryFrame m #[(.ref x0), (.ref x1)] 20 = mkF m 0 #[.val (.ref x0), .val (.ref x1), .unset, .unset, .unset, .unset, .unset, .unset, .unset, .unset, .unset, .unset, .unset, .unset, .unset, .unset, .unset, .unset, .unset, .unset] [] := by first | (simp [entryFrame, mkF, argsToLocals, Value.category]; done) | rfl
def Q_rsort (Z : State) (a1 : Addr) (a2 : Addr) (N K : Nat) (S : Nat → Nat) (f : Nat → Int32) (h0 : Heap) (n0 : Nat) (v : Option Value) (h : Heap) (L : List Loc) : Prop := ∃ (y : Addr) (F : Nat → Nat), v = some (.ref y) ∧ Fr n0 L ∧ Keep h0 h [] ∧ h0.size ≤ y ∧ ArF Z h y .int N (fun j => .int (oi (F j))) ∧ (∀ j, j < N → F j < N)
set_option maxRecDepth 65536 in
set_option maxHeartbeats 40000000 in
theorem rsort (l : Launch) (Z : State) (a0 : Array Value) (hw : ∀ d ∈ tables_1, d.before a0 Z = true) (ws : List Jvm.Cond) (a1 : Addr) (a2 : Addr) (N K : Nat) (S : Nat → Nat) (f : Nat → Int32) (h0 : Heap) (n0 : Nat) (Z0 : n0 ≤ h0.size) (Vch : ArF Z h0 a1 .char N (fun j => .int (f j))) (Vst : ArF Z h0 a2 .int (K + 1) (fun j => .int (oi (S j)))) (hS : ∀ t, t < K → S t ≤ S (t + 1) ∧ S (t + 1) ≤ N ∧ S (t + 1) - S t ≤ 2) (hB : ∀ j, j < N → own_B (f j)) (h1 : 1 ≤ N) (hN6 : N ≤ 6) (hK3 : K ≤ 3) :
    MetFree l (⟨"com/example/even_roster/evenroster/scim/SortedSuffixes", "sort", "([C[I)[I"⟩ : MethodName) (head1 (Jvm.Cond.code (⟨"com/example/even_roster/evenroster/scim/SortedSuffixes", "sort", "([C[I)[I"⟩ : MethodName) prog_11_method_11_code 20 (some (.array .int)) :: ws) ({ frames := 3, cells := 8, slots := 300, locals := 50 } : Room)) (fun a U => a = #[(.ref a1), (.ref a2)] ∧ Z.Warmed39 U.vm ∧ U.heap = h0) (fun _ _ _ _ _ => True) (fun _ U o U' => ∃ v L, o = .returned v ∧ Q_rsort Z a1 a2 N K S f h0 n0 v U'.heap L ∧ FrameEnd U o U' L ({ frames := 3, cells := 8, slots := 300, locals := 50 } : Room).cells ({ frames := 3, cells := 8, slots := 300, locals := 50 } : Room).slots) := by
  refine MetFree.of_bodySF (plainFor_of_name pn_rsort) hisR ?_
  intro p e s m args below meth c s₁ Bd hml0 hP hK
  obtain ⟨rfl, hZ, hh⟩ := hP
  have hx := Bd.exec
  have hby := Bd.bytes
  have hml : c.maxLocals = 20 := hml0
  have hown : s.vm.findClass "com/example/even_roster/evenroster/scim/SortedSuffixes" = some m.cls := findClass_of_methodNamed Bd.named
  have hnm := (name_of_methodNamed Bd.named Bd.method).1
  have X0 : Stand p l e ({ frames := 3, cells := 8, slots := 300, locals := 50 } : Room) s m #[(.ref a1), (.ref a2)] below meth c s₁ [] 0 0 := Stand.of_body Bd
  have e0 : s₁.heap = h0 := by rw [← hh, Bd.state]; rfl
  have N0 := Fr.nil n0
  have pre0 : ∀ t, Steps p.tables e below (s₁.setTop (mkF m 0 #[.val (.ref a1), .val (.ref a2), .unset, .unset, .unset, .unset, .unset, .unset, .unset, .unset, .unset, .unset, .unset, .unset, .unset, .unset, .unset, .unset, .unset, .unset] [])) t → Steps p.tables e below (s₁.setTop (entryFrame m #[(.ref a1), (.ref a2)] 20)) t := fun t k => castTop (ef_rsort m a1 a2) k
  have K0 := Keep.refl h0 []
  refine own_cps fun G hG => ?_
  obtain ⟨cl1, Ar1, S1, H1⟩ := id Vch
  replace S1 : Sq cl1.slots.size _ := S1
  obtain ⟨T2, h2, k2, X2, e2, E2, A2, st2⟩ := newP X0 hx hZ (wq hw 89 rfl) e0 (g := (mkF m 2 #[.val (.ref a1), .val (.ref a2), .unset, .unset, .unset, .unset, .unset, .unset, .unset, .unset, .unset, .unset, .unset, .unset, .unset, .unset, .unset, .unset, .unset, .unset] [(.int (oi N))])) rfl (dq hby D32 2 rfl) rfl (oi_nn (by omega)) (cap := 6) (by rw [oi_n (k := N) (by omega)]; omega) (by decide) (by decide) (by decide)
  obtain ⟨b2, g2⟩ : ∃ z, z = h0.size := ⟨_, rfl⟩
  rw [← g2] at A2 st2
  have ne_a1_b2 : Dif a1 b2 := Nat.ne_of_lt (Nat.lt_of_lt_of_le Vch.lt (Nat.le_of_eq g2.symm))
  have ne_a2_b2 : Dif a2 b2 := Nat.ne_of_lt (Nat.lt_of_lt_of_le Vst.lt (Nat.le_of_eq g2.symm))
  have g_b2 : Lq n0 b2 := Nat.le_trans Z0 (Nat.le_of_eq g2.symm)
  have sz_b2 : Lq h0.size b2 := Nat.le_trans K0.1 (Nat.le_of_eq g2.symm)
  clear g2
  have Vch_v2 := Vch.ext E2
  have Vst_v2 := Vst.ext E2
  have Z2 : Lq n0 h2.size := Nat.le_trans Z0 E2.1
  have K2 := K0.ext E2
  have V2_v2 : ArF Z h2 b2 .int (oi N).toNatClampNeg (fun _ => (.int 0)) := ArF.mk0 A2 rfl rfl
  have VM3_v3 : ArF Z h2 b2 .int N (fun j => .int (oi ((fun _ => 0) j))) := by rw [oi_n (k := N) (by omega)] at V2_v2; exact V2_v2
  have pre4 : ∀ t, Steps p.tables e below (T2.setTop (mkF m 10 #[.val (.ref a1), .val (.ref a2), .val (.ref b2), .val (.int (0 : Int32)), .val (.int (0 : Int32)), .unset, .unset, .unset, .unset, .unset, .unset, .unset, .unset, .unset, .unset, .unset, .unset, .unset, .unset, .unset] [])) t → Steps p.tables e below (s₁.setTop (entryFrame m #[(.ref a1), (.ref a2)] 20)) t := by
    intro t k
    refine pre0 t ?_
    refine XS.aloadN X0.here hx rfl (dq hby D32 0 rfl) rfl rfl ?_
    refine X0.arraylength hx (by rw [e0]; exact Ar1.1) (State.isArrayOf_alike hZ.alike Ar1.2.1) (g := (mkF m 1 #[.val (.ref a1), .val (.ref a2), .unset, .unset, .unset, .unset, .unset, .unset, .unset, .unset, .unset, .unset, .unset, .unset, .unset, .unset, .unset, .unset, .unset, .unset] [(.ref a1)])) rfl rfl (dq hby D32 1 rfl) _ ?_
    rw [show cl1.slots.size.toInt32 = (oi N) from (congrArg Nat.toInt32 S1).trans rfl]
    refine st2 _ ?_
    refine XS.astoreN X2.here hx rfl (dq hby D32 3 rfl) rfl rfl (l' := #[.val (.ref a1), .val (.ref a2), .val (.ref b2), .unset, .unset, .unset, .unset, .unset, .unset, .unset, .unset, .unset, .unset, .unset, .unset, .unset, .unset, .unset, .unset, .unset]) rfl ?_
    refine XS.iconst X2.here hx rfl (dq hby D32 4 rfl) ?_
    refine XS.istoreN X2.here hx rfl (dq hby D32 5 rfl) rfl (l' := #[.val (.ref a1), .val (.ref a2), .val (.ref b2), .val (.int (0 : Int32)), .unset, .unset, .unset, .unset, .unset, .unset, .unset, .unset, .unset, .unset, .unset, .unset, .unset, .unset, .unset, .unset]) rfl ?_
    refine XS.iconst X2.here hx rfl (dq hby D32 6 rfl) ?_
    refine XS.istore X2.here hx rfl (dq hby D32 7 rfl) rfl (l' := #[.val (.ref a1), .val (.ref a2), .val (.ref b2), .val (.int (0 : Int32)), .val (.int (0 : Int32)), .unset, .unset, .unset, .unset, .unset, .unset, .unset, .unset, .unset, .unset, .unset, .unset, .unset, .unset, .unset]) rfl ?_
    exact k
  have loop5 : ∀ (k5 : Nat) (TL5 : State) (Lc5 : List Loc) (hL5 : Heap) (lo : Nat) (tx : Nat) (E : Nat → Nat), Stand p l e ({ frames := 3, cells := 8, slots := 300, locals := 50 } : Room) s m #[(.ref a1), (.ref a2)] below meth c TL5 Lc5 1 6 → TL5.heap = hL5 → Fr n0 Lc5 → Lq n0 hL5.size → Keep h0 hL5 [] → ArF Z hL5 a1 .char N (fun j => .int (f j)) → ArF Z hL5 a2 .int (K + 1) (fun j => .int (oi (S j))) → ArF Z hL5 b2 .int N (fun j => .int (oi (E j))) → tx + k5 = K → (∀ j, j < N → E j ≤ N) → lo ≤ 2 → (∀ t, Steps p.tables e below (TL5.setTop (mkF m 10 #[.val (.ref a1), .val (.ref a2), .val (.ref b2), .val (.int (oi lo)), .val (.int (oi tx)), .unset, .unset, .unset, .unset, .unset, .unset, .unset, .unset, .unset, .unset, .unset, .unset, .unset, .unset, .unset] [])) t → Steps p.tables e below (s₁.setTop (entryFrame m #[(.ref a1), (.ref a2)] 20)) t) → G := by
    intro k5
    induction k5 with
    | zero =>
      intro TL5 Lc5 hL5 lo tx E XL5 eL5 NL5 ZL5 KL5 lf5_0_v5 lf5_1_v5 lf5_2_v5 hk hE hlo prL5
      obtain ⟨cl6, Ar6, S6, H6⟩ := id lf5_1_v5
      replace S6 : Sq cl6.slots.size _ := S6
      obtain ⟨cl7, Ar7, S7, H7⟩ := id lf5_0_v5
      replace S7 : Sq cl7.slots.size _ := S7
      obtain ⟨T8, h8, k8, X8, e8, E8, A8, st8⟩ := newP XL5 hx hZ (wq hw 89 rfl) eL5 (g := (mkF m 63 #[.val (.ref a1), .val (.ref a2), .val (.ref b2), .val (.int (oi lo)), .val (.int (oi tx)), .unset, .unset, .unset, .unset, .unset, .unset, .unset, .unset, .unset, .unset, .unset, .unset, .unset, .unset, .unset] [(.int (oi N))])) rfl (dq hby D32 45 rfl) rfl (oi_nn (by omega)) (cap := 6) (by rw [oi_n (k := N) (by omega)]; omega) (by decide) (by decide) (by decide)
      obtain ⟨b8, g8⟩ : ∃ z, z = hL5.size := ⟨_, rfl⟩
      rw [← g8] at A8 st8
      have ne_a1_b8 : Dif a1 b8 := Nat.ne_of_lt (Nat.lt_of_lt_of_le lf5_0_v5.lt (Nat.le_of_eq g8.symm))
      have ne_a2_b8 : Dif a2 b8 := Nat.ne_of_lt (Nat.lt_of_lt_of_le lf5_1_v5.lt (Nat.le_of_eq g8.symm))
      have ne_b2_b8 : Dif b2 b8 := Nat.ne_of_lt (Nat.lt_of_lt_of_le lf5_2_v5.lt (Nat.le_of_eq g8.symm))
      have g_b8 : Lq n0 b8 := Nat.le_trans ZL5 (Nat.le_of_eq g8.symm)
      have sz_b8 : Lq h0.size b8 := Nat.le_trans KL5.1 (Nat.le_of_eq g8.symm)
      clear g8
      have lf5_0_v8 := lf5_0_v5.ext E8
      have lf5_1_v8 := lf5_1_v5.ext E8
      have lf5_2_v8 := lf5_2_v5.ext E8
      have Z8 : Lq n0 h8.size := Nat.le_trans ZL5 E8.1
      have K8 := KL5.ext E8
      have V8_v8 : ArF Z h8 b8 .int (oi N).toNatClampNeg (fun _ => (.int 0)) := ArF.mk0 A8 rfl rfl
      have VM9_v9 : ArF Z h8 b8 .int N (fun j => .int (oi ((fun _ => 0) j))) := by rw [oi_n (k := N) (by omega)] at V8_v8; exact V8_v8
      obtain ⟨cl10, Ar10, S10, H10⟩ := id lf5_0_v8
      replace S10 : Sq cl10.slots.size _ := S10
      obtain ⟨T11, h11, k11, X11, e11, E11, A11, st11⟩ := newP X8 hx hZ (wq hw 89 rfl) e8 (g := (mkF m 69 #[.val (.ref a1), .val (.ref a2), .val (.ref b2), .val (.int (oi lo)), .val (.ref b8), .unset, .unset, .unset, .unset, .unset, .unset, .unset, .unset, .unset, .unset, .unset, .unset, .unset, .unset, .unset] [(.int (oi N))])) rfl (dq hby D32 49 rfl) rfl (oi_nn (by omega)) (cap := 6) (by rw [oi_n (k := N) (by omega)]; omega) (by decide) (by decide) (by decide)
      obtain ⟨b11, g11⟩ : ∃ z, z = h8.size := ⟨_, rfl⟩
      rw [← g11] at A11 st11
      have ne_a1_b11 : Dif a1 b11 := Nat.ne_of_lt (Nat.lt_of_lt_of_le lf5_0_v8.lt (Nat.le_of_eq g11.symm))
      have ne_a2_b11 : Dif a2 b11 := Nat.ne_of_lt (Nat.lt_of_lt_of_le lf5_1_v8.lt (Nat.le_of_eq g11.symm))
      have ne_b2_b11 : Dif b2 b11 := Nat.ne_of_lt (Nat.lt_of_lt_of_le lf5_2_v8.lt (Nat.le_of_eq g11.symm))
      have ne_b8_b11 : Dif b8 b11 := Nat.ne_of_lt (Nat.lt_of_lt_of_le VM9_v9.lt (Nat.le_of_eq g11.symm))
      have g_b11 : Lq n0 b11 := Nat.le_trans Z8 (Nat.le_of_eq g11.symm)
      have sz_b11 : Lq h0.size b11 := Nat.le_trans K8.1 (Nat.le_of_eq g11.symm)
      clear g11
      have lf5_0_v11 := lf5_0_v8.ext E11
      have lf5_1_v11 := lf5_1_v8.ext E11
      have lf5_2_v11 := lf5_2_v8.ext E11
      have VM9_v11 := VM9_v9.ext E11
      have Z11 : Lq n0 h11.size := Nat.le_trans Z8 E11.1
      have K11 := K8.ext E11
      have V11_v11 : ArF Z h11 b11 .int (oi N).toNatClampNeg (fun _ => (.int 0)) := ArF.mk0 A11 rfl rfl
      have VM12_v12 : ArF Z h11 b11 .int N (fun j => .int (oi ((fun _ => 0) j))) := by rw [oi_n (k := N) (by omega)] at V11_v11; exact V11_v11
      obtain ⟨cl13, Ar13, S13, H13⟩ := id lf5_0_v11
      replace S13 : Sq cl13.slots.size _ := S13
      obtain ⟨T14, h14, k14, X14, e14, E14, A14, st14⟩ := newP X11 hx hZ (wq hw 89 rfl) e11 (g := (mkF m 75 #[.val (.ref a1), .val (.ref a2), .val (.ref b2), .val (.int (oi lo)), .val (.ref b8), .val (.ref b11), .unset, .unset, .unset, .unset, .unset, .unset, .unset, .unset, .unset, .unset, .unset, .unset, .unset, .unset] [(.int (oi N))])) rfl (dq hby D32 53 rfl) rfl (oi_nn (by omega)) (cap := 6) (by rw [oi_n (k := N) (by omega)]; omega) (by decide) (by decide) (by decide)
      obtain ⟨b14, g14⟩ : ∃ z, z = h11.size := ⟨_, rfl⟩
      rw [← g14] at A14 st14
      have ne_a1_b14 : Dif a1 b14 := Nat.ne_of_lt (Nat.lt_of_lt_of_le lf5_0_v11.lt (Nat.le_of_eq g14.symm))
      have ne_a2_b14 : Dif a2 b14 := Nat.ne_of_lt (Nat.lt_of_lt_of_le lf5_1_v11.lt (Nat.le_of_eq g14.symm))
      have ne_b2_b14 : Dif b2 b14 := Nat.ne_of_lt (Nat.lt_of_lt_of_le lf5_2_v11.lt (Nat.le_of_eq g14.symm))
      have ne_b8_b14 : Dif b8 b14 := Nat.ne_of_lt (Nat.lt_of_lt_of_le VM9_v11.lt (Nat.le_of_eq g14.symm))
      have ne_b11_b14 : Dif b11 b14 := Nat.ne_of_lt (Nat.lt_of_lt_of_le VM12_v12.lt (Nat.le_of_eq g14.symm))
      have g_b14 : Lq n0 b14 := Nat.le_trans Z11 (Nat.le_of_eq g14.symm)
      have sz_b14 : Lq h0.size b14 := Nat.le_trans K11.1 (Nat.le_of_eq g14.symm)
      clear g14
      have lf5_0_v14 := lf5_0_v11.ext E14
      have lf5_1_v14 := lf5_1_v11.ext E14
      have lf5_2_v14 := lf5_2_v11.ext E14
      have VM9_v14 := VM9_v11.ext E14
      have VM12_v14 := VM12_v12.ext E14
      have Z14 : Lq n0 h14.size := Nat.le_trans Z11 E14.1
      have K14 := K11.ext E14
      have V14_v14 : ArF Z h14 b14 .int (oi N).toNatClampNeg (fun _ => (.int 0)) := ArF.mk0 A14 rfl rfl
      have VM15_v15 : ArF Z h14 b14 .int N (fun j => .int (oi ((fun _ => 0) j))) := by rw [oi_n (k := N) (by omega)] at V14_v14; exact V14_v14
      have pre16 : ∀ t, Steps p.tables e below (T14.setTop (mkF m 82 #[.val (.ref a1), .val (.ref a2), .val (.ref b2), .val (.int (oi lo)), .val (.ref b8), .val (.ref b11), .val (.ref b14), .val (.int (0 : Int32)), .unset, .unset, .unset, .unset, .unset, .unset, .unset, .unset, .unset, .unset, .unset, .unset] [])) t → Steps p.tables e below (s₁.setTop (entryFrame m #[(.ref a1), (.ref a2)] 20)) t := by
        intro t k
        refine prL5 t ?_
        refine XS.iload XL5.here hx rfl (dq hby D32 8 rfl) rfl ?_
        refine XS.iconst XL5.here hx rfl (dq hby D32 9 rfl) ?_
        refine XS.iadd XL5.here hx rfl (dq hby D32 10 rfl) rfl ?_
        show Steps p.tables e below (TL5.setTop (mkF m 14 #[.val (.ref a1), .val (.ref a2), .val (.ref b2), .val (.int (oi lo)), .val (.int (oi tx)), .unset, .unset, .unset, .unset, .unset, .unset, .unset, .unset, .unset, .unset, .unset, .unset, .unset, .unset, .unset] [(.int ((oi tx) + (1 : Int32)))])) _
        rw [oi_s (tx)]
        refine XS.aloadN XL5.here hx rfl (dq hby D32 11 rfl) rfl rfl ?_
        refine XL5.arraylength hx (by rw [eL5]; exact Ar6.1) (State.isArrayOf_alike hZ.alike Ar6.2.1) (g := (mkF m 15 #[.val (.ref a1), .val (.ref a2), .val (.ref b2), .val (.int (oi lo)), .val (.int (oi tx)), .unset, .unset, .unset, .unset, .unset, .unset, .unset, .unset, .unset, .unset, .unset, .unset, .unset, .unset, .unset] [(.ref a2), (.int (oi (tx + 1)))])) rfl rfl (dq hby D32 12 rfl) _ ?_
        rw [show cl6.slots.size.toInt32 = (oi (K + 1)) from (congrArg Nat.toInt32 S6).trans rfl]
        refine XS.icmpYes XL5.here hx rfl (pc0 := 16) (pc' := 61) rfl (dq hby D32 13 rfl) rfl (flt ((by rw [oi_lt (by omega) (by omega)]; omega) : ¬ ((oi (tx + 1)) < (oi (K + 1))))).2.1 (by decide) (by decide) ?_
        refine XS.aloadN XL5.here hx rfl (dq hby D32 43 rfl) rfl rfl ?_
        refine XL5.arraylength hx (by rw [eL5]; exact Ar7.1) (State.isArrayOf_alike hZ.alike Ar7.2.1) (g := (mkF m 62 #[.val (.ref a1), .val (.ref a2), .val (.ref b2), .val (.int (oi lo)), .val (.int (oi tx)), .unset, .unset, .unset, .unset, .unset, .unset, .unset, .unset, .unset, .unset, .unset, .unset, .unset, .unset, .unset] [(.ref a1)])) rfl rfl (dq hby D32 44 rfl) _ ?_
        rw [show cl7.slots.size.toInt32 = (oi N) from (congrArg Nat.toInt32 S7).trans rfl]
        refine st8 _ ?_
        refine XS.astore X8.here hx rfl (dq hby D32 46 rfl) rfl rfl (l' := #[.val (.ref a1), .val (.ref a2), .val (.ref b2), .val (.int (oi lo)), .val (.ref b8), .unset, .unset, .unset, .unset, .unset, .unset, .unset, .unset, .unset, .unset, .unset, .unset, .unset, .unset, .unset]) rfl ?_
        refine XS.aloadN X8.here hx rfl (dq hby D32 47 rfl) rfl rfl ?_
        refine X8.arraylength hx (by rw [e8]; exact Ar10.1) (State.isArrayOf_alike hZ.alike Ar10.2.1) (g := (mkF m 68 #[.val (.ref a1), .val (.ref a2), .val (.ref b2), .val (.int (oi lo)), .val (.ref b8), .unset, .unset, .unset, .unset, .unset, .unset, .unset, .unset, .unset, .unset, .unset, .unset, .unset, .unset, .unset] [(.ref a1)])) rfl rfl (dq hby D32 48 rfl) _ ?_
        rw [show cl10.slots.size.toInt32 = (oi N) from (congrArg Nat.toInt32 S10).trans rfl]
        refine st11 _ ?_
        refine XS.astore X11.here hx rfl (dq hby D32 50 rfl) rfl rfl (l' := #[.val (.ref a1), .val (.ref a2), .val (.ref b2), .val (.int (oi lo)), .val (.ref b8), .val (.ref b11), .unset, .unset, .unset, .unset, .unset, .unset, .unset, .unset, .unset, .unset, .unset, .unset, .unset, .unset]) rfl ?_
        refine XS.aloadN X11.here hx rfl (dq hby D32 51 rfl) rfl rfl ?_
        refine X11.arraylength hx (by rw [e11]; exact Ar13.1) (State.isArrayOf_alike hZ.alike Ar13.2.1) (g := (mkF m 74 #[.val (.ref a1), .val (.ref a2), .val (.ref b2), .val (.int (oi lo)), .val (.ref b8), .val (.ref b11), .unset, .unset, .unset, .unset, .unset, .unset, .unset, .unset, .unset, .unset, .unset, .unset, .unset, .unset] [(.ref a1)])) rfl rfl (dq hby D32 52 rfl) _ ?_
        rw [show cl13.slots.size.toInt32 = (oi N) from (congrArg Nat.toInt32 S13).trans rfl]
        refine st14 _ ?_
        refine XS.astore X14.here hx rfl (dq hby D32 54 rfl) rfl rfl (l' := #[.val (.ref a1), .val (.ref a2), .val (.ref b2), .val (.int (oi lo)), .val (.ref b8), .val (.ref b11), .val (.ref b14), .unset, .unset, .unset, .unset, .unset, .unset, .unset, .unset, .unset, .unset, .unset, .unset, .unset]) rfl ?_
        refine XS.iconst X14.here hx rfl (dq hby D32 55 rfl) ?_
        refine XS.istore X14.here hx rfl (dq hby D32 56 rfl) rfl (l' := #[.val (.ref a1), .val (.ref a2), .val (.ref b2), .val (.int (oi lo)), .val (.ref b8), .val (.ref b11), .val (.ref b14), .val (.int (0 : Int32)), .unset, .unset, .unset, .unset, .unset, .unset, .unset, .unset, .unset, .unset, .unset, .unset]) rfl ?_
        exact k
      have loop17 : ∀ (k17 : Nat) (TL17 : State) (Lc17 : List Loc) (hL17 : Heap) (i : Nat), Stand p l e ({ frames := 3, cells := 8, slots := 300, locals := 50 } : Room) s m #[(.ref a1), (.ref a2)] below meth c TL17 Lc17 4 24 → TL17.heap = hL17 → Fr n0 Lc17 → Lq n0 hL17.size → Keep h0 hL17 [] → ArF Z hL17 a1 .char N (fun j => .int (f j)) → ArF Z hL17 a2 .int (K + 1) (fun j => .int (oi (S j))) → ArF Z hL17 b2 .int N (fun j => .int (oi (E j))) → ArF Z hL17 b8 .int N (fun j => .int (oi (tab (fun j => j) i j))) → ArF Z hL17 b11 .int N (fun j => .int (oi (tab (lowN f) i j))) → ArF Z hL17 b14 .int N (fun j => .int (oi (tab (hiN f) i j))) → i + k17 = N → (∀ t, Steps p.tables e below (TL17.setTop (mkF m 82 #[.val (.ref a1), .val (.ref a2), .val (.ref b2), .val (.int (oi lo)), .val (.ref b8), .val (.ref b11), .val (.ref b14), .val (.int (oi i)), .unset, .unset, .unset, .unset, .unset, .unset, .unset, .unset, .unset, .unset, .unset, .unset] [])) t → Steps p.tables e below (s₁.setTop (entryFrame m #[(.ref a1), (.ref a2)] 20)) t) → G := by
        intro k17
        induction k17 with
        | zero =>
          intro TL17 Lc17 hL17 i XL17 eL17 NL17 ZL17 KL17 lf17_0_v17 lf17_1_v17 lf17_2_v17 lf17_3_v17 lf17_4_v17 lf17_5_v17 hk prL17
          obtain ⟨cl18, Ar18, S18, H18⟩ := id lf17_0_v17
          replace S18 : Sq cl18.slots.size _ := S18
          obtain ⟨cl19, Ar19, S19, H19⟩ := id lf17_0_v17
          replace S19 : Sq cl19.slots.size _ := S19
          obtain ⟨_, _, ⟨T20, L20, k20, n20⟩, -, X20, ⟨Lc20, hQ20, l20, y20, z20⟩, st20⟩ := Jvm.LawKit.callS XL17 hx (y := (⟨"java/lang/Math", "max", "(II)I"⟩ : MethodName)) hown (mvT hZ (wq hw 183 rfl)) (mvT hZ (wq hw 83 rfl)) (mvT hZ (wq hw 84 rfl)) (mvT hZ (wq hw 85 rfl)) (by decide) (backOf (W := 0) (rmax l Z a0 hw [] (N) 256 hL17 n0 ZL17 (by omega) (by omega)) hZ (wq hw 85 rfl) (wq hw 84 rfl) (by decide) (by decide)) (g := (mkF m 136 #[.val (.ref a1), .val (.ref a2), .val (.ref b2), .val (.int (oi lo)), .val (.ref b8), .val (.ref b11), .val (.ref b14), .val (.int (oi i)), .unset, .unset, .unset, .unset, .unset, .unset, .unset, .unset, .unset, .unset, .unset, .unset] [(.int (256 : Int32)), (.int (oi N))])) rfl (by rw [hml]; rfl) (argsL := [(.int (oi N)), (.int (256 : Int32))]) (rest := []) (lenOf pd_2 rfl) rfl (by show 2 * 0 + _ ≤ _; exact Nat.le_of_eq rfl) (dq hby D32 90 rfl) (fun _ _ => ⟨rfl, eL17, (by decide : 4 + 0 ≤ _), (by decide : 24 + 0 ≤ _)⟩)
          dsimp only [Pt.U, Pt.locs, Pt.cells, Pt.slots] at X20 l20 y20 z20 st20 hQ20
          subst l20 y20 z20
          obtain ⟨rfl, N20q, e20⟩ := hQ20
          have N20 := Fr.app NL17 N20q
          obtain ⟨T21, h21, k21, X21, e21, E21, A21, st21⟩ := newP X20 hx hZ (wq hw 89 rfl) e20 (g := (mkF m 141 #[.val (.ref a1), .val (.ref a2), .val (.ref b2), .val (.int (oi lo)), .val (.ref b8), .val (.ref b11), .val (.ref b14), .val (.int (oi i)), .unset, .unset, .unset, .unset, .unset, .unset, .unset, .unset, .unset, .unset, .unset, .unset] [(.int (258 : Int32))])) rfl (dq hby D32 93 rfl) rfl (by decide) (cap := 258) (by decide) (by decide) (by decide) (by decide)
          obtain ⟨b21, g21⟩ : ∃ z, z = hL17.size := ⟨_, rfl⟩
          rw [← g21] at A21 st21
          have ne_a1_b21 : Dif a1 b21 := Nat.ne_of_lt (Nat.lt_of_lt_of_le lf17_0_v17.lt (Nat.le_of_eq g21.symm))
          have ne_a2_b21 : Dif a2 b21 := Nat.ne_of_lt (Nat.lt_of_lt_of_le lf17_1_v17.lt (Nat.le_of_eq g21.symm))
          have ne_b2_b21 : Dif b2 b21 := Nat.ne_of_lt (Nat.lt_of_lt_of_le lf17_2_v17.lt (Nat.le_of_eq g21.symm))
          have ne_b8_b21 : Dif b8 b21 := Nat.ne_of_lt (Nat.lt_of_lt_of_le lf17_3_v17.lt (Nat.le_of_eq g21.symm))
          have ne_b11_b21 : Dif b11 b21 := Nat.ne_of_lt (Nat.lt_of_lt_of_le lf17_4_v17.lt (Nat.le_of_eq g21.symm))
          have ne_b14_b21 : Dif b14 b21 := Nat.ne_of_lt (Nat.lt_of_lt_of_le lf17_5_v17.lt (Nat.le_of_eq g21.symm))
          have g_b21 : Lq n0 b21 := Nat.le_trans ZL17 (Nat.le_of_eq g21.symm)
          have sz_b21 : Lq h0.size b21 := Nat.le_trans KL17.1 (Nat.le_of_eq g21.symm)
          clear g21
          have lf17_0_v21 := lf17_0_v17.ext E21
          have lf17_1_v21 := lf17_1_v17.ext E21
          have lf17_2_v21 := lf17_2_v17.ext E21
          have lf17_3_v21 := lf17_3_v17.ext E21
          have lf17_4_v21 := lf17_4_v17.ext E21
          have lf17_5_v21 := lf17_5_v17.ext E21
          have Z21 : Lq n0 h21.size := Nat.le_trans ZL17 E21.1
          have K21 := KL17.ext E21
          have V21_v21 : ArF Z h21 b21 .int 258 (fun _ => (.int 0)) := ArF.mk0 A21 rfl rfl
          obtain ⟨cl23, Ar23, S23, H23⟩ := id lf17_0_v21
          replace S23 : Sq cl23.slots.size _ := S23
          obtain ⟨T24, h24, k24, X24, e24, E24, A24, st24⟩ := newP X21 hx hZ (wq hw 89 rfl) e21 (g := (mkF m 147 #[.val (.ref a1), .val (.ref a2), .val (.ref b2), .val (.int (oi lo)), .val (.ref b8), .val (.ref b11), .val (.ref b14), .val (.ref b21), .unset, .unset, .unset, .unset, .unset, .unset, .unset, .unset, .unset, .unset, .unset, .unset] [(.int (oi N))])) rfl (dq hby D32 97 rfl) rfl (oi_nn (by omega)) (cap := 6) (by rw [oi_n (k := N) (by omega)]; omega) (by decide) (by decide) (by decide)
          obtain ⟨b24, g24⟩ : ∃ z, z = h21.size := ⟨_, rfl⟩
          rw [← g24] at A24 st24
          have ne_a1_b24 : Dif a1 b24 := Nat.ne_of_lt (Nat.lt_of_lt_of_le lf17_0_v21.lt (Nat.le_of_eq g24.symm))
          have ne_a2_b24 : Dif a2 b24 := Nat.ne_of_lt (Nat.lt_of_lt_of_le lf17_1_v21.lt (Nat.le_of_eq g24.symm))
          have ne_b2_b24 : Dif b2 b24 := Nat.ne_of_lt (Nat.lt_of_lt_of_le lf17_2_v21.lt (Nat.le_of_eq g24.symm))
          have ne_b8_b24 : Dif b8 b24 := Nat.ne_of_lt (Nat.lt_of_lt_of_le lf17_3_v21.lt (Nat.le_of_eq g24.symm))
          have ne_b11_b24 : Dif b11 b24 := Nat.ne_of_lt (Nat.lt_of_lt_of_le lf17_4_v21.lt (Nat.le_of_eq g24.symm))
          have ne_b14_b24 : Dif b14 b24 := Nat.ne_of_lt (Nat.lt_of_lt_of_le lf17_5_v21.lt (Nat.le_of_eq g24.symm))
          have ne_b21_b24 : Dif b21 b24 := Nat.ne_of_lt (Nat.lt_of_lt_of_le V21_v21.lt (Nat.le_of_eq g24.symm))
          have g_b24 : Lq n0 b24 := Nat.le_trans Z21 (Nat.le_of_eq g24.symm)
          have sz_b24 : Lq h0.size b24 := Nat.le_trans K21.1 (Nat.le_of_eq g24.symm)
          clear g24
          have lf17_0_v24 := lf17_0_v21.ext E24
          have lf17_1_v24 := lf17_1_v21.ext E24
          have lf17_2_v24 := lf17_2_v21.ext E24
          have lf17_3_v24 := lf17_3_v21.ext E24
          have lf17_4_v24 := lf17_4_v21.ext E24
          have lf17_5_v24 := lf17_5_v21.ext E24
          have V21_v24 := V21_v21.ext E24
          have Z24 : Lq n0 h24.size := Nat.le_trans Z21 E24.1
          have K24 := K21.ext E24
          have V24_v24 : ArF Z h24 b24 .int (oi N).toNatClampNeg (fun _ => (.int 0)) := ArF.mk0 A24 rfl rfl
          have VM25_v25 : ArF Z h24 b24 .int N (fun j => .int (oi ((fun _ => 0) j))) := by rw [oi_n (k := N) (by omega)] at V24_v24; exact V24_v24
          obtain ⟨cl26, Ar26, S26, H26⟩ := id lf17_0_v24
          replace S26 : Sq cl26.slots.size _ := S26
          obtain ⟨T27, h27, k27, X27, e27, E27, A27, st27⟩ := newP X24 hx hZ (wq hw 89 rfl) e24 (g := (mkF m 153 #[.val (.ref a1), .val (.ref a2), .val (.ref b2), .val (.int (oi lo)), .val (.ref b8), .val (.ref b11), .val (.ref b14), .val (.ref b21), .val (.ref b24), .unset, .unset, .unset, .unset, .unset, .unset, .unset, .unset, .unset, .unset, .unset] [(.int (oi N))])) rfl (dq hby D32 101 rfl) rfl (oi_nn (by omega)) (cap := 6) (by rw [oi_n (k := N) (by omega)]; omega) (by decide) (by decide) (by decide)
          obtain ⟨b27, g27⟩ : ∃ z, z = h24.size := ⟨_, rfl⟩
          rw [← g27] at A27 st27
          have ne_a1_b27 : Dif a1 b27 := Nat.ne_of_lt (Nat.lt_of_lt_of_le lf17_0_v24.lt (Nat.le_of_eq g27.symm))
          have ne_a2_b27 : Dif a2 b27 := Nat.ne_of_lt (Nat.lt_of_lt_of_le lf17_1_v24.lt (Nat.le_of_eq g27.symm))
          have ne_b2_b27 : Dif b2 b27 := Nat.ne_of_lt (Nat.lt_of_lt_of_le lf17_2_v24.lt (Nat.le_of_eq g27.symm))
          have ne_b8_b27 : Dif b8 b27 := Nat.ne_of_lt (Nat.lt_of_lt_of_le lf17_3_v24.lt (Nat.le_of_eq g27.symm))
          have ne_b11_b27 : Dif b11 b27 := Nat.ne_of_lt (Nat.lt_of_lt_of_le lf17_4_v24.lt (Nat.le_of_eq g27.symm))
          have ne_b14_b27 : Dif b14 b27 := Nat.ne_of_lt (Nat.lt_of_lt_of_le lf17_5_v24.lt (Nat.le_of_eq g27.symm))
          have ne_b21_b27 : Dif b21 b27 := Nat.ne_of_lt (Nat.lt_of_lt_of_le V21_v24.lt (Nat.le_of_eq g27.symm))
          have ne_b24_b27 : Dif b24 b27 := Nat.ne_of_lt (Nat.lt_of_lt_of_le VM25_v25.lt (Nat.le_of_eq g27.symm))
          have g_b27 : Lq n0 b27 := Nat.le_trans Z24 (Nat.le_of_eq g27.symm)
          have sz_b27 : Lq h0.size b27 := Nat.le_trans K24.1 (Nat.le_of_eq g27.symm)
          clear g27
          have lf17_0_v27 := lf17_0_v24.ext E27
          have lf17_1_v27 := lf17_1_v24.ext E27
          have lf17_2_v27 := lf17_2_v24.ext E27
          have lf17_3_v27 := lf17_3_v24.ext E27
          have lf17_4_v27 := lf17_4_v24.ext E27
          have lf17_5_v27 := lf17_5_v24.ext E27
          have V21_v27 := V21_v24.ext E27
          have VM25_v27 := VM25_v25.ext E27
          have Z27 : Lq n0 h27.size := Nat.le_trans Z24 E27.1
          have K27 := K24.ext E27
          have V27_v27 : ArF Z h27 b27 .int (oi N).toNatClampNeg (fun _ => (.int 0)) := ArF.mk0 A27 rfl rfl
          have VM28_v28 : ArF Z h27 b27 .int N (fun j => .int (oi ((fun _ => 0) j))) := by rw [oi_n (k := N) (by omega)] at V27_v27; exact V27_v27
          obtain ⟨_, _, ⟨T29, L29, k29, n29⟩, -, X29, ⟨Lc29, hQ29, l29, y29, z29⟩, st29⟩ := Jvm.LawKit.callS X27 hx (y := (⟨"com/example/even_roster/evenroster/scim/SortedSuffixes", "byRank", "([I[II[I[I)V"⟩ : MethodName)) hown (mvT hZ (wq hw 184 rfl)) (mvT hZ (wq hw 185 rfl)) (mvT hZ (wq hw 92 rfl)) (mvT hZ (wq hw 186 rfl)) (by decide) (backOf (W := 0) (rby l Z a0 hw [] b8 b11 b21 b24 N 258 256 (tab (fun j => j) i) (tab (lowN f) i) (fun _ => 0) (fun _ => 0) h27 n0 Z27 lf17_3_v27 lf17_4_v27 V21_v27 VM25_v27 g_b21 g_b24 ne_b8_b21 ne_b11_b21 (Ne.symm ne_b21_b24) ne_b8_b24 ne_b11_b24 (fun j hj => by rw [tab_in (by omega)]; exact hj) (fun j hj => by rw [tab_in (by omega)]; exact low_le f j) (fun j hj => by omega) (by omega) (by decide) (by omega)) hZ (wq hw 186 rfl) (wq hw 92 rfl) (by decide) (by decide)) (g := (mkF m 168 #[.val (.ref a1), .val (.ref a2), .val (.ref b2), .val (.int (oi lo)), .val (.ref b8), .val (.ref b11), .val (.ref b14), .val (.ref b21), .val (.ref b24), .val (.ref b27), .unset, .unset, .unset, .unset, .unset, .unset, .unset, .unset, .unset, .unset] [(.ref b24), (.ref b21), (.int (256 : Int32)), (.ref b11), (.ref b8)])) rfl (by rw [hml]; rfl) (argsL := [(.ref b8), (.ref b11), (.int (256 : Int32)), (.ref b21), (.ref b24)]) (rest := []) (lenOf pd_3 rfl) rfl (by show 2 * 0 + _ ≤ _; exact Nat.le_of_eq rfl) (dq hby D32 108 rfl) (fun _ _ => ⟨rfl, e27, (by decide : 7 + 0 ≤ _), (by decide : 294 + 0 ≤ _)⟩)
          dsimp only [Pt.U, Pt.locs, Pt.cells, Pt.slots] at X29 l29 y29 z29 st29 hQ29
          subst l29 y29 z29
          obtain ⟨cc1, F1, rfl, N29q, Kc29, nf29_0_v29, nf29_1_v29, hq1, hF1, hp1⟩ := hQ29
          have N29 := Fr.app N20 N29q
          have lf17_0_v29 := lf17_0_v27.keep Kc29 (ninS ne_a1_b21 (ninS ne_a1_b24 nin0))
          have lf17_1_v29 := lf17_1_v27.keep Kc29 (ninS ne_a2_b21 (ninS ne_a2_b24 nin0))
          have lf17_2_v29 := lf17_2_v27.keep Kc29 (ninS ne_b2_b21 (ninS ne_b2_b24 nin0))
          have lf17_3_v29 := lf17_3_v27.keep Kc29 (ninS ne_b8_b21 (ninS ne_b8_b24 nin0))
          have lf17_4_v29 := lf17_4_v27.keep Kc29 (ninS ne_b11_b21 (ninS ne_b11_b24 nin0))
          have lf17_5_v29 := lf17_5_v27.keep Kc29 (ninS ne_b14_b21 (ninS ne_b14_b24 nin0))
          have VM28_v29 := VM28_v28.keep Kc29 (ninS (Ne.symm ne_b21_b27) (ninS (Ne.symm ne_b24_b27) nin0))
          have Z29 : Lq n0 T29.heap.size := Nat.le_trans Z27 Kc29.1
          have KK29 := K27.trans Kc29 (allS (Or.inr sz_b21) (allS (Or.inr sz_b24) all0))
          obtain ⟨_, _, ⟨T30, L30, k30, n30⟩, -, X30, ⟨Lc30, hQ30, l30, y30, z30⟩, st30⟩ := Jvm.LawKit.callS X29 hx (y := (⟨"com/example/even_roster/evenroster/scim/SortedSuffixes", "byRank", "([I[II[I[I)V"⟩ : MethodName)) hown (mvT hZ (wq hw 184 rfl)) (mvT hZ (wq hw 185 rfl)) (mvT hZ (wq hw 92 rfl)) (mvT hZ (wq hw 186 rfl)) (by decide) (backOf (W := 0) (rby l Z a0 hw [] b24 b14 b21 b27 N 258 256 F1 (tab (hiN f) i) (fun _ => 0) cc1 T29.heap n0 Z29 nf29_1_v29 lf17_5_v29 nf29_0_v29 VM28_v29 g_b21 g_b27 (Ne.symm ne_b21_b24) ne_b14_b21 (Ne.symm ne_b21_b27) ne_b24_b27 ne_b14_b27 hF1 (fun j hj => by rw [tab_in (by omega)]; exact hi_le (hB j hj)) (fun j hj => by omega) (by omega) (by decide) (by omega)) hZ (wq hw 186 rfl) (wq hw 92 rfl) (by decide) (by decide)) (g := (mkF m 182 #[.val (.ref a1), .val (.ref a2), .val (.ref b2), .val (.int (oi lo)), .val (.ref b8), .val (.ref b11), .val (.ref b14), .val (.ref b21), .val (.ref b24), .val (.ref b27), .unset, .unset, .unset, .unset, .unset, .unset, .unset, .unset, .unset, .unset] [(.ref b27), (.ref b21), (.int (256 : Int32)), (.ref b14), (.ref b24)])) rfl (by rw [hml]; rfl) (argsL := [(.ref b24), (.ref b14), (.int (256 : Int32)), (.ref b21), (.ref b27)]) (rest := []) (lenOf pd_3 rfl) rfl (by show 2 * 0 + _ ≤ _; exact Nat.le_of_eq rfl) (dq hby D32 114 rfl) (fun _ _ => ⟨rfl, rfl, (by decide : 7 + 0 ≤ _), (by decide : 294 + 0 ≤ _)⟩)
          dsimp only [Pt.U, Pt.locs, Pt.cells, Pt.slots] at X30 l30 y30 z30 st30 hQ30
          subst l30 y30 z30
          obtain ⟨cc2, F2, rfl, N30q, Kc30, nf30_0_v30, nf30_1_v30, hq2, hF2, hp2⟩ := hQ30
          have N30 := Fr.app N29 N30q
          have lf17_0_v30 := lf17_0_v29.keep Kc30 (ninS ne_a1_b21 (ninS ne_a1_b27 nin0))
          have lf17_1_v30 := lf17_1_v29.keep Kc30 (ninS ne_a2_b21 (ninS ne_a2_b27 nin0))
          have lf17_2_v30 := lf17_2_v29.keep Kc30 (ninS ne_b2_b21 (ninS ne_b2_b27 nin0))
          have lf17_3_v30 := lf17_3_v29.keep Kc30 (ninS ne_b8_b21 (ninS ne_b8_b27 nin0))
          have lf17_4_v30 := lf17_4_v29.keep Kc30 (ninS ne_b11_b21 (ninS ne_b11_b27 nin0))
          have lf17_5_v30 := lf17_5_v29.keep Kc30 (ninS ne_b14_b21 (ninS ne_b14_b27 nin0))
          have nf29_1_v30 := nf29_1_v29.keep Kc30 (ninS (Ne.symm ne_b21_b24) (ninS ne_b24_b27 nin0))
          have Z30 : Lq n0 T30.heap.size := Nat.le_trans Z29 Kc30.1
          have KK30 := KK29.trans Kc30 (allS (Or.inr sz_b21) (allS (Or.inr sz_b27) all0))
          have hperm : ∀ A : Nat → Bool, cnt (fun j => A (F2 j)) N = cnt A N := fun A => (hp2 A).trans ((hp1 A).trans (cnt_congr fun j hj => by rw [tab_in (by omega)]))
          obtain ⟨cl31, Ar31, S31, H31⟩ := id lf17_0_v30
          replace S31 : Sq cl31.slots.size _ := S31
          obtain ⟨T32, h32, k32, X32, e32, E32, A32, st32⟩ := newP X30 hx hZ (wq hw 89 rfl) rfl (g := (mkF m 187 #[.val (.ref a1), .val (.ref a2), .val (.ref b2), .val (.int (oi lo)), .val (.ref b8), .val (.ref b11), .val (.ref b14), .val (.ref b21), .val (.ref b24), .val (.ref b27), .unset, .unset, .unset, .unset, .unset, .unset, .unset, .unset, .unset, .unset] [(.int (oi N))])) rfl (dq hby D32 117 rfl) rfl (oi_nn (by omega)) (cap := 6) (by rw [oi_n (k := N) (by omega)]; omega) (by decide) (by decide) (by decide)
          obtain ⟨b32, g32⟩ : ∃ z, z = T30.heap.size := ⟨_, rfl⟩
          rw [← g32] at A32 st32
          have ne_a1_b32 : Dif a1 b32 := Nat.ne_of_lt (Nat.lt_of_lt_of_le lf17_0_v30.lt (Nat.le_of_eq g32.symm))
          have ne_a2_b32 : Dif a2 b32 := Nat.ne_of_lt (Nat.lt_of_lt_of_le lf17_1_v30.lt (Nat.le_of_eq g32.symm))
          have ne_b2_b32 : Dif b2 b32 := Nat.ne_of_lt (Nat.lt_of_lt_of_le lf17_2_v30.lt (Nat.le_of_eq g32.symm))
          have ne_b8_b32 : Dif b8 b32 := Nat.ne_of_lt (Nat.lt_of_lt_of_le lf17_3_v30.lt (Nat.le_of_eq g32.symm))
          have ne_b11_b32 : Dif b11 b32 := Nat.ne_of_lt (Nat.lt_of_lt_of_le lf17_4_v30.lt (Nat.le_of_eq g32.symm))
          have ne_b14_b32 : Dif b14 b32 := Nat.ne_of_lt (Nat.lt_of_lt_of_le lf17_5_v30.lt (Nat.le_of_eq g32.symm))
          have ne_b24_b32 : Dif b24 b32 := Nat.ne_of_lt (Nat.lt_of_lt_of_le nf29_1_v30.lt (Nat.le_of_eq g32.symm))
          have ne_b21_b32 : Dif b21 b32 := Nat.ne_of_lt (Nat.lt_of_lt_of_le nf30_0_v30.lt (Nat.le_of_eq g32.symm))
          have ne_b27_b32 : Dif b27 b32 := Nat.ne_of_lt (Nat.lt_of_lt_of_le nf30_1_v30.lt (Nat.le_of_eq g32.symm))
          have g_b32 : Lq n0 b32 := Nat.le_trans Z30 (Nat.le_of_eq g32.symm)
          have sz_b32 : Lq h0.size b32 := Nat.le_trans KK30.1 (Nat.le_of_eq g32.symm)
          clear g32
          have lf17_0_v32 := lf17_0_v30.ext E32
          have lf17_1_v32 := lf17_1_v30.ext E32
          have lf17_2_v32 := lf17_2_v30.ext E32
          have lf17_3_v32 := lf17_3_v30.ext E32
          have lf17_4_v32 := lf17_4_v30.ext E32
          have lf17_5_v32 := lf17_5_v30.ext E32
          have nf29_1_v32 := nf29_1_v30.ext E32
          have nf30_0_v32 := nf30_0_v30.ext E32
          have nf30_1_v32 := nf30_1_v30.ext E32
          have Z32 : Lq n0 h32.size := Nat.le_trans Z30 E32.1
          have K32 := KK30.ext E32
          have V32_v32 : ArF Z h32 b32 .int (oi N).toNatClampNeg (fun _ => (.int 0)) := ArF.mk0 A32 rfl rfl
          have VM33_v33 : ArF Z h32 b32 .int N (fun j => .int (oi ((fun _ => 0) j))) := by rw [oi_n (k := N) (by omega)] at V32_v32; exact V32_v32
          have pre34 : ∀ t, Steps p.tables e below (T32.setTop (mkF m 197 #[.val (.ref a1), .val (.ref a2), .val (.ref b2), .val (.int (oi lo)), .val (.ref b8), .val (.ref b11), .val (.ref b14), .val (.ref b21), .val (.ref b24), .val (.ref b27), .val (.ref b32), .val (.int (0 : Int32)), .val (.int (0 : Int32)), .unset, .unset, .unset, .unset, .unset, .unset, .unset] [])) t → Steps p.tables e below (s₁.setTop (entryFrame m #[(.ref a1), (.ref a2)] 20)) t := by
            intro t k
            refine prL17 t ?_
            refine XS.iload XL17.here hx rfl (dq hby D32 57 rfl) rfl ?_
            refine XS.aloadN XL17.here hx rfl (dq hby D32 58 rfl) rfl rfl ?_
            refine XL17.arraylength hx (by rw [eL17]; exact Ar18.1) (State.isArrayOf_alike hZ.alike Ar18.2.1) (g := (mkF m 85 #[.val (.ref a1), .val (.ref a2), .val (.ref b2), .val (.int (oi lo)), .val (.ref b8), .val (.ref b11), .val (.ref b14), .val (.int (oi i)), .unset, .unset, .unset, .unset, .unset, .unset, .unset, .unset, .unset, .unset, .unset, .unset] [(.ref a1), (.int (oi i))])) rfl rfl (dq hby D32 59 rfl) _ ?_
            rw [show cl18.slots.size.toInt32 = (oi N) from (congrArg Nat.toInt32 S18).trans rfl]
            show Steps p.tables e below (TL17.setTop (mkF m 86 #[.val (.ref a1), .val (.ref a2), .val (.ref b2), .val (.int (oi lo)), .val (.ref b8), .val (.ref b11), .val (.ref b14), .val (.int (oi i)), .unset, .unset, .unset, .unset, .unset, .unset, .unset, .unset, .unset, .unset, .unset, .unset] [(.int (oi N)), (.int (oi i))])) _
            refine XS.icmpYes XL17.here hx rfl (pc0 := 86) (pc' := 131) rfl (dq hby D32 60 rfl) rfl (flt ((by rw [oi_lt (by omega) (by omega)]; omega) : ¬ ((oi i) < (oi N)))).2.1 (by decide) (by decide) ?_
            refine XS.aloadN XL17.here hx rfl (dq hby D32 87 rfl) rfl rfl ?_
            refine XL17.arraylength hx (by rw [eL17]; exact Ar19.1) (State.isArrayOf_alike hZ.alike Ar19.2.1) (g := (mkF m 132 #[.val (.ref a1), .val (.ref a2), .val (.ref b2), .val (.int (oi lo)), .val (.ref b8), .val (.ref b11), .val (.ref b14), .val (.int (oi i)), .unset, .unset, .unset, .unset, .unset, .unset, .unset, .unset, .unset, .unset, .unset, .unset] [(.ref a1)])) rfl rfl (dq hby D32 88 rfl) _ ?_
            rw [show cl19.slots.size.toInt32 = (oi N) from (congrArg Nat.toInt32 S19).trans rfl]
            refine XS.sipush XL17.here hx rfl (dq hby D32 89 rfl) ?_
            refine st20 _ ?_
            show Steps p.tables e below (T20.setTop (mkF m 139 #[.val (.ref a1), .val (.ref a2), .val (.ref b2), .val (.int (oi lo)), .val (.ref b8), .val (.ref b11), .val (.ref b14), .val (.int (oi i)), .unset, .unset, .unset, .unset, .unset, .unset, .unset, .unset, .unset, .unset, .unset, .unset] [(.int (oi (omx (N) 256)))])) _
            rw [show oi (omx (N) 256) = (256 : Int32) from congrArg oi (if_pos (by omega))]
            refine XS.iconst X20.here hx rfl (dq hby D32 91 rfl) ?_
            refine XS.iadd X20.here hx rfl (dq hby D32 92 rfl) rfl ?_
            refine st21 _ ?_
            refine XS.astore X21.here hx rfl (dq hby D32 94 rfl) rfl rfl (l' := #[.val (.ref a1), .val (.ref a2), .val (.ref b2), .val (.int (oi lo)), .val (.ref b8), .val (.ref b11), .val (.ref b14), .val (.ref b21), .unset, .unset, .unset, .unset, .unset, .unset, .unset, .unset, .unset, .unset, .unset, .unset]) rfl ?_
            refine XS.aloadN X21.here hx rfl (dq hby D32 95 rfl) rfl rfl ?_
            refine X21.arraylength hx (by rw [e21]; exact Ar23.1) (State.isArrayOf_alike hZ.alike Ar23.2.1) (g := (mkF m 146 #[.val (.ref a1), .val (.ref a2), .val (.ref b2), .val (.int (oi lo)), .val (.ref b8), .val (.ref b11), .val (.ref b14), .val (.ref b21), .unset, .unset, .unset, .unset, .unset, .unset, .unset, .unset, .unset, .unset, .unset, .unset] [(.ref a1)])) rfl rfl (dq hby D32 96 rfl) _ ?_
            rw [show cl23.slots.size.toInt32 = (oi N) from (congrArg Nat.toInt32 S23).trans rfl]
            refine st24 _ ?_
            refine XS.astore X24.here hx rfl (dq hby D32 98 rfl) rfl rfl (l' := #[.val (.ref a1), .val (.ref a2), .val (.ref b2), .val (.int (oi lo)), .val (.ref b8), .val (.ref b11), .val (.ref b14), .val (.ref b21), .val (.ref b24), .unset, .unset, .unset, .unset, .unset, .unset, .unset, .unset, .unset, .unset, .unset]) rfl ?_
            refine XS.aloadN X24.here hx rfl (dq hby D32 99 rfl) rfl rfl ?_
            refine X24.arraylength hx (by rw [e24]; exact Ar26.1) (State.isArrayOf_alike hZ.alike Ar26.2.1) (g := (mkF m 152 #[.val (.ref a1), .val (.ref a2), .val (.ref b2), .val (.int (oi lo)), .val (.ref b8), .val (.ref b11), .val (.ref b14), .val (.ref b21), .val (.ref b24), .unset, .unset, .unset, .unset, .unset, .unset, .unset, .unset, .unset, .unset, .unset] [(.ref a1)])) rfl rfl (dq hby D32 100 rfl) _ ?_
            rw [show cl26.slots.size.toInt32 = (oi N) from (congrArg Nat.toInt32 S26).trans rfl]
            refine st27 _ ?_
            refine XS.astore X27.here hx rfl (dq hby D32 102 rfl) rfl rfl (l' := #[.val (.ref a1), .val (.ref a2), .val (.ref b2), .val (.int (oi lo)), .val (.ref b8), .val (.ref b11), .val (.ref b14), .val (.ref b21), .val (.ref b24), .val (.ref b27), .unset, .unset, .unset, .unset, .unset, .unset, .unset, .unset, .unset, .unset]) rfl ?_
            refine XS.aload X27.here hx rfl (dq hby D32 103 rfl) rfl rfl ?_
            refine XS.aload X27.here hx rfl (dq hby D32 104 rfl) rfl rfl ?_
            refine XS.sipush X27.here hx rfl (dq hby D32 105 rfl) ?_
            refine XS.aload X27.here hx rfl (dq hby D32 106 rfl) rfl rfl ?_
            refine XS.aload X27.here hx rfl (dq hby D32 107 rfl) rfl rfl ?_
            refine st29 _ ?_
            refine XS.aload X29.here hx rfl (dq hby D32 109 rfl) rfl rfl ?_
            refine XS.aload X29.here hx rfl (dq hby D32 110 rfl) rfl rfl ?_
            show Steps p.tables e below (T29.setTop (mkF m 175 #[.val (.ref a1), .val (.ref a2), .val (.ref b2), .val (.int (oi lo)), .val (.ref b8), .val (.ref b11), .val (.ref b14), .val (.ref b21), .val (.ref b24), .val (.ref b27), .unset, .unset, .unset, .unset, .unset, .unset, .unset, .unset, .unset, .unset] [(.ref b14), (.ref b24)])) _
            refine XS.sipush X29.here hx rfl (dq hby D32 111 rfl) ?_
            refine XS.aload X29.here hx rfl (dq hby D32 112 rfl) rfl rfl ?_
            refine XS.aload X29.here hx rfl (dq hby D32 113 rfl) rfl rfl ?_
            refine st30 _ ?_
            refine XS.aloadN X30.here hx rfl (dq hby D32 115 rfl) rfl rfl ?_
            refine X30.arraylength hx Ar31.1 (State.isArrayOf_alike hZ.alike Ar31.2.1) (g := (mkF m 186 #[.val (.ref a1), .val (.ref a2), .val (.ref b2), .val (.int (oi lo)), .val (.ref b8), .val (.ref b11), .val (.ref b14), .val (.ref b21), .val (.ref b24), .val (.ref b27), .unset, .unset, .unset, .unset, .unset, .unset, .unset, .unset, .unset, .unset] [(.ref a1)])) rfl rfl (dq hby D32 116 rfl) _ ?_
            rw [show cl31.slots.size.toInt32 = (oi N) from (congrArg Nat.toInt32 S31).trans rfl]
            refine st32 _ ?_
            refine XS.astore X32.here hx rfl (dq hby D32 118 rfl) rfl rfl (l' := #[.val (.ref a1), .val (.ref a2), .val (.ref b2), .val (.int (oi lo)), .val (.ref b8), .val (.ref b11), .val (.ref b14), .val (.ref b21), .val (.ref b24), .val (.ref b27), .val (.ref b32), .unset, .unset, .unset, .unset, .unset, .unset, .unset, .unset, .unset]) rfl ?_
            refine XS.iconst X32.here hx rfl (dq hby D32 119 rfl) ?_
            refine XS.istore X32.here hx rfl (dq hby D32 120 rfl) rfl (l' := #[.val (.ref a1), .val (.ref a2), .val (.ref b2), .val (.int (oi lo)), .val (.ref b8), .val (.ref b11), .val (.ref b14), .val (.ref b21), .val (.ref b24), .val (.ref b27), .val (.ref b32), .val (.int (0 : Int32)), .unset, .unset, .unset, .unset, .unset, .unset, .unset, .unset]) rfl ?_
            refine XS.iconst X32.here hx rfl (dq hby D32 121 rfl) ?_
            refine XS.istore X32.here hx rfl (dq hby D32 122 rfl) rfl (l' := #[.val (.ref a1), .val (.ref a2), .val (.ref b2), .val (.int (oi lo)), .val (.ref b8), .val (.ref b11), .val (.ref b14), .val (.ref b21), .val (.ref b24), .val (.ref b27), .val (.ref b32), .val (.int (0 : Int32)), .val (.int (0 : Int32)), .unset, .unset, .unset, .unset, .unset, .unset, .unset]) rfl ?_
            exact k
          have loop35 : ∀ (k35 : Nat) (TL35 : State) (Lc35 : List Loc) (hL35 : Heap) (rn : Nat) (i3 : Nat) (rkc : Nat → Nat), Stand p l e ({ frames := 3, cells := 8, slots := 300, locals := 50 } : Room) s m #[(.ref a1), (.ref a2)] below meth c TL35 Lc35 8 300 → TL35.heap = hL35 → Fr n0 Lc35 → Lq n0 hL35.size → Keep h0 hL35 [] → ArF Z hL35 a1 .char N (fun j => .int (f j)) → ArF Z hL35 a2 .int (K + 1) (fun j => .int (oi (S j))) → ArF Z hL35 b2 .int N (fun j => .int (oi (E j))) → ArF Z hL35 b8 .int N (fun j => .int (oi (tab (fun j => j) i j))) → ArF Z hL35 b11 .int N (fun j => .int (oi (tab (lowN f) i j))) → ArF Z hL35 b14 .int N (fun j => .int (oi (tab (hiN f) i j))) → ArF Z hL35 b24 .int N (fun j => .int (oi (F1 j))) → ArF Z hL35 b21 .int 258 (fun j => .int (cc2 j)) → ArF Z hL35 b27 .int N (fun j => .int (oi (F2 j))) → ArF Z hL35 b32 .int N (fun j => .int (oi (rkc j))) → i3 + k35 = N → rn ≤ i3 → (∀ j, j < N → rkc j ≤ rn) → (∀ t, Steps p.tables e below (TL35.setTop (mkF m 197 #[.val (.ref a1), .val (.ref a2), .val (.ref b2), .val (.int (oi lo)), .val (.ref b8), .val (.ref b11), .val (.ref b14), .val (.ref b21), .val (.ref b24), .val (.ref b27), .val (.ref b32), .val (.int (oi rn)), .val (.int (oi i3)), .unset, .unset, .unset, .unset, .unset, .unset, .unset] [])) t → Steps p.tables e below (s₁.setTop (entryFrame m #[(.ref a1), (.ref a2)] 20)) t) → G := by
            intro k35
            induction k35 with
            | zero =>
              intro TL35 Lc35 hL35 rn i3 rkc XL35 eL35 NL35 ZL35 KL35 lf35_0_v35 lf35_1_v35 lf35_2_v35 lf35_3_v35 lf35_4_v35 lf35_5_v35 lf35_6_v35 lf35_7_v35 lf35_8_v35 lf35_9_v35 hk3 hrn hrk prL35
              obtain ⟨cl36, Ar36, S36, H36⟩ := id lf35_8_v35
              replace S36 : Sq cl36.slots.size _ := S36
              have pre37 : ∀ t, Steps p.tables e below (TL35.setTop (mkF m 262 #[.val (.ref a1), .val (.ref a2), .val (.ref b2), .val (.int (oi lo)), .val (.ref b8), .val (.ref b11), .val (.ref b14), .val (.ref b21), .val (.ref b24), .val (.ref b27), .val (.ref b32), .val (.int (oi rn)), .val (.ref b14), .val (.ref b11), .val (.int (1 : Int32)), .unset, .unset, .unset, .unset, .unset] [(.int (oi lo)), (.int (1 : Int32))])) t → Steps p.tables e below (s₁.setTop (entryFrame m #[(.ref a1), (.ref a2)] 20)) t := by
                intro t k
                refine prL35 t ?_
                refine XS.iload XL35.here hx rfl (dq hby D32 123 rfl) rfl ?_
                refine XS.aload XL35.here hx rfl (dq hby D32 124 rfl) rfl rfl ?_
                refine XL35.arraylength hx (by rw [eL35]; exact Ar36.1) (State.isArrayOf_alike hZ.alike Ar36.2.1) (g := (mkF m 201 #[.val (.ref a1), .val (.ref a2), .val (.ref b2), .val (.int (oi lo)), .val (.ref b8), .val (.ref b11), .val (.ref b14), .val (.ref b21), .val (.ref b24), .val (.ref b27), .val (.ref b32), .val (.int (oi rn)), .val (.int (oi i3)), .unset, .unset, .unset, .unset, .unset, .unset, .unset] [(.ref b27), (.int (oi i3))])) rfl rfl (dq hby D32 125 rfl) _ ?_
                rw [show cl36.slots.size.toInt32 = (oi N) from (congrArg Nat.toInt32 S36).trans rfl]
                refine XS.icmpYes XL35.here hx rfl (pc0 := 202) (pc' := 248) rfl (dq hby D32 126 rfl) rfl (flt ((by rw [oi_lt (by omega) (by omega)]; omega) : ¬ ((oi i3) < (oi N)))).2.1 (by decide) (by decide) ?_
                refine XS.aload XL35.here hx rfl (dq hby D32 151 rfl) rfl rfl ?_
                refine XS.astore XL35.here hx rfl (dq hby D32 152 rfl) rfl rfl (l' := #[.val (.ref a1), .val (.ref a2), .val (.ref b2), .val (.int (oi lo)), .val (.ref b8), .val (.ref b11), .val (.ref b14), .val (.ref b21), .val (.ref b24), .val (.ref b27), .val (.ref b32), .val (.int (oi rn)), .val (.ref b14), .unset, .unset, .unset, .unset, .unset, .unset, .unset]) rfl ?_
                refine XS.aload XL35.here hx rfl (dq hby D32 153 rfl) rfl rfl ?_
                refine XS.astore XL35.here hx rfl (dq hby D32 154 rfl) rfl rfl (l' := #[.val (.ref a1), .val (.ref a2), .val (.ref b2), .val (.int (oi lo)), .val (.ref b8), .val (.ref b11), .val (.ref b14), .val (.ref b21), .val (.ref b24), .val (.ref b27), .val (.ref b32), .val (.int (oi rn)), .val (.ref b14), .val (.ref b11), .unset, .unset, .unset, .unset, .unset, .unset]) rfl ?_
                refine XS.iconst XL35.here hx rfl (dq hby D32 155 rfl) ?_
                show Steps p.tables e below (TL35.setTop (mkF m 257 #[.val (.ref a1), .val (.ref a2), .val (.ref b2), .val (.int (oi lo)), .val (.ref b8), .val (.ref b11), .val (.ref b14), .val (.ref b21), .val (.ref b24), .val (.ref b27), .val (.ref b32), .val (.int (oi rn)), .val (.ref b14), .val (.ref b11), .unset, .unset, .unset, .unset, .unset, .unset] [(.int (1 : Int32))])) _
                refine XS.istore XL35.here hx rfl (dq hby D32 156 rfl) rfl (l' := #[.val (.ref a1), .val (.ref a2), .val (.ref b2), .val (.int (oi lo)), .val (.ref b8), .val (.ref b11), .val (.ref b14), .val (.ref b21), .val (.ref b24), .val (.ref b27), .val (.ref b32), .val (.int (oi rn)), .val (.ref b14), .val (.ref b11), .val (.int (1 : Int32)), .unset, .unset, .unset, .unset, .unset]) rfl ?_
                refine XS.iload XL35.here hx rfl (dq hby D32 157 rfl) rfl ?_
                refine XS.iloadN XL35.here hx rfl (dq hby D32 158 rfl) rfl ?_
                exact k
              by_cases hc262_38 : (1 : Int32) < (oi lo)
              · obtain ⟨_, _, ⟨T39, L39, k39, n39⟩, -, X39, ⟨Lc39, hQ39, l39, y39, z39⟩, st39⟩ := Jvm.LawKit.callS XL35 hx (y := (⟨"com/example/even_roster/evenroster/scim/SortedSuffixes", "isSortedWhole", "([I[I[II)Z"⟩ : MethodName)) hown (mvT hZ (wq hw 197 rfl)) (mvT hZ (wq hw 198 rfl)) (mvT hZ (wq hw 92 rfl)) (mvT hZ (wq hw 199 rfl)) (by decide) (backOf (W := 0) (risw l Z a0 hw [] b27 b32 b2 (1 : Int32) N F2 (fun j => oi (rkc j)) (fun j => oi (E j)) hL35 n0 ZL35 lf35_8_v35 lf35_9_v35 lf35_2_v35 hF2 h1 (by omega)) hZ (wq hw 199 rfl) (wq hw 92 rfl) (by decide) (by decide)) (g := (mkF m 272 #[.val (.ref a1), .val (.ref a2), .val (.ref b2), .val (.int (oi lo)), .val (.ref b8), .val (.ref b11), .val (.ref b14), .val (.ref b21), .val (.ref b24), .val (.ref b27), .val (.ref b32), .val (.int (oi rn)), .val (.ref b14), .val (.ref b11), .val (.int (1 : Int32)), .unset, .unset, .unset, .unset, .unset] [(.int (1 : Int32)), (.ref b2), (.ref b32), (.ref b27)])) rfl (by rw [hml]; rfl) (argsL := [(.ref b27), (.ref b32), (.ref b2), (.int (1 : Int32))]) (rest := []) (lenOf pd_4 rfl) rfl (by show 2 * 0 + _ ≤ _; exact Nat.le_of_eq rfl) (dq hby D32 164 rfl) (fun _ _ => ⟨rfl, eL35, (by decide : 8 + 0 ≤ _), (by decide : 300 + 0 ≤ _)⟩)
                dsimp only [Pt.U, Pt.locs, Pt.cells, Pt.slots] at X39 l39 y39 z39 st39 hQ39
                subst l39 y39 z39
                obtain ⟨yw, rfl, N39q, e39, hyw⟩ := hQ39
                have N39 := Fr.app NL35 N39q
                have pre40 : ∀ t, Steps p.tables e below (T39.setTop (mkF m 275 #[.val (.ref a1), .val (.ref a2), .val (.ref b2), .val (.int (oi lo)), .val (.ref b8), .val (.ref b11), .val (.ref b14), .val (.ref b21), .val (.ref b24), .val (.ref b27), .val (.ref b32), .val (.int (oi rn)), .val (.ref b14), .val (.ref b11), .val (.int (1 : Int32)), .unset, .unset, .unset, .unset, .unset] [(.int yw)])) t → Steps p.tables e below (s₁.setTop (entryFrame m #[(.ref a1), (.ref a2)] 20)) t := by
                  intro t k
                  refine pre37 t ?_
                  refine XS.icmpNo XL35.here hx rfl (dq hby D32 159 rfl) rfl (tlt hc262_38).2.1 ?_
                  refine XS.aload XL35.here hx rfl (dq hby D32 160 rfl) rfl rfl ?_
                  refine XS.aload XL35.here hx rfl (dq hby D32 161 rfl) rfl rfl ?_
                  refine XS.aloadN XL35.here hx rfl (dq hby D32 162 rfl) rfl rfl ?_
                  refine XS.iload XL35.here hx rfl (dq hby D32 163 rfl) rfl ?_
                  refine st39 _ ?_
                  exact k
                by_cases hc275_41 : yw = (0 : Int32)
                · have pre42 : ∀ t, Steps p.tables e below (T39.setTop (mkF m 281 #[.val (.ref a1), .val (.ref a2), .val (.ref b2), .val (.int (oi lo)), .val (.ref b8), .val (.ref b11), .val (.ref b14), .val (.ref b21), .val (.ref b24), .val (.ref b27), .val (.ref b32), .val (.int (oi rn)), .val (.ref b14), .val (.ref b11), .val (.int (1 : Int32)), .val (.int (0 : Int32)), .unset, .unset, .unset, .unset] [])) t → Steps p.tables e below (s₁.setTop (entryFrame m #[(.ref a1), (.ref a2)] 20)) t := by
                    intro t k
                    refine pre40 t ?_
                    refine XS.ifNo X39.here hx rfl (dq hby D32 165 rfl) rfl ((if0 _ _).trans (teq hc275_41).2) ?_
                    refine XS.iconst X39.here hx rfl (dq hby D32 166 rfl) ?_
                    refine XS.istore X39.here hx rfl (dq hby D32 167 rfl) rfl (l' := #[.val (.ref a1), .val (.ref a2), .val (.ref b2), .val (.int (oi lo)), .val (.ref b8), .val (.ref b11), .val (.ref b14), .val (.ref b21), .val (.ref b24), .val (.ref b27), .val (.ref b32), .val (.int (oi rn)), .val (.ref b14), .val (.ref b11), .val (.int (1 : Int32)), .val (.int (0 : Int32)), .unset, .unset, .unset, .unset]) rfl ?_
                    exact k
                  have loop43 : ∀ (k43 : Nat) (TL43 : State) (Lc43 : List Loc) (hL43 : Heap) (i4 : Nat) (g6 : Nat → Int32), Stand p l e ({ frames := 3, cells := 8, slots := 300, locals := 50 } : Room) s m #[(.ref a1), (.ref a2)] below meth c TL43 Lc43 8 300 → TL43.heap = hL43 → Fr n0 Lc43 → Lq n0 hL43.size → Keep h0 hL43 [] → ArF Z hL43 a1 .char N (fun j => .int (f j)) → ArF Z hL43 a2 .int (K + 1) (fun j => .int (oi (S j))) → ArF Z hL43 b2 .int N (fun j => .int (oi (E j))) → ArF Z hL43 b8 .int N (fun j => .int (oi (tab (fun j => j) i j))) → ArF Z hL43 b11 .int N (fun j => .int (oi (tab (lowN f) i j))) → ArF Z hL43 b14 .int N (fun j => .int (g6 j)) → ArF Z hL43 b24 .int N (fun j => .int (oi (F1 j))) → ArF Z hL43 b21 .int 258 (fun j => .int (cc2 j)) → ArF Z hL43 b27 .int N (fun j => .int (oi (F2 j))) → ArF Z hL43 b32 .int N (fun j => .int (oi (rkc j))) → i4 + k43 = N → (∀ t, Steps p.tables e below (TL43.setTop (mkF m 281 #[.val (.ref a1), .val (.ref a2), .val (.ref b2), .val (.int (oi lo)), .val (.ref b8), .val (.ref b11), .val (.ref b14), .val (.ref b21), .val (.ref b24), .val (.ref b27), .val (.ref b32), .val (.int (oi rn)), .val (.ref b14), .val (.ref b11), .val (.int (1 : Int32)), .val (.int (oi i4)), .unset, .unset, .unset, .unset] [])) t → Steps p.tables e below (s₁.setTop (entryFrame m #[(.ref a1), (.ref a2)] 20)) t) → G := by
                    intro k43
                    induction k43 with
                    | zero =>
                      intro TL43 Lc43 hL43 i4 g6 XL43 eL43 NL43 ZL43 KL43 lf43_0_v43 lf43_1_v43 lf43_2_v43 lf43_3_v43 lf43_4_v43 lf43_5_v43 lf43_6_v43 lf43_7_v43 lf43_8_v43 lf43_9_v43 hk4 prL43
                      obtain ⟨cl44, Ar44, S44, H44⟩ := id lf43_0_v43
                      replace S44 : Sq cl44.slots.size _ := S44
                      have pre45 : ∀ t, Steps p.tables e below (TL43.setTop (mkF m 329 #[.val (.ref a1), .val (.ref a2), .val (.ref b2), .val (.int (oi lo)), .val (.ref b8), .val (.ref b11), .val (.ref b14), .val (.ref b21), .val (.ref b24), .val (.ref b27), .val (.ref b32), .val (.int (oi rn)), .val (.ref b14), .val (.ref b11), .val (.int (1 : Int32)), .val (.int (0 : Int32)), .val (.int (0 : Int32)), .unset, .unset, .unset] [])) t → Steps p.tables e below (s₁.setTop (entryFrame m #[(.ref a1), (.ref a2)] 20)) t := by
                        intro t k
                        refine prL43 t ?_
                        refine XS.iload XL43.here hx rfl (dq hby D32 168 rfl) rfl ?_
                        refine XS.aloadN XL43.here hx rfl (dq hby D32 169 rfl) rfl rfl ?_
                        refine XL43.arraylength hx (by rw [eL43]; exact Ar44.1) (State.isArrayOf_alike hZ.alike Ar44.2.1) (g := (mkF m 284 #[.val (.ref a1), .val (.ref a2), .val (.ref b2), .val (.int (oi lo)), .val (.ref b8), .val (.ref b11), .val (.ref b14), .val (.ref b21), .val (.ref b24), .val (.ref b27), .val (.ref b32), .val (.int (oi rn)), .val (.ref b14), .val (.ref b11), .val (.int (1 : Int32)), .val (.int (oi i4)), .unset, .unset, .unset, .unset] [(.ref a1), (.int (oi i4))])) rfl rfl (dq hby D32 170 rfl) _ ?_
                        rw [show cl44.slots.size.toInt32 = (oi N) from (congrArg Nat.toInt32 S44).trans rfl]
                        refine XS.icmpYes XL43.here hx rfl (pc0 := 285) (pc' := 323) rfl (dq hby D32 171 rfl) rfl (flt ((by rw [oi_lt (by omega) (by omega)]; omega) : ¬ ((oi i4) < (oi N)))).2.1 (by decide) (by decide) ?_
                        refine XS.iconst XL43.here hx rfl (dq hby D32 191 rfl) ?_
                        refine XS.istore XL43.here hx rfl (dq hby D32 192 rfl) rfl (l' := #[.val (.ref a1), .val (.ref a2), .val (.ref b2), .val (.int (oi lo)), .val (.ref b8), .val (.ref b11), .val (.ref b14), .val (.ref b21), .val (.ref b24), .val (.ref b27), .val (.ref b32), .val (.int (oi rn)), .val (.ref b14), .val (.ref b11), .val (.int (1 : Int32)), .val (.int (0 : Int32)), .unset, .unset, .unset, .unset]) rfl ?_
                        refine XS.iconst XL43.here hx rfl (dq hby D32 193 rfl) ?_
                        refine XS.istore XL43.here hx rfl (dq hby D32 194 rfl) rfl (l' := #[.val (.ref a1), .val (.ref a2), .val (.ref b2), .val (.int (oi lo)), .val (.ref b8), .val (.ref b11), .val (.ref b14), .val (.ref b21), .val (.ref b24), .val (.ref b27), .val (.ref b32), .val (.int (oi rn)), .val (.ref b14), .val (.ref b11), .val (.int (1 : Int32)), .val (.int (0 : Int32)), .val (.int (0 : Int32)), .unset, .unset, .unset]) rfl ?_
                        exact k
                      have loop46 : ∀ (k46 : Nat) (TL46 : State) (Lc46 : List Loc) (hL46 : Heap) (ct : Nat) (i5 : Nat) (B8 : Nat → Nat), Stand p l e ({ frames := 3, cells := 8, slots := 300, locals := 50 } : Room) s m #[(.ref a1), (.ref a2)] below meth c TL46 Lc46 8 300 → TL46.heap = hL46 → Fr n0 Lc46 → Lq n0 hL46.size → Keep h0 hL46 [] → ArF Z hL46 a1 .char N (fun j => .int (f j)) → ArF Z hL46 a2 .int (K + 1) (fun j => .int (oi (S j))) → ArF Z hL46 b2 .int N (fun j => .int (oi (E j))) → ArF Z hL46 b8 .int N (fun j => .int (oi (tab (fun j => j) i j))) → ArF Z hL46 b11 .int N (fun j => .int (oi (tab (lowN f) i j))) → ArF Z hL46 b14 .int N (fun j => .int (g6 j)) → ArF Z hL46 b24 .int N (fun j => .int (oi (B8 j))) → ArF Z hL46 b21 .int 258 (fun j => .int (cc2 j)) → ArF Z hL46 b27 .int N (fun j => .int (oi (F2 j))) → ArF Z hL46 b32 .int N (fun j => .int (oi (rkc j))) → i5 + k46 = N → ct = cnt (zr g6) i5 → (∀ j, j < N → B8 j < N) → (∀ t, Steps p.tables e below (TL46.setTop (mkF m 329 #[.val (.ref a1), .val (.ref a2), .val (.ref b2), .val (.int (oi lo)), .val (.ref b8), .val (.ref b11), .val (.ref b14), .val (.ref b21), .val (.ref b24), .val (.ref b27), .val (.ref b32), .val (.int (oi rn)), .val (.ref b14), .val (.ref b11), .val (.int (1 : Int32)), .val (.int (oi ct)), .val (.int (oi i5)), .unset, .unset, .unset] [])) t → Steps p.tables e below (s₁.setTop (entryFrame m #[(.ref a1), (.ref a2)] 20)) t) → G := by
                        intro k46
                        induction k46 with
                        | zero =>
                          intro TL46 Lc46 hL46 ct i5 B8 XL46 eL46 NL46 ZL46 KL46 lf46_0_v46 lf46_1_v46 lf46_2_v46 lf46_3_v46 lf46_4_v46 lf46_5_v46 lf46_6_v46 lf46_7_v46 lf46_8_v46 lf46_9_v46 hk5 hct hB8 prL46
                          obtain ⟨cl47, Ar47, S47, H47⟩ := id lf46_0_v46
                          replace S47 : Sq cl47.slots.size _ := S47
                          obtain ⟨cl48, Ar48, S48, H48⟩ := id lf46_8_v46
                          replace S48 : Sq cl48.slots.size _ := S48
                          have hi5 : i5 = N := by omega
                          have pre49 : ∀ t, Steps p.tables e below (TL46.setTop (mkF m 372 #[.val (.ref a1), .val (.ref a2), .val (.ref b2), .val (.int (oi lo)), .val (.ref b8), .val (.ref b11), .val (.ref b14), .val (.ref b21), .val (.ref b24), .val (.ref b27), .val (.ref b32), .val (.int (oi rn)), .val (.ref b14), .val (.ref b11), .val (.int (1 : Int32)), .val (.int (oi ct)), .val (.ref b27), .val (.int (oi N)), .val (.int (0 : Int32)), .unset] [])) t → Steps p.tables e below (s₁.setTop (entryFrame m #[(.ref a1), (.ref a2)] 20)) t := by
                            intro t k
                            refine prL46 t ?_
                            refine XS.iload XL46.here hx rfl (dq hby D32 195 rfl) rfl ?_
                            show Steps p.tables e below (TL46.setTop (mkF m 331 #[.val (.ref a1), .val (.ref a2), .val (.ref b2), .val (.int (oi lo)), .val (.ref b8), .val (.ref b11), .val (.ref b14), .val (.ref b21), .val (.ref b24), .val (.ref b27), .val (.ref b32), .val (.int (oi rn)), .val (.ref b14), .val (.ref b11), .val (.int (1 : Int32)), .val (.int (oi ct)), .val (.int (oi i5)), .unset, .unset, .unset] [(.int (oi i5))])) _
                            refine XS.aloadN XL46.here hx rfl (dq hby D32 196 rfl) rfl rfl ?_
                            refine XL46.arraylength hx (by rw [eL46]; exact Ar47.1) (State.isArrayOf_alike hZ.alike Ar47.2.1) (g := (mkF m 332 #[.val (.ref a1), .val (.ref a2), .val (.ref b2), .val (.int (oi lo)), .val (.ref b8), .val (.ref b11), .val (.ref b14), .val (.ref b21), .val (.ref b24), .val (.ref b27), .val (.ref b32), .val (.int (oi rn)), .val (.ref b14), .val (.ref b11), .val (.int (1 : Int32)), .val (.int (oi ct)), .val (.int (oi i5)), .unset, .unset, .unset] [(.ref a1), (.int (oi i5))])) rfl rfl (dq hby D32 197 rfl) _ ?_
                            rw [show cl47.slots.size.toInt32 = (oi N) from (congrArg Nat.toInt32 S47).trans rfl]
                            refine XS.icmpYes XL46.here hx rfl (pc0 := 333) (pc' := 360) rfl (dq hby D32 198 rfl) rfl (flt ((by rw [oi_lt (by omega) (by omega)]; omega) : ¬ ((oi i5) < (oi N)))).2.1 (by decide) (by decide) ?_
                            refine XS.aload XL46.here hx rfl (dq hby D32 210 rfl) rfl rfl ?_
                            refine XS.astore XL46.here hx rfl (dq hby D32 211 rfl) rfl rfl (l' := #[.val (.ref a1), .val (.ref a2), .val (.ref b2), .val (.int (oi lo)), .val (.ref b8), .val (.ref b11), .val (.ref b14), .val (.ref b21), .val (.ref b24), .val (.ref b27), .val (.ref b32), .val (.int (oi rn)), .val (.ref b14), .val (.ref b11), .val (.int (1 : Int32)), .val (.int (oi ct)), .val (.ref b27), .unset, .unset, .unset]) rfl ?_
                            refine XS.aload XL46.here hx rfl (dq hby D32 212 rfl) rfl rfl ?_
                            refine XL46.arraylength hx (by rw [eL46]; exact Ar48.1) (State.isArrayOf_alike hZ.alike Ar48.2.1) (g := (mkF m 366 #[.val (.ref a1), .val (.ref a2), .val (.ref b2), .val (.int (oi lo)), .val (.ref b8), .val (.ref b11), .val (.ref b14), .val (.ref b21), .val (.ref b24), .val (.ref b27), .val (.ref b32), .val (.int (oi rn)), .val (.ref b14), .val (.ref b11), .val (.int (1 : Int32)), .val (.int (oi ct)), .val (.ref b27), .unset, .unset, .unset] [(.ref b27)])) rfl rfl (dq hby D32 213 rfl) _ ?_
                            rw [show cl48.slots.size.toInt32 = (oi N) from (congrArg Nat.toInt32 S48).trans rfl]
                            refine XS.istore XL46.here hx rfl (dq hby D32 214 rfl) rfl (l' := #[.val (.ref a1), .val (.ref a2), .val (.ref b2), .val (.int (oi lo)), .val (.ref b8), .val (.ref b11), .val (.ref b14), .val (.ref b21), .val (.ref b24), .val (.ref b27), .val (.ref b32), .val (.int (oi rn)), .val (.ref b14), .val (.ref b11), .val (.int (1 : Int32)), .val (.int (oi ct)), .val (.ref b27), .val (.int (oi N)), .unset, .unset]) rfl ?_
                            refine XS.iconst XL46.here hx rfl (dq hby D32 215 rfl) ?_
                            refine XS.istore XL46.here hx rfl (dq hby D32 216 rfl) rfl (l' := #[.val (.ref a1), .val (.ref a2), .val (.ref b2), .val (.int (oi lo)), .val (.ref b8), .val (.ref b11), .val (.ref b14), .val (.ref b21), .val (.ref b24), .val (.ref b27), .val (.ref b32), .val (.int (oi rn)), .val (.ref b14), .val (.ref b11), .val (.int (1 : Int32)), .val (.int (oi ct)), .val (.ref b27), .val (.int (oi N)), .val (.int (0 : Int32)), .unset]) rfl ?_
                            exact k
                          have loop50 : ∀ (k50 : Nat) (TL50 : State) (Lc50 : List Loc) (hL50 : Heap) (ct : Nat) (i6 : Nat) (B8 : Nat → Nat) (s19 : Slot), Stand p l e ({ frames := 3, cells := 8, slots := 300, locals := 50 } : Room) s m #[(.ref a1), (.ref a2)] below meth c TL50 Lc50 8 300 → TL50.heap = hL50 → Fr n0 Lc50 → Lq n0 hL50.size → Keep h0 hL50 [] → ArF Z hL50 a1 .char N (fun j => .int (f j)) → ArF Z hL50 a2 .int (K + 1) (fun j => .int (oi (S j))) → ArF Z hL50 b2 .int N (fun j => .int (oi (E j))) → ArF Z hL50 b8 .int N (fun j => .int (oi (tab (fun j => j) i j))) → ArF Z hL50 b11 .int N (fun j => .int (oi (tab (lowN f) i j))) → ArF Z hL50 b14 .int N (fun j => .int (g6 j)) → ArF Z hL50 b24 .int N (fun j => .int (oi (B8 j))) → ArF Z hL50 b21 .int 258 (fun j => .int (cc2 j)) → ArF Z hL50 b27 .int N (fun j => .int (oi (F2 j))) → ArF Z hL50 b32 .int N (fun j => .int (oi (rkc j))) → i6 + k50 = N → ct = cnt (zr g6) N + cnt (fun j => sx g6 (F2 j)) i6 → (∀ j, j < N → B8 j < N) → (s19 = .unset ∨ ∃ z, s19 = .val (.int z)) → (∀ t, Steps p.tables e below (TL50.setTop (mkF m 372 #[.val (.ref a1), .val (.ref a2), .val (.ref b2), .val (.int (oi lo)), .val (.ref b8), .val (.ref b11), .val (.ref b14), .val (.ref b21), .val (.ref b24), .val (.ref b27), .val (.ref b32), .val (.int (oi rn)), .val (.ref b14), .val (.ref b11), .val (.int (1 : Int32)), .val (.int (oi ct)), .val (.ref b27), .val (.int (oi N)), .val (.int (oi i6)), s19] [])) t → Steps p.tables e below (s₁.setTop (entryFrame m #[(.ref a1), (.ref a2)] 20)) t) → G := by
                            intro k50
                            induction k50 with
                            | zero =>
                              intro TL50 Lc50 hL50 ct i6 B8 s19 XL50 eL50 NL50 ZL50 KL50 lf50_0_v50 lf50_1_v50 lf50_2_v50 lf50_3_v50 lf50_4_v50 lf50_5_v50 lf50_6_v50 lf50_7_v50 lf50_8_v50 lf50_9_v50 hk6 hct hB8 hs19 prL50
                              obtain ⟨_, _, ⟨T51, L51, k51, n51⟩, -, X51, ⟨Lc51, hQ51, l51, y51, z51⟩, st51⟩ := Jvm.LawKit.callS XL50 hx (y := (⟨"com/example/even_roster/evenroster/scim/SortedSuffixes", "byRank", "([I[II[I[I)V"⟩ : MethodName)) hown (mvT hZ (wq hw 184 rfl)) (mvT hZ (wq hw 185 rfl)) (mvT hZ (wq hw 92 rfl)) (mvT hZ (wq hw 186 rfl)) (by decide) (backOf (W := 0) (rby l Z a0 hw [] b24 b32 b21 b27 N 258 rn B8 rkc F2 cc2 hL50 n0 ZL50 lf50_6_v50 lf50_9_v50 lf50_7_v50 lf50_8_v50 g_b21 g_b27 (Ne.symm ne_b21_b24) (Ne.symm ne_b21_b32) (Ne.symm ne_b21_b27) ne_b24_b27 (Ne.symm ne_b27_b32) hB8 hrk hF2 (by omega) (by decide) (by omega)) hZ (wq hw 186 rfl) (wq hw 92 rfl) (by decide) (by decide)) (g := (mkF m 433 #[.val (.ref a1), .val (.ref a2), .val (.ref b2), .val (.int (oi lo)), .val (.ref b8), .val (.ref b11), .val (.ref b14), .val (.ref b21), .val (.ref b24), .val (.ref b27), .val (.ref b32), .val (.int (oi rn)), .val (.ref b14), .val (.ref b11), .val (.int (1 : Int32)), .val (.int (oi ct)), .val (.ref b27), .val (.int (oi N)), .val (.int (oi i6)), s19] [(.ref b27), (.ref b21), (.int (oi rn)), (.ref b32), (.ref b24)])) rfl (by rw [hml]; rfl) (argsL := [(.ref b24), (.ref b32), (.int (oi rn)), (.ref b21), (.ref b27)]) (rest := []) (lenOf pd_3 rfl) rfl (by show 2 * 0 + _ ≤ _; exact Nat.le_of_eq rfl) (dq hby D32 247 rfl) (fun _ _ => ⟨rfl, eL50, (by decide : 8 + 0 ≤ _), (by decide : 300 + 0 ≤ _)⟩)
                              dsimp only [Pt.U, Pt.locs, Pt.cells, Pt.slots] at X51 l51 y51 z51 st51 hQ51
                              subst l51 y51 z51
                              obtain ⟨cc3, F3, rfl, N51q, Kc51, nf51_0_v51, nf51_1_v51, hq3, hF3, hp3⟩ := hQ51
                              have N51 := Fr.app NL50 N51q
                              have lf50_0_v51 := lf50_0_v50.keep Kc51 (ninS ne_a1_b21 (ninS ne_a1_b27 nin0))
                              have lf50_1_v51 := lf50_1_v50.keep Kc51 (ninS ne_a2_b21 (ninS ne_a2_b27 nin0))
                              have lf50_2_v51 := lf50_2_v50.keep Kc51 (ninS ne_b2_b21 (ninS ne_b2_b27 nin0))
                              have lf50_3_v51 := lf50_3_v50.keep Kc51 (ninS ne_b8_b21 (ninS ne_b8_b27 nin0))
                              have lf50_4_v51 := lf50_4_v50.keep Kc51 (ninS ne_b11_b21 (ninS ne_b11_b27 nin0))
                              have lf50_5_v51 := lf50_5_v50.keep Kc51 (ninS ne_b14_b21 (ninS ne_b14_b27 nin0))
                              have lf50_6_v51 := lf50_6_v50.keep Kc51 (ninS (Ne.symm ne_b21_b24) (ninS ne_b24_b27 nin0))
                              have lf50_9_v51 := lf50_9_v50.keep Kc51 (ninS (Ne.symm ne_b21_b32) (ninS (Ne.symm ne_b27_b32) nin0))
                              have Z51 : Lq n0 T51.heap.size := Nat.le_trans ZL50 Kc51.1
                              have KK51 := KL50.trans Kc51 (allS (Or.inr sz_b21) (allS (Or.inr sz_b27) all0))
                              obtain ⟨_, _, ⟨T52, L52, k52, n52⟩, -, X52, ⟨Lc52, hQ52, l52, y52, z52⟩, st52⟩ := Jvm.LawKit.callS X51 hx (y := (⟨"com/example/even_roster/evenroster/scim/SortedSuffixes", "rankAnew", "([I[II[I[I)I"⟩ : MethodName)) hown (mvT hZ (wq hw 238 rfl)) (mvT hZ (wq hw 239 rfl)) (mvT hZ (wq hw 92 rfl)) (mvT hZ (wq hw 240 rfl)) (by decide) (backOf (W := 0) (rran l Z a0 hw [] b27 b21 b14 b11 N 258 rn F3 cc3 g6 (fun j => oi (tab (lowN f) i j)) T51.heap n0 Z51 nf51_1_v51 nf51_0_v51 lf50_5_v51 lf50_4_v51 g_b11 (Ne.symm ne_b11_b27) (Ne.symm ne_b11_b21) (Ne.symm ne_b11_b14) hF3 hq3 (by omega) (by decide) (by omega)) hZ (wq hw 240 rfl) (wq hw 92 rfl) (by decide) (by decide)) (g := (mkF m 446 #[.val (.ref a1), .val (.ref a2), .val (.ref b2), .val (.int (oi lo)), .val (.ref b8), .val (.ref b11), .val (.ref b14), .val (.ref b21), .val (.ref b24), .val (.ref b27), .val (.ref b32), .val (.int (oi rn)), .val (.ref b14), .val (.ref b11), .val (.int (1 : Int32)), .val (.int (oi ct)), .val (.ref b27), .val (.int (oi N)), .val (.int (oi i6)), s19] [(.ref b11), (.ref b14), (.int (oi rn)), (.ref b21), (.ref b27)])) rfl (by rw [hml]; rfl) (argsL := [(.ref b27), (.ref b21), (.int (oi rn)), (.ref b14), (.ref b11)]) (rest := []) (lenOf pd_5 rfl) rfl (by show 2 * 0 + _ ≤ _; exact Nat.le_of_eq rfl) (dq hby D32 253 rfl) (fun _ _ => ⟨rfl, rfl, (by decide : 8 + 0 ≤ _), (by decide : 300 + 0 ≤ _)⟩)
                              dsimp only [Pt.U, Pt.locs, Pt.cells, Pt.slots] at X52 l52 y52 z52 st52 hQ52
                              subst l52 y52 z52
                              obtain ⟨yr, gr, rfl, N52q, Kc52, nf52_0_v52⟩ := hQ52
                              have N52 := Fr.app N51 N52q
                              have lf50_0_v52 := lf50_0_v51.keep Kc52 (ninS ne_a1_b11 nin0)
                              have lf50_1_v52 := lf50_1_v51.keep Kc52 (ninS ne_a2_b11 nin0)
                              have lf50_2_v52 := lf50_2_v51.keep Kc52 (ninS ne_b2_b11 nin0)
                              have lf50_3_v52 := lf50_3_v51.keep Kc52 (ninS ne_b8_b11 nin0)
                              have lf50_5_v52 := lf50_5_v51.keep Kc52 (ninS (Ne.symm ne_b11_b14) nin0)
                              have lf50_6_v52 := lf50_6_v51.keep Kc52 (ninS (Ne.symm ne_b11_b24) nin0)
                              have lf50_9_v52 := lf50_9_v51.keep Kc52 (ninS (Ne.symm ne_b11_b32) nin0)
                              have nf51_0_v52 := nf51_0_v51.keep Kc52 (ninS (Ne.symm ne_b11_b21) nin0)
                              have nf51_1_v52 := nf51_1_v51.keep Kc52 (ninS (Ne.symm ne_b11_b27) nin0)
                              have Z52 : Lq n0 T52.heap.size := Nat.le_trans Z51 Kc52.1
                              have KK52 := KK51.trans Kc52 (allS (Or.inr sz_b11) all0)
                              refine hG ?_
                              obtain ⟨fs, hr, hrun, hended, hW, hsame⟩ := X52.leave (v := some (.ref b27)) (fun h => by rw [Bd.returns] at h; cases h)
                              refine ⟨_, _, prL50 _ ?_, hrun, hended, _, _, rfl, ?_, ⟨_, rfl⟩, hW, hsame.mono (by decide) (by decide)⟩
                              · show Steps p.tables e below (TL50.setTop (mkF m 372 #[.val (.ref a1), .val (.ref a2), .val (.ref b2), .val (.int (oi lo)), .val (.ref b8), .val (.ref b11), .val (.ref b14), .val (.ref b21), .val (.ref b24), .val (.ref b27), .val (.ref b32), .val (.int (oi rn)), .val (.ref b14), .val (.ref b11), .val (.int (1 : Int32)), .val (.int (oi ct)), .val (.ref b27), .val (.int (oi N)), .val (.int (oi i6)), s19] [])) _
                                refine XS.iload XL50.here hx rfl (dq hby D32 217 rfl) rfl ?_
                                refine XS.iload XL50.here hx rfl (dq hby D32 218 rfl) rfl ?_
                                refine XS.icmpYes XL50.here hx rfl (pc0 := 376) (pc' := 423) rfl (dq hby D32 219 rfl) rfl (flt ((by rw [oi_lt (by omega) (by omega)]; omega) : ¬ ((oi i6) < (oi N)))).2.1 (by decide) (by decide) ?_
                                refine XS.aload XL50.here hx rfl (dq hby D32 242 rfl) rfl rfl ?_
                                refine XS.aload XL50.here hx rfl (dq hby D32 243 rfl) rfl rfl ?_
                                refine XS.iload XL50.here hx rfl (dq hby D32 244 rfl) rfl ?_
                                refine XS.aload XL50.here hx rfl (dq hby D32 245 rfl) rfl rfl ?_
                                refine XS.aload XL50.here hx rfl (dq hby D32 246 rfl) rfl rfl ?_
                                refine st51 _ ?_
                                refine XS.aload X51.here hx rfl (dq hby D32 248 rfl) rfl rfl ?_
                                refine XS.aload X51.here hx rfl (dq hby D32 249 rfl) rfl rfl ?_
                                refine XS.iload X51.here hx rfl (dq hby D32 250 rfl) rfl ?_
                                show Steps p.tables e below (T51.setTop (mkF m 442 #[.val (.ref a1), .val (.ref a2), .val (.ref b2), .val (.int (oi lo)), .val (.ref b8), .val (.ref b11), .val (.ref b14), .val (.ref b21), .val (.ref b24), .val (.ref b27), .val (.ref b32), .val (.int (oi rn)), .val (.ref b14), .val (.ref b11), .val (.int (1 : Int32)), .val (.int (oi ct)), .val (.ref b27), .val (.int (oi N)), .val (.int (oi i6)), s19] [(.int (oi rn)), (.ref b21), (.ref b27)])) _
                                refine XS.aload X51.here hx rfl (dq hby D32 251 rfl) rfl rfl ?_
                                refine XS.aload X51.here hx rfl (dq hby D32 252 rfl) rfl rfl ?_
                                refine st52 _ ?_
                                refine XS.istore X52.here hx rfl (dq hby D32 254 rfl) rfl (l' := #[.val (.ref a1), .val (.ref a2), .val (.ref b2), .val (.int (oi lo)), .val (.ref b8), .val (.ref b11), .val (.ref b14), .val (.ref b21), .val (.ref b24), .val (.ref b27), .val (.ref b32), .val (.int yr), .val (.ref b14), .val (.ref b11), .val (.int (1 : Int32)), .val (.int (oi ct)), .val (.ref b27), .val (.int (oi N)), .val (.int (oi i6)), s19]) rfl ?_
                                refine XS.aload X52.here hx rfl (dq hby D32 255 rfl) rfl rfl ?_
                                refine XS.astore X52.here hx rfl (dq hby D32 256 rfl) rfl rfl (l' := #[.val (.ref a1), .val (.ref a2), .val (.ref b2), .val (.int (oi lo)), .val (.ref b8), .val (.ref b11), .val (.ref b14), .val (.ref b21), .val (.ref b24), .val (.ref b27), .val (.ref b32), .val (.int yr), .val (.ref b14), .val (.ref b11), .val (.int (1 : Int32)), .val (.int (oi ct)), .val (.ref b32), .val (.int (oi N)), .val (.int (oi i6)), s19]) rfl ?_
                                refine XS.aload X52.here hx rfl (dq hby D32 257 rfl) rfl rfl ?_
                                refine XS.astore X52.here hx rfl (dq hby D32 258 rfl) rfl rfl (l' := #[.val (.ref a1), .val (.ref a2), .val (.ref b2), .val (.int (oi lo)), .val (.ref b8), .val (.ref b11), .val (.ref b14), .val (.ref b21), .val (.ref b24), .val (.ref b27), .val (.ref b11), .val (.int yr), .val (.ref b14), .val (.ref b11), .val (.int (1 : Int32)), .val (.int (oi ct)), .val (.ref b32), .val (.int (oi N)), .val (.int (oi i6)), s19]) rfl ?_
                                refine XS.aload X52.here hx rfl (dq hby D32 259 rfl) rfl rfl ?_
                                refine XS.astore X52.here hx rfl (dq hby D32 260 rfl) rfl rfl (l' := #[.val (.ref a1), .val (.ref a2), .val (.ref b2), .val (.int (oi lo)), .val (.ref b8), .val (.ref b11), .val (.ref b14), .val (.ref b21), .val (.ref b24), .val (.ref b27), .val (.ref b11), .val (.int yr), .val (.ref b14), .val (.ref b32), .val (.int (1 : Int32)), .val (.int (oi ct)), .val (.ref b32), .val (.int (oi N)), .val (.int (oi i6)), s19]) rfl ?_
                                refine XS.iload X52.here hx rfl (dq hby D32 261 rfl) rfl ?_
                                refine XS.iconst X52.here hx rfl (dq hby D32 262 rfl) ?_
                                refine XS.imul X52.here hx rfl (dq hby D32 263 rfl) rfl ?_
                                refine XS.istore X52.here hx rfl (dq hby D32 264 rfl) rfl (l' := #[.val (.ref a1), .val (.ref a2), .val (.ref b2), .val (.int (oi lo)), .val (.ref b8), .val (.ref b11), .val (.ref b14), .val (.ref b21), .val (.ref b24), .val (.ref b27), .val (.ref b11), .val (.int yr), .val (.ref b14), .val (.ref b32), .val (.int (2 : Int32)), .val (.int (oi ct)), .val (.ref b32), .val (.int (oi N)), .val (.int (oi i6)), s19]) rfl ?_
                                refine XS.goto X52.here hx rfl (pc0 := 469) (pc' := 259) rfl (dq hby D32 265 rfl) (by decide) (by decide) ?_
                                refine XS.iload X52.here hx rfl (dq hby D32 157 rfl) rfl ?_
                                refine XS.iloadN X52.here hx rfl (dq hby D32 158 rfl) rfl ?_
                                refine XS.icmpYes X52.here hx rfl (pc0 := 262) (pc' := 472) rfl (dq hby D32 159 rfl) rfl (flt (fun q => absurd ((oi_lt (a := 2) (b := lo) (by omega) (by omega)).mp q) (by omega))).2.1 (by decide) (by decide) ?_
                                refine XS.aload X52.here hx rfl (dq hby D32 266 rfl) rfl rfl ?_
                                jvm_step X52.here [X52.here.top, hx, (dq hby D32 267 rfl), X52.method', Bd.returns, Value.isRef, FieldType.isReference]
                                first | (intro acts; rw [hr _ acts rfl rfl rfl]) | rw [hr _ _ rfl rfl rfl]
                                exact Steps.refl _
                              · show Q_rsort Z a1 a2 N K S f h0 n0 _ T52.heap _
                                exact ⟨b27, F3, rfl, N52, KK52, sz_b27, nf51_1_v52, hF3⟩
                            | succ k50 ih50 =>
                              intro TL50 Lc50 hL50 ct i6 B8 s19 XL50 eL50 NL50 ZL50 KL50 lf50_0_v50 lf50_1_v50 lf50_2_v50 lf50_3_v50 lf50_4_v50 lf50_5_v50 lf50_6_v50 lf50_7_v50 lf50_8_v50 lf50_9_v50 hk6 hct hB8 hs19 prL50
                              have hFi := hF2 i6 (by omega)
                              obtain ⟨cl53, Ar53, S53, H53⟩ := id lf50_8_v50
                              replace S53 : Sq cl53.slots.size _ := S53
                              have hin53 : Hq (oi i6) cl53.slots.size := oi_at S53 (by omega) (by omega)
                              have hat53 : cl53.slots[((oi i6)).toNatClampNeg]? = some (.int (oi (F2 i6))) := ArF.at S53 H53 hin53 (congrArg (fun zz => Value.int (oi (F2 zz))) (oi_n (by omega)))
                              have pre54 : ∀ t, Steps p.tables e below (TL50.setTop (mkF m 390 #[.val (.ref a1), .val (.ref a2), .val (.ref b2), .val (.int (oi lo)), .val (.ref b8), .val (.ref b11), .val (.ref b14), .val (.ref b21), .val (.ref b24), .val (.ref b27), .val (.ref b32), .val (.int (oi rn)), .val (.ref b14), .val (.ref b11), .val (.int (1 : Int32)), .val (.int (oi ct)), .val (.ref b27), .val (.int (oi N)), .val (.int (oi i6)), .val (.int (oi (F2 i6)))] [(.int (1 : Int32)), (.int (oi (F2 i6)))])) t → Steps p.tables e below (s₁.setTop (entryFrame m #[(.ref a1), (.ref a2)] 20)) t := by
                                intro t k
                                refine prL50 t ?_
                                refine XS.iload XL50.here hx rfl (dq hby D32 217 rfl) rfl ?_
                                show Steps p.tables e below (TL50.setTop (mkF m 374 #[.val (.ref a1), .val (.ref a2), .val (.ref b2), .val (.int (oi lo)), .val (.ref b8), .val (.ref b11), .val (.ref b14), .val (.ref b21), .val (.ref b24), .val (.ref b27), .val (.ref b32), .val (.int (oi rn)), .val (.ref b14), .val (.ref b11), .val (.int (1 : Int32)), .val (.int (oi ct)), .val (.ref b27), .val (.int (oi N)), .val (.int (oi i6)), s19] [(.int (oi i6))])) _
                                refine XS.iload XL50.here hx rfl (dq hby D32 218 rfl) rfl ?_
                                refine XS.icmpNo XL50.here hx rfl (dq hby D32 219 rfl) rfl (tlt ((by rw [oi_lt (by omega) (by omega)]; omega) : ((oi i6) < (oi N)))).2.1 ?_
                                refine XS.aload XL50.here hx rfl (dq hby D32 220 rfl) rfl rfl ?_
                                refine XS.iload XL50.here hx rfl (dq hby D32 221 rfl) rfl ?_
                                refine XL50.iaload hx (j := (oi i6)) (v := (.int (oi (F2 i6)))) (by rw [eL50]; exact Ar53.1) (State.isArrayOf_alike hZ.alike Ar53.2.1) Ar53.2.2 hin53 hat53 (g := (mkF m 383 #[.val (.ref a1), .val (.ref a2), .val (.ref b2), .val (.int (oi lo)), .val (.ref b8), .val (.ref b11), .val (.ref b14), .val (.ref b21), .val (.ref b24), .val (.ref b27), .val (.ref b32), .val (.int (oi rn)), .val (.ref b14), .val (.ref b11), .val (.int (1 : Int32)), .val (.int (oi ct)), .val (.ref b27), .val (.int (oi N)), .val (.int (oi i6)), s19] [(.int (oi i6)), (.ref b27)])) rfl rfl (dq hby D32 222 rfl) _ ?_
                                refine XS.istore XL50.here hx rfl (dq hby D32 223 rfl) rfl (l' := #[.val (.ref a1), .val (.ref a2), .val (.ref b2), .val (.int (oi lo)), .val (.ref b8), .val (.ref b11), .val (.ref b14), .val (.ref b21), .val (.ref b24), .val (.ref b27), .val (.ref b32), .val (.int (oi rn)), .val (.ref b14), .val (.ref b11), .val (.int (1 : Int32)), .val (.int (oi ct)), .val (.ref b27), .val (.int (oi N)), .val (.int (oi i6)), .val (.int (oi (F2 i6)))]) (by rcases hs19 with rfl | ⟨_, rfl⟩ <;> rfl) ?_
                                refine XS.iload XL50.here hx rfl (dq hby D32 224 rfl) rfl ?_
                                refine XS.iload XL50.here hx rfl (dq hby D32 225 rfl) rfl ?_
                                exact k
                              by_cases hc390_55 : (oi (F2 i6)) < (1 : Int32)
                              · have hlt1 := (oi_lt (a := F2 i6) (b := 1) (by omega) (by omega)).mp hc390_55
                                have pre56 : ∀ t, Steps p.tables e below (TL50.setTop (mkF m 372 #[.val (.ref a1), .val (.ref a2), .val (.ref b2), .val (.int (oi lo)), .val (.ref b8), .val (.ref b11), .val (.ref b14), .val (.ref b21), .val (.ref b24), .val (.ref b27), .val (.ref b32), .val (.int (oi rn)), .val (.ref b14), .val (.ref b11), .val (.int (1 : Int32)), .val (.int (oi ct)), .val (.ref b27), .val (.int (oi N)), .val (.int (oi (i6 + 1))), .val (.int (oi (F2 i6)))] [])) t → Steps p.tables e below (s₁.setTop (entryFrame m #[(.ref a1), (.ref a2)] 20)) t := by
                                  intro t k
                                  refine pre54 t ?_
                                  refine XS.icmpYes XL50.here hx rfl (pc0 := 390) (pc' := 417) rfl (dq hby D32 226 rfl) rfl (tlt hc390_55).1 (by decide) (by decide) ?_
                                  refine XS.iinc XL50.here hx rfl (dq hby D32 240 rfl) rfl (l' := #[.val (.ref a1), .val (.ref a2), .val (.ref b2), .val (.int (oi lo)), .val (.ref b8), .val (.ref b11), .val (.ref b14), .val (.ref b21), .val (.ref b24), .val (.ref b27), .val (.ref b32), .val (.int (oi rn)), .val (.ref b14), .val (.ref b11), .val (.int (1 : Int32)), .val (.int (oi ct)), .val (.ref b27), .val (.int (oi N)), .val (.int ((oi i6) + (1 : Int32))), .val (.int (oi (F2 i6)))]) rfl ?_
                                  show Steps p.tables e below (TL50.setTop (mkF m 420 #[.val (.ref a1), .val (.ref a2), .val (.ref b2), .val (.int (oi lo)), .val (.ref b8), .val (.ref b11), .val (.ref b14), .val (.ref b21), .val (.ref b24), .val (.ref b27), .val (.ref b32), .val (.int (oi rn)), .val (.ref b14), .val (.ref b11), .val (.int (1 : Int32)), .val (.int (oi ct)), .val (.ref b27), .val (.int (oi N)), .val (.int ((oi i6) + (1 : Int32))), .val (.int (oi (F2 i6)))] [])) _
                                  rw [oi_s (i6)]
                                  refine XS.goto XL50.here hx rfl (pc0 := 420) (pc' := 372) rfl (dq hby D32 241 rfl) (by decide) (by decide) ?_
                                  exact k
                                exact ih50 _ _ _ ct (i6 + 1) _ _ XL50 eL50 NL50 ZL50 KL50 lf50_0_v50 lf50_1_v50 lf50_2_v50 lf50_3_v50 lf50_4_v50 lf50_5_v50 lf50_6_v50 lf50_7_v50 lf50_8_v50 lf50_9_v50 (by omega) (by rw [cnt_n (p := fun j => sx g6 (F2 j)) (sx_n1 (by omega))]; exact hct) hB8 (Or.inr ⟨_, rfl⟩) pre56
                              · have hge : 1 ≤ F2 i6 := Nat.le_of_not_lt fun q => hc390_55 ((oi_lt (a := F2 i6) (b := 1) (by omega) (by omega)).mpr q)
                                obtain ⟨cl57, Ar57, S57, H57⟩ := id lf50_5_v50
                                replace S57 : Sq cl57.slots.size _ := S57
                                have hin57 : Hq (oi ((F2 i6) - 1)) cl57.slots.size := oi_at S57 (by omega) (by omega)
                                have hat57 : cl57.slots[((oi ((F2 i6) - 1))).toNatClampNeg]? = some (.int (g6 (((F2 i6) - 1)))) := ArF.at S57 H57 hin57 (congrArg (fun zz => Value.int (g6 zz)) (oi_n (by omega)))
                                have pre58 : ∀ t, Steps p.tables e below (TL50.setTop (mkF m 401 #[.val (.ref a1), .val (.ref a2), .val (.ref b2), .val (.int (oi lo)), .val (.ref b8), .val (.ref b11), .val (.ref b14), .val (.ref b21), .val (.ref b24), .val (.ref b27), .val (.ref b32), .val (.int (oi rn)), .val (.ref b14), .val (.ref b11), .val (.int (1 : Int32)), .val (.int (oi ct)), .val (.ref b27), .val (.int (oi N)), .val (.int (oi i6)), .val (.int (oi (F2 i6)))] [(.int (g6 (((F2 i6) - 1))))])) t → Steps p.tables e below (s₁.setTop (entryFrame m #[(.ref a1), (.ref a2)] 20)) t := by
                                  intro t k
                                  refine pre54 t ?_
                                  refine XS.icmpNo XL50.here hx rfl (dq hby D32 226 rfl) rfl (flt hc390_55).1 ?_
                                  refine XS.aload XL50.here hx rfl (dq hby D32 227 rfl) rfl rfl ?_
                                  refine XS.iload XL50.here hx rfl (dq hby D32 228 rfl) rfl ?_
                                  refine XS.iload XL50.here hx rfl (dq hby D32 229 rfl) rfl ?_
                                  refine XS.isub XL50.here hx rfl (dq hby D32 230 rfl) rfl ?_
                                  show Steps p.tables e below (TL50.setTop (mkF m 400 #[.val (.ref a1), .val (.ref a2), .val (.ref b2), .val (.int (oi lo)), .val (.ref b8), .val (.ref b11), .val (.ref b14), .val (.ref b21), .val (.ref b24), .val (.ref b27), .val (.ref b32), .val (.int (oi rn)), .val (.ref b14), .val (.ref b11), .val (.int (1 : Int32)), .val (.int (oi ct)), .val (.ref b27), .val (.int (oi N)), .val (.int (oi i6)), .val (.int (oi (F2 i6)))] [(.int ((oi (F2 i6)) - (1 : Int32))), (.ref b14)])) _
                                  rw [oi_p (a := (F2 i6)) (by omega)]
                                  refine XL50.iaload hx (j := (oi ((F2 i6) - 1))) (v := (.int (g6 (((F2 i6) - 1))))) (by rw [eL50]; exact Ar57.1) (State.isArrayOf_alike hZ.alike Ar57.2.1) Ar57.2.2 hin57 hat57 (g := (mkF m 400 #[.val (.ref a1), .val (.ref a2), .val (.ref b2), .val (.int (oi lo)), .val (.ref b8), .val (.ref b11), .val (.ref b14), .val (.ref b21), .val (.ref b24), .val (.ref b27), .val (.ref b32), .val (.int (oi rn)), .val (.ref b14), .val (.ref b11), .val (.int (1 : Int32)), .val (.int (oi ct)), .val (.ref b27), .val (.int (oi N)), .val (.int (oi i6)), .val (.int (oi (F2 i6)))] [(.int (oi ((F2 i6) - 1))), (.ref b14)])) rfl rfl (dq hby D32 231 rfl) _ ?_
                                  exact k
                                by_cases hc401_59 : (g6 (((F2 i6) - 1))) = (0 : Int32)
                                · have pre60 : ∀ t, Steps p.tables e below (TL50.setTop (mkF m 372 #[.val (.ref a1), .val (.ref a2), .val (.ref b2), .val (.int (oi lo)), .val (.ref b8), .val (.ref b11), .val (.ref b14), .val (.ref b21), .val (.ref b24), .val (.ref b27), .val (.ref b32), .val (.int (oi rn)), .val (.ref b14), .val (.ref b11), .val (.int (1 : Int32)), .val (.int (oi ct)), .val (.ref b27), .val (.int (oi N)), .val (.int (oi (i6 + 1))), .val (.int (oi (F2 i6)))] [])) t → Steps p.tables e below (s₁.setTop (entryFrame m #[(.ref a1), (.ref a2)] 20)) t := by
                                    intro t k
                                    refine pre58 t ?_
                                    refine XS.ifYes XL50.here hx rfl (pc0 := 401) (pc' := 417) rfl (dq hby D32 232 rfl) rfl ((if0 _ _).trans (teq hc401_59).1) (by decide) (by decide) ?_
                                    refine XS.iinc XL50.here hx rfl (dq hby D32 240 rfl) rfl (l' := #[.val (.ref a1), .val (.ref a2), .val (.ref b2), .val (.int (oi lo)), .val (.ref b8), .val (.ref b11), .val (.ref b14), .val (.ref b21), .val (.ref b24), .val (.ref b27), .val (.ref b32), .val (.int (oi rn)), .val (.ref b14), .val (.ref b11), .val (.int (1 : Int32)), .val (.int (oi ct)), .val (.ref b27), .val (.int (oi N)), .val (.int ((oi i6) + (1 : Int32))), .val (.int (oi (F2 i6)))]) rfl ?_
                                    show Steps p.tables e below (TL50.setTop (mkF m 420 #[.val (.ref a1), .val (.ref a2), .val (.ref b2), .val (.int (oi lo)), .val (.ref b8), .val (.ref b11), .val (.ref b14), .val (.ref b21), .val (.ref b24), .val (.ref b27), .val (.ref b32), .val (.int (oi rn)), .val (.ref b14), .val (.ref b11), .val (.int (1 : Int32)), .val (.int (oi ct)), .val (.ref b27), .val (.int (oi N)), .val (.int ((oi i6) + (1 : Int32))), .val (.int (oi (F2 i6)))] [])) _
                                    rw [oi_s (i6)]
                                    refine XS.goto XL50.here hx rfl (pc0 := 420) (pc' := 372) rfl (dq hby D32 241 rfl) (by decide) (by decide) ?_
                                    exact k
                                  exact ih50 _ _ _ ct (i6 + 1) _ _ XL50 eL50 NL50 ZL50 KL50 lf50_0_v50 lf50_1_v50 lf50_2_v50 lf50_3_v50 lf50_4_v50 lf50_5_v50 lf50_6_v50 lf50_7_v50 lf50_8_v50 lf50_9_v50 (by omega) (by rw [cnt_n (p := fun j => sx g6 (F2 j)) (sx_n2 hc401_59)]; exact hct) hB8 (Or.inr ⟨_, rfl⟩) pre60
                                · have hcl := ct_lt hperm (show i6 < N by omega) hge hc401_59
                                  obtain ⟨cl61, Ar61, S61, H61⟩ := id lf50_6_v50
                                  replace S61 : Sq cl61.slots.size _ := S61
                                  have hin61 : Hq (oi ct) cl61.slots.size := oi_at S61 (by omega) (by omega)
                                  obtain ⟨T61, h61, X61, e61, W61, st61⟩ := stI XL50 hx hZ eL50 Ar61 (j := (oi ct)) hin61 (g := (mkF m 413 #[.val (.ref a1), .val (.ref a2), .val (.ref b2), .val (.int (oi lo)), .val (.ref b8), .val (.ref b11), .val (.ref b14), .val (.ref b21), .val (.ref b24), .val (.ref b27), .val (.ref b32), .val (.int (oi rn)), .val (.ref b14), .val (.ref b11), .val (.int (1 : Int32)), .val (.int (oi ct)), .val (.ref b27), .val (.int (oi N)), .val (.int (oi i6)), .val (.int (oi (F2 i6)))] [(.int (oi ((F2 i6) - 1))), (.int (oi ct)), (.ref b24)])) rfl rfl (dq hby D32 238 rfl)
                                  have lf50_0_v61 := lf50_0_v50.other W61 ne_a1_b24
                                  have lf50_1_v61 := lf50_1_v50.other W61 ne_a2_b24
                                  have lf50_2_v61 := lf50_2_v50.other W61 ne_b2_b24
                                  have lf50_3_v61 := lf50_3_v50.other W61 ne_b8_b24
                                  have lf50_4_v61 := lf50_4_v50.other W61 ne_b11_b24
                                  have lf50_5_v61 := lf50_5_v50.other W61 ne_b14_b24
                                  have lf50_7_v61 := lf50_7_v50.other W61 ne_b21_b24
                                  have lf50_8_v61 := lf50_8_v50.other W61 (Ne.symm ne_b24_b27)
                                  have lf50_9_v61 := lf50_9_v50.other W61 (Ne.symm ne_b24_b32)
                                  have Z61 : Lq n0 h61.size := Nat.le_trans ZL50 (Nat.le_of_eq W61.size.symm)
                                  have K61 := KL50.wr W61 (Or.inr sz_b24)
                                  have V61_v61 := ArF.set Ar61 S61 H61 W61 hin61
                                  have N61 := Fr.snoc X61 NL50 g_b24
                                  have pre62 : ∀ t, Steps p.tables e below (T61.setTop (mkF m 372 #[.val (.ref a1), .val (.ref a2), .val (.ref b2), .val (.int (oi lo)), .val (.ref b8), .val (.ref b11), .val (.ref b14), .val (.ref b21), .val (.ref b24), .val (.ref b27), .val (.ref b32), .val (.int (oi rn)), .val (.ref b14), .val (.ref b11), .val (.int (1 : Int32)), .val (.int (oi (ct + 1))), .val (.ref b27), .val (.int (oi N)), .val (.int (oi (i6 + 1))), .val (.int (oi (F2 i6)))] [])) t → Steps p.tables e below (s₁.setTop (entryFrame m #[(.ref a1), (.ref a2)] 20)) t := by
                                    intro t k
                                    refine pre58 t ?_
                                    refine XS.ifNo XL50.here hx rfl (dq hby D32 232 rfl) rfl ((if0 _ _).trans (feq hc401_59).1) ?_
                                    refine XS.aload XL50.here hx rfl (dq hby D32 233 rfl) rfl rfl ?_
                                    refine XS.iload XL50.here hx rfl (dq hby D32 234 rfl) rfl ?_
                                    refine XS.iload XL50.here hx rfl (dq hby D32 235 rfl) rfl ?_
                                    refine XS.iload XL50.here hx rfl (dq hby D32 236 rfl) rfl ?_
                                    refine XS.isub XL50.here hx rfl (dq hby D32 237 rfl) rfl ?_
                                    show Steps p.tables e below (TL50.setTop (mkF m 413 #[.val (.ref a1), .val (.ref a2), .val (.ref b2), .val (.int (oi lo)), .val (.ref b8), .val (.ref b11), .val (.ref b14), .val (.ref b21), .val (.ref b24), .val (.ref b27), .val (.ref b32), .val (.int (oi rn)), .val (.ref b14), .val (.ref b11), .val (.int (1 : Int32)), .val (.int (oi ct)), .val (.ref b27), .val (.int (oi N)), .val (.int (oi i6)), .val (.int (oi (F2 i6)))] [(.int ((oi (F2 i6)) - (1 : Int32))), (.int (oi ct)), (.ref b24)])) _
                                    rw [oi_p (a := (F2 i6)) (by omega)]
                                    refine st61 _ ?_
                                    refine XS.iinc X61.here hx rfl (dq hby D32 239 rfl) rfl (l' := #[.val (.ref a1), .val (.ref a2), .val (.ref b2), .val (.int (oi lo)), .val (.ref b8), .val (.ref b11), .val (.ref b14), .val (.ref b21), .val (.ref b24), .val (.ref b27), .val (.ref b32), .val (.int (oi rn)), .val (.ref b14), .val (.ref b11), .val (.int (1 : Int32)), .val (.int ((oi ct) + (1 : Int32))), .val (.ref b27), .val (.int (oi N)), .val (.int (oi i6)), .val (.int (oi (F2 i6)))]) rfl ?_
                                    show Steps p.tables e below (T61.setTop (mkF m 417 #[.val (.ref a1), .val (.ref a2), .val (.ref b2), .val (.int (oi lo)), .val (.ref b8), .val (.ref b11), .val (.ref b14), .val (.ref b21), .val (.ref b24), .val (.ref b27), .val (.ref b32), .val (.int (oi rn)), .val (.ref b14), .val (.ref b11), .val (.int (1 : Int32)), .val (.int ((oi ct) + (1 : Int32))), .val (.ref b27), .val (.int (oi N)), .val (.int (oi i6)), .val (.int (oi (F2 i6)))] [])) _
                                    rw [oi_s (ct)]
                                    refine XS.iinc X61.here hx rfl (dq hby D32 240 rfl) rfl (l' := #[.val (.ref a1), .val (.ref a2), .val (.ref b2), .val (.int (oi lo)), .val (.ref b8), .val (.ref b11), .val (.ref b14), .val (.ref b21), .val (.ref b24), .val (.ref b27), .val (.ref b32), .val (.int (oi rn)), .val (.ref b14), .val (.ref b11), .val (.int (1 : Int32)), .val (.int (oi (ct + 1))), .val (.ref b27), .val (.int (oi N)), .val (.int ((oi i6) + (1 : Int32))), .val (.int (oi (F2 i6)))]) rfl ?_
                                    show Steps p.tables e below (T61.setTop (mkF m 420 #[.val (.ref a1), .val (.ref a2), .val (.ref b2), .val (.int (oi lo)), .val (.ref b8), .val (.ref b11), .val (.ref b14), .val (.ref b21), .val (.ref b24), .val (.ref b27), .val (.ref b32), .val (.int (oi rn)), .val (.ref b14), .val (.ref b11), .val (.int (1 : Int32)), .val (.int (oi (ct + 1))), .val (.ref b27), .val (.int (oi N)), .val (.int ((oi i6) + (1 : Int32))), .val (.int (oi (F2 i6)))] [])) _
                                    rw [oi_s (i6)]
                                    refine XS.goto X61.here hx rfl (pc0 := 420) (pc' := 372) rfl (dq hby D32 241 rfl) (by decide) (by decide) ?_
                                    exact k
                                  exact ih50 _ _ _ (ct + 1) (i6 + 1) _ _ X61 e61 N61 Z61 K61 lf50_0_v61 lf50_1_v61 lf50_2_v61 lf50_3_v61 lf50_4_v61 lf50_5_v61 (V61_v61.congr (fun j hj => set_upN (oi_n (by omega)) j)) lf50_7_v61 lf50_8_v61 lf50_9_v61 (by omega) (by rw [cnt_y (p := fun j => sx g6 (F2 j)) (sx_y hge hc401_59), hct]; omega) (upN_lt hB8 (by omega)) (Or.inr ⟨_, rfl⟩) pre62
                          exact loop50 N _ _ _ ct 0 B8 .unset XL46 eL46 NL46 ZL46 KL46 lf46_0_v46 lf46_1_v46 lf46_2_v46 lf46_3_v46 lf46_4_v46 lf46_5_v46 lf46_6_v46 lf46_7_v46 lf46_8_v46 lf46_9_v46 (by omega) (by rw [hct, hi5]; rfl) hB8 (Or.inl rfl) pre49
                        | succ k46 ih46 =>
                          intro TL46 Lc46 hL46 ct i5 B8 XL46 eL46 NL46 ZL46 KL46 lf46_0_v46 lf46_1_v46 lf46_2_v46 lf46_3_v46 lf46_4_v46 lf46_5_v46 lf46_6_v46 lf46_7_v46 lf46_8_v46 lf46_9_v46 hk5 hct hB8 prL46
                          have hcl := cnt_le (zr g6) i5
                          obtain ⟨cl63, Ar63, S63, H63⟩ := id lf46_0_v46
                          replace S63 : Sq cl63.slots.size _ := S63
                          obtain ⟨cl64, Ar64, S64, H64⟩ := id lf46_5_v46
                          replace S64 : Sq cl64.slots.size _ := S64
                          have hin64 : Hq (oi i5) cl64.slots.size := oi_at S64 (by omega) (by omega)
                          have hat64 : cl64.slots[((oi i5)).toNatClampNeg]? = some (.int (g6 i5)) := ArF.at S64 H64 hin64 (congrArg (fun zz => Value.int (g6 zz)) (oi_n (by omega)))
                          have pre65 : ∀ t, Steps p.tables e below (TL46.setTop (mkF m 341 #[.val (.ref a1), .val (.ref a2), .val (.ref b2), .val (.int (oi lo)), .val (.ref b8), .val (.ref b11), .val (.ref b14), .val (.ref b21), .val (.ref b24), .val (.ref b27), .val (.ref b32), .val (.int (oi rn)), .val (.ref b14), .val (.ref b11), .val (.int (1 : Int32)), .val (.int (oi ct)), .val (.int (oi i5)), .unset, .unset, .unset] [(.int (g6 i5))])) t → Steps p.tables e below (s₁.setTop (entryFrame m #[(.ref a1), (.ref a2)] 20)) t := by
                            intro t k
                            refine prL46 t ?_
                            refine XS.iload XL46.here hx rfl (dq hby D32 195 rfl) rfl ?_
                            refine XS.aloadN XL46.here hx rfl (dq hby D32 196 rfl) rfl rfl ?_
                            refine XL46.arraylength hx (by rw [eL46]; exact Ar63.1) (State.isArrayOf_alike hZ.alike Ar63.2.1) (g := (mkF m 332 #[.val (.ref a1), .val (.ref a2), .val (.ref b2), .val (.int (oi lo)), .val (.ref b8), .val (.ref b11), .val (.ref b14), .val (.ref b21), .val (.ref b24), .val (.ref b27), .val (.ref b32), .val (.int (oi rn)), .val (.ref b14), .val (.ref b11), .val (.int (1 : Int32)), .val (.int (oi ct)), .val (.int (oi i5)), .unset, .unset, .unset] [(.ref a1), (.int (oi i5))])) rfl rfl (dq hby D32 197 rfl) _ ?_
                            rw [show cl63.slots.size.toInt32 = (oi N) from (congrArg Nat.toInt32 S63).trans rfl]
                            refine XS.icmpNo XL46.here hx rfl (dq hby D32 198 rfl) rfl (tlt ((by rw [oi_lt (by omega) (by omega)]; omega) : ((oi i5) < (oi N)))).2.1 ?_
                            refine XS.aload XL46.here hx rfl (dq hby D32 199 rfl) rfl rfl ?_
                            refine XS.iload XL46.here hx rfl (dq hby D32 200 rfl) rfl ?_
                            refine XL46.iaload hx (j := (oi i5)) (v := (.int (g6 i5))) (by rw [eL46]; exact Ar64.1) (State.isArrayOf_alike hZ.alike Ar64.2.1) Ar64.2.2 hin64 hat64 (g := (mkF m 340 #[.val (.ref a1), .val (.ref a2), .val (.ref b2), .val (.int (oi lo)), .val (.ref b8), .val (.ref b11), .val (.ref b14), .val (.ref b21), .val (.ref b24), .val (.ref b27), .val (.ref b32), .val (.int (oi rn)), .val (.ref b14), .val (.ref b11), .val (.int (1 : Int32)), .val (.int (oi ct)), .val (.int (oi i5)), .unset, .unset, .unset] [(.int (oi i5)), (.ref b14)])) rfl rfl (dq hby D32 201 rfl) _ ?_
                            exact k
                          by_cases hc341_66 : (g6 i5) = (0 : Int32)
                          · obtain ⟨cl67, Ar67, S67, H67⟩ := id lf46_6_v46
                            replace S67 : Sq cl67.slots.size _ := S67
                            have hin67 : Hq (oi ct) cl67.slots.size := oi_at S67 (by omega) (by omega)
                            obtain ⟨T67, h67, X67, e67, W67, st67⟩ := stI XL46 hx hZ eL46 Ar67 (j := (oi ct)) hin67 (g := (mkF m 350 #[.val (.ref a1), .val (.ref a2), .val (.ref b2), .val (.int (oi lo)), .val (.ref b8), .val (.ref b11), .val (.ref b14), .val (.ref b21), .val (.ref b24), .val (.ref b27), .val (.ref b32), .val (.int (oi rn)), .val (.ref b14), .val (.ref b11), .val (.int (1 : Int32)), .val (.int (oi ct)), .val (.int (oi i5)), .unset, .unset, .unset] [(.int (oi i5)), (.int (oi ct)), (.ref b24)])) rfl rfl (dq hby D32 206 rfl)
                            have lf46_0_v67 := lf46_0_v46.other W67 ne_a1_b24
                            have lf46_1_v67 := lf46_1_v46.other W67 ne_a2_b24
                            have lf46_2_v67 := lf46_2_v46.other W67 ne_b2_b24
                            have lf46_3_v67 := lf46_3_v46.other W67 ne_b8_b24
                            have lf46_4_v67 := lf46_4_v46.other W67 ne_b11_b24
                            have lf46_5_v67 := lf46_5_v46.other W67 ne_b14_b24
                            have lf46_7_v67 := lf46_7_v46.other W67 ne_b21_b24
                            have lf46_8_v67 := lf46_8_v46.other W67 (Ne.symm ne_b24_b27)
                            have lf46_9_v67 := lf46_9_v46.other W67 (Ne.symm ne_b24_b32)
                            have Z67 : Lq n0 h67.size := Nat.le_trans ZL46 (Nat.le_of_eq W67.size.symm)
                            have K67 := KL46.wr W67 (Or.inr sz_b24)
                            have V67_v67 := ArF.set Ar67 S67 H67 W67 hin67
                            have N67 := Fr.snoc X67 NL46 g_b24
                            have pre68 : ∀ t, Steps p.tables e below (T67.setTop (mkF m 329 #[.val (.ref a1), .val (.ref a2), .val (.ref b2), .val (.int (oi lo)), .val (.ref b8), .val (.ref b11), .val (.ref b14), .val (.ref b21), .val (.ref b24), .val (.ref b27), .val (.ref b32), .val (.int (oi rn)), .val (.ref b14), .val (.ref b11), .val (.int (1 : Int32)), .val (.int (oi (ct + 1))), .val (.int (oi (i5 + 1))), .unset, .unset, .unset] [])) t → Steps p.tables e below (s₁.setTop (entryFrame m #[(.ref a1), (.ref a2)] 20)) t := by
                              intro t k
                              refine pre65 t ?_
                              refine XS.ifNo XL46.here hx rfl (dq hby D32 202 rfl) rfl ((if0 _ _).trans (teq hc341_66).2) ?_
                              refine XS.aload XL46.here hx rfl (dq hby D32 203 rfl) rfl rfl ?_
                              refine XS.iload XL46.here hx rfl (dq hby D32 204 rfl) rfl ?_
                              refine XS.iload XL46.here hx rfl (dq hby D32 205 rfl) rfl ?_
                              refine st67 _ ?_
                              refine XS.iinc X67.here hx rfl (dq hby D32 207 rfl) rfl (l' := #[.val (.ref a1), .val (.ref a2), .val (.ref b2), .val (.int (oi lo)), .val (.ref b8), .val (.ref b11), .val (.ref b14), .val (.ref b21), .val (.ref b24), .val (.ref b27), .val (.ref b32), .val (.int (oi rn)), .val (.ref b14), .val (.ref b11), .val (.int (1 : Int32)), .val (.int ((oi ct) + (1 : Int32))), .val (.int (oi i5)), .unset, .unset, .unset]) rfl ?_
                              show Steps p.tables e below (T67.setTop (mkF m 354 #[.val (.ref a1), .val (.ref a2), .val (.ref b2), .val (.int (oi lo)), .val (.ref b8), .val (.ref b11), .val (.ref b14), .val (.ref b21), .val (.ref b24), .val (.ref b27), .val (.ref b32), .val (.int (oi rn)), .val (.ref b14), .val (.ref b11), .val (.int (1 : Int32)), .val (.int ((oi ct) + (1 : Int32))), .val (.int (oi i5)), .unset, .unset, .unset] [])) _
                              rw [oi_s (ct)]
                              refine XS.iinc X67.here hx rfl (dq hby D32 208 rfl) rfl (l' := #[.val (.ref a1), .val (.ref a2), .val (.ref b2), .val (.int (oi lo)), .val (.ref b8), .val (.ref b11), .val (.ref b14), .val (.ref b21), .val (.ref b24), .val (.ref b27), .val (.ref b32), .val (.int (oi rn)), .val (.ref b14), .val (.ref b11), .val (.int (1 : Int32)), .val (.int (oi (ct + 1))), .val (.int ((oi i5) + (1 : Int32))), .unset, .unset, .unset]) rfl ?_
                              show Steps p.tables e below (T67.setTop (mkF m 357 #[.val (.ref a1), .val (.ref a2), .val (.ref b2), .val (.int (oi lo)), .val (.ref b8), .val (.ref b11), .val (.ref b14), .val (.ref b21), .val (.ref b24), .val (.ref b27), .val (.ref b32), .val (.int (oi rn)), .val (.ref b14), .val (.ref b11), .val (.int (1 : Int32)), .val (.int (oi (ct + 1))), .val (.int ((oi i5) + (1 : Int32))), .unset, .unset, .unset] [])) _
                              rw [oi_s (i5)]
                              refine XS.goto X67.here hx rfl (pc0 := 357) (pc' := 329) rfl (dq hby D32 209 rfl) (by decide) (by decide) ?_
                              exact k
                            exact ih46 _ _ _ (ct + 1) (i5 + 1) _ X67 e67 N67 Z67 K67 lf46_0_v67 lf46_1_v67 lf46_2_v67 lf46_3_v67 lf46_4_v67 lf46_5_v67 (V67_v67.congr (fun j hj => set_upN (oi_n (by omega)) j)) lf46_7_v67 lf46_8_v67 lf46_9_v67 (by omega) (by rw [cnt_y (p := zr g6) (by unfold zr; simpa using hc341_66), hct]) (upN_lt hB8 (by omega)) pre68
                          · have pre69 : ∀ t, Steps p.tables e below (TL46.setTop (mkF m 329 #[.val (.ref a1), .val (.ref a2), .val (.ref b2), .val (.int (oi lo)), .val (.ref b8), .val (.ref b11), .val (.ref b14), .val (.ref b21), .val (.ref b24), .val (.ref b27), .val (.ref b32), .val (.int (oi rn)), .val (.ref b14), .val (.ref b11), .val (.int (1 : Int32)), .val (.int (oi ct)), .val (.int (oi (i5 + 1))), .unset, .unset, .unset] [])) t → Steps p.tables e below (s₁.setTop (entryFrame m #[(.ref a1), (.ref a2)] 20)) t := by
                              intro t k
                              refine pre65 t ?_
                              refine XS.ifYes XL46.here hx rfl (pc0 := 341) (pc' := 354) rfl (dq hby D32 202 rfl) rfl ((if0 _ _).trans (feq hc341_66).2) (by decide) (by decide) ?_
                              refine XS.iinc XL46.here hx rfl (dq hby D32 208 rfl) rfl (l' := #[.val (.ref a1), .val (.ref a2), .val (.ref b2), .val (.int (oi lo)), .val (.ref b8), .val (.ref b11), .val (.ref b14), .val (.ref b21), .val (.ref b24), .val (.ref b27), .val (.ref b32), .val (.int (oi rn)), .val (.ref b14), .val (.ref b11), .val (.int (1 : Int32)), .val (.int (oi ct)), .val (.int ((oi i5) + (1 : Int32))), .unset, .unset, .unset]) rfl ?_
                              show Steps p.tables e below (TL46.setTop (mkF m 357 #[.val (.ref a1), .val (.ref a2), .val (.ref b2), .val (.int (oi lo)), .val (.ref b8), .val (.ref b11), .val (.ref b14), .val (.ref b21), .val (.ref b24), .val (.ref b27), .val (.ref b32), .val (.int (oi rn)), .val (.ref b14), .val (.ref b11), .val (.int (1 : Int32)), .val (.int (oi ct)), .val (.int ((oi i5) + (1 : Int32))), .unset, .unset, .unset] [])) _
                              rw [oi_s (i5)]
                              refine XS.goto XL46.here hx rfl (pc0 := 357) (pc' := 329) rfl (dq hby D32 209 rfl) (by decide) (by decide) ?_
                              exact k
                            exact ih46 _ _ _ ct (i5 + 1) _ XL46 eL46 NL46 ZL46 KL46 lf46_0_v46 lf46_1_v46 lf46_2_v46 lf46_3_v46 lf46_4_v46 lf46_5_v46 lf46_6_v46 lf46_7_v46 lf46_8_v46 lf46_9_v46 (by omega) (by rw [cnt_n (p := zr g6) (by unfold zr; simpa using hc341_66), hct]) hB8 pre69
                      exact loop46 N _ _ _ 0 0 F1 XL43 eL43 NL43 ZL43 KL43 lf43_0_v43 lf43_1_v43 lf43_2_v43 lf43_3_v43 lf43_4_v43 lf43_5_v43 lf43_6_v43 lf43_7_v43 lf43_8_v43 lf43_9_v43 (by omega) rfl hF1 pre45
                    | succ k43 ih43 =>
                      intro TL43 Lc43 hL43 i4 g6 XL43 eL43 NL43 ZL43 KL43 lf43_0_v43 lf43_1_v43 lf43_2_v43 lf43_3_v43 lf43_4_v43 lf43_5_v43 lf43_6_v43 lf43_7_v43 lf43_8_v43 lf43_9_v43 hk4 prL43
                      have hEi := hE i4 (by omega)
                      obtain ⟨cl70, Ar70, S70, H70⟩ := id lf43_0_v43
                      replace S70 : Sq cl70.slots.size _ := S70
                      obtain ⟨cl71, Ar71, S71, H71⟩ := id lf43_2_v43
                      replace S71 : Sq cl71.slots.size _ := S71
                      have hin71 : Hq (oi i4) cl71.slots.size := oi_at S71 (by omega) (by omega)
                      have hat71 : cl71.slots[((oi i4)).toNatClampNeg]? = some (.int (oi (E i4))) := ArF.at S71 H71 hin71 (congrArg (fun zz => Value.int (oi (E zz))) (oi_n (by omega)))
                      have pre72 : ∀ t, Steps p.tables e below (TL43.setTop (mkF m 301 #[.val (.ref a1), .val (.ref a2), .val (.ref b2), .val (.int (oi lo)), .val (.ref b8), .val (.ref b11), .val (.ref b14), .val (.ref b21), .val (.ref b24), .val (.ref b27), .val (.ref b32), .val (.int (oi rn)), .val (.ref b14), .val (.ref b11), .val (.int (1 : Int32)), .val (.int (oi i4)), .unset, .unset, .unset, .unset] [(.int (oi (E i4))), (.int (oi (i4 + 1))), (.int (oi i4)), (.ref b14)])) t → Steps p.tables e below (s₁.setTop (entryFrame m #[(.ref a1), (.ref a2)] 20)) t := by
                        intro t k
                        refine prL43 t ?_
                        refine XS.iload XL43.here hx rfl (dq hby D32 168 rfl) rfl ?_
                        refine XS.aloadN XL43.here hx rfl (dq hby D32 169 rfl) rfl rfl ?_
                        refine XL43.arraylength hx (by rw [eL43]; exact Ar70.1) (State.isArrayOf_alike hZ.alike Ar70.2.1) (g := (mkF m 284 #[.val (.ref a1), .val (.ref a2), .val (.ref b2), .val (.int (oi lo)), .val (.ref b8), .val (.ref b11), .val (.ref b14), .val (.ref b21), .val (.ref b24), .val (.ref b27), .val (.ref b32), .val (.int (oi rn)), .val (.ref b14), .val (.ref b11), .val (.int (1 : Int32)), .val (.int (oi i4)), .unset, .unset, .unset, .unset] [(.ref a1), (.int (oi i4))])) rfl rfl (dq hby D32 170 rfl) _ ?_
                        rw [show cl70.slots.size.toInt32 = (oi N) from (congrArg Nat.toInt32 S70).trans rfl]
                        refine XS.icmpNo XL43.here hx rfl (dq hby D32 171 rfl) rfl (tlt ((by rw [oi_lt (by omega) (by omega)]; omega) : ((oi i4) < (oi N)))).2.1 ?_
                        refine XS.aload XL43.here hx rfl (dq hby D32 172 rfl) rfl rfl ?_
                        refine XS.iload XL43.here hx rfl (dq hby D32 173 rfl) rfl ?_
                        refine XS.iload XL43.here hx rfl (dq hby D32 174 rfl) rfl ?_
                        refine XS.iload XL43.here hx rfl (dq hby D32 175 rfl) rfl ?_
                        refine XS.iadd XL43.here hx rfl (dq hby D32 176 rfl) rfl ?_
                        show Steps p.tables e below (TL43.setTop (mkF m 297 #[.val (.ref a1), .val (.ref a2), .val (.ref b2), .val (.int (oi lo)), .val (.ref b8), .val (.ref b11), .val (.ref b14), .val (.ref b21), .val (.ref b24), .val (.ref b27), .val (.ref b32), .val (.int (oi rn)), .val (.ref b14), .val (.ref b11), .val (.int (1 : Int32)), .val (.int (oi i4)), .unset, .unset, .unset, .unset] [(.int ((oi i4) + (1 : Int32))), (.int (oi i4)), (.ref b14)])) _
                        rw [oi_s (i4)]
                        refine XS.aloadN XL43.here hx rfl (dq hby D32 177 rfl) rfl rfl ?_
                        refine XS.iload XL43.here hx rfl (dq hby D32 178 rfl) rfl ?_
                        refine XL43.iaload hx (j := (oi i4)) (v := (.int (oi (E i4)))) (by rw [eL43]; exact Ar71.1) (State.isArrayOf_alike hZ.alike Ar71.2.1) Ar71.2.2 hin71 hat71 (g := (mkF m 300 #[.val (.ref a1), .val (.ref a2), .val (.ref b2), .val (.int (oi lo)), .val (.ref b8), .val (.ref b11), .val (.ref b14), .val (.ref b21), .val (.ref b24), .val (.ref b27), .val (.ref b32), .val (.int (oi rn)), .val (.ref b14), .val (.ref b11), .val (.int (1 : Int32)), .val (.int (oi i4)), .unset, .unset, .unset, .unset] [(.int (oi i4)), (.ref b2), (.int (oi (i4 + 1))), (.int (oi i4)), (.ref b14)])) rfl rfl (dq hby D32 179 rfl) _ ?_
                        exact k
                      by_cases hc301_73 : (oi (i4 + 1)) < (oi (E i4))
                      · have hlt4 := (oi_lt (by omega) (by omega)).mp hc301_73
                        obtain ⟨cl74, Ar74, S74, H74⟩ := id lf43_9_v43
                        replace S74 : Sq cl74.slots.size _ := S74
                        have hin74 : Hq (oi (i4 + 1)) cl74.slots.size := oi_at S74 (by omega) (by omega)
                        have hat74 : cl74.slots[((oi (i4 + 1))).toNatClampNeg]? = some (.int (oi (rkc ((i4 + 1))))) := ArF.at S74 H74 hin74 (congrArg (fun zz => Value.int (oi (rkc zz))) (oi_n (by omega)))
                        obtain ⟨cl75, Ar75, S75, H75⟩ := id lf43_5_v43
                        replace S75 : Sq cl75.slots.size _ := S75
                        have hin75 : Hq (oi i4) cl75.slots.size := oi_at S75 (by omega) (by omega)
                        obtain ⟨T75, h75, X75, e75, W75, st75⟩ := stI XL43 hx hZ eL43 Ar75 (j := (oi i4)) hin75 (g := (mkF m 316 #[.val (.ref a1), .val (.ref a2), .val (.ref b2), .val (.int (oi lo)), .val (.ref b8), .val (.ref b11), .val (.ref b14), .val (.ref b21), .val (.ref b24), .val (.ref b27), .val (.ref b32), .val (.int (oi rn)), .val (.ref b14), .val (.ref b11), .val (.int (1 : Int32)), .val (.int (oi i4)), .unset, .unset, .unset, .unset] [(.int (oi (rkc ((i4 + 1))))), (.int (oi i4)), (.ref b14)])) rfl rfl (dq hby D32 188 rfl)
                        have lf43_0_v75 := lf43_0_v43.other W75 ne_a1_b14
                        have lf43_1_v75 := lf43_1_v43.other W75 ne_a2_b14
                        have lf43_2_v75 := lf43_2_v43.other W75 ne_b2_b14
                        have lf43_3_v75 := lf43_3_v43.other W75 ne_b8_b14
                        have lf43_4_v75 := lf43_4_v43.other W75 ne_b11_b14
                        have lf43_6_v75 := lf43_6_v43.other W75 (Ne.symm ne_b14_b24)
                        have lf43_7_v75 := lf43_7_v43.other W75 (Ne.symm ne_b14_b21)
                        have lf43_8_v75 := lf43_8_v43.other W75 (Ne.symm ne_b14_b27)
                        have lf43_9_v75 := lf43_9_v43.other W75 (Ne.symm ne_b14_b32)
                        have Z75 : Lq n0 h75.size := Nat.le_trans ZL43 (Nat.le_of_eq W75.size.symm)
                        have K75 := KL43.wr W75 (Or.inr sz_b14)
                        have V75_v75 := ArF.set Ar75 S75 H75 W75 hin75
                        have N75 := Fr.snoc X75 NL43 g_b14
                        have pre76 : ∀ t, Steps p.tables e below (T75.setTop (mkF m 281 #[.val (.ref a1), .val (.ref a2), .val (.ref b2), .val (.int (oi lo)), .val (.ref b8), .val (.ref b11), .val (.ref b14), .val (.ref b21), .val (.ref b24), .val (.ref b27), .val (.ref b32), .val (.int (oi rn)), .val (.ref b14), .val (.ref b11), .val (.int (1 : Int32)), .val (.int (oi (i4 + 1))), .unset, .unset, .unset, .unset] [])) t → Steps p.tables e below (s₁.setTop (entryFrame m #[(.ref a1), (.ref a2)] 20)) t := by
                          intro t k
                          refine pre72 t ?_
                          refine XS.icmpNo XL43.here hx rfl (dq hby D32 180 rfl) rfl (tlt hc301_73).2.1 ?_
                          refine XS.aload XL43.here hx rfl (dq hby D32 181 rfl) rfl rfl ?_
                          refine XS.iload XL43.here hx rfl (dq hby D32 182 rfl) rfl ?_
                          refine XS.iload XL43.here hx rfl (dq hby D32 183 rfl) rfl ?_
                          refine XS.iadd XL43.here hx rfl (dq hby D32 184 rfl) rfl ?_
                          show Steps p.tables e below (TL43.setTop (mkF m 311 #[.val (.ref a1), .val (.ref a2), .val (.ref b2), .val (.int (oi lo)), .val (.ref b8), .val (.ref b11), .val (.ref b14), .val (.ref b21), .val (.ref b24), .val (.ref b27), .val (.ref b32), .val (.int (oi rn)), .val (.ref b14), .val (.ref b11), .val (.int (1 : Int32)), .val (.int (oi i4)), .unset, .unset, .unset, .unset] [(.int ((oi i4) + (1 : Int32))), (.ref b32), (.int (oi i4)), (.ref b14)])) _
                          rw [oi_s (i4)]
                          refine XL43.iaload hx (j := (oi (i4 + 1))) (v := (.int (oi (rkc ((i4 + 1)))))) (by rw [eL43]; exact Ar74.1) (State.isArrayOf_alike hZ.alike Ar74.2.1) Ar74.2.2 hin74 hat74 (g := (mkF m 311 #[.val (.ref a1), .val (.ref a2), .val (.ref b2), .val (.int (oi lo)), .val (.ref b8), .val (.ref b11), .val (.ref b14), .val (.ref b21), .val (.ref b24), .val (.ref b27), .val (.ref b32), .val (.int (oi rn)), .val (.ref b14), .val (.ref b11), .val (.int (1 : Int32)), .val (.int (oi i4)), .unset, .unset, .unset, .unset] [(.int (oi (i4 + 1))), (.ref b32), (.int (oi i4)), (.ref b14)])) rfl rfl (dq hby D32 185 rfl) _ ?_
                          refine XS.goto XL43.here hx rfl (pc0 := 312) (pc' := 316) rfl (dq hby D32 186 rfl) (by decide) (by decide) ?_
                          refine st75 _ ?_
                          refine XS.iinc X75.here hx rfl (dq hby D32 189 rfl) rfl (l' := #[.val (.ref a1), .val (.ref a2), .val (.ref b2), .val (.int (oi lo)), .val (.ref b8), .val (.ref b11), .val (.ref b14), .val (.ref b21), .val (.ref b24), .val (.ref b27), .val (.ref b32), .val (.int (oi rn)), .val (.ref b14), .val (.ref b11), .val (.int (1 : Int32)), .val (.int ((oi i4) + (1 : Int32))), .unset, .unset, .unset, .unset]) rfl ?_
                          show Steps p.tables e below (T75.setTop (mkF m 320 #[.val (.ref a1), .val (.ref a2), .val (.ref b2), .val (.int (oi lo)), .val (.ref b8), .val (.ref b11), .val (.ref b14), .val (.ref b21), .val (.ref b24), .val (.ref b27), .val (.ref b32), .val (.int (oi rn)), .val (.ref b14), .val (.ref b11), .val (.int (1 : Int32)), .val (.int ((oi i4) + (1 : Int32))), .unset, .unset, .unset, .unset] [])) _
                          rw [oi_s (i4)]
                          refine XS.goto X75.here hx rfl (pc0 := 320) (pc' := 281) rfl (dq hby D32 190 rfl) (by decide) (by decide) ?_
                          exact k
                        exact ih43 _ _ _ (i4 + 1) _ X75 e75 N75 Z75 K75 lf43_0_v75 lf43_1_v75 lf43_2_v75 lf43_3_v75 lf43_4_v75 (V75_v75.congr (fun j hj => set_up (oi_n (by omega)) j)) lf43_6_v75 lf43_7_v75 lf43_8_v75 lf43_9_v75 (by omega) pre76
                      · obtain ⟨cl77, Ar77, S77, H77⟩ := id lf43_5_v43
                        replace S77 : Sq cl77.slots.size _ := S77
                        have hin77 : Hq (oi i4) cl77.slots.size := oi_at S77 (by omega) (by omega)
                        obtain ⟨T77, h77, X77, e77, W77, st77⟩ := stI XL43 hx hZ eL43 Ar77 (j := (oi i4)) hin77 (g := (mkF m 316 #[.val (.ref a1), .val (.ref a2), .val (.ref b2), .val (.int (oi lo)), .val (.ref b8), .val (.ref b11), .val (.ref b14), .val (.ref b21), .val (.ref b24), .val (.ref b27), .val (.ref b32), .val (.int (oi rn)), .val (.ref b14), .val (.ref b11), .val (.int (1 : Int32)), .val (.int (oi i4)), .unset, .unset, .unset, .unset] [(.int (0 : Int32)), (.int (oi i4)), (.ref b14)])) rfl rfl (dq hby D32 188 rfl)
                        have lf43_0_v77 := lf43_0_v43.other W77 ne_a1_b14
                        have lf43_1_v77 := lf43_1_v43.other W77 ne_a2_b14
                        have lf43_2_v77 := lf43_2_v43.other W77 ne_b2_b14
                        have lf43_3_v77 := lf43_3_v43.other W77 ne_b8_b14
                        have lf43_4_v77 := lf43_4_v43.other W77 ne_b11_b14
                        have lf43_6_v77 := lf43_6_v43.other W77 (Ne.symm ne_b14_b24)
                        have lf43_7_v77 := lf43_7_v43.other W77 (Ne.symm ne_b14_b21)
                        have lf43_8_v77 := lf43_8_v43.other W77 (Ne.symm ne_b14_b27)
                        have lf43_9_v77 := lf43_9_v43.other W77 (Ne.symm ne_b14_b32)
                        have Z77 : Lq n0 h77.size := Nat.le_trans ZL43 (Nat.le_of_eq W77.size.symm)
                        have K77 := KL43.wr W77 (Or.inr sz_b14)
                        have V77_v77 := ArF.set Ar77 S77 H77 W77 hin77
                        have N77 := Fr.snoc X77 NL43 g_b14
                        have pre78 : ∀ t, Steps p.tables e below (T77.setTop (mkF m 281 #[.val (.ref a1), .val (.ref a2), .val (.ref b2), .val (.int (oi lo)), .val (.ref b8), .val (.ref b11), .val (.ref b14), .val (.ref b21), .val (.ref b24), .val (.ref b27), .val (.ref b32), .val (.int (oi rn)), .val (.ref b14), .val (.ref b11), .val (.int (1 : Int32)), .val (.int (oi (i4 + 1))), .unset, .unset, .unset, .unset] [])) t → Steps p.tables e below (s₁.setTop (entryFrame m #[(.ref a1), (.ref a2)] 20)) t := by
                          intro t k
                          refine pre72 t ?_
                          refine XS.icmpYes XL43.here hx rfl (pc0 := 301) (pc' := 315) rfl (dq hby D32 180 rfl) rfl (flt hc301_73).2.1 (by decide) (by decide) ?_
                          refine XS.iconst XL43.here hx rfl (dq hby D32 187 rfl) ?_
                          refine st77 _ ?_
                          refine XS.iinc X77.here hx rfl (dq hby D32 189 rfl) rfl (l' := #[.val (.ref a1), .val (.ref a2), .val (.ref b2), .val (.int (oi lo)), .val (.ref b8), .val (.ref b11), .val (.ref b14), .val (.ref b21), .val (.ref b24), .val (.ref b27), .val (.ref b32), .val (.int (oi rn)), .val (.ref b14), .val (.ref b11), .val (.int (1 : Int32)), .val (.int ((oi i4) + (1 : Int32))), .unset, .unset, .unset, .unset]) rfl ?_
                          show Steps p.tables e below (T77.setTop (mkF m 320 #[.val (.ref a1), .val (.ref a2), .val (.ref b2), .val (.int (oi lo)), .val (.ref b8), .val (.ref b11), .val (.ref b14), .val (.ref b21), .val (.ref b24), .val (.ref b27), .val (.ref b32), .val (.int (oi rn)), .val (.ref b14), .val (.ref b11), .val (.int (1 : Int32)), .val (.int ((oi i4) + (1 : Int32))), .unset, .unset, .unset, .unset] [])) _
                          rw [oi_s (i4)]
                          refine XS.goto X77.here hx rfl (pc0 := 320) (pc' := 281) rfl (dq hby D32 190 rfl) (by decide) (by decide) ?_
                          exact k
                        exact ih43 _ _ _ (i4 + 1) _ X77 e77 N77 Z77 K77 lf43_0_v77 lf43_1_v77 lf43_2_v77 lf43_3_v77 lf43_4_v77 (V77_v77.congr (fun j hj => set_up (oi_n (by omega)) j)) lf43_6_v77 lf43_7_v77 lf43_8_v77 lf43_9_v77 (by omega) pre78
                  exact loop43 N _ _ _ 0 (fun j => oi (tab (hiN f) i j)) X39 e39 N39 ZL35 KL35 lf35_0_v35 lf35_1_v35 lf35_2_v35 lf35_3_v35 lf35_4_v35 lf35_5_v35 lf35_6_v35 lf35_7_v35 lf35_8_v35 lf35_9_v35 (by omega) pre42
                · refine hG ?_
                  obtain ⟨fs, hr, hrun, hended, hW, hsame⟩ := X39.leave (v := some (.ref b27)) (fun h => by rw [Bd.returns] at h; cases h)
                  refine ⟨_, _, pre40 _ ?_, hrun, hended, _, _, rfl, ?_, ⟨_, rfl⟩, hW, hsame.mono (by decide) (by decide)⟩
                  · show Steps p.tables e below (T39.setTop (mkF m 275 #[.val (.ref a1), .val (.ref a2), .val (.ref b2), .val (.int (oi lo)), .val (.ref b8), .val (.ref b11), .val (.ref b14), .val (.ref b21), .val (.ref b24), .val (.ref b27), .val (.ref b32), .val (.int (oi rn)), .val (.ref b14), .val (.ref b11), .val (.int (1 : Int32)), .unset, .unset, .unset, .unset, .unset] [(.int yw)])) _
                    refine XS.ifYes X39.here hx rfl (pc0 := 275) (pc' := 472) rfl (dq hby D32 165 rfl) rfl ((if0 _ _).trans (feq hc275_41).2) (by decide) (by decide) ?_
                    refine XS.aload X39.here hx rfl (dq hby D32 266 rfl) rfl rfl ?_
                    jvm_step X39.here [X39.here.top, hx, (dq hby D32 267 rfl), X39.method', Bd.returns, Value.isRef, FieldType.isReference]
                    first | (intro acts; rw [hr _ acts rfl rfl rfl]) | rw [hr _ _ rfl rfl rfl]
                    exact Steps.refl _
                  · show Q_rsort Z a1 a2 N K S f h0 n0 _ T39.heap _
                    rw [e39]
                    exact ⟨b27, F2, rfl, N39, KL35, sz_b27, lf35_8_v35, hF2⟩
              · refine hG ?_
                obtain ⟨fs, hr, hrun, hended, hW, hsame⟩ := XL35.leave (v := some (.ref b27)) (fun h => by rw [Bd.returns] at h; cases h)
                refine ⟨_, _, pre37 _ ?_, hrun, hended, _, _, rfl, ?_, ⟨_, rfl⟩, hW, hsame.mono (by decide) (by decide)⟩
                · show Steps p.tables e below (TL35.setTop (mkF m 262 #[.val (.ref a1), .val (.ref a2), .val (.ref b2), .val (.int (oi lo)), .val (.ref b8), .val (.ref b11), .val (.ref b14), .val (.ref b21), .val (.ref b24), .val (.ref b27), .val (.ref b32), .val (.int (oi rn)), .val (.ref b14), .val (.ref b11), .val (.int (1 : Int32)), .unset, .unset, .unset, .unset, .unset] [(.int (oi lo)), (.int (1 : Int32))])) _
                  refine XS.icmpYes XL35.here hx rfl (pc0 := 262) (pc' := 472) rfl (dq hby D32 159 rfl) rfl (flt hc262_38).2.1 (by decide) (by decide) ?_
                  refine XS.aload XL35.here hx rfl (dq hby D32 266 rfl) rfl rfl ?_
                  jvm_step XL35.here [XL35.here.top, hx, (dq hby D32 267 rfl), XL35.method', Bd.returns, Value.isRef, FieldType.isReference]
                  first | (intro acts; rw [hr _ acts rfl rfl rfl]) | rw [hr _ _ rfl rfl rfl]
                  exact Steps.refl _
                · show Q_rsort Z a1 a2 N K S f h0 n0 _ TL35.heap _
                  rw [eL35]
                  exact ⟨b27, F2, rfl, NL35, KL35, sz_b27, lf35_8_v35, hF2⟩
            | succ k35 ih35 =>
              intro TL35 Lc35 hL35 rn i3 rkc XL35 eL35 NL35 ZL35 KL35 lf35_0_v35 lf35_1_v35 lf35_2_v35 lf35_3_v35 lf35_4_v35 lf35_5_v35 lf35_6_v35 lf35_7_v35 lf35_8_v35 lf35_9_v35 hk3 hrn hrk prL35
              have hFi := hF2 i3 (by omega)
              obtain ⟨cl79, Ar79, S79, H79⟩ := id lf35_8_v35
              replace S79 : Sq cl79.slots.size _ := S79
              have pre80 : ∀ t, Steps p.tables e below (TL35.setTop (mkF m 207 #[.val (.ref a1), .val (.ref a2), .val (.ref b2), .val (.int (oi lo)), .val (.ref b8), .val (.ref b11), .val (.ref b14), .val (.ref b21), .val (.ref b24), .val (.ref b27), .val (.ref b32), .val (.int (oi rn)), .val (.int (oi i3)), .unset, .unset, .unset, .unset, .unset, .unset, .unset] [(.int (oi i3))])) t → Steps p.tables e below (s₁.setTop (entryFrame m #[(.ref a1), (.ref a2)] 20)) t := by
                intro t k
                refine prL35 t ?_
                refine XS.iload XL35.here hx rfl (dq hby D32 123 rfl) rfl ?_
                refine XS.aload XL35.here hx rfl (dq hby D32 124 rfl) rfl rfl ?_
                refine XL35.arraylength hx (by rw [eL35]; exact Ar79.1) (State.isArrayOf_alike hZ.alike Ar79.2.1) (g := (mkF m 201 #[.val (.ref a1), .val (.ref a2), .val (.ref b2), .val (.int (oi lo)), .val (.ref b8), .val (.ref b11), .val (.ref b14), .val (.ref b21), .val (.ref b24), .val (.ref b27), .val (.ref b32), .val (.int (oi rn)), .val (.int (oi i3)), .unset, .unset, .unset, .unset, .unset, .unset, .unset] [(.ref b27), (.int (oi i3))])) rfl rfl (dq hby D32 125 rfl) _ ?_
                rw [show cl79.slots.size.toInt32 = (oi N) from (congrArg Nat.toInt32 S79).trans rfl]
                refine XS.icmpNo XL35.here hx rfl (dq hby D32 126 rfl) rfl (tlt ((by rw [oi_lt (by omega) (by omega)]; omega) : ((oi i3) < (oi N)))).2.1 ?_
                refine XS.iload XL35.here hx rfl (dq hby D32 127 rfl) rfl ?_
                exact k
              by_cases hc207_81 : (oi i3) = (0 : Int32)
              · obtain ⟨cl82, Ar82, S82, H82⟩ := id lf35_8_v35
                replace S82 : Sq cl82.slots.size _ := S82
                have hin82 : Hq (oi i3) cl82.slots.size := oi_at S82 (by omega) (by omega)
                have hat82 : cl82.slots[((oi i3)).toNatClampNeg]? = some (.int (oi (F2 i3))) := ArF.at S82 H82 hin82 (congrArg (fun zz => Value.int (oi (F2 zz))) (oi_n (by omega)))
                obtain ⟨cl83, Ar83, S83, H83⟩ := id lf35_9_v35
                replace S83 : Sq cl83.slots.size _ := S83
                have hin83 : Hq (oi (F2 i3)) cl83.slots.size := oi_at S83 (by omega) (by omega)
                obtain ⟨T83, h83, X83, e83, W83, st83⟩ := stI XL35 hx hZ eL35 Ar83 (j := (oi (F2 i3))) hin83 (g := (mkF m 241 #[.val (.ref a1), .val (.ref a2), .val (.ref b2), .val (.int (oi lo)), .val (.ref b8), .val (.ref b11), .val (.ref b14), .val (.ref b21), .val (.ref b24), .val (.ref b27), .val (.ref b32), .val (.int (oi (rn + 1))), .val (.int (oi i3)), .unset, .unset, .unset, .unset, .unset, .unset, .unset] [(.int (oi (rn + 1))), (.int (oi (F2 i3))), (.ref b32)])) rfl rfl (dq hby D32 148 rfl)
                have lf35_0_v83 := lf35_0_v35.other W83 ne_a1_b32
                have lf35_1_v83 := lf35_1_v35.other W83 ne_a2_b32
                have lf35_2_v83 := lf35_2_v35.other W83 ne_b2_b32
                have lf35_3_v83 := lf35_3_v35.other W83 ne_b8_b32
                have lf35_4_v83 := lf35_4_v35.other W83 ne_b11_b32
                have lf35_5_v83 := lf35_5_v35.other W83 ne_b14_b32
                have lf35_6_v83 := lf35_6_v35.other W83 ne_b24_b32
                have lf35_7_v83 := lf35_7_v35.other W83 ne_b21_b32
                have lf35_8_v83 := lf35_8_v35.other W83 ne_b27_b32
                have Z83 : Lq n0 h83.size := Nat.le_trans ZL35 (Nat.le_of_eq W83.size.symm)
                have K83 := KL35.wr W83 (Or.inr sz_b32)
                have V83_v83 := ArF.set Ar83 S83 H83 W83 hin83
                have N83 := Fr.snoc X83 NL35 g_b32
                have pre84 : ∀ t, Steps p.tables e below (T83.setTop (mkF m 197 #[.val (.ref a1), .val (.ref a2), .val (.ref b2), .val (.int (oi lo)), .val (.ref b8), .val (.ref b11), .val (.ref b14), .val (.ref b21), .val (.ref b24), .val (.ref b27), .val (.ref b32), .val (.int (oi (rn + 1))), .val (.int (oi (i3 + 1))), .unset, .unset, .unset, .unset, .unset, .unset, .unset] [])) t → Steps p.tables e below (s₁.setTop (entryFrame m #[(.ref a1), (.ref a2)] 20)) t := by
                  intro t k
                  refine pre80 t ?_
                  refine XS.ifYes XL35.here hx rfl (pc0 := 207) (pc' := 229) rfl (dq hby D32 128 rfl) rfl ((if0 _ _).trans (teq hc207_81).1) (by decide) (by decide) ?_
                  refine XS.iinc XL35.here hx rfl (dq hby D32 142 rfl) rfl (l' := #[.val (.ref a1), .val (.ref a2), .val (.ref b2), .val (.int (oi lo)), .val (.ref b8), .val (.ref b11), .val (.ref b14), .val (.ref b21), .val (.ref b24), .val (.ref b27), .val (.ref b32), .val (.int ((oi rn) + (1 : Int32))), .val (.int (oi i3)), .unset, .unset, .unset, .unset, .unset, .unset, .unset]) rfl ?_
                  show Steps p.tables e below (TL35.setTop (mkF m 232 #[.val (.ref a1), .val (.ref a2), .val (.ref b2), .val (.int (oi lo)), .val (.ref b8), .val (.ref b11), .val (.ref b14), .val (.ref b21), .val (.ref b24), .val (.ref b27), .val (.ref b32), .val (.int ((oi rn) + (1 : Int32))), .val (.int (oi i3)), .unset, .unset, .unset, .unset, .unset, .unset, .unset] [])) _
                  rw [oi_s (rn)]
                  refine XS.aload XL35.here hx rfl (dq hby D32 143 rfl) rfl rfl ?_
                  refine XS.aload XL35.here hx rfl (dq hby D32 144 rfl) rfl rfl ?_
                  refine XS.iload XL35.here hx rfl (dq hby D32 145 rfl) rfl ?_
                  refine XL35.iaload hx (j := (oi i3)) (v := (.int (oi (F2 i3)))) (by rw [eL35]; exact Ar82.1) (State.isArrayOf_alike hZ.alike Ar82.2.1) Ar82.2.2 hin82 hat82 (g := (mkF m 238 #[.val (.ref a1), .val (.ref a2), .val (.ref b2), .val (.int (oi lo)), .val (.ref b8), .val (.ref b11), .val (.ref b14), .val (.ref b21), .val (.ref b24), .val (.ref b27), .val (.ref b32), .val (.int (oi (rn + 1))), .val (.int (oi i3)), .unset, .unset, .unset, .unset, .unset, .unset, .unset] [(.int (oi i3)), (.ref b27), (.ref b32)])) rfl rfl (dq hby D32 146 rfl) _ ?_
                  refine XS.iload XL35.here hx rfl (dq hby D32 147 rfl) rfl ?_
                  refine st83 _ ?_
                  refine XS.iinc X83.here hx rfl (dq hby D32 149 rfl) rfl (l' := #[.val (.ref a1), .val (.ref a2), .val (.ref b2), .val (.int (oi lo)), .val (.ref b8), .val (.ref b11), .val (.ref b14), .val (.ref b21), .val (.ref b24), .val (.ref b27), .val (.ref b32), .val (.int (oi (rn + 1))), .val (.int ((oi i3) + (1 : Int32))), .unset, .unset, .unset, .unset, .unset, .unset, .unset]) rfl ?_
                  show Steps p.tables e below (T83.setTop (mkF m 245 #[.val (.ref a1), .val (.ref a2), .val (.ref b2), .val (.int (oi lo)), .val (.ref b8), .val (.ref b11), .val (.ref b14), .val (.ref b21), .val (.ref b24), .val (.ref b27), .val (.ref b32), .val (.int (oi (rn + 1))), .val (.int ((oi i3) + (1 : Int32))), .unset, .unset, .unset, .unset, .unset, .unset, .unset] [])) _
                  rw [oi_s (i3)]
                  refine XS.goto X83.here hx rfl (pc0 := 245) (pc' := 197) rfl (dq hby D32 150 rfl) (by decide) (by decide) ?_
                  exact k
                exact ih35 _ _ _ ((rn + 1)) (i3 + 1) _ X83 e83 N83 Z83 K83 lf35_0_v83 lf35_1_v83 lf35_2_v83 lf35_3_v83 lf35_4_v83 lf35_5_v83 lf35_6_v83 lf35_7_v83 lf35_8_v83 (V83_v83.congr (fun j hj => set_upN (oi_n (by omega)) j)) (by omega) (by omega) (upN_le hrk (by omega) (Nat.le_refl _)) pre84
              · have hi1 : 1 ≤ i3 := Nat.pos_of_ne_zero fun q => hc207_81 (congrArg oi q)
                have hFp := hF2 (i3 - 1) (by omega)
                obtain ⟨cl85, Ar85, S85, H85⟩ := id lf35_8_v35
                replace S85 : Sq cl85.slots.size _ := S85
                have hin85 : Hq (oi i3) cl85.slots.size := oi_at S85 (by omega) (by omega)
                have hat85 : cl85.slots[((oi i3)).toNatClampNeg]? = some (.int (oi (F2 i3))) := ArF.at S85 H85 hin85 (congrArg (fun zz => Value.int (oi (F2 zz))) (oi_n (by omega)))
                obtain ⟨cl86, Ar86, S86, H86⟩ := id lf35_0_v35
                replace S86 : Sq cl86.slots.size _ := S86
                have hin86 : Hq (oi (F2 i3)) cl86.slots.size := oi_at S86 hFi (by omega)
                have hat86 : cl86.slots[((oi (F2 i3))).toNatClampNeg]? = some (.int (f ((F2 i3)))) := ArF.at S86 H86 hin86 (congrArg (fun zz => Value.int (f zz)) (oi_n (by omega)))
                obtain ⟨cl87, Ar87, S87, H87⟩ := id lf35_8_v35
                replace S87 : Sq cl87.slots.size _ := S87
                have hin87 : Hq (oi (i3 - 1)) cl87.slots.size := oi_at S87 (by omega) (by omega)
                have hat87 : cl87.slots[((oi (i3 - 1))).toNatClampNeg]? = some (.int (oi (F2 ((i3 - 1))))) := ArF.at S87 H87 hin87 (congrArg (fun zz => Value.int (oi (F2 zz))) (oi_n (by omega)))
                obtain ⟨cl88, Ar88, S88, H88⟩ := id lf35_0_v35
                replace S88 : Sq cl88.slots.size _ := S88
                have hin88 : Hq (oi (F2 ((i3 - 1)))) cl88.slots.size := oi_at S88 hFp (by omega)
                have hat88 : cl88.slots[((oi (F2 ((i3 - 1))))).toNatClampNeg]? = some (.int (f ((F2 ((i3 - 1)))))) := ArF.at S88 H88 hin88 (congrArg (fun zz => Value.int (f zz)) (oi_n (by omega)))
                have pre89 : ∀ t, Steps p.tables e below (TL35.setTop (mkF m 226 #[.val (.ref a1), .val (.ref a2), .val (.ref b2), .val (.int (oi lo)), .val (.ref b8), .val (.ref b11), .val (.ref b14), .val (.ref b21), .val (.ref b24), .val (.ref b27), .val (.ref b32), .val (.int (oi rn)), .val (.int (oi i3)), .unset, .unset, .unset, .unset, .unset, .unset, .unset] [(.int (f ((F2 ((i3 - 1)))))), (.int (f ((F2 i3))))])) t → Steps p.tables e below (s₁.setTop (entryFrame m #[(.ref a1), (.ref a2)] 20)) t := by
                  intro t k
                  refine pre80 t ?_
                  refine XS.ifNo XL35.here hx rfl (dq hby D32 128 rfl) rfl ((if0 _ _).trans (feq hc207_81).1) ?_
                  refine XS.aloadN XL35.here hx rfl (dq hby D32 129 rfl) rfl rfl ?_
                  refine XS.aload XL35.here hx rfl (dq hby D32 130 rfl) rfl rfl ?_
                  refine XS.iload XL35.here hx rfl (dq hby D32 131 rfl) rfl ?_
                  refine XL35.iaload hx (j := (oi i3)) (v := (.int (oi (F2 i3)))) (by rw [eL35]; exact Ar85.1) (State.isArrayOf_alike hZ.alike Ar85.2.1) Ar85.2.2 hin85 hat85 (g := (mkF m 215 #[.val (.ref a1), .val (.ref a2), .val (.ref b2), .val (.int (oi lo)), .val (.ref b8), .val (.ref b11), .val (.ref b14), .val (.ref b21), .val (.ref b24), .val (.ref b27), .val (.ref b32), .val (.int (oi rn)), .val (.int (oi i3)), .unset, .unset, .unset, .unset, .unset, .unset, .unset] [(.int (oi i3)), (.ref b27), (.ref a1)])) rfl rfl (dq hby D32 132 rfl) _ ?_
                  refine XL35.caload hx (j := (oi (F2 i3))) (v := (.int (f ((F2 i3))))) (by rw [eL35]; exact Ar86.1) (State.isArrayOf_alike hZ.alike Ar86.2.1) Ar86.2.2 hin86 hat86 (g := (mkF m 216 #[.val (.ref a1), .val (.ref a2), .val (.ref b2), .val (.int (oi lo)), .val (.ref b8), .val (.ref b11), .val (.ref b14), .val (.ref b21), .val (.ref b24), .val (.ref b27), .val (.ref b32), .val (.int (oi rn)), .val (.int (oi i3)), .unset, .unset, .unset, .unset, .unset, .unset, .unset] [(.int (oi (F2 i3))), (.ref a1)])) rfl rfl (dq hby D32 133 rfl) _ ?_
                  refine XS.aloadN XL35.here hx rfl (dq hby D32 134 rfl) rfl rfl ?_
                  refine XS.aload XL35.here hx rfl (dq hby D32 135 rfl) rfl rfl ?_
                  refine XS.iload XL35.here hx rfl (dq hby D32 136 rfl) rfl ?_
                  refine XS.iconst XL35.here hx rfl (dq hby D32 137 rfl) ?_
                  refine XS.isub XL35.here hx rfl (dq hby D32 138 rfl) rfl ?_
                  show Steps p.tables e below (TL35.setTop (mkF m 224 #[.val (.ref a1), .val (.ref a2), .val (.ref b2), .val (.int (oi lo)), .val (.ref b8), .val (.ref b11), .val (.ref b14), .val (.ref b21), .val (.ref b24), .val (.ref b27), .val (.ref b32), .val (.int (oi rn)), .val (.int (oi i3)), .unset, .unset, .unset, .unset, .unset, .unset, .unset] [(.int ((oi i3) - (1 : Int32))), (.ref b27), (.ref a1), (.int (f ((F2 i3))))])) _
                  rw [oi_p (a := i3) (by omega)]
                  refine XL35.iaload hx (j := (oi (i3 - 1))) (v := (.int (oi (F2 ((i3 - 1)))))) (by rw [eL35]; exact Ar87.1) (State.isArrayOf_alike hZ.alike Ar87.2.1) Ar87.2.2 hin87 hat87 (g := (mkF m 224 #[.val (.ref a1), .val (.ref a2), .val (.ref b2), .val (.int (oi lo)), .val (.ref b8), .val (.ref b11), .val (.ref b14), .val (.ref b21), .val (.ref b24), .val (.ref b27), .val (.ref b32), .val (.int (oi rn)), .val (.int (oi i3)), .unset, .unset, .unset, .unset, .unset, .unset, .unset] [(.int (oi (i3 - 1))), (.ref b27), (.ref a1), (.int (f ((F2 i3))))])) rfl rfl (dq hby D32 139 rfl) _ ?_
                  refine XL35.caload hx (j := (oi (F2 ((i3 - 1))))) (v := (.int (f ((F2 ((i3 - 1))))))) (by rw [eL35]; exact Ar88.1) (State.isArrayOf_alike hZ.alike Ar88.2.1) Ar88.2.2 hin88 hat88 (g := (mkF m 225 #[.val (.ref a1), .val (.ref a2), .val (.ref b2), .val (.int (oi lo)), .val (.ref b8), .val (.ref b11), .val (.ref b14), .val (.ref b21), .val (.ref b24), .val (.ref b27), .val (.ref b32), .val (.int (oi rn)), .val (.int (oi i3)), .unset, .unset, .unset, .unset, .unset, .unset, .unset] [(.int (oi (F2 ((i3 - 1))))), (.ref a1), (.int (f ((F2 i3))))])) rfl rfl (dq hby D32 140 rfl) _ ?_
                  exact k
                by_cases hc226_90 : (f ((F2 i3))) = (f ((F2 ((i3 - 1)))))
                · obtain ⟨cl91, Ar91, S91, H91⟩ := id lf35_8_v35
                  replace S91 : Sq cl91.slots.size _ := S91
                  have hin91 : Hq (oi i3) cl91.slots.size := oi_at S91 (by omega) (by omega)
                  have hat91 : cl91.slots[((oi i3)).toNatClampNeg]? = some (.int (oi (F2 i3))) := ArF.at S91 H91 hin91 (congrArg (fun zz => Value.int (oi (F2 zz))) (oi_n (by omega)))
                  obtain ⟨cl92, Ar92, S92, H92⟩ := id lf35_9_v35
                  replace S92 : Sq cl92.slots.size _ := S92
                  have hin92 : Hq (oi (F2 i3)) cl92.slots.size := oi_at S92 (by omega) (by omega)
                  obtain ⟨T92, h92, X92, e92, W92, st92⟩ := stI XL35 hx hZ eL35 Ar92 (j := (oi (F2 i3))) hin92 (g := (mkF m 241 #[.val (.ref a1), .val (.ref a2), .val (.ref b2), .val (.int (oi lo)), .val (.ref b8), .val (.ref b11), .val (.ref b14), .val (.ref b21), .val (.ref b24), .val (.ref b27), .val (.ref b32), .val (.int (oi rn)), .val (.int (oi i3)), .unset, .unset, .unset, .unset, .unset, .unset, .unset] [(.int (oi rn)), (.int (oi (F2 i3))), (.ref b32)])) rfl rfl (dq hby D32 148 rfl)
                  have lf35_0_v92 := lf35_0_v35.other W92 ne_a1_b32
                  have lf35_1_v92 := lf35_1_v35.other W92 ne_a2_b32
                  have lf35_2_v92 := lf35_2_v35.other W92 ne_b2_b32
                  have lf35_3_v92 := lf35_3_v35.other W92 ne_b8_b32
                  have lf35_4_v92 := lf35_4_v35.other W92 ne_b11_b32
                  have lf35_5_v92 := lf35_5_v35.other W92 ne_b14_b32
                  have lf35_6_v92 := lf35_6_v35.other W92 ne_b24_b32
                  have lf35_7_v92 := lf35_7_v35.other W92 ne_b21_b32
                  have lf35_8_v92 := lf35_8_v35.other W92 ne_b27_b32
                  have Z92 : Lq n0 h92.size := Nat.le_trans ZL35 (Nat.le_of_eq W92.size.symm)
                  have K92 := KL35.wr W92 (Or.inr sz_b32)
                  have V92_v92 := ArF.set Ar92 S92 H92 W92 hin92
                  have N92 := Fr.snoc X92 NL35 g_b32
                  have pre93 : ∀ t, Steps p.tables e below (T92.setTop (mkF m 197 #[.val (.ref a1), .val (.ref a2), .val (.ref b2), .val (.int (oi lo)), .val (.ref b8), .val (.ref b11), .val (.ref b14), .val (.ref b21), .val (.ref b24), .val (.ref b27), .val (.ref b32), .val (.int (oi rn)), .val (.int (oi (i3 + 1))), .unset, .unset, .unset, .unset, .unset, .unset, .unset] [])) t → Steps p.tables e below (s₁.setTop (entryFrame m #[(.ref a1), (.ref a2)] 20)) t := by
                    intro t k
                    refine pre89 t ?_
                    refine XS.icmpYes XL35.here hx rfl (pc0 := 226) (pc' := 232) rfl (dq hby D32 141 rfl) rfl (teq hc226_90).1 (by decide) (by decide) ?_
                    refine XS.aload XL35.here hx rfl (dq hby D32 143 rfl) rfl rfl ?_
                    refine XS.aload XL35.here hx rfl (dq hby D32 144 rfl) rfl rfl ?_
                    refine XS.iload XL35.here hx rfl (dq hby D32 145 rfl) rfl ?_
                    refine XL35.iaload hx (j := (oi i3)) (v := (.int (oi (F2 i3)))) (by rw [eL35]; exact Ar91.1) (State.isArrayOf_alike hZ.alike Ar91.2.1) Ar91.2.2 hin91 hat91 (g := (mkF m 238 #[.val (.ref a1), .val (.ref a2), .val (.ref b2), .val (.int (oi lo)), .val (.ref b8), .val (.ref b11), .val (.ref b14), .val (.ref b21), .val (.ref b24), .val (.ref b27), .val (.ref b32), .val (.int (oi rn)), .val (.int (oi i3)), .unset, .unset, .unset, .unset, .unset, .unset, .unset] [(.int (oi i3)), (.ref b27), (.ref b32)])) rfl rfl (dq hby D32 146 rfl) _ ?_
                    refine XS.iload XL35.here hx rfl (dq hby D32 147 rfl) rfl ?_
                    refine st92 _ ?_
                    refine XS.iinc X92.here hx rfl (dq hby D32 149 rfl) rfl (l' := #[.val (.ref a1), .val (.ref a2), .val (.ref b2), .val (.int (oi lo)), .val (.ref b8), .val (.ref b11), .val (.ref b14), .val (.ref b21), .val (.ref b24), .val (.ref b27), .val (.ref b32), .val (.int (oi rn)), .val (.int ((oi i3) + (1 : Int32))), .unset, .unset, .unset, .unset, .unset, .unset, .unset]) rfl ?_
                    show Steps p.tables e below (T92.setTop (mkF m 245 #[.val (.ref a1), .val (.ref a2), .val (.ref b2), .val (.int (oi lo)), .val (.ref b8), .val (.ref b11), .val (.ref b14), .val (.ref b21), .val (.ref b24), .val (.ref b27), .val (.ref b32), .val (.int (oi rn)), .val (.int ((oi i3) + (1 : Int32))), .unset, .unset, .unset, .unset, .unset, .unset, .unset] [])) _
                    rw [oi_s (i3)]
                    refine XS.goto X92.here hx rfl (pc0 := 245) (pc' := 197) rfl (dq hby D32 150 rfl) (by decide) (by decide) ?_
                    exact k
                  exact ih35 _ _ _ (rn) (i3 + 1) _ X92 e92 N92 Z92 K92 lf35_0_v92 lf35_1_v92 lf35_2_v92 lf35_3_v92 lf35_4_v92 lf35_5_v92 lf35_6_v92 lf35_7_v92 lf35_8_v92 (V92_v92.congr (fun j hj => set_upN (oi_n (by omega)) j)) (by omega) (by omega) (upN_le hrk (by omega) (Nat.le_refl _)) pre93
                · obtain ⟨cl94, Ar94, S94, H94⟩ := id lf35_8_v35
                  replace S94 : Sq cl94.slots.size _ := S94
                  have hin94 : Hq (oi i3) cl94.slots.size := oi_at S94 (by omega) (by omega)
                  have hat94 : cl94.slots[((oi i3)).toNatClampNeg]? = some (.int (oi (F2 i3))) := ArF.at S94 H94 hin94 (congrArg (fun zz => Value.int (oi (F2 zz))) (oi_n (by omega)))
                  obtain ⟨cl95, Ar95, S95, H95⟩ := id lf35_9_v35
                  replace S95 : Sq cl95.slots.size _ := S95
                  have hin95 : Hq (oi (F2 i3)) cl95.slots.size := oi_at S95 (by omega) (by omega)
                  obtain ⟨T95, h95, X95, e95, W95, st95⟩ := stI XL35 hx hZ eL35 Ar95 (j := (oi (F2 i3))) hin95 (g := (mkF m 241 #[.val (.ref a1), .val (.ref a2), .val (.ref b2), .val (.int (oi lo)), .val (.ref b8), .val (.ref b11), .val (.ref b14), .val (.ref b21), .val (.ref b24), .val (.ref b27), .val (.ref b32), .val (.int (oi (rn + 1))), .val (.int (oi i3)), .unset, .unset, .unset, .unset, .unset, .unset, .unset] [(.int (oi (rn + 1))), (.int (oi (F2 i3))), (.ref b32)])) rfl rfl (dq hby D32 148 rfl)
                  have lf35_0_v95 := lf35_0_v35.other W95 ne_a1_b32
                  have lf35_1_v95 := lf35_1_v35.other W95 ne_a2_b32
                  have lf35_2_v95 := lf35_2_v35.other W95 ne_b2_b32
                  have lf35_3_v95 := lf35_3_v35.other W95 ne_b8_b32
                  have lf35_4_v95 := lf35_4_v35.other W95 ne_b11_b32
                  have lf35_5_v95 := lf35_5_v35.other W95 ne_b14_b32
                  have lf35_6_v95 := lf35_6_v35.other W95 ne_b24_b32
                  have lf35_7_v95 := lf35_7_v35.other W95 ne_b21_b32
                  have lf35_8_v95 := lf35_8_v35.other W95 ne_b27_b32
                  have Z95 : Lq n0 h95.size := Nat.le_trans ZL35 (Nat.le_of_eq W95.size.symm)
                  have K95 := KL35.wr W95 (Or.inr sz_b32)
                  have V95_v95 := ArF.set Ar95 S95 H95 W95 hin95
                  have N95 := Fr.snoc X95 NL35 g_b32
                  have pre96 : ∀ t, Steps p.tables e below (T95.setTop (mkF m 197 #[.val (.ref a1), .val (.ref a2), .val (.ref b2), .val (.int (oi lo)), .val (.ref b8), .val (.ref b11), .val (.ref b14), .val (.ref b21), .val (.ref b24), .val (.ref b27), .val (.ref b32), .val (.int (oi (rn + 1))), .val (.int (oi (i3 + 1))), .unset, .unset, .unset, .unset, .unset, .unset, .unset] [])) t → Steps p.tables e below (s₁.setTop (entryFrame m #[(.ref a1), (.ref a2)] 20)) t := by
                    intro t k
                    refine pre89 t ?_
                    refine XS.icmpNo XL35.here hx rfl (dq hby D32 141 rfl) rfl (feq hc226_90).1 ?_
                    refine XS.iinc XL35.here hx rfl (dq hby D32 142 rfl) rfl (l' := #[.val (.ref a1), .val (.ref a2), .val (.ref b2), .val (.int (oi lo)), .val (.ref b8), .val (.ref b11), .val (.ref b14), .val (.ref b21), .val (.ref b24), .val (.ref b27), .val (.ref b32), .val (.int ((oi rn) + (1 : Int32))), .val (.int (oi i3)), .unset, .unset, .unset, .unset, .unset, .unset, .unset]) rfl ?_
                    show Steps p.tables e below (TL35.setTop (mkF m 232 #[.val (.ref a1), .val (.ref a2), .val (.ref b2), .val (.int (oi lo)), .val (.ref b8), .val (.ref b11), .val (.ref b14), .val (.ref b21), .val (.ref b24), .val (.ref b27), .val (.ref b32), .val (.int ((oi rn) + (1 : Int32))), .val (.int (oi i3)), .unset, .unset, .unset, .unset, .unset, .unset, .unset] [])) _
                    rw [oi_s (rn)]
                    refine XS.aload XL35.here hx rfl (dq hby D32 143 rfl) rfl rfl ?_
                    refine XS.aload XL35.here hx rfl (dq hby D32 144 rfl) rfl rfl ?_
                    refine XS.iload XL35.here hx rfl (dq hby D32 145 rfl) rfl ?_
                    refine XL35.iaload hx (j := (oi i3)) (v := (.int (oi (F2 i3)))) (by rw [eL35]; exact Ar94.1) (State.isArrayOf_alike hZ.alike Ar94.2.1) Ar94.2.2 hin94 hat94 (g := (mkF m 238 #[.val (.ref a1), .val (.ref a2), .val (.ref b2), .val (.int (oi lo)), .val (.ref b8), .val (.ref b11), .val (.ref b14), .val (.ref b21), .val (.ref b24), .val (.ref b27), .val (.ref b32), .val (.int (oi (rn + 1))), .val (.int (oi i3)), .unset, .unset, .unset, .unset, .unset, .unset, .unset] [(.int (oi i3)), (.ref b27), (.ref b32)])) rfl rfl (dq hby D32 146 rfl) _ ?_
                    refine XS.iload XL35.here hx rfl (dq hby D32 147 rfl) rfl ?_
                    refine st95 _ ?_
                    refine XS.iinc X95.here hx rfl (dq hby D32 149 rfl) rfl (l' := #[.val (.ref a1), .val (.ref a2), .val (.ref b2), .val (.int (oi lo)), .val (.ref b8), .val (.ref b11), .val (.ref b14), .val (.ref b21), .val (.ref b24), .val (.ref b27), .val (.ref b32), .val (.int (oi (rn + 1))), .val (.int ((oi i3) + (1 : Int32))), .unset, .unset, .unset, .unset, .unset, .unset, .unset]) rfl ?_
                    show Steps p.tables e below (T95.setTop (mkF m 245 #[.val (.ref a1), .val (.ref a2), .val (.ref b2), .val (.int (oi lo)), .val (.ref b8), .val (.ref b11), .val (.ref b14), .val (.ref b21), .val (.ref b24), .val (.ref b27), .val (.ref b32), .val (.int (oi (rn + 1))), .val (.int ((oi i3) + (1 : Int32))), .unset, .unset, .unset, .unset, .unset, .unset, .unset] [])) _
                    rw [oi_s (i3)]
                    refine XS.goto X95.here hx rfl (pc0 := 245) (pc' := 197) rfl (dq hby D32 150 rfl) (by decide) (by decide) ?_
                    exact k
                  exact ih35 _ _ _ ((rn + 1)) (i3 + 1) _ X95 e95 N95 Z95 K95 lf35_0_v95 lf35_1_v95 lf35_2_v95 lf35_3_v95 lf35_4_v95 lf35_5_v95 lf35_6_v95 lf35_7_v95 lf35_8_v95 (V95_v95.congr (fun j hj => set_upN (oi_n (by omega)) j)) (by omega) (by omega) (upN_le hrk (by omega) (Nat.le_refl _)) pre96
          exact loop35 N _ _ _ 0 0 (fun _ => 0) X32 e32 N30 Z32 K32 lf17_0_v32 lf17_1_v32 lf17_2_v32 lf17_3_v32 lf17_4_v32 lf17_5_v32 nf29_1_v32 nf30_0_v32 nf30_1_v32 VM33_v33 (by omega) (Nat.le_refl 0) (fun j hj => Nat.le_refl 0) pre34
        | succ k17 ih17 =>
          intro TL17 Lc17 hL17 i XL17 eL17 NL17 ZL17 KL17 lf17_0_v17 lf17_1_v17 lf17_2_v17 lf17_3_v17 lf17_4_v17 lf17_5_v17 hk prL17
          have hBi := hB i (by omega)
          obtain ⟨cl97, Ar97, S97, H97⟩ := id lf17_0_v17
          replace S97 : Sq cl97.slots.size _ := S97
          obtain ⟨cl98, Ar98, S98, H98⟩ := id lf17_3_v17
          replace S98 : Sq cl98.slots.size _ := S98
          have hin98 : Hq (oi i) cl98.slots.size := oi_at S98 (by omega) (by omega)
          obtain ⟨T98, h98, X98, e98, W98, st98⟩ := stI XL17 hx hZ eL17 Ar98 (j := (oi i)) hin98 (g := (mkF m 95 #[.val (.ref a1), .val (.ref a2), .val (.ref b2), .val (.int (oi lo)), .val (.ref b8), .val (.ref b11), .val (.ref b14), .val (.int (oi i)), .unset, .unset, .unset, .unset, .unset, .unset, .unset, .unset, .unset, .unset, .unset, .unset] [(.int (oi i)), (.int (oi i)), (.ref b8)])) rfl rfl (dq hby D32 64 rfl)
          have lf17_0_v98 := lf17_0_v17.other W98 ne_a1_b8
          have lf17_1_v98 := lf17_1_v17.other W98 ne_a2_b8
          have lf17_2_v98 := lf17_2_v17.other W98 ne_b2_b8
          have lf17_4_v98 := lf17_4_v17.other W98 (Ne.symm ne_b8_b11)
          have lf17_5_v98 := lf17_5_v17.other W98 (Ne.symm ne_b8_b14)
          have Z98 : Lq n0 h98.size := Nat.le_trans ZL17 (Nat.le_of_eq W98.size.symm)
          have K98 := KL17.wr W98 (Or.inr sz_b8)
          have V98_v98 := ArF.set Ar98 S98 H98 W98 hin98
          have N98 := Fr.snoc X98 NL17 g_b8
          obtain ⟨cl99, Ar99, S99, H99⟩ := id lf17_0_v98
          replace S99 : Sq cl99.slots.size _ := S99
          have hin99 : Hq (oi i) cl99.slots.size := oi_at S99 (by omega) (by omega)
          have hat99 : cl99.slots[((oi i)).toNatClampNeg]? = some (.int (f i)) := ArF.at S99 H99 hin99 (congrArg (fun zz => Value.int (f zz)) (oi_n (by omega)))
          obtain ⟨cl100, Ar100, S100, H100⟩ := id lf17_4_v98
          replace S100 : Sq cl100.slots.size _ := S100
          have hin100 : Hq (oi i) cl100.slots.size := oi_at S100 (by omega) (by omega)
          obtain ⟨T100, h100, X100, e100, W100, st100⟩ := stI X98 hx hZ e98 Ar100 (j := (oi i)) hin100 (g := (mkF m 110 #[.val (.ref a1), .val (.ref a2), .val (.ref b2), .val (.int (oi lo)), .val (.ref b8), .val (.ref b11), .val (.ref b14), .val (.int (oi i)), .unset, .unset, .unset, .unset, .unset, .unset, .unset, .unset, .unset, .unset, .unset, .unset] [(.int (oi (lowN f i))), (.int (oi i)), (.ref b11)])) rfl rfl (dq hby D32 74 rfl)
          have lf17_0_v100 := lf17_0_v98.other W100 ne_a1_b11
          have lf17_1_v100 := lf17_1_v98.other W100 ne_a2_b11
          have lf17_2_v100 := lf17_2_v98.other W100 ne_b2_b11
          have lf17_5_v100 := lf17_5_v98.other W100 (Ne.symm ne_b11_b14)
          have V98_v100 := V98_v98.other W100 ne_b8_b11
          have Z100 : Lq n0 h100.size := Nat.le_trans Z98 (Nat.le_of_eq W100.size.symm)
          have K100 := K98.wr W100 (Or.inr sz_b11)
          have V100_v100 := ArF.set Ar100 S100 H100 W100 hin100
          have N100 := Fr.snoc X100 N98 g_b11
          obtain ⟨cl101, Ar101, S101, H101⟩ := id lf17_0_v100
          replace S101 : Sq cl101.slots.size _ := S101
          have hin101 : Hq (oi i) cl101.slots.size := oi_at S101 (by omega) (by omega)
          have hat101 : cl101.slots[((oi i)).toNatClampNeg]? = some (.int (f i)) := ArF.at S101 H101 hin101 (congrArg (fun zz => Value.int (f zz)) (oi_n (by omega)))
          obtain ⟨cl102, Ar102, S102, H102⟩ := id lf17_5_v100
          replace S102 : Sq cl102.slots.size _ := S102
          have hin102 : Hq (oi i) cl102.slots.size := oi_at S102 (by omega) (by omega)
          obtain ⟨T102, h102, X102, e102, W102, st102⟩ := stI X100 hx hZ e100 Ar102 (j := (oi i)) hin102 (g := (mkF m 124 #[.val (.ref a1), .val (.ref a2), .val (.ref b2), .val (.int (oi lo)), .val (.ref b8), .val (.ref b11), .val (.ref b14), .val (.int (oi i)), .unset, .unset, .unset, .unset, .unset, .unset, .unset, .unset, .unset, .unset, .unset, .unset] [(.int (oi (hiN f i))), (.int (oi i)), (.ref b14)])) rfl rfl (dq hby D32 84 rfl)
          have lf17_0_v102 := lf17_0_v100.other W102 ne_a1_b14
          have lf17_1_v102 := lf17_1_v100.other W102 ne_a2_b14
          have lf17_2_v102 := lf17_2_v100.other W102 ne_b2_b14
          have V98_v102 := V98_v100.other W102 ne_b8_b14
          have V100_v102 := V100_v100.other W102 ne_b11_b14
          have Z102 : Lq n0 h102.size := Nat.le_trans Z100 (Nat.le_of_eq W102.size.symm)
          have K102 := K100.wr W102 (Or.inr sz_b14)
          have V102_v102 := ArF.set Ar102 S102 H102 W102 hin102
          have N102 := Fr.snoc X102 N100 g_b14
          have pre103 : ∀ t, Steps p.tables e below (T102.setTop (mkF m 82 #[.val (.ref a1), .val (.ref a2), .val (.ref b2), .val (.int (oi lo)), .val (.ref b8), .val (.ref b11), .val (.ref b14), .val (.int (oi (i + 1))), .unset, .unset, .unset, .unset, .unset, .unset, .unset, .unset, .unset, .unset, .unset, .unset] [])) t → Steps p.tables e below (s₁.setTop (entryFrame m #[(.ref a1), (.ref a2)] 20)) t := by
            intro t k
            refine prL17 t ?_
            refine XS.iload XL17.here hx rfl (dq hby D32 57 rfl) rfl ?_
            refine XS.aloadN XL17.here hx rfl (dq hby D32 58 rfl) rfl rfl ?_
            refine XL17.arraylength hx (by rw [eL17]; exact Ar97.1) (State.isArrayOf_alike hZ.alike Ar97.2.1) (g := (mkF m 85 #[.val (.ref a1), .val (.ref a2), .val (.ref b2), .val (.int (oi lo)), .val (.ref b8), .val (.ref b11), .val (.ref b14), .val (.int (oi i)), .unset, .unset, .unset, .unset, .unset, .unset, .unset, .unset, .unset, .unset, .unset, .unset] [(.ref a1), (.int (oi i))])) rfl rfl (dq hby D32 59 rfl) _ ?_
            rw [show cl97.slots.size.toInt32 = (oi N) from (congrArg Nat.toInt32 S97).trans rfl]
            refine XS.icmpNo XL17.here hx rfl (dq hby D32 60 rfl) rfl (tlt ((by rw [oi_lt (by omega) (by omega)]; omega) : ((oi i) < (oi N)))).2.1 ?_
            refine XS.aload XL17.here hx rfl (dq hby D32 61 rfl) rfl rfl ?_
            refine XS.iload XL17.here hx rfl (dq hby D32 62 rfl) rfl ?_
            refine XS.iload XL17.here hx rfl (dq hby D32 63 rfl) rfl ?_
            refine st98 _ ?_
            refine XS.aload X98.here hx rfl (dq hby D32 65 rfl) rfl rfl ?_
            refine XS.iload X98.here hx rfl (dq hby D32 66 rfl) rfl ?_
            refine XS.aloadN X98.here hx rfl (dq hby D32 67 rfl) rfl rfl ?_
            refine XS.iload X98.here hx rfl (dq hby D32 68 rfl) rfl ?_
            refine X98.caload hx (j := (oi i)) (v := (.int (f i))) (by rw [e98]; exact Ar99.1) (State.isArrayOf_alike hZ.alike Ar99.2.1) Ar99.2.2 hin99 hat99 (g := (mkF m 103 #[.val (.ref a1), .val (.ref a2), .val (.ref b2), .val (.int (oi lo)), .val (.ref b8), .val (.ref b11), .val (.ref b14), .val (.int (oi i)), .unset, .unset, .unset, .unset, .unset, .unset, .unset, .unset, .unset, .unset, .unset, .unset] [(.int (oi i)), (.ref a1), (.int (oi i)), (.ref b11)])) rfl rfl (dq hby D32 69 rfl) _ ?_
            refine XS.sipush X98.here hx rfl (dq hby D32 70 rfl) ?_
            refine XS.iand X98.here hx rfl (dq hby D32 71 rfl) rfl ?_
            refine XS.iconst X98.here hx rfl (dq hby D32 72 rfl) ?_
            refine XS.iadd X98.here hx rfl (dq hby D32 73 rfl) rfl ?_
            show Steps p.tables e below (T98.setTop (mkF m 110 #[.val (.ref a1), .val (.ref a2), .val (.ref b2), .val (.int (oi lo)), .val (.ref b8), .val (.ref b11), .val (.ref b14), .val (.int (oi i)), .unset, .unset, .unset, .unset, .unset, .unset, .unset, .unset, .unset, .unset, .unset, .unset] [(.int (((f i) &&& (255 : Int32)) + (1 : Int32))), (.int (oi i)), (.ref b11)])) _
            rw [low_e f i]
            refine st100 _ ?_
            refine XS.aload X100.here hx rfl (dq hby D32 75 rfl) rfl rfl ?_
            refine XS.iload X100.here hx rfl (dq hby D32 76 rfl) rfl ?_
            refine XS.aloadN X100.here hx rfl (dq hby D32 77 rfl) rfl rfl ?_
            refine XS.iload X100.here hx rfl (dq hby D32 78 rfl) rfl ?_
            refine X100.caload hx (j := (oi i)) (v := (.int (f i))) (by rw [e100]; exact Ar101.1) (State.isArrayOf_alike hZ.alike Ar101.2.1) Ar101.2.2 hin101 hat101 (g := (mkF m 118 #[.val (.ref a1), .val (.ref a2), .val (.ref b2), .val (.int (oi lo)), .val (.ref b8), .val (.ref b11), .val (.ref b14), .val (.int (oi i)), .unset, .unset, .unset, .unset, .unset, .unset, .unset, .unset, .unset, .unset, .unset, .unset] [(.int (oi i)), (.ref a1), (.int (oi i)), (.ref b14)])) rfl rfl (dq hby D32 79 rfl) _ ?_
            refine XS.bipush X100.here hx rfl (dq hby D32 80 rfl) ?_
            refine XS.iushr X100.here hx rfl (dq hby D32 81 rfl) rfl ?_
            refine XS.iconst X100.here hx rfl (dq hby D32 82 rfl) ?_
            refine XS.iadd X100.here hx rfl (dq hby D32 83 rfl) rfl ?_
            show Steps p.tables e below (T100.setTop (mkF m 124 #[.val (.ref a1), .val (.ref a2), .val (.ref b2), .val (.int (oi lo)), .val (.ref b8), .val (.ref b11), .val (.ref b14), .val (.int (oi i)), .unset, .unset, .unset, .unset, .unset, .unset, .unset, .unset, .unset, .unset, .unset, .unset] [(.int ((((f i).toUInt32 >>> ((8 : Int32) &&& 31).toUInt32).toInt32) + (1 : Int32))), (.int (oi i)), (.ref b14)])) _
            rw [hi_e hBi]
            refine st102 _ ?_
            refine XS.iinc X102.here hx rfl (dq hby D32 85 rfl) rfl (l' := #[.val (.ref a1), .val (.ref a2), .val (.ref b2), .val (.int (oi lo)), .val (.ref b8), .val (.ref b11), .val (.ref b14), .val (.int ((oi i) + (1 : Int32))), .unset, .unset, .unset, .unset, .unset, .unset, .unset, .unset, .unset, .unset, .unset, .unset]) rfl ?_
            show Steps p.tables e below (T102.setTop (mkF m 128 #[.val (.ref a1), .val (.ref a2), .val (.ref b2), .val (.int (oi lo)), .val (.ref b8), .val (.ref b11), .val (.ref b14), .val (.int ((oi i) + (1 : Int32))), .unset, .unset, .unset, .unset, .unset, .unset, .unset, .unset, .unset, .unset, .unset, .unset] [])) _
            rw [oi_s (i)]
            refine XS.goto X102.here hx rfl (pc0 := 128) (pc' := 82) rfl (dq hby D32 86 rfl) (by decide) (by decide) ?_
            exact k
          exact ih17 _ _ _ (i + 1) X102 e102 N102 Z102 K102 lf17_0_v102 lf17_1_v102 lf17_2_v102 (V98_v102.congr (fun j hj => tab_s (oi_n (by omega)) j)) (V100_v102.congr (fun j hj => tab_s (oi_n (by omega)) j)) (V102_v102.congr (fun j hj => tab_s (oi_n (by omega)) j)) (by omega) pre103
      exact loop17 N _ _ _ 0 X14 e14 NL5 Z14 K14 lf5_0_v14 lf5_1_v14 lf5_2_v14 (VM9_v14.congr (fun j hj => congrArg (fun zz => Value.int (oi zz)) (tab_0 _ j).symm)) (VM12_v14.congr (fun j hj => congrArg (fun zz => Value.int (oi zz)) (tab_0 _ j).symm)) (VM15_v15.congr (fun j hj => congrArg (fun zz => Value.int (oi zz)) (tab_0 _ j).symm)) (by omega) pre16
    | succ k5 ih5 =>
      intro TL5 Lc5 hL5 lo tx E XL5 eL5 NL5 ZL5 KL5 lf5_0_v5 lf5_1_v5 lf5_2_v5 hk hE hlo prL5
      have hSt := hS tx (by omega)
      obtain ⟨cl104, Ar104, S104, H104⟩ := id lf5_1_v5
      replace S104 : Sq cl104.slots.size _ := S104
      obtain ⟨cl105, Ar105, S105, H105⟩ := id lf5_1_v5
      replace S105 : Sq cl105.slots.size _ := S105
      have hin105 : Hq (oi tx) cl105.slots.size := oi_at S105 (by omega) (by omega)
      have hat105 : cl105.slots[((oi tx)).toNatClampNeg]? = some (.int (oi (S tx))) := ArF.at S105 H105 hin105 (congrArg (fun zz => Value.int (oi (S zz))) (oi_n (by omega)))
      obtain ⟨cl106, Ar106, S106, H106⟩ := id lf5_1_v5
      replace S106 : Sq cl106.slots.size _ := S106
      have hin106 : Hq (oi (tx + 1)) cl106.slots.size := oi_at S106 (by omega) (by omega)
      have hat106 : cl106.slots[((oi (tx + 1))).toNatClampNeg]? = some (.int (oi (S ((tx + 1))))) := ArF.at S106 H106 hin106 (congrArg (fun zz => Value.int (oi (S zz))) (oi_n (by omega)))
      obtain ⟨cl107, Ar107, S107, H107⟩ := id lf5_1_v5
      replace S107 : Sq cl107.slots.size _ := S107
      have hin107 : Hq (oi (tx + 1)) cl107.slots.size := oi_at S107 (by omega) (by omega)
      have hat107 : cl107.slots[((oi (tx + 1))).toNatClampNeg]? = some (.int (oi (S ((tx + 1))))) := ArF.at S107 H107 hin107 (congrArg (fun zz => Value.int (oi (S zz))) (oi_n (by omega)))
      obtain ⟨_, _, ⟨T108, L108, k108, n108⟩, -, X108, ⟨Lc108, hQ108, l108, y108, z108⟩, st108⟩ := Jvm.LawKit.callS XL5 hx (y := (⟨"java/util/Arrays", "fill", "([IIII)V"⟩ : MethodName)) hown (mvT hZ (wq hw 176 rfl)) (mvT hZ (wq hw 177 rfl)) (mvT hZ (wq hw 178 rfl)) (mvT hZ (wq hw 179 rfl)) (by decide) (backOf (W := 0) (rfill l Z a0 hw [] b2 (oi (S ((tx + 1)))) N ((S tx)) ((S ((tx + 1)))) (fun j => oi (E j)) hL5 n0 ZL5 lf5_2_v5 g_b2 (by omega) (by omega) (by omega)) hZ (wq hw 179 rfl) (wq hw 178 rfl) (by decide) (by decide)) (g := (mkF m 36 #[.val (.ref a1), .val (.ref a2), .val (.ref b2), .val (.int (oi lo)), .val (.int (oi tx)), .unset, .unset, .unset, .unset, .unset, .unset, .unset, .unset, .unset, .unset, .unset, .unset, .unset, .unset, .unset] [(.int (oi (S ((tx + 1))))), (.int (oi (S ((tx + 1))))), (.int (oi (S tx))), (.ref b2)])) rfl (by rw [hml]; rfl) (argsL := [(.ref b2), (.int (oi (S tx))), (.int (oi (S ((tx + 1))))), (.int (oi (S ((tx + 1)))))]) (rest := []) (lenOf pd_1 rfl) rfl (by show 2 * 0 + _ ≤ _; exact Nat.le_of_eq rfl) (dq hby D32 28 rfl) (fun _ _ => ⟨rfl, eL5, (by decide : 1 + 0 ≤ _), (by decide : 6 + 0 ≤ _)⟩)
      dsimp only [Pt.U, Pt.locs, Pt.cells, Pt.slots] at X108 l108 y108 z108 st108 hQ108
      subst l108 y108 z108
      obtain ⟨rfl, N108q, Kc108, nf108_0_v108⟩ := hQ108
      have N108 := Fr.app NL5 N108q
      have lf5_0_v108 := lf5_0_v5.keep Kc108 (ninS ne_a1_b2 nin0)
      have lf5_1_v108 := lf5_1_v5.keep Kc108 (ninS ne_a2_b2 nin0)
      have Z108 : Lq n0 T108.heap.size := Nat.le_trans ZL5 Kc108.1
      have KK108 := KL5.trans Kc108 (allS (Or.inr sz_b2) all0)
      obtain ⟨cl109, Ar109, S109, H109⟩ := id lf5_1_v108
      replace S109 : Sq cl109.slots.size _ := S109
      have hin109 : Hq (oi (tx + 1)) cl109.slots.size := oi_at S109 (by omega) (by omega)
      have hat109 : cl109.slots[((oi (tx + 1))).toNatClampNeg]? = some (.int (oi (S ((tx + 1))))) := ArF.at S109 H109 hin109 (congrArg (fun zz => Value.int (oi (S zz))) (oi_n (by omega)))
      obtain ⟨cl110, Ar110, S110, H110⟩ := id lf5_1_v108
      replace S110 : Sq cl110.slots.size _ := S110
      have hin110 : Hq (oi tx) cl110.slots.size := oi_at S110 (by omega) (by omega)
      have hat110 : cl110.slots[((oi tx)).toNatClampNeg]? = some (.int (oi (S tx))) := ArF.at S110 H110 hin110 (congrArg (fun zz => Value.int (oi (S zz))) (oi_n (by omega)))
      obtain ⟨_, _, ⟨T111, L111, k111, n111⟩, -, X111, ⟨Lc111, hQ111, l111, y111, z111⟩, st111⟩ := Jvm.LawKit.callS X108 hx (y := (⟨"java/lang/Math", "max", "(II)I"⟩ : MethodName)) hown (mvT hZ (wq hw 183 rfl)) (mvT hZ (wq hw 83 rfl)) (mvT hZ (wq hw 84 rfl)) (mvT hZ (wq hw 85 rfl)) (by decide) (backOf (W := 0) (rmax l Z a0 hw [] (lo) (((S ((tx + 1))) - (S tx))) T108.heap n0 Z108 (by omega) (by omega)) hZ (wq hw 85 rfl) (wq hw 84 rfl) (by decide) (by decide)) (g := (mkF m 51 #[.val (.ref a1), .val (.ref a2), .val (.ref b2), .val (.int (oi lo)), .val (.int (oi tx)), .unset, .unset, .unset, .unset, .unset, .unset, .unset, .unset, .unset, .unset, .unset, .unset, .unset, .unset, .unset] [(.int (oi ((S ((tx + 1))) - (S tx)))), (.int (oi lo))])) rfl (by rw [hml]; rfl) (argsL := [(.int (oi lo)), (.int (oi ((S ((tx + 1))) - (S tx))))]) (rest := []) (lenOf pd_2 rfl) rfl (by show 2 * 0 + _ ≤ _; exact Nat.le_of_eq rfl) (dq hby D32 39 rfl) (fun _ _ => ⟨rfl, rfl, (by decide : 1 + 0 ≤ _), (by decide : 6 + 0 ≤ _)⟩)
      dsimp only [Pt.U, Pt.locs, Pt.cells, Pt.slots] at X111 l111 y111 z111 st111 hQ111
      subst l111 y111 z111
      obtain ⟨rfl, N111q, e111⟩ := hQ111
      have N111 := Fr.app N108 N111q
      have pre112 : ∀ t, Steps p.tables e below (T111.setTop (mkF m 10 #[.val (.ref a1), .val (.ref a2), .val (.ref b2), .val (.int (oi (omx (lo) (((S ((tx + 1))) - (S tx)))))), .val (.int (oi (tx + 1))), .unset, .unset, .unset, .unset, .unset, .unset, .unset, .unset, .unset, .unset, .unset, .unset, .unset, .unset, .unset] [])) t → Steps p.tables e below (s₁.setTop (entryFrame m #[(.ref a1), (.ref a2)] 20)) t := by
        intro t k
        refine prL5 t ?_
        refine XS.iload XL5.here hx rfl (dq hby D32 8 rfl) rfl ?_
        refine XS.iconst XL5.here hx rfl (dq hby D32 9 rfl) ?_
        refine XS.iadd XL5.here hx rfl (dq hby D32 10 rfl) rfl ?_
        show Steps p.tables e below (TL5.setTop (mkF m 14 #[.val (.ref a1), .val (.ref a2), .val (.ref b2), .val (.int (oi lo)), .val (.int (oi tx)), .unset, .unset, .unset, .unset, .unset, .unset, .unset, .unset, .unset, .unset, .unset, .unset, .unset, .unset, .unset] [(.int ((oi tx) + (1 : Int32)))])) _
        rw [oi_s (tx)]
        refine XS.aloadN XL5.here hx rfl (dq hby D32 11 rfl) rfl rfl ?_
        refine XL5.arraylength hx (by rw [eL5]; exact Ar104.1) (State.isArrayOf_alike hZ.alike Ar104.2.1) (g := (mkF m 15 #[.val (.ref a1), .val (.ref a2), .val (.ref b2), .val (.int (oi lo)), .val (.int (oi tx)), .unset, .unset, .unset, .unset, .unset, .unset, .unset, .unset, .unset, .unset, .unset, .unset, .unset, .unset, .unset] [(.ref a2), (.int (oi (tx + 1)))])) rfl rfl (dq hby D32 12 rfl) _ ?_
        rw [show cl104.slots.size.toInt32 = (oi (K + 1)) from (congrArg Nat.toInt32 S104).trans rfl]
        refine XS.icmpNo XL5.here hx rfl (dq hby D32 13 rfl) rfl (tlt ((by rw [oi_lt (by omega) (by omega)]; omega) : ((oi (tx + 1)) < (oi (K + 1))))).2.1 ?_
        refine XS.aloadN XL5.here hx rfl (dq hby D32 14 rfl) rfl rfl ?_
        refine XS.aloadN XL5.here hx rfl (dq hby D32 15 rfl) rfl rfl ?_
        refine XS.iload XL5.here hx rfl (dq hby D32 16 rfl) rfl ?_
        refine XL5.iaload hx (j := (oi tx)) (v := (.int (oi (S tx)))) (by rw [eL5]; exact Ar105.1) (State.isArrayOf_alike hZ.alike Ar105.2.1) Ar105.2.2 hin105 hat105 (g := (mkF m 23 #[.val (.ref a1), .val (.ref a2), .val (.ref b2), .val (.int (oi lo)), .val (.int (oi tx)), .unset, .unset, .unset, .unset, .unset, .unset, .unset, .unset, .unset, .unset, .unset, .unset, .unset, .unset, .unset] [(.int (oi tx)), (.ref a2), (.ref b2)])) rfl rfl (dq hby D32 17 rfl) _ ?_
        refine XS.aloadN XL5.here hx rfl (dq hby D32 18 rfl) rfl rfl ?_
        refine XS.iload XL5.here hx rfl (dq hby D32 19 rfl) rfl ?_
        refine XS.iconst XL5.here hx rfl (dq hby D32 20 rfl) ?_
        refine XS.iadd XL5.here hx rfl (dq hby D32 21 rfl) rfl ?_
        show Steps p.tables e below (TL5.setTop (mkF m 29 #[.val (.ref a1), .val (.ref a2), .val (.ref b2), .val (.int (oi lo)), .val (.int (oi tx)), .unset, .unset, .unset, .unset, .unset, .unset, .unset, .unset, .unset, .unset, .unset, .unset, .unset, .unset, .unset] [(.int ((oi tx) + (1 : Int32))), (.ref a2), (.int (oi (S tx))), (.ref b2)])) _
        rw [oi_s (tx)]
        refine XL5.iaload hx (j := (oi (tx + 1))) (v := (.int (oi (S ((tx + 1)))))) (by rw [eL5]; exact Ar106.1) (State.isArrayOf_alike hZ.alike Ar106.2.1) Ar106.2.2 hin106 hat106 (g := (mkF m 29 #[.val (.ref a1), .val (.ref a2), .val (.ref b2), .val (.int (oi lo)), .val (.int (oi tx)), .unset, .unset, .unset, .unset, .unset, .unset, .unset, .unset, .unset, .unset, .unset, .unset, .unset, .unset, .unset] [(.int (oi (tx + 1))), (.ref a2), (.int (oi (S tx))), (.ref b2)])) rfl rfl (dq hby D32 22 rfl) _ ?_
        refine XS.aloadN XL5.here hx rfl (dq hby D32 23 rfl) rfl rfl ?_
        refine XS.iload XL5.here hx rfl (dq hby D32 24 rfl) rfl ?_
        refine XS.iconst XL5.here hx rfl (dq hby D32 25 rfl) ?_
        refine XS.iadd XL5.here hx rfl (dq hby D32 26 rfl) rfl ?_
        show Steps p.tables e below (TL5.setTop (mkF m 35 #[.val (.ref a1), .val (.ref a2), .val (.ref b2), .val (.int (oi lo)), .val (.int (oi tx)), .unset, .unset, .unset, .unset, .unset, .unset, .unset, .unset, .unset, .unset, .unset, .unset, .unset, .unset, .unset] [(.int ((oi tx) + (1 : Int32))), (.ref a2), (.int (oi (S ((tx + 1))))), (.int (oi (S tx))), (.ref b2)])) _
        rw [oi_s (tx)]
        refine XL5.iaload hx (j := (oi (tx + 1))) (v := (.int (oi (S ((tx + 1)))))) (by rw [eL5]; exact Ar107.1) (State.isArrayOf_alike hZ.alike Ar107.2.1) Ar107.2.2 hin107 hat107 (g := (mkF m 35 #[.val (.ref a1), .val (.ref a2), .val (.ref b2), .val (.int (oi lo)), .val (.int (oi tx)), .unset, .unset, .unset, .unset, .unset, .unset, .unset, .unset, .unset, .unset, .unset, .unset, .unset, .unset, .unset] [(.int (oi (tx + 1))), (.ref a2), (.int (oi (S ((tx + 1))))), (.int (oi (S tx))), (.ref b2)])) rfl rfl (dq hby D32 27 rfl) _ ?_
        refine st108 _ ?_
        refine XS.iloadN X108.here hx rfl (dq hby D32 29 rfl) rfl ?_
        refine XS.aloadN X108.here hx rfl (dq hby D32 30 rfl) rfl rfl ?_
        refine XS.iload X108.here hx rfl (dq hby D32 31 rfl) rfl ?_
        refine XS.iconst X108.here hx rfl (dq hby D32 32 rfl) ?_
        refine XS.iadd X108.here hx rfl (dq hby D32 33 rfl) rfl ?_
        show Steps p.tables e below (T108.setTop (mkF m 45 #[.val (.ref a1), .val (.ref a2), .val (.ref b2), .val (.int (oi lo)), .val (.int (oi tx)), .unset, .unset, .unset, .unset, .unset, .unset, .unset, .unset, .unset, .unset, .unset, .unset, .unset, .unset, .unset] [(.int ((oi tx) + (1 : Int32))), (.ref a2), (.int (oi lo))])) _
        rw [oi_s (tx)]
        refine X108.iaload hx (j := (oi (tx + 1))) (v := (.int (oi (S ((tx + 1)))))) Ar109.1 (State.isArrayOf_alike hZ.alike Ar109.2.1) Ar109.2.2 hin109 hat109 (g := (mkF m 45 #[.val (.ref a1), .val (.ref a2), .val (.ref b2), .val (.int (oi lo)), .val (.int (oi tx)), .unset, .unset, .unset, .unset, .unset, .unset, .unset, .unset, .unset, .unset, .unset, .unset, .unset, .unset, .unset] [(.int (oi (tx + 1))), (.ref a2), (.int (oi lo))])) rfl rfl (dq hby D32 34 rfl) _ ?_
        refine XS.aloadN X108.here hx rfl (dq hby D32 35 rfl) rfl rfl ?_
        refine XS.iload X108.here hx rfl (dq hby D32 36 rfl) rfl ?_
        refine X108.iaload hx (j := (oi tx)) (v := (.int (oi (S tx)))) Ar110.1 (State.isArrayOf_alike hZ.alike Ar110.2.1) Ar110.2.2 hin110 hat110 (g := (mkF m 49 #[.val (.ref a1), .val (.ref a2), .val (.ref b2), .val (.int (oi lo)), .val (.int (oi tx)), .unset, .unset, .unset, .unset, .unset, .unset, .unset, .unset, .unset, .unset, .unset, .unset, .unset, .unset, .unset] [(.int (oi tx)), (.ref a2), (.int (oi (S ((tx + 1))))), (.int (oi lo))])) rfl rfl (dq hby D32 37 rfl) _ ?_
        refine XS.isub X108.here hx rfl (dq hby D32 38 rfl) rfl ?_
        show Steps p.tables e below (T108.setTop (mkF m 51 #[.val (.ref a1), .val (.ref a2), .val (.ref b2), .val (.int (oi lo)), .val (.int (oi tx)), .unset, .unset, .unset, .unset, .unset, .unset, .unset, .unset, .unset, .unset, .unset, .unset, .unset, .unset, .unset] [(.int ((oi (S ((tx + 1)))) - (oi (S tx)))), (.int (oi lo))])) _
        rw [oi_sub (a := (S ((tx + 1)))) (b := (S tx)) (by omega)]
        refine st111 _ ?_
        refine XS.istoreN X111.here hx rfl (dq hby D32 40 rfl) rfl (l' := #[.val (.ref a1), .val (.ref a2), .val (.ref b2), .val (.int (oi (omx (lo) (((S ((tx + 1))) - (S tx)))))), .val (.int (oi tx)), .unset, .unset, .unset, .unset, .unset, .unset, .unset, .unset, .unset, .unset, .unset, .unset, .unset, .unset, .unset]) rfl ?_
        refine XS.iinc X111.here hx rfl (dq hby D32 41 rfl) rfl (l' := #[.val (.ref a1), .val (.ref a2), .val (.ref b2), .val (.int (oi (omx (lo) (((S ((tx + 1))) - (S tx)))))), .val (.int ((oi tx) + (1 : Int32))), .unset, .unset, .unset, .unset, .unset, .unset, .unset, .unset, .unset, .unset, .unset, .unset, .unset, .unset, .unset]) rfl ?_
        show Steps p.tables e below (T111.setTop (mkF m 58 #[.val (.ref a1), .val (.ref a2), .val (.ref b2), .val (.int (oi (omx (lo) (((S ((tx + 1))) - (S tx)))))), .val (.int ((oi tx) + (1 : Int32))), .unset, .unset, .unset, .unset, .unset, .unset, .unset, .unset, .unset, .unset, .unset, .unset, .unset, .unset, .unset] [])) _
        rw [oi_s (tx)]
        refine XS.goto X111.here hx rfl (pc0 := 58) (pc' := 10) rfl (dq hby D32 42 rfl) (by decide) (by decide) ?_
        exact k
      exact ih5 _ _ _ (omx lo (S (tx + 1) - S tx)) (tx + 1) _ X111 e111 N111 Z108 KK108 lf5_0_v108 lf5_1_v108 (nf108_0_v108.congr (fun j hj => congrArg Value.int (filN_e E (S tx) (S (tx + 1)) (S (tx + 1)) j))) (by omega) (filN_le hE (by omega)) (omx_le hlo (by omega)) pre112
  exact loop5 K _ _ _ 0 0 (fun _ => 0) X2 e2 N0 Z2 K2 Vch_v2 Vst_v2 VM3_v3 (by omega) (fun j hj => Nat.zero_le N) (by decide) pre4
theorem D48 : ∀ x ∈ ([(0, .iconst 0, 1), (1, .istore_n 2, 1), (2, .aload_n 0, 1), (3, .getfield 13, 3), (6, .arraylength, 1), (7, .iconst 1, 1), (8, .isub, 1), (9, .istore_n 3, 1), (10, .iload_n 3, 1), (11, .iload_n 2, 1), (12, .isub, 1), (13, .iconst 1, 1), (14, .if_icmp .le 33, 3), (17, .iload_n 2, 1), (18, .iload_n 3, 1), (19, .iadd, 1), (20, .iconst 1, 1), (21, .iushr, 1), (22, .istore 4, 2), (24, .aload_n 0, 1), (25, .getfield 13, 3), (28, .iload 4, 2), (30, .iaload, 1), (31, .iload_n 1, 1), (32, .if_icmp .gt 9, 3), (35, .iload 4, 2), (37, .istore_n 2, 1), (38, .goto 6, 3), (41, .iload 4, 2), (43, .istore_n 3, 1), (44, .goto (-34), 3), (47, .iload_n 2, 1), (48, .ireturn, 1)] : List (Nat × Instr × Nat)), decode prog_11_method_10_code x.1 = .ok x.2 := by decide +kernel
theorem pn_rth : plainName "com/example/even_roster/evenroster/scim/SortedSuffixes" = true := by first | (simp [plainName, overriddenIn]; done) | decide +kernel
theorem ef_rth (m : MethodId) (x0 : Addr) (x1 : Int32) : entryFrame m #[(.ref x0), (.int x1)] 5 = mkF m 0 #[.val (.ref x0), .val (.int x1), .unset, .unset, .unset] [] := by first | (simp [entryFrame, mkF, argsToLocals, Value.category]; done) | rfl
def Q_rth (Z : State) (a1 : Addr) (az : Addr) (q K N : Nat) (S : Nat → Nat) (h0 : Heap) (n0 : Nat) (v : Option Value) (h : Heap) (L : List Loc) : Prop := v = some (.int (oi (th K S q))) ∧ Fr n0 L ∧ h = h0
set_option maxRecDepth 65536 in
set_option maxHeartbeats 40000000 in
theorem rth (l : Launch) (Z : State) (a0 : Array Value) (hw : ∀ d ∈ tables_1, d.before a0 Z = true) (ws : List Jvm.Cond) (a1 : Addr) (az : Addr) (q K N : Nat) (S : Nat → Nat) (h0 : Heap) (n0 : Nat) (Z0 : n0 ≤ h0.size) (Fp0 : Fld Z h0 a1 "com/example/even_roster/evenroster/scim/SortedSuffixes" "starts" "[I" (.ref az)) (Fp1 : ArF Z h0 az .int (K + 1) (fun j => .int (oi (S j)))) (hK3 : K = 1 ∨ K = 2 ∨ K = 3) (hS0 : S 0 = 0) (hSN : S K = N) (hS : ∀ t, t < K → S t ≤ S (t + 1) ∧ S (t + 1) ≤ N ∧ S (t + 1) - S t ≤ 2) (hN : N < 1000) (hq : q < N) :
    MetFree l (⟨"com/example/even_roster/evenroster/scim/SortedSuffixes", "textHolding", "(I)I"⟩ : MethodName) (head1 (Jvm.Cond.code (⟨"com/example/even_roster/evenroster/scim/SortedSuffixes", "textHolding", "(I)I"⟩ : MethodName) prog_11_method_10_code 5 (some .int) :: ws) ({ frames := 0, cells := 0, slots := 0, locals := 0 } : Room)) (fun a U => a = #[(.ref a1), (.int (oi q))] ∧ Z.Warmed39 U.vm ∧ U.heap = h0) (fun _ _ _ _ _ => True) (fun _ U o U' => ∃ v L, o = .returned v ∧ Q_rth Z a1 az q K N S h0 n0 v U'.heap L ∧ FrameEnd U o U' L ({ frames := 0, cells := 0, slots := 0, locals := 0 } : Room).cells ({ frames := 0, cells := 0, slots := 0, locals := 0 } : Room).slots) := by
  refine MetFree.of_bodySF (plainFor_of_name pn_rth) hisR ?_
  intro p e s m args below meth c s₁ Bd hml0 hP hK
  obtain ⟨rfl, hZ, hh⟩ := hP
  have hx := Bd.exec
  have hby := Bd.bytes
  have hml : c.maxLocals = 5 := hml0
  have hown : s.vm.findClass "com/example/even_roster/evenroster/scim/SortedSuffixes" = some m.cls := findClass_of_methodNamed Bd.named
  have hnm := (name_of_methodNamed Bd.named Bd.method).1
  have X0 : Stand p l e ({ frames := 0, cells := 0, slots := 0, locals := 0 } : Room) s m #[(.ref a1), (.int (oi q))] below meth c s₁ [] 0 0 := Stand.of_body Bd
  have e0 : s₁.heap = h0 := by rw [← hh, Bd.state]; rfl
  have N0 := Fr.nil n0
  have pre0 : ∀ t, Steps p.tables e below (s₁.setTop (mkF m 0 #[.val (.ref a1), .val (.int (oi q)), .unset, .unset, .unset] [])) t → Steps p.tables e below (s₁.setTop (entryFrame m #[(.ref a1), (.int (oi q))] 5)) t := fun t k => castTop (ef_rth m a1 (oi q)) k
  refine own_cps fun G hG => ?_
  obtain ⟨T1, X1, e1, st1⟩ := getF X0 hx hZ hown (host := "") (Or.inl (wq hw 106 rfl)) Via.refl e0 Fp0 (g := (mkF m 3 #[.val (.ref a1), .val (.int (oi q)), .val (.int (0 : Int32)), .unset, .unset] [(.ref a1)])) rfl rfl (dq hby D48 3 rfl)
  obtain ⟨cl2, Ar2, S2, H2⟩ := id Fp1
  replace S2 : Sq cl2.slots.size _ := S2
  have pre3 : ∀ t, Steps p.tables e below (T1.setTop (mkF m 10 #[.val (.ref a1), .val (.int (oi q)), .val (.int (0 : Int32)), .val (.int (oi ((K + 1) - 1))), .unset] [])) t → Steps p.tables e below (s₁.setTop (entryFrame m #[(.ref a1), (.int (oi q))] 5)) t := by
    intro t k
    refine pre0 t ?_
    refine XS.iconst X0.here hx rfl (dq hby D48 0 rfl) ?_
    refine XS.istoreN X0.here hx rfl (dq hby D48 1 rfl) rfl (l' := #[.val (.ref a1), .val (.int (oi q)), .val (.int (0 : Int32)), .unset, .unset]) rfl ?_
    refine XS.aloadN X0.here hx rfl (dq hby D48 2 rfl) rfl rfl ?_
    refine st1 _ ?_
    refine X1.arraylength hx (by rw [e1]; exact Ar2.1) (State.isArrayOf_alike hZ.alike Ar2.2.1) (g := (mkF m 6 #[.val (.ref a1), .val (.int (oi q)), .val (.int (0 : Int32)), .unset, .unset] [(.ref az)])) rfl rfl (dq hby D48 4 rfl) _ ?_
    rw [show cl2.slots.size.toInt32 = (oi (K + 1)) from (congrArg Nat.toInt32 S2).trans rfl]
    refine XS.iconst X1.here hx rfl (dq hby D48 5 rfl) ?_
    refine XS.isub X1.here hx rfl (dq hby D48 6 rfl) rfl ?_
    show Steps p.tables e below (T1.setTop (mkF m 9 #[.val (.ref a1), .val (.int (oi q)), .val (.int (0 : Int32)), .unset, .unset] [(.int ((oi (K + 1)) - (1 : Int32)))])) _
    rw [oi_p (a := (K + 1)) (by omega)]
    refine XS.istoreN X1.here hx rfl (dq hby D48 7 rfl) rfl (l' := #[.val (.ref a1), .val (.int (oi q)), .val (.int (0 : Int32)), .val (.int (oi ((K + 1) - 1))), .unset]) rfl ?_
    exact k
  have loop4 : ∀ (k4 : Nat) (TL4 : State) (Lc4 : List Loc) (hL4 : Heap) (lo : Nat) (hi : Nat) (s4 : Slot), Stand p l e ({ frames := 0, cells := 0, slots := 0, locals := 0 } : Room) s m #[(.ref a1), (.int (oi q))] below meth c TL4 Lc4 0 0 → TL4.heap = hL4 → Fr n0 Lc4 → Lq n0 hL4.size → Fld Z hL4 a1 "com/example/even_roster/evenroster/scim/SortedSuffixes" "starts" "[I" (.ref az) → ArF Z hL4 az .int (K + 1) (fun j => .int (oi (S j))) → lo < hi → hi ≤ K → hi - lo ≤ k4 + 1 → S lo ≤ q → q < S hi → hL4 = h0 → (s4 = .unset ∨ ∃ z, s4 = .val (.int z)) → (∀ t, Steps p.tables e below (TL4.setTop (mkF m 10 #[.val (.ref a1), .val (.int (oi q)), .val (.int (oi lo)), .val (.int (oi hi)), s4] [])) t → Steps p.tables e below (s₁.setTop (entryFrame m #[(.ref a1), (.int (oi q))] 5)) t) → G := by
    intro k4
    induction k4 with
    | zero =>
      intro TL4 Lc4 hL4 lo hi s4 XL4 eL4 NL4 ZL4 lf4_0_v4 lf4_1_v4 hlo hhi hm hSlo hShi heq0 hs4 prL4
      refine hG ?_
      obtain ⟨fs, hr, hrun, hended, hW, hsame⟩ := XL4.leave (v := some (.int (oi lo))) (fun h => by rw [Bd.returns] at h; cases h)
      refine ⟨_, _, prL4 _ ?_, hrun, hended, _, _, rfl, ?_, ⟨_, rfl⟩, hW, hsame.mono (by decide) (by decide)⟩
      · show Steps p.tables e below (TL4.setTop (mkF m 10 #[.val (.ref a1), .val (.int (oi q)), .val (.int (oi lo)), .val (.int (oi hi)), s4] [])) _
        refine XS.iloadN XL4.here hx rfl (dq hby D48 8 rfl) rfl ?_
        refine XS.iloadN XL4.here hx rfl (dq hby D48 9 rfl) rfl ?_
        refine XS.isub XL4.here hx rfl (dq hby D48 10 rfl) rfl ?_
        show Steps p.tables e below (TL4.setTop (mkF m 13 #[.val (.ref a1), .val (.int (oi q)), .val (.int (oi lo)), .val (.int (oi hi)), s4] [(.int ((oi hi) - (oi lo)))])) _
        rw [oi_sub (a := hi) (b := lo) (by omega)]
        refine XS.iconst XL4.here hx rfl (dq hby D48 11 rfl) ?_
        refine XS.icmpYes XL4.here hx rfl (pc0 := 14) (pc' := 47) rfl (dq hby D48 12 rfl) rfl (flt (fun z => absurd ((oi_lt (a := 1) (b := hi - lo) (by omega) (by omega)).mp z) (by omega))).2.2.2 (by decide) (by decide) ?_
        refine XS.iloadN XL4.here hx rfl (dq hby D48 31 rfl) rfl ?_
        exact retI XL4 hx Bd.returns (dq hby D48 32 rfl) hr
      · show Q_rth Z a1 az q K N S h0 n0 _ TL4.heap _
        rw [eL4]
        exact ⟨congrArg (fun zz => some (Value.int (oi zz))) (th_at hK3 hS (by omega) hSlo ((show hi = lo + 1 by omega) ▸ hShi)).symm, NL4, heq0⟩
    | succ k4 ih4 =>
      intro TL4 Lc4 hL4 lo hi s4 XL4 eL4 NL4 ZL4 lf4_0_v4 lf4_1_v4 hlo hhi hm hSlo hShi heq0 hs4 prL4
      have pre5 : ∀ t, Steps p.tables e below (TL4.setTop (mkF m 14 #[.val (.ref a1), .val (.int (oi q)), .val (.int (oi lo)), .val (.int (oi hi)), s4] [(.int (1 : Int32)), (.int (oi (hi - lo)))])) t → Steps p.tables e below (s₁.setTop (entryFrame m #[(.ref a1), (.int (oi q))] 5)) t := by
        intro t k
        refine prL4 t ?_
        refine XS.iloadN XL4.here hx rfl (dq hby D48 8 rfl) rfl ?_
        refine XS.iloadN XL4.here hx rfl (dq hby D48 9 rfl) rfl ?_
        refine XS.isub XL4.here hx rfl (dq hby D48 10 rfl) rfl ?_
        show Steps p.tables e below (TL4.setTop (mkF m 13 #[.val (.ref a1), .val (.int (oi q)), .val (.int (oi lo)), .val (.int (oi hi)), s4] [(.int ((oi hi) - (oi lo)))])) _
        rw [oi_sub (a := hi) (b := lo) (by omega)]
        refine XS.iconst XL4.here hx rfl (dq hby D48 11 rfl) ?_
        exact k
      by_cases hc14_6 : (1 : Int32) < (oi (hi - lo))
      · have hx2 := oi_ltY (a := 1) (b := hi - lo) (by omega) (by omega) hc14_6
        obtain ⟨T7, X7, e7, st7⟩ := getF XL4 hx hZ hown (host := "") (Or.inl (wq hw 106 rfl)) Via.refl eL4 lf4_0_v4 (g := (mkF m 25 #[.val (.ref a1), .val (.int (oi q)), .val (.int (oi lo)), .val (.int (oi hi)), .val (.int (oi ((lo + hi) / 2)))] [(.ref a1)])) rfl rfl (dq hby D48 20 rfl)
        obtain ⟨cl8, Ar8, S8, H8⟩ := id lf4_1_v4
        replace S8 : Sq cl8.slots.size _ := S8
        have hin8 : Hq (oi ((lo + hi) / 2)) cl8.slots.size := oi_at S8 (by omega) (by omega)
        have hat8 : cl8.slots[((oi ((lo + hi) / 2))).toNatClampNeg]? = some (.int (oi (S ((lo + hi) / 2)))) := ArF.at S8 H8 hin8 (congrArg (fun zz => Value.int (oi (S zz))) (oi_n (by omega)))
        have hSm := th_le hS hSN (j := ((lo + hi) / 2)) (by omega)
        have pre9 : ∀ t, Steps p.tables e below (T7.setTop (mkF m 32 #[.val (.ref a1), .val (.int (oi q)), .val (.int (oi lo)), .val (.int (oi hi)), .val (.int (oi ((lo + hi) / 2)))] [(.int (oi q)), (.int (oi (S ((lo + hi) / 2))))])) t → Steps p.tables e below (s₁.setTop (entryFrame m #[(.ref a1), (.int (oi q))] 5)) t := by
          intro t k
          refine pre5 t ?_
          refine XS.icmpNo XL4.here hx rfl (dq hby D48 12 rfl) rfl (tlt hc14_6).2.2.2 ?_
          refine XS.iloadN XL4.here hx rfl (dq hby D48 13 rfl) rfl ?_
          refine XS.iloadN XL4.here hx rfl (dq hby D48 14 rfl) rfl ?_
          refine XS.iadd XL4.here hx rfl (dq hby D48 15 rfl) rfl ?_
          show Steps p.tables e below (TL4.setTop (mkF m 20 #[.val (.ref a1), .val (.int (oi q)), .val (.int (oi lo)), .val (.int (oi hi)), s4] [(.int ((oi lo) + (oi hi)))])) _
          rw [oi_add (lo) (hi)]
          refine XS.iconst XL4.here hx rfl (dq hby D48 16 rfl) ?_
          refine XS.iushr XL4.here hx rfl (dq hby D48 17 rfl) rfl ?_
          show Steps p.tables e below (TL4.setTop (mkF m 22 #[.val (.ref a1), .val (.int (oi q)), .val (.int (oi lo)), .val (.int (oi hi)), s4] [(.int (((oi (lo + hi)).toUInt32 >>> ((1 : Int32) &&& 31).toUInt32).toInt32))])) _
          rw [oi_half (k := (lo + hi)) (by omega)]
          refine XS.istore XL4.here hx rfl (dq hby D48 18 rfl) rfl (l' := #[.val (.ref a1), .val (.int (oi q)), .val (.int (oi lo)), .val (.int (oi hi)), .val (.int (oi ((lo + hi) / 2)))]) (by rcases hs4 with rfl | ⟨_, rfl⟩ <;> rfl) ?_
          refine XS.aloadN XL4.here hx rfl (dq hby D48 19 rfl) rfl rfl ?_
          refine st7 _ ?_
          refine XS.iload X7.here hx rfl (dq hby D48 21 rfl) rfl ?_
          refine X7.iaload hx (j := (oi ((lo + hi) / 2))) (v := (.int (oi (S ((lo + hi) / 2))))) (by rw [e7]; exact Ar8.1) (State.isArrayOf_alike hZ.alike Ar8.2.1) Ar8.2.2 hin8 hat8 (g := (mkF m 30 #[.val (.ref a1), .val (.int (oi q)), .val (.int (oi lo)), .val (.int (oi hi)), .val (.int (oi ((lo + hi) / 2)))] [(.int (oi ((lo + hi) / 2))), (.ref az)])) rfl rfl (dq hby D48 22 rfl) _ ?_
          refine XS.iloadN X7.here hx rfl (dq hby D48 23 rfl) rfl ?_
          exact k
        by_cases hc32_10 : (oi q) < (oi (S ((lo + hi) / 2)))
        · have pre11 : ∀ t, Steps p.tables e below (T7.setTop (mkF m 10 #[.val (.ref a1), .val (.int (oi q)), .val (.int (oi lo)), .val (.int (oi ((lo + hi) / 2))), .val (.int (oi ((lo + hi) / 2)))] [])) t → Steps p.tables e below (s₁.setTop (entryFrame m #[(.ref a1), (.int (oi q))] 5)) t := by
            intro t k
            refine pre9 t ?_
            refine XS.icmpYes X7.here hx rfl (pc0 := 32) (pc' := 41) rfl (dq hby D48 24 rfl) rfl (tlt hc32_10).2.2.1 (by decide) (by decide) ?_
            refine XS.iload X7.here hx rfl (dq hby D48 28 rfl) rfl ?_
            refine XS.istoreN X7.here hx rfl (dq hby D48 29 rfl) rfl (l' := #[.val (.ref a1), .val (.int (oi q)), .val (.int (oi lo)), .val (.int (oi ((lo + hi) / 2))), .val (.int (oi ((lo + hi) / 2)))]) rfl ?_
            refine XS.goto X7.here hx rfl (pc0 := 44) (pc' := 10) rfl (dq hby D48 30 rfl) (by decide) (by decide) ?_
            exact k
          exact ih4 _ _ _ lo ((lo + hi) / 2) _ X7 e7 NL4 ZL4 lf4_0_v4 lf4_1_v4 (by omega) (by omega) (by omega) hSlo (oi_ltY (by omega) (by omega) hc32_10) heq0 (Or.inr ⟨_, rfl⟩) pre11
        · have pre12 : ∀ t, Steps p.tables e below (T7.setTop (mkF m 10 #[.val (.ref a1), .val (.int (oi q)), .val (.int (oi ((lo + hi) / 2))), .val (.int (oi hi)), .val (.int (oi ((lo + hi) / 2)))] [])) t → Steps p.tables e below (s₁.setTop (entryFrame m #[(.ref a1), (.int (oi q))] 5)) t := by
            intro t k
            refine pre9 t ?_
            refine XS.icmpNo X7.here hx rfl (dq hby D48 24 rfl) rfl (flt hc32_10).2.2.1 ?_
            refine XS.iload X7.here hx rfl (dq hby D48 25 rfl) rfl ?_
            refine XS.istoreN X7.here hx rfl (dq hby D48 26 rfl) rfl (l' := #[.val (.ref a1), .val (.int (oi q)), .val (.int (oi ((lo + hi) / 2))), .val (.int (oi hi)), .val (.int (oi ((lo + hi) / 2)))]) rfl ?_
            refine XS.goto X7.here hx rfl (pc0 := 38) (pc' := 44) rfl (dq hby D48 27 rfl) (by decide) (by decide) ?_
            refine XS.goto X7.here hx rfl (pc0 := 44) (pc' := 10) rfl (dq hby D48 30 rfl) (by decide) (by decide) ?_
            exact k
          exact ih4 _ _ _ ((lo + hi) / 2) hi _ X7 e7 NL4 ZL4 lf4_0_v4 lf4_1_v4 (by omega) (by omega) (by omega) (Nat.le_of_not_lt (oi_ltN (by omega) (by omega) hc32_10)) hShi heq0 (Or.inr ⟨_, rfl⟩) pre12
      · have hx1 := oi_ltN (a := 1) (b := hi - lo) (by omega) (by omega) hc14_6
        refine hG ?_
        obtain ⟨fs, hr, hrun, hended, hW, hsame⟩ := XL4.leave (v := some (.int (oi lo))) (fun h => by rw [Bd.returns] at h; cases h)
        refine ⟨_, _, pre5 _ ?_, hrun, hended, _, _, rfl, ?_, ⟨_, rfl⟩, hW, hsame.mono (by decide) (by decide)⟩
        · show Steps p.tables e below (TL4.setTop (mkF m 14 #[.val (.ref a1), .val (.int (oi q)), .val (.int (oi lo)), .val (.int (oi hi)), s4] [(.int (1 : Int32)), (.int (oi (hi - lo)))])) _
          refine XS.icmpYes XL4.here hx rfl (pc0 := 14) (pc' := 47) rfl (dq hby D48 12 rfl) rfl (flt hc14_6).2.2.2 (by decide) (by decide) ?_
          refine XS.iloadN XL4.here hx rfl (dq hby D48 31 rfl) rfl ?_
          exact retI XL4 hx Bd.returns (dq hby D48 32 rfl) hr
        · show Q_rth Z a1 az q K N S h0 n0 _ TL4.heap _
          rw [eL4]
          exact ⟨congrArg (fun zz => some (Value.int (oi zz))) (th_at hK3 hS (by omega) hSlo ((show hi = lo + 1 by omega) ▸ hShi)).symm, NL4, heq0⟩
  exact loop4 K _ _ _ 0 K .unset X1 e1 N0 Z0 Fp0 Fp1 (by omega) (Nat.le_refl K) (by omega) (by rw [hS0]; exact Nat.zero_le q) (by rw [hSN]; exact hq) rfl (Or.inl rfl) pre3
theorem D47 : ∀ x ∈ ([(0, .aload_n 0, 1), (1, .aload_n 0, 1), (2, .getfield 40, 3), (5, .iload_n 1, 1), (6, .iaload, 1), (7, .invokevirtual 52, 3), (10, .ireturn, 1)] : List (Nat × Instr × Nat)), decode prog_11_method_5_code x.1 = .ok x.2 := by decide +kernel
theorem pn_rta : plainName "com/example/even_roster/evenroster/scim/SortedSuffixes" = true := by first | (simp [plainName, overriddenIn]; done) | decide +kernel
theorem ef_rta (m : MethodId) (x0 : Addr) (x1 : Int32) : entryFrame m #[(.ref x0), (.int x1)] 2 = mkF m 0 #[.val (.ref x0), .val (.int x1)] [] := by first | (simp [entryFrame, mkF, argsToLocals, Value.category]; done) | rfl
def Q_rta (Z : State) (a1 : Addr) (az so : Addr) (i K N : Nat) (S F : Nat → Nat) (h0 : Heap) (n0 : Nat) (v : Option Value) (h : Heap) (L : List Loc) : Prop := v = some (.int (oi (th K S (F i)))) ∧ Fr n0 L ∧ h = h0
set_option maxRecDepth 65536 in
set_option maxHeartbeats 40000000 in
theorem rta (l : Launch) (Z : State) (a0 : Array Value) (hw : ∀ d ∈ tables_1, d.before a0 Z = true) (ws : List Jvm.Cond) (a1 : Addr) (az so : Addr) (i K N : Nat) (S F : Nat → Nat) (h0 : Heap) (n0 : Nat) (Z0 : n0 ≤ h0.size) (Fp0 : Exa Z h0 a1 "com/example/even_roster/evenroster/scim/SortedSuffixes") (Fp1 : Fld Z h0 a1 "com/example/even_roster/evenroster/scim/SortedSuffixes" "starts" "[I" (.ref az)) (Fp2 : Fld Z h0 a1 "com/example/even_roster/evenroster/scim/SortedSuffixes" "sorted" "[I" (.ref so)) (Fp3 : ArF Z h0 az .int (K + 1) (fun j => .int (oi (S j)))) (Fp4 : ArF Z h0 so .int N (fun j => .int (oi (F j)))) (hK3 : K = 1 ∨ K = 2 ∨ K = 3) (hS0 : S 0 = 0) (hSN : S K = N) (hS : ∀ t, t < K → S t ≤ S (t + 1) ∧ S (t + 1) ≤ N ∧ S (t + 1) - S t ≤ 2) (hN : N < 1000) (hi : i < N) (hF : ∀ j, j < N → F j < N) :
    MetFree l (⟨"com/example/even_roster/evenroster/scim/SortedSuffixes", "textAt", "(I)I"⟩ : MethodName) (head1 (Jvm.Cond.code (⟨"com/example/even_roster/evenroster/scim/SortedSuffixes", "textAt", "(I)I"⟩ : MethodName) prog_11_method_5_code 2 (some .int) :: ws) ({ frames := 1, cells := 0, slots := 0, locals := 16 } : Room)) (fun a U => a = #[(.ref a1), (.int (oi i))] ∧ Z.Warmed39 U.vm ∧ U.heap = h0) (fun _ _ _ _ _ => True) (fun _ U o U' => ∃ v L, o = .returned v ∧ Q_rta Z a1 az so i K N S F h0 n0 v U'.heap L ∧ FrameEnd U o U' L ({ frames := 1, cells := 0, slots := 0, locals := 16 } : Room).cells ({ frames := 1, cells := 0, slots := 0, locals := 16 } : Room).slots) := by
  refine MetFree.of_bodySF (plainFor_of_name pn_rta) hisR ?_
  intro p e s m args below meth c s₁ Bd hml0 hP hK
  obtain ⟨rfl, hZ, hh⟩ := hP
  have hx := Bd.exec
  have hby := Bd.bytes
  have hml : c.maxLocals = 2 := hml0
  have hown : s.vm.findClass "com/example/even_roster/evenroster/scim/SortedSuffixes" = some m.cls := findClass_of_methodNamed Bd.named
  have hnm := (name_of_methodNamed Bd.named Bd.method).1
  have X0 : Stand p l e ({ frames := 1, cells := 0, slots := 0, locals := 16 } : Room) s m #[(.ref a1), (.int (oi i))] below meth c s₁ [] 0 0 := Stand.of_body Bd
  have e0 : s₁.heap = h0 := by rw [← hh, Bd.state]; rfl
  have N0 := Fr.nil n0
  have pre0 : ∀ t, Steps p.tables e below (s₁.setTop (mkF m 0 #[.val (.ref a1), .val (.int (oi i))] [])) t → Steps p.tables e below (s₁.setTop (entryFrame m #[(.ref a1), (.int (oi i))] 2)) t := fun t k => castTop (ef_rta m a1 (oi i)) k
  refine own_cps fun G hG => ?_
  have hFi := hF i hi
  obtain ⟨T1, X1, e1, st1⟩ := getF X0 hx hZ hown (host := "") (Or.inl (wq hw 187 rfl)) Via.refl e0 Fp2 (g := (mkF m 2 #[.val (.ref a1), .val (.int (oi i))] [(.ref a1), (.ref a1)])) rfl rfl (dq hby D47 2 rfl)
  obtain ⟨cl2, Ar2, S2, H2⟩ := id Fp4
  replace S2 : Sq cl2.slots.size _ := S2
  have hin2 : Hq (oi i) cl2.slots.size := oi_at S2 (by omega) (by omega)
  have hat2 : cl2.slots[((oi i)).toNatClampNeg]? = some (.int (oi (F i))) := ArF.at S2 H2 hin2 (congrArg (fun zz => Value.int (oi (F zz))) (oi_n (by omega)))
  obtain ⟨cq3, qq3, qq3'⟩ := Fp0.cell
  obtain ⟨_, _, ⟨T3, L3, k3, n3⟩, -, X3, ⟨Lc3, hQ3, l3, y3, z3⟩, st3⟩ := X1.privateBack hx (y := (⟨"com/example/even_roster/evenroster/scim/SortedSuffixes", "textHolding", "(I)I"⟩ : MethodName)) hown (mvT hZ (wq hw 234 rfl)) (mvT hZ (wq hw 235 rfl)) (own_selp (mvT hZ (wq hw 91 rfl)) (Cond.privateMethod_at (mvP hZ (wq hw 236 rfl) (args := #[]))) (mvT hZ (wq hw 235 rfl)) (by decide)) (Cond.privateMethod_at (mvP hZ (wq hw 236 rfl) (args := #[]))) (mvT hZ (wq hw 237 rfl)) (by decide) (backOf (W := 0) (rth l Z a0 hw [] a1 az ((F i)) K N S h0 n0 Z0 Fp1 Fp3 hK3 hS0 hSN hS hN (by omega)) hZ (wq hw 237 rfl) (wq hw 92 rfl) (by decide) (by decide)) (g := (mkF m 7 #[.val (.ref a1), .val (.int (oi i))] [(.int (oi (F i))), (.ref a1)])) rfl (by rw [hml]; rfl) (Steps.refl _) (a := a1) (by rw [e1]; exact qq3) qq3' (argsL := [(.int (oi (F i)))]) (rest := []) (lenOf pd_6 rfl) rfl (by show 2 * 0 + _ ≤ _; exact Nat.le_of_eq rfl) (dq hby D47 5 rfl) (fun _ _ => ⟨rfl, e1, (by decide : 0 + 0 ≤ _), (by decide : 0 + 0 ≤ _)⟩)
  dsimp only [Pt.U, Pt.locs, Pt.cells, Pt.slots] at X3 l3 y3 z3 st3 hQ3
  subst l3 y3 z3
  obtain ⟨rfl, N3q, e3⟩ := hQ3
  have N3 := Fr.app N0 N3q
  refine hG ?_
  obtain ⟨fs, hr, hrun, hended, hW, hsame⟩ := X3.leave (v := some (.int (oi (th K S (F i))))) (fun h => by rw [Bd.returns] at h; cases h)
  refine ⟨_, _, pre0 _ ?_, hrun, hended, _, _, rfl, ?_, ⟨_, rfl⟩, hW, hsame.mono (by decide) (by decide)⟩
  · show Steps p.tables e below (s₁.setTop (mkF m 0 #[.val (.ref a1), .val (.int (oi i))] [])) _
    refine XS.aloadN X0.here hx rfl (dq hby D47 0 rfl) rfl rfl ?_
    refine XS.aloadN X0.here hx rfl (dq hby D47 1 rfl) rfl rfl ?_
    refine st1 _ ?_
    refine XS.iloadN X1.here hx rfl (dq hby D47 3 rfl) rfl ?_
    show Steps p.tables e below (T1.setTop (mkF m 6 #[.val (.ref a1), .val (.int (oi i))] [(.int (oi i)), (.ref so), (.ref a1)])) _
    refine X1.iaload hx (j := (oi i)) (v := (.int (oi (F i)))) (by rw [e1]; exact Ar2.1) (State.isArrayOf_alike hZ.alike Ar2.2.1) Ar2.2.2 hin2 hat2 (g := (mkF m 6 #[.val (.ref a1), .val (.int (oi i))] [(.int (oi i)), (.ref so), (.ref a1)])) rfl rfl (dq hby D47 4 rfl) _ ?_
    refine st3.trans ?_
    exact retI X3 hx Bd.returns (dq hby D47 6 rfl) hr
  · show Q_rta Z a1 az so i K N S F h0 n0 _ T3.heap _
    rw [e3]
    exact ⟨rfl, N3, rfl⟩
theorem D37 : ∀ x ∈ ([(0, .iload 4, 2), (2, .aload_n 2, 1), (3, .arraylength, 1), (4, .if_icmp .lt 5, 3), (7, .iconst 1, 1), (8, .ireturn, 1), (9, .aload_n 2, 1), (10, .iload 4, 2), (12, .iaload, 1), (13, .aload_n 1, 1), (14, .aload_n 0, 1), (15, .iload_n 3, 1), (16, .iload 4, 2), (18, .iadd, 1), (19, .invokevirtual 38, 3), (22, .iaload, 1), (23, .if_icmp .ne 7, 3), (26, .iconst 1, 1), (27, .goto 4, 3), (31, .ireturn, 1)] : List (Nat × Instr × Nat)), decode method_4_code x.1 = .ok x.2 := by decide +kernel
theorem pn_rag : plainName "com/example/even_roster/evenroster/scim/SortedSuffixesValuesAtPinLaw" = true := by first | (simp [plainName, overriddenIn]; done) | decide +kernel
theorem ef_rag (m : MethodId) (x0 : Addr) (x1 : Addr) (x2 : Addr) (x3 : Int32) (x4 : Int32) : entryFrame m #[(.ref x0), (.ref x1), (.ref x2), (.int x3), (.int x4)] 5 = mkF m 0 #[.val (.ref x0), .val (.ref x1), .val (.ref x2), .val (.int x3), .val (.int x4)] [] := by first | (simp [entryFrame, mkF, argsToLocals, Value.category]; done) | rfl
def Q_rag (Z : State) (a1 : Addr) (a2 : Addr) (a3 : Addr) (az so : Addr) (u i K N M : Nat) (S F : Nat → Nat) (vs : Nat → Int32) (h0 : Heap) (n0 : Nat) (v : Option Value) (h : Heap) (L : List Loc) : Prop := v = some (.int 1) ∧ Fr n0 L ∧ h = h0
set_option maxRecDepth 65536 in
set_option maxHeartbeats 40000000 in
theorem rag (l : Launch) (Z : State) (a0 : Array Value) (hw : ∀ d ∈ tables_1, d.before a0 Z = true) (ws : List Jvm.Cond) (a1 : Addr) (a2 : Addr) (a3 : Addr) (az so : Addr) (u i K N M : Nat) (S F : Nat → Nat) (vs : Nat → Int32) (h0 : Heap) (n0 : Nat) (Z0 : n0 ≤ h0.size) (Fp0 : Exa Z h0 a1 "com/example/even_roster/evenroster/scim/SortedSuffixes") (Fp1 : Fld Z h0 a1 "com/example/even_roster/evenroster/scim/SortedSuffixes" "starts" "[I" (.ref az)) (Fp2 : Fld Z h0 a1 "com/example/even_roster/evenroster/scim/SortedSuffixes" "sorted" "[I" (.ref so)) (Fp3 : ArF Z h0 az .int (K + 1) (fun j => .int (oi (S j)))) (Fp4 : ArF Z h0 so .int N (fun j => .int (oi (F j)))) (Fp5 : ArF Z h0 a2 .int K (fun j => .int (vs j))) (Fp6 : ArF Z h0 a3 .int M (fun j => .int (ocv vs K S F u j))) (hK3 : K = 1 ∨ K = 2 ∨ K = 3) (hS0 : S 0 = 0) (hSN : S K = N) (hS : ∀ t, t < K → S t ≤ S (t + 1) ∧ S (t + 1) ≤ N ∧ S (t + 1) - S t ≤ 2) (hN : N < 1000) (hu : u + M ≤ N) (hi : i < 1000) (hF : ∀ j, j < N → F j < N) :
    MetFree l (⟨"com/example/even_roster/evenroster/scim/SortedSuffixesValuesAtPinLaw", "agrees", "(Lcom/example/even_roster/evenroster/scim/SortedSuffixes;[I[III)Z"⟩ : MethodName) (head1 (Jvm.Cond.code (⟨"com/example/even_roster/evenroster/scim/SortedSuffixesValuesAtPinLaw", "agrees", "(Lcom/example/even_roster/evenroster/scim/SortedSuffixes;[I[III)Z"⟩ : MethodName) method_4_code 5 (some .boolean) :: ws) ({ frames := 2, cells := 0, slots := 0, locals := 31 } : Room)) (fun a U => a = #[(.ref a1), (.ref a2), (.ref a3), (.int (oi u)), (.int (oi i))] ∧ Z.Warmed39 U.vm ∧ U.heap = h0) (fun _ _ _ _ _ => True) (fun _ U o U' => ∃ v L, o = .returned v ∧ Q_rag Z a1 a2 a3 az so u i K N M S F vs h0 n0 v U'.heap L ∧ FrameEnd U o U' L ({ frames := 2, cells := 0, slots := 0, locals := 31 } : Room).cells ({ frames := 2, cells := 0, slots := 0, locals := 31 } : Room).slots) := by
  refine MetFree.of_bodySF (plainFor_of_name pn_rag) hisR ?_
  intro p e s m args below meth c s₁ Bd hml0 hP hK
  obtain ⟨rfl, hZ, hh⟩ := hP
  have hx := Bd.exec
  have hby := Bd.bytes
  have hml : c.maxLocals = 5 := hml0
  have hown : s.vm.findClass "com/example/even_roster/evenroster/scim/SortedSuffixesValuesAtPinLaw" = some m.cls := findClass_of_methodNamed Bd.named
  have hnm := (name_of_methodNamed Bd.named Bd.method).1
  have X0 : Stand p l e ({ frames := 2, cells := 0, slots := 0, locals := 31 } : Room) s m #[(.ref a1), (.ref a2), (.ref a3), (.int (oi u)), (.int (oi i))] below meth c s₁ [] 0 0 := Stand.of_body Bd
  have e0 : s₁.heap = h0 := by rw [← hh, Bd.state]; rfl
  have N0 := Fr.nil n0
  have pre0 : ∀ t, Steps p.tables e below (s₁.setTop (mkF m 0 #[.val (.ref a1), .val (.ref a2), .val (.ref a3), .val (.int (oi u)), .val (.int (oi i))] [])) t → Steps p.tables e below (s₁.setTop (entryFrame m #[(.ref a1), (.ref a2), (.ref a3), (.int (oi u)), (.int (oi i))] 5)) t := fun t k => castTop (ef_rag m a1 a2 a3 (oi u) (oi i)) k
  refine own_cps fun G hG => ?_
  obtain ⟨cl1, Ar1, S1, H1⟩ := id Fp6
  replace S1 : Sq cl1.slots.size _ := S1
  have pre2 : ∀ t, Steps p.tables e below (s₁.setTop (mkF m 4 #[.val (.ref a1), .val (.ref a2), .val (.ref a3), .val (.int (oi u)), .val (.int (oi i))] [(.int (oi M)), (.int (oi i))])) t → Steps p.tables e below (s₁.setTop (entryFrame m #[(.ref a1), (.ref a2), (.ref a3), (.int (oi u)), (.int (oi i))] 5)) t := by
    intro t k
    refine pre0 t ?_
    refine XS.iload X0.here hx rfl (dq hby D37 0 rfl) rfl ?_
    refine XS.aloadN X0.here hx rfl (dq hby D37 1 rfl) rfl rfl ?_
    refine X0.arraylength hx (by rw [e0]; exact Ar1.1) (State.isArrayOf_alike hZ.alike Ar1.2.1) (g := (mkF m 3 #[.val (.ref a1), .val (.ref a2), .val (.ref a3), .val (.int (oi u)), .val (.int (oi i))] [(.ref a3), (.int (oi i))])) rfl rfl (dq hby D37 2 rfl) _ ?_
    rw [show cl1.slots.size.toInt32 = (oi M) from (congrArg Nat.toInt32 S1).trans rfl]
    exact k
  by_cases hc4_3 : (oi i) < (oi M)
  · have hiM := oi_ltY (by omega) (by omega) hc4_3
    obtain ⟨cl4, Ar4, S4, H4⟩ := id Fp6
    replace S4 : Sq cl4.slots.size _ := S4
    have hin4 : Hq (oi i) cl4.slots.size := oi_at S4 (by omega) (by omega)
    have hat4 : cl4.slots[((oi i)).toNatClampNeg]? = some (.int (ocv vs K S F u i)) := ArF.at S4 H4 hin4 (congrArg (fun zz => Value.int (ocv vs K S F u zz)) (oi_n (by omega)))
    obtain ⟨cq5, kq5, q5a, q5b, q5c⟩ := isOf hZ e0 Fp0
    obtain ⟨_, _, ⟨T5, L5, k5, n5⟩, -, X5, ⟨Lc5, hQ5, l5, y5, z5⟩, st5⟩ := X0.virtualBack hx (y := (⟨"com/example/even_roster/evenroster/scim/SortedSuffixes", "textAt", "(I)I"⟩ : MethodName)) (z := (⟨"com/example/even_roster/evenroster/scim/SortedSuffixes", "textAt", "(I)I"⟩ : MethodName)) hown (mvT hZ (wq hw 229 rfl)) (mvT hZ (wq hw 230 rfl)) (notFace_of_selects (args := #[]) (mvT hZ (wq hw 232 rfl))) (mvT hZ (wq hw 232 rfl)) (mvT hZ (wq hw 231 rfl)) (by decide) (backOf (W := 2) (rta l Z a0 hw [] a1 az so ((u + i)) K N S F h0 n0 Z0 Fp0 Fp1 Fp2 Fp3 Fp4 hK3 hS0 hSN hS hN (by omega) hF) hZ (wq hw 233 rfl) (wq hw 92 rfl) (by decide) (by decide)) q5a q5c (g := (mkF m 19 #[.val (.ref a1), .val (.ref a2), .val (.ref a3), .val (.int (oi u)), .val (.int (oi i))] [(.int (oi (u + i))), (.ref a1), (.ref a2), (.int (ocv vs K S F u i))])) rfl (by rw [hml]; rfl) (Steps.refl _) (argsL := [(.int (oi (u + i)))]) (rest := [(.ref a2), (.int (ocv vs K S F u i))]) (lenOf pd_6 rfl) rfl (by show 2 * 0 + _ ≤ _; exact Nat.le_of_eq rfl) (dq hby D37 14 rfl) (fun _ _ => ⟨rfl, e0, (by decide : 0 + 0 ≤ _), (by decide : 0 + 0 ≤ _)⟩)
    dsimp only [Pt.U, Pt.locs, Pt.cells, Pt.slots] at X5 l5 y5 z5 st5 hQ5
    subst l5 y5 z5
    obtain ⟨rfl, N5q, e5⟩ := hQ5
    have N5 := Fr.app N0 N5q
    have htl : th K S (F (u + i)) < K := th_lt hK3
    obtain ⟨cl6, Ar6, S6, H6⟩ := id Fp5
    replace S6 : Sq cl6.slots.size _ := S6
    have hin6 : Hq (oi (th K S (F (u + i)))) cl6.slots.size := oi_at S6 htl (by omega)
    have hat6 : cl6.slots[((oi (th K S (F (u + i))))).toNatClampNeg]? = some (.int (vs (th K S (F (u + i))))) := ArF.at S6 H6 hin6 (congrArg (fun zz => Value.int (vs zz)) (oi_n (by omega)))
    refine hG ?_
    obtain ⟨fs, hr, hrun, hended, hW, hsame⟩ := X5.leave (v := some (.int (1 : Int32))) (fun h => by rw [Bd.returns] at h; cases h)
    refine ⟨_, _, pre2 _ ?_, hrun, hended, _, _, rfl, ?_, ⟨_, rfl⟩, hW, hsame.mono (by decide) (by decide)⟩
    · show Steps p.tables e below (s₁.setTop (mkF m 4 #[.val (.ref a1), .val (.ref a2), .val (.ref a3), .val (.int (oi u)), .val (.int (oi i))] [(.int (oi M)), (.int (oi i))])) _
      refine XS.icmpYes X0.here hx rfl (pc0 := 4) (pc' := 9) rfl (dq hby D37 3 rfl) rfl (tlt hc4_3).1 (by decide) (by decide) ?_
      refine XS.aloadN X0.here hx rfl (dq hby D37 6 rfl) rfl rfl ?_
      refine XS.iload X0.here hx rfl (dq hby D37 7 rfl) rfl ?_
      refine X0.iaload hx (j := (oi i)) (v := (.int (ocv vs K S F u i))) (by rw [e0]; exact Ar4.1) (State.isArrayOf_alike hZ.alike Ar4.2.1) Ar4.2.2 hin4 hat4 (g := (mkF m 12 #[.val (.ref a1), .val (.ref a2), .val (.ref a3), .val (.int (oi u)), .val (.int (oi i))] [(.int (oi i)), (.ref a3)])) rfl rfl (dq hby D37 8 rfl) _ ?_
      refine XS.aloadN X0.here hx rfl (dq hby D37 9 rfl) rfl rfl ?_
      refine XS.aloadN X0.here hx rfl (dq hby D37 10 rfl) rfl rfl ?_
      refine XS.iloadN X0.here hx rfl (dq hby D37 11 rfl) rfl ?_
      refine XS.iload X0.here hx rfl (dq hby D37 12 rfl) rfl ?_
      refine XS.iadd X0.here hx rfl (dq hby D37 13 rfl) rfl ?_
      show Steps p.tables e below (s₁.setTop (mkF m 19 #[.val (.ref a1), .val (.ref a2), .val (.ref a3), .val (.int (oi u)), .val (.int (oi i))] [(.int ((oi u) + (oi i))), (.ref a1), (.ref a2), (.int (ocv vs K S F u i))])) _
      rw [oi_add (u) (i)]
      refine st5.trans ?_
      refine X5.iaload hx (j := (oi (th K S (F (u + i))))) (v := (.int (vs (th K S (F (u + i)))))) (by rw [e5]; exact Ar6.1) (State.isArrayOf_alike hZ.alike Ar6.2.1) Ar6.2.2 hin6 hat6 (g := (mkF m 22 #[.val (.ref a1), .val (.ref a2), .val (.ref a3), .val (.int (oi u)), .val (.int (oi i))] [(.int (oi (th K S (F (u + i))))), (.ref a2), (.int (ocv vs K S F u i))])) rfl rfl (dq hby D37 15 rfl) _ ?_
      refine XS.icmpNo X5.here hx rfl (dq hby D37 16 rfl) rfl (teq (rfl : ((ocv vs K S F u i) = (vs (th K S (F (u + i))))))).2 ?_
      refine XS.iconst X5.here hx rfl (dq hby D37 17 rfl) ?_
      refine XS.goto X5.here hx rfl (pc0 := 27) (pc' := 31) rfl (dq hby D37 18 rfl) (by decide) (by decide) ?_
      exact retN X5 hx (t := .boolean) Bd.returns (by simp) (dq hby D37 19 rfl) hr
    · show Q_rag Z a1 a2 a3 az so u i K N M S F vs h0 n0 _ T5.heap _
      rw [e5]
      exact ⟨rfl, N5, rfl⟩
  · refine hG ?_
    obtain ⟨fs, hr, hrun, hended, hW, hsame⟩ := X0.leave (v := some (.int (1 : Int32))) (fun h => by rw [Bd.returns] at h; cases h)
    refine ⟨_, _, pre2 _ ?_, hrun, hended, _, _, rfl, ?_, ⟨_, rfl⟩, hW, hsame.mono (by decide) (by decide)⟩
    · show Steps p.tables e below (s₁.setTop (mkF m 4 #[.val (.ref a1), .val (.ref a2), .val (.ref a3), .val (.int (oi u)), .val (.int (oi i))] [(.int (oi M)), (.int (oi i))])) _
      refine XS.icmpNo X0.here hx rfl (dq hby D37 3 rfl) rfl (flt hc4_3).1 ?_
      refine XS.iconst X0.here hx rfl (dq hby D37 4 rfl) ?_
      exact retN X0 hx (t := .boolean) Bd.returns (by simp) (dq hby D37 5 rfl) hr
    · show Q_rag Z a1 a2 a3 az so u i K N M S F vs h0 n0 _ s₁.heap _
      rw [e0]
      exact ⟨rfl, N0, rfl⟩
theorem D36 : ∀ x ∈ ([(0, .aload_n 0, 1), (1, .getfield 28, 3), (4, .arraylength, 1), (5, .newarray .int, 2), (7, .astore 4, 2), (9, .iconst 0, 1), (10, .istore 5, 2), (12, .iload 5, 2), (14, .aload_n 1, 1), (15, .arraylength, 1), (16, .if_icmp .ge 34, 3), (19, .aload 4, 2), (21, .aload_n 0, 1), (22, .getfield 13, 3), (25, .iload 5, 2), (27, .iaload, 1), (28, .aload_n 0, 1), (29, .getfield 13, 3), (32, .iload 5, 2), (34, .iconst 1, 1), (35, .iadd, 1), (36, .iaload, 1), (37, .aload_n 1, 1), (38, .iload 5, 2), (40, .iaload, 1), (41, .invokestatic 59, 3), (44, .iinc 5 1, 3), (47, .goto (-35), 3), (50, .iload_n 3, 1), (51, .iload_n 2, 1), (52, .isub, 1), (53, .newarray .int, 2), (55, .astore 5, 2), (57, .iload_n 2, 1), (58, .istore 6, 2), (60, .iload 6, 2), (62, .iload_n 3, 1), (63, .if_icmp .ge 26, 3), (66, .aload 5, 2), (68, .iload 6, 2), (70, .iload_n 2, 1), (71, .isub, 1), (72, .aload 4, 2), (74, .aload_n 0, 1), (75, .getfield 40, 3), (78, .iload 6, 2), (80, .iaload, 1), (81, .iaload, 1), (82, .iastore, 1), (83, .iinc 6 1, 3), (86, .goto (-26), 3), (89, .aload 5, 2), (91, .areturn, 1)] : List (Nat × Instr × Nat)), decode prog_11_method_7_code x.1 = .ok x.2 := by decide +kernel
theorem pn_rva : plainName "com/example/even_roster/evenroster/scim/SortedSuffixes" = true := by first | (simp [plainName, overriddenIn]; done) | decide +kernel
theorem ef_rva (m : MethodId) (x0 : Addr) (x1 : Addr) (x2 : Int32) (x3 : Int32) : entryFrame m #[(.ref x0), (.ref x1), (.int x2), (.int x3)] 7 = mkF m 0 #[.val (.ref x0), .val (.ref x1), .val (.int x2), .val (.int x3), .unset, .unset, .unset] [] := by first | (simp [entryFrame, mkF, argsToLocals, Value.category]; done) | rfl
def Q_rva (Z : State) (a1 : Addr) (a2 : Addr) (ac az so : Addr) (u r N K : Nat) (S F : Nat → Nat) (f vs : Nat → Int32) (h0 : Heap) (n0 : Nat) (v : Option Value) (h : Heap) (L : List Loc) : Prop := ∃ y : Addr, v = some (.ref y) ∧ Fr n0 L ∧ Keep h0 h [] ∧ h0.size ≤ y ∧ ArF Z h y .int (r - u) (fun j => .int (ocv vs K S F u j))
set_option maxRecDepth 65536 in
set_option maxHeartbeats 40000000 in
theorem rva (l : Launch) (Z : State) (a0 : Array Value) (hw : ∀ d ∈ tables_1, d.before a0 Z = true) (ws : List Jvm.Cond) (a1 : Addr) (a2 : Addr) (ac az so : Addr) (u r N K : Nat) (S F : Nat → Nat) (f vs : Nat → Int32) (h0 : Heap) (n0 : Nat) (Z0 : n0 ≤ h0.size) (Fp0 : Fld Z h0 a1 "com/example/even_roster/evenroster/scim/SortedSuffixes" "chars" "[C" (.ref ac)) (Fp1 : Fld Z h0 a1 "com/example/even_roster/evenroster/scim/SortedSuffixes" "starts" "[I" (.ref az)) (Fp2 : Fld Z h0 a1 "com/example/even_roster/evenroster/scim/SortedSuffixes" "sorted" "[I" (.ref so)) (Fp3 : ArF Z h0 ac .char N (fun j => .int (f j))) (Fp4 : ArF Z h0 az .int (K + 1) (fun j => .int (oi (S j)))) (Fp5 : ArF Z h0 so .int N (fun j => .int (oi (F j)))) (Fp6 : ArF Z h0 a2 .int K (fun j => .int (vs j))) (hK3 : K = 1 ∨ K = 2 ∨ K = 3) (hS0 : S 0 = 0) (hSN : S K = N) (hS : ∀ t, t < K → S t ≤ S (t + 1) ∧ S (t + 1) ≤ N ∧ S (t + 1) - S t ≤ 2) (hF : ∀ j, j < N → F j < N) (hur : u ≤ r) (hrN : r ≤ N) (hN6 : N ≤ 6) :
    MetFree l (⟨"com/example/even_roster/evenroster/scim/SortedSuffixes", "valuesAt", "([III)[I"⟩ : MethodName) (head1 (Jvm.Cond.code (⟨"com/example/even_roster/evenroster/scim/SortedSuffixes", "valuesAt", "([III)[I"⟩ : MethodName) prog_11_method_7_code 7 (some (.array .int)) :: ws) ({ frames := 2, cells := 2, slots := 12, locals := 30 } : Room)) (fun a U => a = #[(.ref a1), (.ref a2), (.int (oi u)), (.int (oi r))] ∧ Z.Warmed39 U.vm ∧ U.heap = h0) (fun _ _ _ _ _ => True) (fun _ U o U' => ∃ v L, o = .returned v ∧ Q_rva Z a1 a2 ac az so u r N K S F f vs h0 n0 v U'.heap L ∧ FrameEnd U o U' L ({ frames := 2, cells := 2, slots := 12, locals := 30 } : Room).cells ({ frames := 2, cells := 2, slots := 12, locals := 30 } : Room).slots) := by
  refine MetFree.of_bodySF (plainFor_of_name pn_rva) hisR ?_
  intro p e s m args below meth c s₁ Bd hml0 hP hK
  obtain ⟨rfl, hZ, hh⟩ := hP
  have hx := Bd.exec
  have hby := Bd.bytes
  have hml : c.maxLocals = 7 := hml0
  have hown : s.vm.findClass "com/example/even_roster/evenroster/scim/SortedSuffixes" = some m.cls := findClass_of_methodNamed Bd.named
  have hnm := (name_of_methodNamed Bd.named Bd.method).1
  have X0 : Stand p l e ({ frames := 2, cells := 2, slots := 12, locals := 30 } : Room) s m #[(.ref a1), (.ref a2), (.int (oi u)), (.int (oi r))] below meth c s₁ [] 0 0 := Stand.of_body Bd
  have e0 : s₁.heap = h0 := by rw [← hh, Bd.state]; rfl
  have N0 := Fr.nil n0
  have pre0 : ∀ t, Steps p.tables e below (s₁.setTop (mkF m 0 #[.val (.ref a1), .val (.ref a2), .val (.int (oi u)), .val (.int (oi r)), .unset, .unset, .unset] [])) t → Steps p.tables e below (s₁.setTop (entryFrame m #[(.ref a1), (.ref a2), (.int (oi u)), (.int (oi r))] 7)) t := fun t k => castTop (ef_rva m a1 a2 (oi u) (oi r)) k
  have K0 := Keep.refl h0 []
  refine own_cps fun G hG => ?_
  obtain ⟨T1, X1, e1, st1⟩ := getF X0 hx hZ hown (host := "") (Or.inl (wq hw 140 rfl)) Via.refl e0 Fp0 (g := (mkF m 1 #[.val (.ref a1), .val (.ref a2), .val (.int (oi u)), .val (.int (oi r)), .unset, .unset, .unset] [(.ref a1)])) rfl rfl (dq hby D36 1 rfl)
  obtain ⟨cl2, Ar2, S2, H2⟩ := id Fp3
  replace S2 : Sq cl2.slots.size _ := S2
  obtain ⟨T3, h3, k3, X3, e3, E3, A3, st3⟩ := newP X1 hx hZ (wq hw 89 rfl) e1 (g := (mkF m 5 #[.val (.ref a1), .val (.ref a2), .val (.int (oi u)), .val (.int (oi r)), .unset, .unset, .unset] [(.int (oi N))])) rfl (dq hby D36 3 rfl) rfl (oi_nn (by omega)) (cap := 6) (by rw [oi_n (k := N) (by omega)]; omega) (by decide) (by decide) (by decide)
  obtain ⟨b3, g3⟩ : ∃ z, z = h0.size := ⟨_, rfl⟩
  rw [← g3] at A3 st3
  have ne_a1_b3 : Dif a1 b3 := Nat.ne_of_lt (Nat.lt_of_lt_of_le Fp0.lt (Nat.le_of_eq g3.symm))
  have ne_ac_b3 : Dif ac b3 := Nat.ne_of_lt (Nat.lt_of_lt_of_le Fp3.lt (Nat.le_of_eq g3.symm))
  have ne_az_b3 : Dif az b3 := Nat.ne_of_lt (Nat.lt_of_lt_of_le Fp4.lt (Nat.le_of_eq g3.symm))
  have ne_so_b3 : Dif so b3 := Nat.ne_of_lt (Nat.lt_of_lt_of_le Fp5.lt (Nat.le_of_eq g3.symm))
  have ne_a2_b3 : Dif a2 b3 := Nat.ne_of_lt (Nat.lt_of_lt_of_le Fp6.lt (Nat.le_of_eq g3.symm))
  have g_b3 : Lq n0 b3 := Nat.le_trans Z0 (Nat.le_of_eq g3.symm)
  have sz_b3 : Lq h0.size b3 := Nat.le_trans K0.1 (Nat.le_of_eq g3.symm)
  clear g3
  have Fp0_v3 := Fp0.ext E3
  have Fp1_v3 := Fp1.ext E3
  have Fp2_v3 := Fp2.ext E3
  have Fp3_v3 := Fp3.ext E3
  have Fp4_v3 := Fp4.ext E3
  have Fp5_v3 := Fp5.ext E3
  have Fp6_v3 := Fp6.ext E3
  have Z3 : Lq n0 h3.size := Nat.le_trans Z0 E3.1
  have K3 := K0.ext E3
  have V3_v3 : ArF Z h3 b3 .int (oi N).toNatClampNeg (fun _ => (.int 0)) := ArF.mk0 A3 rfl rfl
  have VC4_v4 : ArF Z h3 b3 .int N (fun j => .int ((fun _ => 0) j)) := (by have q := V3_v3; rw [oi_n (k := N) (by omega)] at q; exact q)
  have pre5 : ∀ t, Steps p.tables e below (T3.setTop (mkF m 12 #[.val (.ref a1), .val (.ref a2), .val (.int (oi u)), .val (.int (oi r)), .val (.ref b3), .val (.int (0 : Int32)), .unset] [])) t → Steps p.tables e below (s₁.setTop (entryFrame m #[(.ref a1), (.ref a2), (.int (oi u)), (.int (oi r))] 7)) t := by
    intro t k
    refine pre0 t ?_
    refine XS.aloadN X0.here hx rfl (dq hby D36 0 rfl) rfl rfl ?_
    refine st1 _ ?_
    refine X1.arraylength hx (by rw [e1]; exact Ar2.1) (State.isArrayOf_alike hZ.alike Ar2.2.1) (g := (mkF m 4 #[.val (.ref a1), .val (.ref a2), .val (.int (oi u)), .val (.int (oi r)), .unset, .unset, .unset] [(.ref ac)])) rfl rfl (dq hby D36 2 rfl) _ ?_
    rw [show cl2.slots.size.toInt32 = (oi N) from (congrArg Nat.toInt32 S2).trans rfl]
    refine st3 _ ?_
    refine XS.astore X3.here hx rfl (dq hby D36 4 rfl) rfl rfl (l' := #[.val (.ref a1), .val (.ref a2), .val (.int (oi u)), .val (.int (oi r)), .val (.ref b3), .unset, .unset]) rfl ?_
    refine XS.iconst X3.here hx rfl (dq hby D36 5 rfl) ?_
    refine XS.istore X3.here hx rfl (dq hby D36 6 rfl) rfl (l' := #[.val (.ref a1), .val (.ref a2), .val (.int (oi u)), .val (.int (oi r)), .val (.ref b3), .val (.int (0 : Int32)), .unset]) rfl ?_
    exact k
  have loop6 : ∀ (k6 : Nat) (TL6 : State) (Lc6 : List Loc) (hL6 : Heap) (tx : Nat) (O : Nat → Int32), Stand p l e ({ frames := 2, cells := 2, slots := 12, locals := 30 } : Room) s m #[(.ref a1), (.ref a2), (.int (oi u)), (.int (oi r))] below meth c TL6 Lc6 1 6 → TL6.heap = hL6 → Fr n0 Lc6 → Lq n0 hL6.size → Keep h0 hL6 [] → Fld Z hL6 a1 "com/example/even_roster/evenroster/scim/SortedSuffixes" "chars" "[C" (.ref ac) → Fld Z hL6 a1 "com/example/even_roster/evenroster/scim/SortedSuffixes" "starts" "[I" (.ref az) → Fld Z hL6 a1 "com/example/even_roster/evenroster/scim/SortedSuffixes" "sorted" "[I" (.ref so) → ArF Z hL6 ac .char N (fun j => .int (f j)) → ArF Z hL6 az .int (K + 1) (fun j => .int (oi (S j))) → ArF Z hL6 so .int N (fun j => .int (oi (F j))) → ArF Z hL6 a2 .int K (fun j => .int (vs j)) → ArF Z hL6 b3 .int N (fun j => .int (O j)) → tx + k6 = K → (∀ q, q < S tx → O q = vs (th K S q)) → (∀ t, Steps p.tables e below (TL6.setTop (mkF m 12 #[.val (.ref a1), .val (.ref a2), .val (.int (oi u)), .val (.int (oi r)), .val (.ref b3), .val (.int (oi tx)), .unset] [])) t → Steps p.tables e below (s₁.setTop (entryFrame m #[(.ref a1), (.ref a2), (.int (oi u)), (.int (oi r))] 7)) t) → G := by
    intro k6
    induction k6 with
    | zero =>
      intro TL6 Lc6 hL6 tx O XL6 eL6 NL6 ZL6 KL6 lf6_0_v6 lf6_1_v6 lf6_2_v6 lf6_3_v6 lf6_4_v6 lf6_5_v6 lf6_6_v6 lf6_7_v6 hk hO prL6
      obtain ⟨cl7, Ar7, S7, H7⟩ := id lf6_6_v6
      replace S7 : Sq cl7.slots.size _ := S7
      have htK : tx = K := by omega
      rw [htK, hSN] at hO
      obtain ⟨T8, h8, k8, X8, e8, E8, A8, st8⟩ := newP XL6 hx hZ (wq hw 89 rfl) eL6 (g := (mkF m 53 #[.val (.ref a1), .val (.ref a2), .val (.int (oi u)), .val (.int (oi r)), .val (.ref b3), .val (.int (oi tx)), .unset] [(.int (oi (r - u)))])) rfl (dq hby D36 31 rfl) rfl (oi_nn (by omega)) (cap := 6) (by rw [oi_n (k := (r - u)) (by omega)]; omega) (by decide) (by decide) (by decide)
      obtain ⟨b8, g8⟩ : ∃ z, z = hL6.size := ⟨_, rfl⟩
      rw [← g8] at A8 st8
      have ne_a1_b8 : Dif a1 b8 := Nat.ne_of_lt (Nat.lt_of_lt_of_le lf6_0_v6.lt (Nat.le_of_eq g8.symm))
      have ne_ac_b8 : Dif ac b8 := Nat.ne_of_lt (Nat.lt_of_lt_of_le lf6_3_v6.lt (Nat.le_of_eq g8.symm))
      have ne_az_b8 : Dif az b8 := Nat.ne_of_lt (Nat.lt_of_lt_of_le lf6_4_v6.lt (Nat.le_of_eq g8.symm))
      have ne_so_b8 : Dif so b8 := Nat.ne_of_lt (Nat.lt_of_lt_of_le lf6_5_v6.lt (Nat.le_of_eq g8.symm))
      have ne_a2_b8 : Dif a2 b8 := Nat.ne_of_lt (Nat.lt_of_lt_of_le lf6_6_v6.lt (Nat.le_of_eq g8.symm))
      have ne_b3_b8 : Dif b3 b8 := Nat.ne_of_lt (Nat.lt_of_lt_of_le lf6_7_v6.lt (Nat.le_of_eq g8.symm))
      have g_b8 : Lq n0 b8 := Nat.le_trans ZL6 (Nat.le_of_eq g8.symm)
      have sz_b8 : Lq h0.size b8 := Nat.le_trans KL6.1 (Nat.le_of_eq g8.symm)
      clear g8
      have lf6_0_v8 := lf6_0_v6.ext E8
      have lf6_1_v8 := lf6_1_v6.ext E8
      have lf6_2_v8 := lf6_2_v6.ext E8
      have lf6_3_v8 := lf6_3_v6.ext E8
      have lf6_4_v8 := lf6_4_v6.ext E8
      have lf6_5_v8 := lf6_5_v6.ext E8
      have lf6_6_v8 := lf6_6_v6.ext E8
      have lf6_7_v8 := lf6_7_v6.ext E8
      have Z8 : Lq n0 h8.size := Nat.le_trans ZL6 E8.1
      have K8 := KL6.ext E8
      have V8_v8 : ArF Z h8 b8 .int (oi (r - u)).toNatClampNeg (fun _ => (.int 0)) := ArF.mk0 A8 rfl rfl
      have VC9_v9 : ArF Z h8 b8 .int (r - u) (fun j => .int ((fun _ => 0) j)) := (by have q := V8_v8; rw [oi_n (k := (r - u)) (by omega)] at q; exact q)
      have pre10 : ∀ t, Steps p.tables e below (T8.setTop (mkF m 60 #[.val (.ref a1), .val (.ref a2), .val (.int (oi u)), .val (.int (oi r)), .val (.ref b3), .val (.ref b8), .val (.int (oi u))] [])) t → Steps p.tables e below (s₁.setTop (entryFrame m #[(.ref a1), (.ref a2), (.int (oi u)), (.int (oi r))] 7)) t := by
        intro t k
        refine prL6 t ?_
        refine XS.iload XL6.here hx rfl (dq hby D36 7 rfl) rfl ?_
        refine XS.aloadN XL6.here hx rfl (dq hby D36 8 rfl) rfl rfl ?_
        refine XL6.arraylength hx (by rw [eL6]; exact Ar7.1) (State.isArrayOf_alike hZ.alike Ar7.2.1) (g := (mkF m 15 #[.val (.ref a1), .val (.ref a2), .val (.int (oi u)), .val (.int (oi r)), .val (.ref b3), .val (.int (oi tx)), .unset] [(.ref a2), (.int (oi tx))])) rfl rfl (dq hby D36 9 rfl) _ ?_
        rw [show cl7.slots.size.toInt32 = (oi K) from (congrArg Nat.toInt32 S7).trans rfl]
        refine XS.icmpYes XL6.here hx rfl (pc0 := 16) (pc' := 50) rfl (dq hby D36 10 rfl) rfl (flt ((by rw [oi_lt (by omega) (by omega)]; omega) : ¬ ((oi tx) < (oi K)))).2.1 (by decide) (by decide) ?_
        refine XS.iloadN XL6.here hx rfl (dq hby D36 28 rfl) rfl ?_
        show Steps p.tables e below (TL6.setTop (mkF m 51 #[.val (.ref a1), .val (.ref a2), .val (.int (oi u)), .val (.int (oi r)), .val (.ref b3), .val (.int (oi tx)), .unset] [(.int (oi r))])) _
        refine XS.iloadN XL6.here hx rfl (dq hby D36 29 rfl) rfl ?_
        refine XS.isub XL6.here hx rfl (dq hby D36 30 rfl) rfl ?_
        show Steps p.tables e below (TL6.setTop (mkF m 53 #[.val (.ref a1), .val (.ref a2), .val (.int (oi u)), .val (.int (oi r)), .val (.ref b3), .val (.int (oi tx)), .unset] [(.int ((oi r) - (oi u)))])) _
        rw [oi_sub (a := r) (b := u) (by omega)]
        refine st8 _ ?_
        refine XS.astore X8.here hx rfl (dq hby D36 32 rfl) rfl rfl (l' := #[.val (.ref a1), .val (.ref a2), .val (.int (oi u)), .val (.int (oi r)), .val (.ref b3), .val (.ref b8), .unset]) rfl ?_
        refine XS.iloadN X8.here hx rfl (dq hby D36 33 rfl) rfl ?_
        refine XS.istore X8.here hx rfl (dq hby D36 34 rfl) rfl (l' := #[.val (.ref a1), .val (.ref a2), .val (.int (oi u)), .val (.int (oi r)), .val (.ref b3), .val (.ref b8), .val (.int (oi u))]) rfl ?_
        exact k
      have loop11 : ∀ (k11 : Nat) (TL11 : State) (Lc11 : List Loc) (hL11 : Heap) (i7 : Nat) (c5 : Nat → Int32), Stand p l e ({ frames := 2, cells := 2, slots := 12, locals := 30 } : Room) s m #[(.ref a1), (.ref a2), (.int (oi u)), (.int (oi r))] below meth c TL11 Lc11 2 12 → TL11.heap = hL11 → Fr n0 Lc11 → Lq n0 hL11.size → Keep h0 hL11 [] → Fld Z hL11 a1 "com/example/even_roster/evenroster/scim/SortedSuffixes" "chars" "[C" (.ref ac) → Fld Z hL11 a1 "com/example/even_roster/evenroster/scim/SortedSuffixes" "starts" "[I" (.ref az) → Fld Z hL11 a1 "com/example/even_roster/evenroster/scim/SortedSuffixes" "sorted" "[I" (.ref so) → ArF Z hL11 ac .char N (fun j => .int (f j)) → ArF Z hL11 az .int (K + 1) (fun j => .int (oi (S j))) → ArF Z hL11 so .int N (fun j => .int (oi (F j))) → ArF Z hL11 a2 .int K (fun j => .int (vs j)) → ArF Z hL11 b3 .int N (fun j => .int (O j)) → ArF Z hL11 b8 .int (r - u) (fun j => .int (c5 j)) → u ≤ i7 → i7 + k11 = r → (∀ j, u + j < i7 → c5 j = ocv vs K S F u j) → (∀ t, Steps p.tables e below (TL11.setTop (mkF m 60 #[.val (.ref a1), .val (.ref a2), .val (.int (oi u)), .val (.int (oi r)), .val (.ref b3), .val (.ref b8), .val (.int (oi i7))] [])) t → Steps p.tables e below (s₁.setTop (entryFrame m #[(.ref a1), (.ref a2), (.int (oi u)), (.int (oi r))] 7)) t) → G := by
        intro k11
        induction k11 with
        | zero =>
          intro TL11 Lc11 hL11 i7 c5 XL11 eL11 NL11 ZL11 KL11 lf11_0_v11 lf11_1_v11 lf11_2_v11 lf11_3_v11 lf11_4_v11 lf11_5_v11 lf11_6_v11 lf11_7_v11 lf11_8_v11 hui hk7 hc5 prL11
          refine hG ?_
          obtain ⟨fs, hr, hrun, hended, hW, hsame⟩ := XL11.leave (v := some (.ref b8)) (fun h => by rw [Bd.returns] at h; cases h)
          refine ⟨_, _, prL11 _ ?_, hrun, hended, _, _, rfl, ?_, ⟨_, rfl⟩, hW, hsame.mono (by decide) (by decide)⟩
          · show Steps p.tables e below (TL11.setTop (mkF m 60 #[.val (.ref a1), .val (.ref a2), .val (.int (oi u)), .val (.int (oi r)), .val (.ref b3), .val (.ref b8), .val (.int (oi i7))] [])) _
            refine XS.iload XL11.here hx rfl (dq hby D36 35 rfl) rfl ?_
            refine XS.iloadN XL11.here hx rfl (dq hby D36 36 rfl) rfl ?_
            refine XS.icmpYes XL11.here hx rfl (pc0 := 63) (pc' := 89) rfl (dq hby D36 37 rfl) rfl (flt ((by rw [oi_lt (by omega) (by omega)]; omega) : ¬ ((oi i7) < (oi r)))).2.1 (by decide) (by decide) ?_
            refine XS.aload XL11.here hx rfl (dq hby D36 51 rfl) rfl rfl ?_
            jvm_step XL11.here [XL11.here.top, hx, (dq hby D36 52 rfl), XL11.method', Bd.returns, Value.isRef, FieldType.isReference]
            first | (intro acts; rw [hr _ acts rfl rfl rfl]) | rw [hr _ _ rfl rfl rfl]
            exact Steps.refl _
          · show Q_rva Z a1 a2 ac az so u r N K S F f vs h0 n0 _ TL11.heap _
            rw [eL11]
            exact ⟨_, rfl, NL11, KL11, sz_b8, lf11_8_v11.congr (fun j hj => congrArg Value.int (hc5 j (by omega)))⟩
        | succ k11 ih11 =>
          intro TL11 Lc11 hL11 i7 c5 XL11 eL11 NL11 ZL11 KL11 lf11_0_v11 lf11_1_v11 lf11_2_v11 lf11_3_v11 lf11_4_v11 lf11_5_v11 lf11_6_v11 lf11_7_v11 lf11_8_v11 hui hk7 hc5 prL11
          have hFi := hF i7 (by omega)
          obtain ⟨T12, X12, e12, st12⟩ := getF XL11 hx hZ hown (host := "") (Or.inl (wq hw 187 rfl)) Via.refl eL11 lf11_2_v11 (g := (mkF m 75 #[.val (.ref a1), .val (.ref a2), .val (.int (oi u)), .val (.int (oi r)), .val (.ref b3), .val (.ref b8), .val (.int (oi i7))] [(.ref a1), (.ref b3), (.int (oi (i7 - u))), (.ref b8)])) rfl rfl (dq hby D36 44 rfl)
          obtain ⟨cl13, Ar13, S13, H13⟩ := id lf11_5_v11
          replace S13 : Sq cl13.slots.size _ := S13
          have hin13 : Hq (oi i7) cl13.slots.size := oi_at S13 (by omega) (by omega)
          have hat13 : cl13.slots[((oi i7)).toNatClampNeg]? = some (.int (oi (F i7))) := ArF.at S13 H13 hin13 (congrArg (fun zz => Value.int (oi (F zz))) (oi_n (by omega)))
          obtain ⟨cl14, Ar14, S14, H14⟩ := id lf11_7_v11
          replace S14 : Sq cl14.slots.size _ := S14
          have hin14 : Hq (oi (F i7)) cl14.slots.size := oi_at S14 hFi (by omega)
          have hat14 : cl14.slots[((oi (F i7))).toNatClampNeg]? = some (.int (O (F i7))) := ArF.at S14 H14 hin14 (congrArg (fun zz => Value.int (O zz)) (oi_n (by omega)))
          obtain ⟨cl15, Ar15, S15, H15⟩ := id lf11_8_v11
          replace S15 : Sq cl15.slots.size _ := S15
          have hin15 : Hq (oi (i7 - u)) cl15.slots.size := oi_at S15 (by omega) (by omega)
          obtain ⟨T15, h15, X15, e15, W15, st15⟩ := stI X12 hx hZ e12 Ar15 (j := (oi (i7 - u))) hin15 (g := (mkF m 82 #[.val (.ref a1), .val (.ref a2), .val (.int (oi u)), .val (.int (oi r)), .val (.ref b3), .val (.ref b8), .val (.int (oi i7))] [(.int (O (F i7))), (.int (oi (i7 - u))), (.ref b8)])) rfl rfl (dq hby D36 48 rfl)
          have lf11_0_v15 := lf11_0_v11.other W15 (Or.inl ne_a1_b8)
          have lf11_1_v15 := lf11_1_v11.other W15 (Or.inl ne_a1_b8)
          have lf11_2_v15 := lf11_2_v11.other W15 (Or.inl ne_a1_b8)
          have lf11_3_v15 := lf11_3_v11.other W15 ne_ac_b8
          have lf11_4_v15 := lf11_4_v11.other W15 ne_az_b8
          have lf11_5_v15 := lf11_5_v11.other W15 ne_so_b8
          have lf11_6_v15 := lf11_6_v11.other W15 ne_a2_b8
          have lf11_7_v15 := lf11_7_v11.other W15 ne_b3_b8
          have Z15 : Lq n0 h15.size := Nat.le_trans ZL11 (Nat.le_of_eq W15.size.symm)
          have K15 := KL11.wr W15 (Or.inr sz_b8)
          have V15_v15 := ArF.set Ar15 S15 H15 W15 hin15
          have N15 := Fr.snoc X15 NL11 g_b8
          have pre16 : ∀ t, Steps p.tables e below (T15.setTop (mkF m 60 #[.val (.ref a1), .val (.ref a2), .val (.int (oi u)), .val (.int (oi r)), .val (.ref b3), .val (.ref b8), .val (.int (oi (i7 + 1)))] [])) t → Steps p.tables e below (s₁.setTop (entryFrame m #[(.ref a1), (.ref a2), (.int (oi u)), (.int (oi r))] 7)) t := by
            intro t k
            refine prL11 t ?_
            refine XS.iload XL11.here hx rfl (dq hby D36 35 rfl) rfl ?_
            refine XS.iloadN XL11.here hx rfl (dq hby D36 36 rfl) rfl ?_
            refine XS.icmpNo XL11.here hx rfl (dq hby D36 37 rfl) rfl (tlt ((by rw [oi_lt (by omega) (by omega)]; omega) : ((oi i7) < (oi r)))).2.1 ?_
            refine XS.aload XL11.here hx rfl (dq hby D36 38 rfl) rfl rfl ?_
            refine XS.iload XL11.here hx rfl (dq hby D36 39 rfl) rfl ?_
            refine XS.iloadN XL11.here hx rfl (dq hby D36 40 rfl) rfl ?_
            refine XS.isub XL11.here hx rfl (dq hby D36 41 rfl) rfl ?_
            show Steps p.tables e below (TL11.setTop (mkF m 72 #[.val (.ref a1), .val (.ref a2), .val (.int (oi u)), .val (.int (oi r)), .val (.ref b3), .val (.ref b8), .val (.int (oi i7))] [(.int ((oi i7) - (oi u))), (.ref b8)])) _
            rw [oi_sub (a := i7) (b := u) (by omega)]
            refine XS.aload XL11.here hx rfl (dq hby D36 42 rfl) rfl rfl ?_
            refine XS.aloadN XL11.here hx rfl (dq hby D36 43 rfl) rfl rfl ?_
            refine st12 _ ?_
            refine XS.iload X12.here hx rfl (dq hby D36 45 rfl) rfl ?_
            refine X12.iaload hx (j := (oi i7)) (v := (.int (oi (F i7)))) (by rw [e12]; exact Ar13.1) (State.isArrayOf_alike hZ.alike Ar13.2.1) Ar13.2.2 hin13 hat13 (g := (mkF m 80 #[.val (.ref a1), .val (.ref a2), .val (.int (oi u)), .val (.int (oi r)), .val (.ref b3), .val (.ref b8), .val (.int (oi i7))] [(.int (oi i7)), (.ref so), (.ref b3), (.int (oi (i7 - u))), (.ref b8)])) rfl rfl (dq hby D36 46 rfl) _ ?_
            refine X12.iaload hx (j := (oi (F i7))) (v := (.int (O (F i7)))) (by rw [e12]; exact Ar14.1) (State.isArrayOf_alike hZ.alike Ar14.2.1) Ar14.2.2 hin14 hat14 (g := (mkF m 81 #[.val (.ref a1), .val (.ref a2), .val (.int (oi u)), .val (.int (oi r)), .val (.ref b3), .val (.ref b8), .val (.int (oi i7))] [(.int (oi (F i7))), (.ref b3), (.int (oi (i7 - u))), (.ref b8)])) rfl rfl (dq hby D36 47 rfl) _ ?_
            refine st15 _ ?_
            refine XS.iinc X15.here hx rfl (dq hby D36 49 rfl) rfl (l' := #[.val (.ref a1), .val (.ref a2), .val (.int (oi u)), .val (.int (oi r)), .val (.ref b3), .val (.ref b8), .val (.int ((oi i7) + (1 : Int32)))]) rfl ?_
            show Steps p.tables e below (T15.setTop (mkF m 86 #[.val (.ref a1), .val (.ref a2), .val (.int (oi u)), .val (.int (oi r)), .val (.ref b3), .val (.ref b8), .val (.int ((oi i7) + (1 : Int32)))] [])) _
            rw [oi_s (i7)]
            refine XS.goto X15.here hx rfl (pc0 := 86) (pc' := 60) rfl (dq hby D36 50 rfl) (by decide) (by decide) ?_
            exact k
          exact ih11 _ _ _ (i7 + 1) _ X15 e15 N15 Z15 K15 lf11_0_v15 lf11_1_v15 lf11_2_v15 lf11_3_v15 lf11_4_v15 lf11_5_v15 lf11_6_v15 lf11_7_v15 (V15_v15.congr (fun j hj => set_up (oi_n (k := i7 - u) (by omega)) j)) (by omega) (by omega) (ocv_s hO hFi hui hc5) pre16
      exact loop11 (r - u) _ _ _ u (fun _ => 0) X8 e8 NL6 Z8 K8 lf6_0_v8 lf6_1_v8 lf6_2_v8 lf6_3_v8 lf6_4_v8 lf6_5_v8 lf6_6_v8 lf6_7_v8 VC9_v9 (Nat.le_refl u) (by omega) (fun j hj => absurd hj (by omega)) pre10
    | succ k6 ih6 =>
      intro TL6 Lc6 hL6 tx O XL6 eL6 NL6 ZL6 KL6 lf6_0_v6 lf6_1_v6 lf6_2_v6 lf6_3_v6 lf6_4_v6 lf6_5_v6 lf6_6_v6 lf6_7_v6 hk hO prL6
      have hSt := hS tx (by omega)
      obtain ⟨cl17, Ar17, S17, H17⟩ := id lf6_6_v6
      replace S17 : Sq cl17.slots.size _ := S17
      obtain ⟨T18, X18, e18, st18⟩ := getF XL6 hx hZ hown (host := "") (Or.inl (wq hw 106 rfl)) Via.refl eL6 lf6_1_v6 (g := (mkF m 22 #[.val (.ref a1), .val (.ref a2), .val (.int (oi u)), .val (.int (oi r)), .val (.ref b3), .val (.int (oi tx)), .unset] [(.ref a1), (.ref b3)])) rfl rfl (dq hby D36 13 rfl)
      obtain ⟨cl19, Ar19, S19, H19⟩ := id lf6_4_v6
      replace S19 : Sq cl19.slots.size _ := S19
      have hin19 : Hq (oi tx) cl19.slots.size := oi_at S19 (by omega) (by omega)
      have hat19 : cl19.slots[((oi tx)).toNatClampNeg]? = some (.int (oi (S tx))) := ArF.at S19 H19 hin19 (congrArg (fun zz => Value.int (oi (S zz))) (oi_n (by omega)))
      obtain ⟨T20, X20, e20, st20⟩ := getF X18 hx hZ hown (host := "") (Or.inl (wq hw 106 rfl)) Via.refl e18 lf6_1_v6 (g := (mkF m 29 #[.val (.ref a1), .val (.ref a2), .val (.int (oi u)), .val (.int (oi r)), .val (.ref b3), .val (.int (oi tx)), .unset] [(.ref a1), (.int (oi (S tx))), (.ref b3)])) rfl rfl (dq hby D36 17 rfl)
      obtain ⟨cl21, Ar21, S21, H21⟩ := id lf6_4_v6
      replace S21 : Sq cl21.slots.size _ := S21
      have hin21 : Hq (oi (tx + 1)) cl21.slots.size := oi_at S21 (by omega) (by omega)
      have hat21 : cl21.slots[((oi (tx + 1))).toNatClampNeg]? = some (.int (oi (S (tx + 1)))) := ArF.at S21 H21 hin21 (congrArg (fun zz => Value.int (oi (S zz))) (oi_n (by omega)))
      obtain ⟨cl22, Ar22, S22, H22⟩ := id lf6_6_v6
      replace S22 : Sq cl22.slots.size _ := S22
      have hin22 : Hq (oi tx) cl22.slots.size := oi_at S22 (by omega) (by omega)
      have hat22 : cl22.slots[((oi tx)).toNatClampNeg]? = some (.int (vs tx)) := ArF.at S22 H22 hin22 (congrArg (fun zz => Value.int (vs zz)) (oi_n (by omega)))
      obtain ⟨_, _, ⟨T23, L23, k23, n23⟩, -, X23, ⟨Lc23, hQ23, l23, y23, z23⟩, st23⟩ := Jvm.LawKit.callS X20 hx (y := (⟨"java/util/Arrays", "fill", "([IIII)V"⟩ : MethodName)) hown (mvT hZ (wq hw 176 rfl)) (mvT hZ (wq hw 177 rfl)) (mvT hZ (wq hw 178 rfl)) (mvT hZ (wq hw 179 rfl)) (by decide) (backOf (W := 0) (rfill l Z a0 hw [] b3 (vs tx) N ((S tx)) ((S (tx + 1))) O hL6 n0 ZL6 lf6_7_v6 g_b3 (by omega) (by omega) (by omega)) hZ (wq hw 179 rfl) (wq hw 178 rfl) (by decide) (by decide)) (g := (mkF m 41 #[.val (.ref a1), .val (.ref a2), .val (.int (oi u)), .val (.int (oi r)), .val (.ref b3), .val (.int (oi tx)), .unset] [(.int (vs tx)), (.int (oi (S (tx + 1)))), (.int (oi (S tx))), (.ref b3)])) rfl (by rw [hml]; rfl) (argsL := [(.ref b3), (.int (oi (S tx))), (.int (oi (S (tx + 1)))), (.int (vs tx))]) (rest := []) (lenOf pd_1 rfl) rfl (by show 2 * 0 + _ ≤ _; exact Nat.le_of_eq rfl) (dq hby D36 25 rfl) (fun _ _ => ⟨rfl, e20, (by decide : 1 + 0 ≤ _), (by decide : 6 + 0 ≤ _)⟩)
      dsimp only [Pt.U, Pt.locs, Pt.cells, Pt.slots] at X23 l23 y23 z23 st23 hQ23
      subst l23 y23 z23
      obtain ⟨rfl, N23q, Kc23, nf23_0_v23⟩ := hQ23
      have N23 := Fr.app NL6 N23q
      have lf6_0_v23 := lf6_0_v6.keep Kc23 (ninS ne_a1_b3 nin0)
      have lf6_1_v23 := lf6_1_v6.keep Kc23 (ninS ne_a1_b3 nin0)
      have lf6_2_v23 := lf6_2_v6.keep Kc23 (ninS ne_a1_b3 nin0)
      have lf6_3_v23 := lf6_3_v6.keep Kc23 (ninS ne_ac_b3 nin0)
      have lf6_4_v23 := lf6_4_v6.keep Kc23 (ninS ne_az_b3 nin0)
      have lf6_5_v23 := lf6_5_v6.keep Kc23 (ninS ne_so_b3 nin0)
      have lf6_6_v23 := lf6_6_v6.keep Kc23 (ninS ne_a2_b3 nin0)
      have Z23 : Lq n0 T23.heap.size := Nat.le_trans ZL6 Kc23.1
      have KK23 := KL6.trans Kc23 (allS (Or.inr sz_b3) all0)
      have pre24 : ∀ t, Steps p.tables e below (T23.setTop (mkF m 12 #[.val (.ref a1), .val (.ref a2), .val (.int (oi u)), .val (.int (oi r)), .val (.ref b3), .val (.int (oi (tx + 1))), .unset] [])) t → Steps p.tables e below (s₁.setTop (entryFrame m #[(.ref a1), (.ref a2), (.int (oi u)), (.int (oi r))] 7)) t := by
        intro t k
        refine prL6 t ?_
        refine XS.iload XL6.here hx rfl (dq hby D36 7 rfl) rfl ?_
        refine XS.aloadN XL6.here hx rfl (dq hby D36 8 rfl) rfl rfl ?_
        refine XL6.arraylength hx (by rw [eL6]; exact Ar17.1) (State.isArrayOf_alike hZ.alike Ar17.2.1) (g := (mkF m 15 #[.val (.ref a1), .val (.ref a2), .val (.int (oi u)), .val (.int (oi r)), .val (.ref b3), .val (.int (oi tx)), .unset] [(.ref a2), (.int (oi tx))])) rfl rfl (dq hby D36 9 rfl) _ ?_
        rw [show cl17.slots.size.toInt32 = (oi K) from (congrArg Nat.toInt32 S17).trans rfl]
        refine XS.icmpNo XL6.here hx rfl (dq hby D36 10 rfl) rfl (tlt ((by rw [oi_lt (by omega) (by omega)]; omega) : ((oi tx) < (oi K)))).2.1 ?_
        refine XS.aload XL6.here hx rfl (dq hby D36 11 rfl) rfl rfl ?_
        refine XS.aloadN XL6.here hx rfl (dq hby D36 12 rfl) rfl rfl ?_
        refine st18 _ ?_
        refine XS.iload X18.here hx rfl (dq hby D36 14 rfl) rfl ?_
        refine X18.iaload hx (j := (oi tx)) (v := (.int (oi (S tx)))) (by rw [e18]; exact Ar19.1) (State.isArrayOf_alike hZ.alike Ar19.2.1) Ar19.2.2 hin19 hat19 (g := (mkF m 27 #[.val (.ref a1), .val (.ref a2), .val (.int (oi u)), .val (.int (oi r)), .val (.ref b3), .val (.int (oi tx)), .unset] [(.int (oi tx)), (.ref az), (.ref b3)])) rfl rfl (dq hby D36 15 rfl) _ ?_
        refine XS.aloadN X18.here hx rfl (dq hby D36 16 rfl) rfl rfl ?_
        refine st20 _ ?_
        refine XS.iload X20.here hx rfl (dq hby D36 18 rfl) rfl ?_
        refine XS.iconst X20.here hx rfl (dq hby D36 19 rfl) ?_
        refine XS.iadd X20.here hx rfl (dq hby D36 20 rfl) rfl ?_
        show Steps p.tables e below (T20.setTop (mkF m 36 #[.val (.ref a1), .val (.ref a2), .val (.int (oi u)), .val (.int (oi r)), .val (.ref b3), .val (.int (oi tx)), .unset] [(.int ((oi tx) + (1 : Int32))), (.ref az), (.int (oi (S tx))), (.ref b3)])) _
        rw [oi_s (tx)]
        refine X20.iaload hx (j := (oi (tx + 1))) (v := (.int (oi (S (tx + 1))))) (by rw [e20]; exact Ar21.1) (State.isArrayOf_alike hZ.alike Ar21.2.1) Ar21.2.2 hin21 hat21 (g := (mkF m 36 #[.val (.ref a1), .val (.ref a2), .val (.int (oi u)), .val (.int (oi r)), .val (.ref b3), .val (.int (oi tx)), .unset] [(.int (oi (tx + 1))), (.ref az), (.int (oi (S tx))), (.ref b3)])) rfl rfl (dq hby D36 21 rfl) _ ?_
        refine XS.aloadN X20.here hx rfl (dq hby D36 22 rfl) rfl rfl ?_
        refine XS.iload X20.here hx rfl (dq hby D36 23 rfl) rfl ?_
        refine X20.iaload hx (j := (oi tx)) (v := (.int (vs tx))) (by rw [e20]; exact Ar22.1) (State.isArrayOf_alike hZ.alike Ar22.2.1) Ar22.2.2 hin22 hat22 (g := (mkF m 40 #[.val (.ref a1), .val (.ref a2), .val (.int (oi u)), .val (.int (oi r)), .val (.ref b3), .val (.int (oi tx)), .unset] [(.int (oi tx)), (.ref a2), (.int (oi (S (tx + 1)))), (.int (oi (S tx))), (.ref b3)])) rfl rfl (dq hby D36 24 rfl) _ ?_
        refine st23 _ ?_
        refine XS.iinc X23.here hx rfl (dq hby D36 26 rfl) rfl (l' := #[.val (.ref a1), .val (.ref a2), .val (.int (oi u)), .val (.int (oi r)), .val (.ref b3), .val (.int ((oi tx) + (1 : Int32))), .unset]) rfl ?_
        show Steps p.tables e below (T23.setTop (mkF m 47 #[.val (.ref a1), .val (.ref a2), .val (.int (oi u)), .val (.int (oi r)), .val (.ref b3), .val (.int ((oi tx) + (1 : Int32))), .unset] [])) _
        rw [oi_s (tx)]
        refine XS.goto X23.here hx rfl (pc0 := 47) (pc' := 12) rfl (dq hby D36 27 rfl) (by decide) (by decide) ?_
        exact k
      exact ih6 _ _ _ (tx + 1) _ X23 rfl N23 Z23 KK23 lf6_0_v23 lf6_1_v23 lf6_2_v23 lf6_3_v23 lf6_4_v23 lf6_5_v23 lf6_6_v23 nf23_0_v23 (by omega) (th_fill hK3 hS (by omega) hO) pre24
  exact loop6 K _ _ _ 0 (fun _ => 0) X3 e3 N0 Z3 K3 Fp0_v3 Fp1_v3 Fp2_v3 Fp3_v3 Fp4_v3 Fp5_v3 Fp6_v3 VC4_v4 (by omega) (fun q hq => absurd (hS0 ▸ hq) (Nat.not_lt_zero q)) pre5
theorem D41 : ∀ x ∈ ([(0, .iload_n 0, 1), (1, .ifCond .ge 11, 3), (12, .iload_n 0, 1), (13, .ldc 20, 2), (15, .if_icmp .lt 40, 3), (55, .iload_n 0, 1), (56, .iconst 1, 1), (57, .ishl, 1), (58, .ireturn, 1)] : List (Nat × Instr × Nat)), decode jdk_52_method_3_code x.1 = .ok x.2 := by decide +kernel
theorem pn_rnbl : plainName "java/lang/StringUTF16" = true := by first | (simp [plainName, overriddenIn]; done) | decide +kernel
theorem ef_rnbl (m : MethodId) (x0 : Int32) : entryFrame m #[(.int x0)] 1 = mkF m 0 #[.val (.int x0)] [] := by first | (simp [entryFrame, mkF, argsToLocals, Value.category]; done) | rfl
def Q_rnbl (Z : State)  (N : Nat) (h0 : Heap) (n0 : Nat) (v : Option Value) (h : Heap) (L : List Loc) : Prop := v = some (.int (oi (2 * N))) ∧ Fr n0 L ∧ h = h0
set_option maxRecDepth 65536 in
set_option maxHeartbeats 40000000 in
theorem rnbl (l : Launch) (Z : State) (a0 : Array Value) (hw : ∀ d ∈ tables_1, d.before a0 Z = true) (ws : List Jvm.Cond)  (N : Nat) (h0 : Heap) (n0 : Nat) (Z0 : n0 ≤ h0.size)  (hN : N = 1 ∨ N = 2) :
    MetFree l (⟨"java/lang/StringUTF16", "newBytesLength", "(I)I"⟩ : MethodName) (head1 (Jvm.Cond.code (⟨"java/lang/StringUTF16", "newBytesLength", "(I)I"⟩ : MethodName) jdk_52_method_3_code 1 (some .int) :: ws) ({ frames := 0, cells := 0, slots := 0, locals := 0 } : Room)) (fun a U => a = #[(.int (oi N))] ∧ Z.Warmed39 U.vm ∧ U.heap = h0) (fun _ _ _ _ _ => True) (fun _ U o U' => ∃ v L, o = .returned v ∧ Q_rnbl Z  N h0 n0 v U'.heap L ∧ FrameEnd U o U' L ({ frames := 0, cells := 0, slots := 0, locals := 0 } : Room).cells ({ frames := 0, cells := 0, slots := 0, locals := 0 } : Room).slots) := by
  refine MetFree.of_bodySF (plainFor_of_name pn_rnbl) hisR ?_
  intro p e s m args below meth c s₁ Bd hml0 hP hK
  obtain ⟨rfl, hZ, hh⟩ := hP
  have hx := Bd.exec
  have hby := Bd.bytes
  have hml : c.maxLocals = 1 := hml0
  have hown : s.vm.findClass "java/lang/StringUTF16" = some m.cls := findClass_of_methodNamed Bd.named
  have hnm := (name_of_methodNamed Bd.named Bd.method).1
  have X0 : Stand p l e ({ frames := 0, cells := 0, slots := 0, locals := 0 } : Room) s m #[(.int (oi N))] below meth c s₁ [] 0 0 := Stand.of_body Bd
  have e0 : s₁.heap = h0 := by rw [← hh, Bd.state]; rfl
  have N0 := Fr.nil n0
  have pre0 : ∀ t, Steps p.tables e below (s₁.setTop (mkF m 0 #[.val (.int (oi N))] [])) t → Steps p.tables e below (s₁.setTop (entryFrame m #[(.int (oi N))] 1)) t := fun t k => castTop (ef_rnbl m (oi N)) k
  refine own_cps fun G hG => ?_
  refine hG ?_
  obtain ⟨fs, hr, hrun, hended, hW, hsame⟩ := X0.leave (v := some (.int (oi (2 * N)))) (fun h => by rw [Bd.returns] at h; cases h)
  refine ⟨_, _, pre0 _ ?_, hrun, hended, _, _, rfl, ?_, ⟨_, rfl⟩, hW, hsame.mono (by decide) (by decide)⟩
  · show Steps p.tables e below (s₁.setTop (mkF m 0 #[.val (.int (oi N))] [])) _
    refine XS.iloadN X0.here hx rfl (dq hby D41 0 rfl) rfl ?_
    refine XS.ifYes X0.here hx rfl (pc0 := 1) (pc' := 12) rfl (dq hby D41 1 rfl) rfl ((if0 _ _).trans (flt ((oi_nn (by omega)) : ¬ ((oi N) < (0 : Int32)))).2.1) (by decide) (by decide) ?_
    refine XS.iloadN X0.here hx rfl (dq hby D41 2 rfl) rfl ?_
    refine X0.ldcInt hx hown (mvT hZ (wq hw 209 rfl)) (g := (mkF m 13 #[.val (.int (oi N))] [(.int (oi N))])) rfl (dq hby D41 3 rfl) _ ?_
    refine XS.icmpYes X0.here hx rfl (pc0 := 15) (pc' := 55) rfl (dq hby D41 4 rfl) rfl (tlt ((by rcases hN with rfl | rfl <;> decide) : ((oi N) < (1073741823 : Int32)))).1 (by decide) (by decide) ?_
    refine XS.iloadN X0.here hx rfl (dq hby D41 5 rfl) rfl ?_
    refine XS.iconst X0.here hx rfl (dq hby D41 6 rfl) ?_
    refine XS.ishl X0.here hx rfl (dq hby D41 7 rfl) rfl ?_
    show Steps p.tables e below (s₁.setTop (mkF m 58 #[.val (.int (oi N))] [(.int ((oi N) <<< ((1 : Int32) &&& 31)))])) _
    rw [oi_shl (N)]
    exact retI X0 hx Bd.returns (dq hby D41 8 rfl) hr
  · show Q_rnbl Z  N h0 n0 _ s₁.heap _
    rw [e0]
    exact ⟨rfl, N0, rfl⟩
theorem D40 : ∀ x ∈ ([(0, .iload_n 0, 1), (1, .invokestatic 11, 3), (4, .newarray .byte, 2), (6, .areturn, 1)] : List (Nat × Instr × Nat)), decode jdk_52_method_2_code x.1 = .ok x.2 := by decide +kernel
theorem pn_rnbf : plainName "java/lang/StringUTF16" = true := by first | (simp [plainName, overriddenIn]; done) | decide +kernel
theorem ef_rnbf (m : MethodId) (x0 : Int32) : entryFrame m #[(.int x0)] 1 = mkF m 0 #[.val (.int x0)] [] := by first | (simp [entryFrame, mkF, argsToLocals, Value.category]; done) | rfl
def Q_rnbf (Z : State)  (N : Nat) (h0 : Heap) (n0 : Nat) (v : Option Value) (h : Heap) (L : List Loc) : Prop := ∃ y : Addr, v = some (.ref y) ∧ Fr n0 L ∧ Keep h0 h [] ∧ h0.size ≤ y ∧ ArF Z h y .byte (2 * N) (fun j => .int ((fun _ => 0) j))
set_option maxRecDepth 65536 in
set_option maxHeartbeats 40000000 in
theorem rnbf (l : Launch) (Z : State) (a0 : Array Value) (hw : ∀ d ∈ tables_1, d.before a0 Z = true) (ws : List Jvm.Cond)  (N : Nat) (h0 : Heap) (n0 : Nat) (Z0 : n0 ≤ h0.size)  (hN : N = 1 ∨ N = 2) :
    MetFree l (⟨"java/lang/StringUTF16", "newBytesFor", "(I)[B"⟩ : MethodName) (head1 (Jvm.Cond.code (⟨"java/lang/StringUTF16", "newBytesFor", "(I)[B"⟩ : MethodName) jdk_52_method_2_code 1 (some (.array .byte)) :: ws) ({ frames := 1, cells := 1, slots := 4, locals := 12 } : Room)) (fun a U => a = #[(.int (oi N))] ∧ Z.Warmed39 U.vm ∧ U.heap = h0) (fun _ _ _ _ _ => True) (fun _ U o U' => ∃ v L, o = .returned v ∧ Q_rnbf Z  N h0 n0 v U'.heap L ∧ FrameEnd U o U' L ({ frames := 1, cells := 1, slots := 4, locals := 12 } : Room).cells ({ frames := 1, cells := 1, slots := 4, locals := 12 } : Room).slots) := by
  refine MetFree.of_bodySF (plainFor_of_name pn_rnbf) hisR ?_
  intro p e s m args below meth c s₁ Bd hml0 hP hK
  obtain ⟨rfl, hZ, hh⟩ := hP
  have hx := Bd.exec
  have hby := Bd.bytes
  have hml : c.maxLocals = 1 := hml0
  have hown : s.vm.findClass "java/lang/StringUTF16" = some m.cls := findClass_of_methodNamed Bd.named
  have hnm := (name_of_methodNamed Bd.named Bd.method).1
  have X0 : Stand p l e ({ frames := 1, cells := 1, slots := 4, locals := 12 } : Room) s m #[(.int (oi N))] below meth c s₁ [] 0 0 := Stand.of_body Bd
  have e0 : s₁.heap = h0 := by rw [← hh, Bd.state]; rfl
  have N0 := Fr.nil n0
  have pre0 : ∀ t, Steps p.tables e below (s₁.setTop (mkF m 0 #[.val (.int (oi N))] [])) t → Steps p.tables e below (s₁.setTop (entryFrame m #[(.int (oi N))] 1)) t := fun t k => castTop (ef_rnbf m (oi N)) k
  have K0 := Keep.refl h0 []
  refine own_cps fun G hG => ?_
  obtain ⟨_, _, ⟨T1, L1, k1, n1⟩, -, X1, ⟨Lc1, hQ1, l1, y1, z1⟩, st1⟩ := Jvm.LawKit.callS X0 hx (y := (⟨"java/lang/StringUTF16", "newBytesLength", "(I)I"⟩ : MethodName)) hown (mvT hZ (wq hw 206 rfl)) (mvT hZ (wq hw 207 rfl)) (mvT hZ (wq hw 45 rfl)) (mvT hZ (wq hw 208 rfl)) (by decide) (backOf (W := 0) (rnbl l Z a0 hw [] (N) h0 n0 Z0 hN) hZ (wq hw 208 rfl) (wq hw 45 rfl) (by decide) (by decide)) (g := (mkF m 1 #[.val (.int (oi N))] [(.int (oi N))])) rfl (by rw [hml]; rfl) (argsL := [(.int (oi N))]) (rest := []) (lenOf pd_6 rfl) rfl (by show 2 * 0 + _ ≤ _; exact Nat.le_of_eq rfl) (dq hby D40 1 rfl) (fun _ _ => ⟨rfl, e0, (by decide : 0 + 0 ≤ _), (by decide : 0 + 0 ≤ _)⟩)
  dsimp only [Pt.U, Pt.locs, Pt.cells, Pt.slots] at X1 l1 y1 z1 st1 hQ1
  subst l1 y1 z1
  obtain ⟨rfl, N1q, e1⟩ := hQ1
  have N1 := Fr.app N0 N1q
  obtain ⟨T2, h2, k2, X2, e2, E2, A2, st2⟩ := newP X1 hx hZ (wq hw 47 rfl) e1 (g := (mkF m 4 #[.val (.int (oi N))] [(.int (oi (2 * N)))])) rfl (dq hby D40 2 rfl) rfl (oi_nn (by omega)) (cap := 4) (by rw [oi_n (k := 2 * N) (by omega)]; omega) (by decide) (by decide) (by decide)
  obtain ⟨b2, g2⟩ : ∃ z, z = h0.size := ⟨_, rfl⟩
  rw [← g2] at A2 st2
  have g_b2 : Lq n0 b2 := Nat.le_trans Z0 (Nat.le_of_eq g2.symm)
  have sz_b2 : Lq h0.size b2 := Nat.le_trans K0.1 (Nat.le_of_eq g2.symm)
  clear g2
  have Z2 : Lq n0 h2.size := Nat.le_trans Z0 E2.1
  have K2 := K0.ext E2
  have V2_v2 : ArF Z h2 b2 .byte (oi (2 * N)).toNatClampNeg (fun _ => (.int 0)) := ArF.mk0 A2 rfl rfl
  have VC3_v3 : ArF Z h2 b2 .byte (2 * N) (fun j => .int ((fun _ => 0) j)) := (by have q := V2_v2; rw [oi_n (k := (2 * N)) (by omega)] at q; exact q)
  refine hG ?_
  obtain ⟨fs, hr, hrun, hended, hW, hsame⟩ := X2.leave (v := some (.ref b2)) (fun h => by rw [Bd.returns] at h; cases h)
  refine ⟨_, _, pre0 _ ?_, hrun, hended, _, _, rfl, ?_, ⟨_, rfl⟩, hW, hsame.mono (by decide) (by decide)⟩
  · show Steps p.tables e below (s₁.setTop (mkF m 0 #[.val (.int (oi N))] [])) _
    refine XS.iloadN X0.here hx rfl (dq hby D40 0 rfl) rfl ?_
    refine st1 _ ?_
    refine st2 _ ?_
    jvm_step X2.here [X2.here.top, hx, (dq hby D40 3 rfl), X2.method', Bd.returns, Value.isRef, FieldType.isReference]
    first | (intro acts; rw [hr _ acts rfl rfl rfl]) | rw [hr _ _ rfl rfl rfl]
    exact Steps.refl _
  · show Q_rnbf Z  N h0 n0 _ T2.heap _
    rw [e2]
    exact ⟨_, rfl, N1, K2, sz_b2, VC3_v3⟩
theorem D42 : ∀ x ∈ ([(0, .getstatic 44, 3), (3, .ifCond .ne 25, 3), (28, .iload_n 1, 1), (29, .iconst 1, 1), (30, .ishl, 1), (31, .istore_n 1, 1), (32, .aload_n 0, 1), (33, .iload_n 1, 1), (34, .iinc 1 1, 3), (37, .iload_n 2, 1), (38, .getstatic 59, 3), (41, .ishr, 1), (42, .i2b, 1), (43, .bastore, 1), (44, .aload_n 0, 1), (45, .iload_n 1, 1), (46, .iload_n 2, 1), (47, .getstatic 63, 3), (50, .ishr, 1), (51, .i2b, 1), (52, .bastore, 1), (53, .return_, 1)] : List (Nat × Instr × Nat)), decode jdk_52_method_4_code x.1 = .ok x.2 := by decide +kernel
theorem pn_rputc : plainName "java/lang/StringUTF16" = true := by first | (simp [plainName, overriddenIn]; done) | decide +kernel
theorem ef_rputc (m : MethodId) (x0 : Addr) (x1 : Int32) (x2 : Int32) : entryFrame m #[(.ref x0), (.int x1), (.int x2)] 3 = mkF m 0 #[.val (.ref x0), .val (.int x1), .val (.int x2)] [] := by first | (simp [entryFrame, mkF, argsToLocals, Value.category]; done) | rfl
def Q_rputc (Z : State) (a1 : Addr) (p3 : Int32) (kk nb : Nat) (g : Nat → Int32) (h0 : Heap) (n0 : Nat) (v : Option Value) (h : Heap) (L : List Loc) : Prop := ∃ g' : Nat → Int32, v = none ∧ Fr n0 L ∧ Keep h0 h [a1] ∧ ArF Z h a1 .byte nb (fun j => .int (g' j)) ∧ g' (2 * kk) = b0 p3 ∧ g' (2 * kk + 1) = b1 p3 ∧ (∀ j, j ≠ 2 * kk → j ≠ 2 * kk + 1 → g' j = g j)
set_option maxRecDepth 65536 in
set_option maxHeartbeats 40000000 in
theorem rputc (l : Launch) (Z : State) (a0 : Array Value) (hw : ∀ d ∈ tables_1, d.before a0 Z = true) (ws : List Jvm.Cond) (a1 : Addr) (p3 : Int32) (kk nb : Nat) (g : Nat → Int32) (h0 : Heap) (n0 : Nat) (Z0 : n0 ≤ h0.size) (Fp0 : ArF Z h0 a1 .byte nb (fun j => .int (g j))) (Fp1 : Sta Z h0 "java/lang/StringUTF16" "$assertionsDisabled" "Z" (.int (1 : Int32))) (Fp2 : Sta Z h0 "java/lang/StringUTF16" "HI_BYTE_SHIFT" "I" (.int (0 : Int32))) (Fp3 : Sta Z h0 "java/lang/StringUTF16" "LO_BYTE_SHIFT" "I" (.int (8 : Int32))) (ga : n0 ≤ a1) (hkk : 2 * kk + 1 < nb) (hnb : nb < 1000) :
    MetFree l (⟨"java/lang/StringUTF16", "putChar", "([BII)V"⟩ : MethodName) (head1 (Jvm.Cond.code (⟨"java/lang/StringUTF16", "putChar", "([BII)V"⟩ : MethodName) jdk_52_method_4_code 3 none :: ws) ({ frames := 0, cells := 0, slots := 0, locals := 0 } : Room)) (fun a U => a = #[(.ref a1), (.int (oi kk)), (.int p3)] ∧ Z.Warmed39 U.vm ∧ U.heap = h0) (fun _ _ _ _ _ => True) (fun _ U o U' => ∃ v L, o = .returned v ∧ Q_rputc Z a1 p3 kk nb g h0 n0 v U'.heap L ∧ FrameEnd U o U' L ({ frames := 0, cells := 0, slots := 0, locals := 0 } : Room).cells ({ frames := 0, cells := 0, slots := 0, locals := 0 } : Room).slots) := by
  refine MetFree.of_bodySF (plainFor_of_name pn_rputc) hisR ?_
  intro p e s m args below meth c s₁ Bd hml0 hP hK
  obtain ⟨rfl, hZ, hh⟩ := hP
  have hx := Bd.exec
  have hby := Bd.bytes
  have hml : c.maxLocals = 3 := hml0
  have hown : s.vm.findClass "java/lang/StringUTF16" = some m.cls := findClass_of_methodNamed Bd.named
  have hnm := (name_of_methodNamed Bd.named Bd.method).1
  have X0 : Stand p l e ({ frames := 0, cells := 0, slots := 0, locals := 0 } : Room) s m #[(.ref a1), (.int (oi kk)), (.int p3)] below meth c s₁ [] 0 0 := Stand.of_body Bd
  have e0 : s₁.heap = h0 := by rw [← hh, Bd.state]; rfl
  have N0 := Fr.nil n0
  have pre0 : ∀ t, Steps p.tables e below (s₁.setTop (mkF m 0 #[.val (.ref a1), .val (.int (oi kk)), .val (.int p3)] [])) t → Steps p.tables e below (s₁.setTop (entryFrame m #[(.ref a1), (.int (oi kk)), (.int p3)] 3)) t := fun t k => castTop (ef_rputc m a1 (oi kk) p3) k
  have K0 := Keep.refl h0 [a1]
  refine own_cps fun G hG => ?_
  obtain ⟨T1, X1, e1, st1⟩ := getS2 X0 hx hZ hown (host := "") (Or.inl (wq hw 213 rfl)) Via.refl e0 Fp1 (g := (mkF m 0 #[.val (.ref a1), .val (.int (oi kk)), .val (.int p3)] [])) rfl (dq hby D42 0 rfl)
  obtain ⟨T2, X2, e2, st2⟩ := getS2 X1 hx hZ hown (host := "") (Or.inl (wq hw 214 rfl)) Via.refl e1 Fp2 (g := (mkF m 38 #[.val (.ref a1), .val (.int (oi ((2 * kk) + 1))), .val (.int p3)] [(.int p3), (.int (oi (2 * kk))), (.ref a1)])) rfl (dq hby D42 10 rfl)
  obtain ⟨cl3, Ar3, S3, H3⟩ := id Fp0
  replace S3 : Sq cl3.slots.size _ := S3
  have hin3 : Hq (oi (2 * kk)) cl3.slots.size := oi_at S3 (by omega) (by omega)
  obtain ⟨T3, h3, X3, e3, W3, st3⟩ := stB X2 hx hZ e2 Ar3 (j := (oi (2 * kk))) hin3 (g := (mkF m 43 #[.val (.ref a1), .val (.int (oi ((2 * kk) + 1))), .val (.int p3)] [(.int ((p3 >>> ((0 : Int32) &&& 31)).toInt8.toInt32)), (.int (oi (2 * kk))), (.ref a1)])) rfl rfl (dq hby D42 13 rfl)
  have Fp1_v3 := Fp1.wr W3
  have Fp2_v3 := Fp2.wr W3
  have Fp3_v3 := Fp3.wr W3
  have Z3 : Lq n0 h3.size := Nat.le_trans Z0 (Nat.le_of_eq W3.size.symm)
  have K3 := K0.wr W3 (Or.inl (by simp))
  have V3_v3 := ArF.set Ar3 S3 H3 W3 hin3
  have N3 := Fr.snoc X3 N0 ga
  have VC4_v4 : ArF Z h3 a1 .byte nb (fun j => .int (up g (2 * kk) (b0 p3) j)) := (V3_v3.congr (fun j hj => set_up (oi_n (k := 2 * kk) (by omega)) j))
  obtain ⟨T5, X5, e5, st5⟩ := getS2 X3 hx hZ hown (host := "") (Or.inl (wq hw 215 rfl)) Via.refl e3 Fp3_v3 (g := (mkF m 47 #[.val (.ref a1), .val (.int (oi ((2 * kk) + 1))), .val (.int p3)] [(.int p3), (.int (oi ((2 * kk) + 1))), (.ref a1)])) rfl (dq hby D42 17 rfl)
  obtain ⟨cl6, Ar6, S6, H6⟩ := id VC4_v4
  replace S6 : Sq cl6.slots.size _ := S6
  have hin6 : Hq (oi ((2 * kk) + 1)) cl6.slots.size := oi_at S6 (by omega) (by omega)
  obtain ⟨T6, h6, X6, e6, W6, st6⟩ := stB X5 hx hZ e5 Ar6 (j := (oi ((2 * kk) + 1))) hin6 (g := (mkF m 52 #[.val (.ref a1), .val (.int (oi ((2 * kk) + 1))), .val (.int p3)] [(.int ((p3 >>> ((8 : Int32) &&& 31)).toInt8.toInt32)), (.int (oi ((2 * kk) + 1))), (.ref a1)])) rfl rfl (dq hby D42 20 rfl)
  have Fp1_v6 := Fp1_v3.wr W6
  have Fp2_v6 := Fp2_v3.wr W6
  have Fp3_v6 := Fp3_v3.wr W6
  have Z6 : Lq n0 h6.size := Nat.le_trans Z3 (Nat.le_of_eq W6.size.symm)
  have K6 := K3.wr W6 (Or.inl (by simp))
  have V6_v6 := ArF.set Ar6 S6 H6 W6 hin6
  have N6 := Fr.snoc X6 N3 ga
  have VC7_v7 : ArF Z h6 a1 .byte nb (fun j => .int (up (up g (2 * kk) (b0 p3)) (2 * kk + 1) (b1 p3) j)) := (V6_v6.congr (fun j hj => set_up (oi_n (k := 2 * kk + 1) (by omega)) j))
  refine hG ?_
  obtain ⟨fs, hr, hrun, hended, hW, hsame⟩ := X6.leave (v := none) (fun _ => rfl)
  refine ⟨_, _, pre0 _ ?_, hrun, hended, _, _, rfl, ?_, ⟨_, rfl⟩, hW, hsame.mono (by decide) (by decide)⟩
  · show Steps p.tables e below (s₁.setTop (mkF m 0 #[.val (.ref a1), .val (.int (oi kk)), .val (.int p3)] [])) _
    refine st1 _ ?_
    refine XS.ifYes X1.here hx rfl (pc0 := 3) (pc' := 28) rfl (dq hby D42 1 rfl) rfl ((if0 _ _).trans (feq (by decide : ¬ ((1 : Int32) = (0 : Int32)))).2) (by decide) (by decide) ?_
    refine XS.iloadN X1.here hx rfl (dq hby D42 2 rfl) rfl ?_
    refine XS.iconst X1.here hx rfl (dq hby D42 3 rfl) ?_
    refine XS.ishl X1.here hx rfl (dq hby D42 4 rfl) rfl ?_
    show Steps p.tables e below (T1.setTop (mkF m 31 #[.val (.ref a1), .val (.int (oi kk)), .val (.int p3)] [(.int ((oi kk) <<< ((1 : Int32) &&& 31)))])) _
    rw [oi_shl (kk)]
    refine XS.istoreN X1.here hx rfl (dq hby D42 5 rfl) rfl (l' := #[.val (.ref a1), .val (.int (oi (2 * kk))), .val (.int p3)]) rfl ?_
    refine XS.aloadN X1.here hx rfl (dq hby D42 6 rfl) rfl rfl ?_
    refine XS.iloadN X1.here hx rfl (dq hby D42 7 rfl) rfl ?_
    refine XS.iinc X1.here hx rfl (dq hby D42 8 rfl) rfl (l' := #[.val (.ref a1), .val (.int ((oi (2 * kk)) + (1 : Int32))), .val (.int p3)]) rfl ?_
    show Steps p.tables e below (T1.setTop (mkF m 37 #[.val (.ref a1), .val (.int ((oi (2 * kk)) + (1 : Int32))), .val (.int p3)] [(.int (oi (2 * kk))), (.ref a1)])) _
    rw [oi_s ((2 * kk))]
    refine XS.iloadN X1.here hx rfl (dq hby D42 9 rfl) rfl ?_
    refine st2 _ ?_
    refine XS.ishr X2.here hx rfl (dq hby D42 11 rfl) rfl ?_
    refine XS.i2b X2.here hx rfl (dq hby D42 12 rfl) rfl ?_
    refine st3 _ ?_
    refine XS.aloadN X3.here hx rfl (dq hby D42 14 rfl) rfl rfl ?_
    refine XS.iloadN X3.here hx rfl (dq hby D42 15 rfl) rfl ?_
    refine XS.iloadN X3.here hx rfl (dq hby D42 16 rfl) rfl ?_
    refine st5 _ ?_
    refine XS.ishr X5.here hx rfl (dq hby D42 18 rfl) rfl ?_
    refine XS.i2b X5.here hx rfl (dq hby D42 19 rfl) rfl ?_
    refine st6 _ ?_
    exact X6.returnOut hx Bd.returns (dq hby D42 21 rfl) hr
  · show Q_rputc Z a1 p3 kk nb g h0 n0 _ T6.heap _
    rw [e6]
    exact ⟨_, rfl, N6, K6, VC7_v7, up2a, up2b, fun j => up2c⟩
theorem D43 : ∀ x ∈ ([(0, .getstatic 44, 3), (3, .ifCond .ne 25, 3), (28, .iload_n 1, 1), (29, .iconst 1, 1), (30, .ishl, 1), (31, .istore_n 1, 1), (32, .aload_n 0, 1), (33, .iload_n 1, 1), (34, .iinc 1 1, 3), (37, .baload, 1), (38, .sipush 255, 3), (41, .iand, 1), (42, .getstatic 59, 3), (45, .ishl, 1), (46, .aload_n 0, 1), (47, .iload_n 1, 1), (48, .baload, 1), (49, .sipush 255, 3), (52, .iand, 1), (53, .getstatic 63, 3), (56, .ishl, 1), (57, .ior, 1), (58, .i2c, 1), (59, .ireturn, 1)] : List (Nat × Instr × Nat)), decode jdk_52_method_5_code x.1 = .ok x.2 := by decide +kernel
theorem pn_rgetc : plainName "java/lang/StringUTF16" = true := by first | (simp [plainName, overriddenIn]; done) | decide +kernel
theorem ef_rgetc (m : MethodId) (x0 : Addr) (x1 : Int32) : entryFrame m #[(.ref x0), (.int x1)] 2 = mkF m 0 #[.val (.ref x0), .val (.int x1)] [] := by first | (simp [entryFrame, mkF, argsToLocals, Value.category]; done) | rfl
def Q_rgetc (Z : State) (a1 : Addr) (kk nb : Nat) (g : Nat → Int32) (h0 : Heap) (n0 : Nat) (v : Option Value) (h : Heap) (L : List Loc) : Prop := v = some (.int (gch (g (2 * kk)) (g (2 * kk + 1)))) ∧ Fr n0 L ∧ h = h0
set_option maxRecDepth 65536 in
set_option maxHeartbeats 40000000 in
theorem rgetc (l : Launch) (Z : State) (a0 : Array Value) (hw : ∀ d ∈ tables_1, d.before a0 Z = true) (ws : List Jvm.Cond) (a1 : Addr) (kk nb : Nat) (g : Nat → Int32) (h0 : Heap) (n0 : Nat) (Z0 : n0 ≤ h0.size) (Fp0 : ArF Z h0 a1 .byte nb (fun j => .int (g j))) (Fp1 : Sta Z h0 "java/lang/StringUTF16" "$assertionsDisabled" "Z" (.int (1 : Int32))) (Fp2 : Sta Z h0 "java/lang/StringUTF16" "HI_BYTE_SHIFT" "I" (.int (0 : Int32))) (Fp3 : Sta Z h0 "java/lang/StringUTF16" "LO_BYTE_SHIFT" "I" (.int (8 : Int32))) (hkk : 2 * kk + 1 < nb) (hnb : nb < 1000) :
    MetFree l (⟨"java/lang/StringUTF16", "getChar", "([BI)C"⟩ : MethodName) (head1 (Jvm.Cond.code (⟨"java/lang/StringUTF16", "getChar", "([BI)C"⟩ : MethodName) jdk_52_method_5_code 2 (some .char) :: ws) ({ frames := 0, cells := 0, slots := 0, locals := 0 } : Room)) (fun a U => a = #[(.ref a1), (.int (oi kk))] ∧ Z.Warmed39 U.vm ∧ U.heap = h0) (fun _ _ _ _ _ => True) (fun _ U o U' => ∃ v L, o = .returned v ∧ Q_rgetc Z a1 kk nb g h0 n0 v U'.heap L ∧ FrameEnd U o U' L ({ frames := 0, cells := 0, slots := 0, locals := 0 } : Room).cells ({ frames := 0, cells := 0, slots := 0, locals := 0 } : Room).slots) := by
  refine MetFree.of_bodySF (plainFor_of_name pn_rgetc) hisR ?_
  intro p e s m args below meth c s₁ Bd hml0 hP hK
  obtain ⟨rfl, hZ, hh⟩ := hP
  have hx := Bd.exec
  have hby := Bd.bytes
  have hml : c.maxLocals = 2 := hml0
  have hown : s.vm.findClass "java/lang/StringUTF16" = some m.cls := findClass_of_methodNamed Bd.named
  have hnm := (name_of_methodNamed Bd.named Bd.method).1
  have X0 : Stand p l e ({ frames := 0, cells := 0, slots := 0, locals := 0 } : Room) s m #[(.ref a1), (.int (oi kk))] below meth c s₁ [] 0 0 := Stand.of_body Bd
  have e0 : s₁.heap = h0 := by rw [← hh, Bd.state]; rfl
  have N0 := Fr.nil n0
  have pre0 : ∀ t, Steps p.tables e below (s₁.setTop (mkF m 0 #[.val (.ref a1), .val (.int (oi kk))] [])) t → Steps p.tables e below (s₁.setTop (entryFrame m #[(.ref a1), (.int (oi kk))] 2)) t := fun t k => castTop (ef_rgetc m a1 (oi kk)) k
  refine own_cps fun G hG => ?_
  obtain ⟨T1, X1, e1, st1⟩ := getS2 X0 hx hZ hown (host := "") (Or.inl (wq hw 213 rfl)) Via.refl e0 Fp1 (g := (mkF m 0 #[.val (.ref a1), .val (.int (oi kk))] [])) rfl (dq hby D43 0 rfl)
  obtain ⟨cl2, Ar2, S2, H2⟩ := id Fp0
  replace S2 : Sq cl2.slots.size _ := S2
  have hin2 : Hq (oi (2 * kk)) cl2.slots.size := oi_at S2 (by omega) (by omega)
  have hat2 : cl2.slots[((oi (2 * kk))).toNatClampNeg]? = some (.int (g (2 * kk))) := ArF.at S2 H2 hin2 (congrArg (fun zz => Value.int (g zz)) (oi_n (by omega)))
  obtain ⟨T3, X3, e3, st3⟩ := getS2 X1 hx hZ hown (host := "") (Or.inl (wq hw 214 rfl)) Via.refl e1 Fp2 (g := (mkF m 42 #[.val (.ref a1), .val (.int (oi ((2 * kk) + 1)))] [(.int ((g (2 * kk)) &&& (255 : Int32)))])) rfl (dq hby D43 12 rfl)
  obtain ⟨cl4, Ar4, S4, H4⟩ := id Fp0
  replace S4 : Sq cl4.slots.size _ := S4
  have hin4 : Hq (oi ((2 * kk) + 1)) cl4.slots.size := oi_at S4 (by omega) (by omega)
  have hat4 : cl4.slots[((oi ((2 * kk) + 1))).toNatClampNeg]? = some (.int (g ((2 * kk) + 1))) := ArF.at S4 H4 hin4 (congrArg (fun zz => Value.int (g zz)) (oi_n (by omega)))
  obtain ⟨T5, X5, e5, st5⟩ := getS2 X3 hx hZ hown (host := "") (Or.inl (wq hw 215 rfl)) Via.refl e3 Fp3 (g := (mkF m 53 #[.val (.ref a1), .val (.int (oi ((2 * kk) + 1)))] [(.int ((g ((2 * kk) + 1)) &&& (255 : Int32))), (.int (((g (2 * kk)) &&& (255 : Int32)) <<< ((0 : Int32) &&& 31)))])) rfl (dq hby D43 19 rfl)
  refine hG ?_
  obtain ⟨fs, hr, hrun, hended, hW, hsame⟩ := X5.leave (v := some (.int (nar .char (((((g (2 * kk)) &&& (255 : Int32)) <<< ((0 : Int32) &&& 31)) ||| (((g ((2 * kk) + 1)) &&& (255 : Int32)) <<< ((8 : Int32) &&& 31))).toUInt32.toUInt16.toUInt32.toInt32)))) (fun h => by rw [Bd.returns] at h; cases h)
  refine ⟨_, _, pre0 _ ?_, hrun, hended, _, _, rfl, ?_, ⟨_, rfl⟩, hW, hsame.mono (by decide) (by decide)⟩
  · show Steps p.tables e below (s₁.setTop (mkF m 0 #[.val (.ref a1), .val (.int (oi kk))] [])) _
    refine st1 _ ?_
    refine XS.ifYes X1.here hx rfl (pc0 := 3) (pc' := 28) rfl (dq hby D43 1 rfl) rfl ((if0 _ _).trans (feq (by decide : ¬ ((1 : Int32) = (0 : Int32)))).2) (by decide) (by decide) ?_
    refine XS.iloadN X1.here hx rfl (dq hby D43 2 rfl) rfl ?_
    refine XS.iconst X1.here hx rfl (dq hby D43 3 rfl) ?_
    refine XS.ishl X1.here hx rfl (dq hby D43 4 rfl) rfl ?_
    show Steps p.tables e below (T1.setTop (mkF m 31 #[.val (.ref a1), .val (.int (oi kk))] [(.int ((oi kk) <<< ((1 : Int32) &&& 31)))])) _
    rw [oi_shl (kk)]
    refine XS.istoreN X1.here hx rfl (dq hby D43 5 rfl) rfl (l' := #[.val (.ref a1), .val (.int (oi (2 * kk)))]) rfl ?_
    refine XS.aloadN X1.here hx rfl (dq hby D43 6 rfl) rfl rfl ?_
    refine XS.iloadN X1.here hx rfl (dq hby D43 7 rfl) rfl ?_
    refine XS.iinc X1.here hx rfl (dq hby D43 8 rfl) rfl (l' := #[.val (.ref a1), .val (.int ((oi (2 * kk)) + (1 : Int32)))]) rfl ?_
    show Steps p.tables e below (T1.setTop (mkF m 37 #[.val (.ref a1), .val (.int ((oi (2 * kk)) + (1 : Int32)))] [(.int (oi (2 * kk))), (.ref a1)])) _
    rw [oi_s ((2 * kk))]
    refine X1.baloadBytes hx (j := (oi (2 * kk))) (v := (.int (g (2 * kk)))) (by rw [e1]; exact Ar2.1) (State.isArrayOf_alike hZ.alike Ar2.2.1) Ar2.2.2 hin2 hat2 (g := (mkF m 37 #[.val (.ref a1), .val (.int (oi ((2 * kk) + 1)))] [(.int (oi (2 * kk))), (.ref a1)])) rfl rfl (dq hby D43 9 rfl) _ ?_
    refine XS.sipush X1.here hx rfl (dq hby D43 10 rfl) ?_
    refine XS.iand X1.here hx rfl (dq hby D43 11 rfl) rfl ?_
    refine st3 _ ?_
    refine XS.ishl X3.here hx rfl (dq hby D43 13 rfl) rfl ?_
    refine XS.aloadN X3.here hx rfl (dq hby D43 14 rfl) rfl rfl ?_
    refine XS.iloadN X3.here hx rfl (dq hby D43 15 rfl) rfl ?_
    refine X3.baloadBytes hx (j := (oi ((2 * kk) + 1))) (v := (.int (g ((2 * kk) + 1)))) (by rw [e3]; exact Ar4.1) (State.isArrayOf_alike hZ.alike Ar4.2.1) Ar4.2.2 hin4 hat4 (g := (mkF m 48 #[.val (.ref a1), .val (.int (oi ((2 * kk) + 1)))] [(.int (oi ((2 * kk) + 1))), (.ref a1), (.int (((g (2 * kk)) &&& (255 : Int32)) <<< ((0 : Int32) &&& 31)))])) rfl rfl (dq hby D43 16 rfl) _ ?_
    refine XS.sipush X3.here hx rfl (dq hby D43 17 rfl) ?_
    refine XS.iand X3.here hx rfl (dq hby D43 18 rfl) rfl ?_
    refine st5 _ ?_
    refine XS.ishl X5.here hx rfl (dq hby D43 20 rfl) rfl ?_
    refine XS.ior X5.here hx rfl (dq hby D43 21 rfl) rfl ?_
    refine XS.i2c X5.here hx rfl (dq hby D43 22 rfl) rfl ?_
    exact retN X5 hx (t := .char) Bd.returns (by simp) (dq hby D43 23 rfl) hr
  · show Q_rgetc Z a1 kk nb g h0 n0 _ T5.heap _
    rw [e5]
    exact ⟨rfl, N0, rfl⟩
theorem D46 : ∀ x ∈ ([(0, .aload_n 0, 1), (1, .arraylength, 1), (2, .iconst 1, 1), (3, .ishr, 1), (4, .ireturn, 1)] : List (Nat × Instr × Nat)), decode jdk_52_method_6_code x.1 = .ok x.2 := by decide +kernel
theorem pn_rulen : plainName "java/lang/StringUTF16" = true := by first | (simp [plainName, overriddenIn]; done) | decide +kernel
theorem ef_rulen (m : MethodId) (x0 : Addr) : entryFrame m #[(.ref x0)] 1 = mkF m 0 #[.val (.ref x0)] [] := by first | (simp [entryFrame, mkF, argsToLocals, Value.category]; done) | rfl
def Q_rulen (Z : State) (a1 : Addr) (M : Nat) (g : Nat → Int32) (h0 : Heap) (n0 : Nat) (v : Option Value) (h : Heap) (L : List Loc) : Prop := v = some (.int (oi M)) ∧ Fr n0 L ∧ h = h0
set_option maxRecDepth 65536 in
set_option maxHeartbeats 40000000 in
theorem rulen (l : Launch) (Z : State) (a0 : Array Value) (hw : ∀ d ∈ tables_1, d.before a0 Z = true) (ws : List Jvm.Cond) (a1 : Addr) (M : Nat) (g : Nat → Int32) (h0 : Heap) (n0 : Nat) (Z0 : n0 ≤ h0.size) (Fp0 : ArF Z h0 a1 .byte (2 * M) (fun j => .int (g j))) (hM : M = 1 ∨ M = 2) :
    MetFree l (⟨"java/lang/StringUTF16", "length", "([B)I"⟩ : MethodName) (head1 (Jvm.Cond.code (⟨"java/lang/StringUTF16", "length", "([B)I"⟩ : MethodName) jdk_52_method_6_code 1 (some .int) :: ws) ({ frames := 0, cells := 0, slots := 0, locals := 0 } : Room)) (fun a U => a = #[(.ref a1)] ∧ Z.Warmed39 U.vm ∧ U.heap = h0) (fun _ _ _ _ _ => True) (fun _ U o U' => ∃ v L, o = .returned v ∧ Q_rulen Z a1 M g h0 n0 v U'.heap L ∧ FrameEnd U o U' L ({ frames := 0, cells := 0, slots := 0, locals := 0 } : Room).cells ({ frames := 0, cells := 0, slots := 0, locals := 0 } : Room).slots) := by
  refine MetFree.of_bodySF (plainFor_of_name pn_rulen) hisR ?_
  intro p e s m args below meth c s₁ Bd hml0 hP hK
  obtain ⟨rfl, hZ, hh⟩ := hP
  have hx := Bd.exec
  have hby := Bd.bytes
  have hml : c.maxLocals = 1 := hml0
  have hown : s.vm.findClass "java/lang/StringUTF16" = some m.cls := findClass_of_methodNamed Bd.named
  have hnm := (name_of_methodNamed Bd.named Bd.method).1
  have X0 : Stand p l e ({ frames := 0, cells := 0, slots := 0, locals := 0 } : Room) s m #[(.ref a1)] below meth c s₁ [] 0 0 := Stand.of_body Bd
  have e0 : s₁.heap = h0 := by rw [← hh, Bd.state]; rfl
  have N0 := Fr.nil n0
  have pre0 : ∀ t, Steps p.tables e below (s₁.setTop (mkF m 0 #[.val (.ref a1)] [])) t → Steps p.tables e below (s₁.setTop (entryFrame m #[(.ref a1)] 1)) t := fun t k => castTop (ef_rulen m a1) k
  refine own_cps fun G hG => ?_
  obtain ⟨cl1, Ar1, S1, H1⟩ := id Fp0
  replace S1 : Sq cl1.slots.size _ := S1
  refine hG ?_
  obtain ⟨fs, hr, hrun, hended, hW, hsame⟩ := X0.leave (v := some (.int ((oi (2 * M)) >>> ((1 : Int32) &&& 31)))) (fun h => by rw [Bd.returns] at h; cases h)
  refine ⟨_, _, pre0 _ ?_, hrun, hended, _, _, rfl, ?_, ⟨_, rfl⟩, hW, hsame.mono (by decide) (by decide)⟩
  · show Steps p.tables e below (s₁.setTop (mkF m 0 #[.val (.ref a1)] [])) _
    refine XS.aloadN X0.here hx rfl (dq hby D46 0 rfl) rfl rfl ?_
    refine X0.arraylength hx (by rw [e0]; exact Ar1.1) (State.isArrayOf_alike hZ.alike Ar1.2.1) (g := (mkF m 1 #[.val (.ref a1)] [(.ref a1)])) rfl rfl (dq hby D46 1 rfl) _ ?_
    rw [show cl1.slots.size.toInt32 = (oi (2 * M)) from (congrArg Nat.toInt32 S1).trans rfl]
    refine XS.iconst X0.here hx rfl (dq hby D46 2 rfl) ?_
    refine XS.ishr X0.here hx rfl (dq hby D46 3 rfl) rfl ?_
    exact retI X0 hx Bd.returns (dq hby D46 4 rfl) hr
  · show Q_rulen Z a1 M g h0 n0 _ s₁.heap _
    rw [e0]
    exact ⟨by rcases hM with rfl | rfl <;> rfl, N0, rfl⟩
theorem D28 : ∀ x ∈ ([(0, .iload_n 2, 1), (1, .iload_n 0, 1), (2, .ior, 1), (3, .iload_n 1, 1), (4, .ior, 1), (5, .ifCond .lt 10, 3), (8, .iload_n 1, 1), (9, .iload_n 2, 1), (10, .iload_n 0, 1), (11, .isub, 1), (12, .if_icmp .le 11, 3), (23, .iload_n 0, 1), (24, .ireturn, 1)] : List (Nat × Instr × Nat)), decode jdk_41_method_13_code x.1 = .ok x.2 := by decide +kernel
theorem pn_rcfs : plainName "jdk/internal/util/Preconditions" = true := by first | (simp [plainName, overriddenIn]; done) | decide +kernel
theorem ef_rcfs (m : MethodId) (x0 : Int32) (x1 : Int32) (x2 : Int32) (x3 : Value) (hx3 : x3.isRef = true) : entryFrame m #[(.int x0), (.int x1), (.int x2), x3] 4 = mkF m 0 #[.val (.int x0), .val (.int x1), .val (.int x2), .val x3] [] := by cases x3 <;> first | (simp [Value.isRef] at hx3; done) | first | (simp [entryFrame, mkF, argsToLocals, Value.category]; done) | rfl
def Q_rcfs (Z : State) (fo : Value) (u r N : Nat) (h0 : Heap) (n0 : Nat) (v : Option Value) (h : Heap) (L : List Loc) : Prop := v = some (.int (oi u)) ∧ Fr n0 L ∧ h = h0
set_option maxRecDepth 65536 in
set_option maxHeartbeats 40000000 in
theorem rcfs (l : Launch) (Z : State) (a0 : Array Value) (hw : ∀ d ∈ tables_1, d.before a0 Z = true) (ws : List Jvm.Cond) (fo : Value) (u r N : Nat) (h0 : Heap) (n0 : Nat) (Z0 : n0 ≤ h0.size) (hfo : fo.isRef = true) (hur : u + r ≤ N) (hN : N < 1000) :
    MetFree l (⟨"jdk/internal/util/Preconditions", "checkFromIndexSize", "(IIILjava/util/function/BiFunction;)I"⟩ : MethodName) (head1 (Jvm.Cond.code (⟨"jdk/internal/util/Preconditions", "checkFromIndexSize", "(IIILjava/util/function/BiFunction;)I"⟩ : MethodName) jdk_41_method_13_code 4 (some .int) :: ws) ({ frames := 0, cells := 0, slots := 0, locals := 0 } : Room)) (fun a U => a = #[(.int (oi u)), (.int (oi r)), (.int (oi N)), fo] ∧ Z.Warmed39 U.vm ∧ U.heap = h0) (fun _ _ _ _ _ => True) (fun _ U o U' => ∃ v L, o = .returned v ∧ Q_rcfs Z fo u r N h0 n0 v U'.heap L ∧ FrameEnd U o U' L ({ frames := 0, cells := 0, slots := 0, locals := 0 } : Room).cells ({ frames := 0, cells := 0, slots := 0, locals := 0 } : Room).slots) := by
  refine MetFree.of_bodySF (plainFor_of_name pn_rcfs) hisR ?_
  intro p e s m args below meth c s₁ Bd hml0 hP hK
  obtain ⟨rfl, hZ, hh⟩ := hP
  have hx := Bd.exec
  have hby := Bd.bytes
  have hml : c.maxLocals = 4 := hml0
  have hown : s.vm.findClass "jdk/internal/util/Preconditions" = some m.cls := findClass_of_methodNamed Bd.named
  have hnm := (name_of_methodNamed Bd.named Bd.method).1
  have X0 : Stand p l e ({ frames := 0, cells := 0, slots := 0, locals := 0 } : Room) s m #[(.int (oi u)), (.int (oi r)), (.int (oi N)), fo] below meth c s₁ [] 0 0 := Stand.of_body Bd
  have e0 : s₁.heap = h0 := by rw [← hh, Bd.state]; rfl
  have N0 := Fr.nil n0
  have pre0 : ∀ t, Steps p.tables e below (s₁.setTop (mkF m 0 #[.val (.int (oi u)), .val (.int (oi r)), .val (.int (oi N)), .val fo] [])) t → Steps p.tables e below (s₁.setTop (entryFrame m #[(.int (oi u)), (.int (oi r)), (.int (oi N)), fo] 4)) t := fun t k => castTop (ef_rcfs m (oi u) (oi r) (oi N) fo hfo) k
  refine own_cps fun G hG => ?_
  refine hG ?_
  obtain ⟨fs, hr, hrun, hended, hW, hsame⟩ := X0.leave (v := some (.int (oi u))) (fun h => by rw [Bd.returns] at h; cases h)
  refine ⟨_, _, pre0 _ ?_, hrun, hended, _, _, rfl, ?_, ⟨_, rfl⟩, hW, hsame.mono (by decide) (by decide)⟩
  · show Steps p.tables e below (s₁.setTop (mkF m 0 #[.val (.int (oi u)), .val (.int (oi r)), .val (.int (oi N)), .val fo] [])) _
    refine XS.iloadN X0.here hx rfl (dq hby D28 0 rfl) rfl ?_
    refine XS.iloadN X0.here hx rfl (dq hby D28 1 rfl) rfl ?_
    show Steps p.tables e below (s₁.setTop (mkF m 2 #[.val (.int (oi u)), .val (.int (oi r)), .val (.int (oi N)), .val fo] [(.int (oi u)), (.int (oi N))])) _
    refine XS.ior X0.here hx rfl (dq hby D28 2 rfl) rfl ?_
    refine XS.iloadN X0.here hx rfl (dq hby D28 3 rfl) rfl ?_
    refine XS.ior X0.here hx rfl (dq hby D28 4 rfl) rfl ?_
    refine XS.ifNo X0.here hx rfl (dq hby D28 5 rfl) rfl ((if0 _ _).trans (flt ((oi_or3 (by omega) (by omega) (by omega)) : ¬ ((((oi N) ||| (oi u)) ||| (oi r)) < (0 : Int32)))).1) ?_
    refine XS.iloadN X0.here hx rfl (dq hby D28 6 rfl) rfl ?_
    refine XS.iloadN X0.here hx rfl (dq hby D28 7 rfl) rfl ?_
    refine XS.iloadN X0.here hx rfl (dq hby D28 8 rfl) rfl ?_
    refine XS.isub X0.here hx rfl (dq hby D28 9 rfl) rfl ?_
    show Steps p.tables e below (s₁.setTop (mkF m 12 #[.val (.int (oi u)), .val (.int (oi r)), .val (.int (oi N)), .val fo] [(.int ((oi N) - (oi u))), (.int (oi r))])) _
    rw [oi_sub (a := N) (b := u) (by omega)]
    refine XS.icmpYes X0.here hx rfl (pc0 := 12) (pc' := 23) rfl (dq hby D28 10 rfl) rfl (flt ((by rw [oi_lt (by omega) (by omega)]; omega) : ¬ ((oi (N - u)) < (oi r)))).2.2.2 (by decide) (by decide) ?_
    refine XS.iloadN X0.here hx rfl (dq hby D28 11 rfl) rfl ?_
    exact retI X0 hx Bd.returns (dq hby D28 12 rfl) hr
  · show Q_rcfs Z fo u r N h0 n0 _ s₁.heap _
    rw [e0]
    exact ⟨rfl, N0, rfl⟩
theorem D27 : ∀ x ∈ ([(0, .iload_n 0, 1), (1, .iload_n 1, 1), (2, .iload_n 2, 1), (3, .getstatic 1053, 3), (6, .invokestatic 1065, 3), (9, .ireturn, 1)] : List (Nat × Instr × Nat)), decode jdk_42_method_157_code x.1 = .ok x.2 := by decide +kernel
theorem pn_rcbo : plainName "java/lang/String" = true := by first | (simp [plainName, overriddenIn]; done) | decide +kernel
theorem ef_rcbo (m : MethodId) (x0 : Int32) (x1 : Int32) (x2 : Int32) : entryFrame m #[(.int x0), (.int x1), (.int x2)] 3 = mkF m 0 #[.val (.int x0), .val (.int x1), .val (.int x2)] [] := by first | (simp [entryFrame, mkF, argsToLocals, Value.category]; done) | rfl
def Q_rcbo (Z : State)  (u r N : Nat) (fo : Value) (h0 : Heap) (n0 : Nat) (v : Option Value) (h : Heap) (L : List Loc) : Prop := v = some (.int (oi u)) ∧ Fr n0 L ∧ h = h0
set_option maxRecDepth 65536 in
set_option maxHeartbeats 40000000 in
theorem rcbo (l : Launch) (Z : State) (a0 : Array Value) (hw : ∀ d ∈ tables_1, d.before a0 Z = true) (ws : List Jvm.Cond)  (u r N : Nat) (fo : Value) (h0 : Heap) (n0 : Nat) (Z0 : n0 ≤ h0.size) (Fp0 : Sta Z h0 "jdk/internal/util/Preconditions" "SIOOBE_FORMATTER" "Ljava/util/function/BiFunction;" fo) (hfo : fo.isRef = true) (hur : u + r ≤ N) (hN : N < 1000) :
    MetFree l (⟨"java/lang/String", "checkBoundsOffCount", "(III)I"⟩ : MethodName) (head1 (Jvm.Cond.code (⟨"java/lang/String", "checkBoundsOffCount", "(III)I"⟩ : MethodName) jdk_42_method_157_code 3 (some .int) :: ws) ({ frames := 1, cells := 0, slots := 0, locals := 15 } : Room)) (fun a U => a = #[(.int (oi u)), (.int (oi r)), (.int (oi N))] ∧ Z.Warmed39 U.vm ∧ U.heap = h0) (fun _ _ _ _ _ => True) (fun _ U o U' => ∃ v L, o = .returned v ∧ Q_rcbo Z  u r N fo h0 n0 v U'.heap L ∧ FrameEnd U o U' L ({ frames := 1, cells := 0, slots := 0, locals := 15 } : Room).cells ({ frames := 1, cells := 0, slots := 0, locals := 15 } : Room).slots) := by
  refine MetFree.of_bodySF (plainFor_of_name pn_rcbo) hisR ?_
  intro p e s m args below meth c s₁ Bd hml0 hP hK
  obtain ⟨rfl, hZ, hh⟩ := hP
  have hx := Bd.exec
  have hby := Bd.bytes
  have hml : c.maxLocals = 3 := hml0
  have hown : s.vm.findClass "java/lang/String" = some m.cls := findClass_of_methodNamed Bd.named
  have hnm := (name_of_methodNamed Bd.named Bd.method).1
  have X0 : Stand p l e ({ frames := 1, cells := 0, slots := 0, locals := 15 } : Room) s m #[(.int (oi u)), (.int (oi r)), (.int (oi N))] below meth c s₁ [] 0 0 := Stand.of_body Bd
  have e0 : s₁.heap = h0 := by rw [← hh, Bd.state]; rfl
  have N0 := Fr.nil n0
  have pre0 : ∀ t, Steps p.tables e below (s₁.setTop (mkF m 0 #[.val (.int (oi u)), .val (.int (oi r)), .val (.int (oi N))] [])) t → Steps p.tables e below (s₁.setTop (entryFrame m #[(.int (oi u)), (.int (oi r)), (.int (oi N))] 3)) t := fun t k => castTop (ef_rcbo m (oi u) (oi r) (oi N)) k
  refine own_cps fun G hG => ?_
  obtain ⟨T1, X1, e1, st1⟩ := getS2 X0 hx hZ hown (host := "") (Or.inl (wq hw 151 rfl)) Via.refl e0 Fp0 (g := (mkF m 3 #[.val (.int (oi u)), .val (.int (oi r)), .val (.int (oi N))] [(.int (oi N)), (.int (oi r)), (.int (oi u))])) rfl (dq hby D27 3 rfl)
  obtain ⟨_, _, ⟨T2, L2, k2, n2⟩, -, X2, ⟨Lc2, hQ2, l2, y2, z2⟩, st2⟩ := Jvm.LawKit.callS X1 hx (y := (⟨"jdk/internal/util/Preconditions", "checkFromIndexSize", "(IIILjava/util/function/BiFunction;)I"⟩ : MethodName)) hown (mvT hZ (wq hw 158 rfl)) (mvT hZ (wq hw 159 rfl)) (mvT hZ (wq hw 122 rfl)) (mvT hZ (wq hw 160 rfl)) (by decide) (backOf (W := 0) (rcfs l Z a0 hw [] fo (u) (r) (N) h0 n0 Z0 hfo hur hN) hZ (wq hw 160 rfl) (wq hw 122 rfl) (by decide) (by decide)) (g := (mkF m 6 #[.val (.int (oi u)), .val (.int (oi r)), .val (.int (oi N))] [fo, (.int (oi N)), (.int (oi r)), (.int (oi u))])) rfl (by rw [hml]; rfl) (argsL := [(.int (oi u)), (.int (oi r)), (.int (oi N)), fo]) (rest := []) (lenOf pd_7 rfl) rfl (by show 2 * 0 + _ ≤ _; exact Nat.le_of_eq rfl) (dq hby D27 4 rfl) (fun _ _ => ⟨rfl, e1, (by decide : 0 + 0 ≤ _), (by decide : 0 + 0 ≤ _)⟩)
  dsimp only [Pt.U, Pt.locs, Pt.cells, Pt.slots] at X2 l2 y2 z2 st2 hQ2
  subst l2 y2 z2
  obtain ⟨rfl, N2q, e2⟩ := hQ2
  have N2 := Fr.app N0 N2q
  refine hG ?_
  obtain ⟨fs, hr, hrun, hended, hW, hsame⟩ := X2.leave (v := some (.int (oi u))) (fun h => by rw [Bd.returns] at h; cases h)
  refine ⟨_, _, pre0 _ ?_, hrun, hended, _, _, rfl, ?_, ⟨_, rfl⟩, hW, hsame.mono (by decide) (by decide)⟩
  · show Steps p.tables e below (s₁.setTop (mkF m 0 #[.val (.int (oi u)), .val (.int (oi r)), .val (.int (oi N))] [])) _
    refine XS.iloadN X0.here hx rfl (dq hby D27 0 rfl) rfl ?_
    refine XS.iloadN X0.here hx rfl (dq hby D27 1 rfl) rfl ?_
    refine XS.iloadN X0.here hx rfl (dq hby D27 2 rfl) rfl ?_
    refine st1 _ ?_
    refine st2 _ ?_
    exact retI X2 hx Bd.returns (dq hby D27 5 rfl) hr
  · show Q_rcbo Z  u r N fo h0 n0 _ T2.heap _
    rw [e2]
    exact ⟨rfl, N2, rfl⟩
theorem D26 : ∀ x ∈ ([(0, .iload_n 0, 1), (1, .ifCond .lt 13, 3), (4, .iload_n 0, 1), (5, .iload_n 1, 1), (6, .if_icmp .gt 8, 3), (9, .iload_n 1, 1), (10, .iload_n 2, 1), (11, .if_icmp .le 11, 3), (22, .iload_n 0, 1), (23, .ireturn, 1)] : List (Nat × Instr × Nat)), decode jdk_41_method_12_code x.1 = .ok x.2 := by decide +kernel
theorem pn_rcft : plainName "jdk/internal/util/Preconditions" = true := by first | (simp [plainName, overriddenIn]; done) | decide +kernel
theorem ef_rcft (m : MethodId) (x0 : Int32) (x1 : Int32) (x2 : Int32) (x3 : Value) (hx3 : x3.isRef = true) : entryFrame m #[(.int x0), (.int x1), (.int x2), x3] 4 = mkF m 0 #[.val (.int x0), .val (.int x1), .val (.int x2), .val x3] [] := by cases x3 <;> first | (simp [Value.isRef] at hx3; done) | first | (simp [entryFrame, mkF, argsToLocals, Value.category]; done) | rfl
def Q_rcft (Z : State) (fo : Value) (u r N : Nat) (h0 : Heap) (n0 : Nat) (v : Option Value) (h : Heap) (L : List Loc) : Prop := v = some (.int (oi u)) ∧ Fr n0 L ∧ h = h0
set_option maxRecDepth 65536 in
set_option maxHeartbeats 40000000 in
theorem rcft (l : Launch) (Z : State) (a0 : Array Value) (hw : ∀ d ∈ tables_1, d.before a0 Z = true) (ws : List Jvm.Cond) (fo : Value) (u r N : Nat) (h0 : Heap) (n0 : Nat) (Z0 : n0 ≤ h0.size) (hfo : fo.isRef = true) (hur : u ≤ r) (hrN : r ≤ N) (hN : N < 1000) :
    MetFree l (⟨"jdk/internal/util/Preconditions", "checkFromToIndex", "(IIILjava/util/function/BiFunction;)I"⟩ : MethodName) (head1 (Jvm.Cond.code (⟨"jdk/internal/util/Preconditions", "checkFromToIndex", "(IIILjava/util/function/BiFunction;)I"⟩ : MethodName) jdk_41_method_12_code 4 (some .int) :: ws) ({ frames := 0, cells := 0, slots := 0, locals := 0 } : Room)) (fun a U => a = #[(.int (oi u)), (.int (oi r)), (.int (oi N)), fo] ∧ Z.Warmed39 U.vm ∧ U.heap = h0) (fun _ _ _ _ _ => True) (fun _ U o U' => ∃ v L, o = .returned v ∧ Q_rcft Z fo u r N h0 n0 v U'.heap L ∧ FrameEnd U o U' L ({ frames := 0, cells := 0, slots := 0, locals := 0 } : Room).cells ({ frames := 0, cells := 0, slots := 0, locals := 0 } : Room).slots) := by
  refine MetFree.of_bodySF (plainFor_of_name pn_rcft) hisR ?_
  intro p e s m args below meth c s₁ Bd hml0 hP hK
  obtain ⟨rfl, hZ, hh⟩ := hP
  have hx := Bd.exec
  have hby := Bd.bytes
  have hml : c.maxLocals = 4 := hml0
  have hown : s.vm.findClass "jdk/internal/util/Preconditions" = some m.cls := findClass_of_methodNamed Bd.named
  have hnm := (name_of_methodNamed Bd.named Bd.method).1
  have X0 : Stand p l e ({ frames := 0, cells := 0, slots := 0, locals := 0 } : Room) s m #[(.int (oi u)), (.int (oi r)), (.int (oi N)), fo] below meth c s₁ [] 0 0 := Stand.of_body Bd
  have e0 : s₁.heap = h0 := by rw [← hh, Bd.state]; rfl
  have N0 := Fr.nil n0
  have pre0 : ∀ t, Steps p.tables e below (s₁.setTop (mkF m 0 #[.val (.int (oi u)), .val (.int (oi r)), .val (.int (oi N)), .val fo] [])) t → Steps p.tables e below (s₁.setTop (entryFrame m #[(.int (oi u)), (.int (oi r)), (.int (oi N)), fo] 4)) t := fun t k => castTop (ef_rcft m (oi u) (oi r) (oi N) fo hfo) k
  refine own_cps fun G hG => ?_
  refine hG ?_
  obtain ⟨fs, hr, hrun, hended, hW, hsame⟩ := X0.leave (v := some (.int (oi u))) (fun h => by rw [Bd.returns] at h; cases h)
  refine ⟨_, _, pre0 _ ?_, hrun, hended, _, _, rfl, ?_, ⟨_, rfl⟩, hW, hsame.mono (by decide) (by decide)⟩
  · show Steps p.tables e below (s₁.setTop (mkF m 0 #[.val (.int (oi u)), .val (.int (oi r)), .val (.int (oi N)), .val fo] [])) _
    refine XS.iloadN X0.here hx rfl (dq hby D26 0 rfl) rfl ?_
    refine XS.ifNo X0.here hx rfl (dq hby D26 1 rfl) rfl ((if0 _ _).trans (flt ((oi_nn (by omega)) : ¬ ((oi u) < (0 : Int32)))).1) ?_
    refine XS.iloadN X0.here hx rfl (dq hby D26 2 rfl) rfl ?_
    refine XS.iloadN X0.here hx rfl (dq hby D26 3 rfl) rfl ?_
    refine XS.icmpNo X0.here hx rfl (dq hby D26 4 rfl) rfl (flt ((by rw [oi_lt (by omega) (by omega)]; omega) : ¬ ((oi r) < (oi u)))).2.2.1 ?_
    refine XS.iloadN X0.here hx rfl (dq hby D26 5 rfl) rfl ?_
    refine XS.iloadN X0.here hx rfl (dq hby D26 6 rfl) rfl ?_
    refine XS.icmpYes X0.here hx rfl (pc0 := 11) (pc' := 22) rfl (dq hby D26 7 rfl) rfl (flt ((by rw [oi_lt (by omega) (by omega)]; omega) : ¬ ((oi N) < (oi r)))).2.2.2 (by decide) (by decide) ?_
    refine XS.iloadN X0.here hx rfl (dq hby D26 8 rfl) rfl ?_
    exact retI X0 hx Bd.returns (dq hby D26 9 rfl) hr
  · show Q_rcft Z fo u r N h0 n0 _ s₁.heap _
    rw [e0]
    exact ⟨rfl, N0, rfl⟩
theorem D25 : ∀ x ∈ ([(0, .iload_n 0, 1), (1, .iload_n 1, 1), (2, .iload_n 2, 1), (3, .getstatic 1053, 3), (6, .invokestatic 1062, 3), (9, .pop, 1), (10, .return_, 1)] : List (Nat × Instr × Nat)), decode jdk_42_method_158_code x.1 = .ok x.2 := by decide +kernel
theorem pn_rcbb : plainName "java/lang/String" = true := by first | (simp [plainName, overriddenIn]; done) | decide +kernel
theorem ef_rcbb (m : MethodId) (x0 : Int32) (x1 : Int32) (x2 : Int32) : entryFrame m #[(.int x0), (.int x1), (.int x2)] 3 = mkF m 0 #[.val (.int x0), .val (.int x1), .val (.int x2)] [] := by first | (simp [entryFrame, mkF, argsToLocals, Value.category]; done) | rfl
def Q_rcbb (Z : State)  (u r N : Nat) (fo : Value) (h0 : Heap) (n0 : Nat) (v : Option Value) (h : Heap) (L : List Loc) : Prop := v = none ∧ Fr n0 L ∧ h = h0
set_option maxRecDepth 65536 in
set_option maxHeartbeats 40000000 in
theorem rcbb (l : Launch) (Z : State) (a0 : Array Value) (hw : ∀ d ∈ tables_1, d.before a0 Z = true) (ws : List Jvm.Cond)  (u r N : Nat) (fo : Value) (h0 : Heap) (n0 : Nat) (Z0 : n0 ≤ h0.size) (Fp0 : Sta Z h0 "jdk/internal/util/Preconditions" "SIOOBE_FORMATTER" "Ljava/util/function/BiFunction;" fo) (hfo : fo.isRef = true) (hur : u ≤ r) (hrN : r ≤ N) (hN : N < 1000) :
    MetFree l (⟨"java/lang/String", "checkBoundsBeginEnd", "(III)V"⟩ : MethodName) (head1 (Jvm.Cond.code (⟨"java/lang/String", "checkBoundsBeginEnd", "(III)V"⟩ : MethodName) jdk_42_method_158_code 3 none :: ws) ({ frames := 1, cells := 0, slots := 0, locals := 15 } : Room)) (fun a U => a = #[(.int (oi u)), (.int (oi r)), (.int (oi N))] ∧ Z.Warmed39 U.vm ∧ U.heap = h0) (fun _ _ _ _ _ => True) (fun _ U o U' => ∃ v L, o = .returned v ∧ Q_rcbb Z  u r N fo h0 n0 v U'.heap L ∧ FrameEnd U o U' L ({ frames := 1, cells := 0, slots := 0, locals := 15 } : Room).cells ({ frames := 1, cells := 0, slots := 0, locals := 15 } : Room).slots) := by
  refine MetFree.of_bodySF (plainFor_of_name pn_rcbb) hisR ?_
  intro p e s m args below meth c s₁ Bd hml0 hP hK
  obtain ⟨rfl, hZ, hh⟩ := hP
  have hx := Bd.exec
  have hby := Bd.bytes
  have hml : c.maxLocals = 3 := hml0
  have hown : s.vm.findClass "java/lang/String" = some m.cls := findClass_of_methodNamed Bd.named
  have hnm := (name_of_methodNamed Bd.named Bd.method).1
  have X0 : Stand p l e ({ frames := 1, cells := 0, slots := 0, locals := 15 } : Room) s m #[(.int (oi u)), (.int (oi r)), (.int (oi N))] below meth c s₁ [] 0 0 := Stand.of_body Bd
  have e0 : s₁.heap = h0 := by rw [← hh, Bd.state]; rfl
  have N0 := Fr.nil n0
  have pre0 : ∀ t, Steps p.tables e below (s₁.setTop (mkF m 0 #[.val (.int (oi u)), .val (.int (oi r)), .val (.int (oi N))] [])) t → Steps p.tables e below (s₁.setTop (entryFrame m #[(.int (oi u)), (.int (oi r)), (.int (oi N))] 3)) t := fun t k => castTop (ef_rcbb m (oi u) (oi r) (oi N)) k
  refine own_cps fun G hG => ?_
  obtain ⟨T1, X1, e1, st1⟩ := getS2 X0 hx hZ hown (host := "") (Or.inl (wq hw 151 rfl)) Via.refl e0 Fp0 (g := (mkF m 3 #[.val (.int (oi u)), .val (.int (oi r)), .val (.int (oi N))] [(.int (oi N)), (.int (oi r)), (.int (oi u))])) rfl (dq hby D25 3 rfl)
  obtain ⟨_, _, ⟨T2, L2, k2, n2⟩, -, X2, ⟨Lc2, hQ2, l2, y2, z2⟩, st2⟩ := Jvm.LawKit.callS X1 hx (y := (⟨"jdk/internal/util/Preconditions", "checkFromToIndex", "(IIILjava/util/function/BiFunction;)I"⟩ : MethodName)) hown (mvT hZ (wq hw 152 rfl)) (mvT hZ (wq hw 153 rfl)) (mvT hZ (wq hw 122 rfl)) (mvT hZ (wq hw 154 rfl)) (by decide) (backOf (W := 0) (rcft l Z a0 hw [] fo (u) (r) (N) h0 n0 Z0 hfo hur hrN hN) hZ (wq hw 154 rfl) (wq hw 122 rfl) (by decide) (by decide)) (g := (mkF m 6 #[.val (.int (oi u)), .val (.int (oi r)), .val (.int (oi N))] [fo, (.int (oi N)), (.int (oi r)), (.int (oi u))])) rfl (by rw [hml]; rfl) (argsL := [(.int (oi u)), (.int (oi r)), (.int (oi N)), fo]) (rest := []) (lenOf pd_7 rfl) rfl (by show 2 * 0 + _ ≤ _; exact Nat.le_of_eq rfl) (dq hby D25 4 rfl) (fun _ _ => ⟨rfl, e1, (by decide : 0 + 0 ≤ _), (by decide : 0 + 0 ≤ _)⟩)
  dsimp only [Pt.U, Pt.locs, Pt.cells, Pt.slots] at X2 l2 y2 z2 st2 hQ2
  subst l2 y2 z2
  obtain ⟨rfl, N2q, e2⟩ := hQ2
  have N2 := Fr.app N0 N2q
  refine hG ?_
  obtain ⟨fs, hr, hrun, hended, hW, hsame⟩ := X2.leave (v := none) (fun _ => rfl)
  refine ⟨_, _, pre0 _ ?_, hrun, hended, _, _, rfl, ?_, ⟨_, rfl⟩, hW, hsame.mono (by decide) (by decide)⟩
  · show Steps p.tables e below (s₁.setTop (mkF m 0 #[.val (.int (oi u)), .val (.int (oi r)), .val (.int (oi N))] [])) _
    refine XS.iloadN X0.here hx rfl (dq hby D25 0 rfl) rfl ?_
    refine XS.iloadN X0.here hx rfl (dq hby D25 1 rfl) rfl ?_
    refine XS.iloadN X0.here hx rfl (dq hby D25 2 rfl) rfl ?_
    refine st1 _ ?_
    show Steps p.tables e below (T1.setTop (mkF m 6 #[.val (.int (oi u)), .val (.int (oi r)), .val (.int (oi N))] [fo, (.int (oi N)), (.int (oi r)), (.int (oi u))])) _
    refine st2 _ ?_
    refine XS.pop X2.here hx rfl (dq hby D25 5 rfl) rfl rfl ?_
    exact X2.returnOut hx Bd.returns (dq hby D25 6 rfl) hr
  · show Q_rcbb Z  u r N fo h0 n0 _ T2.heap _
    rw [e2]
    exact ⟨rfl, N2, rfl⟩
theorem D45 : ∀ x ∈ ([(0, .iload_n 0, 1), (1, .iload_n 1, 1), (2, .aload_n 2, 1), (3, .invokestatic 48, 3), (6, .invokestatic 419, 3), (9, .pop, 1), (10, .return_, 1)] : List (Nat × Instr × Nat)), decode jdk_52_method_94_code x.1 = .ok x.2 := by decide +kernel
theorem pn_rcbu : plainName "java/lang/StringUTF16" = true := by first | (simp [plainName, overriddenIn]; done) | decide +kernel
theorem ef_rcbu (m : MethodId) (x0 : Int32) (x1 : Int32) (x2 : Addr) : entryFrame m #[(.int x0), (.int x1), (.ref x2)] 3 = mkF m 0 #[.val (.int x0), .val (.int x1), .val (.ref x2)] [] := by first | (simp [entryFrame, mkF, argsToLocals, Value.category]; done) | rfl
def Q_rcbu (Z : State) (a3 : Addr) (u r M : Nat) (g : Nat → Int32) (fo : Value) (h0 : Heap) (n0 : Nat) (v : Option Value) (h : Heap) (L : List Loc) : Prop := v = none ∧ Fr n0 L ∧ h = h0
set_option maxRecDepth 65536 in
set_option maxHeartbeats 40000000 in
theorem rcbu (l : Launch) (Z : State) (a0 : Array Value) (hw : ∀ d ∈ tables_1, d.before a0 Z = true) (ws : List Jvm.Cond) (a3 : Addr) (u r M : Nat) (g : Nat → Int32) (fo : Value) (h0 : Heap) (n0 : Nat) (Z0 : n0 ≤ h0.size) (Fp0 : ArF Z h0 a3 .byte (2 * M) (fun j => .int (g j))) (Fp1 : Sta Z h0 "jdk/internal/util/Preconditions" "SIOOBE_FORMATTER" "Ljava/util/function/BiFunction;" fo) (hfo : fo.isRef = true) (hur : u + r ≤ M) (hM : M = 1 ∨ M = 2) :
    MetFree l (⟨"java/lang/StringUTF16", "checkBoundsOffCount", "(II[B)V"⟩ : MethodName) (head1 (Jvm.Cond.code (⟨"java/lang/StringUTF16", "checkBoundsOffCount", "(II[B)V"⟩ : MethodName) jdk_52_method_94_code 3 none :: ws) ({ frames := 2, cells := 0, slots := 0, locals := 29 } : Room)) (fun a U => a = #[(.int (oi u)), (.int (oi r)), (.ref a3)] ∧ Z.Warmed39 U.vm ∧ U.heap = h0) (fun _ _ _ _ _ => True) (fun _ U o U' => ∃ v L, o = .returned v ∧ Q_rcbu Z a3 u r M g fo h0 n0 v U'.heap L ∧ FrameEnd U o U' L ({ frames := 2, cells := 0, slots := 0, locals := 29 } : Room).cells ({ frames := 2, cells := 0, slots := 0, locals := 29 } : Room).slots) := by
  refine MetFree.of_bodySF (plainFor_of_name pn_rcbu) hisR ?_
  intro p e s m args below meth c s₁ Bd hml0 hP hK
  obtain ⟨rfl, hZ, hh⟩ := hP
  have hx := Bd.exec
  have hby := Bd.bytes
  have hml : c.maxLocals = 3 := hml0
  have hown : s.vm.findClass "java/lang/StringUTF16" = some m.cls := findClass_of_methodNamed Bd.named
  have hnm := (name_of_methodNamed Bd.named Bd.method).1
  have X0 : Stand p l e ({ frames := 2, cells := 0, slots := 0, locals := 29 } : Room) s m #[(.int (oi u)), (.int (oi r)), (.ref a3)] below meth c s₁ [] 0 0 := Stand.of_body Bd
  have e0 : s₁.heap = h0 := by rw [← hh, Bd.state]; rfl
  have N0 := Fr.nil n0
  have pre0 : ∀ t, Steps p.tables e below (s₁.setTop (mkF m 0 #[.val (.int (oi u)), .val (.int (oi r)), .val (.ref a3)] [])) t → Steps p.tables e below (s₁.setTop (entryFrame m #[(.int (oi u)), (.int (oi r)), (.ref a3)] 3)) t := fun t k => castTop (ef_rcbu m (oi u) (oi r) a3) k
  refine own_cps fun G hG => ?_
  obtain ⟨_, _, ⟨T1, L1, k1, n1⟩, -, X1, ⟨Lc1, hQ1, l1, y1, z1⟩, st1⟩ := Jvm.LawKit.callS X0 hx (y := (⟨"java/lang/StringUTF16", "length", "([B)I"⟩ : MethodName)) hown (mvT hZ (wq hw 225 rfl)) (mvT hZ (wq hw 226 rfl)) (mvT hZ (wq hw 45 rfl)) (mvT hZ (wq hw 227 rfl)) (by decide) (backOf (W := 2) (rulen l Z a0 hw [] a3 M g h0 n0 Z0 Fp0 hM) hZ (wq hw 227 rfl) (wq hw 45 rfl) (by decide) (by decide)) (g := (mkF m 3 #[.val (.int (oi u)), .val (.int (oi r)), .val (.ref a3)] [(.ref a3), (.int (oi r)), (.int (oi u))])) rfl (by rw [hml]; rfl) (argsL := [(.ref a3)]) (rest := [(.int (oi r)), (.int (oi u))]) (lenOf pd_8 rfl) rfl (by show 2 * 0 + _ ≤ _; exact Nat.le_of_eq rfl) (dq hby D45 3 rfl) (fun _ _ => ⟨rfl, e0, (by decide : 0 + 0 ≤ _), (by decide : 0 + 0 ≤ _)⟩)
  dsimp only [Pt.U, Pt.locs, Pt.cells, Pt.slots] at X1 l1 y1 z1 st1 hQ1
  subst l1 y1 z1
  obtain ⟨rfl, N1q, e1⟩ := hQ1
  have N1 := Fr.app N0 N1q
  obtain ⟨_, _, ⟨T2, L2, k2, n2⟩, -, X2, ⟨Lc2, hQ2, l2, y2, z2⟩, st2⟩ := Jvm.LawKit.callS X1 hx (y := (⟨"java/lang/String", "checkBoundsOffCount", "(III)I"⟩ : MethodName)) hown (mvT hZ (wq hw 228 rfl)) (mvT hZ (wq hw 156 rfl)) (mvT hZ (wq hw 32 rfl)) (mvT hZ (wq hw 157 rfl)) (by decide) (backOf (W := 0) (rcbo l Z a0 hw [] (u) (r) (M) fo h0 n0 Z0 Fp1 hfo (by omega) (by omega)) hZ (wq hw 157 rfl) (wq hw 32 rfl) (by decide) (by decide)) (g := (mkF m 6 #[.val (.int (oi u)), .val (.int (oi r)), .val (.ref a3)] [(.int (oi M)), (.int (oi r)), (.int (oi u))])) rfl (by rw [hml]; rfl) (argsL := [(.int (oi u)), (.int (oi r)), (.int (oi M))]) (rest := []) (lenOf pd_9 rfl) rfl (by show 2 * 0 + _ ≤ _; exact Nat.le_of_eq rfl) (dq hby D45 4 rfl) (fun _ _ => ⟨rfl, e1, (by decide : 0 + 0 ≤ _), (by decide : 0 + 0 ≤ _)⟩)
  dsimp only [Pt.U, Pt.locs, Pt.cells, Pt.slots] at X2 l2 y2 z2 st2 hQ2
  subst l2 y2 z2
  obtain ⟨rfl, N2q, e2⟩ := hQ2
  have N2 := Fr.app N1 N2q
  refine hG ?_
  obtain ⟨fs, hr, hrun, hended, hW, hsame⟩ := X2.leave (v := none) (fun _ => rfl)
  refine ⟨_, _, pre0 _ ?_, hrun, hended, _, _, rfl, ?_, ⟨_, rfl⟩, hW, hsame.mono (by decide) (by decide)⟩
  · show Steps p.tables e below (s₁.setTop (mkF m 0 #[.val (.int (oi u)), .val (.int (oi r)), .val (.ref a3)] [])) _
    refine XS.iloadN X0.here hx rfl (dq hby D45 0 rfl) rfl ?_
    refine XS.iloadN X0.here hx rfl (dq hby D45 1 rfl) rfl ?_
    refine XS.aloadN X0.here hx rfl (dq hby D45 2 rfl) rfl rfl ?_
    refine st1 _ ?_
    refine st2 _ ?_
    refine XS.pop X2.here hx rfl (dq hby D45 5 rfl) rfl rfl ?_
    exact X2.returnOut hx Bd.returns (dq hby D45 6 rfl) hr
  · show Q_rcbu Z a3 u r M g fo h0 n0 _ T2.heap _
    rw [e2]
    exact ⟨rfl, N2, rfl⟩
theorem D23 : ∀ x ∈ ([(0, .getstatic 38, 3), (3, .ifCond .eq 10, 3), (6, .aload_n 0, 1), (7, .getfield 15, 3), (10, .goto 4, 3), (14, .ireturn, 1)] : List (Nat × Instr × Nat)), decode jdk_42_method_152_code x.1 = .ok x.2 := by decide +kernel
theorem pn_rcod : plainName "java/lang/String" = true := by first | (simp [plainName, overriddenIn]; done) | decide +kernel
theorem ef_rcod (m : MethodId) (x0 : Addr) : entryFrame m #[(.ref x0)] 1 = mkF m 0 #[.val (.ref x0)] [] := by first | (simp [entryFrame, mkF, argsToLocals, Value.category]; done) | rfl
def Q_rcod (Z : State) (a1 : Addr) (cs cd : Int32) (h0 : Heap) (n0 : Nat) (v : Option Value) (h : Heap) (L : List Loc) : Prop := v = some (.int cd) ∧ Fr n0 L ∧ h = h0
set_option maxRecDepth 65536 in
set_option maxHeartbeats 40000000 in
theorem rcod (l : Launch) (Z : State) (a0 : Array Value) (hw : ∀ d ∈ tables_1, d.before a0 Z = true) (ws : List Jvm.Cond) (a1 : Addr) (cs cd : Int32) (h0 : Heap) (n0 : Nat) (Z0 : n0 ≤ h0.size) (Fp0 : Sta Z h0 "java/lang/String" "COMPACT_STRINGS" "Z" (.int cs)) (Fp1 : Fld Z h0 a1 "java/lang/String" "coder" "B" (.int cd)) (hcs : ¬ cs = 0) (hcd : cd = 0 ∨ cd = 1) :
    MetFree l (⟨"java/lang/String", "coder", "()B"⟩ : MethodName) (head1 (Jvm.Cond.code (⟨"java/lang/String", "coder", "()B"⟩ : MethodName) jdk_42_method_152_code 1 (some .byte) :: ws) ({ frames := 0, cells := 0, slots := 0, locals := 0 } : Room)) (fun a U => a = #[(.ref a1)] ∧ Z.Warmed39 U.vm ∧ U.heap = h0) (fun _ _ _ _ _ => True) (fun _ U o U' => ∃ v L, o = .returned v ∧ Q_rcod Z a1 cs cd h0 n0 v U'.heap L ∧ FrameEnd U o U' L ({ frames := 0, cells := 0, slots := 0, locals := 0 } : Room).cells ({ frames := 0, cells := 0, slots := 0, locals := 0 } : Room).slots) := by
  refine MetFree.of_bodySF (plainFor_of_name pn_rcod) hisR ?_
  intro p e s m args below meth c s₁ Bd hml0 hP hK
  obtain ⟨rfl, hZ, hh⟩ := hP
  have hx := Bd.exec
  have hby := Bd.bytes
  have hml : c.maxLocals = 1 := hml0
  have hown : s.vm.findClass "java/lang/String" = some m.cls := findClass_of_methodNamed Bd.named
  have hnm := (name_of_methodNamed Bd.named Bd.method).1
  have X0 : Stand p l e ({ frames := 0, cells := 0, slots := 0, locals := 0 } : Room) s m #[(.ref a1)] below meth c s₁ [] 0 0 := Stand.of_body Bd
  have e0 : s₁.heap = h0 := by rw [← hh, Bd.state]; rfl
  have N0 := Fr.nil n0
  have pre0 : ∀ t, Steps p.tables e below (s₁.setTop (mkF m 0 #[.val (.ref a1)] [])) t → Steps p.tables e below (s₁.setTop (entryFrame m #[(.ref a1)] 1)) t := fun t k => castTop (ef_rcod m a1) k
  refine own_cps fun G hG => ?_
  obtain ⟨T1, X1, e1, st1⟩ := getS2 X0 hx hZ hown (host := "") (Or.inl (wq hw 42 rfl)) Via.refl e0 Fp0 (g := (mkF m 0 #[.val (.ref a1)] [])) rfl (dq hby D23 0 rfl)
  obtain ⟨T2, X2, e2, st2⟩ := getF X1 hx hZ hown (host := "") (Or.inl (wq hw 54 rfl)) Via.refl e1 Fp1 (g := (mkF m 7 #[.val (.ref a1)] [(.ref a1)])) rfl rfl (dq hby D23 3 rfl)
  refine hG ?_
  obtain ⟨fs, hr, hrun, hended, hW, hsame⟩ := X2.leave (v := some (.int (nar .byte cd))) (fun h => by rw [Bd.returns] at h; cases h)
  refine ⟨_, _, pre0 _ ?_, hrun, hended, _, _, rfl, ?_, ⟨_, rfl⟩, hW, hsame.mono (by decide) (by decide)⟩
  · show Steps p.tables e below (s₁.setTop (mkF m 0 #[.val (.ref a1)] [])) _
    refine st1 _ ?_
    refine XS.ifNo X1.here hx rfl (dq hby D23 1 rfl) rfl ((if0 _ _).trans (feq (hcs : ¬ (cs = (0 : Int32)))).1) ?_
    refine XS.aloadN X1.here hx rfl (dq hby D23 2 rfl) rfl rfl ?_
    refine st2 _ ?_
    refine XS.goto X2.here hx rfl (pc0 := 10) (pc' := 14) rfl (dq hby D23 4 rfl) (by decide) (by decide) ?_
    exact retN X2 hx (t := .byte) Bd.returns (by simp) (dq hby D23 5 rfl) hr
  · show Q_rcod Z a1 cs cd h0 n0 _ T2.heap _
    rw [e2]
    exact ⟨by rcases hcd with rfl | rfl <;> rfl, N0, rfl⟩
theorem D29 : ∀ x ∈ ([(0, .getstatic 38, 3), (3, .ifCond .eq 14, 3), (6, .aload_n 0, 1), (7, .getfield 15, 3), (10, .ifCond .ne 7, 3), (13, .iconst 1, 1), (14, .goto 4, 3), (17, .iconst 0, 1), (18, .ireturn, 1)] : List (Nat × Instr × Nat)), decode jdk_42_method_154_code x.1 = .ok x.2 := by decide +kernel
theorem pn_rlat : plainName "java/lang/String" = true := by first | (simp [plainName, overriddenIn]; done) | decide +kernel
theorem ef_rlat (m : MethodId) (x0 : Addr) : entryFrame m #[(.ref x0)] 1 = mkF m 0 #[.val (.ref x0)] [] := by first | (simp [entryFrame, mkF, argsToLocals, Value.category]; done) | rfl
def Q_rlat (Z : State) (a1 : Addr) (cs cd : Int32) (h0 : Heap) (n0 : Nat) (v : Option Value) (h : Heap) (L : List Loc) : Prop := ∃ y : Int32, v = some (.int y) ∧ Fr n0 L ∧ h = h0 ∧ ((cd = 0 ∧ y = 1) ∨ (¬ cd = 0 ∧ y = 0))
set_option maxRecDepth 65536 in
set_option maxHeartbeats 40000000 in
theorem rlat (l : Launch) (Z : State) (a0 : Array Value) (hw : ∀ d ∈ tables_1, d.before a0 Z = true) (ws : List Jvm.Cond) (a1 : Addr) (cs cd : Int32) (h0 : Heap) (n0 : Nat) (Z0 : n0 ≤ h0.size) (Fp0 : Sta Z h0 "java/lang/String" "COMPACT_STRINGS" "Z" (.int cs)) (Fp1 : Fld Z h0 a1 "java/lang/String" "coder" "B" (.int cd)) (hcs : ¬ cs = 0) :
    MetFree l (⟨"java/lang/String", "isLatin1", "()Z"⟩ : MethodName) (head1 (Jvm.Cond.code (⟨"java/lang/String", "isLatin1", "()Z"⟩ : MethodName) jdk_42_method_154_code 1 (some .boolean) :: ws) ({ frames := 0, cells := 0, slots := 0, locals := 0 } : Room)) (fun a U => a = #[(.ref a1)] ∧ Z.Warmed39 U.vm ∧ U.heap = h0) (fun _ _ _ _ _ => True) (fun _ U o U' => ∃ v L, o = .returned v ∧ Q_rlat Z a1 cs cd h0 n0 v U'.heap L ∧ FrameEnd U o U' L ({ frames := 0, cells := 0, slots := 0, locals := 0 } : Room).cells ({ frames := 0, cells := 0, slots := 0, locals := 0 } : Room).slots) := by
  refine MetFree.of_bodySF (plainFor_of_name pn_rlat) hisR ?_
  intro p e s m args below meth c s₁ Bd hml0 hP hK
  obtain ⟨rfl, hZ, hh⟩ := hP
  have hx := Bd.exec
  have hby := Bd.bytes
  have hml : c.maxLocals = 1 := hml0
  have hown : s.vm.findClass "java/lang/String" = some m.cls := findClass_of_methodNamed Bd.named
  have hnm := (name_of_methodNamed Bd.named Bd.method).1
  have X0 : Stand p l e ({ frames := 0, cells := 0, slots := 0, locals := 0 } : Room) s m #[(.ref a1)] below meth c s₁ [] 0 0 := Stand.of_body Bd
  have e0 : s₁.heap = h0 := by rw [← hh, Bd.state]; rfl
  have N0 := Fr.nil n0
  have pre0 : ∀ t, Steps p.tables e below (s₁.setTop (mkF m 0 #[.val (.ref a1)] [])) t → Steps p.tables e below (s₁.setTop (entryFrame m #[(.ref a1)] 1)) t := fun t k => castTop (ef_rlat m a1) k
  refine own_cps fun G hG => ?_
  obtain ⟨T1, X1, e1, st1⟩ := getS2 X0 hx hZ hown (host := "") (Or.inl (wq hw 42 rfl)) Via.refl e0 Fp0 (g := (mkF m 0 #[.val (.ref a1)] [])) rfl (dq hby D29 0 rfl)
  obtain ⟨T2, X2, e2, st2⟩ := getF X1 hx hZ hown (host := "") (Or.inl (wq hw 54 rfl)) Via.refl e1 Fp1 (g := (mkF m 7 #[.val (.ref a1)] [(.ref a1)])) rfl rfl (dq hby D29 3 rfl)
  have pre3 : ∀ t, Steps p.tables e below (T2.setTop (mkF m 10 #[.val (.ref a1)] [(.int cd)])) t → Steps p.tables e below (s₁.setTop (entryFrame m #[(.ref a1)] 1)) t := by
    intro t k
    refine pre0 t ?_
    refine st1 _ ?_
    refine XS.ifNo X1.here hx rfl (dq hby D29 1 rfl) rfl ((if0 _ _).trans (feq (hcs : ¬ (cs = (0 : Int32)))).1) ?_
    refine XS.aloadN X1.here hx rfl (dq hby D29 2 rfl) rfl rfl ?_
    refine st2 _ ?_
    exact k
  by_cases hc10_4 : cd = (0 : Int32)
  · refine hG ?_
    obtain ⟨fs, hr, hrun, hended, hW, hsame⟩ := X2.leave (v := some (.int (1 : Int32))) (fun h => by rw [Bd.returns] at h; cases h)
    refine ⟨_, _, pre3 _ ?_, hrun, hended, _, _, rfl, ?_, ⟨_, rfl⟩, hW, hsame.mono (by decide) (by decide)⟩
    · show Steps p.tables e below (T2.setTop (mkF m 10 #[.val (.ref a1)] [(.int cd)])) _
      refine XS.ifNo X2.here hx rfl (dq hby D29 4 rfl) rfl ((if0 _ _).trans (teq hc10_4).2) ?_
      refine XS.iconst X2.here hx rfl (dq hby D29 5 rfl) ?_
      refine XS.goto X2.here hx rfl (pc0 := 14) (pc' := 18) rfl (dq hby D29 6 rfl) (by decide) (by decide) ?_
      exact retN X2 hx (t := .boolean) Bd.returns (by simp) (dq hby D29 8 rfl) hr
    · show Q_rlat Z a1 cs cd h0 n0 _ T2.heap _
      rw [e2]
      exact ⟨_, rfl, N0, rfl, Or.inl ⟨hc10_4, rfl⟩⟩
  · refine hG ?_
    obtain ⟨fs, hr, hrun, hended, hW, hsame⟩ := X2.leave (v := some (.int (0 : Int32))) (fun h => by rw [Bd.returns] at h; cases h)
    refine ⟨_, _, pre3 _ ?_, hrun, hended, _, _, rfl, ?_, ⟨_, rfl⟩, hW, hsame.mono (by decide) (by decide)⟩
    · show Steps p.tables e below (T2.setTop (mkF m 10 #[.val (.ref a1)] [(.int cd)])) _
      refine XS.ifYes X2.here hx rfl (pc0 := 10) (pc' := 17) rfl (dq hby D29 4 rfl) rfl ((if0 _ _).trans (feq hc10_4).2) (by decide) (by decide) ?_
      show Steps p.tables e below (T2.setTop (mkF m 17 #[.val (.ref a1)] [])) _
      refine XS.iconst X2.here hx rfl (dq hby D29 7 rfl) ?_
      exact retN X2 hx (t := .boolean) Bd.returns (by simp) (dq hby D29 8 rfl) hr
    · show Q_rlat Z a1 cs cd h0 n0 _ T2.heap _
      rw [e2]
      exact ⟨_, rfl, N0, rfl, Or.inr ⟨hc10_4, rfl⟩⟩
theorem D22 : ∀ x ∈ ([(0, .aload_n 0, 1), (1, .getfield 9, 3), (4, .arraylength, 1), (5, .aload_n 0, 1), (6, .invokevirtual 335, 3), (9, .ishr, 1), (10, .ireturn, 1)] : List (Nat × Instr × Nat)), decode jdk_42_method_54_code x.1 = .ok x.2 := by decide +kernel
theorem pn_rlen : plainName "java/lang/String" = true := by first | (simp [plainName, overriddenIn]; done) | decide +kernel
theorem ef_rlen (m : MethodId) (x0 : Addr) : entryFrame m #[(.ref x0)] 1 = mkF m 0 #[.val (.ref x0)] [] := by first | (simp [entryFrame, mkF, argsToLocals, Value.category]; done) | rfl
def Q_rlen (Z : State) (a1 : Addr) (bb : Addr) (cs cd : Int32) (N nb : Nat) (g : Nat → Int32) (h0 : Heap) (n0 : Nat) (v : Option Value) (h : Heap) (L : List Loc) : Prop := v = some (.int (oi N)) ∧ Fr n0 L ∧ h = h0
set_option maxRecDepth 65536 in
set_option maxHeartbeats 40000000 in
theorem rlen (l : Launch) (Z : State) (a0 : Array Value) (hw : ∀ d ∈ tables_1, d.before a0 Z = true) (ws : List Jvm.Cond) (a1 : Addr) (bb : Addr) (cs cd : Int32) (N nb : Nat) (g : Nat → Int32) (h0 : Heap) (n0 : Nat) (Z0 : n0 ≤ h0.size) (Fp0 : Sta Z h0 "java/lang/String" "COMPACT_STRINGS" "Z" (.int cs)) (Fp1 : Exa Z h0 a1 "java/lang/String") (Fp2 : Fld Z h0 a1 "java/lang/String" "value" "[B" (.ref bb)) (Fp3 : Fld Z h0 a1 "java/lang/String" "coder" "B" (.int cd)) (Fp4 : ArF Z h0 bb .byte nb (fun j => .int (g j))) (hcs : ¬ cs = 0) (hsd : ((cd = 0 ∧ nb = N) ∨ (cd = 1 ∧ nb = 2 * N))) (hN : N = 1 ∨ N = 2) :
    MetFree l (⟨"java/lang/String", "length", "()I"⟩ : MethodName) (head1 (Jvm.Cond.code (⟨"java/lang/String", "length", "()I"⟩ : MethodName) jdk_42_method_54_code 1 (some .int) :: ws) ({ frames := 1, cells := 0, slots := 0, locals := 13 } : Room)) (fun a U => a = #[(.ref a1)] ∧ Z.Warmed39 U.vm ∧ U.heap = h0) (fun _ _ _ _ _ => True) (fun _ U o U' => ∃ v L, o = .returned v ∧ Q_rlen Z a1 bb cs cd N nb g h0 n0 v U'.heap L ∧ FrameEnd U o U' L ({ frames := 1, cells := 0, slots := 0, locals := 13 } : Room).cells ({ frames := 1, cells := 0, slots := 0, locals := 13 } : Room).slots) := by
  refine MetFree.of_bodySF (plainFor_of_name pn_rlen) hisR ?_
  intro p e s m args below meth c s₁ Bd hml0 hP hK
  obtain ⟨rfl, hZ, hh⟩ := hP
  have hx := Bd.exec
  have hby := Bd.bytes
  have hml : c.maxLocals = 1 := hml0
  have hown : s.vm.findClass "java/lang/String" = some m.cls := findClass_of_methodNamed Bd.named
  have hnm := (name_of_methodNamed Bd.named Bd.method).1
  have X0 : Stand p l e ({ frames := 1, cells := 0, slots := 0, locals := 13 } : Room) s m #[(.ref a1)] below meth c s₁ [] 0 0 := Stand.of_body Bd
  have e0 : s₁.heap = h0 := by rw [← hh, Bd.state]; rfl
  have N0 := Fr.nil n0
  have pre0 : ∀ t, Steps p.tables e below (s₁.setTop (mkF m 0 #[.val (.ref a1)] [])) t → Steps p.tables e below (s₁.setTop (entryFrame m #[(.ref a1)] 1)) t := fun t k => castTop (ef_rlen m a1) k
  refine own_cps fun G hG => ?_
  obtain ⟨T1, X1, e1, st1⟩ := getF X0 hx hZ hown (host := "") (Or.inl (wq hw 56 rfl)) Via.refl e0 Fp2 (g := (mkF m 1 #[.val (.ref a1)] [(.ref a1)])) rfl rfl (dq hby D22 1 rfl)
  obtain ⟨cl2, Ar2, S2, H2⟩ := id Fp4
  replace S2 : Sq cl2.slots.size _ := S2
  obtain ⟨cq3, kq3, q3a, q3b, q3c⟩ := isOf hZ e1 Fp1
  obtain ⟨_, _, ⟨T3, L3, k3, n3⟩, -, X3, ⟨Lc3, hQ3, l3, y3, z3⟩, st3⟩ := X1.virtualBack hx (y := (⟨"java/lang/String", "coder", "()B"⟩ : MethodName)) (z := (⟨"java/lang/String", "coder", "()B"⟩ : MethodName)) hown (mvT hZ (wq hw 135 rfl)) (mvT hZ (wq hw 136 rfl)) (notFace_of_selects (args := #[]) (mvT hZ (wq hw 138 rfl))) (mvT hZ (wq hw 138 rfl)) (mvT hZ (wq hw 137 rfl)) (by decide) (backOf (W := 1) (rcod l Z a0 hw [] a1 cs cd h0 n0 Z0 Fp0 Fp3 hcs (hsd.imp And.left And.left)) hZ (wq hw 139 rfl) (wq hw 32 rfl) (by decide) (by decide)) q3a q3c (g := (mkF m 6 #[.val (.ref a1)] [(.ref a1), (.int (oi nb))])) rfl (by rw [hml]; rfl) (Steps.refl _) (argsL := []) (rest := [(.int (oi nb))]) (lenOf pd_10 rfl) rfl (by show 2 * 0 + _ ≤ _; exact Nat.le_of_eq rfl) (dq hby D22 4 rfl) (fun _ _ => ⟨rfl, e1, (by decide : 0 + 0 ≤ _), (by decide : 0 + 0 ≤ _)⟩)
  dsimp only [Pt.U, Pt.locs, Pt.cells, Pt.slots] at X3 l3 y3 z3 st3 hQ3
  subst l3 y3 z3
  obtain ⟨rfl, N3q, e3⟩ := hQ3
  have N3 := Fr.app N0 N3q
  refine hG ?_
  obtain ⟨fs, hr, hrun, hended, hW, hsame⟩ := X3.leave (v := some (.int ((oi nb) >>> (cd &&& 31)))) (fun h => by rw [Bd.returns] at h; cases h)
  refine ⟨_, _, pre0 _ ?_, hrun, hended, _, _, rfl, ?_, ⟨_, rfl⟩, hW, hsame.mono (by decide) (by decide)⟩
  · show Steps p.tables e below (s₁.setTop (mkF m 0 #[.val (.ref a1)] [])) _
    refine XS.aloadN X0.here hx rfl (dq hby D22 0 rfl) rfl rfl ?_
    refine st1 _ ?_
    refine X1.arraylength hx (by rw [e1]; exact Ar2.1) (State.isArrayOf_alike hZ.alike Ar2.2.1) (g := (mkF m 4 #[.val (.ref a1)] [(.ref bb)])) rfl rfl (dq hby D22 2 rfl) _ ?_
    rw [show cl2.slots.size.toInt32 = (oi nb) from (congrArg Nat.toInt32 S2).trans rfl]
    refine XS.aloadN X1.here hx rfl (dq hby D22 3 rfl) rfl rfl ?_
    refine st3.trans ?_
    refine XS.ishr X3.here hx rfl (dq hby D22 5 rfl) rfl ?_
    exact retI X3 hx Bd.returns (dq hby D22 6 rfl) hr
  · show Q_rlen Z a1 bb cs cd N nb g h0 n0 _ T3.heap _
    rw [e3]
    exact ⟨by rcases hN with rfl | rfl <;> rcases hsd with ⟨rfl, rfl⟩ | ⟨rfl, rfl⟩ <;> rfl, N3, rfl⟩
theorem D31 : ∀ x ∈ ([(0, .iconst 0, 1), (1, .istore 5, 2), (3, .iload 5, 2), (5, .iload 4, 2), (7, .if_icmp .ge 26, 3), (10, .aload_n 2, 1), (11, .iload_n 3, 1), (12, .iinc 3 1, 3), (15, .aload_n 0, 1), (16, .iload_n 1, 1), (17, .iinc 1 1, 3), (20, .baload, 1), (21, .sipush 255, 3), (24, .iand, 1), (25, .i2c, 1), (26, .castore, 1), (27, .iinc 5 1, 3), (30, .goto (-27), 3), (33, .return_, 1)] : List (Nat × Instr × Nat)), decode jdk_43_method_49_code x.1 = .ok x.2 := by decide +kernel
theorem pn_rinf : plainName "java/lang/StringLatin1" = true := by first | (simp [plainName, overriddenIn]; done) | decide +kernel
theorem ef_rinf (m : MethodId) (x0 : Addr) (x1 : Int32) (x2 : Addr) (x3 : Int32) (x4 : Int32) : entryFrame m #[(.ref x0), (.int x1), (.ref x2), (.int x3), (.int x4)] 6 = mkF m 0 #[.val (.ref x0), .val (.int x1), .val (.ref x2), .val (.int x3), .val (.int x4), .unset] [] := by first | (simp [entryFrame, mkF, argsToLocals, Value.category]; done) | rfl
def Q_rinf (Z : State) (a1 : Addr) (a3 : Addr) (u oo N M nb : Nat) (g f : Nat → Int32) (h0 : Heap) (n0 : Nat) (v : Option Value) (h : Heap) (L : List Loc) : Prop := ∃ f' : Nat → Int32, v = none ∧ Fr n0 L ∧ Keep h0 h [a3] ∧ ArF Z h a3 .char M (fun j => .int (f' j)) ∧ (∀ j, j < M → own_B (f' j))
set_option maxRecDepth 65536 in
set_option maxHeartbeats 40000000 in
theorem rinf (l : Launch) (Z : State) (a0 : Array Value) (hw : ∀ d ∈ tables_1, d.before a0 Z = true) (ws : List Jvm.Cond) (a1 : Addr) (a3 : Addr) (u oo N M nb : Nat) (g f : Nat → Int32) (h0 : Heap) (n0 : Nat) (Z0 : n0 ≤ h0.size) (Fp0 : ArF Z h0 a1 .byte nb (fun j => .int (g j))) (Fp1 : ArF Z h0 a3 .char M (fun j => .int (f j))) (ga : n0 ≤ a3) (n13 : a1 ≠ a3) (huN : u + N ≤ nb) (hoN : oo + N ≤ M) (hnb : nb < 1000) (hM : M < 1000) (hB : ∀ j, j < M → own_B (f j)) :
    MetFree l (⟨"java/lang/StringLatin1", "inflate", "([BI[CII)V"⟩ : MethodName) (head1 (Jvm.Cond.code (⟨"java/lang/StringLatin1", "inflate", "([BI[CII)V"⟩ : MethodName) jdk_43_method_49_code 6 none :: ws) ({ frames := 0, cells := 0, slots := 0, locals := 0 } : Room)) (fun a U => a = #[(.ref a1), (.int (oi u)), (.ref a3), (.int (oi oo)), (.int (oi N))] ∧ Z.Warmed39 U.vm ∧ U.heap = h0) (fun _ _ _ _ _ => True) (fun _ U o U' => ∃ v L, o = .returned v ∧ Q_rinf Z a1 a3 u oo N M nb g f h0 n0 v U'.heap L ∧ FrameEnd U o U' L ({ frames := 0, cells := 0, slots := 0, locals := 0 } : Room).cells ({ frames := 0, cells := 0, slots := 0, locals := 0 } : Room).slots) := by
  refine MetFree.of_bodySF (plainFor_of_name pn_rinf) hisR ?_
  intro p e s m args below meth c s₁ Bd hml0 hP hK
  obtain ⟨rfl, hZ, hh⟩ := hP
  have hx := Bd.exec
  have hby := Bd.bytes
  have hml : c.maxLocals = 6 := hml0
  have hown : s.vm.findClass "java/lang/StringLatin1" = some m.cls := findClass_of_methodNamed Bd.named
  have hnm := (name_of_methodNamed Bd.named Bd.method).1
  have X0 : Stand p l e ({ frames := 0, cells := 0, slots := 0, locals := 0 } : Room) s m #[(.ref a1), (.int (oi u)), (.ref a3), (.int (oi oo)), (.int (oi N))] below meth c s₁ [] 0 0 := Stand.of_body Bd
  have e0 : s₁.heap = h0 := by rw [← hh, Bd.state]; rfl
  have N0 := Fr.nil n0
  have pre0 : ∀ t, Steps p.tables e below (s₁.setTop (mkF m 0 #[.val (.ref a1), .val (.int (oi u)), .val (.ref a3), .val (.int (oi oo)), .val (.int (oi N)), .unset] [])) t → Steps p.tables e below (s₁.setTop (entryFrame m #[(.ref a1), (.int (oi u)), (.ref a3), (.int (oi oo)), (.int (oi N))] 6)) t := fun t k => castTop (ef_rinf m a1 (oi u) a3 (oi oo) (oi N)) k
  have K0 := Keep.refl h0 [a3]
  refine own_cps fun G hG => ?_
  have pre1 : ∀ t, Steps p.tables e below (s₁.setTop (mkF m 3 #[.val (.ref a1), .val (.int (oi u)), .val (.ref a3), .val (.int (oi oo)), .val (.int (oi N)), .val (.int (0 : Int32))] [])) t → Steps p.tables e below (s₁.setTop (entryFrame m #[(.ref a1), (.int (oi u)), (.ref a3), (.int (oi oo)), (.int (oi N))] 6)) t := by
    intro t k
    refine pre0 t ?_
    refine XS.iconst X0.here hx rfl (dq hby D31 0 rfl) ?_
    refine XS.istore X0.here hx rfl (dq hby D31 1 rfl) rfl (l' := #[.val (.ref a1), .val (.int (oi u)), .val (.ref a3), .val (.int (oi oo)), .val (.int (oi N)), .val (.int (0 : Int32))]) rfl ?_
    exact k
  have loop2 : ∀ (k2 : Nat) (TL2 : State) (Lc2 : List Loc) (hL2 : Heap) (i : Nat) (ci : Nat) (di : Nat) (fc : Nat → Int32), Stand p l e ({ frames := 0, cells := 0, slots := 0, locals := 0 } : Room) s m #[(.ref a1), (.int (oi u)), (.ref a3), (.int (oi oo)), (.int (oi N))] below meth c TL2 Lc2 0 0 → TL2.heap = hL2 → Fr n0 Lc2 → Lq n0 hL2.size → Keep h0 hL2 [a3] → ArF Z hL2 a1 .byte nb (fun j => .int (g j)) → ArF Z hL2 a3 .char M (fun j => .int (fc j)) → i + k2 = N → ci = u + i → di = oo + i → (∀ j, j < M → own_B (fc j)) → (∀ t, Steps p.tables e below (TL2.setTop (mkF m 3 #[.val (.ref a1), .val (.int (oi ci)), .val (.ref a3), .val (.int (oi di)), .val (.int (oi N)), .val (.int (oi i))] [])) t → Steps p.tables e below (s₁.setTop (entryFrame m #[(.ref a1), (.int (oi u)), (.ref a3), (.int (oi oo)), (.int (oi N))] 6)) t) → G := by
    intro k2
    induction k2 with
    | zero =>
      intro TL2 Lc2 hL2 i ci di fc XL2 eL2 NL2 ZL2 KL2 lf2_0_v2 lf2_1_v2 hk hci hdi hBf prL2
      refine hG ?_
      obtain ⟨fs, hr, hrun, hended, hW, hsame⟩ := XL2.leave (v := none) (fun _ => rfl)
      refine ⟨_, _, prL2 _ ?_, hrun, hended, _, _, rfl, ?_, ⟨_, rfl⟩, hW, hsame.mono (by decide) (by decide)⟩
      · show Steps p.tables e below (TL2.setTop (mkF m 3 #[.val (.ref a1), .val (.int (oi ci)), .val (.ref a3), .val (.int (oi di)), .val (.int (oi N)), .val (.int (oi i))] [])) _
        refine XS.iload XL2.here hx rfl (dq hby D31 2 rfl) rfl ?_
        refine XS.iload XL2.here hx rfl (dq hby D31 3 rfl) rfl ?_
        refine XS.icmpYes XL2.here hx rfl (pc0 := 7) (pc' := 33) rfl (dq hby D31 4 rfl) rfl (flt ((by rw [oi_lt (by omega) (by omega)]; omega) : ¬ ((oi i) < (oi N)))).2.1 (by decide) (by decide) ?_
        exact XL2.returnOut hx Bd.returns (dq hby D31 18 rfl) hr
      · show Q_rinf Z a1 a3 u oo N M nb g f h0 n0 _ TL2.heap _
        rw [eL2]
        exact ⟨_, rfl, NL2, KL2, lf2_1_v2, hBf⟩
    | succ k2 ih2 =>
      intro TL2 Lc2 hL2 i ci di fc XL2 eL2 NL2 ZL2 KL2 lf2_0_v2 lf2_1_v2 hk hci hdi hBf prL2
      obtain ⟨cl3, Ar3, S3, H3⟩ := id lf2_0_v2
      replace S3 : Sq cl3.slots.size _ := S3
      have hin3 : Hq (oi ci) cl3.slots.size := oi_at S3 (by omega) (by omega)
      have hat3 : cl3.slots[((oi ci)).toNatClampNeg]? = some (.int (g ci)) := ArF.at S3 H3 hin3 (congrArg (fun zz => Value.int (g zz)) (oi_n (by omega)))
      obtain ⟨cl4, Ar4, S4, H4⟩ := id lf2_1_v2
      replace S4 : Sq cl4.slots.size _ := S4
      have hin4 : Hq (oi di) cl4.slots.size := oi_at S4 (by omega) (by omega)
      obtain ⟨T4, h4, X4, e4, W4, st4⟩ := stC XL2 hx hZ eL2 Ar4 (j := (oi di)) hin4 (g := (mkF m 26 #[.val (.ref a1), .val (.int (oi (ci + 1))), .val (.ref a3), .val (.int (oi (di + 1))), .val (.int (oi N)), .val (.int (oi i))] [(.int (((g ci) &&& (255 : Int32)).toUInt32.toUInt16.toUInt32.toInt32)), (.int (oi di)), (.ref a3)])) rfl rfl (dq hby D31 15 rfl)
      have lf2_0_v4 := lf2_0_v2.other W4 n13
      have Z4 : Lq n0 h4.size := Nat.le_trans ZL2 (Nat.le_of_eq W4.size.symm)
      have K4 := KL2.wr W4 (Or.inl (by simp))
      have V4_v4 := ArF.set Ar4 S4 H4 W4 hin4
      have N4 := Fr.snoc X4 NL2 ga
      have pre5 : ∀ t, Steps p.tables e below (T4.setTop (mkF m 3 #[.val (.ref a1), .val (.int (oi (ci + 1))), .val (.ref a3), .val (.int (oi (di + 1))), .val (.int (oi N)), .val (.int (oi (i + 1)))] [])) t → Steps p.tables e below (s₁.setTop (entryFrame m #[(.ref a1), (.int (oi u)), (.ref a3), (.int (oi oo)), (.int (oi N))] 6)) t := by
        intro t k
        refine prL2 t ?_
        refine XS.iload XL2.here hx rfl (dq hby D31 2 rfl) rfl ?_
        refine XS.iload XL2.here hx rfl (dq hby D31 3 rfl) rfl ?_
        refine XS.icmpNo XL2.here hx rfl (dq hby D31 4 rfl) rfl (tlt ((by rw [oi_lt (by omega) (by omega)]; omega) : ((oi i) < (oi N)))).2.1 ?_
        refine XS.aloadN XL2.here hx rfl (dq hby D31 5 rfl) rfl rfl ?_
        refine XS.iloadN XL2.here hx rfl (dq hby D31 6 rfl) rfl ?_
        refine XS.iinc XL2.here hx rfl (dq hby D31 7 rfl) rfl (l' := #[.val (.ref a1), .val (.int (oi ci)), .val (.ref a3), .val (.int ((oi di) + (1 : Int32))), .val (.int (oi N)), .val (.int (oi i))]) rfl ?_
        show Steps p.tables e below (TL2.setTop (mkF m 15 #[.val (.ref a1), .val (.int (oi ci)), .val (.ref a3), .val (.int ((oi di) + (1 : Int32))), .val (.int (oi N)), .val (.int (oi i))] [(.int (oi di)), (.ref a3)])) _
        rw [oi_s (di)]
        refine XS.aloadN XL2.here hx rfl (dq hby D31 8 rfl) rfl rfl ?_
        refine XS.iloadN XL2.here hx rfl (dq hby D31 9 rfl) rfl ?_
        refine XS.iinc XL2.here hx rfl (dq hby D31 10 rfl) rfl (l' := #[.val (.ref a1), .val (.int ((oi ci) + (1 : Int32))), .val (.ref a3), .val (.int (oi (di + 1))), .val (.int (oi N)), .val (.int (oi i))]) rfl ?_
        show Steps p.tables e below (TL2.setTop (mkF m 20 #[.val (.ref a1), .val (.int ((oi ci) + (1 : Int32))), .val (.ref a3), .val (.int (oi (di + 1))), .val (.int (oi N)), .val (.int (oi i))] [(.int (oi ci)), (.ref a1), (.int (oi di)), (.ref a3)])) _
        rw [oi_s (ci)]
        refine XL2.baloadBytes hx (j := (oi ci)) (v := (.int (g ci))) (by rw [eL2]; exact Ar3.1) (State.isArrayOf_alike hZ.alike Ar3.2.1) Ar3.2.2 hin3 hat3 (g := (mkF m 20 #[.val (.ref a1), .val (.int (oi (ci + 1))), .val (.ref a3), .val (.int (oi (di + 1))), .val (.int (oi N)), .val (.int (oi i))] [(.int (oi ci)), (.ref a1), (.int (oi di)), (.ref a3)])) rfl rfl (dq hby D31 11 rfl) _ ?_
        refine XS.sipush XL2.here hx rfl (dq hby D31 12 rfl) ?_
        refine XS.iand XL2.here hx rfl (dq hby D31 13 rfl) rfl ?_
        refine XS.i2c XL2.here hx rfl (dq hby D31 14 rfl) rfl ?_
        refine st4 _ ?_
        refine XS.iinc X4.here hx rfl (dq hby D31 16 rfl) rfl (l' := #[.val (.ref a1), .val (.int (oi (ci + 1))), .val (.ref a3), .val (.int (oi (di + 1))), .val (.int (oi N)), .val (.int ((oi i) + (1 : Int32)))]) rfl ?_
        show Steps p.tables e below (T4.setTop (mkF m 30 #[.val (.ref a1), .val (.int (oi (ci + 1))), .val (.ref a3), .val (.int (oi (di + 1))), .val (.int (oi N)), .val (.int ((oi i) + (1 : Int32)))] [])) _
        rw [oi_s (i)]
        refine XS.goto X4.here hx rfl (pc0 := 30) (pc' := 3) rfl (dq hby D31 17 rfl) (by decide) (by decide) ?_
        exact k
      exact ih2 _ _ _ (i + 1) (ci + 1) (di + 1) _ X4 e4 N4 Z4 K4 lf2_0_v4 (V4_v4.congr (fun j hj => set_up (oi_n (k := di) (by omega)) j)) (by omega) (by omega) (by omega) (up_B hBf (nar_B _)) pre5
  exact loop2 N _ _ _ 0 u oo f X0 e0 N0 Z0 K0 Fp0 Fp1 (by omega) rfl rfl hB pre1
theorem D30 : ∀ x ∈ ([(0, .aload_n 0, 1), (1, .iload_n 1, 1), (2, .aload_n 3, 1), (3, .iload 4, 2), (5, .iload_n 2, 1), (6, .iload_n 1, 1), (7, .isub, 1), (8, .invokestatic 13, 3), (11, .return_, 1)] : List (Nat × Instr × Nat)), decode jdk_43_method_11_code x.1 = .ok x.2 := by decide +kernel
theorem pn_rlgc : plainName "java/lang/StringLatin1" = true := by first | (simp [plainName, overriddenIn]; done) | decide +kernel
theorem ef_rlgc (m : MethodId) (x0 : Addr) (x1 : Int32) (x2 : Int32) (x3 : Addr) (x4 : Int32) : entryFrame m #[(.ref x0), (.int x1), (.int x2), (.ref x3), (.int x4)] 5 = mkF m 0 #[.val (.ref x0), .val (.int x1), .val (.int x2), .val (.ref x3), .val (.int x4)] [] := by first | (simp [entryFrame, mkF, argsToLocals, Value.category]; done) | rfl
def Q_rlgc (Z : State) (a1 : Addr) (a4 : Addr) (u r oo M nb : Nat) (g f : Nat → Int32) (h0 : Heap) (n0 : Nat) (v : Option Value) (h : Heap) (L : List Loc) : Prop := ∃ f' : Nat → Int32, v = none ∧ Fr n0 L ∧ Keep h0 h [a4] ∧ ArF Z h a4 .char M (fun j => .int (f' j)) ∧ (∀ j, j < M → own_B (f' j))
set_option maxRecDepth 65536 in
set_option maxHeartbeats 40000000 in
theorem rlgc (l : Launch) (Z : State) (a0 : Array Value) (hw : ∀ d ∈ tables_1, d.before a0 Z = true) (ws : List Jvm.Cond) (a1 : Addr) (a4 : Addr) (u r oo M nb : Nat) (g f : Nat → Int32) (h0 : Heap) (n0 : Nat) (Z0 : n0 ≤ h0.size) (Fp0 : ArF Z h0 a1 .byte nb (fun j => .int (g j))) (Fp1 : ArF Z h0 a4 .char M (fun j => .int (f j))) (ga : n0 ≤ a4) (n14 : a1 ≠ a4) (hur : u ≤ r) (hrn : r ≤ nb) (hoN : oo + (r - u) ≤ M) (hnb : nb < 1000) (hM : M < 1000) (hB : ∀ j, j < M → own_B (f j)) :
    MetFree l (⟨"java/lang/StringLatin1", "getChars", "([BII[CI)V"⟩ : MethodName) (head1 (Jvm.Cond.code (⟨"java/lang/StringLatin1", "getChars", "([BII[CI)V"⟩ : MethodName) jdk_43_method_11_code 5 none :: ws) ({ frames := 1, cells := 0, slots := 0, locals := 17 } : Room)) (fun a U => a = #[(.ref a1), (.int (oi u)), (.int (oi r)), (.ref a4), (.int (oi oo))] ∧ Z.Warmed39 U.vm ∧ U.heap = h0) (fun _ _ _ _ _ => True) (fun _ U o U' => ∃ v L, o = .returned v ∧ Q_rlgc Z a1 a4 u r oo M nb g f h0 n0 v U'.heap L ∧ FrameEnd U o U' L ({ frames := 1, cells := 0, slots := 0, locals := 17 } : Room).cells ({ frames := 1, cells := 0, slots := 0, locals := 17 } : Room).slots) := by
  refine MetFree.of_bodySF (plainFor_of_name pn_rlgc) hisR ?_
  intro p e s m args below meth c s₁ Bd hml0 hP hK
  obtain ⟨rfl, hZ, hh⟩ := hP
  have hx := Bd.exec
  have hby := Bd.bytes
  have hml : c.maxLocals = 5 := hml0
  have hown : s.vm.findClass "java/lang/StringLatin1" = some m.cls := findClass_of_methodNamed Bd.named
  have hnm := (name_of_methodNamed Bd.named Bd.method).1
  have X0 : Stand p l e ({ frames := 1, cells := 0, slots := 0, locals := 17 } : Room) s m #[(.ref a1), (.int (oi u)), (.int (oi r)), (.ref a4), (.int (oi oo))] below meth c s₁ [] 0 0 := Stand.of_body Bd
  have e0 : s₁.heap = h0 := by rw [← hh, Bd.state]; rfl
  have N0 := Fr.nil n0
  have pre0 : ∀ t, Steps p.tables e below (s₁.setTop (mkF m 0 #[.val (.ref a1), .val (.int (oi u)), .val (.int (oi r)), .val (.ref a4), .val (.int (oi oo))] [])) t → Steps p.tables e below (s₁.setTop (entryFrame m #[(.ref a1), (.int (oi u)), (.int (oi r)), (.ref a4), (.int (oi oo))] 5)) t := fun t k => castTop (ef_rlgc m a1 (oi u) (oi r) a4 (oi oo)) k
  have K0 := Keep.refl h0 [a4]
  refine own_cps fun G hG => ?_
  obtain ⟨_, _, ⟨T1, L1, k1, n1⟩, -, X1, ⟨Lc1, hQ1, l1, y1, z1⟩, st1⟩ := Jvm.LawKit.callS X0 hx (y := (⟨"java/lang/StringLatin1", "inflate", "([BI[CII)V"⟩ : MethodName)) hown (mvT hZ (wq hw 170 rfl)) (mvT hZ (wq hw 171 rfl)) (mvT hZ (wq hw 168 rfl)) (mvT hZ (wq hw 172 rfl)) (by decide) (backOf (W := 0) (rinf l Z a0 hw [] a1 a4 (u) (oo) ((r - u)) M nb g f h0 n0 Z0 Fp0 Fp1 ga n14 (by omega) (by omega) hnb hM hB) hZ (wq hw 172 rfl) (wq hw 168 rfl) (by decide) (by decide)) (g := (mkF m 8 #[.val (.ref a1), .val (.int (oi u)), .val (.int (oi r)), .val (.ref a4), .val (.int (oi oo))] [(.int (oi (r - u))), (.int (oi oo)), (.ref a4), (.int (oi u)), (.ref a1)])) rfl (by rw [hml]; rfl) (argsL := [(.ref a1), (.int (oi u)), (.ref a4), (.int (oi oo)), (.int (oi (r - u)))]) (rest := []) (lenOf pd_11 rfl) rfl (by show 2 * 0 + _ ≤ _; exact Nat.le_of_eq rfl) (dq hby D30 7 rfl) (fun _ _ => ⟨rfl, e0, (by decide : 0 + 0 ≤ _), (by decide : 0 + 0 ≤ _)⟩)
  dsimp only [Pt.U, Pt.locs, Pt.cells, Pt.slots] at X1 l1 y1 z1 st1 hQ1
  subst l1 y1 z1
  obtain ⟨fn, rfl, N1q, Kc1, nf1_0_v1, hBn⟩ := hQ1
  have N1 := Fr.app N0 N1q
  have Fp0_v1 := Fp0.keep Kc1 (ninS n14 nin0)
  have Z1 : Lq n0 T1.heap.size := Nat.le_trans Z0 Kc1.1
  have KK1 := K0.trans Kc1 (allS (Or.inl (by simp)) all0)
  refine hG ?_
  obtain ⟨fs, hr, hrun, hended, hW, hsame⟩ := X1.leave (v := none) (fun _ => rfl)
  refine ⟨_, _, pre0 _ ?_, hrun, hended, _, _, rfl, ?_, ⟨_, rfl⟩, hW, hsame.mono (by decide) (by decide)⟩
  · show Steps p.tables e below (s₁.setTop (mkF m 0 #[.val (.ref a1), .val (.int (oi u)), .val (.int (oi r)), .val (.ref a4), .val (.int (oi oo))] [])) _
    refine XS.aloadN X0.here hx rfl (dq hby D30 0 rfl) rfl rfl ?_
    refine XS.iloadN X0.here hx rfl (dq hby D30 1 rfl) rfl ?_
    refine XS.aloadN X0.here hx rfl (dq hby D30 2 rfl) rfl rfl ?_
    refine XS.iload X0.here hx rfl (dq hby D30 3 rfl) rfl ?_
    refine XS.iloadN X0.here hx rfl (dq hby D30 4 rfl) rfl ?_
    refine XS.iloadN X0.here hx rfl (dq hby D30 5 rfl) rfl ?_
    refine XS.isub X0.here hx rfl (dq hby D30 6 rfl) rfl ?_
    show Steps p.tables e below (s₁.setTop (mkF m 8 #[.val (.ref a1), .val (.int (oi u)), .val (.int (oi r)), .val (.ref a4), .val (.int (oi oo))] [(.int ((oi r) - (oi u))), (.int (oi oo)), (.ref a4), (.int (oi u)), (.ref a1)])) _
    rw [oi_sub (a := r) (b := u) (by omega)]
    refine st1 _ ?_
    exact X1.returnOut hx Bd.returns (dq hby D30 8 rfl) hr
  · show Q_rlgc Z a1 a4 u r oo M nb g f h0 n0 _ T1.heap _
    exact ⟨_, rfl, N1, KK1, nf1_0_v1, hBn⟩
theorem D44 : ∀ x ∈ ([(0, .iload_n 1, 1), (1, .iload_n 2, 1), (2, .if_icmp .ge 11, 3), (5, .iload_n 1, 1), (6, .iload_n 2, 1), (7, .iload_n 1, 1), (8, .isub, 1), (9, .aload_n 0, 1), (10, .invokestatic 173, 3), (13, .iload_n 1, 1), (14, .istore 5, 2), (16, .iload 5, 2), (18, .iload_n 2, 1), (19, .if_icmp .ge 22, 3), (22, .aload_n 3, 1), (23, .iload 4, 2), (25, .iinc 4 1, 3), (28, .aload_n 0, 1), (29, .iload 5, 2), (31, .invokestatic 71, 3), (34, .castore, 1), (35, .iinc 5 1, 3), (38, .goto (-22), 3), (41, .return_, 1)] : List (Nat × Instr × Nat)), decode jdk_52_method_26_code x.1 = .ok x.2 := by decide +kernel
theorem pn_rugc : plainName "java/lang/StringUTF16" = true := by first | (simp [plainName, overriddenIn]; done) | decide +kernel
theorem ef_rugc (m : MethodId) (x0 : Addr) (x1 : Int32) (x2 : Int32) (x3 : Addr) (x4 : Int32) : entryFrame m #[(.ref x0), (.int x1), (.int x2), (.ref x3), (.int x4)] 6 = mkF m 0 #[.val (.ref x0), .val (.int x1), .val (.int x2), .val (.ref x3), .val (.int x4), .unset] [] := by first | (simp [entryFrame, mkF, argsToLocals, Value.category]; done) | rfl
def Q_rugc (Z : State) (a1 : Addr) (a4 : Addr) (u r oo M R2 : Nat) (g f : Nat → Int32) (fo : Value) (h0 : Heap) (n0 : Nat) (v : Option Value) (h : Heap) (L : List Loc) : Prop := ∃ f' : Nat → Int32, v = none ∧ Fr n0 L ∧ Keep h0 h [a4] ∧ ArF Z h a4 .char M (fun j => .int (f' j)) ∧ (∀ j, j < M → own_B (f' j))
set_option maxRecDepth 65536 in
set_option maxHeartbeats 40000000 in
theorem rugc (l : Launch) (Z : State) (a0 : Array Value) (hw : ∀ d ∈ tables_1, d.before a0 Z = true) (ws : List Jvm.Cond) (a1 : Addr) (a4 : Addr) (u r oo M R2 : Nat) (g f : Nat → Int32) (fo : Value) (h0 : Heap) (n0 : Nat) (Z0 : n0 ≤ h0.size) (Fp0 : ArF Z h0 a1 .byte (2 * R2) (fun j => .int (g j))) (Fp1 : ArF Z h0 a4 .char M (fun j => .int (f j))) (Fp2 : Sta Z h0 "jdk/internal/util/Preconditions" "SIOOBE_FORMATTER" "Ljava/util/function/BiFunction;" fo) (Fp3 : Sta Z h0 "java/lang/StringUTF16" "$assertionsDisabled" "Z" (.int (1 : Int32))) (Fp4 : Sta Z h0 "java/lang/StringUTF16" "HI_BYTE_SHIFT" "I" (.int (0 : Int32))) (Fp5 : Sta Z h0 "java/lang/StringUTF16" "LO_BYTE_SHIFT" "I" (.int (8 : Int32))) (hfo : fo.isRef = true) (ga : n0 ≤ a4) (n14 : a1 ≠ a4) (hu : u = 0) (hrR : r = R2) (hoN : oo + r ≤ M) (hM : M < 1000) (hB : ∀ j, j < M → own_B (f j)) (hR2 : R2 = 1 ∨ R2 = 2) :
    MetFree l (⟨"java/lang/StringUTF16", "getChars", "([BII[CI)V"⟩ : MethodName) (head1 (Jvm.Cond.code (⟨"java/lang/StringUTF16", "getChars", "([BII[CI)V"⟩ : MethodName) jdk_52_method_26_code 6 none :: ws) ({ frames := 3, cells := 0, slots := 0, locals := 43 } : Room)) (fun a U => a = #[(.ref a1), (.int (oi u)), (.int (oi r)), (.ref a4), (.int (oi oo))] ∧ Z.Warmed39 U.vm ∧ U.heap = h0) (fun _ _ _ _ _ => True) (fun _ U o U' => ∃ v L, o = .returned v ∧ Q_rugc Z a1 a4 u r oo M R2 g f fo h0 n0 v U'.heap L ∧ FrameEnd U o U' L ({ frames := 3, cells := 0, slots := 0, locals := 43 } : Room).cells ({ frames := 3, cells := 0, slots := 0, locals := 43 } : Room).slots) := by
  refine MetFree.of_bodySF (plainFor_of_name pn_rugc) hisR ?_
  intro p e s m args below meth c s₁ Bd hml0 hP hK
  obtain ⟨rfl, hZ, hh⟩ := hP
  have hx := Bd.exec
  have hby := Bd.bytes
  have hml : c.maxLocals = 6 := hml0
  have hown : s.vm.findClass "java/lang/StringUTF16" = some m.cls := findClass_of_methodNamed Bd.named
  have hnm := (name_of_methodNamed Bd.named Bd.method).1
  have X0 : Stand p l e ({ frames := 3, cells := 0, slots := 0, locals := 43 } : Room) s m #[(.ref a1), (.int (oi u)), (.int (oi r)), (.ref a4), (.int (oi oo))] below meth c s₁ [] 0 0 := Stand.of_body Bd
  have e0 : s₁.heap = h0 := by rw [← hh, Bd.state]; rfl
  have N0 := Fr.nil n0
  have pre0 : ∀ t, Steps p.tables e below (s₁.setTop (mkF m 0 #[.val (.ref a1), .val (.int (oi u)), .val (.int (oi r)), .val (.ref a4), .val (.int (oi oo)), .unset] [])) t → Steps p.tables e below (s₁.setTop (entryFrame m #[(.ref a1), (.int (oi u)), (.int (oi r)), (.ref a4), (.int (oi oo))] 6)) t := fun t k => castTop (ef_rugc m a1 (oi u) (oi r) a4 (oi oo)) k
  have K0 := Keep.refl h0 [a4]
  refine own_cps fun G hG => ?_
  obtain ⟨_, _, ⟨T1, L1, k1, n1⟩, -, X1, ⟨Lc1, hQ1, l1, y1, z1⟩, st1⟩ := Jvm.LawKit.callS X0 hx (y := (⟨"java/lang/StringUTF16", "checkBoundsOffCount", "(II[B)V"⟩ : MethodName)) hown (mvT hZ (wq hw 222 rfl)) (mvT hZ (wq hw 223 rfl)) (mvT hZ (wq hw 45 rfl)) (mvT hZ (wq hw 224 rfl)) (by decide) (backOf (W := 0) (rcbu l Z a0 hw [] a1 (u) ((r - u)) R2 g fo h0 n0 Z0 Fp0 Fp2 hfo (by omega) hR2) hZ (wq hw 224 rfl) (wq hw 45 rfl) (by decide) (by decide)) (g := (mkF m 10 #[.val (.ref a1), .val (.int (oi u)), .val (.int (oi r)), .val (.ref a4), .val (.int (oi oo)), .unset] [(.ref a1), (.int (oi (r - u))), (.int (oi u))])) rfl (by rw [hml]; rfl) (argsL := [(.int (oi u)), (.int (oi (r - u))), (.ref a1)]) (rest := []) (lenOf pd_12 rfl) rfl (by show 2 * 0 + _ ≤ _; exact Nat.le_of_eq rfl) (dq hby D44 8 rfl) (fun _ _ => ⟨rfl, e0, (by decide : 0 + 0 ≤ _), (by decide : 0 + 0 ≤ _)⟩)
  dsimp only [Pt.U, Pt.locs, Pt.cells, Pt.slots] at X1 l1 y1 z1 st1 hQ1
  subst l1 y1 z1
  obtain ⟨rfl, N1q, e1⟩ := hQ1
  have N1 := Fr.app N0 N1q
  have pre2 : ∀ t, Steps p.tables e below (T1.setTop (mkF m 16 #[.val (.ref a1), .val (.int (oi u)), .val (.int (oi r)), .val (.ref a4), .val (.int (oi oo)), .val (.int (oi u))] [])) t → Steps p.tables e below (s₁.setTop (entryFrame m #[(.ref a1), (.int (oi u)), (.int (oi r)), (.ref a4), (.int (oi oo))] 6)) t := by
    intro t k
    refine pre0 t ?_
    refine XS.iloadN X0.here hx rfl (dq hby D44 0 rfl) rfl ?_
    refine XS.iloadN X0.here hx rfl (dq hby D44 1 rfl) rfl ?_
    refine XS.icmpNo X0.here hx rfl (dq hby D44 2 rfl) rfl (tlt ((by rw [oi_lt (by omega) (by omega)]; omega) : ((oi u) < (oi r)))).2.1 ?_
    refine XS.iloadN X0.here hx rfl (dq hby D44 3 rfl) rfl ?_
    refine XS.iloadN X0.here hx rfl (dq hby D44 4 rfl) rfl ?_
    refine XS.iloadN X0.here hx rfl (dq hby D44 5 rfl) rfl ?_
    refine XS.isub X0.here hx rfl (dq hby D44 6 rfl) rfl ?_
    show Steps p.tables e below (s₁.setTop (mkF m 9 #[.val (.ref a1), .val (.int (oi u)), .val (.int (oi r)), .val (.ref a4), .val (.int (oi oo)), .unset] [(.int ((oi r) - (oi u))), (.int (oi u))])) _
    rw [oi_sub (a := r) (b := u) (by omega)]
    refine XS.aloadN X0.here hx rfl (dq hby D44 7 rfl) rfl rfl ?_
    refine st1 _ ?_
    refine XS.iloadN X1.here hx rfl (dq hby D44 9 rfl) rfl ?_
    refine XS.istore X1.here hx rfl (dq hby D44 10 rfl) rfl (l' := #[.val (.ref a1), .val (.int (oi u)), .val (.int (oi r)), .val (.ref a4), .val (.int (oi oo)), .val (.int (oi u))]) rfl ?_
    exact k
  have loop3 : ∀ (k3 : Nat) (TL3 : State) (Lc3 : List Loc) (hL3 : Heap) (i : Nat) (di : Nat) (fc : Nat → Int32), Stand p l e ({ frames := 3, cells := 0, slots := 0, locals := 43 } : Room) s m #[(.ref a1), (.int (oi u)), (.int (oi r)), (.ref a4), (.int (oi oo))] below meth c TL3 Lc3 0 0 → TL3.heap = hL3 → Fr n0 Lc3 → Lq n0 hL3.size → Keep h0 hL3 [a4] → Sta Z hL3 "jdk/internal/util/Preconditions" "SIOOBE_FORMATTER" "Ljava/util/function/BiFunction;" fo → Sta Z hL3 "java/lang/StringUTF16" "$assertionsDisabled" "Z" (.int (1 : Int32)) → Sta Z hL3 "java/lang/StringUTF16" "HI_BYTE_SHIFT" "I" (.int (0 : Int32)) → Sta Z hL3 "java/lang/StringUTF16" "LO_BYTE_SHIFT" "I" (.int (8 : Int32)) → ArF Z hL3 a1 .byte (2 * R2) (fun j => .int (g j)) → ArF Z hL3 a4 .char M (fun j => .int (fc j)) → u ≤ i → i + k3 = r → di = oo + (i - u) → (∀ j, j < M → own_B (fc j)) → (∀ t, Steps p.tables e below (TL3.setTop (mkF m 16 #[.val (.ref a1), .val (.int (oi u)), .val (.int (oi r)), .val (.ref a4), .val (.int (oi di)), .val (.int (oi i))] [])) t → Steps p.tables e below (s₁.setTop (entryFrame m #[(.ref a1), (.int (oi u)), (.int (oi r)), (.ref a4), (.int (oi oo))] 6)) t) → G := by
    intro k3
    induction k3 with
    | zero =>
      intro TL3 Lc3 hL3 i di fc XL3 eL3 NL3 ZL3 KL3 lf3_0_v3 lf3_1_v3 lf3_2_v3 lf3_3_v3 lf3_4_v3 lf3_5_v3 hui hk hdi hBf prL3
      refine hG ?_
      obtain ⟨fs, hr, hrun, hended, hW, hsame⟩ := XL3.leave (v := none) (fun _ => rfl)
      refine ⟨_, _, prL3 _ ?_, hrun, hended, _, _, rfl, ?_, ⟨_, rfl⟩, hW, hsame.mono (by decide) (by decide)⟩
      · show Steps p.tables e below (TL3.setTop (mkF m 16 #[.val (.ref a1), .val (.int (oi u)), .val (.int (oi r)), .val (.ref a4), .val (.int (oi di)), .val (.int (oi i))] [])) _
        refine XS.iload XL3.here hx rfl (dq hby D44 11 rfl) rfl ?_
        refine XS.iloadN XL3.here hx rfl (dq hby D44 12 rfl) rfl ?_
        refine XS.icmpYes XL3.here hx rfl (pc0 := 19) (pc' := 41) rfl (dq hby D44 13 rfl) rfl (flt ((by rw [oi_lt (by omega) (by omega)]; omega) : ¬ ((oi i) < (oi r)))).2.1 (by decide) (by decide) ?_
        exact XL3.returnOut hx Bd.returns (dq hby D44 23 rfl) hr
      · show Q_rugc Z a1 a4 u r oo M R2 g f fo h0 n0 _ TL3.heap _
        rw [eL3]
        exact ⟨_, rfl, NL3, KL3, lf3_5_v3, hBf⟩
    | succ k3 ih3 =>
      intro TL3 Lc3 hL3 i di fc XL3 eL3 NL3 ZL3 KL3 lf3_0_v3 lf3_1_v3 lf3_2_v3 lf3_3_v3 lf3_4_v3 lf3_5_v3 hui hk hdi hBf prL3
      obtain ⟨_, _, ⟨T4, L4, k4, n4⟩, -, X4, ⟨Lc4, hQ4, l4, y4, z4⟩, st4⟩ := Jvm.LawKit.callS XL3 hx (y := (⟨"java/lang/StringUTF16", "getChar", "([BI)C"⟩ : MethodName)) hown (mvT hZ (wq hw 216 rfl)) (mvT hZ (wq hw 217 rfl)) (mvT hZ (wq hw 45 rfl)) (mvT hZ (wq hw 218 rfl)) (by decide) (backOf (W := 2) (rgetc l Z a0 hw [] a1 (i) (2 * R2) (g) hL3 n0 ZL3 lf3_4_v3 lf3_1_v3 lf3_2_v3 lf3_3_v3 (by omega) (by omega)) hZ (wq hw 218 rfl) (wq hw 45 rfl) (by decide) (by decide)) (g := (mkF m 31 #[.val (.ref a1), .val (.int (oi u)), .val (.int (oi r)), .val (.ref a4), .val (.int (oi (di + 1))), .val (.int (oi i))] [(.int (oi i)), (.ref a1), (.int (oi di)), (.ref a4)])) rfl (by rw [hml]; rfl) (argsL := [(.ref a1), (.int (oi i))]) (rest := [(.int (oi di)), (.ref a4)]) (lenOf pd_13 rfl) rfl (by show 2 * 0 + _ ≤ _; exact Nat.le_of_eq rfl) (dq hby D44 19 rfl) (fun _ _ => ⟨rfl, eL3, (by decide : 0 + 0 ≤ _), (by decide : 0 + 0 ≤ _)⟩)
      dsimp only [Pt.U, Pt.locs, Pt.cells, Pt.slots] at X4 l4 y4 z4 st4 hQ4
      subst l4 y4 z4
      obtain ⟨rfl, N4q, e4⟩ := hQ4
      have N4 := Fr.app NL3 N4q
      obtain ⟨cl5, Ar5, S5, H5⟩ := id lf3_5_v3
      replace S5 : Sq cl5.slots.size _ := S5
      have hin5 : Hq (oi di) cl5.slots.size := oi_at S5 (by omega) (by omega)
      obtain ⟨T5, h5, X5, e5, W5, st5⟩ := stC X4 hx hZ e4 Ar5 (j := (oi di)) hin5 (g := (mkF m 34 #[.val (.ref a1), .val (.int (oi u)), .val (.int (oi r)), .val (.ref a4), .val (.int (oi (di + 1))), .val (.int (oi i))] [(.int (gch (g (2 * (i))) (g (2 * (i) + 1)))), (.int (oi di)), (.ref a4)])) rfl rfl (dq hby D44 20 rfl)
      have lf3_0_v5 := lf3_0_v3.wr W5
      have lf3_1_v5 := lf3_1_v3.wr W5
      have lf3_2_v5 := lf3_2_v3.wr W5
      have lf3_3_v5 := lf3_3_v3.wr W5
      have lf3_4_v5 := lf3_4_v3.other W5 n14
      have Z5 : Lq n0 h5.size := Nat.le_trans ZL3 (Nat.le_of_eq W5.size.symm)
      have K5 := KL3.wr W5 (Or.inl (by simp))
      have V5_v5 := ArF.set Ar5 S5 H5 W5 hin5
      have N5 := Fr.snoc X5 N4 ga
      have pre6 : ∀ t, Steps p.tables e below (T5.setTop (mkF m 16 #[.val (.ref a1), .val (.int (oi u)), .val (.int (oi r)), .val (.ref a4), .val (.int (oi (di + 1))), .val (.int (oi (i + 1)))] [])) t → Steps p.tables e below (s₁.setTop (entryFrame m #[(.ref a1), (.int (oi u)), (.int (oi r)), (.ref a4), (.int (oi oo))] 6)) t := by
        intro t k
        refine prL3 t ?_
        refine XS.iload XL3.here hx rfl (dq hby D44 11 rfl) rfl ?_
        refine XS.iloadN XL3.here hx rfl (dq hby D44 12 rfl) rfl ?_
        refine XS.icmpNo XL3.here hx rfl (dq hby D44 13 rfl) rfl (tlt ((by rw [oi_lt (by omega) (by omega)]; omega) : ((oi i) < (oi r)))).2.1 ?_
        refine XS.aloadN XL3.here hx rfl (dq hby D44 14 rfl) rfl rfl ?_
        refine XS.iload XL3.here hx rfl (dq hby D44 15 rfl) rfl ?_
        refine XS.iinc XL3.here hx rfl (dq hby D44 16 rfl) rfl (l' := #[.val (.ref a1), .val (.int (oi u)), .val (.int (oi r)), .val (.ref a4), .val (.int ((oi di) + (1 : Int32))), .val (.int (oi i))]) rfl ?_
        show Steps p.tables e below (TL3.setTop (mkF m 28 #[.val (.ref a1), .val (.int (oi u)), .val (.int (oi r)), .val (.ref a4), .val (.int ((oi di) + (1 : Int32))), .val (.int (oi i))] [(.int (oi di)), (.ref a4)])) _
        rw [oi_s (di)]
        refine XS.aloadN XL3.here hx rfl (dq hby D44 17 rfl) rfl rfl ?_
        refine XS.iload XL3.here hx rfl (dq hby D44 18 rfl) rfl ?_
        refine st4 _ ?_
        refine st5 _ ?_
        refine XS.iinc X5.here hx rfl (dq hby D44 21 rfl) rfl (l' := #[.val (.ref a1), .val (.int (oi u)), .val (.int (oi r)), .val (.ref a4), .val (.int (oi (di + 1))), .val (.int ((oi i) + (1 : Int32)))]) rfl ?_
        show Steps p.tables e below (T5.setTop (mkF m 38 #[.val (.ref a1), .val (.int (oi u)), .val (.int (oi r)), .val (.ref a4), .val (.int (oi (di + 1))), .val (.int ((oi i) + (1 : Int32)))] [])) _
        rw [oi_s (i)]
        refine XS.goto X5.here hx rfl (pc0 := 38) (pc' := 16) rfl (dq hby D44 22 rfl) (by decide) (by decide) ?_
        exact k
      exact ih3 _ _ _ (i + 1) (di + 1) _ X5 e5 N5 Z5 K5 lf3_0_v5 lf3_1_v5 lf3_2_v5 lf3_3_v5 lf3_4_v5 (V5_v5.congr (fun j hj => set_up (oi_n (k := di) (by omega)) j)) (by omega) (by omega) (by omega) (up_B hBf (nar_B _)) pre6
  exact loop3 (r - u) _ _ _ u oo f X1 e1 N1 Z0 K0 Fp2 Fp3 Fp4 Fp5 Fp0 Fp1 (Nat.le_refl u) (by omega) (by omega) hB pre2
theorem D24 : ∀ x ∈ ([(0, .iload_n 1, 1), (1, .iload_n 2, 1), (2, .aload_n 0, 1), (3, .invokevirtual 505, 3), (6, .invokestatic 521, 3), (9, .iload 4, 2), (11, .iload_n 2, 1), (12, .iload_n 1, 1), (13, .isub, 1), (14, .aload_n 3, 1), (15, .arraylength, 1), (16, .invokestatic 34, 3), (19, .pop, 1), (20, .aload_n 0, 1), (21, .invokevirtual 492, 3), (24, .ifCond .eq 18, 3), (27, .aload_n 0, 1), (28, .getfield 9, 3), (31, .iload_n 1, 1), (32, .iload_n 2, 1), (33, .aload_n 3, 1), (34, .iload 4, 2), (36, .invokestatic 525, 3), (39, .goto 15, 3), (42, .aload_n 0, 1), (43, .getfield 9, 3), (46, .iload_n 1, 1), (47, .iload_n 2, 1), (48, .aload_n 3, 1), (49, .iload 4, 2), (51, .invokestatic 529, 3), (54, .return_, 1)] : List (Nat × Instr × Nat)), decode jdk_42_method_61_code x.1 = .ok x.2 := by decide +kernel
theorem pn_rsgc : plainName "java/lang/String" = true := by first | (simp [plainName, overriddenIn]; done) | decide +kernel
theorem ef_rsgc (m : MethodId) (x0 : Addr) (x1 : Int32) (x2 : Int32) (x3 : Addr) (x4 : Int32) : entryFrame m #[(.ref x0), (.int x1), (.int x2), (.ref x3), (.int x4)] 5 = mkF m 0 #[.val (.ref x0), .val (.int x1), .val (.int x2), .val (.ref x3), .val (.int x4)] [] := by first | (simp [entryFrame, mkF, argsToLocals, Value.category]; done) | rfl
def Q_rsgc (Z : State) (a1 : Addr) (a4 : Addr) (bb : Addr) (u r oo M nb : Nat) (cs cd : Int32) (g f : Nat → Int32) (fo : Value) (h0 : Heap) (n0 : Nat) (v : Option Value) (h : Heap) (L : List Loc) : Prop := ∃ f' : Nat → Int32, v = none ∧ Fr n0 L ∧ Keep h0 h [a4] ∧ ArF Z h a4 .char M (fun j => .int (f' j)) ∧ (∀ j, j < M → own_B (f' j))
set_option maxRecDepth 65536 in
set_option maxHeartbeats 40000000 in
theorem rsgc (l : Launch) (Z : State) (a0 : Array Value) (hw : ∀ d ∈ tables_1, d.before a0 Z = true) (ws : List Jvm.Cond) (a1 : Addr) (a4 : Addr) (bb : Addr) (u r oo M nb : Nat) (cs cd : Int32) (g f : Nat → Int32) (fo : Value) (h0 : Heap) (n0 : Nat) (Z0 : n0 ≤ h0.size) (Fp0 : Exa Z h0 a1 "java/lang/String") (Fp1 : Fld Z h0 a1 "java/lang/String" "value" "[B" (.ref bb)) (Fp2 : Fld Z h0 a1 "java/lang/String" "coder" "B" (.int cd)) (Fp3 : ArF Z h0 bb .byte nb (fun j => .int (g j))) (Fp4 : ArF Z h0 a4 .char M (fun j => .int (f j))) (Fp5 : Sta Z h0 "java/lang/String" "COMPACT_STRINGS" "Z" (.int cs)) (Fp6 : Sta Z h0 "jdk/internal/util/Preconditions" "SIOOBE_FORMATTER" "Ljava/util/function/BiFunction;" fo) (Fp7 : Sta Z h0 "java/lang/StringUTF16" "$assertionsDisabled" "Z" (.int (1 : Int32))) (Fp8 : Sta Z h0 "java/lang/StringUTF16" "HI_BYTE_SHIFT" "I" (.int (0 : Int32))) (Fp9 : Sta Z h0 "java/lang/StringUTF16" "LO_BYTE_SHIFT" "I" (.int (8 : Int32))) (hcs : ¬ cs = 0) (hfo : fo.isRef = true) (hsd : ((cd = 0 ∧ nb = r) ∨ (cd = 1 ∧ nb = 2 * r))) (ga : n0 ≤ a4) (n1 : a1 ≠ a4) (n2 : bb ≠ a4) (hu : u = 0) (hoN : oo + r ≤ M) (hM : M < 1000) (hB : ∀ j, j < M → own_B (f j)) (hr : r = 1 ∨ r = 2) :
    MetFree l (⟨"java/lang/String", "getChars", "(II[CI)V"⟩ : MethodName) (head1 (Jvm.Cond.code (⟨"java/lang/String", "getChars", "(II[CI)V"⟩ : MethodName) jdk_42_method_61_code 5 none :: ws) ({ frames := 4, cells := 0, slots := 0, locals := 60 } : Room)) (fun a U => a = #[(.ref a1), (.int (oi u)), (.int (oi r)), (.ref a4), (.int (oi oo))] ∧ Z.Warmed39 U.vm ∧ U.heap = h0) (fun _ _ _ _ _ => True) (fun _ U o U' => ∃ v L, o = .returned v ∧ Q_rsgc Z a1 a4 bb u r oo M nb cs cd g f fo h0 n0 v U'.heap L ∧ FrameEnd U o U' L ({ frames := 4, cells := 0, slots := 0, locals := 60 } : Room).cells ({ frames := 4, cells := 0, slots := 0, locals := 60 } : Room).slots) := by
  refine MetFree.of_bodySF (plainFor_of_name pn_rsgc) hisR ?_
  intro p e s m args below meth c s₁ Bd hml0 hP hK
  obtain ⟨rfl, hZ, hh⟩ := hP
  have hx := Bd.exec
  have hby := Bd.bytes
  have hml : c.maxLocals = 5 := hml0
  have hown : s.vm.findClass "java/lang/String" = some m.cls := findClass_of_methodNamed Bd.named
  have hnm := (name_of_methodNamed Bd.named Bd.method).1
  have X0 : Stand p l e ({ frames := 4, cells := 0, slots := 0, locals := 60 } : Room) s m #[(.ref a1), (.int (oi u)), (.int (oi r)), (.ref a4), (.int (oi oo))] below meth c s₁ [] 0 0 := Stand.of_body Bd
  have e0 : s₁.heap = h0 := by rw [← hh, Bd.state]; rfl
  have N0 := Fr.nil n0
  have pre0 : ∀ t, Steps p.tables e below (s₁.setTop (mkF m 0 #[.val (.ref a1), .val (.int (oi u)), .val (.int (oi r)), .val (.ref a4), .val (.int (oi oo))] [])) t → Steps p.tables e below (s₁.setTop (entryFrame m #[(.ref a1), (.int (oi u)), (.int (oi r)), (.ref a4), (.int (oi oo))] 5)) t := fun t k => castTop (ef_rsgc m a1 (oi u) (oi r) a4 (oi oo)) k
  have K0 := Keep.refl h0 [a4]
  refine own_cps fun G hG => ?_
  obtain ⟨cq1, kq1, q1a, q1b, q1c⟩ := isOf hZ e0 Fp0
  obtain ⟨_, _, ⟨T1, L1, k1, n1⟩, -, X1, ⟨Lc1, hQ1, l1, y1, z1⟩, st1⟩ := X0.virtualBack hx (y := (⟨"java/lang/String", "length", "()I"⟩ : MethodName)) (z := (⟨"java/lang/String", "length", "()I"⟩ : MethodName)) hown (mvT hZ (wq hw 147 rfl)) (mvT hZ (wq hw 131 rfl)) (notFace_of_selects (args := #[]) (mvT hZ (wq hw 133 rfl))) (mvT hZ (wq hw 133 rfl)) (mvT hZ (wq hw 132 rfl)) (by decide) (backOf (W := 2) (rlen l Z a0 hw [] a1 bb cs cd (r) nb (g) h0 n0 Z0 Fp5 Fp0 Fp1 Fp2 Fp3 hcs hsd hr) hZ (wq hw 134 rfl) (wq hw 32 rfl) (by decide) (by decide)) q1a q1c (g := (mkF m 3 #[.val (.ref a1), .val (.int (oi u)), .val (.int (oi r)), .val (.ref a4), .val (.int (oi oo))] [(.ref a1), (.int (oi r)), (.int (oi u))])) rfl (by rw [hml]; rfl) (Steps.refl _) (argsL := []) (rest := [(.int (oi r)), (.int (oi u))]) (lenOf pd_14 rfl) rfl (by show 2 * 0 + _ ≤ _; exact Nat.le_of_eq rfl) (dq hby D24 3 rfl) (fun _ _ => ⟨rfl, e0, (by decide : 0 + 0 ≤ _), (by decide : 0 + 0 ≤ _)⟩)
  dsimp only [Pt.U, Pt.locs, Pt.cells, Pt.slots] at X1 l1 y1 z1 st1 hQ1
  subst l1 y1 z1
  obtain ⟨rfl, N1q, e1⟩ := hQ1
  have N1 := Fr.app N0 N1q
  obtain ⟨_, _, ⟨T2, L2, k2, n2⟩, -, X2, ⟨Lc2, hQ2, l2, y2, z2⟩, st2⟩ := Jvm.LawKit.callS X1 hx (y := (⟨"java/lang/String", "checkBoundsBeginEnd", "(III)V"⟩ : MethodName)) hown (mvT hZ (wq hw 148 rfl)) (mvT hZ (wq hw 149 rfl)) (mvT hZ (wq hw 32 rfl)) (mvT hZ (wq hw 150 rfl)) (by decide) (backOf (W := 0) (rcbb l Z a0 hw [] (u) (r) (r) fo h0 n0 Z0 Fp6 hfo (by omega) (by omega) (by omega)) hZ (wq hw 150 rfl) (wq hw 32 rfl) (by decide) (by decide)) (g := (mkF m 6 #[.val (.ref a1), .val (.int (oi u)), .val (.int (oi r)), .val (.ref a4), .val (.int (oi oo))] [(.int (oi r)), (.int (oi r)), (.int (oi u))])) rfl (by rw [hml]; rfl) (argsL := [(.int (oi u)), (.int (oi r)), (.int (oi r))]) (rest := []) (lenOf pd_0 rfl) rfl (by show 2 * 0 + _ ≤ _; exact Nat.le_of_eq rfl) (dq hby D24 4 rfl) (fun _ _ => ⟨rfl, e1, (by decide : 0 + 0 ≤ _), (by decide : 0 + 0 ≤ _)⟩)
  dsimp only [Pt.U, Pt.locs, Pt.cells, Pt.slots] at X2 l2 y2 z2 st2 hQ2
  subst l2 y2 z2
  obtain ⟨rfl, N2q, e2⟩ := hQ2
  have N2 := Fr.app N1 N2q
  obtain ⟨cl3, Ar3, S3, H3⟩ := id Fp4
  replace S3 : Sq cl3.slots.size _ := S3
  obtain ⟨_, _, ⟨T4, L4, k4, n4⟩, -, X4, ⟨Lc4, hQ4, l4, y4, z4⟩, st4⟩ := Jvm.LawKit.callS X2 hx (y := (⟨"java/lang/String", "checkBoundsOffCount", "(III)I"⟩ : MethodName)) hown (mvT hZ (wq hw 155 rfl)) (mvT hZ (wq hw 156 rfl)) (mvT hZ (wq hw 32 rfl)) (mvT hZ (wq hw 157 rfl)) (by decide) (backOf (W := 0) (rcbo l Z a0 hw [] (oo) ((r - u)) (M) fo h0 n0 Z0 Fp6 hfo (by omega) (by omega)) hZ (wq hw 157 rfl) (wq hw 32 rfl) (by decide) (by decide)) (g := (mkF m 16 #[.val (.ref a1), .val (.int (oi u)), .val (.int (oi r)), .val (.ref a4), .val (.int (oi oo))] [(.int (oi M)), (.int (oi (r - u))), (.int (oi oo))])) rfl (by rw [hml]; rfl) (argsL := [(.int (oi oo)), (.int (oi (r - u))), (.int (oi M))]) (rest := []) (lenOf pd_9 rfl) rfl (by show 2 * 0 + _ ≤ _; exact Nat.le_of_eq rfl) (dq hby D24 11 rfl) (fun _ _ => ⟨rfl, e2, (by decide : 0 + 0 ≤ _), (by decide : 0 + 0 ≤ _)⟩)
  dsimp only [Pt.U, Pt.locs, Pt.cells, Pt.slots] at X4 l4 y4 z4 st4 hQ4
  subst l4 y4 z4
  obtain ⟨rfl, N4q, e4⟩ := hQ4
  have N4 := Fr.app N2 N4q
  obtain ⟨cq5, kq5, q5a, q5b, q5c⟩ := isOf hZ e4 Fp0
  obtain ⟨_, _, ⟨T5, L5, k5, n5⟩, -, X5, ⟨Lc5, hQ5, l5, y5, z5⟩, st5⟩ := X4.virtualBack hx (y := (⟨"java/lang/String", "isLatin1", "()Z"⟩ : MethodName)) (z := (⟨"java/lang/String", "isLatin1", "()Z"⟩ : MethodName)) hown (mvT hZ (wq hw 161 rfl)) (mvT hZ (wq hw 162 rfl)) (notFace_of_selects (args := #[]) (mvT hZ (wq hw 164 rfl))) (mvT hZ (wq hw 164 rfl)) (mvT hZ (wq hw 163 rfl)) (by decide) (backOf (W := 0) (rlat l Z a0 hw [] a1 cs cd h0 n0 Z0 Fp5 Fp2 hcs) hZ (wq hw 165 rfl) (wq hw 32 rfl) (by decide) (by decide)) q5a q5c (g := (mkF m 21 #[.val (.ref a1), .val (.int (oi u)), .val (.int (oi r)), .val (.ref a4), .val (.int (oi oo))] [(.ref a1)])) rfl (by rw [hml]; rfl) (Steps.refl _) (argsL := []) (rest := []) (lenOf pd_15 rfl) rfl (by show 2 * 0 + _ ≤ _; exact Nat.le_of_eq rfl) (dq hby D24 14 rfl) (fun _ _ => ⟨rfl, e4, (by decide : 0 + 0 ≤ _), (by decide : 0 + 0 ≤ _)⟩)
  dsimp only [Pt.U, Pt.locs, Pt.cells, Pt.slots] at X5 l5 y5 z5 st5 hQ5
  subst l5 y5 z5
  obtain ⟨yl, rfl, N5q, e5, hyl⟩ := hQ5
  have N5 := Fr.app N4 N5q
  have pre6 : ∀ t, Steps p.tables e below (T5.setTop (mkF m 24 #[.val (.ref a1), .val (.int (oi u)), .val (.int (oi r)), .val (.ref a4), .val (.int (oi oo))] [(.int yl)])) t → Steps p.tables e below (s₁.setTop (entryFrame m #[(.ref a1), (.int (oi u)), (.int (oi r)), (.ref a4), (.int (oi oo))] 5)) t := by
    intro t k
    refine pre0 t ?_
    refine XS.iloadN X0.here hx rfl (dq hby D24 0 rfl) rfl ?_
    refine XS.iloadN X0.here hx rfl (dq hby D24 1 rfl) rfl ?_
    refine XS.aloadN X0.here hx rfl (dq hby D24 2 rfl) rfl rfl ?_
    refine st1.trans ?_
    refine st2 _ ?_
    refine XS.iload X2.here hx rfl (dq hby D24 5 rfl) rfl ?_
    refine XS.iloadN X2.here hx rfl (dq hby D24 6 rfl) rfl ?_
    refine XS.iloadN X2.here hx rfl (dq hby D24 7 rfl) rfl ?_
    refine XS.isub X2.here hx rfl (dq hby D24 8 rfl) rfl ?_
    show Steps p.tables e below (T2.setTop (mkF m 14 #[.val (.ref a1), .val (.int (oi u)), .val (.int (oi r)), .val (.ref a4), .val (.int (oi oo))] [(.int ((oi r) - (oi u))), (.int (oi oo))])) _
    rw [oi_sub (a := r) (b := u) (by omega)]
    refine XS.aloadN X2.here hx rfl (dq hby D24 9 rfl) rfl rfl ?_
    refine X2.arraylength hx (by rw [e2]; exact Ar3.1) (State.isArrayOf_alike hZ.alike Ar3.2.1) (g := (mkF m 15 #[.val (.ref a1), .val (.int (oi u)), .val (.int (oi r)), .val (.ref a4), .val (.int (oi oo))] [(.ref a4), (.int (oi (r - u))), (.int (oi oo))])) rfl rfl (dq hby D24 10 rfl) _ ?_
    rw [show cl3.slots.size.toInt32 = (oi M) from (congrArg Nat.toInt32 S3).trans rfl]
    refine st4 _ ?_
    refine XS.pop X4.here hx rfl (dq hby D24 12 rfl) rfl rfl ?_
    refine XS.aloadN X4.here hx rfl (dq hby D24 13 rfl) rfl rfl ?_
    refine st5.trans ?_
    exact k
  by_cases hc24_7 : yl = (0 : Int32)
  · have hnb : nb = 2 * r := by
      rcases hyl with ⟨z1, z2⟩ | ⟨z1, z2⟩
      · rw [z2] at hc24_7; exact absurd hc24_7 (by decide)
      · rcases hsd with ⟨z, _⟩ | ⟨_, z⟩
        · exact absurd z z1
        · exact z
    obtain ⟨T8, X8, e8, st8⟩ := getF X5 hx hZ hown (host := "") (Or.inl (wq hw 56 rfl)) Via.refl e5 Fp1 (g := (mkF m 43 #[.val (.ref a1), .val (.int (oi u)), .val (.int (oi r)), .val (.ref a4), .val (.int (oi oo))] [(.ref a1)])) rfl rfl (dq hby D24 25 rfl)
    have VC9_v9 : ArF Z h0 bb .byte (2 * r) (fun j => .int (g j)) := (by have q := Fp3; rw [hnb] at q; exact q)
    obtain ⟨_, _, ⟨T10, L10, k10, n10⟩, -, X10, ⟨Lc10, hQ10, l10, y10, z10⟩, st10⟩ := Jvm.LawKit.callS X8 hx (y := (⟨"java/lang/StringUTF16", "getChars", "([BII[CI)V"⟩ : MethodName)) hown (mvT hZ (wq hw 219 rfl)) (mvT hZ (wq hw 220 rfl)) (mvT hZ (wq hw 45 rfl)) (mvT hZ (wq hw 221 rfl)) (by decide) (backOf (W := 0) (rugc l Z a0 hw [] bb a4 (u) (r) (oo) M r g f fo h0 n0 Z0 VC9_v9 Fp4 Fp6 Fp7 Fp8 Fp9 hfo ga n2 hu rfl hoN hM hB hr) hZ (wq hw 221 rfl) (wq hw 45 rfl) (by decide) (by decide)) (g := (mkF m 51 #[.val (.ref a1), .val (.int (oi u)), .val (.int (oi r)), .val (.ref a4), .val (.int (oi oo))] [(.int (oi oo)), (.ref a4), (.int (oi r)), (.int (oi u)), (.ref bb)])) rfl (by rw [hml]; rfl) (argsL := [(.ref bb), (.int (oi u)), (.int (oi r)), (.ref a4), (.int (oi oo))]) (rest := []) (lenOf pd_16 rfl) rfl (by show 2 * 0 + _ ≤ _; exact Nat.le_of_eq rfl) (dq hby D24 30 rfl) (fun _ _ => ⟨rfl, e8, (by decide : 0 + 0 ≤ _), (by decide : 0 + 0 ≤ _)⟩)
    dsimp only [Pt.U, Pt.locs, Pt.cells, Pt.slots] at X10 l10 y10 z10 st10 hQ10
    subst l10 y10 z10
    obtain ⟨fn, rfl, N10q, Kc10, nf10_0_v10, hBn⟩ := hQ10
    have N10 := Fr.app N5 N10q
    have Fp0_v10 := Fp0.keep Kc10
    have Fp1_v10 := Fp1.keep Kc10 (ninS n1 nin0)
    have Fp2_v10 := Fp2.keep Kc10 (ninS n1 nin0)
    have VC9_v10 := VC9_v9.keep Kc10 (ninS n2 nin0)
    have Fp5_v10 := Sta.keepW Fp5 Kc10 (nosS (nosV Fp4) nos0)
    have Fp6_v10 := Sta.keepW Fp6 Kc10 (nosS (nosV Fp4) nos0)
    have Fp7_v10 := Sta.keepW Fp7 Kc10 (nosS (nosV Fp4) nos0)
    have Fp8_v10 := Sta.keepW Fp8 Kc10 (nosS (nosV Fp4) nos0)
    have Fp9_v10 := Sta.keepW Fp9 Kc10 (nosS (nosV Fp4) nos0)
    have Z10 : Lq n0 T10.heap.size := Nat.le_trans Z0 Kc10.1
    have KK10 := K0.trans Kc10 (allS (Or.inl (by simp)) all0)
    refine hG ?_
    obtain ⟨fs, hr, hrun, hended, hW, hsame⟩ := X10.leave (v := none) (fun _ => rfl)
    refine ⟨_, _, pre6 _ ?_, hrun, hended, _, _, rfl, ?_, ⟨_, rfl⟩, hW, hsame.mono (by decide) (by decide)⟩
    · show Steps p.tables e below (T5.setTop (mkF m 24 #[.val (.ref a1), .val (.int (oi u)), .val (.int (oi r)), .val (.ref a4), .val (.int (oi oo))] [(.int yl)])) _
      refine XS.ifYes X5.here hx rfl (pc0 := 24) (pc' := 42) rfl (dq hby D24 15 rfl) rfl ((if0 _ _).trans (teq hc24_7).1) (by decide) (by decide) ?_
      refine XS.aloadN X5.here hx rfl (dq hby D24 24 rfl) rfl rfl ?_
      refine st8 _ ?_
      refine XS.iloadN X8.here hx rfl (dq hby D24 26 rfl) rfl ?_
      refine XS.iloadN X8.here hx rfl (dq hby D24 27 rfl) rfl ?_
      refine XS.aloadN X8.here hx rfl (dq hby D24 28 rfl) rfl rfl ?_
      refine XS.iload X8.here hx rfl (dq hby D24 29 rfl) rfl ?_
      refine st10 _ ?_
      exact X10.returnOut hx Bd.returns (dq hby D24 31 rfl) hr
    · show Q_rsgc Z a1 a4 bb u r oo M nb cs cd g f fo h0 n0 _ T10.heap _
      exact ⟨_, rfl, N10, KK10, nf10_0_v10, hBn⟩
  · have hnb : nb = r := by
      rcases hyl with ⟨z1, z2⟩ | ⟨z1, z2⟩
      · rcases hsd with ⟨_, z⟩ | ⟨z, _⟩
        · exact z
        · rw [z1] at z; exact absurd z (by decide)
      · exact absurd z2 hc24_7
    obtain ⟨T11, X11, e11, st11⟩ := getF X5 hx hZ hown (host := "") (Or.inl (wq hw 56 rfl)) Via.refl e5 Fp1 (g := (mkF m 28 #[.val (.ref a1), .val (.int (oi u)), .val (.int (oi r)), .val (.ref a4), .val (.int (oi oo))] [(.ref a1)])) rfl rfl (dq hby D24 17 rfl)
    obtain ⟨_, _, ⟨T12, L12, k12, n12⟩, -, X12, ⟨Lc12, hQ12, l12, y12, z12⟩, st12⟩ := Jvm.LawKit.callS X11 hx (y := (⟨"java/lang/StringLatin1", "getChars", "([BII[CI)V"⟩ : MethodName)) hown (mvT hZ (wq hw 166 rfl)) (mvT hZ (wq hw 167 rfl)) (mvT hZ (wq hw 168 rfl)) (mvT hZ (wq hw 169 rfl)) (by decide) (backOf (W := 0) (rlgc l Z a0 hw [] bb a4 (u) (r) (oo) M nb g f h0 n0 Z0 Fp3 Fp4 ga n2 (by omega) (by omega) (by omega) (by omega) hM hB) hZ (wq hw 169 rfl) (wq hw 168 rfl) (by decide) (by decide)) (g := (mkF m 36 #[.val (.ref a1), .val (.int (oi u)), .val (.int (oi r)), .val (.ref a4), .val (.int (oi oo))] [(.int (oi oo)), (.ref a4), (.int (oi r)), (.int (oi u)), (.ref bb)])) rfl (by rw [hml]; rfl) (argsL := [(.ref bb), (.int (oi u)), (.int (oi r)), (.ref a4), (.int (oi oo))]) (rest := []) (lenOf pd_16 rfl) rfl (by show 2 * 0 + _ ≤ _; exact Nat.le_of_eq rfl) (dq hby D24 22 rfl) (fun _ _ => ⟨rfl, e11, (by decide : 0 + 0 ≤ _), (by decide : 0 + 0 ≤ _)⟩)
    dsimp only [Pt.U, Pt.locs, Pt.cells, Pt.slots] at X12 l12 y12 z12 st12 hQ12
    subst l12 y12 z12
    obtain ⟨fn, rfl, N12q, Kc12, nf12_0_v12, hBn⟩ := hQ12
    have N12 := Fr.app N5 N12q
    have Fp0_v12 := Fp0.keep Kc12
    have Fp1_v12 := Fp1.keep Kc12 (ninS n1 nin0)
    have Fp2_v12 := Fp2.keep Kc12 (ninS n1 nin0)
    have Fp3_v12 := Fp3.keep Kc12 (ninS n2 nin0)
    have Fp5_v12 := Sta.keepW Fp5 Kc12 (nosS (nosV Fp4) nos0)
    have Fp6_v12 := Sta.keepW Fp6 Kc12 (nosS (nosV Fp4) nos0)
    have Fp7_v12 := Sta.keepW Fp7 Kc12 (nosS (nosV Fp4) nos0)
    have Fp8_v12 := Sta.keepW Fp8 Kc12 (nosS (nosV Fp4) nos0)
    have Fp9_v12 := Sta.keepW Fp9 Kc12 (nosS (nosV Fp4) nos0)
    have Z12 : Lq n0 T12.heap.size := Nat.le_trans Z0 Kc12.1
    have KK12 := K0.trans Kc12 (allS (Or.inl (by simp)) all0)
    refine hG ?_
    obtain ⟨fs, hr, hrun, hended, hW, hsame⟩ := X12.leave (v := none) (fun _ => rfl)
    refine ⟨_, _, pre6 _ ?_, hrun, hended, _, _, rfl, ?_, ⟨_, rfl⟩, hW, hsame.mono (by decide) (by decide)⟩
    · show Steps p.tables e below (T5.setTop (mkF m 24 #[.val (.ref a1), .val (.int (oi u)), .val (.int (oi r)), .val (.ref a4), .val (.int (oi oo))] [(.int yl)])) _
      refine XS.ifNo X5.here hx rfl (dq hby D24 15 rfl) rfl ((if0 _ _).trans (feq hc24_7).1) ?_
      refine XS.aloadN X5.here hx rfl (dq hby D24 16 rfl) rfl rfl ?_
      refine st11 _ ?_
      refine XS.iloadN X11.here hx rfl (dq hby D24 18 rfl) rfl ?_
      refine XS.iloadN X11.here hx rfl (dq hby D24 19 rfl) rfl ?_
      refine XS.aloadN X11.here hx rfl (dq hby D24 20 rfl) rfl rfl ?_
      refine XS.iload X11.here hx rfl (dq hby D24 21 rfl) rfl ?_
      show Steps p.tables e below (T11.setTop (mkF m 36 #[.val (.ref a1), .val (.int (oi u)), .val (.int (oi r)), .val (.ref a4), .val (.int (oi oo))] [(.int (oi oo)), (.ref a4), (.int (oi r)), (.int (oi u)), (.ref bb)])) _
      refine st12 _ ?_
      refine XS.goto X12.here hx rfl (pc0 := 39) (pc' := 54) rfl (dq hby D24 23 rfl) (by decide) (by decide) ?_
      exact X12.returnOut hx Bd.returns (dq hby D24 31 rfl) hr
    · show Q_rsgc Z a1 a4 bb u r oo M nb cs cd g f fo h0 n0 _ T12.heap _
      exact ⟨_, rfl, N12, KK12, nf12_0_v12, hBn⟩
theorem D39 : ∀ x ∈ ([(0, .iload_n 2, 1), (1, .invokestatic 107, 3), (4, .astore_n 3, 1), (5, .iconst 0, 1), (6, .istore 4, 2), (8, .iload 4, 2), (10, .iload_n 2, 1), (11, .if_icmp .ge 21, 3), (14, .aload_n 3, 1), (15, .iload 4, 2), (17, .aload_n 0, 1), (18, .iload_n 1, 1), (19, .caload, 1), (20, .invokestatic 111, 3), (23, .iinc 1 1, 3), (26, .iinc 4 1, 3), (29, .goto (-21), 3), (32, .aload_n 3, 1), (33, .areturn, 1)] : List (Nat × Instr × Nat)), decode jdk_52_method_14_code x.1 = .ok x.2 := by decide +kernel
theorem pn_rtob : plainName "java/lang/StringUTF16" = true := by first | (simp [plainName, overriddenIn]; done) | decide +kernel
theorem ef_rtob (m : MethodId) (x0 : Addr) (x1 : Int32) (x2 : Int32) : entryFrame m #[(.ref x0), (.int x1), (.int x2)] 5 = mkF m 0 #[.val (.ref x0), .val (.int x1), .val (.int x2), .unset, .unset] [] := by first | (simp [entryFrame, mkF, argsToLocals, Value.category]; done) | rfl
def Q_rtob (Z : State) (a1 : Addr) (u N : Nat) (f : Nat → Int32) (h0 : Heap) (n0 : Nat) (v : Option Value) (h : Heap) (L : List Loc) : Prop := ∃ (y : Addr) (g : Nat → Int32), v = some (.ref y) ∧ Fr n0 L ∧ Keep h0 h [] ∧ h0.size ≤ y ∧ ArF Z h y .byte (2 * N) (fun j => .int (g j)) ∧ (∀ j, j < N → g (2 * j) = b0 (f j) ∧ g (2 * j + 1) = b1 (f j))
set_option maxRecDepth 65536 in
set_option maxHeartbeats 40000000 in
theorem rtob (l : Launch) (Z : State) (a0 : Array Value) (hw : ∀ d ∈ tables_1, d.before a0 Z = true) (ws : List Jvm.Cond) (a1 : Addr) (u N : Nat) (f : Nat → Int32) (h0 : Heap) (n0 : Nat) (Z0 : n0 ≤ h0.size) (Fp0 : ArF Z h0 a1 .char N (fun j => .int (f j))) (Fp1 : Sta Z h0 "java/lang/StringUTF16" "$assertionsDisabled" "Z" (.int (1 : Int32))) (Fp2 : Sta Z h0 "java/lang/StringUTF16" "HI_BYTE_SHIFT" "I" (.int (0 : Int32))) (Fp3 : Sta Z h0 "java/lang/StringUTF16" "LO_BYTE_SHIFT" "I" (.int (8 : Int32))) (hu : u = 0) (hN : N = 1 ∨ N = 2) :
    MetFree l (⟨"java/lang/StringUTF16", "toBytes", "([CII)[B"⟩ : MethodName) (head1 (Jvm.Cond.code (⟨"java/lang/StringUTF16", "toBytes", "([CII)[B"⟩ : MethodName) jdk_52_method_14_code 5 (some (.array .byte)) :: ws) ({ frames := 2, cells := 1, slots := 4, locals := 24 } : Room)) (fun a U => a = #[(.ref a1), (.int (oi u)), (.int (oi N))] ∧ Z.Warmed39 U.vm ∧ U.heap = h0) (fun _ _ _ _ _ => True) (fun _ U o U' => ∃ v L, o = .returned v ∧ Q_rtob Z a1 u N f h0 n0 v U'.heap L ∧ FrameEnd U o U' L ({ frames := 2, cells := 1, slots := 4, locals := 24 } : Room).cells ({ frames := 2, cells := 1, slots := 4, locals := 24 } : Room).slots) := by
  refine MetFree.of_bodySF (plainFor_of_name pn_rtob) hisR ?_
  intro p e s m args below meth c s₁ Bd hml0 hP hK
  obtain ⟨rfl, hZ, hh⟩ := hP
  have hx := Bd.exec
  have hby := Bd.bytes
  have hml : c.maxLocals = 5 := hml0
  have hown : s.vm.findClass "java/lang/StringUTF16" = some m.cls := findClass_of_methodNamed Bd.named
  have hnm := (name_of_methodNamed Bd.named Bd.method).1
  have X0 : Stand p l e ({ frames := 2, cells := 1, slots := 4, locals := 24 } : Room) s m #[(.ref a1), (.int (oi u)), (.int (oi N))] below meth c s₁ [] 0 0 := Stand.of_body Bd
  have e0 : s₁.heap = h0 := by rw [← hh, Bd.state]; rfl
  have N0 := Fr.nil n0
  have pre0 : ∀ t, Steps p.tables e below (s₁.setTop (mkF m 0 #[.val (.ref a1), .val (.int (oi u)), .val (.int (oi N)), .unset, .unset] [])) t → Steps p.tables e below (s₁.setTop (entryFrame m #[(.ref a1), (.int (oi u)), (.int (oi N))] 5)) t := fun t k => castTop (ef_rtob m a1 (oi u) (oi N)) k
  have K0 := Keep.refl h0 []
  refine own_cps fun G hG => ?_
  obtain ⟨_, _, ⟨T1, L1, k1, n1⟩, -, X1, ⟨Lc1, hQ1, l1, y1, z1⟩, st1⟩ := Jvm.LawKit.callS X0 hx (y := (⟨"java/lang/StringUTF16", "newBytesFor", "(I)[B"⟩ : MethodName)) hown (mvT hZ (wq hw 203 rfl)) (mvT hZ (wq hw 204 rfl)) (mvT hZ (wq hw 45 rfl)) (mvT hZ (wq hw 205 rfl)) (by decide) (backOf (W := 0) (rnbf l Z a0 hw [] (N) h0 n0 Z0 hN) hZ (wq hw 205 rfl) (wq hw 45 rfl) (by decide) (by decide)) (g := (mkF m 1 #[.val (.ref a1), .val (.int (oi u)), .val (.int (oi N)), .unset, .unset] [(.int (oi N))])) rfl (by rw [hml]; rfl) (argsL := [(.int (oi N))]) (rest := []) (lenOf pd_17 rfl) rfl (by show 2 * 0 + _ ≤ _; exact Nat.le_of_eq rfl) (dq hby D39 1 rfl) (fun _ _ => ⟨rfl, e0, (by decide : 0 + 1 ≤ _), (by decide : 0 + 4 ≤ _)⟩)
  dsimp only [Pt.U, Pt.locs, Pt.cells, Pt.slots] at X1 l1 y1 z1 st1 hQ1
  subst l1 y1 z1
  obtain ⟨bn, rfl, N1q, Kc1, sb_bn, nf1_0_v1⟩ := hQ1
  have N1 := Fr.app N0 N1q
  replace sb_bn : Lq _ _ := sb_bn
  have ne_a1_bn : Dif a1 bn := Nat.ne_of_lt (Nat.lt_of_lt_of_le Fp0.lt sb_bn)
  have g_bn : Lq n0 bn := Nat.le_trans Z0 sb_bn
  have sz_bn : Lq h0.size bn := Nat.le_trans K0.1 sb_bn
  have Fp0_v1 := Fp0.keep Kc1 nin0
  have Fp1_v1 := Sta.keep0 Fp1 Kc1
  have Fp2_v1 := Sta.keep0 Fp2 Kc1
  have Fp3_v1 := Sta.keep0 Fp3 Kc1
  have Z1 : Lq n0 T1.heap.size := Nat.le_trans Z0 Kc1.1
  have KK1 := K0.trans Kc1 all0
  have pre2 : ∀ t, Steps p.tables e below (T1.setTop (mkF m 8 #[.val (.ref a1), .val (.int (oi u)), .val (.int (oi N)), .val (.ref bn), .val (.int (0 : Int32))] [])) t → Steps p.tables e below (s₁.setTop (entryFrame m #[(.ref a1), (.int (oi u)), (.int (oi N))] 5)) t := by
    intro t k
    refine pre0 t ?_
    refine XS.iloadN X0.here hx rfl (dq hby D39 0 rfl) rfl ?_
    refine st1 _ ?_
    refine XS.astoreN X1.here hx rfl (dq hby D39 2 rfl) rfl rfl (l' := #[.val (.ref a1), .val (.int (oi u)), .val (.int (oi N)), .val (.ref bn), .unset]) rfl ?_
    refine XS.iconst X1.here hx rfl (dq hby D39 3 rfl) ?_
    refine XS.istore X1.here hx rfl (dq hby D39 4 rfl) rfl (l' := #[.val (.ref a1), .val (.int (oi u)), .val (.int (oi N)), .val (.ref bn), .val (.int (0 : Int32))]) rfl ?_
    exact k
  have loop3 : ∀ (k3 : Nat) (TL3 : State) (Lc3 : List Loc) (hL3 : Heap) (i : Nat) (ci : Nat) (gb : Nat → Int32), Stand p l e ({ frames := 2, cells := 1, slots := 4, locals := 24 } : Room) s m #[(.ref a1), (.int (oi u)), (.int (oi N))] below meth c TL3 Lc3 1 4 → TL3.heap = hL3 → Fr n0 Lc3 → Lq n0 hL3.size → Keep h0 hL3 [] → Sta Z hL3 "java/lang/StringUTF16" "$assertionsDisabled" "Z" (.int (1 : Int32)) → Sta Z hL3 "java/lang/StringUTF16" "HI_BYTE_SHIFT" "I" (.int (0 : Int32)) → Sta Z hL3 "java/lang/StringUTF16" "LO_BYTE_SHIFT" "I" (.int (8 : Int32)) → ArF Z hL3 a1 .char N (fun j => .int (f j)) → ArF Z hL3 bn .byte (2 * N) (fun j => .int (gb j)) → i + k3 = N → ci = i → (∀ j, j < i → gb (2 * j) = b0 (f j) ∧ gb (2 * j + 1) = b1 (f j)) → (∀ t, Steps p.tables e below (TL3.setTop (mkF m 8 #[.val (.ref a1), .val (.int (oi ci)), .val (.int (oi N)), .val (.ref bn), .val (.int (oi i))] [])) t → Steps p.tables e below (s₁.setTop (entryFrame m #[(.ref a1), (.int (oi u)), (.int (oi N))] 5)) t) → G := by
    intro k3
    induction k3 with
    | zero =>
      intro TL3 Lc3 hL3 i ci gb XL3 eL3 NL3 ZL3 KL3 lf3_0_v3 lf3_1_v3 lf3_2_v3 lf3_3_v3 lf3_4_v3 hk hci hgb prL3
      refine hG ?_
      obtain ⟨fs, hr, hrun, hended, hW, hsame⟩ := XL3.leave (v := some (.ref bn)) (fun h => by rw [Bd.returns] at h; cases h)
      refine ⟨_, _, prL3 _ ?_, hrun, hended, _, _, rfl, ?_, ⟨_, rfl⟩, hW, hsame.mono (by decide) (by decide)⟩
      · show Steps p.tables e below (TL3.setTop (mkF m 8 #[.val (.ref a1), .val (.int (oi ci)), .val (.int (oi N)), .val (.ref bn), .val (.int (oi i))] [])) _
        refine XS.iload XL3.here hx rfl (dq hby D39 5 rfl) rfl ?_
        refine XS.iloadN XL3.here hx rfl (dq hby D39 6 rfl) rfl ?_
        refine XS.icmpYes XL3.here hx rfl (pc0 := 11) (pc' := 32) rfl (dq hby D39 7 rfl) rfl (flt ((by rw [oi_lt (by omega) (by omega)]; omega) : ¬ ((oi i) < (oi N)))).2.1 (by decide) (by decide) ?_
        refine XS.aloadN XL3.here hx rfl (dq hby D39 17 rfl) rfl rfl ?_
        jvm_step XL3.here [XL3.here.top, hx, (dq hby D39 18 rfl), XL3.method', Bd.returns, Value.isRef, FieldType.isReference]
        first | (intro acts; rw [hr _ acts rfl rfl rfl]) | rw [hr _ _ rfl rfl rfl]
        exact Steps.refl _
      · show Q_rtob Z a1 u N f h0 n0 _ TL3.heap _
        rw [eL3]
        exact ⟨_, _, rfl, NL3, KL3, sz_bn, lf3_4_v3, fun j hj => hgb j (by omega)⟩
    | succ k3 ih3 =>
      intro TL3 Lc3 hL3 i ci gb XL3 eL3 NL3 ZL3 KL3 lf3_0_v3 lf3_1_v3 lf3_2_v3 lf3_3_v3 lf3_4_v3 hk hci hgb prL3
      obtain ⟨cl4, Ar4, S4, H4⟩ := id lf3_3_v3
      replace S4 : Sq cl4.slots.size _ := S4
      have hin4 : Hq (oi ci) cl4.slots.size := oi_at S4 (by omega) (by omega)
      have hat4 : cl4.slots[((oi ci)).toNatClampNeg]? = some (.int (f ci)) := ArF.at S4 H4 hin4 (congrArg (fun zz => Value.int (f zz)) (oi_n (by omega)))
      obtain ⟨_, _, ⟨T5, L5, k5, n5⟩, -, X5, ⟨Lc5, hQ5, l5, y5, z5⟩, st5⟩ := Jvm.LawKit.callS XL3 hx (y := (⟨"java/lang/StringUTF16", "putChar", "([BII)V"⟩ : MethodName)) hown (mvT hZ (wq hw 210 rfl)) (mvT hZ (wq hw 211 rfl)) (mvT hZ (wq hw 45 rfl)) (mvT hZ (wq hw 212 rfl)) (by decide) (backOf (W := 0) (rputc l Z a0 hw [] bn (f ci) (i) (2 * N) gb hL3 n0 ZL3 lf3_4_v3 lf3_0_v3 lf3_1_v3 lf3_2_v3 g_bn (by omega) (by omega)) hZ (wq hw 212 rfl) (wq hw 45 rfl) (by decide) (by decide)) (g := (mkF m 20 #[.val (.ref a1), .val (.int (oi ci)), .val (.int (oi N)), .val (.ref bn), .val (.int (oi i))] [(.int (f ci)), (.int (oi i)), (.ref bn)])) rfl (by rw [hml]; rfl) (argsL := [(.ref bn), (.int (oi i)), (.int (f ci))]) (rest := []) (lenOf pd_18 rfl) rfl (by show 2 * 0 + _ ≤ _; exact Nat.le_of_eq rfl) (dq hby D39 13 rfl) (fun _ _ => ⟨rfl, eL3, (by decide : 1 + 0 ≤ _), (by decide : 4 + 0 ≤ _)⟩)
      dsimp only [Pt.U, Pt.locs, Pt.cells, Pt.slots] at X5 l5 y5 z5 st5 hQ5
      subst l5 y5 z5
      obtain ⟨gp, rfl, N5q, Kc5, nf5_0_v5, hga, hgb', hgc⟩ := hQ5
      have N5 := Fr.app NL3 N5q
      have lf3_0_v5 := Sta.keepW lf3_0_v3 Kc5 (nosS (nosV lf3_4_v3) nos0)
      have lf3_1_v5 := Sta.keepW lf3_1_v3 Kc5 (nosS (nosV lf3_4_v3) nos0)
      have lf3_2_v5 := Sta.keepW lf3_2_v3 Kc5 (nosS (nosV lf3_4_v3) nos0)
      have lf3_3_v5 := lf3_3_v3.keep Kc5 (ninS ne_a1_bn nin0)
      have Z5 : Lq n0 T5.heap.size := Nat.le_trans ZL3 Kc5.1
      have KK5 := KL3.trans Kc5 (allS (Or.inr sz_bn) all0)
      have pre6 : ∀ t, Steps p.tables e below (T5.setTop (mkF m 8 #[.val (.ref a1), .val (.int (oi (ci + 1))), .val (.int (oi N)), .val (.ref bn), .val (.int (oi (i + 1)))] [])) t → Steps p.tables e below (s₁.setTop (entryFrame m #[(.ref a1), (.int (oi u)), (.int (oi N))] 5)) t := by
        intro t k
        refine prL3 t ?_
        refine XS.iload XL3.here hx rfl (dq hby D39 5 rfl) rfl ?_
        refine XS.iloadN XL3.here hx rfl (dq hby D39 6 rfl) rfl ?_
        refine XS.icmpNo XL3.here hx rfl (dq hby D39 7 rfl) rfl (tlt ((by rw [oi_lt (by omega) (by omega)]; omega) : ((oi i) < (oi N)))).2.1 ?_
        refine XS.aloadN XL3.here hx rfl (dq hby D39 8 rfl) rfl rfl ?_
        refine XS.iload XL3.here hx rfl (dq hby D39 9 rfl) rfl ?_
        refine XS.aloadN XL3.here hx rfl (dq hby D39 10 rfl) rfl rfl ?_
        refine XS.iloadN XL3.here hx rfl (dq hby D39 11 rfl) rfl ?_
        refine XL3.caload hx (j := (oi ci)) (v := (.int (f ci))) (by rw [eL3]; exact Ar4.1) (State.isArrayOf_alike hZ.alike Ar4.2.1) Ar4.2.2 hin4 hat4 (g := (mkF m 19 #[.val (.ref a1), .val (.int (oi ci)), .val (.int (oi N)), .val (.ref bn), .val (.int (oi i))] [(.int (oi ci)), (.ref a1), (.int (oi i)), (.ref bn)])) rfl rfl (dq hby D39 12 rfl) _ ?_
        refine st5 _ ?_
        show Steps p.tables e below (T5.setTop (mkF m 23 #[.val (.ref a1), .val (.int (oi ci)), .val (.int (oi N)), .val (.ref bn), .val (.int (oi i))] [])) _
        refine XS.iinc X5.here hx rfl (dq hby D39 14 rfl) rfl (l' := #[.val (.ref a1), .val (.int ((oi ci) + (1 : Int32))), .val (.int (oi N)), .val (.ref bn), .val (.int (oi i))]) rfl ?_
        show Steps p.tables e below (T5.setTop (mkF m 26 #[.val (.ref a1), .val (.int ((oi ci) + (1 : Int32))), .val (.int (oi N)), .val (.ref bn), .val (.int (oi i))] [])) _
        rw [oi_s (ci)]
        refine XS.iinc X5.here hx rfl (dq hby D39 15 rfl) rfl (l' := #[.val (.ref a1), .val (.int (oi (ci + 1))), .val (.int (oi N)), .val (.ref bn), .val (.int ((oi i) + (1 : Int32)))]) rfl ?_
        show Steps p.tables e below (T5.setTop (mkF m 29 #[.val (.ref a1), .val (.int (oi (ci + 1))), .val (.int (oi N)), .val (.ref bn), .val (.int ((oi i) + (1 : Int32)))] [])) _
        rw [oi_s (i)]
        refine XS.goto X5.here hx rfl (pc0 := 29) (pc' := 8) rfl (dq hby D39 16 rfl) (by decide) (by decide) ?_
        exact k
      exact ih3 _ _ _ (i + 1) (ci + 1) _ X5 rfl N5 Z5 KK5 lf3_0_v5 lf3_1_v5 lf3_2_v5 lf3_3_v5 nf5_0_v5 (by omega) (by omega) (tob_s hci hgb hga hgb' hgc) pre6
  exact loop3 N _ _ _ 0 u (fun _ => 0) X1 rfl N1 Z1 KK1 Fp1_v1 Fp2_v1 Fp3_v1 Fp0_v1 nf1_0_v1 (by omega) hu (fun j hj => absurd hj (Nat.not_lt_zero j)) pre2
theorem D9 : ∀ x ∈ ([(0, .iconst 0, 1), (1, .istore 5, 2), (3, .iload 5, 2), (5, .iload 4, 2), (7, .if_icmp .ge 37, 3), (10, .aload_n 0, 1), (11, .iload_n 1, 1), (12, .caload, 1), (13, .istore 6, 2), (15, .iload 6, 2), (17, .sipush 255, 3), (20, .if_icmp .le 6, 3), (23, .iload 5, 2), (25, .ireturn, 1), (26, .aload_n 2, 1), (27, .iload_n 3, 1), (28, .iload 6, 2), (30, .i2b, 1), (31, .bastore, 1), (32, .iinc 1 1, 3), (35, .iinc 3 1, 3), (38, .iinc 5 1, 3), (41, .goto (-38), 3), (44, .iload 4, 2), (46, .ireturn, 1)] : List (Nat × Instr × Nat)), decode jdk_52_method_21_code x.1 = .ok x.2 := by decide +kernel
theorem pn_rcm5 : plainName "java/lang/StringUTF16" = true := by first | (simp [plainName, overriddenIn]; done) | decide +kernel
theorem ef_rcm5 (m : MethodId) (x0 : Addr) (x1 : Int32) (x2 : Addr) (x3 : Int32) (x4 : Int32) : entryFrame m #[(.ref x0), (.int x1), (.ref x2), (.int x3), (.int x4)] 7 = mkF m 0 #[.val (.ref x0), .val (.int x1), .val (.ref x2), .val (.int x3), .val (.int x4), .unset, .unset] [] := by first | (simp [entryFrame, mkF, argsToLocals, Value.category]; done) | rfl
def Q_rcm5 (Z : State) (a1 : Addr) (a3 : Addr) (u oo N : Nat) (f g : Nat → Int32) (h0 : Heap) (n0 : Nat) (v : Option Value) (h : Heap) (L : List Loc) : Prop := ∃ (y : Nat) (g' : Nat → Int32), v = some (.int (oi y)) ∧ Fr n0 L ∧ Keep h0 h [a3] ∧ ArF Z h a3 .byte N (fun j => .int (g' j)) ∧ (y = N ∨ (y < N ∧ (255 : Int32) < f y))
set_option maxRecDepth 65536 in
set_option maxHeartbeats 40000000 in
theorem rcm5 (l : Launch) (Z : State) (a0 : Array Value) (hw : ∀ d ∈ tables_1, d.before a0 Z = true) (ws : List Jvm.Cond) (a1 : Addr) (a3 : Addr) (u oo N : Nat) (f g : Nat → Int32) (h0 : Heap) (n0 : Nat) (Z0 : n0 ≤ h0.size) (Fp0 : ArF Z h0 a1 .char N (fun j => .int (f j))) (Fp1 : ArF Z h0 a3 .byte N (fun j => .int (g j))) (ga : n0 ≤ a3) (n13 : a1 ≠ a3) (hu : u = 0) (ho : oo = 0) (hN : N < 1000) :
    MetFree l (⟨"java/lang/StringUTF16", "compress", "([CI[BII)I"⟩ : MethodName) (head1 (Jvm.Cond.code (⟨"java/lang/StringUTF16", "compress", "([CI[BII)I"⟩ : MethodName) jdk_52_method_21_code 7 (some .int) :: ws) ({ frames := 0, cells := 0, slots := 0, locals := 0 } : Room)) (fun a U => a = #[(.ref a1), (.int (oi u)), (.ref a3), (.int (oi oo)), (.int (oi N))] ∧ Z.Warmed39 U.vm ∧ U.heap = h0) (fun _ _ _ _ _ => True) (fun _ U o U' => ∃ v L, o = .returned v ∧ Q_rcm5 Z a1 a3 u oo N f g h0 n0 v U'.heap L ∧ FrameEnd U o U' L ({ frames := 0, cells := 0, slots := 0, locals := 0 } : Room).cells ({ frames := 0, cells := 0, slots := 0, locals := 0 } : Room).slots) := by
  refine MetFree.of_bodySF (plainFor_of_name pn_rcm5) hisR ?_
  intro p e s m args below meth c s₁ Bd hml0 hP hK
  obtain ⟨rfl, hZ, hh⟩ := hP
  have hx := Bd.exec
  have hby := Bd.bytes
  have hml : c.maxLocals = 7 := hml0
  have hown : s.vm.findClass "java/lang/StringUTF16" = some m.cls := findClass_of_methodNamed Bd.named
  have hnm := (name_of_methodNamed Bd.named Bd.method).1
  have X0 : Stand p l e ({ frames := 0, cells := 0, slots := 0, locals := 0 } : Room) s m #[(.ref a1), (.int (oi u)), (.ref a3), (.int (oi oo)), (.int (oi N))] below meth c s₁ [] 0 0 := Stand.of_body Bd
  have e0 : s₁.heap = h0 := by rw [← hh, Bd.state]; rfl
  have N0 := Fr.nil n0
  have pre0 : ∀ t, Steps p.tables e below (s₁.setTop (mkF m 0 #[.val (.ref a1), .val (.int (oi u)), .val (.ref a3), .val (.int (oi oo)), .val (.int (oi N)), .unset, .unset] [])) t → Steps p.tables e below (s₁.setTop (entryFrame m #[(.ref a1), (.int (oi u)), (.ref a3), (.int (oi oo)), (.int (oi N))] 7)) t := fun t k => castTop (ef_rcm5 m a1 (oi u) a3 (oi oo) (oi N)) k
  have K0 := Keep.refl h0 [a3]
  refine own_cps fun G hG => ?_
  have pre1 : ∀ t, Steps p.tables e below (s₁.setTop (mkF m 3 #[.val (.ref a1), .val (.int (oi u)), .val (.ref a3), .val (.int (oi oo)), .val (.int (oi N)), .val (.int (0 : Int32)), .unset] [])) t → Steps p.tables e below (s₁.setTop (entryFrame m #[(.ref a1), (.int (oi u)), (.ref a3), (.int (oi oo)), (.int (oi N))] 7)) t := by
    intro t k
    refine pre0 t ?_
    refine XS.iconst X0.here hx rfl (dq hby D9 0 rfl) ?_
    refine XS.istore X0.here hx rfl (dq hby D9 1 rfl) rfl (l' := #[.val (.ref a1), .val (.int (oi u)), .val (.ref a3), .val (.int (oi oo)), .val (.int (oi N)), .val (.int (0 : Int32)), .unset]) rfl ?_
    exact k
  have loop2 : ∀ (k2 : Nat) (TL2 : State) (Lc2 : List Loc) (hL2 : Heap) (i : Nat) (ci : Nat) (di : Nat) (gc : Nat → Int32) (s6 : Slot), Stand p l e ({ frames := 0, cells := 0, slots := 0, locals := 0 } : Room) s m #[(.ref a1), (.int (oi u)), (.ref a3), (.int (oi oo)), (.int (oi N))] below meth c TL2 Lc2 0 0 → TL2.heap = hL2 → Fr n0 Lc2 → Lq n0 hL2.size → Keep h0 hL2 [a3] → ArF Z hL2 a1 .char N (fun j => .int (f j)) → ArF Z hL2 a3 .byte N (fun j => .int (gc j)) → i + k2 = N → ci = i → di = i → (s6 = .unset ∨ ∃ z, s6 = .val (.int z)) → (∀ t, Steps p.tables e below (TL2.setTop (mkF m 3 #[.val (.ref a1), .val (.int (oi ci)), .val (.ref a3), .val (.int (oi di)), .val (.int (oi N)), .val (.int (oi i)), s6] [])) t → Steps p.tables e below (s₁.setTop (entryFrame m #[(.ref a1), (.int (oi u)), (.ref a3), (.int (oi oo)), (.int (oi N))] 7)) t) → G := by
    intro k2
    induction k2 with
    | zero =>
      intro TL2 Lc2 hL2 i ci di gc s6 XL2 eL2 NL2 ZL2 KL2 lf2_0_v2 lf2_1_v2 hk hci hdi hs6 prL2
      refine hG ?_
      obtain ⟨fs, hr, hrun, hended, hW, hsame⟩ := XL2.leave (v := some (.int (oi N))) (fun h => by rw [Bd.returns] at h; cases h)
      refine ⟨_, _, prL2 _ ?_, hrun, hended, _, _, rfl, ?_, ⟨_, rfl⟩, hW, hsame.mono (by decide) (by decide)⟩
      · show Steps p.tables e below (TL2.setTop (mkF m 3 #[.val (.ref a1), .val (.int (oi ci)), .val (.ref a3), .val (.int (oi di)), .val (.int (oi N)), .val (.int (oi i)), s6] [])) _
        refine XS.iload XL2.here hx rfl (dq hby D9 2 rfl) rfl ?_
        refine XS.iload XL2.here hx rfl (dq hby D9 3 rfl) rfl ?_
        refine XS.icmpYes XL2.here hx rfl (pc0 := 7) (pc' := 44) rfl (dq hby D9 4 rfl) rfl (flt ((by rw [oi_lt (by omega) (by omega)]; omega) : ¬ ((oi i) < (oi N)))).2.1 (by decide) (by decide) ?_
        refine XS.iload XL2.here hx rfl (dq hby D9 23 rfl) rfl ?_
        exact retI XL2 hx Bd.returns (dq hby D9 24 rfl) hr
      · show Q_rcm5 Z a1 a3 u oo N f g h0 n0 _ TL2.heap _
        rw [eL2]
        exact ⟨N, _, rfl, NL2, KL2, lf2_1_v2, Or.inl rfl⟩
    | succ k2 ih2 =>
      intro TL2 Lc2 hL2 i ci di gc s6 XL2 eL2 NL2 ZL2 KL2 lf2_0_v2 lf2_1_v2 hk hci hdi hs6 prL2
      obtain ⟨cl3, Ar3, S3, H3⟩ := id lf2_0_v2
      replace S3 : Sq cl3.slots.size _ := S3
      have hin3 : Hq (oi ci) cl3.slots.size := oi_at S3 (by omega) (by omega)
      have hat3 : cl3.slots[((oi ci)).toNatClampNeg]? = some (.int (f ci)) := ArF.at S3 H3 hin3 (congrArg (fun zz => Value.int (f zz)) (oi_n (by omega)))
      have pre4 : ∀ t, Steps p.tables e below (TL2.setTop (mkF m 20 #[.val (.ref a1), .val (.int (oi ci)), .val (.ref a3), .val (.int (oi di)), .val (.int (oi N)), .val (.int (oi i)), .val (.int (f ci))] [(.int (255 : Int32)), (.int (f ci))])) t → Steps p.tables e below (s₁.setTop (entryFrame m #[(.ref a1), (.int (oi u)), (.ref a3), (.int (oi oo)), (.int (oi N))] 7)) t := by
        intro t k
        refine prL2 t ?_
        refine XS.iload XL2.here hx rfl (dq hby D9 2 rfl) rfl ?_
        refine XS.iload XL2.here hx rfl (dq hby D9 3 rfl) rfl ?_
        refine XS.icmpNo XL2.here hx rfl (dq hby D9 4 rfl) rfl (tlt ((by rw [oi_lt (by omega) (by omega)]; omega) : ((oi i) < (oi N)))).2.1 ?_
        refine XS.aloadN XL2.here hx rfl (dq hby D9 5 rfl) rfl rfl ?_
        refine XS.iloadN XL2.here hx rfl (dq hby D9 6 rfl) rfl ?_
        refine XL2.caload hx (j := (oi ci)) (v := (.int (f ci))) (by rw [eL2]; exact Ar3.1) (State.isArrayOf_alike hZ.alike Ar3.2.1) Ar3.2.2 hin3 hat3 (g := (mkF m 12 #[.val (.ref a1), .val (.int (oi ci)), .val (.ref a3), .val (.int (oi di)), .val (.int (oi N)), .val (.int (oi i)), s6] [(.int (oi ci)), (.ref a1)])) rfl rfl (dq hby D9 7 rfl) _ ?_
        refine XS.istore XL2.here hx rfl (dq hby D9 8 rfl) rfl (l' := #[.val (.ref a1), .val (.int (oi ci)), .val (.ref a3), .val (.int (oi di)), .val (.int (oi N)), .val (.int (oi i)), .val (.int (f ci))]) (by rcases hs6 with rfl | ⟨_, rfl⟩ <;> rfl) ?_
        refine XS.iload XL2.here hx rfl (dq hby D9 9 rfl) rfl ?_
        refine XS.sipush XL2.here hx rfl (dq hby D9 10 rfl) ?_
        exact k
      by_cases hc20_5 : (255 : Int32) < (f ci)
      · refine hG ?_
        obtain ⟨fs, hr, hrun, hended, hW, hsame⟩ := XL2.leave (v := some (.int (oi i))) (fun h => by rw [Bd.returns] at h; cases h)
        refine ⟨_, _, pre4 _ ?_, hrun, hended, _, _, rfl, ?_, ⟨_, rfl⟩, hW, hsame.mono (by decide) (by decide)⟩
        · show Steps p.tables e below (TL2.setTop (mkF m 20 #[.val (.ref a1), .val (.int (oi ci)), .val (.ref a3), .val (.int (oi di)), .val (.int (oi N)), .val (.int (oi i)), .val (.int (f ci))] [(.int (255 : Int32)), (.int (f ci))])) _
          refine XS.icmpNo XL2.here hx rfl (dq hby D9 11 rfl) rfl (tlt hc20_5).2.2.2 ?_
          refine XS.iload XL2.here hx rfl (dq hby D9 12 rfl) rfl ?_
          exact retI XL2 hx Bd.returns (dq hby D9 13 rfl) hr
        · show Q_rcm5 Z a1 a3 u oo N f g h0 n0 _ TL2.heap _
          rw [eL2]
          exact ⟨i, _, rfl, NL2, KL2, lf2_1_v2, Or.inr ⟨by omega, by rw [← hci]; exact hc20_5⟩⟩
      · obtain ⟨cl6, Ar6, S6, H6⟩ := id lf2_1_v2
        replace S6 : Sq cl6.slots.size _ := S6
        have hin6 : Hq (oi di) cl6.slots.size := oi_at S6 (by omega) (by omega)
        obtain ⟨T6, h6, X6, e6, W6, st6⟩ := stB XL2 hx hZ eL2 Ar6 (j := (oi di)) hin6 (g := (mkF m 31 #[.val (.ref a1), .val (.int (oi ci)), .val (.ref a3), .val (.int (oi di)), .val (.int (oi N)), .val (.int (oi i)), .val (.int (f ci))] [(.int ((f ci).toInt8.toInt32)), (.int (oi di)), (.ref a3)])) rfl rfl (dq hby D9 18 rfl)
        have lf2_0_v6 := lf2_0_v2.other W6 n13
        have Z6 : Lq n0 h6.size := Nat.le_trans ZL2 (Nat.le_of_eq W6.size.symm)
        have K6 := KL2.wr W6 (Or.inl (by simp))
        have V6_v6 := ArF.set Ar6 S6 H6 W6 hin6
        have N6 := Fr.snoc X6 NL2 ga
        have pre7 : ∀ t, Steps p.tables e below (T6.setTop (mkF m 3 #[.val (.ref a1), .val (.int (oi (ci + 1))), .val (.ref a3), .val (.int (oi (di + 1))), .val (.int (oi N)), .val (.int (oi (i + 1))), .val (.int (f ci))] [])) t → Steps p.tables e below (s₁.setTop (entryFrame m #[(.ref a1), (.int (oi u)), (.ref a3), (.int (oi oo)), (.int (oi N))] 7)) t := by
          intro t k
          refine pre4 t ?_
          refine XS.icmpYes XL2.here hx rfl (pc0 := 20) (pc' := 26) rfl (dq hby D9 11 rfl) rfl (flt hc20_5).2.2.2 (by decide) (by decide) ?_
          refine XS.aloadN XL2.here hx rfl (dq hby D9 14 rfl) rfl rfl ?_
          show Steps p.tables e below (TL2.setTop (mkF m 27 #[.val (.ref a1), .val (.int (oi ci)), .val (.ref a3), .val (.int (oi di)), .val (.int (oi N)), .val (.int (oi i)), .val (.int (f ci))] [(.ref a3)])) _
          refine XS.iloadN XL2.here hx rfl (dq hby D9 15 rfl) rfl ?_
          refine XS.iload XL2.here hx rfl (dq hby D9 16 rfl) rfl ?_
          refine XS.i2b XL2.here hx rfl (dq hby D9 17 rfl) rfl ?_
          refine st6 _ ?_
          refine XS.iinc X6.here hx rfl (dq hby D9 19 rfl) rfl (l' := #[.val (.ref a1), .val (.int ((oi ci) + (1 : Int32))), .val (.ref a3), .val (.int (oi di)), .val (.int (oi N)), .val (.int (oi i)), .val (.int (f ci))]) rfl ?_
          show Steps p.tables e below (T6.setTop (mkF m 35 #[.val (.ref a1), .val (.int ((oi ci) + (1 : Int32))), .val (.ref a3), .val (.int (oi di)), .val (.int (oi N)), .val (.int (oi i)), .val (.int (f ci))] [])) _
          rw [oi_s (ci)]
          refine XS.iinc X6.here hx rfl (dq hby D9 20 rfl) rfl (l' := #[.val (.ref a1), .val (.int (oi (ci + 1))), .val (.ref a3), .val (.int ((oi di) + (1 : Int32))), .val (.int (oi N)), .val (.int (oi i)), .val (.int (f ci))]) rfl ?_
          show Steps p.tables e below (T6.setTop (mkF m 38 #[.val (.ref a1), .val (.int (oi (ci + 1))), .val (.ref a3), .val (.int ((oi di) + (1 : Int32))), .val (.int (oi N)), .val (.int (oi i)), .val (.int (f ci))] [])) _
          rw [oi_s (di)]
          refine XS.iinc X6.here hx rfl (dq hby D9 21 rfl) rfl (l' := #[.val (.ref a1), .val (.int (oi (ci + 1))), .val (.ref a3), .val (.int (oi (di + 1))), .val (.int (oi N)), .val (.int ((oi i) + (1 : Int32))), .val (.int (f ci))]) rfl ?_
          show Steps p.tables e below (T6.setTop (mkF m 41 #[.val (.ref a1), .val (.int (oi (ci + 1))), .val (.ref a3), .val (.int (oi (di + 1))), .val (.int (oi N)), .val (.int ((oi i) + (1 : Int32))), .val (.int (f ci))] [])) _
          rw [oi_s (i)]
          refine XS.goto X6.here hx rfl (pc0 := 41) (pc' := 3) rfl (dq hby D9 22 rfl) (by decide) (by decide) ?_
          exact k
        exact ih2 _ _ _ (i + 1) (ci + 1) (di + 1) _ _ X6 e6 N6 Z6 K6 lf2_0_v6 (V6_v6.congr (fun j hj => set_up (oi_n (k := di) (by omega)) j)) (by omega) (by omega) (by omega) (Or.inr ⟨_, rfl⟩) pre7
  exact loop2 N _ _ _ 0 u oo g .unset X0 e0 N0 Z0 K0 Fp0 Fp1 (by omega) hu ho (Or.inl rfl) pre1
theorem D8 : ∀ x ∈ ([(0, .iload_n 2, 1), (1, .newarray .byte, 2), (3, .astore_n 3, 1), (4, .aload_n 0, 1), (5, .iload_n 1, 1), (6, .aload_n 3, 1), (7, .iconst 0, 1), (8, .iload_n 2, 1), (9, .invokestatic 115, 3), (12, .istore 4, 2), (14, .iload 4, 2), (16, .iload_n 2, 1), (17, .if_icmp .eq 40, 3), (20, .aload_n 0, 1), (21, .iload_n 1, 1), (22, .iload_n 2, 1), (23, .invokestatic 119, 3), (26, .astore 5, 2), (28, .aload 5, 2), (30, .iload 4, 2), (32, .invokestatic 71, 3), (35, .sipush 255, 3), (38, .if_icmp .gt 16, 3), (54, .aload 5, 2), (56, .areturn, 1), (57, .aload_n 3, 1), (58, .areturn, 1)] : List (Nat × Instr × Nat)), decode jdk_52_method_16_code x.1 = .ok x.2 := by decide +kernel
theorem pn_rcm3 : plainName "java/lang/StringUTF16" = true := by first | (simp [plainName, overriddenIn]; done) | decide +kernel
theorem ef_rcm3 (m : MethodId) (x0 : Addr) (x1 : Int32) (x2 : Int32) : entryFrame m #[(.ref x0), (.int x1), (.int x2)] 6 = mkF m 0 #[.val (.ref x0), .val (.int x1), .val (.int x2), .unset, .unset, .unset] [] := by first | (simp [entryFrame, mkF, argsToLocals, Value.category]; done) | rfl
def Q_rcm3 (Z : State) (a1 : Addr) (u N : Nat) (f : Nat → Int32) (h0 : Heap) (n0 : Nat) (v : Option Value) (h : Heap) (L : List Loc) : Prop := ∃ (y : Addr) (nb : Nat) (g : Nat → Int32), v = some (.ref y) ∧ Fr n0 L ∧ Keep h0 h [] ∧ h0.size ≤ y ∧ ArF Z h y .byte nb (fun j => .int (g j)) ∧ (nb = N ∨ nb = 2 * N)
set_option maxRecDepth 65536 in
set_option maxHeartbeats 40000000 in
theorem rcm3 (l : Launch) (Z : State) (a0 : Array Value) (hw : ∀ d ∈ tables_1, d.before a0 Z = true) (ws : List Jvm.Cond) (a1 : Addr) (u N : Nat) (f : Nat → Int32) (h0 : Heap) (n0 : Nat) (Z0 : n0 ≤ h0.size) (Fp0 : ArF Z h0 a1 .char N (fun j => .int (f j))) (Fp1 : Sta Z h0 "java/lang/StringUTF16" "$assertionsDisabled" "Z" (.int (1 : Int32))) (Fp2 : Sta Z h0 "java/lang/StringUTF16" "HI_BYTE_SHIFT" "I" (.int (0 : Int32))) (Fp3 : Sta Z h0 "java/lang/StringUTF16" "LO_BYTE_SHIFT" "I" (.int (8 : Int32))) (hu : u = 0) (hB : ∀ j, j < N → own_B (f j)) (hN : N = 1 ∨ N = 2) :
    MetFree l (⟨"java/lang/StringUTF16", "compress", "([CII)[B"⟩ : MethodName) (head1 (Jvm.Cond.code (⟨"java/lang/StringUTF16", "compress", "([CII)[B"⟩ : MethodName) jdk_52_method_16_code 6 (some (.array .byte)) :: ws) ({ frames := 3, cells := 2, slots := 6, locals := 40 } : Room)) (fun a U => a = #[(.ref a1), (.int (oi u)), (.int (oi N))] ∧ Z.Warmed39 U.vm ∧ U.heap = h0) (fun _ _ _ _ _ => True) (fun _ U o U' => ∃ v L, o = .returned v ∧ Q_rcm3 Z a1 u N f h0 n0 v U'.heap L ∧ FrameEnd U o U' L ({ frames := 3, cells := 2, slots := 6, locals := 40 } : Room).cells ({ frames := 3, cells := 2, slots := 6, locals := 40 } : Room).slots) := by
  refine MetFree.of_bodySF (plainFor_of_name pn_rcm3) hisR ?_
  intro p e s m args below meth c s₁ Bd hml0 hP hK
  obtain ⟨rfl, hZ, hh⟩ := hP
  have hx := Bd.exec
  have hby := Bd.bytes
  have hml : c.maxLocals = 6 := hml0
  have hown : s.vm.findClass "java/lang/StringUTF16" = some m.cls := findClass_of_methodNamed Bd.named
  have hnm := (name_of_methodNamed Bd.named Bd.method).1
  have X0 : Stand p l e ({ frames := 3, cells := 2, slots := 6, locals := 40 } : Room) s m #[(.ref a1), (.int (oi u)), (.int (oi N))] below meth c s₁ [] 0 0 := Stand.of_body Bd
  have e0 : s₁.heap = h0 := by rw [← hh, Bd.state]; rfl
  have N0 := Fr.nil n0
  have pre0 : ∀ t, Steps p.tables e below (s₁.setTop (mkF m 0 #[.val (.ref a1), .val (.int (oi u)), .val (.int (oi N)), .unset, .unset, .unset] [])) t → Steps p.tables e below (s₁.setTop (entryFrame m #[(.ref a1), (.int (oi u)), (.int (oi N))] 6)) t := fun t k => castTop (ef_rcm3 m a1 (oi u) (oi N)) k
  have K0 := Keep.refl h0 []
  refine own_cps fun G hG => ?_
  obtain ⟨T1, h1, k1, X1, e1, E1, A1, st1⟩ := newP X0 hx hZ (wq hw 47 rfl) e0 (g := (mkF m 1 #[.val (.ref a1), .val (.int (oi u)), .val (.int (oi N)), .unset, .unset, .unset] [(.int (oi N))])) rfl (dq hby D8 1 rfl) rfl (oi_nn (by omega)) (cap := 2) (by rw [oi_n (k := N) (by omega)]; omega) (by decide) (by decide) (by decide)
  obtain ⟨b1, g1⟩ : ∃ z, z = h0.size := ⟨_, rfl⟩
  rw [← g1] at A1 st1
  have ne_a1_b1 : Dif a1 b1 := Nat.ne_of_lt (Nat.lt_of_lt_of_le Fp0.lt (Nat.le_of_eq g1.symm))
  have g_b1 : Lq n0 b1 := Nat.le_trans Z0 (Nat.le_of_eq g1.symm)
  have sz_b1 : Lq h0.size b1 := Nat.le_trans K0.1 (Nat.le_of_eq g1.symm)
  clear g1
  have Fp0_v1 := Fp0.ext E1
  have Fp1_v1 := Fp1.ext E1
  have Fp2_v1 := Fp2.ext E1
  have Fp3_v1 := Fp3.ext E1
  have Z1 : Lq n0 h1.size := Nat.le_trans Z0 E1.1
  have K1 := K0.ext E1
  have V1_v1 : ArF Z h1 b1 .byte (oi N).toNatClampNeg (fun _ => (.int 0)) := ArF.mk0 A1 rfl rfl
  have VC2_v2 : ArF Z h1 b1 .byte N (fun j => .int ((fun _ => 0) j)) := (by have q := V1_v1; rw [oi_n (k := N) (by omega)] at q; exact q)
  obtain ⟨_, _, ⟨T3, L3, k3, n3⟩, -, X3, ⟨Lc3, hQ3, l3, y3, z3⟩, st3⟩ := Jvm.LawKit.callS X1 hx (y := (⟨"java/lang/StringUTF16", "compress", "([CI[BII)I"⟩ : MethodName)) hown (mvT hZ (wq hw 48 rfl)) (mvT hZ (wq hw 49 rfl)) (mvT hZ (wq hw 45 rfl)) (mvT hZ (wq hw 50 rfl)) (by decide) (backOf (W := 0) (rcm5 l Z a0 hw [] a1 b1 (u) 0 (N) f (fun _ => 0) h1 n0 Z1 Fp0_v1 VC2_v2 g_b1 ne_a1_b1 hu rfl (by omega)) hZ (wq hw 50 rfl) (wq hw 45 rfl) (by decide) (by decide)) (g := (mkF m 9 #[.val (.ref a1), .val (.int (oi u)), .val (.int (oi N)), .val (.ref b1), .unset, .unset] [(.int (oi N)), (.int (0 : Int32)), (.ref b1), (.int (oi u)), (.ref a1)])) rfl (by rw [hml]; rfl) (argsL := [(.ref a1), (.int (oi u)), (.ref b1), (.int (0 : Int32)), (.int (oi N))]) (rest := []) (lenOf pd_19 rfl) rfl (by show 2 * 0 + _ ≤ _; exact Nat.le_of_eq rfl) (dq hby D8 8 rfl) (fun _ _ => ⟨rfl, e1, (by decide : 1 + 0 ≤ _), (by decide : 2 + 0 ≤ _)⟩)
  dsimp only [Pt.U, Pt.locs, Pt.cells, Pt.slots] at X3 l3 y3 z3 st3 hQ3
  subst l3 y3 z3
  obtain ⟨yc, gd, rfl, N3q, Kc3, nf3_0_v3, hyc⟩ := hQ3
  have N3 := Fr.app N0 N3q
  have Fp0_v3 := Fp0_v1.keep Kc3 (ninS ne_a1_b1 nin0)
  have Fp1_v3 := Sta.keepW Fp1_v1 Kc3 (nosS (nosV VC2_v2) nos0)
  have Fp2_v3 := Sta.keepW Fp2_v1 Kc3 (nosS (nosV VC2_v2) nos0)
  have Fp3_v3 := Sta.keepW Fp3_v1 Kc3 (nosS (nosV VC2_v2) nos0)
  have Z3 : Lq n0 T3.heap.size := Nat.le_trans Z1 Kc3.1
  have KK3 := K1.trans Kc3 (allS (Or.inr sz_b1) all0)
  have pre4 : ∀ t, Steps p.tables e below (T3.setTop (mkF m 17 #[.val (.ref a1), .val (.int (oi u)), .val (.int (oi N)), .val (.ref b1), .val (.int (oi yc)), .unset] [(.int (oi N)), (.int (oi yc))])) t → Steps p.tables e below (s₁.setTop (entryFrame m #[(.ref a1), (.int (oi u)), (.int (oi N))] 6)) t := by
    intro t k
    refine pre0 t ?_
    refine XS.iloadN X0.here hx rfl (dq hby D8 0 rfl) rfl ?_
    refine st1 _ ?_
    refine XS.astoreN X1.here hx rfl (dq hby D8 2 rfl) rfl rfl (l' := #[.val (.ref a1), .val (.int (oi u)), .val (.int (oi N)), .val (.ref b1), .unset, .unset]) rfl ?_
    refine XS.aloadN X1.here hx rfl (dq hby D8 3 rfl) rfl rfl ?_
    refine XS.iloadN X1.here hx rfl (dq hby D8 4 rfl) rfl ?_
    refine XS.aloadN X1.here hx rfl (dq hby D8 5 rfl) rfl rfl ?_
    refine XS.iconst X1.here hx rfl (dq hby D8 6 rfl) ?_
    refine XS.iloadN X1.here hx rfl (dq hby D8 7 rfl) rfl ?_
    refine st3 _ ?_
    refine XS.istore X3.here hx rfl (dq hby D8 9 rfl) rfl (l' := #[.val (.ref a1), .val (.int (oi u)), .val (.int (oi N)), .val (.ref b1), .val (.int (oi yc)), .unset]) rfl ?_
    refine XS.iload X3.here hx rfl (dq hby D8 10 rfl) rfl ?_
    refine XS.iloadN X3.here hx rfl (dq hby D8 11 rfl) rfl ?_
    exact k
  by_cases hc17_5 : (oi yc) = (oi N)
  · refine hG ?_
    obtain ⟨fs, hr, hrun, hended, hW, hsame⟩ := X3.leave (v := some (.ref b1)) (fun h => by rw [Bd.returns] at h; cases h)
    refine ⟨_, _, pre4 _ ?_, hrun, hended, _, _, rfl, ?_, ⟨_, rfl⟩, hW, hsame.mono (by decide) (by decide)⟩
    · show Steps p.tables e below (T3.setTop (mkF m 17 #[.val (.ref a1), .val (.int (oi u)), .val (.int (oi N)), .val (.ref b1), .val (.int (oi yc)), .unset] [(.int (oi N)), (.int (oi yc))])) _
      refine XS.icmpYes X3.here hx rfl (pc0 := 17) (pc' := 57) rfl (dq hby D8 12 rfl) rfl (teq hc17_5).1 (by decide) (by decide) ?_
      refine XS.aloadN X3.here hx rfl (dq hby D8 25 rfl) rfl rfl ?_
      jvm_step X3.here [X3.here.top, hx, (dq hby D8 26 rfl), X3.method', Bd.returns, Value.isRef, FieldType.isReference]
      first | (intro acts; rw [hr _ acts rfl rfl rfl]) | rw [hr _ _ rfl rfl rfl]
      exact Steps.refl _
    · show Q_rcm3 Z a1 u N f h0 n0 _ T3.heap _
      exact ⟨_, _, _, rfl, N3, KK3, sz_b1, nf3_0_v3, Or.inl rfl⟩
  · have hyn : yc < N ∧ (255 : Int32) < f yc := hyc.resolve_left (fun z => hc17_5 (congrArg oi z))
    obtain ⟨_, _, ⟨T6, L6, k6, n6⟩, -, X6, ⟨Lc6, hQ6, l6, y6, z6⟩, st6⟩ := Jvm.LawKit.callS X3 hx (y := (⟨"java/lang/StringUTF16", "toBytes", "([CII)[B"⟩ : MethodName)) hown (mvT hZ (wq hw 200 rfl)) (mvT hZ (wq hw 201 rfl)) (mvT hZ (wq hw 45 rfl)) (mvT hZ (wq hw 202 rfl)) (by decide) (backOf (W := 0) (rtob l Z a0 hw [] a1 (u) (N) f T3.heap n0 Z3 Fp0_v3 Fp1_v3 Fp2_v3 Fp3_v3 hu hN) hZ (wq hw 202 rfl) (wq hw 45 rfl) (by decide) (by decide)) (g := (mkF m 23 #[.val (.ref a1), .val (.int (oi u)), .val (.int (oi N)), .val (.ref b1), .val (.int (oi yc)), .unset] [(.int (oi N)), (.int (oi u)), (.ref a1)])) rfl (by rw [hml]; rfl) (argsL := [(.ref a1), (.int (oi u)), (.int (oi N))]) (rest := []) (lenOf pd_20 rfl) rfl (by show 2 * 0 + _ ≤ _; exact Nat.le_of_eq rfl) (dq hby D8 16 rfl) (fun _ _ => ⟨rfl, rfl, (by decide : 1 + 1 ≤ _), (by decide : 2 + 4 ≤ _)⟩)
    dsimp only [Pt.U, Pt.locs, Pt.cells, Pt.slots] at X6 l6 y6 z6 st6 hQ6
    subst l6 y6 z6
    obtain ⟨bt, gt, rfl, N6q, Kc6, sb_bt, nf6_0_v6, hgt⟩ := hQ6
    have N6 := Fr.app N3 N6q
    replace sb_bt : Lq _ _ := sb_bt
    have ne_a1_bt : Dif a1 bt := Nat.ne_of_lt (Nat.lt_of_lt_of_le Fp0_v3.lt sb_bt)
    have ne_b1_bt : Dif b1 bt := Nat.ne_of_lt (Nat.lt_of_lt_of_le nf3_0_v3.lt sb_bt)
    have g_bt : Lq n0 bt := Nat.le_trans Z3 sb_bt
    have sz_bt : Lq h0.size bt := Nat.le_trans KK3.1 sb_bt
    have Fp0_v6 := Fp0_v3.keep Kc6 nin0
    have Fp1_v6 := Sta.keep0 Fp1_v3 Kc6
    have Fp2_v6 := Sta.keep0 Fp2_v3 Kc6
    have Fp3_v6 := Sta.keep0 Fp3_v3 Kc6
    have nf3_0_v6 := nf3_0_v3.keep Kc6 nin0
    have Z6 : Lq n0 T6.heap.size := Nat.le_trans Z3 Kc6.1
    have KK6 := KK3.trans Kc6 all0
    obtain ⟨_, _, ⟨T7, L7, k7, n7⟩, -, X7, ⟨Lc7, hQ7, l7, y7, z7⟩, st7⟩ := Jvm.LawKit.callS X6 hx (y := (⟨"java/lang/StringUTF16", "getChar", "([BI)C"⟩ : MethodName)) hown (mvT hZ (wq hw 216 rfl)) (mvT hZ (wq hw 217 rfl)) (mvT hZ (wq hw 45 rfl)) (mvT hZ (wq hw 218 rfl)) (by decide) (backOf (W := 0) (rgetc l Z a0 hw [] bt (yc) (2 * N) (gt) T6.heap n0 Z6 nf6_0_v6 Fp1_v6 Fp2_v6 Fp3_v6 (by omega) (by omega)) hZ (wq hw 218 rfl) (wq hw 45 rfl) (by decide) (by decide)) (g := (mkF m 32 #[.val (.ref a1), .val (.int (oi u)), .val (.int (oi N)), .val (.ref b1), .val (.int (oi yc)), .val (.ref bt)] [(.int (oi yc)), (.ref bt)])) rfl (by rw [hml]; rfl) (argsL := [(.ref bt), (.int (oi yc))]) (rest := []) (lenOf pd_13 rfl) rfl (by show 2 * 0 + _ ≤ _; exact Nat.le_of_eq rfl) (dq hby D8 20 rfl) (fun _ _ => ⟨rfl, rfl, (by decide : 2 + 0 ≤ _), (by decide : 6 + 0 ≤ _)⟩)
    dsimp only [Pt.U, Pt.locs, Pt.cells, Pt.slots] at X7 l7 y7 z7 st7 hQ7
    subst l7 y7 z7
    obtain ⟨rfl, N7q, e7⟩ := hQ7
    have N7 := Fr.app N6 N7q
    have hgg : (255 : Int32) < gch (gt (2 * (yc))) (gt (2 * (yc) + 1)) := by rw [(hgt yc hyn.1).1, (hgt yc hyn.1).2]; exact gch_gt (hB yc hyn.1) hyn.2
    refine hG ?_
    obtain ⟨fs, hr, hrun, hended, hW, hsame⟩ := X7.leave (v := some (.ref bt)) (fun h => by rw [Bd.returns] at h; cases h)
    refine ⟨_, _, pre4 _ ?_, hrun, hended, _, _, rfl, ?_, ⟨_, rfl⟩, hW, hsame.mono (by decide) (by decide)⟩
    · show Steps p.tables e below (T3.setTop (mkF m 17 #[.val (.ref a1), .val (.int (oi u)), .val (.int (oi N)), .val (.ref b1), .val (.int (oi yc)), .unset] [(.int (oi N)), (.int (oi yc))])) _
      refine XS.icmpNo X3.here hx rfl (dq hby D8 12 rfl) rfl (feq hc17_5).1 ?_
      refine XS.aloadN X3.here hx rfl (dq hby D8 13 rfl) rfl rfl ?_
      refine XS.iloadN X3.here hx rfl (dq hby D8 14 rfl) rfl ?_
      refine XS.iloadN X3.here hx rfl (dq hby D8 15 rfl) rfl ?_
      refine st6 _ ?_
      refine XS.astore X6.here hx rfl (dq hby D8 17 rfl) rfl rfl (l' := #[.val (.ref a1), .val (.int (oi u)), .val (.int (oi N)), .val (.ref b1), .val (.int (oi yc)), .val (.ref bt)]) rfl ?_
      show Steps p.tables e below (T6.setTop (mkF m 28 #[.val (.ref a1), .val (.int (oi u)), .val (.int (oi N)), .val (.ref b1), .val (.int (oi yc)), .val (.ref bt)] [])) _
      refine XS.aload X6.here hx rfl (dq hby D8 18 rfl) rfl rfl ?_
      refine XS.iload X6.here hx rfl (dq hby D8 19 rfl) rfl ?_
      refine st7 _ ?_
      refine XS.sipush X7.here hx rfl (dq hby D8 21 rfl) ?_
      refine XS.icmpYes X7.here hx rfl (pc0 := 38) (pc' := 54) rfl (dq hby D8 22 rfl) rfl (tlt (hgg : ((255 : Int32) < (gch (gt (2 * (yc))) (gt (2 * (yc) + 1)))))).2.2.1 (by decide) (by decide) ?_
      refine XS.aload X7.here hx rfl (dq hby D8 23 rfl) rfl rfl ?_
      jvm_step X7.here [X7.here.top, hx, (dq hby D8 24 rfl), X7.method', Bd.returns, Value.isRef, FieldType.isReference]
      first | (intro acts; rw [hr _ acts rfl rfl rfl]) | rw [hr _ _ rfl rfl rfl]
      exact Steps.refl _
    · show Q_rcm3 Z a1 u N f h0 n0 _ T7.heap _
      rw [e7]
      exact ⟨_, _, _, rfl, N7, KK6, sz_bt, nf6_0_v6, Or.inr rfl⟩
theorem D10 : ∀ x ∈ ([(0, .iload_n 1, 1), (1, .aload_n 0, 1), (2, .arraylength, 1), (3, .isub, 1), (4, .bipush 31, 2), (6, .iushr, 1), (7, .i2b, 1), (8, .ireturn, 1)] : List (Nat × Instr × Nat)), decode jdk_52_method_15_code x.1 = .ok x.2 := by decide +kernel
theorem pn_rcfa : plainName "java/lang/StringUTF16" = true := by first | (simp [plainName, overriddenIn]; done) | decide +kernel
theorem ef_rcfa (m : MethodId) (x0 : Addr) (x1 : Int32) : entryFrame m #[(.ref x0), (.int x1)] 2 = mkF m 0 #[.val (.ref x0), .val (.int x1)] [] := by first | (simp [entryFrame, mkF, argsToLocals, Value.category]; done) | rfl
def Q_rcfa (Z : State) (a1 : Addr) (N nb : Nat) (g : Nat → Int32) (h0 : Heap) (n0 : Nat) (v : Option Value) (h : Heap) (L : List Loc) : Prop := ∃ cd : Int32, v = some (.int cd) ∧ Fr n0 L ∧ h = h0 ∧ ((cd = 0 ∧ nb = N) ∨ (cd = 1 ∧ nb = 2 * N))
set_option maxRecDepth 65536 in
set_option maxHeartbeats 40000000 in
theorem rcfa (l : Launch) (Z : State) (a0 : Array Value) (hw : ∀ d ∈ tables_1, d.before a0 Z = true) (ws : List Jvm.Cond) (a1 : Addr) (N nb : Nat) (g : Nat → Int32) (h0 : Heap) (n0 : Nat) (Z0 : n0 ≤ h0.size) (Fp0 : ArF Z h0 a1 .byte nb (fun j => .int (g j))) (hnb : nb = N ∨ nb = 2 * N) (hN : N = 1 ∨ N = 2) :
    MetFree l (⟨"java/lang/StringUTF16", "coderFromArrayLen", "([BI)B"⟩ : MethodName) (head1 (Jvm.Cond.code (⟨"java/lang/StringUTF16", "coderFromArrayLen", "([BI)B"⟩ : MethodName) jdk_52_method_15_code 2 (some .byte) :: ws) ({ frames := 0, cells := 0, slots := 0, locals := 0 } : Room)) (fun a U => a = #[(.ref a1), (.int (oi N))] ∧ Z.Warmed39 U.vm ∧ U.heap = h0) (fun _ _ _ _ _ => True) (fun _ U o U' => ∃ v L, o = .returned v ∧ Q_rcfa Z a1 N nb g h0 n0 v U'.heap L ∧ FrameEnd U o U' L ({ frames := 0, cells := 0, slots := 0, locals := 0 } : Room).cells ({ frames := 0, cells := 0, slots := 0, locals := 0 } : Room).slots) := by
  refine MetFree.of_bodySF (plainFor_of_name pn_rcfa) hisR ?_
  intro p e s m args below meth c s₁ Bd hml0 hP hK
  obtain ⟨rfl, hZ, hh⟩ := hP
  have hx := Bd.exec
  have hby := Bd.bytes
  have hml : c.maxLocals = 2 := hml0
  have hown : s.vm.findClass "java/lang/StringUTF16" = some m.cls := findClass_of_methodNamed Bd.named
  have hnm := (name_of_methodNamed Bd.named Bd.method).1
  have X0 : Stand p l e ({ frames := 0, cells := 0, slots := 0, locals := 0 } : Room) s m #[(.ref a1), (.int (oi N))] below meth c s₁ [] 0 0 := Stand.of_body Bd
  have e0 : s₁.heap = h0 := by rw [← hh, Bd.state]; rfl
  have N0 := Fr.nil n0
  have pre0 : ∀ t, Steps p.tables e below (s₁.setTop (mkF m 0 #[.val (.ref a1), .val (.int (oi N))] [])) t → Steps p.tables e below (s₁.setTop (entryFrame m #[(.ref a1), (.int (oi N))] 2)) t := fun t k => castTop (ef_rcfa m a1 (oi N)) k
  refine own_cps fun G hG => ?_
  obtain ⟨cl1, Ar1, S1, H1⟩ := id Fp0
  replace S1 : Sq cl1.slots.size _ := S1
  refine hG ?_
  obtain ⟨fs, hr, hrun, hended, hW, hsame⟩ := X0.leave (v := some (.int (nar .byte (((((oi N) - (oi nb)).toUInt32 >>> ((31 : Int32) &&& 31).toUInt32).toInt32).toInt8.toInt32)))) (fun h => by rw [Bd.returns] at h; cases h)
  refine ⟨_, _, pre0 _ ?_, hrun, hended, _, _, rfl, ?_, ⟨_, rfl⟩, hW, hsame.mono (by decide) (by decide)⟩
  · show Steps p.tables e below (s₁.setTop (mkF m 0 #[.val (.ref a1), .val (.int (oi N))] [])) _
    refine XS.iloadN X0.here hx rfl (dq hby D10 0 rfl) rfl ?_
    refine XS.aloadN X0.here hx rfl (dq hby D10 1 rfl) rfl rfl ?_
    refine X0.arraylength hx (by rw [e0]; exact Ar1.1) (State.isArrayOf_alike hZ.alike Ar1.2.1) (g := (mkF m 2 #[.val (.ref a1), .val (.int (oi N))] [(.ref a1), (.int (oi N))])) rfl rfl (dq hby D10 2 rfl) _ ?_
    rw [show cl1.slots.size.toInt32 = (oi nb) from (congrArg Nat.toInt32 S1).trans rfl]
    refine XS.isub X0.here hx rfl (dq hby D10 3 rfl) rfl ?_
    refine XS.bipush X0.here hx rfl (dq hby D10 4 rfl) ?_
    refine XS.iushr X0.here hx rfl (dq hby D10 5 rfl) rfl ?_
    refine XS.i2b X0.here hx rfl (dq hby D10 6 rfl) rfl ?_
    exact retN X0 hx (t := .byte) Bd.returns (by simp) (dq hby D10 7 rfl) hr
  · show Q_rcfa Z a1 N nb g h0 n0 _ s₁.heap _
    rw [e0]
    exact (by rcases hN with rfl | rfl <;> rcases hnb with rfl | rfl <;> first | exact ⟨_, rfl, N0, rfl, Or.inl ⟨by decide, rfl⟩⟩ | exact ⟨_, rfl, N0, rfl, Or.inr ⟨by decide, rfl⟩⟩)
theorem D7 : ∀ x ∈ ([(0, .aload_n 0, 1), (1, .invokespecial 1, 3), (4, .iload_n 3, 1), (5, .ifCond .ne 22, 3), (27, .getstatic 38, 3), (30, .ifCond .eq 28, 3), (33, .aload_n 1, 1), (34, .iload_n 2, 1), (35, .iload_n 3, 1), (36, .invokestatic 177, 3), (39, .astore 5, 2), (41, .aload_n 0, 1), (42, .aload 5, 2), (44, .iload_n 3, 1), (45, .invokestatic 47, 3), (48, .putfield 15, 3), (51, .aload_n 0, 1), (52, .aload 5, 2), (54, .putfield 9, 3), (57, .return_, 1)] : List (Nat × Instr × Nat)), decode jdk_42_method_149_code x.1 = .ok x.2 := by decide +kernel
theorem pn_rsi4 : plainName "java/lang/String" = true := by first | (simp [plainName, overriddenIn]; done) | decide +kernel
theorem ef_rsi4 (m : MethodId) (x0 : Addr) (x1 : Addr) (x2 : Int32) (x3 : Int32) : entryFrame m #[(.ref x0), (.ref x1), (.int x2), (.int x3), .null] 6 = mkF m 0 #[.val (.ref x0), .val (.ref x1), .val (.int x2), .val (.int x3), .val .null, .unset] [] := by first | (simp [entryFrame, mkF, argsToLocals, Value.category]; done) | rfl
def Q_rsi4 (Z : State) (a1 : Addr) (a2 : Addr) (u N : Nat) (cs : Int32) (f : Nat → Int32) (h0 : Heap) (n0 : Nat) (v : Option Value) (h : Heap) (L : List Loc) : Prop := ∃ (bb : Addr) (nb : Nat) (cd : Int32) (g : Nat → Int32), v = none ∧ Fr n0 L ∧ Keep h0 h [a1] ∧ h0.size ≤ bb ∧ Fld Z h a1 "java/lang/String" "value" "[B" (.ref bb) ∧ Fld Z h a1 "java/lang/String" "coder" "B" (.int cd) ∧ ArF Z h bb .byte nb (fun j => .int (g j)) ∧ ((cd = 0 ∧ nb = N) ∨ (cd = 1 ∧ nb = 2 * N))
set_option maxRecDepth 65536 in
set_option maxHeartbeats 40000000 in
theorem rsi4 (l : Launch) (Z : State) (a0 : Array Value) (hw : ∀ d ∈ tables_1, d.before a0 Z = true) (ws : List Jvm.Cond) (a1 : Addr) (a2 : Addr) (u N : Nat) (cs : Int32) (f : Nat → Int32) (h0 : Heap) (n0 : Nat) (Z0 : n0 ≤ h0.size) (Fp0 : Exa Z h0 a1 "java/lang/String") (Fp1 : Fld Z h0 a1 "java/lang/String" "value" "[B" .null) (Fp2 : Fld Z h0 a1 "java/lang/String" "coder" "B" (.int (0 : Int32))) (Fp3 : ArF Z h0 a2 .char N (fun j => .int (f j))) (Fp4 : Sta Z h0 "java/lang/String" "COMPACT_STRINGS" "Z" (.int cs)) (Fp5 : Sta Z h0 "java/lang/StringUTF16" "$assertionsDisabled" "Z" (.int (1 : Int32))) (Fp6 : Sta Z h0 "java/lang/StringUTF16" "HI_BYTE_SHIFT" "I" (.int (0 : Int32))) (Fp7 : Sta Z h0 "java/lang/StringUTF16" "LO_BYTE_SHIFT" "I" (.int (8 : Int32))) (hcs : ¬ cs = 0) (ga : n0 ≤ a1) (n12 : a2 ≠ a1) (hu : u = 0) (hB : ∀ j, j < N → own_B (f j)) (hN : N = 1 ∨ N = 2) :
    MetFree l (⟨"java/lang/String", "<init>", "([CIILjava/lang/Void;)V"⟩ : MethodName) (head1 (Jvm.Cond.code (⟨"java/lang/String", "<init>", "([CIILjava/lang/Void;)V"⟩ : MethodName) jdk_42_method_149_code 6 none :: ws) ({ frames := 4, cells := 2, slots := 6, locals := 57 } : Room)) (fun a U => a = #[(.ref a1), (.ref a2), (.int (oi u)), (.int (oi N)), .null] ∧ Z.Warmed39 U.vm ∧ U.heap = h0) (fun _ _ _ _ _ => True) (fun _ U o U' => ∃ v L, o = .returned v ∧ Q_rsi4 Z a1 a2 u N cs f h0 n0 v U'.heap L ∧ FrameEnd U o U' L ({ frames := 4, cells := 2, slots := 6, locals := 57 } : Room).cells ({ frames := 4, cells := 2, slots := 6, locals := 57 } : Room).slots) := by
  refine MetFree.of_bodySF (plainFor_of_name pn_rsi4) hisR ?_
  intro p e s m args below meth c s₁ Bd hml0 hP hK
  obtain ⟨rfl, hZ, hh⟩ := hP
  have hx := Bd.exec
  have hby := Bd.bytes
  have hml : c.maxLocals = 6 := hml0
  have hown : s.vm.findClass "java/lang/String" = some m.cls := findClass_of_methodNamed Bd.named
  have hnm := (name_of_methodNamed Bd.named Bd.method).1
  have X0 : Stand p l e ({ frames := 4, cells := 2, slots := 6, locals := 57 } : Room) s m #[(.ref a1), (.ref a2), (.int (oi u)), (.int (oi N)), .null] below meth c s₁ [] 0 0 := Stand.of_body Bd
  have e0 : s₁.heap = h0 := by rw [← hh, Bd.state]; rfl
  have N0 := Fr.nil n0
  have pre0 : ∀ t, Steps p.tables e below (s₁.setTop (mkF m 0 #[.val (.ref a1), .val (.ref a2), .val (.int (oi u)), .val (.int (oi N)), .val .null, .unset] [])) t → Steps p.tables e below (s₁.setTop (entryFrame m #[(.ref a1), (.ref a2), (.int (oi u)), (.int (oi N)), .null] 6)) t := fun t k => castTop (ef_rsi4 m a1 a2 (oi u) (oi N)) k
  have K0 := Keep.refl h0 [a1]
  refine own_cps fun G hG => ?_
  obtain ⟨T1, X1, e1, st1⟩ := initO X0 hx hZ hown (wq hw 41 rfl) (wq hw 19 rfl) (wq hw 20 rfl) e0 (g := (mkF m 1 #[.val (.ref a1), .val (.ref a2), .val (.int (oi u)), .val (.int (oi N)), .val .null, .unset] [(.ref a1)])) rfl (by rw [hml]; rfl) rfl (dq hby D7 1 rfl) (by decide) (W := 0) (by show 2 * 0 + _ ≤ _; exact Nat.le_of_eq rfl) (by decide)
  obtain ⟨T2, X2, e2, st2⟩ := getS2 X1 hx hZ hown (host := "") (Or.inl (wq hw 42 rfl)) Via.refl e1 Fp4 (g := (mkF m 27 #[.val (.ref a1), .val (.ref a2), .val (.int (oi u)), .val (.int (oi N)), .val .null, .unset] [])) rfl (dq hby D7 4 rfl)
  obtain ⟨_, _, ⟨T3, L3, k3, n3⟩, -, X3, ⟨Lc3, hQ3, l3, y3, z3⟩, st3⟩ := Jvm.LawKit.callS X2 hx (y := (⟨"java/lang/StringUTF16", "compress", "([CII)[B"⟩ : MethodName)) hown (mvT hZ (wq hw 43 rfl)) (mvT hZ (wq hw 44 rfl)) (mvT hZ (wq hw 45 rfl)) (mvT hZ (wq hw 46 rfl)) (by decide) (backOf (W := 0) (rcm3 l Z a0 hw [] a2 (u) (N) f h0 n0 Z0 Fp3 Fp5 Fp6 Fp7 hu hB hN) hZ (wq hw 46 rfl) (wq hw 45 rfl) (by decide) (by decide)) (g := (mkF m 36 #[.val (.ref a1), .val (.ref a2), .val (.int (oi u)), .val (.int (oi N)), .val .null, .unset] [(.int (oi N)), (.int (oi u)), (.ref a2)])) rfl (by rw [hml]; rfl) (argsL := [(.ref a2), (.int (oi u)), (.int (oi N))]) (rest := []) (lenOf pd_20 rfl) rfl (by show 2 * 0 + _ ≤ _; exact Nat.le_of_eq rfl) (dq hby D7 9 rfl) (fun _ _ => ⟨rfl, e2, (by decide : 0 + 2 ≤ _), (by decide : 0 + 6 ≤ _)⟩)
  dsimp only [Pt.U, Pt.locs, Pt.cells, Pt.slots] at X3 l3 y3 z3 st3 hQ3
  subst l3 y3 z3
  obtain ⟨bb, nb, gB, rfl, N3q, Kc3, sb_bb, nf3_0_v3, hnb⟩ := hQ3
  have N3 := Fr.app N0 N3q
  replace sb_bb : Lq _ _ := sb_bb
  have ne_a1_bb : Dif a1 bb := Nat.ne_of_lt (Nat.lt_of_lt_of_le Fp0.lt sb_bb)
  have ne_a2_bb : Dif a2 bb := Nat.ne_of_lt (Nat.lt_of_lt_of_le Fp3.lt sb_bb)
  have g_bb : Lq n0 bb := Nat.le_trans Z0 sb_bb
  have sz_bb : Lq h0.size bb := Nat.le_trans K0.1 sb_bb
  have Fp0_v3 := Fp0.keep Kc3
  have Fp1_v3 := Fp1.keep Kc3 nin0
  have Fp2_v3 := Fp2.keep Kc3 nin0
  have Fp3_v3 := Fp3.keep Kc3 nin0
  have Fp4_v3 := Sta.keep0 Fp4 Kc3
  have Fp5_v3 := Sta.keep0 Fp5 Kc3
  have Fp6_v3 := Sta.keep0 Fp6 Kc3
  have Fp7_v3 := Sta.keep0 Fp7 Kc3
  have Z3 : Lq n0 T3.heap.size := Nat.le_trans Z0 Kc3.1
  have KK3 := K0.trans Kc3 all0
  obtain ⟨_, _, ⟨T4, L4, k4, n4⟩, -, X4, ⟨Lc4, hQ4, l4, y4, z4⟩, st4⟩ := Jvm.LawKit.callS X3 hx (y := (⟨"java/lang/StringUTF16", "coderFromArrayLen", "([BI)B"⟩ : MethodName)) hown (mvT hZ (wq hw 51 rfl)) (mvT hZ (wq hw 52 rfl)) (mvT hZ (wq hw 45 rfl)) (mvT hZ (wq hw 53 rfl)) (by decide) (backOf (W := 1) (rcfa l Z a0 hw [] bb (N) nb gB T3.heap n0 Z3 nf3_0_v3 hnb hN) hZ (wq hw 53 rfl) (wq hw 45 rfl) (by decide) (by decide)) (g := (mkF m 45 #[.val (.ref a1), .val (.ref a2), .val (.int (oi u)), .val (.int (oi N)), .val .null, .val (.ref bb)] [(.int (oi N)), (.ref bb), (.ref a1)])) rfl (by rw [hml]; rfl) (argsL := [(.ref bb), (.int (oi N))]) (rest := [(.ref a1)]) (lenOf pd_21 rfl) rfl (by show 2 * 0 + _ ≤ _; exact Nat.le_of_eq rfl) (dq hby D7 14 rfl) (fun _ _ => ⟨rfl, rfl, (by decide : 2 + 0 ≤ _), (by decide : 6 + 0 ≤ _)⟩)
  dsimp only [Pt.U, Pt.locs, Pt.cells, Pt.slots] at X4 l4 y4 z4 st4 hQ4
  subst l4 y4 z4
  obtain ⟨cd, rfl, N4q, e4, hsd⟩ := hQ4
  have N4 := Fr.app N3 N4q
  obtain ⟨T5, h5, X5, e5, W5, st5⟩ := putFN X4 hx hZ hown (wq hw 54 rfl) Via.refl e4 Fp2_v3 Fp0_v3 (Or.inr ⟨(wq hw 55 rfl), rfl, hnm⟩) (wq hw 31 rfl) (ty := .byte) (v' := (.int (cd.toInt8.toInt32))) (by decide) rfl (fits_nar_byte _) (g := (mkF m 48 #[.val (.ref a1), .val (.ref a2), .val (.int (oi u)), .val (.int (oi N)), .val .null, .val (.ref bb)] [(.int cd), (.ref a1)])) rfl rfl (dq hby D7 15 rfl)
  have Fp0_v5 := Fp0_v3.wr W5
  have Fp1_v5 := Fp1_v3.other W5 (Or.inr (slot_ne (Or.inr (wq hw 57 rfl)) (Or.inr (wq hw 55 rfl)) (by decide) (t := (.array .byte)) (t' := .byte) (by decide) (by decide)))
  have Fp3_v5 := Fp3_v3.other W5 n12
  have Fp4_v5 := Fp4_v3.wr W5
  have Fp5_v5 := Fp5_v3.wr W5
  have Fp6_v5 := Fp6_v3.wr W5
  have Fp7_v5 := Fp7_v3.wr W5
  have nf3_0_v5 := nf3_0_v3.other W5 (Ne.symm ne_a1_bb)
  have Z5 : Lq n0 h5.size := Nat.le_trans Z3 (Nat.le_of_eq W5.size.symm)
  have K5 := KK3.wr W5 (Or.inl (by simp))
  have F5_v5 : Fld Z h5 a1 "java/lang/String" "coder" "B" (.int (cd.toInt8.toInt32)) := Fp2_v3.same W5
  have N5 := Fr.snoc X5 N4 ga
  have Fq6_v6 : Fld Z h5 a1 "java/lang/String" "coder" "B" (.int cd) := by
    have q : cd.toInt8.toInt32 = cd := by rcases hsd with ⟨rfl, _⟩ | ⟨rfl, _⟩ <;> rfl
    have z := F5_v5
    rw [q] at z; exact z
  obtain ⟨T7, h7, X7, e7, W7, st7⟩ := putF X5 hx hZ hown (host := "") (Or.inl (wq hw 56 rfl)) Via.refl e5 Fp1_v5 Fp0_v5 (Or.inr ⟨(wq hw 57 rfl), rfl, hnm⟩) (wq hw 31 rfl) (ty := (.array .byte)) (by decide) rfl rfl (g := (mkF m 54 #[.val (.ref a1), .val (.ref a2), .val (.int (oi u)), .val (.int (oi N)), .val .null, .val (.ref bb)] [(.ref bb), (.ref a1)])) rfl rfl (dq hby D7 18 rfl)
  have Fp0_v7 := Fp0_v5.wr W7
  have Fp3_v7 := Fp3_v5.other W7 n12
  have Fp4_v7 := Fp4_v5.wr W7
  have Fp5_v7 := Fp5_v5.wr W7
  have Fp6_v7 := Fp6_v5.wr W7
  have Fp7_v7 := Fp7_v5.wr W7
  have nf3_0_v7 := nf3_0_v5.other W7 (Ne.symm ne_a1_bb)
  have Fq6_v7 := Fq6_v6.other W7 (Or.inr (slot_ne (Or.inr (wq hw 55 rfl)) (Or.inr (wq hw 57 rfl)) (by decide) (t := .byte) (t' := (.array .byte)) (by decide) (by decide)))
  have Z7 : Lq n0 h7.size := Nat.le_trans Z5 (Nat.le_of_eq W7.size.symm)
  have K7 := K5.wr W7 (Or.inl (by simp))
  have F7_v7 : Fld Z h7 a1 "java/lang/String" "value" "[B" (.ref bb) := Fp1_v5.same W7
  have N7 := Fr.snoc X7 N5 ga
  refine hG ?_
  obtain ⟨fs, hr, hrun, hended, hW, hsame⟩ := X7.leave (v := none) (fun _ => rfl)
  refine ⟨_, _, pre0 _ ?_, hrun, hended, _, _, rfl, ?_, ⟨_, rfl⟩, hW, hsame.mono (by decide) (by decide)⟩
  · show Steps p.tables e below (s₁.setTop (mkF m 0 #[.val (.ref a1), .val (.ref a2), .val (.int (oi u)), .val (.int (oi N)), .val .null, .unset] [])) _
    refine XS.aloadN X0.here hx rfl (dq hby D7 0 rfl) rfl rfl ?_
    refine st1 _ ?_
    refine XS.iloadN X1.here hx rfl (dq hby D7 2 rfl) rfl ?_
    refine XS.ifYes X1.here hx rfl (pc0 := 5) (pc' := 27) rfl (dq hby D7 3 rfl) rfl ((if0 _ _).trans (feq ((by rcases hN with rfl | rfl <;> decide) : ¬ ((oi N) = (0 : Int32)))).2) (by decide) (by decide) ?_
    refine st2 _ ?_
    refine XS.ifNo X2.here hx rfl (dq hby D7 5 rfl) rfl ((if0 _ _).trans (feq (hcs : ¬ (cs = (0 : Int32)))).1) ?_
    refine XS.aloadN X2.here hx rfl (dq hby D7 6 rfl) rfl rfl ?_
    refine XS.iloadN X2.here hx rfl (dq hby D7 7 rfl) rfl ?_
    show Steps p.tables e below (T2.setTop (mkF m 35 #[.val (.ref a1), .val (.ref a2), .val (.int (oi u)), .val (.int (oi N)), .val .null, .unset] [(.int (oi u)), (.ref a2)])) _
    refine XS.iloadN X2.here hx rfl (dq hby D7 8 rfl) rfl ?_
    refine st3 _ ?_
    refine XS.astore X3.here hx rfl (dq hby D7 10 rfl) rfl rfl (l' := #[.val (.ref a1), .val (.ref a2), .val (.int (oi u)), .val (.int (oi N)), .val .null, .val (.ref bb)]) rfl ?_
    refine XS.aloadN X3.here hx rfl (dq hby D7 11 rfl) rfl rfl ?_
    refine XS.aload X3.here hx rfl (dq hby D7 12 rfl) rfl rfl ?_
    refine XS.iloadN X3.here hx rfl (dq hby D7 13 rfl) rfl ?_
    refine st4 _ ?_
    refine st5 _ ?_
    refine XS.aloadN X5.here hx rfl (dq hby D7 16 rfl) rfl rfl ?_
    refine XS.aload X5.here hx rfl (dq hby D7 17 rfl) rfl rfl ?_
    refine st7 _ ?_
    exact X7.returnOut hx Bd.returns (dq hby D7 19 rfl) hr
  · show Q_rsi4 Z a1 a2 u N cs f h0 n0 _ T7.heap _
    rw [e7]
    exact ⟨_, _, _, _, rfl, N7, K7, sz_bb, F7_v7, Fq6_v7, nf3_0_v7, hsd⟩
theorem D6 : ∀ x ∈ ([(0, .aload_n 0, 1), (1, .aload_n 1, 1), (2, .iconst 0, 1), (3, .aload_n 1, 1), (4, .arraylength, 1), (5, .aconst_null, 1), (6, .invokespecial 27, 3), (9, .return_, 1)] : List (Nat × Instr × Nat)), decode jdk_42_method_3_code x.1 = .ok x.2 := by decide +kernel
theorem pn_rsi1 : plainName "java/lang/String" = true := by first | (simp [plainName, overriddenIn]; done) | decide +kernel
theorem ef_rsi1 (m : MethodId) (x0 : Addr) (x1 : Addr) : entryFrame m #[(.ref x0), (.ref x1)] 2 = mkF m 0 #[.val (.ref x0), .val (.ref x1)] [] := by first | (simp [entryFrame, mkF, argsToLocals, Value.category]; done) | rfl
def Q_rsi1 (Z : State) (a1 : Addr) (a2 : Addr) (N : Nat) (cs : Int32) (f : Nat → Int32) (h0 : Heap) (n0 : Nat) (v : Option Value) (h : Heap) (L : List Loc) : Prop := ∃ (bb : Addr) (nb : Nat) (cd : Int32) (g : Nat → Int32), v = none ∧ Fr n0 L ∧ Keep h0 h [a1] ∧ h0.size ≤ bb ∧ Fld Z h a1 "java/lang/String" "value" "[B" (.ref bb) ∧ Fld Z h a1 "java/lang/String" "coder" "B" (.int cd) ∧ ArF Z h bb .byte nb (fun j => .int (g j)) ∧ ((cd = 0 ∧ nb = N) ∨ (cd = 1 ∧ nb = 2 * N))
set_option maxRecDepth 65536 in
set_option maxHeartbeats 40000000 in
theorem rsi1 (l : Launch) (Z : State) (a0 : Array Value) (hw : ∀ d ∈ tables_1, d.before a0 Z = true) (ws : List Jvm.Cond) (a1 : Addr) (a2 : Addr) (N : Nat) (cs : Int32) (f : Nat → Int32) (h0 : Heap) (n0 : Nat) (Z0 : n0 ≤ h0.size) (Fp0 : Exa Z h0 a1 "java/lang/String") (Fp1 : Fld Z h0 a1 "java/lang/String" "value" "[B" .null) (Fp2 : Fld Z h0 a1 "java/lang/String" "coder" "B" (.int (0 : Int32))) (Fp3 : ArF Z h0 a2 .char N (fun j => .int (f j))) (Fp4 : Sta Z h0 "java/lang/String" "COMPACT_STRINGS" "Z" (.int cs)) (Fp5 : Sta Z h0 "java/lang/StringUTF16" "$assertionsDisabled" "Z" (.int (1 : Int32))) (Fp6 : Sta Z h0 "java/lang/StringUTF16" "HI_BYTE_SHIFT" "I" (.int (0 : Int32))) (Fp7 : Sta Z h0 "java/lang/StringUTF16" "LO_BYTE_SHIFT" "I" (.int (8 : Int32))) (hcs : ¬ cs = 0) (ga : n0 ≤ a1) (n12 : a2 ≠ a1) (hB : ∀ j, j < N → own_B (f j)) (hN : N = 1 ∨ N = 2) :
    MetFree l (⟨"java/lang/String", "<init>", "([C)V"⟩ : MethodName) (head1 (Jvm.Cond.code (⟨"java/lang/String", "<init>", "([C)V"⟩ : MethodName) jdk_42_method_3_code 2 none :: ws) ({ frames := 5, cells := 2, slots := 6, locals := 74 } : Room)) (fun a U => a = #[(.ref a1), (.ref a2)] ∧ Z.Warmed39 U.vm ∧ U.heap = h0) (fun _ _ _ _ _ => True) (fun _ U o U' => ∃ v L, o = .returned v ∧ Q_rsi1 Z a1 a2 N cs f h0 n0 v U'.heap L ∧ FrameEnd U o U' L ({ frames := 5, cells := 2, slots := 6, locals := 74 } : Room).cells ({ frames := 5, cells := 2, slots := 6, locals := 74 } : Room).slots) := by
  refine MetFree.of_bodySF (plainFor_of_name pn_rsi1) hisR ?_
  intro p e s m args below meth c s₁ Bd hml0 hP hK
  obtain ⟨rfl, hZ, hh⟩ := hP
  have hx := Bd.exec
  have hby := Bd.bytes
  have hml : c.maxLocals = 2 := hml0
  have hown : s.vm.findClass "java/lang/String" = some m.cls := findClass_of_methodNamed Bd.named
  have hnm := (name_of_methodNamed Bd.named Bd.method).1
  have X0 : Stand p l e ({ frames := 5, cells := 2, slots := 6, locals := 74 } : Room) s m #[(.ref a1), (.ref a2)] below meth c s₁ [] 0 0 := Stand.of_body Bd
  have e0 : s₁.heap = h0 := by rw [← hh, Bd.state]; rfl
  have N0 := Fr.nil n0
  have pre0 : ∀ t, Steps p.tables e below (s₁.setTop (mkF m 0 #[.val (.ref a1), .val (.ref a2)] [])) t → Steps p.tables e below (s₁.setTop (entryFrame m #[(.ref a1), (.ref a2)] 2)) t := fun t k => castTop (ef_rsi1 m a1 a2) k
  have K0 := Keep.refl h0 [a1]
  refine own_cps fun G hG => ?_
  obtain ⟨cl1, Ar1, S1, H1⟩ := id Fp3
  replace S1 : Sq cl1.slots.size _ := S1
  obtain ⟨_, _, ⟨T2, L2, k2, n2⟩, -, X2, ⟨Lc2, hQ2, l2, y2, z2⟩, st2⟩ := X0.specialBack hx (y := (⟨"java/lang/String", "<init>", "([CIILjava/lang/Void;)V"⟩ : MethodName)) rfl hown (mvT hZ (wq hw 37 rfl)) (mvT hZ (wq hw 38 rfl)) (mvT hZ (wq hw 40 rfl)) (by decide) (backOf (W := 0) (rsi4 l Z a0 hw [] a1 a2 0 (N) cs f h0 n0 Z0 Fp0 Fp1 Fp2 Fp3 Fp4 Fp5 Fp6 Fp7 hcs ga n12 rfl hB hN) hZ (wq hw 40 rfl) (wq hw 32 rfl) (by decide) (by decide)) (g := (mkF m 6 #[.val (.ref a1), .val (.ref a2)] [.null, (.int (oi N)), (.int (0 : Int32)), (.ref a2), (.ref a1)])) rfl (by rw [hml]; rfl) (Steps.refl _) (a := a1) (argsL := [(.ref a2), (.int (0 : Int32)), (.int (oi N)), .null]) (rest := []) (lenOf pd_22 rfl) rfl (by show 2 * 0 + _ ≤ _; exact Nat.le_of_eq rfl) (dq hby D6 6 rfl) (fun _ _ => ⟨rfl, e0, (by decide : 0 + 2 ≤ _), (by decide : 0 + 6 ≤ _)⟩)
  dsimp only [Pt.U, Pt.locs, Pt.cells, Pt.slots] at X2 l2 y2 z2 st2 hQ2
  subst l2 y2 z2
  obtain ⟨bb, nb, cd, gB, rfl, N2q, Kc2, sb_bb, nf2_0_v2, nf2_1_v2, nf2_2_v2, hsd⟩ := hQ2
  have N2 := Fr.app N0 N2q
  replace sb_bb : Lq _ _ := sb_bb
  have ne_a1_bb : Dif a1 bb := Nat.ne_of_lt (Nat.lt_of_lt_of_le Fp0.lt sb_bb)
  have ne_a2_bb : Dif a2 bb := Nat.ne_of_lt (Nat.lt_of_lt_of_le Fp3.lt sb_bb)
  have g_bb : Lq n0 bb := Nat.le_trans Z0 sb_bb
  have sz_bb : Lq h0.size bb := Nat.le_trans K0.1 sb_bb
  have Fp0_v2 := Fp0.keep Kc2
  have Fp3_v2 := Fp3.keep Kc2 (ninS n12 nin0)
  have Fp4_v2 := Sta.keepW Fp4 Kc2 (nosS (nosE Fp0) nos0)
  have Fp5_v2 := Sta.keepW Fp5 Kc2 (nosS (nosE Fp0) nos0)
  have Fp6_v2 := Sta.keepW Fp6 Kc2 (nosS (nosE Fp0) nos0)
  have Fp7_v2 := Sta.keepW Fp7 Kc2 (nosS (nosE Fp0) nos0)
  have Z2 : Lq n0 T2.heap.size := Nat.le_trans Z0 Kc2.1
  have KK2 := K0.trans Kc2 (allS (Or.inl (by simp)) all0)
  refine hG ?_
  obtain ⟨fs, hr, hrun, hended, hW, hsame⟩ := X2.leave (v := none) (fun _ => rfl)
  refine ⟨_, _, pre0 _ ?_, hrun, hended, _, _, rfl, ?_, ⟨_, rfl⟩, hW, hsame.mono (by decide) (by decide)⟩
  · show Steps p.tables e below (s₁.setTop (mkF m 0 #[.val (.ref a1), .val (.ref a2)] [])) _
    refine XS.aloadN X0.here hx rfl (dq hby D6 0 rfl) rfl rfl ?_
    refine XS.aloadN X0.here hx rfl (dq hby D6 1 rfl) rfl rfl ?_
    refine XS.iconst X0.here hx rfl (dq hby D6 2 rfl) ?_
    refine XS.aloadN X0.here hx rfl (dq hby D6 3 rfl) rfl rfl ?_
    refine X0.arraylength hx (by rw [e0]; exact Ar1.1) (State.isArrayOf_alike hZ.alike Ar1.2.1) (g := (mkF m 4 #[.val (.ref a1), .val (.ref a2)] [(.ref a2), (.int (0 : Int32)), (.ref a2), (.ref a1)])) rfl rfl (dq hby D6 4 rfl) _ ?_
    rw [show cl1.slots.size.toInt32 = (oi N) from (congrArg Nat.toInt32 S1).trans rfl]
    refine XS.aconstNull X0.here hx rfl (dq hby D6 5 rfl) ?_
    refine st2.trans ?_
    exact X2.returnOut hx Bd.returns (dq hby D6 7 rfl) hr
  · show Q_rsi1 Z a1 a2 N cs f h0 n0 _ T2.heap _
    exact ⟨_, _, _, _, rfl, N2, KK2, sz_bb, nf2_0_v2, nf2_1_v2, nf2_2_v2, hsd⟩
theorem D5 : ∀ x ∈ ([(0, .iload_n 0, 1), (1, .iconst 1, 1), (2, .if_icmp .ne 18, 3), (5, .new 33, 3), (8, .dup, 1), (9, .iconst 1, 1), (10, .newarray .char, 2), (12, .dup, 1), (13, .iconst 0, 1), (14, .iload_n 1, 1), (15, .castore, 1), (16, .invokespecial 35, 3), (19, .areturn, 1), (20, .new 33, 3), (23, .dup, 1), (24, .iconst 2, 1), (25, .newarray .char, 2), (27, .dup, 1), (28, .iconst 0, 1), (29, .iload_n 1, 1), (30, .castore, 1), (31, .dup, 1), (32, .iconst 1, 1), (33, .iload_n 2, 1), (34, .castore, 1), (35, .invokespecial 35, 3), (38, .areturn, 1)] : List (Nat × Instr × Nat)), decode method_3_code x.1 = .ok x.2 := by decide +kernel
theorem pn_rtext : plainName "com/example/even_roster/evenroster/scim/SortedSuffixesValuesAtPinLaw" = true := by first | (simp [plainName, overriddenIn]; done) | decide +kernel
theorem ef_rtext (m : MethodId) (x0 : Int32) (x1 : Int32) (x2 : Int32) : entryFrame m #[(.int x0), (.int x1), (.int x2)] 3 = mkF m 0 #[.val (.int x0), .val (.int x1), .val (.int x2)] [] := by first | (simp [entryFrame, mkF, argsToLocals, Value.category]; done) | rfl
def Q_rtext (Z : State) (p2 : Int32) (p3 : Int32) (N : Nat) (cs : Int32) (h0 : Heap) (n0 : Nat) (v : Option Value) (h : Heap) (L : List Loc) : Prop := ∃ (y bb : Addr) (nb : Nat) (cd : Int32) (g : Nat → Int32), v = some (.ref y) ∧ Fr n0 L ∧ Keep h0 h [] ∧ h0.size ≤ y ∧ h0.size ≤ bb ∧ y ≠ bb ∧ Exa Z h y "java/lang/String" ∧ Fld Z h y "java/lang/String" "value" "[B" (.ref bb) ∧ Fld Z h y "java/lang/String" "coder" "B" (.int cd) ∧ ArF Z h bb .byte nb (fun j => .int (g j)) ∧ ((cd = 0 ∧ nb = N) ∨ (cd = 1 ∧ nb = 2 * N))
set_option maxRecDepth 65536 in
set_option maxHeartbeats 40000000 in
theorem rtext (l : Launch) (Z : State) (a0 : Array Value) (hw : ∀ d ∈ tables_1, d.before a0 Z = true) (ws : List Jvm.Cond) (p2 : Int32) (p3 : Int32) (N : Nat) (cs : Int32) (h0 : Heap) (n0 : Nat) (Z0 : n0 ≤ h0.size) (Fp0 : Sta Z h0 "java/lang/String" "COMPACT_STRINGS" "Z" (.int cs)) (Fp1 : Sta Z h0 "java/lang/StringUTF16" "$assertionsDisabled" "Z" (.int (1 : Int32))) (Fp2 : Sta Z h0 "java/lang/StringUTF16" "HI_BYTE_SHIFT" "I" (.int (0 : Int32))) (Fp3 : Sta Z h0 "java/lang/StringUTF16" "LO_BYTE_SHIFT" "I" (.int (8 : Int32))) (hcs : ¬ cs = 0) (hN : N = 1 ∨ N = 2) :
    MetFree l (⟨"com/example/even_roster/evenroster/scim/SortedSuffixesValuesAtPinLaw", "text", "(ICC)Ljava/lang/String;"⟩ : MethodName) (head1 (Jvm.Cond.code (⟨"com/example/even_roster/evenroster/scim/SortedSuffixesValuesAtPinLaw", "text", "(ICC)Ljava/lang/String;"⟩ : MethodName) method_3_code 3 (some (.object "java/lang/String")) :: ws) ({ frames := 6, cells := 4, slots := 12, locals := 88 } : Room)) (fun a U => a = #[(.int (oi N)), (.int p2), (.int p3)] ∧ Z.Warmed39 U.vm ∧ U.heap = h0) (fun _ _ _ _ _ => True) (fun _ U o U' => ∃ v L, o = .returned v ∧ Q_rtext Z p2 p3 N cs h0 n0 v U'.heap L ∧ FrameEnd U o U' L ({ frames := 6, cells := 4, slots := 12, locals := 88 } : Room).cells ({ frames := 6, cells := 4, slots := 12, locals := 88 } : Room).slots) := by
  refine MetFree.of_bodySF (plainFor_of_name pn_rtext) hisR ?_
  intro p e s m args below meth c s₁ Bd hml0 hP hK
  obtain ⟨rfl, hZ, hh⟩ := hP
  have hx := Bd.exec
  have hby := Bd.bytes
  have hml : c.maxLocals = 3 := hml0
  have hown : s.vm.findClass "com/example/even_roster/evenroster/scim/SortedSuffixesValuesAtPinLaw" = some m.cls := findClass_of_methodNamed Bd.named
  have hnm := (name_of_methodNamed Bd.named Bd.method).1
  have X0 : Stand p l e ({ frames := 6, cells := 4, slots := 12, locals := 88 } : Room) s m #[(.int (oi N)), (.int p2), (.int p3)] below meth c s₁ [] 0 0 := Stand.of_body Bd
  have e0 : s₁.heap = h0 := by rw [← hh, Bd.state]; rfl
  have N0 := Fr.nil n0
  have pre0 : ∀ t, Steps p.tables e below (s₁.setTop (mkF m 0 #[.val (.int (oi N)), .val (.int p2), .val (.int p3)] [])) t → Steps p.tables e below (s₁.setTop (entryFrame m #[(.int (oi N)), (.int p2), (.int p3)] 3)) t := fun t k => castTop (ef_rtext m (oi N) p2 p3) k
  have K0 := Keep.refl h0 []
  refine own_cps fun G hG => ?_
  have pre1 : ∀ t, Steps p.tables e below (s₁.setTop (mkF m 2 #[.val (.int (oi N)), .val (.int p2), .val (.int p3)] [(.int (1 : Int32)), (.int (oi N))])) t → Steps p.tables e below (s₁.setTop (entryFrame m #[(.int (oi N)), (.int p2), (.int p3)] 3)) t := by
    intro t k
    refine pre0 t ?_
    refine XS.iloadN X0.here hx rfl (dq hby D5 0 rfl) rfl ?_
    refine XS.iconst X0.here hx rfl (dq hby D5 1 rfl) ?_
    exact k
  by_cases hc2_2 : (oi N) = (1 : Int32)
  · obtain ⟨T3, h3, X3, e3, E3, A3, D3, -, st3⟩ := newO X0 hx hZ hown (wq hw 30 rfl) (wq hw 31 rfl) (wq hw 32 rfl) e0 (g := (mkF m 5 #[.val (.int (oi N)), .val (.int p2), .val (.int p3)] [])) rfl (dq hby D5 3 rfl) (by decide) (by decide)
    obtain ⟨b3, g3⟩ : ∃ z, z = h0.size := ⟨_, rfl⟩
    rw [← g3] at A3 D3 st3
    have g_b3 : Lq n0 b3 := Nat.le_trans Z0 (Nat.le_of_eq g3.symm)
    have sz_b3 : Lq h0.size b3 := Nat.le_trans K0.1 (Nat.le_of_eq g3.symm)
    clear g3
    have Fp0_v3 := Fp0.ext E3
    have Fp1_v3 := Fp1.ext E3
    have Fp2_v3 := Fp2.ext E3
    have Fp3_v3 := Fp3.ext E3
    have Z3 : Lq n0 h3.size := Nat.le_trans Z0 E3.1
    have K3 := K0.ext E3
    have Ex3_v3 : Exa Z h3 b3 "java/lang/String" := A3
    have F3coder_v3 : Fld Z h3 b3 "java/lang/String" "coder" "B" (.int (0 : Int32)) := D3 (Or.inr (wq hw 55 rfl)) (ty := .byte) (by decide)
    have F3value_v3 : Fld Z h3 b3 "java/lang/String" "value" "[B" .null := D3 (Or.inr (wq hw 57 rfl)) (ty := (.array .byte)) (by decide)
    obtain ⟨T4, h4, k4, X4, e4, E4, A4, st4⟩ := newP X3 hx hZ (wq hw 33 rfl) e3 (g := (mkF m 10 #[.val (.int (oi N)), .val (.int p2), .val (.int p3)] [(.int (1 : Int32)), (.ref b3), (.ref b3)])) rfl (dq hby D5 6 rfl) rfl (by decide) (cap := 1) (by decide) (by decide) (by decide) (by decide)
    obtain ⟨b4, g4⟩ : ∃ z, z = h3.size := ⟨_, rfl⟩
    rw [← g4] at A4 st4
    have ne_b3_b4 : Dif b3 b4 := Nat.ne_of_lt (Nat.lt_of_lt_of_le Ex3_v3.lt (Nat.le_of_eq g4.symm))
    have g_b4 : Lq n0 b4 := Nat.le_trans Z3 (Nat.le_of_eq g4.symm)
    have sz_b4 : Lq h0.size b4 := Nat.le_trans K3.1 (Nat.le_of_eq g4.symm)
    clear g4
    have Fp0_v4 := Fp0_v3.ext E4
    have Fp1_v4 := Fp1_v3.ext E4
    have Fp2_v4 := Fp2_v3.ext E4
    have Fp3_v4 := Fp3_v3.ext E4
    have Ex3_v4 := Ex3_v3.ext E4
    have F3coder_v4 := F3coder_v3.ext E4
    have F3value_v4 := F3value_v3.ext E4
    have Z4 : Lq n0 h4.size := Nat.le_trans Z3 E4.1
    have K4 := K3.ext E4
    have V4_v4 : ArF Z h4 b4 .char 1 (fun _ => (.int 0)) := ArF.mk0 A4 rfl rfl
    obtain ⟨cl5, Ar5, S5, H5⟩ := id V4_v4
    replace S5 : Sq cl5.slots.size _ := S5
    have hin5 : Hq (0 : Int32) cl5.slots.size := inA S5 (by decide) (by decide)
    obtain ⟨T5, h5, X5, e5, W5, st5⟩ := stC X4 hx hZ e4 Ar5 (j := (0 : Int32)) hin5 (g := (mkF m 15 #[.val (.int (oi N)), .val (.int p2), .val (.int p3)] [(.int p2), (.int (0 : Int32)), (.ref b4), (.ref b4), (.ref b3), (.ref b3)])) rfl rfl (dq hby D5 10 rfl)
    have Fp0_v5 := Fp0_v4.wr W5
    have Fp1_v5 := Fp1_v4.wr W5
    have Fp2_v5 := Fp2_v4.wr W5
    have Fp3_v5 := Fp3_v4.wr W5
    have Ex3_v5 := Ex3_v4.wr W5
    have F3coder_v5 := F3coder_v4.other W5 (Or.inl ne_b3_b4)
    have F3value_v5 := F3value_v4.other W5 (Or.inl ne_b3_b4)
    have Z5 : Lq n0 h5.size := Nat.le_trans Z4 (Nat.le_of_eq W5.size.symm)
    have K5 := K4.wr W5 (Or.inr sz_b4)
    have V5_v5 := ArF.set Ar5 S5 H5 W5 hin5
    have N5 := Fr.snoc X5 N0 g_b4
    have hN1 : N = 1 := Classical.byContradiction fun z => by rcases hN with y | y; exact z y; have q := hc2_2; rw [y] at q; exact absurd q (by decide)
    have VC6_v6 : ArF Z h5 b4 .char 1 (fun j => .int (up (fun _ => 0) 0 (nar .char p2) j)) := (V5_v5.congr (fun j hj => set_up (f := (fun _ => 0)) (c := (0 : Int32)) (i := 0) rfl j))
    obtain ⟨_, _, ⟨T7, L7, k7, n7⟩, -, X7, ⟨Lc7, hQ7, l7, y7, z7⟩, st7⟩ := X5.specialBack hx (y := (⟨"java/lang/String", "<init>", "([C)V"⟩ : MethodName)) rfl hown (mvT hZ (wq hw 34 rfl)) (mvT hZ (wq hw 35 rfl)) (mvT hZ (wq hw 36 rfl)) (by decide) (backOf (W := 1) (rsi1 l Z a0 hw [] b3 b4 1 cs (up (fun _ => 0) 0 (nar .char p2)) h5 n0 Z5 Ex3_v5 F3value_v5 F3coder_v5 VC6_v6 Fp0_v5 Fp1_v5 Fp2_v5 Fp3_v5 hcs g_b3 (Ne.symm ne_b3_b4) (up_B (fun _ _ => zero_B) (nar_B _)) (Or.inl rfl)) hZ (wq hw 36 rfl) (wq hw 32 rfl) (by decide) (by decide)) (g := (mkF m 16 #[.val (.int (oi N)), .val (.int p2), .val (.int p3)] [(.ref b4), (.ref b3), (.ref b3)])) rfl (by rw [hml]; rfl) (Steps.refl _) (a := b3) (argsL := [(.ref b4)]) (rest := [(.ref b3)]) (lenOf pd_23 rfl) rfl (by show 2 * 0 + _ ≤ _; exact Nat.le_of_eq rfl) (dq hby D5 11 rfl) (fun _ _ => ⟨rfl, e5, (by decide : 2 + 2 ≤ _), (by decide : 5 + 6 ≤ _)⟩)
    dsimp only [Pt.U, Pt.locs, Pt.cells, Pt.slots] at X7 l7 y7 z7 st7 hQ7
    subst l7 y7 z7
    obtain ⟨bb, nb, cd, gB, rfl, N7q, Kc7, sb_bb, nf7_0_v7, nf7_1_v7, nf7_2_v7, hsd⟩ := hQ7
    have N7 := Fr.app N5 N7q
    replace sb_bb : Lq _ _ := sb_bb
    have ne_b3_bb : Dif b3 bb := Nat.ne_of_lt (Nat.lt_of_lt_of_le Ex3_v5.lt sb_bb)
    have ne_b4_bb : Dif b4 bb := Nat.ne_of_lt (Nat.lt_of_lt_of_le VC6_v6.lt sb_bb)
    have g_bb : Lq n0 bb := Nat.le_trans Z5 sb_bb
    have sz_bb : Lq h0.size bb := Nat.le_trans K5.1 sb_bb
    have Fp0_v7 := Sta.keepW Fp0_v5 Kc7 (nosS (nosE Ex3_v5) nos0)
    have Fp1_v7 := Sta.keepW Fp1_v5 Kc7 (nosS (nosE Ex3_v5) nos0)
    have Fp2_v7 := Sta.keepW Fp2_v5 Kc7 (nosS (nosE Ex3_v5) nos0)
    have Fp3_v7 := Sta.keepW Fp3_v5 Kc7 (nosS (nosE Ex3_v5) nos0)
    have Ex3_v7 := Ex3_v5.keep Kc7
    have VC6_v7 := VC6_v6.keep Kc7 (ninS (Ne.symm ne_b3_b4) nin0)
    have Z7 : Lq n0 T7.heap.size := Nat.le_trans Z5 Kc7.1
    have KK7 := K5.trans Kc7 (allS (Or.inr sz_b3) all0)
    refine hG ?_
    obtain ⟨fs, hr, hrun, hended, hW, hsame⟩ := X7.leave (v := some (.ref b3)) (fun h => by rw [Bd.returns] at h; cases h)
    refine ⟨_, _, pre1 _ ?_, hrun, hended, _, _, rfl, ?_, ⟨_, rfl⟩, hW, hsame.mono (by decide) (by decide)⟩
    · show Steps p.tables e below (s₁.setTop (mkF m 2 #[.val (.int (oi N)), .val (.int p2), .val (.int p3)] [(.int (1 : Int32)), (.int (oi N))])) _
      refine XS.icmpNo X0.here hx rfl (dq hby D5 2 rfl) rfl (teq hc2_2).2 ?_
      show Steps p.tables e below (s₁.setTop (mkF m 5 #[.val (.int (oi N)), .val (.int p2), .val (.int p3)] [])) _
      refine st3 _ ?_
      refine XS.dup X3.here hx rfl (dq hby D5 4 rfl) rfl rfl ?_
      refine XS.iconst X3.here hx rfl (dq hby D5 5 rfl) ?_
      refine st4 _ ?_
      refine XS.dup X4.here hx rfl (dq hby D5 7 rfl) rfl rfl ?_
      refine XS.iconst X4.here hx rfl (dq hby D5 8 rfl) ?_
      refine XS.iloadN X4.here hx rfl (dq hby D5 9 rfl) rfl ?_
      refine st5 _ ?_
      refine st7.trans ?_
      jvm_step X7.here [X7.here.top, hx, (dq hby D5 12 rfl), X7.method', Bd.returns, Value.isRef, FieldType.isReference]
      first | (intro acts; rw [hr _ acts rfl rfl rfl]) | rw [hr _ _ rfl rfl rfl]
      exact Steps.refl _
    · show Q_rtext Z p2 p3 N cs h0 n0 _ T7.heap _
      exact ⟨_, _, _, _, _, rfl, N7, KK7, sz_b3, sz_bb, ne_b3_bb, Ex3_v7, nf7_0_v7, nf7_1_v7, nf7_2_v7, by rw [hN1]; exact hsd⟩
  · obtain ⟨T8, h8, X8, e8, E8, A8, D8, -, st8⟩ := newO X0 hx hZ hown (wq hw 30 rfl) (wq hw 31 rfl) (wq hw 32 rfl) e0 (g := (mkF m 20 #[.val (.int (oi N)), .val (.int p2), .val (.int p3)] [])) rfl (dq hby D5 13 rfl) (by decide) (by decide)
    obtain ⟨b8, g8⟩ : ∃ z, z = h0.size := ⟨_, rfl⟩
    rw [← g8] at A8 D8 st8
    have g_b8 : Lq n0 b8 := Nat.le_trans Z0 (Nat.le_of_eq g8.symm)
    have sz_b8 : Lq h0.size b8 := Nat.le_trans K0.1 (Nat.le_of_eq g8.symm)
    clear g8
    have Fp0_v8 := Fp0.ext E8
    have Fp1_v8 := Fp1.ext E8
    have Fp2_v8 := Fp2.ext E8
    have Fp3_v8 := Fp3.ext E8
    have Z8 : Lq n0 h8.size := Nat.le_trans Z0 E8.1
    have K8 := K0.ext E8
    have Ex8_v8 : Exa Z h8 b8 "java/lang/String" := A8
    have F8coder_v8 : Fld Z h8 b8 "java/lang/String" "coder" "B" (.int (0 : Int32)) := D8 (Or.inr (wq hw 55 rfl)) (ty := .byte) (by decide)
    have F8value_v8 : Fld Z h8 b8 "java/lang/String" "value" "[B" .null := D8 (Or.inr (wq hw 57 rfl)) (ty := (.array .byte)) (by decide)
    obtain ⟨T9, h9, k9, X9, e9, E9, A9, st9⟩ := newP X8 hx hZ (wq hw 33 rfl) e8 (g := (mkF m 25 #[.val (.int (oi N)), .val (.int p2), .val (.int p3)] [(.int (2 : Int32)), (.ref b8), (.ref b8)])) rfl (dq hby D5 16 rfl) rfl (by decide) (cap := 2) (by decide) (by decide) (by decide) (by decide)
    obtain ⟨b9, g9⟩ : ∃ z, z = h8.size := ⟨_, rfl⟩
    rw [← g9] at A9 st9
    have ne_b8_b9 : Dif b8 b9 := Nat.ne_of_lt (Nat.lt_of_lt_of_le Ex8_v8.lt (Nat.le_of_eq g9.symm))
    have g_b9 : Lq n0 b9 := Nat.le_trans Z8 (Nat.le_of_eq g9.symm)
    have sz_b9 : Lq h0.size b9 := Nat.le_trans K8.1 (Nat.le_of_eq g9.symm)
    clear g9
    have Fp0_v9 := Fp0_v8.ext E9
    have Fp1_v9 := Fp1_v8.ext E9
    have Fp2_v9 := Fp2_v8.ext E9
    have Fp3_v9 := Fp3_v8.ext E9
    have Ex8_v9 := Ex8_v8.ext E9
    have F8coder_v9 := F8coder_v8.ext E9
    have F8value_v9 := F8value_v8.ext E9
    have Z9 : Lq n0 h9.size := Nat.le_trans Z8 E9.1
    have K9 := K8.ext E9
    have V9_v9 : ArF Z h9 b9 .char 2 (fun _ => (.int 0)) := ArF.mk0 A9 rfl rfl
    obtain ⟨cl10, Ar10, S10, H10⟩ := id V9_v9
    replace S10 : Sq cl10.slots.size _ := S10
    have hin10 : Hq (0 : Int32) cl10.slots.size := inA S10 (by decide) (by decide)
    obtain ⟨T10, h10, X10, e10, W10, st10⟩ := stC X9 hx hZ e9 Ar10 (j := (0 : Int32)) hin10 (g := (mkF m 30 #[.val (.int (oi N)), .val (.int p2), .val (.int p3)] [(.int p2), (.int (0 : Int32)), (.ref b9), (.ref b9), (.ref b8), (.ref b8)])) rfl rfl (dq hby D5 20 rfl)
    have Fp0_v10 := Fp0_v9.wr W10
    have Fp1_v10 := Fp1_v9.wr W10
    have Fp2_v10 := Fp2_v9.wr W10
    have Fp3_v10 := Fp3_v9.wr W10
    have Ex8_v10 := Ex8_v9.wr W10
    have F8coder_v10 := F8coder_v9.other W10 (Or.inl ne_b8_b9)
    have F8value_v10 := F8value_v9.other W10 (Or.inl ne_b8_b9)
    have Z10 : Lq n0 h10.size := Nat.le_trans Z9 (Nat.le_of_eq W10.size.symm)
    have K10 := K9.wr W10 (Or.inr sz_b9)
    have V10_v10 := ArF.set Ar10 S10 H10 W10 hin10
    have N10 := Fr.snoc X10 N0 g_b9
    have VC11_v11 : ArF Z h10 b9 .char 2 (fun j => .int (up (fun _ => 0) 0 (nar .char p2) j)) := (V10_v10.congr (fun j hj => set_up (f := (fun _ => 0)) (c := (0 : Int32)) (i := 0) rfl j))
    obtain ⟨cl12, Ar12, S12, H12⟩ := id VC11_v11
    replace S12 : Sq cl12.slots.size _ := S12
    have hin12 : Hq (1 : Int32) cl12.slots.size := inA S12 (by decide) (by decide)
    obtain ⟨T12, h12, X12, e12, W12, st12⟩ := stC X10 hx hZ e10 Ar12 (j := (1 : Int32)) hin12 (g := (mkF m 34 #[.val (.int (oi N)), .val (.int p2), .val (.int p3)] [(.int p3), (.int (1 : Int32)), (.ref b9), (.ref b9), (.ref b8), (.ref b8)])) rfl rfl (dq hby D5 24 rfl)
    have Fp0_v12 := Fp0_v10.wr W12
    have Fp1_v12 := Fp1_v10.wr W12
    have Fp2_v12 := Fp2_v10.wr W12
    have Fp3_v12 := Fp3_v10.wr W12
    have Ex8_v12 := Ex8_v10.wr W12
    have F8coder_v12 := F8coder_v10.other W12 (Or.inl ne_b8_b9)
    have F8value_v12 := F8value_v10.other W12 (Or.inl ne_b8_b9)
    have Z12 : Lq n0 h12.size := Nat.le_trans Z10 (Nat.le_of_eq W12.size.symm)
    have K12 := K10.wr W12 (Or.inr sz_b9)
    have V12_v12 := ArF.set Ar12 S12 H12 W12 hin12
    have N12 := Fr.snoc X12 N10 g_b9
    have hN2 : N = 2 := hN.resolve_left fun z => hc2_2 (congrArg oi z)
    have VC13_v13 : ArF Z h12 b9 .char 2 (fun j => .int (up (up (fun _ => 0) 0 (nar .char p2)) 1 (nar .char p3) j)) := (V12_v12.congr (fun j hj => set_up (f := (up (fun _ => 0) 0 (nar .char p2))) (c := (1 : Int32)) (i := 1) rfl j))
    obtain ⟨_, _, ⟨T14, L14, k14, n14⟩, -, X14, ⟨Lc14, hQ14, l14, y14, z14⟩, st14⟩ := X12.specialBack hx (y := (⟨"java/lang/String", "<init>", "([C)V"⟩ : MethodName)) rfl hown (mvT hZ (wq hw 34 rfl)) (mvT hZ (wq hw 35 rfl)) (mvT hZ (wq hw 36 rfl)) (by decide) (backOf (W := 1) (rsi1 l Z a0 hw [] b8 b9 2 cs (up (up (fun _ => 0) 0 (nar .char p2)) 1 (nar .char p3)) h12 n0 Z12 Ex8_v12 F8value_v12 F8coder_v12 VC13_v13 Fp0_v12 Fp1_v12 Fp2_v12 Fp3_v12 hcs g_b8 (Ne.symm ne_b8_b9) (up_B (up_B (fun _ _ => zero_B) (nar_B _)) (nar_B _)) (Or.inr rfl)) hZ (wq hw 36 rfl) (wq hw 32 rfl) (by decide) (by decide)) (g := (mkF m 35 #[.val (.int (oi N)), .val (.int p2), .val (.int p3)] [(.ref b9), (.ref b8), (.ref b8)])) rfl (by rw [hml]; rfl) (Steps.refl _) (a := b8) (argsL := [(.ref b9)]) (rest := [(.ref b8)]) (lenOf pd_23 rfl) rfl (by show 2 * 0 + _ ≤ _; exact Nat.le_of_eq rfl) (dq hby D5 25 rfl) (fun _ _ => ⟨rfl, e12, (by decide : 2 + 2 ≤ _), (by decide : 6 + 6 ≤ _)⟩)
    dsimp only [Pt.U, Pt.locs, Pt.cells, Pt.slots] at X14 l14 y14 z14 st14 hQ14
    subst l14 y14 z14
    obtain ⟨bb, nb, cd, gB, rfl, N14q, Kc14, sb_bb, nf14_0_v14, nf14_1_v14, nf14_2_v14, hsd⟩ := hQ14
    have N14 := Fr.app N12 N14q
    replace sb_bb : Lq _ _ := sb_bb
    have ne_b8_bb : Dif b8 bb := Nat.ne_of_lt (Nat.lt_of_lt_of_le Ex8_v12.lt sb_bb)
    have ne_b9_bb : Dif b9 bb := Nat.ne_of_lt (Nat.lt_of_lt_of_le VC13_v13.lt sb_bb)
    have g_bb : Lq n0 bb := Nat.le_trans Z12 sb_bb
    have sz_bb : Lq h0.size bb := Nat.le_trans K12.1 sb_bb
    have Fp0_v14 := Sta.keepW Fp0_v12 Kc14 (nosS (nosE Ex8_v12) nos0)
    have Fp1_v14 := Sta.keepW Fp1_v12 Kc14 (nosS (nosE Ex8_v12) nos0)
    have Fp2_v14 := Sta.keepW Fp2_v12 Kc14 (nosS (nosE Ex8_v12) nos0)
    have Fp3_v14 := Sta.keepW Fp3_v12 Kc14 (nosS (nosE Ex8_v12) nos0)
    have Ex8_v14 := Ex8_v12.keep Kc14
    have VC13_v14 := VC13_v13.keep Kc14 (ninS (Ne.symm ne_b8_b9) nin0)
    have Z14 : Lq n0 T14.heap.size := Nat.le_trans Z12 Kc14.1
    have KK14 := K12.trans Kc14 (allS (Or.inr sz_b8) all0)
    refine hG ?_
    obtain ⟨fs, hr, hrun, hended, hW, hsame⟩ := X14.leave (v := some (.ref b8)) (fun h => by rw [Bd.returns] at h; cases h)
    refine ⟨_, _, pre1 _ ?_, hrun, hended, _, _, rfl, ?_, ⟨_, rfl⟩, hW, hsame.mono (by decide) (by decide)⟩
    · show Steps p.tables e below (s₁.setTop (mkF m 2 #[.val (.int (oi N)), .val (.int p2), .val (.int p3)] [(.int (1 : Int32)), (.int (oi N))])) _
      refine XS.icmpYes X0.here hx rfl (pc0 := 2) (pc' := 20) rfl (dq hby D5 2 rfl) rfl (feq hc2_2).2 (by decide) (by decide) ?_
      refine st8 _ ?_
      refine XS.dup X8.here hx rfl (dq hby D5 14 rfl) rfl rfl ?_
      refine XS.iconst X8.here hx rfl (dq hby D5 15 rfl) ?_
      refine st9 _ ?_
      refine XS.dup X9.here hx rfl (dq hby D5 17 rfl) rfl rfl ?_
      refine XS.iconst X9.here hx rfl (dq hby D5 18 rfl) ?_
      refine XS.iloadN X9.here hx rfl (dq hby D5 19 rfl) rfl ?_
      refine st10 _ ?_
      refine XS.dup X10.here hx rfl (dq hby D5 21 rfl) rfl rfl ?_
      refine XS.iconst X10.here hx rfl (dq hby D5 22 rfl) ?_
      refine XS.iloadN X10.here hx rfl (dq hby D5 23 rfl) rfl ?_
      show Steps p.tables e below (T10.setTop (mkF m 34 #[.val (.int (oi N)), .val (.int p2), .val (.int p3)] [(.int p3), (.int (1 : Int32)), (.ref b9), (.ref b9), (.ref b8), (.ref b8)])) _
      refine st12 _ ?_
      refine st14.trans ?_
      jvm_step X14.here [X14.here.top, hx, (dq hby D5 26 rfl), X14.method', Bd.returns, Value.isRef, FieldType.isReference]
      first | (intro acts; rw [hr _ acts rfl rfl rfl]) | rw [hr _ _ rfl rfl rfl]
      exact Steps.refl _
    · show Q_rtext Z p2 p3 N cs h0 n0 _ T14.heap _
      exact ⟨_, _, _, _, _, rfl, N14, KK14, sz_b8, sz_bb, ne_b8_bb, Ex8_v14, nf14_0_v14, nf14_1_v14, nf14_2_v14, by rw [hN2]; exact hsd⟩
theorem D3 : ∀ x ∈ ([(0, .aload_n 0, 1), (1, .invokespecial 1, 3), (4, .return_, 1)] : List (Nat × Instr × Nat)), decode jdk_22_method_1_code x.1 = .ok x.2 := by decide +kernel
theorem pn_rab : plainName "java/util/AbstractCollection" = true := by first | (simp [plainName, overriddenIn]; done) | decide +kernel
theorem ef_rab (m : MethodId) (x0 : Addr) : entryFrame m #[(.ref x0)] 1 = mkF m 0 #[.val (.ref x0)] [] := by first | (simp [entryFrame, mkF, argsToLocals, Value.category]; done) | rfl
def Q_rab (Z : State) (a1 : Addr) (h0 : Heap) (n0 : Nat) (v : Option Value) (h : Heap) (L : List Loc) : Prop := v = none ∧ Fr n0 L ∧ h = h0
set_option maxRecDepth 65536 in
set_option maxHeartbeats 40000000 in
theorem rab (l : Launch) (Z : State) (a0 : Array Value) (hw : ∀ d ∈ tables_1, d.before a0 Z = true) (ws : List Jvm.Cond) (a1 : Addr) (h0 : Heap) (n0 : Nat) (Z0 : n0 ≤ h0.size) :
    MetFree l (⟨"java/util/AbstractCollection", "<init>", "()V"⟩ : MethodName) (head1 (Jvm.Cond.code (⟨"java/util/AbstractCollection", "<init>", "()V"⟩ : MethodName) jdk_22_method_1_code 1 none :: ws) ({ frames := 1, cells := 0, slots := 0, locals := 12 } : Room)) (fun a U => a = #[(.ref a1)] ∧ Z.Warmed39 U.vm ∧ U.heap = h0) (fun _ _ _ _ _ => True) (fun _ U o U' => ∃ v L, o = .returned v ∧ Q_rab Z a1 h0 n0 v U'.heap L ∧ FrameEnd U o U' L ({ frames := 1, cells := 0, slots := 0, locals := 12 } : Room).cells ({ frames := 1, cells := 0, slots := 0, locals := 12 } : Room).slots) := by
  refine MetFree.of_bodySF (plainFor_of_name pn_rab) hisR ?_
  intro p e s m args below meth c s₁ Bd hml0 hP hK
  obtain ⟨rfl, hZ, hh⟩ := hP
  have hx := Bd.exec
  have hby := Bd.bytes
  have hml : c.maxLocals = 1 := hml0
  have hown : s.vm.findClass "java/util/AbstractCollection" = some m.cls := findClass_of_methodNamed Bd.named
  have hnm := (name_of_methodNamed Bd.named Bd.method).1
  have X0 : Stand p l e ({ frames := 1, cells := 0, slots := 0, locals := 12 } : Room) s m #[(.ref a1)] below meth c s₁ [] 0 0 := Stand.of_body Bd
  have e0 : s₁.heap = h0 := by rw [← hh, Bd.state]; rfl
  have N0 := Fr.nil n0
  have pre0 : ∀ t, Steps p.tables e below (s₁.setTop (mkF m 0 #[.val (.ref a1)] [])) t → Steps p.tables e below (s₁.setTop (entryFrame m #[(.ref a1)] 1)) t := fun t k => castTop (ef_rab m a1) k
  refine own_cps fun G hG => ?_
  obtain ⟨T1, X1, e1, st1⟩ := initO X0 hx hZ hown (wq hw 18 rfl) (wq hw 19 rfl) (wq hw 20 rfl) e0 (g := (mkF m 1 #[.val (.ref a1)] [(.ref a1)])) rfl (by rw [hml]; rfl) rfl (dq hby D3 1 rfl) (by decide) (W := 0) (by show 2 * 0 + _ ≤ _; exact Nat.le_of_eq rfl) (by decide)
  refine hG ?_
  obtain ⟨fs, hr, hrun, hended, hW, hsame⟩ := X1.leave (v := none) (fun _ => rfl)
  refine ⟨_, _, pre0 _ ?_, hrun, hended, _, _, rfl, ?_, ⟨_, rfl⟩, hW, hsame.mono (by decide) (by decide)⟩
  · show Steps p.tables e below (s₁.setTop (mkF m 0 #[.val (.ref a1)] [])) _
    refine XS.aloadN X0.here hx rfl (dq hby D3 0 rfl) rfl rfl ?_
    refine st1 _ ?_
    exact X1.returnOut hx Bd.returns (dq hby D3 2 rfl) hr
  · show Q_rab Z a1 h0 n0 _ T1.heap _
    rw [e1]
    exact ⟨rfl, N0, rfl⟩
theorem D2 : ∀ x ∈ ([(0, .aload_n 0, 1), (1, .invokespecial 1, 3), (4, .aload_n 0, 1), (5, .iconst 0, 1), (6, .putfield 7, 3), (9, .return_, 1)] : List (Nat × Instr × Nat)), decode jdk_39_method_1_code x.1 = .ok x.2 := by decide +kernel
theorem pn_ral2 : plainName "java/util/AbstractList" = true := by first | (simp [plainName, overriddenIn]; done) | decide +kernel
theorem ef_ral2 (m : MethodId) (x0 : Addr) : entryFrame m #[(.ref x0)] 1 = mkF m 0 #[.val (.ref x0)] [] := by first | (simp [entryFrame, mkF, argsToLocals, Value.category]; done) | rfl
def Q_ral2 (Z : State) (a1 : Addr) (h0 : Heap) (n0 : Nat) (v : Option Value) (h : Heap) (L : List Loc) : Prop := v = none ∧ Fr n0 L ∧ Keep h0 h [a1] ∧ Fld Z h a1 "java/util/AbstractList" "modCount" "I" (.int (0 : Int32)) ∧ Fld Z h a1 "java/util/ArrayList" "elementData" "[Ljava/lang/Object;" .null ∧ Fld Z h a1 "java/util/ArrayList" "size" "I" (.int (0 : Int32))
set_option maxRecDepth 65536 in
set_option maxHeartbeats 40000000 in
theorem ral2 (l : Launch) (Z : State) (a0 : Array Value) (hw : ∀ d ∈ tables_1, d.before a0 Z = true) (ws : List Jvm.Cond) (a1 : Addr) (h0 : Heap) (n0 : Nat) (Z0 : n0 ≤ h0.size) (Fp0 : Exa Z h0 a1 "java/util/ArrayList") (Fp1 : Fld Z h0 a1 "java/util/AbstractList" "modCount" "I" (.int (0 : Int32))) (Fp2 : Fld Z h0 a1 "java/util/ArrayList" "elementData" "[Ljava/lang/Object;" .null) (Fp3 : Fld Z h0 a1 "java/util/ArrayList" "size" "I" (.int (0 : Int32))) (ga : n0 ≤ a1) :
    MetFree l (⟨"java/util/AbstractList", "<init>", "()V"⟩ : MethodName) (head1 (Jvm.Cond.code (⟨"java/util/AbstractList", "<init>", "()V"⟩ : MethodName) jdk_39_method_1_code 1 none :: ws) ({ frames := 2, cells := 0, slots := 0, locals := 24 } : Room)) (fun a U => a = #[(.ref a1)] ∧ Z.Warmed39 U.vm ∧ U.heap = h0) (fun _ _ _ _ _ => True) (fun _ U o U' => ∃ v L, o = .returned v ∧ Q_ral2 Z a1 h0 n0 v U'.heap L ∧ FrameEnd U o U' L ({ frames := 2, cells := 0, slots := 0, locals := 24 } : Room).cells ({ frames := 2, cells := 0, slots := 0, locals := 24 } : Room).slots) := by
  refine MetFree.of_bodySF (plainFor_of_name pn_ral2) hisR ?_
  intro p e s m args below meth c s₁ Bd hml0 hP hK
  obtain ⟨rfl, hZ, hh⟩ := hP
  have hx := Bd.exec
  have hby := Bd.bytes
  have hml : c.maxLocals = 1 := hml0
  have hown : s.vm.findClass "java/util/AbstractList" = some m.cls := findClass_of_methodNamed Bd.named
  have hnm := (name_of_methodNamed Bd.named Bd.method).1
  have X0 : Stand p l e ({ frames := 2, cells := 0, slots := 0, locals := 24 } : Room) s m #[(.ref a1)] below meth c s₁ [] 0 0 := Stand.of_body Bd
  have e0 : s₁.heap = h0 := by rw [← hh, Bd.state]; rfl
  have N0 := Fr.nil n0
  have pre0 : ∀ t, Steps p.tables e below (s₁.setTop (mkF m 0 #[.val (.ref a1)] [])) t → Steps p.tables e below (s₁.setTop (entryFrame m #[(.ref a1)] 1)) t := fun t k => castTop (ef_ral2 m a1) k
  have K0 := Keep.refl h0 [a1]
  refine own_cps fun G hG => ?_
  obtain ⟨_, _, ⟨T1, L1, k1, n1⟩, -, X1, ⟨Lc1, hQ1, l1, y1, z1⟩, st1⟩ := X0.specialBack hx (y := (⟨"java/util/AbstractCollection", "<init>", "()V"⟩ : MethodName)) rfl hown (mvT hZ (wq hw 12 rfl)) (mvT hZ (wq hw 13 rfl)) (mvT hZ (wq hw 17 rfl)) (by decide) (backOf (W := 0) (rab l Z a0 hw [] a1 h0 n0 Z0 ) hZ (wq hw 17 rfl) (wq hw 16 rfl) (by decide) (by decide)) (g := (mkF m 1 #[.val (.ref a1)] [(.ref a1)])) rfl (by rw [hml]; rfl) (Steps.refl _) (a := a1) (argsL := []) (rest := []) (lenOf pd_24 rfl) rfl (by show 2 * 0 + _ ≤ _; exact Nat.le_of_eq rfl) (dq hby D2 1 rfl) (fun _ _ => ⟨rfl, e0, (by decide : 0 + 0 ≤ _), (by decide : 0 + 0 ≤ _)⟩)
  dsimp only [Pt.U, Pt.locs, Pt.cells, Pt.slots] at X1 l1 y1 z1 st1 hQ1
  subst l1 y1 z1
  obtain ⟨rfl, N1q, e1⟩ := hQ1
  have N1 := Fr.app N0 N1q
  obtain ⟨T2, h2, X2, e2, W2, st2⟩ := putF X1 hx hZ hown (host := "") (Or.inl (wq hw 21 rfl)) Via.refl e1 Fp1 Fp0 (Or.inl (wq hw 22 rfl)) (wq hw 1 rfl) (ty := .int) (by decide) rfl rfl (g := (mkF m 6 #[.val (.ref a1)] [(.int (0 : Int32)), (.ref a1)])) rfl rfl (dq hby D2 4 rfl)
  have Fp0_v2 := Fp0.wr W2
  have Fp2_v2 := Fp2.other W2 (Or.inr (slot_ne (Or.inl (wq hw 25 rfl)) (Or.inl (wq hw 22 rfl)) (by decide) (t := (.array (.object "java/lang/Object"))) (t' := .int) (by decide) (by decide)))
  have Fp3_v2 := Fp3.other W2 (Or.inr (slot_ne (Or.inl (wq hw 66 rfl)) (Or.inl (wq hw 22 rfl)) (by decide) (t := .int) (t' := .int) (by decide) (by decide)))
  have Z2 : Lq n0 h2.size := Nat.le_trans Z0 (Nat.le_of_eq W2.size.symm)
  have K2 := K0.wr W2 (Or.inl (by simp))
  have F2_v2 : Fld Z h2 a1 "java/util/AbstractList" "modCount" "I" (.int (0 : Int32)) := Fp1.same W2
  have N2 := Fr.snoc X2 N1 ga
  refine hG ?_
  obtain ⟨fs, hr, hrun, hended, hW, hsame⟩ := X2.leave (v := none) (fun _ => rfl)
  refine ⟨_, _, pre0 _ ?_, hrun, hended, _, _, rfl, ?_, ⟨_, rfl⟩, hW, hsame.mono (by decide) (by decide)⟩
  · show Steps p.tables e below (s₁.setTop (mkF m 0 #[.val (.ref a1)] [])) _
    refine XS.aloadN X0.here hx rfl (dq hby D2 0 rfl) rfl rfl ?_
    refine st1.trans ?_
    refine XS.aloadN X1.here hx rfl (dq hby D2 2 rfl) rfl rfl ?_
    refine XS.iconst X1.here hx rfl (dq hby D2 3 rfl) ?_
    refine st2 _ ?_
    exact X2.returnOut hx Bd.returns (dq hby D2 5 rfl) hr
  · show Q_ral2 Z a1 h0 n0 _ T2.heap _
    rw [e2]
    exact ⟨rfl, N2, K2, F2_v2, Fp2_v2, Fp3_v2⟩
theorem D1 : ∀ x ∈ ([(0, .aload_n 0, 1), (1, .invokespecial 1, 3), (4, .aload_n 0, 1), (5, .getstatic 39, 3), (8, .putfield 9, 3), (11, .return_, 1)] : List (Nat × Instr × Nat)), decode jdk_38_method_2_code x.1 = .ok x.2 := by decide +kernel
theorem pn_ral1 : plainName "java/util/ArrayList" = true := by first | (simp [plainName, overriddenIn]; done) | decide +kernel
theorem ef_ral1 (m : MethodId) (x0 : Addr) : entryFrame m #[(.ref x0)] 1 = mkF m 0 #[.val (.ref x0)] [] := by first | (simp [entryFrame, mkF, argsToLocals, Value.category]; done) | rfl
def Q_ral1 (Z : State) (a1 : Addr) (dc : Addr) (h0 : Heap) (n0 : Nat) (v : Option Value) (h : Heap) (L : List Loc) : Prop := v = none ∧ Fr n0 L ∧ Keep h0 h [a1] ∧ Fld Z h a1 "java/util/AbstractList" "modCount" "I" (.int (0 : Int32)) ∧ Fld Z h a1 "java/util/ArrayList" "elementData" "[Ljava/lang/Object;" (.ref dc) ∧ Fld Z h a1 "java/util/ArrayList" "size" "I" (.int (0 : Int32))
set_option maxRecDepth 65536 in
set_option maxHeartbeats 40000000 in
theorem ral1 (l : Launch) (Z : State) (a0 : Array Value) (hw : ∀ d ∈ tables_1, d.before a0 Z = true) (ws : List Jvm.Cond) (a1 : Addr) (dc : Addr) (h0 : Heap) (n0 : Nat) (Z0 : n0 ≤ h0.size) (Fp0 : Exa Z h0 a1 "java/util/ArrayList") (Fp1 : Fld Z h0 a1 "java/util/AbstractList" "modCount" "I" (.int (0 : Int32))) (Fp2 : Fld Z h0 a1 "java/util/ArrayList" "elementData" "[Ljava/lang/Object;" .null) (Fp3 : Fld Z h0 a1 "java/util/ArrayList" "size" "I" (.int (0 : Int32))) (Fp4 : Sta Z h0 "java/util/ArrayList" "DEFAULTCAPACITY_EMPTY_ELEMENTDATA" "[Ljava/lang/Object;" (.ref dc)) (ga : n0 ≤ a1) :
    MetFree l (⟨"java/util/ArrayList", "<init>", "()V"⟩ : MethodName) (head1 (Jvm.Cond.code (⟨"java/util/ArrayList", "<init>", "()V"⟩ : MethodName) jdk_38_method_2_code 1 none :: ws) ({ frames := 3, cells := 0, slots := 0, locals := 36 } : Room)) (fun a U => a = #[(.ref a1)] ∧ Z.Warmed39 U.vm ∧ U.heap = h0) (fun _ _ _ _ _ => True) (fun _ U o U' => ∃ v L, o = .returned v ∧ Q_ral1 Z a1 dc h0 n0 v U'.heap L ∧ FrameEnd U o U' L ({ frames := 3, cells := 0, slots := 0, locals := 36 } : Room).cells ({ frames := 3, cells := 0, slots := 0, locals := 36 } : Room).slots) := by
  refine MetFree.of_bodySF (plainFor_of_name pn_ral1) hisR ?_
  intro p e s m args below meth c s₁ Bd hml0 hP hK
  obtain ⟨rfl, hZ, hh⟩ := hP
  have hx := Bd.exec
  have hby := Bd.bytes
  have hml : c.maxLocals = 1 := hml0
  have hown : s.vm.findClass "java/util/ArrayList" = some m.cls := findClass_of_methodNamed Bd.named
  have hnm := (name_of_methodNamed Bd.named Bd.method).1
  have X0 : Stand p l e ({ frames := 3, cells := 0, slots := 0, locals := 36 } : Room) s m #[(.ref a1)] below meth c s₁ [] 0 0 := Stand.of_body Bd
  have e0 : s₁.heap = h0 := by rw [← hh, Bd.state]; rfl
  have N0 := Fr.nil n0
  have pre0 : ∀ t, Steps p.tables e below (s₁.setTop (mkF m 0 #[.val (.ref a1)] [])) t → Steps p.tables e below (s₁.setTop (entryFrame m #[(.ref a1)] 1)) t := fun t k => castTop (ef_ral1 m a1) k
  have K0 := Keep.refl h0 [a1]
  refine own_cps fun G hG => ?_
  obtain ⟨_, _, ⟨T1, L1, k1, n1⟩, -, X1, ⟨Lc1, hQ1, l1, y1, z1⟩, st1⟩ := X0.specialBack hx (y := (⟨"java/util/AbstractList", "<init>", "()V"⟩ : MethodName)) rfl hown (mvT hZ (wq hw 6 rfl)) (mvT hZ (wq hw 7 rfl)) (mvT hZ (wq hw 11 rfl)) (by decide) (backOf (W := 0) (ral2 l Z a0 hw [] a1 h0 n0 Z0 Fp0 Fp1 Fp2 Fp3 ga) hZ (wq hw 11 rfl) (wq hw 10 rfl) (by decide) (by decide)) (g := (mkF m 1 #[.val (.ref a1)] [(.ref a1)])) rfl (by rw [hml]; rfl) (Steps.refl _) (a := a1) (argsL := []) (rest := []) (lenOf pd_24 rfl) rfl (by show 2 * 0 + _ ≤ _; exact Nat.le_of_eq rfl) (dq hby D1 1 rfl) (fun _ _ => ⟨rfl, e0, (by decide : 0 + 0 ≤ _), (by decide : 0 + 0 ≤ _)⟩)
  dsimp only [Pt.U, Pt.locs, Pt.cells, Pt.slots] at X1 l1 y1 z1 st1 hQ1
  subst l1 y1 z1
  obtain ⟨rfl, N1q, Kc1, nf1_0_v1, nf1_1_v1, nf1_2_v1⟩ := hQ1
  have N1 := Fr.app N0 N1q
  have Fp0_v1 := Fp0.keep Kc1
  have Fp4_v1 := Sta.keepW Fp4 Kc1 (nosS (nosE Fp0) nos0)
  have Z1 : Lq n0 T1.heap.size := Nat.le_trans Z0 Kc1.1
  have KK1 := K0.trans Kc1 (allS (Or.inl (by simp)) all0)
  obtain ⟨T2, X2, e2, st2⟩ := getS2 X1 hx hZ hown (host := "") (Or.inl (wq hw 23 rfl)) Via.refl rfl Fp4_v1 (g := (mkF m 5 #[.val (.ref a1)] [(.ref a1)])) rfl (dq hby D1 3 rfl)
  obtain ⟨T3, h3, X3, e3, W3, st3⟩ := putF X2 hx hZ hown (host := "") (Or.inl (wq hw 24 rfl)) Via.refl e2 nf1_1_v1 Fp0_v1 (Or.inl (wq hw 25 rfl)) (wq hw 1 rfl) (ty := (.array (.object "java/lang/Object"))) (by decide) rfl rfl (g := (mkF m 8 #[.val (.ref a1)] [(.ref dc), (.ref a1)])) rfl rfl (dq hby D1 4 rfl)
  have Fp0_v3 := Fp0_v1.wr W3
  have Fp4_v3 := Fp4_v1.wr W3
  have nf1_0_v3 := nf1_0_v1.other W3 (Or.inr (slot_ne (Or.inl (wq hw 22 rfl)) (Or.inl (wq hw 25 rfl)) (by decide) (t := .int) (t' := (.array (.object "java/lang/Object"))) (by decide) (by decide)))
  have nf1_2_v3 := nf1_2_v1.other W3 (Or.inr (slot_ne (Or.inl (wq hw 66 rfl)) (Or.inl (wq hw 25 rfl)) (by decide) (t := .int) (t' := (.array (.object "java/lang/Object"))) (by decide) (by decide)))
  have Z3 : Lq n0 h3.size := Nat.le_trans Z1 (Nat.le_of_eq W3.size.symm)
  have K3 := KK1.wr W3 (Or.inl (by simp))
  have F3_v3 : Fld Z h3 a1 "java/util/ArrayList" "elementData" "[Ljava/lang/Object;" (.ref dc) := nf1_1_v1.same W3
  have N3 := Fr.snoc X3 N1 ga
  refine hG ?_
  obtain ⟨fs, hr, hrun, hended, hW, hsame⟩ := X3.leave (v := none) (fun _ => rfl)
  refine ⟨_, _, pre0 _ ?_, hrun, hended, _, _, rfl, ?_, ⟨_, rfl⟩, hW, hsame.mono (by decide) (by decide)⟩
  · show Steps p.tables e below (s₁.setTop (mkF m 0 #[.val (.ref a1)] [])) _
    refine XS.aloadN X0.here hx rfl (dq hby D1 0 rfl) rfl rfl ?_
    refine st1.trans ?_
    refine XS.aloadN X1.here hx rfl (dq hby D1 2 rfl) rfl rfl ?_
    refine st2 _ ?_
    refine st3 _ ?_
    exact X3.returnOut hx Bd.returns (dq hby D1 5 rfl) hr
  · show Q_ral1 Z a1 dc h0 n0 _ T3.heap _
    rw [e3]
    exact ⟨rfl, N3, K3, nf1_0_v3, F3_v3, nf1_2_v3⟩
theorem D14 : ∀ x ∈ ([(0, .aload_n 0, 1), (1, .getfield 9, 3), (4, .arraylength, 1), (5, .istore_n 2, 1), (6, .iload_n 2, 1), (7, .ifCond .gt 13, 3), (10, .aload_n 0, 1), (11, .getfield 9, 3), (14, .getstatic 39, 3), (17, .if_acmp .eq 28, 3), (45, .aload_n 0, 1), (46, .bipush 10, 2), (48, .iload_n 1, 1), (49, .invokestatic 79, 3), (52, .anewarray 7, 3), (55, .dup_x1, 1), (56, .putfield 9, 3), (59, .areturn, 1)] : List (Nat × Instr × Nat)), decode jdk_38_method_6_code x.1 = .ok x.2 := by decide +kernel
theorem pn_rgr1 : plainName "java/util/ArrayList" = true := by first | (simp [plainName, overriddenIn]; done) | decide +kernel
theorem ef_rgr1 (m : MethodId) (x0 : Addr) (x1 : Int32) : entryFrame m #[(.ref x0), (.int x1)] 4 = mkF m 0 #[.val (.ref x0), .val (.int x1), .unset, .unset] [] := by first | (simp [entryFrame, mkF, argsToLocals, Value.category]; done) | rfl
def Q_rgr1 (Z : State) (a1 : Addr) (dc : Addr) (fd : Nat → Value) (h0 : Heap) (n0 : Nat) (v : Option Value) (h : Heap) (L : List Loc) : Prop := ∃ y : Addr, v = some (.ref y) ∧ Fr n0 L ∧ Keep h0 h [a1] ∧ h0.size ≤ y ∧ Fld Z h a1 "java/util/AbstractList" "modCount" "I" (.int (1 : Int32)) ∧ Fld Z h a1 "java/util/ArrayList" "elementData" "[Ljava/lang/Object;" (.ref y) ∧ Fld Z h a1 "java/util/ArrayList" "size" "I" (.int (0 : Int32)) ∧ ArR Z h y 10 (fun _ => Value.null)
set_option maxRecDepth 65536 in
set_option maxHeartbeats 40000000 in
theorem rgr1 (l : Launch) (Z : State) (a0 : Array Value) (hw : ∀ d ∈ tables_1, d.before a0 Z = true) (ws : List Jvm.Cond) (a1 : Addr) (dc : Addr) (fd : Nat → Value) (h0 : Heap) (n0 : Nat) (Z0 : n0 ≤ h0.size) (Fp0 : Exa Z h0 a1 "java/util/ArrayList") (Fp1 : Fld Z h0 a1 "java/util/AbstractList" "modCount" "I" (.int (1 : Int32))) (Fp2 : Fld Z h0 a1 "java/util/ArrayList" "elementData" "[Ljava/lang/Object;" (.ref dc)) (Fp3 : Fld Z h0 a1 "java/util/ArrayList" "size" "I" (.int (0 : Int32))) (Fp4 : ArF Z h0 dc (.object "java/lang/Object") 0 fd) (Fp5 : Sta Z h0 "java/util/ArrayList" "DEFAULTCAPACITY_EMPTY_ELEMENTDATA" "[Ljava/lang/Object;" (.ref dc)) (ga : n0 ≤ a1) (nd : dc ≠ a1) :
    MetFree l (⟨"java/util/ArrayList", "grow", "(I)[Ljava/lang/Object;"⟩ : MethodName) (head1 (Jvm.Cond.code (⟨"java/util/ArrayList", "grow", "(I)[Ljava/lang/Object;"⟩ : MethodName) jdk_38_method_6_code 4 (some (.array (.object "java/lang/Object"))) :: ws) ({ frames := 1, cells := 1, slots := 10, locals := 14 } : Room)) (fun a U => a = #[(.ref a1), (.int (1 : Int32))] ∧ Z.Warmed39 U.vm ∧ U.heap = h0) (fun _ _ _ _ _ => True) (fun _ U o U' => ∃ v L, o = .returned v ∧ Q_rgr1 Z a1 dc fd h0 n0 v U'.heap L ∧ FrameEnd U o U' L ({ frames := 1, cells := 1, slots := 10, locals := 14 } : Room).cells ({ frames := 1, cells := 1, slots := 10, locals := 14 } : Room).slots) := by
  refine MetFree.of_bodySF (plainFor_of_name pn_rgr1) hisR ?_
  intro p e s m args below meth c s₁ Bd hml0 hP hK
  obtain ⟨rfl, hZ, hh⟩ := hP
  have hx := Bd.exec
  have hby := Bd.bytes
  have hml : c.maxLocals = 4 := hml0
  have hown : s.vm.findClass "java/util/ArrayList" = some m.cls := findClass_of_methodNamed Bd.named
  have hnm := (name_of_methodNamed Bd.named Bd.method).1
  have X0 : Stand p l e ({ frames := 1, cells := 1, slots := 10, locals := 14 } : Room) s m #[(.ref a1), (.int (1 : Int32))] below meth c s₁ [] 0 0 := Stand.of_body Bd
  have e0 : s₁.heap = h0 := by rw [← hh, Bd.state]; rfl
  have N0 := Fr.nil n0
  have pre0 : ∀ t, Steps p.tables e below (s₁.setTop (mkF m 0 #[.val (.ref a1), .val (.int (1 : Int32)), .unset, .unset] [])) t → Steps p.tables e below (s₁.setTop (entryFrame m #[(.ref a1), (.int (1 : Int32))] 4)) t := fun t k => castTop (ef_rgr1 m a1 (1 : Int32)) k
  have K0 := Keep.refl h0 [a1]
  refine own_cps fun G hG => ?_
  obtain ⟨T1, X1, e1, st1⟩ := getF X0 hx hZ hown (host := "") (Or.inl (wq hw 24 rfl)) Via.refl e0 Fp2 (g := (mkF m 1 #[.val (.ref a1), .val (.int (1 : Int32)), .unset, .unset] [(.ref a1)])) rfl rfl (dq hby D14 1 rfl)
  obtain ⟨cl2, Ar2, S2, H2⟩ := id Fp4
  replace S2 : Sq cl2.slots.size _ := S2
  obtain ⟨T3, X3, e3, st3⟩ := getF X1 hx hZ hown (host := "") (Or.inl (wq hw 24 rfl)) Via.refl e1 Fp2 (g := (mkF m 11 #[.val (.ref a1), .val (.int (1 : Int32)), .val (.int (0 : Int32)), .unset] [(.ref a1)])) rfl rfl (dq hby D14 7 rfl)
  obtain ⟨T4, X4, e4, st4⟩ := getS2 X3 hx hZ hown (host := "") (Or.inl (wq hw 23 rfl)) Via.refl e3 Fp5 (g := (mkF m 14 #[.val (.ref a1), .val (.int (1 : Int32)), .val (.int (0 : Int32)), .unset] [(.ref dc)])) rfl (dq hby D14 8 rfl)
  obtain ⟨_, _, ⟨T5, L5, k5, n5⟩, -, X5, ⟨Lc5, hQ5, l5, y5, z5⟩, st5⟩ := Jvm.LawKit.callS X4 hx (y := (⟨"java/lang/Math", "max", "(II)I"⟩ : MethodName)) hown (mvT hZ (wq hw 82 rfl)) (mvT hZ (wq hw 83 rfl)) (mvT hZ (wq hw 84 rfl)) (mvT hZ (wq hw 85 rfl)) (by decide) (backOf (W := 1) (rmax l Z a0 hw [] 10 1 h0 n0 Z0 (by omega) (by omega)) hZ (wq hw 85 rfl) (wq hw 84 rfl) (by decide) (by decide)) (g := (mkF m 49 #[.val (.ref a1), .val (.int (1 : Int32)), .val (.int (0 : Int32)), .unset] [(.int (1 : Int32)), (.int (10 : Int32)), (.ref a1)])) rfl (by rw [hml]; rfl) (argsL := [(.int (10 : Int32)), (.int (1 : Int32))]) (rest := [(.ref a1)]) (lenOf pd_2 rfl) rfl (by show 2 * 0 + _ ≤ _; exact Nat.le_of_eq rfl) (dq hby D14 13 rfl) (fun _ _ => ⟨rfl, e4, (by decide : 0 + 0 ≤ _), (by decide : 0 + 0 ≤ _)⟩)
  dsimp only [Pt.U, Pt.locs, Pt.cells, Pt.slots] at X5 l5 y5 z5 st5 hQ5
  subst l5 y5 z5
  obtain ⟨rfl, N5q, e5⟩ := hQ5
  have N5 := Fr.app N0 N5q
  obtain ⟨T6, h6, k6, X6, e6, E6, A6, O6, st6⟩ := newR X5 hx hZ hown (wq hw 86 rfl) (wq hw 87 rfl) e5 (g := (mkF m 52 #[.val (.ref a1), .val (.int (1 : Int32)), .val (.int (0 : Int32)), .unset] [(.int (10 : Int32)), (.ref a1)])) rfl (dq hby D14 14 rfl) rfl (by decide) (cap := 10) (by decide) (by decide) (by decide) (by decide)
  obtain ⟨b6, g6⟩ : ∃ z, z = h0.size := ⟨_, rfl⟩
  rw [← g6] at A6 st6
  have ne_a1_b6 : Dif a1 b6 := Nat.ne_of_lt (Nat.lt_of_lt_of_le Fp0.lt (Nat.le_of_eq g6.symm))
  have ne_dc_b6 : Dif dc b6 := Nat.ne_of_lt (Nat.lt_of_lt_of_le Fp4.lt (Nat.le_of_eq g6.symm))
  have g_b6 : Lq n0 b6 := Nat.le_trans Z0 (Nat.le_of_eq g6.symm)
  have sz_b6 : Lq h0.size b6 := Nat.le_trans K0.1 (Nat.le_of_eq g6.symm)
  clear g6
  have Fp0_v6 := Fp0.ext E6
  have Fp1_v6 := Fp1.ext E6
  have Fp2_v6 := Fp2.ext E6
  have Fp3_v6 := Fp3.ext E6
  have Fp4_v6 := Fp4.ext E6
  have Fp5_v6 := Fp5.ext E6
  have Z6 : Lq n0 h6.size := Nat.le_trans Z0 E6.1
  have K6 := K0.ext E6
  have V6_v6 : ArR Z h6 b6 10 (fun _ => .null) := ArR.mk0 A6 O6 rfl
  obtain ⟨T7, h7, X7, e7, W7, st7⟩ := putF X6 hx hZ hown (host := "") (Or.inl (wq hw 24 rfl)) Via.refl e6 Fp2_v6 Fp0_v6 (Or.inl (wq hw 25 rfl)) (wq hw 1 rfl) (ty := (.array (.object "java/lang/Object"))) (by decide) rfl rfl (g := (mkF m 56 #[.val (.ref a1), .val (.int (1 : Int32)), .val (.int (0 : Int32)), .unset] [(.ref b6), (.ref a1), (.ref b6)])) rfl rfl (dq hby D14 16 rfl)
  have Fp0_v7 := Fp0_v6.wr W7
  have Fp1_v7 := Fp1_v6.other W7 (Or.inr (slot_ne (Or.inl (wq hw 22 rfl)) (Or.inl (wq hw 25 rfl)) (by decide) (t := .int) (t' := (.array (.object "java/lang/Object"))) (by decide) (by decide)))
  have Fp3_v7 := Fp3_v6.other W7 (Or.inr (slot_ne (Or.inl (wq hw 66 rfl)) (Or.inl (wq hw 25 rfl)) (by decide) (t := .int) (t' := (.array (.object "java/lang/Object"))) (by decide) (by decide)))
  have Fp4_v7 := Fp4_v6.other W7 nd
  have Fp5_v7 := Fp5_v6.wr W7
  have V6_v7 := V6_v6.other W7 (Ne.symm ne_a1_b6)
  have Z7 : Lq n0 h7.size := Nat.le_trans Z6 (Nat.le_of_eq W7.size.symm)
  have K7 := K6.wr W7 (Or.inl (by simp))
  have F7_v7 : Fld Z h7 a1 "java/util/ArrayList" "elementData" "[Ljava/lang/Object;" (.ref b6) := Fp2_v6.same W7
  have N7 := Fr.snoc X7 N5 ga
  refine hG ?_
  obtain ⟨fs, hr, hrun, hended, hW, hsame⟩ := X7.leave (v := some (.ref b6)) (fun h => by rw [Bd.returns] at h; cases h)
  refine ⟨_, _, pre0 _ ?_, hrun, hended, _, _, rfl, ?_, ⟨_, rfl⟩, hW, hsame.mono (by decide) (by decide)⟩
  · show Steps p.tables e below (s₁.setTop (mkF m 0 #[.val (.ref a1), .val (.int (1 : Int32)), .unset, .unset] [])) _
    refine XS.aloadN X0.here hx rfl (dq hby D14 0 rfl) rfl rfl ?_
    refine st1 _ ?_
    refine X1.arraylength hx (by rw [e1]; exact Ar2.1) (State.isArrayOf_alike hZ.alike Ar2.2.1) (g := (mkF m 4 #[.val (.ref a1), .val (.int (1 : Int32)), .unset, .unset] [(.ref dc)])) rfl rfl (dq hby D14 2 rfl) _ ?_
    rw [show cl2.slots.size.toInt32 = (0 : Int32) from (congrArg Nat.toInt32 S2).trans rfl]
    refine XS.istoreN X1.here hx rfl (dq hby D14 3 rfl) rfl (l' := #[.val (.ref a1), .val (.int (1 : Int32)), .val (.int (0 : Int32)), .unset]) rfl ?_
    refine XS.iloadN X1.here hx rfl (dq hby D14 4 rfl) rfl ?_
    refine XS.ifNo X1.here hx rfl (dq hby D14 5 rfl) rfl ((if0 _ _).trans (flt (by decide : ¬ ((0 : Int32) < (0 : Int32)))).2.2.1) ?_
    refine XS.aloadN X1.here hx rfl (dq hby D14 6 rfl) rfl rfl ?_
    show Steps p.tables e below (T1.setTop (mkF m 11 #[.val (.ref a1), .val (.int (1 : Int32)), .val (.int (0 : Int32)), .unset] [(.ref a1)])) _
    refine st3 _ ?_
    refine st4 _ ?_
    refine Jvm.RoadKit.acmp (g := (mkF m 17 #[.val (.ref a1), .val (.int (1 : Int32)), .val (.int (0 : Int32)), .unset] [(.ref dc), (.ref dc)])) X4 hx rfl rfl rfl (pc0 := 17) (pc' := 45) (same := true) rfl (dq hby D14 9 rfl) rfl (decide_eq_true rfl) (by decide) (by decide) ?_
    refine XS.aloadN X4.here hx rfl (dq hby D14 10 rfl) rfl rfl ?_
    refine XS.bipush X4.here hx rfl (dq hby D14 11 rfl) ?_
    refine XS.iloadN X4.here hx rfl (dq hby D14 12 rfl) rfl ?_
    refine st5 _ ?_
    show Steps p.tables e below (T5.setTop (mkF m 52 #[.val (.ref a1), .val (.int (1 : Int32)), .val (.int (0 : Int32)), .unset] [(.int (oi (omx 10 1))), (.ref a1)])) _
    rw [show oi (omx 10 1) = (10 : Int32) from rfl]
    refine st6 _ ?_
    refine XS.dupX1 X6.here hx rfl (dq hby D14 15 rfl) rfl rfl rfl ?_
    refine st7 _ ?_
    jvm_step X7.here [X7.here.top, hx, (dq hby D14 17 rfl), X7.method', Bd.returns, Value.isRef, FieldType.isReference]
    first | (intro acts; rw [hr _ acts rfl rfl rfl]) | rw [hr _ _ rfl rfl rfl]
    exact Steps.refl _
  · show Q_rgr1 Z a1 dc fd h0 n0 _ T7.heap _
    rw [e7]
    exact ⟨_, rfl, N7, K7, sz_b6, Fp1_v7, F7_v7, Fp3_v7, V6_v7⟩
theorem D13 : ∀ x ∈ ([(0, .aload_n 0, 1), (1, .aload_n 0, 1), (2, .getfield 48, 3), (5, .iconst 1, 1), (6, .iadd, 1), (7, .invokevirtual 69, 3), (10, .areturn, 1)] : List (Nat × Instr × Nat)), decode jdk_38_method_7_code x.1 = .ok x.2 := by decide +kernel
theorem pn_rgr0 : plainName "java/util/ArrayList" = true := by first | (simp [plainName, overriddenIn]; done) | decide +kernel
theorem ef_rgr0 (m : MethodId) (x0 : Addr) : entryFrame m #[(.ref x0)] 1 = mkF m 0 #[.val (.ref x0)] [] := by first | (simp [entryFrame, mkF, argsToLocals, Value.category]; done) | rfl
def Q_rgr0 (Z : State) (a1 : Addr) (dc : Addr) (fd : Nat → Value) (h0 : Heap) (n0 : Nat) (v : Option Value) (h : Heap) (L : List Loc) : Prop := ∃ y : Addr, v = some (.ref y) ∧ Fr n0 L ∧ Keep h0 h [a1] ∧ h0.size ≤ y ∧ Fld Z h a1 "java/util/AbstractList" "modCount" "I" (.int (1 : Int32)) ∧ Fld Z h a1 "java/util/ArrayList" "elementData" "[Ljava/lang/Object;" (.ref y) ∧ Fld Z h a1 "java/util/ArrayList" "size" "I" (.int (0 : Int32)) ∧ ArR Z h y 10 (fun _ => Value.null)
set_option maxRecDepth 65536 in
set_option maxHeartbeats 40000000 in
theorem rgr0 (l : Launch) (Z : State) (a0 : Array Value) (hw : ∀ d ∈ tables_1, d.before a0 Z = true) (ws : List Jvm.Cond) (a1 : Addr) (dc : Addr) (fd : Nat → Value) (h0 : Heap) (n0 : Nat) (Z0 : n0 ≤ h0.size) (Fp0 : Exa Z h0 a1 "java/util/ArrayList") (Fp1 : Fld Z h0 a1 "java/util/AbstractList" "modCount" "I" (.int (1 : Int32))) (Fp2 : Fld Z h0 a1 "java/util/ArrayList" "elementData" "[Ljava/lang/Object;" (.ref dc)) (Fp3 : Fld Z h0 a1 "java/util/ArrayList" "size" "I" (.int (0 : Int32))) (Fp4 : ArF Z h0 dc (.object "java/lang/Object") 0 fd) (Fp5 : Sta Z h0 "java/util/ArrayList" "DEFAULTCAPACITY_EMPTY_ELEMENTDATA" "[Ljava/lang/Object;" (.ref dc)) (ga : n0 ≤ a1) (nd : dc ≠ a1) :
    MetFree l (⟨"java/util/ArrayList", "grow", "()[Ljava/lang/Object;"⟩ : MethodName) (head1 (Jvm.Cond.code (⟨"java/util/ArrayList", "grow", "()[Ljava/lang/Object;"⟩ : MethodName) jdk_38_method_7_code 1 (some (.array (.object "java/lang/Object"))) :: ws) ({ frames := 2, cells := 1, slots := 10, locals := 29 } : Room)) (fun a U => a = #[(.ref a1)] ∧ Z.Warmed39 U.vm ∧ U.heap = h0) (fun _ _ _ _ _ => True) (fun _ U o U' => ∃ v L, o = .returned v ∧ Q_rgr0 Z a1 dc fd h0 n0 v U'.heap L ∧ FrameEnd U o U' L ({ frames := 2, cells := 1, slots := 10, locals := 29 } : Room).cells ({ frames := 2, cells := 1, slots := 10, locals := 29 } : Room).slots) := by
  refine MetFree.of_bodySF (plainFor_of_name pn_rgr0) hisR ?_
  intro p e s m args below meth c s₁ Bd hml0 hP hK
  obtain ⟨rfl, hZ, hh⟩ := hP
  have hx := Bd.exec
  have hby := Bd.bytes
  have hml : c.maxLocals = 1 := hml0
  have hown : s.vm.findClass "java/util/ArrayList" = some m.cls := findClass_of_methodNamed Bd.named
  have hnm := (name_of_methodNamed Bd.named Bd.method).1
  have X0 : Stand p l e ({ frames := 2, cells := 1, slots := 10, locals := 29 } : Room) s m #[(.ref a1)] below meth c s₁ [] 0 0 := Stand.of_body Bd
  have e0 : s₁.heap = h0 := by rw [← hh, Bd.state]; rfl
  have N0 := Fr.nil n0
  have pre0 : ∀ t, Steps p.tables e below (s₁.setTop (mkF m 0 #[.val (.ref a1)] [])) t → Steps p.tables e below (s₁.setTop (entryFrame m #[(.ref a1)] 1)) t := fun t k => castTop (ef_rgr0 m a1) k
  have K0 := Keep.refl h0 [a1]
  refine own_cps fun G hG => ?_
  obtain ⟨T1, X1, e1, st1⟩ := getF X0 hx hZ hown (host := "") (Or.inl (wq hw 65 rfl)) Via.refl e0 Fp3 (g := (mkF m 2 #[.val (.ref a1)] [(.ref a1), (.ref a1)])) rfl rfl (dq hby D13 2 rfl)
  obtain ⟨cq2, qq2, qq2'⟩ := Fp0.cell
  obtain ⟨_, _, ⟨T2, L2, k2, n2⟩, -, X2, ⟨Lc2, hQ2, l2, y2, z2⟩, st2⟩ := X1.privateBack hx (y := (⟨"java/util/ArrayList", "grow", "(I)[Ljava/lang/Object;"⟩ : MethodName)) hown (mvT hZ (wq hw 77 rfl)) (mvT hZ (wq hw 78 rfl)) (mvT hZ (wq hw 80 rfl)) (Cond.privateMethod_at (mvP hZ (wq hw 79 rfl) (args := #[]))) (mvT hZ (wq hw 81 rfl)) (by decide) (backOf (W := 0) (rgr1 l Z a0 hw [] a1 dc fd h0 n0 Z0 Fp0 Fp1 Fp2 Fp3 Fp4 Fp5 ga nd) hZ (wq hw 81 rfl) (wq hw 2 rfl) (by decide) (by decide)) (g := (mkF m 7 #[.val (.ref a1)] [(.int (1 : Int32)), (.ref a1)])) rfl (by rw [hml]; rfl) (Steps.refl _) (a := a1) (by rw [e1]; exact qq2) qq2' (argsL := [(.int (1 : Int32))]) (rest := []) (lenOf pd_25 rfl) rfl (by show 2 * 0 + _ ≤ _; exact Nat.le_of_eq rfl) (dq hby D13 5 rfl) (fun _ _ => ⟨rfl, e1, (by decide : 0 + 1 ≤ _), (by decide : 0 + 10 ≤ _)⟩)
  dsimp only [Pt.U, Pt.locs, Pt.cells, Pt.slots] at X2 l2 y2 z2 st2 hQ2
  subst l2 y2 z2
  obtain ⟨el, rfl, N2q, Kc2, sb_el, nf2_0_v2, nf2_1_v2, nf2_2_v2, nf2_3_v2⟩ := hQ2
  have N2 := Fr.app N0 N2q
  replace sb_el : Lq _ _ := sb_el
  have ne_a1_el : Dif a1 el := Nat.ne_of_lt (Nat.lt_of_lt_of_le Fp0.lt sb_el)
  have ne_dc_el : Dif dc el := Nat.ne_of_lt (Nat.lt_of_lt_of_le Fp4.lt sb_el)
  have g_el : Lq n0 el := Nat.le_trans Z0 sb_el
  have sz_el : Lq h0.size el := Nat.le_trans K0.1 sb_el
  have Fp0_v2 := Fp0.keep Kc2
  have Fp4_v2 := Fp4.keep Kc2 (ninS nd nin0)
  have Fp5_v2 := Sta.keepW Fp5 Kc2 (nosS (nosE Fp0) nos0)
  have Z2 : Lq n0 T2.heap.size := Nat.le_trans Z0 Kc2.1
  have KK2 := K0.trans Kc2 (allS (Or.inl (by simp)) all0)
  refine hG ?_
  obtain ⟨fs, hr, hrun, hended, hW, hsame⟩ := X2.leave (v := some (.ref el)) (fun h => by rw [Bd.returns] at h; cases h)
  refine ⟨_, _, pre0 _ ?_, hrun, hended, _, _, rfl, ?_, ⟨_, rfl⟩, hW, hsame.mono (by decide) (by decide)⟩
  · show Steps p.tables e below (s₁.setTop (mkF m 0 #[.val (.ref a1)] [])) _
    refine XS.aloadN X0.here hx rfl (dq hby D13 0 rfl) rfl rfl ?_
    refine XS.aloadN X0.here hx rfl (dq hby D13 1 rfl) rfl rfl ?_
    refine st1 _ ?_
    refine XS.iconst X1.here hx rfl (dq hby D13 3 rfl) ?_
    refine XS.iadd X1.here hx rfl (dq hby D13 4 rfl) rfl ?_
    refine st2.trans ?_
    jvm_step X2.here [X2.here.top, hx, (dq hby D13 6 rfl), X2.method', Bd.returns, Value.isRef, FieldType.isReference]
    first | (intro acts; rw [hr _ acts rfl rfl rfl]) | rw [hr _ _ rfl rfl rfl]
    exact Steps.refl _
  · show Q_rgr0 Z a1 dc fd h0 n0 _ T2.heap _
    exact ⟨_, rfl, N2, KK2, sz_el, nf2_0_v2, nf2_1_v2, nf2_2_v2, nf2_3_v2⟩
theorem D12 : ∀ x ∈ ([(0, .iload_n 3, 1), (1, .aload_n 2, 1), (2, .arraylength, 1), (3, .if_icmp .ne 8, 3), (6, .aload_n 0, 1), (7, .invokevirtual 129, 3), (10, .astore_n 2, 1), (11, .aload_n 2, 1), (12, .iload_n 3, 1), (13, .aload_n 1, 1), (14, .aastore, 1), (15, .aload_n 0, 1), (16, .iload_n 3, 1), (17, .iconst 1, 1), (18, .iadd, 1), (19, .putfield 48, 3), (22, .return_, 1)] : List (Nat × Instr × Nat)), decode jdk_38_method_24_code x.1 = .ok x.2 := by decide +kernel
theorem pn_rad3g : plainName "java/util/ArrayList" = true := by first | (simp [plainName, overriddenIn]; done) | decide +kernel
theorem ef_rad3g (m : MethodId) (x0 : Addr) (x1 : Addr) (x2 : Addr) (x3 : Int32) : entryFrame m #[(.ref x0), (.ref x1), (.ref x2), (.int x3)] 4 = mkF m 0 #[.val (.ref x0), .val (.ref x1), .val (.ref x2), .val (.int x3)] [] := by first | (simp [entryFrame, mkF, argsToLocals, Value.category]; done) | rfl
def Q_rad3g (Z : State) (a1 : Addr) (a2 : Addr) (dc : Addr) (fd : Nat → Value) (h0 : Heap) (n0 : Nat) (v : Option Value) (h : Heap) (L : List Loc) : Prop := ∃ y : Addr, v = none ∧ Fr n0 L ∧ Keep h0 h [a1] ∧ h0.size ≤ y ∧ Fld Z h a1 "java/util/AbstractList" "modCount" "I" (.int (1 : Int32)) ∧ Fld Z h a1 "java/util/ArrayList" "elementData" "[Ljava/lang/Object;" (.ref y) ∧ Fld Z h a1 "java/util/ArrayList" "size" "I" (.int (1 : Int32)) ∧ ArR Z h y 10 (upV (fun _ => Value.null) 0 (.ref a2))
set_option maxRecDepth 65536 in
set_option maxHeartbeats 40000000 in
theorem rad3g (l : Launch) (Z : State) (a0 : Array Value) (hw : ∀ d ∈ tables_1, d.before a0 Z = true) (ws : List Jvm.Cond) (a1 : Addr) (a2 : Addr) (dc : Addr) (fd : Nat → Value) (h0 : Heap) (n0 : Nat) (Z0 : n0 ≤ h0.size) (Fp0 : Exa Z h0 a1 "java/util/ArrayList") (Fp1 : Fld Z h0 a1 "java/util/AbstractList" "modCount" "I" (.int (1 : Int32))) (Fp2 : Fld Z h0 a1 "java/util/ArrayList" "elementData" "[Ljava/lang/Object;" (.ref dc)) (Fp3 : Fld Z h0 a1 "java/util/ArrayList" "size" "I" (.int (0 : Int32))) (Fp4 : ArF Z h0 dc (.object "java/lang/Object") 0 fd) (Fp5 : Sta Z h0 "java/util/ArrayList" "DEFAULTCAPACITY_EMPTY_ELEMENTDATA" "[Ljava/lang/Object;" (.ref dc)) (Fp6 : Exa Z h0 a2 "java/lang/String") (ga : n0 ≤ a1) (nd : dc ≠ a1) :
    MetFree l (⟨"java/util/ArrayList", "add", "(Ljava/lang/Object;[Ljava/lang/Object;I)V"⟩ : MethodName) (head1 (Jvm.Cond.code (⟨"java/util/ArrayList", "add", "(Ljava/lang/Object;[Ljava/lang/Object;I)V"⟩ : MethodName) jdk_38_method_24_code 4 none :: ws) ({ frames := 3, cells := 1, slots := 10, locals := 41 } : Room)) (fun a U => a = #[(.ref a1), (.ref a2), (.ref dc), (.int (0 : Int32))] ∧ Z.Warmed39 U.vm ∧ U.heap = h0) (fun _ _ _ _ _ => True) (fun _ U o U' => ∃ v L, o = .returned v ∧ Q_rad3g Z a1 a2 dc fd h0 n0 v U'.heap L ∧ FrameEnd U o U' L ({ frames := 3, cells := 1, slots := 10, locals := 41 } : Room).cells ({ frames := 3, cells := 1, slots := 10, locals := 41 } : Room).slots) := by
  refine MetFree.of_bodySF (plainFor_of_name pn_rad3g) hisR ?_
  intro p e s m args below meth c s₁ Bd hml0 hP hK
  obtain ⟨rfl, hZ, hh⟩ := hP
  have hx := Bd.exec
  have hby := Bd.bytes
  have hml : c.maxLocals = 4 := hml0
  have hown : s.vm.findClass "java/util/ArrayList" = some m.cls := findClass_of_methodNamed Bd.named
  have hnm := (name_of_methodNamed Bd.named Bd.method).1
  have X0 : Stand p l e ({ frames := 3, cells := 1, slots := 10, locals := 41 } : Room) s m #[(.ref a1), (.ref a2), (.ref dc), (.int (0 : Int32))] below meth c s₁ [] 0 0 := Stand.of_body Bd
  have e0 : s₁.heap = h0 := by rw [← hh, Bd.state]; rfl
  have N0 := Fr.nil n0
  have pre0 : ∀ t, Steps p.tables e below (s₁.setTop (mkF m 0 #[.val (.ref a1), .val (.ref a2), .val (.ref dc), .val (.int (0 : Int32))] [])) t → Steps p.tables e below (s₁.setTop (entryFrame m #[(.ref a1), (.ref a2), (.ref dc), (.int (0 : Int32))] 4)) t := fun t k => castTop (ef_rad3g m a1 a2 dc (0 : Int32)) k
  have K0 := Keep.refl h0 [a1]
  refine own_cps fun G hG => ?_
  obtain ⟨cl1, Ar1, S1, H1⟩ := id Fp4
  replace S1 : Sq cl1.slots.size _ := S1
  obtain ⟨cq2, qq2, qq2'⟩ := Fp0.cell
  obtain ⟨_, _, ⟨T2, L2, k2, n2⟩, -, X2, ⟨Lc2, hQ2, l2, y2, z2⟩, st2⟩ := X0.privateBack hx (y := (⟨"java/util/ArrayList", "grow", "()[Ljava/lang/Object;"⟩ : MethodName)) hown (mvT hZ (wq hw 72 rfl)) (mvT hZ (wq hw 73 rfl)) (mvT hZ (wq hw 75 rfl)) (Cond.privateMethod_at (mvP hZ (wq hw 74 rfl) (args := #[]))) (mvT hZ (wq hw 76 rfl)) (by decide) (backOf (W := 0) (rgr0 l Z a0 hw [] a1 dc fd h0 n0 Z0 Fp0 Fp1 Fp2 Fp3 Fp4 Fp5 ga nd) hZ (wq hw 76 rfl) (wq hw 2 rfl) (by decide) (by decide)) (g := (mkF m 7 #[.val (.ref a1), .val (.ref a2), .val (.ref dc), .val (.int (0 : Int32))] [(.ref a1)])) rfl (by rw [hml]; rfl) (Steps.refl _) (a := a1) (by rw [e0]; exact qq2) qq2' (argsL := []) (rest := []) (lenOf pd_26 rfl) rfl (by show 2 * 0 + _ ≤ _; exact Nat.le_of_eq rfl) (dq hby D12 5 rfl) (fun _ _ => ⟨rfl, e0, (by decide : 0 + 1 ≤ _), (by decide : 0 + 10 ≤ _)⟩)
  dsimp only [Pt.U, Pt.locs, Pt.cells, Pt.slots] at X2 l2 y2 z2 st2 hQ2
  subst l2 y2 z2
  obtain ⟨el, rfl, N2q, Kc2, sb_el, nf2_0_v2, nf2_1_v2, nf2_2_v2, nf2_3_v2⟩ := hQ2
  have N2 := Fr.app N0 N2q
  replace sb_el : Lq _ _ := sb_el
  have ne_a1_el : Dif a1 el := Nat.ne_of_lt (Nat.lt_of_lt_of_le Fp0.lt sb_el)
  have ne_dc_el : Dif dc el := Nat.ne_of_lt (Nat.lt_of_lt_of_le Fp4.lt sb_el)
  have ne_a2_el : Dif a2 el := Nat.ne_of_lt (Nat.lt_of_lt_of_le Fp6.lt sb_el)
  have g_el : Lq n0 el := Nat.le_trans Z0 sb_el
  have sz_el : Lq h0.size el := Nat.le_trans K0.1 sb_el
  have Fp0_v2 := Fp0.keep Kc2
  have Fp4_v2 := Fp4.keep Kc2 (ninS nd nin0)
  have Fp5_v2 := Sta.keepW Fp5 Kc2 (nosS (nosE Fp0) nos0)
  have Fp6_v2 := Fp6.keep Kc2
  have Z2 : Lq n0 T2.heap.size := Nat.le_trans Z0 Kc2.1
  have KK2 := K0.trans Kc2 (allS (Or.inl (by simp)) all0)
  obtain ⟨cl3, Ar3, S3, H3⟩ := id nf2_3_v2
  replace S3 : Sq cl3.slots.size _ := S3
  have hin3 : Hq (0 : Int32) cl3.slots.size := inA S3 (by decide) (by decide)
  obtain ⟨T3, h3, X3, e3, W3, st3⟩ := stR X2 hx hZ rfl Ar3 (j := (0 : Int32)) hin3 rfl (Sto.of Ar3 H3.2 (Ins.of_exa Fp6_v2 (wq hw 88 rfl))) (g := (mkF m 14 #[.val (.ref a1), .val (.ref a2), .val (.ref el), .val (.int (0 : Int32))] [(.ref a2), (.int (0 : Int32)), (.ref el)])) rfl rfl (dq hby D12 10 rfl)
  have Fp0_v3 := Fp0_v2.wr W3
  have Fp4_v3 := Fp4_v2.other W3 ne_dc_el
  have Fp5_v3 := Fp5_v2.wr W3
  have Fp6_v3 := Fp6_v2.wr W3
  have nf2_0_v3 := nf2_0_v2.other W3 (Or.inl ne_a1_el)
  have nf2_1_v3 := nf2_1_v2.other W3 (Or.inl ne_a1_el)
  have nf2_2_v3 := nf2_2_v2.other W3 (Or.inl ne_a1_el)
  have Z3 : Lq n0 h3.size := Nat.le_trans Z2 (Nat.le_of_eq W3.size.symm)
  have K3 := KK2.wr W3 (Or.inr sz_el)
  have V3_v3 := ArR.set Ar3 S3 H3 W3 hin3
  have N3 := Fr.snoc X3 N2 g_el
  have VC4_v4 : ArR Z h3 el 10 (upV (fun _ => Value.null) 0 (.ref a2)) := (V3_v3.congr (fun j hj => set_upV (f := fun _ => Value.null) (c := (0 : Int32)) (i := 0) rfl j))
  obtain ⟨T5, h5, X5, e5, W5, st5⟩ := putF X3 hx hZ hown (host := "") (Or.inl (wq hw 65 rfl)) Via.refl e3 nf2_2_v3 Fp0_v3 (Or.inl (wq hw 66 rfl)) (wq hw 1 rfl) (ty := .int) (by decide) rfl rfl (g := (mkF m 19 #[.val (.ref a1), .val (.ref a2), .val (.ref el), .val (.int (0 : Int32))] [(.int (1 : Int32)), (.ref a1)])) rfl rfl (dq hby D12 15 rfl)
  have Fp0_v5 := Fp0_v3.wr W5
  have Fp4_v5 := Fp4_v3.other W5 nd
  have Fp5_v5 := Fp5_v3.wr W5
  have Fp6_v5 := Fp6_v3.wr W5
  have nf2_0_v5 := nf2_0_v3.other W5 (Or.inr (slot_ne (Or.inl (wq hw 22 rfl)) (Or.inl (wq hw 66 rfl)) (by decide) (t := .int) (t' := .int) (by decide) (by decide)))
  have nf2_1_v5 := nf2_1_v3.other W5 (Or.inr (slot_ne (Or.inl (wq hw 25 rfl)) (Or.inl (wq hw 66 rfl)) (by decide) (t := (.array (.object "java/lang/Object"))) (t' := .int) (by decide) (by decide)))
  have VC4_v5 := VC4_v4.other W5 (Ne.symm ne_a1_el)
  have Z5 : Lq n0 h5.size := Nat.le_trans Z3 (Nat.le_of_eq W5.size.symm)
  have K5 := K3.wr W5 (Or.inl (by simp))
  have F5_v5 : Fld Z h5 a1 "java/util/ArrayList" "size" "I" (.int (1 : Int32)) := nf2_2_v3.same W5
  have N5 := Fr.snoc X5 N3 ga
  refine hG ?_
  obtain ⟨fs, hr, hrun, hended, hW, hsame⟩ := X5.leave (v := none) (fun _ => rfl)
  refine ⟨_, _, pre0 _ ?_, hrun, hended, _, _, rfl, ?_, ⟨_, rfl⟩, hW, hsame.mono (by decide) (by decide)⟩
  · show Steps p.tables e below (s₁.setTop (mkF m 0 #[.val (.ref a1), .val (.ref a2), .val (.ref dc), .val (.int (0 : Int32))] [])) _
    refine XS.iloadN X0.here hx rfl (dq hby D12 0 rfl) rfl ?_
    refine XS.aloadN X0.here hx rfl (dq hby D12 1 rfl) rfl rfl ?_
    refine X0.arraylength hx (by rw [e0]; exact Ar1.1) (State.isArrayOf_alike hZ.alike Ar1.2.1) (g := (mkF m 2 #[.val (.ref a1), .val (.ref a2), .val (.ref dc), .val (.int (0 : Int32))] [(.ref dc), (.int (0 : Int32))])) rfl rfl (dq hby D12 2 rfl) _ ?_
    rw [show cl1.slots.size.toInt32 = (0 : Int32) from (congrArg Nat.toInt32 S1).trans rfl]
    refine XS.icmpNo X0.here hx rfl (dq hby D12 3 rfl) rfl (teq (by decide : ((0 : Int32) = (0 : Int32)))).2 ?_
    refine XS.aloadN X0.here hx rfl (dq hby D12 4 rfl) rfl rfl ?_
    refine st2.trans ?_
    refine XS.astoreN X2.here hx rfl (dq hby D12 6 rfl) rfl rfl (l' := #[.val (.ref a1), .val (.ref a2), .val (.ref el), .val (.int (0 : Int32))]) rfl ?_
    refine XS.aloadN X2.here hx rfl (dq hby D12 7 rfl) rfl rfl ?_
    refine XS.iloadN X2.here hx rfl (dq hby D12 8 rfl) rfl ?_
    refine XS.aloadN X2.here hx rfl (dq hby D12 9 rfl) rfl rfl ?_
    refine st3 _ ?_
    show Steps p.tables e below (T3.setTop (mkF m 15 #[.val (.ref a1), .val (.ref a2), .val (.ref el), .val (.int (0 : Int32))] [])) _
    refine XS.aloadN X3.here hx rfl (dq hby D12 11 rfl) rfl rfl ?_
    refine XS.iloadN X3.here hx rfl (dq hby D12 12 rfl) rfl ?_
    refine XS.iconst X3.here hx rfl (dq hby D12 13 rfl) ?_
    refine XS.iadd X3.here hx rfl (dq hby D12 14 rfl) rfl ?_
    refine st5 _ ?_
    exact X5.returnOut hx Bd.returns (dq hby D12 16 rfl) hr
  · show Q_rad3g Z a1 a2 dc fd h0 n0 _ T5.heap _
    rw [e5]
    exact ⟨_, rfl, N5, K5, sz_el, nf2_0_v5, nf2_1_v5, F5_v5, VC4_v5⟩
theorem D11 : ∀ x ∈ ([(0, .aload_n 0, 1), (1, .dup, 1), (2, .getfield 63, 3), (5, .iconst 1, 1), (6, .iadd, 1), (7, .putfield 63, 3), (10, .aload_n 0, 1), (11, .aload_n 1, 1), (12, .aload_n 0, 1), (13, .getfield 9, 3), (16, .aload_n 0, 1), (17, .getfield 48, 3), (20, .invokevirtual 131, 3), (23, .iconst 1, 1), (24, .ireturn, 1)] : List (Nat × Instr × Nat)), decode jdk_38_method_25_code x.1 = .ok x.2 := by decide +kernel
theorem pn_radg : plainName "java/util/ArrayList" = true := by first | (simp [plainName, overriddenIn]; done) | decide +kernel
theorem ef_radg (m : MethodId) (x0 : Addr) (x1 : Addr) : entryFrame m #[(.ref x0), (.ref x1)] 2 = mkF m 0 #[.val (.ref x0), .val (.ref x1)] [] := by first | (simp [entryFrame, mkF, argsToLocals, Value.category]; done) | rfl
def Q_radg (Z : State) (a1 : Addr) (a2 : Addr) (dc : Addr) (fd : Nat → Value) (h0 : Heap) (n0 : Nat) (v : Option Value) (h : Heap) (L : List Loc) : Prop := ∃ y : Addr, v = some (.int 1) ∧ Fr n0 L ∧ Keep h0 h [a1] ∧ h0.size ≤ y ∧ Fld Z h a1 "java/util/AbstractList" "modCount" "I" (.int (1 : Int32)) ∧ Fld Z h a1 "java/util/ArrayList" "elementData" "[Ljava/lang/Object;" (.ref y) ∧ Fld Z h a1 "java/util/ArrayList" "size" "I" (.int (1 : Int32)) ∧ ArR Z h y 10 (upV (fun _ => Value.null) 0 (.ref a2))
set_option maxRecDepth 65536 in
set_option maxHeartbeats 40000000 in
theorem radg (l : Launch) (Z : State) (a0 : Array Value) (hw : ∀ d ∈ tables_1, d.before a0 Z = true) (ws : List Jvm.Cond) (a1 : Addr) (a2 : Addr) (dc : Addr) (fd : Nat → Value) (h0 : Heap) (n0 : Nat) (Z0 : n0 ≤ h0.size) (Fp0 : Exa Z h0 a1 "java/util/ArrayList") (Fp1 : Fld Z h0 a1 "java/util/AbstractList" "modCount" "I" (.int (0 : Int32))) (Fp2 : Fld Z h0 a1 "java/util/ArrayList" "elementData" "[Ljava/lang/Object;" (.ref dc)) (Fp3 : Fld Z h0 a1 "java/util/ArrayList" "size" "I" (.int (0 : Int32))) (Fp4 : ArF Z h0 dc (.object "java/lang/Object") 0 fd) (Fp5 : Sta Z h0 "java/util/ArrayList" "DEFAULTCAPACITY_EMPTY_ELEMENTDATA" "[Ljava/lang/Object;" (.ref dc)) (Fp6 : Exa Z h0 a2 "java/lang/String") (ga : n0 ≤ a1) (nd : dc ≠ a1) :
    MetFree l (⟨"java/util/ArrayList", "add", "(Ljava/lang/Object;)Z"⟩ : MethodName) (head1 (Jvm.Cond.code (⟨"java/util/ArrayList", "add", "(Ljava/lang/Object;)Z"⟩ : MethodName) jdk_38_method_25_code 2 (some .boolean) :: ws) ({ frames := 4, cells := 1, slots := 10, locals := 56 } : Room)) (fun a U => a = #[(.ref a1), (.ref a2)] ∧ Z.Warmed39 U.vm ∧ U.heap = h0) (fun _ _ _ _ _ => True) (fun _ U o U' => ∃ v L, o = .returned v ∧ Q_radg Z a1 a2 dc fd h0 n0 v U'.heap L ∧ FrameEnd U o U' L ({ frames := 4, cells := 1, slots := 10, locals := 56 } : Room).cells ({ frames := 4, cells := 1, slots := 10, locals := 56 } : Room).slots) := by
  refine MetFree.of_bodySF (plainFor_of_name pn_radg) hisR ?_
  intro p e s m args below meth c s₁ Bd hml0 hP hK
  obtain ⟨rfl, hZ, hh⟩ := hP
  have hx := Bd.exec
  have hby := Bd.bytes
  have hml : c.maxLocals = 2 := hml0
  have hown : s.vm.findClass "java/util/ArrayList" = some m.cls := findClass_of_methodNamed Bd.named
  have hnm := (name_of_methodNamed Bd.named Bd.method).1
  have X0 : Stand p l e ({ frames := 4, cells := 1, slots := 10, locals := 56 } : Room) s m #[(.ref a1), (.ref a2)] below meth c s₁ [] 0 0 := Stand.of_body Bd
  have e0 : s₁.heap = h0 := by rw [← hh, Bd.state]; rfl
  have N0 := Fr.nil n0
  have pre0 : ∀ t, Steps p.tables e below (s₁.setTop (mkF m 0 #[.val (.ref a1), .val (.ref a2)] [])) t → Steps p.tables e below (s₁.setTop (entryFrame m #[(.ref a1), (.ref a2)] 2)) t := fun t k => castTop (ef_radg m a1 a2) k
  have K0 := Keep.refl h0 [a1]
  refine own_cps fun G hG => ?_
  obtain ⟨T1, X1, e1, st1⟩ := getF X0 hx hZ hown (host := "") (Or.inl (wq hw 63 rfl)) (Via.of (wq hw 64 rfl)) e0 Fp1 (g := (mkF m 2 #[.val (.ref a1), .val (.ref a2)] [(.ref a1), (.ref a1)])) rfl rfl (dq hby D11 2 rfl)
  obtain ⟨T2, h2, X2, e2, W2, st2⟩ := putF X1 hx hZ hown (host := "") (Or.inl (wq hw 63 rfl)) (Via.of (wq hw 64 rfl)) e1 Fp1 Fp0 (Or.inl (wq hw 22 rfl)) (wq hw 1 rfl) (ty := .int) (by decide) rfl rfl (g := (mkF m 7 #[.val (.ref a1), .val (.ref a2)] [(.int (1 : Int32)), (.ref a1)])) rfl rfl (dq hby D11 5 rfl)
  have Fp0_v2 := Fp0.wr W2
  have Fp2_v2 := Fp2.other W2 (Or.inr (slot_ne (Or.inl (wq hw 25 rfl)) (Or.inl (wq hw 22 rfl)) (by decide) (t := (.array (.object "java/lang/Object"))) (t' := .int) (by decide) (by decide)))
  have Fp3_v2 := Fp3.other W2 (Or.inr (slot_ne (Or.inl (wq hw 66 rfl)) (Or.inl (wq hw 22 rfl)) (by decide) (t := .int) (t' := .int) (by decide) (by decide)))
  have Fp4_v2 := Fp4.other W2 nd
  have Fp5_v2 := Fp5.wr W2
  have Fp6_v2 := Fp6.wr W2
  have Z2 : Lq n0 h2.size := Nat.le_trans Z0 (Nat.le_of_eq W2.size.symm)
  have K2 := K0.wr W2 (Or.inl (by simp))
  have F2_v2 : Fld Z h2 a1 "java/util/AbstractList" "modCount" "I" (.int (1 : Int32)) := Fp1.same W2
  have N2 := Fr.snoc X2 N0 ga
  obtain ⟨T3, X3, e3, st3⟩ := getF X2 hx hZ hown (host := "") (Or.inl (wq hw 24 rfl)) Via.refl e2 Fp2_v2 (g := (mkF m 13 #[.val (.ref a1), .val (.ref a2)] [(.ref a1), (.ref a2), (.ref a1)])) rfl rfl (dq hby D11 9 rfl)
  obtain ⟨T4, X4, e4, st4⟩ := getF X3 hx hZ hown (host := "") (Or.inl (wq hw 65 rfl)) Via.refl e3 Fp3_v2 (g := (mkF m 17 #[.val (.ref a1), .val (.ref a2)] [(.ref a1), (.ref dc), (.ref a2), (.ref a1)])) rfl rfl (dq hby D11 11 rfl)
  obtain ⟨cq5, qq5, qq5'⟩ := Fp0_v2.cell
  obtain ⟨_, _, ⟨T5, L5, k5, n5⟩, -, X5, ⟨Lc5, hQ5, l5, y5, z5⟩, st5⟩ := X4.privateBack hx (y := (⟨"java/util/ArrayList", "add", "(Ljava/lang/Object;[Ljava/lang/Object;I)V"⟩ : MethodName)) hown (mvT hZ (wq hw 67 rfl)) (mvT hZ (wq hw 68 rfl)) (mvT hZ (wq hw 70 rfl)) (Cond.privateMethod_at (mvP hZ (wq hw 69 rfl) (args := #[]))) (mvT hZ (wq hw 71 rfl)) (by decide) (backOf (W := 0) (rad3g l Z a0 hw [] a1 a2 dc fd h2 n0 Z2 Fp0_v2 F2_v2 Fp2_v2 Fp3_v2 Fp4_v2 Fp5_v2 Fp6_v2 ga nd) hZ (wq hw 71 rfl) (wq hw 2 rfl) (by decide) (by decide)) (g := (mkF m 20 #[.val (.ref a1), .val (.ref a2)] [(.int (0 : Int32)), (.ref dc), (.ref a2), (.ref a1)])) rfl (by rw [hml]; rfl) (Steps.refl _) (a := a1) (by rw [e4]; exact qq5) qq5' (argsL := [(.ref a2), (.ref dc), (.int (0 : Int32))]) (rest := []) (lenOf pd_27 rfl) rfl (by show 2 * 0 + _ ≤ _; exact Nat.le_of_eq rfl) (dq hby D11 12 rfl) (fun _ _ => ⟨rfl, e4, (by decide : 0 + 1 ≤ _), (by decide : 0 + 10 ≤ _)⟩)
  dsimp only [Pt.U, Pt.locs, Pt.cells, Pt.slots] at X5 l5 y5 z5 st5 hQ5
  subst l5 y5 z5
  obtain ⟨el, rfl, N5q, Kc5, sb_el, nf5_0_v5, nf5_1_v5, nf5_2_v5, nf5_3_v5⟩ := hQ5
  have N5 := Fr.app N2 N5q
  replace sb_el : Lq _ _ := sb_el
  have ne_a1_el : Dif a1 el := Nat.ne_of_lt (Nat.lt_of_lt_of_le Fp0_v2.lt sb_el)
  have ne_dc_el : Dif dc el := Nat.ne_of_lt (Nat.lt_of_lt_of_le Fp4_v2.lt sb_el)
  have ne_a2_el : Dif a2 el := Nat.ne_of_lt (Nat.lt_of_lt_of_le Fp6_v2.lt sb_el)
  have g_el : Lq n0 el := Nat.le_trans Z2 sb_el
  have sz_el : Lq h0.size el := Nat.le_trans K2.1 sb_el
  have Fp0_v5 := Fp0_v2.keep Kc5
  have Fp4_v5 := Fp4_v2.keep Kc5 (ninS nd nin0)
  have Fp5_v5 := Sta.keepW Fp5_v2 Kc5 (nosS (nosE Fp0_v2) nos0)
  have Fp6_v5 := Fp6_v2.keep Kc5
  have Z5 : Lq n0 T5.heap.size := Nat.le_trans Z2 Kc5.1
  have KK5 := K2.trans Kc5 (allS (Or.inl (by simp)) all0)
  refine hG ?_
  obtain ⟨fs, hr, hrun, hended, hW, hsame⟩ := X5.leave (v := some (.int (1 : Int32))) (fun h => by rw [Bd.returns] at h; cases h)
  refine ⟨_, _, pre0 _ ?_, hrun, hended, _, _, rfl, ?_, ⟨_, rfl⟩, hW, hsame.mono (by decide) (by decide)⟩
  · show Steps p.tables e below (s₁.setTop (mkF m 0 #[.val (.ref a1), .val (.ref a2)] [])) _
    refine XS.aloadN X0.here hx rfl (dq hby D11 0 rfl) rfl rfl ?_
    refine XS.dup X0.here hx rfl (dq hby D11 1 rfl) rfl rfl ?_
    refine st1 _ ?_
    refine XS.iconst X1.here hx rfl (dq hby D11 3 rfl) ?_
    refine XS.iadd X1.here hx rfl (dq hby D11 4 rfl) rfl ?_
    refine st2 _ ?_
    refine XS.aloadN X2.here hx rfl (dq hby D11 6 rfl) rfl rfl ?_
    refine XS.aloadN X2.here hx rfl (dq hby D11 7 rfl) rfl rfl ?_
    refine XS.aloadN X2.here hx rfl (dq hby D11 8 rfl) rfl rfl ?_
    refine st3 _ ?_
    refine XS.aloadN X3.here hx rfl (dq hby D11 10 rfl) rfl rfl ?_
    refine st4 _ ?_
    refine st5.trans ?_
    refine XS.iconst X5.here hx rfl (dq hby D11 13 rfl) ?_
    exact retN X5 hx (t := .boolean) Bd.returns (by simp) (dq hby D11 14 rfl) hr
  · show Q_radg Z a1 a2 dc fd h0 n0 _ T5.heap _
    exact ⟨_, rfl, N5, KK5, sz_el, nf5_0_v5, nf5_1_v5, nf5_2_v5, nf5_3_v5⟩
theorem pn_rad3s : plainName "java/util/ArrayList" = true := by first | (simp [plainName, overriddenIn]; done) | decide +kernel
theorem ef_rad3s (m : MethodId) (x0 : Addr) (x1 : Addr) (x2 : Addr) (x3 : Int32) : entryFrame m #[(.ref x0), (.ref x1), (.ref x2), (.int x3)] 4 = mkF m 0 #[.val (.ref x0), .val (.ref x1), .val (.ref x2), .val (.int x3)] [] := by first | (simp [entryFrame, mkF, argsToLocals, Value.category]; done) | rfl
def Q_rad3s (Z : State) (a1 : Addr) (a2 : Addr) (a3 : Addr) (kk : Nat) (mc : Int32) (F : Nat → Value) (h0 : Heap) (n0 : Nat) (v : Option Value) (h : Heap) (L : List Loc) : Prop := v = none ∧ Fr n0 L ∧ Keep h0 h [a1, a3] ∧ Fld Z h a1 "java/util/AbstractList" "modCount" "I" (.int mc) ∧ Fld Z h a1 "java/util/ArrayList" "elementData" "[Ljava/lang/Object;" (.ref a3) ∧ Fld Z h a1 "java/util/ArrayList" "size" "I" (.int (oi (kk + 1))) ∧ ArR Z h a3 10 (upV F kk (.ref a2))
set_option maxRecDepth 65536 in
set_option maxHeartbeats 40000000 in
theorem rad3s (l : Launch) (Z : State) (a0 : Array Value) (hw : ∀ d ∈ tables_1, d.before a0 Z = true) (ws : List Jvm.Cond) (a1 : Addr) (a2 : Addr) (a3 : Addr) (kk : Nat) (mc : Int32) (F : Nat → Value) (h0 : Heap) (n0 : Nat) (Z0 : n0 ≤ h0.size) (Fp0 : Exa Z h0 a1 "java/util/ArrayList") (Fp1 : Fld Z h0 a1 "java/util/AbstractList" "modCount" "I" (.int mc)) (Fp2 : Fld Z h0 a1 "java/util/ArrayList" "elementData" "[Ljava/lang/Object;" (.ref a3)) (Fp3 : Fld Z h0 a1 "java/util/ArrayList" "size" "I" (.int (oi kk))) (Fp4 : ArR Z h0 a3 10 F) (Fp5 : Exa Z h0 a2 "java/lang/String") (hkk : kk = 1 ∨ kk = 2) (ga : n0 ≤ a1) (gb : n0 ≤ a3) (n31 : a3 ≠ a1) :
    MetFree l (⟨"java/util/ArrayList", "add", "(Ljava/lang/Object;[Ljava/lang/Object;I)V"⟩ : MethodName) (head1 (Jvm.Cond.code (⟨"java/util/ArrayList", "add", "(Ljava/lang/Object;[Ljava/lang/Object;I)V"⟩ : MethodName) jdk_38_method_24_code 4 none :: ws) ({ frames := 0, cells := 0, slots := 0, locals := 0 } : Room)) (fun a U => a = #[(.ref a1), (.ref a2), (.ref a3), (.int (oi kk))] ∧ Z.Warmed39 U.vm ∧ U.heap = h0) (fun _ _ _ _ _ => True) (fun _ U o U' => ∃ v L, o = .returned v ∧ Q_rad3s Z a1 a2 a3 kk mc F h0 n0 v U'.heap L ∧ FrameEnd U o U' L ({ frames := 0, cells := 0, slots := 0, locals := 0 } : Room).cells ({ frames := 0, cells := 0, slots := 0, locals := 0 } : Room).slots) := by
  refine MetFree.of_bodySF (plainFor_of_name pn_rad3s) hisR ?_
  intro p e s m args below meth c s₁ Bd hml0 hP hK
  obtain ⟨rfl, hZ, hh⟩ := hP
  have hx := Bd.exec
  have hby := Bd.bytes
  have hml : c.maxLocals = 4 := hml0
  have hown : s.vm.findClass "java/util/ArrayList" = some m.cls := findClass_of_methodNamed Bd.named
  have hnm := (name_of_methodNamed Bd.named Bd.method).1
  have X0 : Stand p l e ({ frames := 0, cells := 0, slots := 0, locals := 0 } : Room) s m #[(.ref a1), (.ref a2), (.ref a3), (.int (oi kk))] below meth c s₁ [] 0 0 := Stand.of_body Bd
  have e0 : s₁.heap = h0 := by rw [← hh, Bd.state]; rfl
  have N0 := Fr.nil n0
  have pre0 : ∀ t, Steps p.tables e below (s₁.setTop (mkF m 0 #[.val (.ref a1), .val (.ref a2), .val (.ref a3), .val (.int (oi kk))] [])) t → Steps p.tables e below (s₁.setTop (entryFrame m #[(.ref a1), (.ref a2), (.ref a3), (.int (oi kk))] 4)) t := fun t k => castTop (ef_rad3s m a1 a2 a3 (oi kk)) k
  have K0 := Keep.refl h0 [a1, a3]
  refine own_cps fun G hG => ?_
  obtain ⟨cl1, Ar1, S1, H1⟩ := id Fp4
  replace S1 : Sq cl1.slots.size _ := S1
  obtain ⟨cl2, Ar2, S2, H2⟩ := id Fp4
  replace S2 : Sq cl2.slots.size _ := S2
  have hin2 : Hq (oi kk) cl2.slots.size := oi_at S2 (by omega) (by omega)
  obtain ⟨T2, h2, X2, e2, W2, st2⟩ := stR X0 hx hZ e0 Ar2 (j := (oi kk)) hin2 rfl (Sto.of Ar2 H2.2 (Ins.of_exa Fp5 (wq hw 88 rfl))) (g := (mkF m 14 #[.val (.ref a1), .val (.ref a2), .val (.ref a3), .val (.int (oi kk))] [(.ref a2), (.int (oi kk)), (.ref a3)])) rfl rfl (dq hby D12 10 rfl)
  have Fp0_v2 := Fp0.wr W2
  have Fp1_v2 := Fp1.other W2 (Or.inl (Ne.symm n31))
  have Fp2_v2 := Fp2.other W2 (Or.inl (Ne.symm n31))
  have Fp3_v2 := Fp3.other W2 (Or.inl (Ne.symm n31))
  have Fp5_v2 := Fp5.wr W2
  have Z2 : Lq n0 h2.size := Nat.le_trans Z0 (Nat.le_of_eq W2.size.symm)
  have K2 := K0.wr W2 (Or.inl (by simp))
  have V2_v2 := ArR.set Ar2 S2 H2 W2 hin2
  have N2 := Fr.snoc X2 N0 gb
  have VC3_v3 : ArR Z h2 a3 10 (upV F kk (.ref a2)) := (V2_v2.congr (fun j hj => set_upV (oi_n (k := kk) (by omega)) j))
  obtain ⟨T4, h4, X4, e4, W4, st4⟩ := putF X2 hx hZ hown (host := "") (Or.inl (wq hw 65 rfl)) Via.refl e2 Fp3_v2 Fp0_v2 (Or.inl (wq hw 66 rfl)) (wq hw 1 rfl) (ty := .int) (by decide) rfl rfl (g := (mkF m 19 #[.val (.ref a1), .val (.ref a2), .val (.ref a3), .val (.int (oi kk))] [(.int (oi (kk + 1))), (.ref a1)])) rfl rfl (dq hby D12 15 rfl)
  have Fp0_v4 := Fp0_v2.wr W4
  have Fp1_v4 := Fp1_v2.other W4 (Or.inr (slot_ne (Or.inl (wq hw 22 rfl)) (Or.inl (wq hw 66 rfl)) (by decide) (t := .int) (t' := .int) (by decide) (by decide)))
  have Fp2_v4 := Fp2_v2.other W4 (Or.inr (slot_ne (Or.inl (wq hw 25 rfl)) (Or.inl (wq hw 66 rfl)) (by decide) (t := (.array (.object "java/lang/Object"))) (t' := .int) (by decide) (by decide)))
  have Fp5_v4 := Fp5_v2.wr W4
  have VC3_v4 := VC3_v3.other W4 n31
  have Z4 : Lq n0 h4.size := Nat.le_trans Z2 (Nat.le_of_eq W4.size.symm)
  have K4 := K2.wr W4 (Or.inl (by simp))
  have F4_v4 : Fld Z h4 a1 "java/util/ArrayList" "size" "I" (.int (oi (kk + 1))) := Fp3_v2.same W4
  have N4 := Fr.snoc X4 N2 ga
  refine hG ?_
  obtain ⟨fs, hr, hrun, hended, hW, hsame⟩ := X4.leave (v := none) (fun _ => rfl)
  refine ⟨_, _, pre0 _ ?_, hrun, hended, _, _, rfl, ?_, ⟨_, rfl⟩, hW, hsame.mono (by decide) (by decide)⟩
  · show Steps p.tables e below (s₁.setTop (mkF m 0 #[.val (.ref a1), .val (.ref a2), .val (.ref a3), .val (.int (oi kk))] [])) _
    refine XS.iloadN X0.here hx rfl (dq hby D12 0 rfl) rfl ?_
    refine XS.aloadN X0.here hx rfl (dq hby D12 1 rfl) rfl rfl ?_
    show Steps p.tables e below (s₁.setTop (mkF m 2 #[.val (.ref a1), .val (.ref a2), .val (.ref a3), .val (.int (oi kk))] [(.ref a3), (.int (oi kk))])) _
    refine X0.arraylength hx (by rw [e0]; exact Ar1.1) (State.isArrayOf_alike hZ.alike Ar1.2.1) (g := (mkF m 2 #[.val (.ref a1), .val (.ref a2), .val (.ref a3), .val (.int (oi kk))] [(.ref a3), (.int (oi kk))])) rfl rfl (dq hby D12 2 rfl) _ ?_
    rw [show cl1.slots.size.toInt32 = (10 : Int32) from (congrArg Nat.toInt32 S1).trans rfl]
    refine XS.icmpYes X0.here hx rfl (pc0 := 3) (pc' := 11) rfl (dq hby D12 3 rfl) rfl (feq ((by rcases hkk with rfl | rfl <;> decide) : ¬ ((oi kk) = (10 : Int32)))).2 (by decide) (by decide) ?_
    refine XS.aloadN X0.here hx rfl (dq hby D12 7 rfl) rfl rfl ?_
    refine XS.iloadN X0.here hx rfl (dq hby D12 8 rfl) rfl ?_
    refine XS.aloadN X0.here hx rfl (dq hby D12 9 rfl) rfl rfl ?_
    refine st2 _ ?_
    refine XS.aloadN X2.here hx rfl (dq hby D12 11 rfl) rfl rfl ?_
    refine XS.iloadN X2.here hx rfl (dq hby D12 12 rfl) rfl ?_
    refine XS.iconst X2.here hx rfl (dq hby D12 13 rfl) ?_
    refine XS.iadd X2.here hx rfl (dq hby D12 14 rfl) rfl ?_
    show Steps p.tables e below (T2.setTop (mkF m 19 #[.val (.ref a1), .val (.ref a2), .val (.ref a3), .val (.int (oi kk))] [(.int ((oi kk) + (1 : Int32))), (.ref a1)])) _
    rw [oi_s (kk)]
    refine st4 _ ?_
    exact X4.returnOut hx Bd.returns (dq hby D12 16 rfl) hr
  · show Q_rad3s Z a1 a2 a3 kk mc F h0 n0 _ T4.heap _
    rw [e4]
    exact ⟨rfl, N4, K4, Fp1_v4, Fp2_v4, F4_v4, VC3_v4⟩
theorem pn_rads : plainName "java/util/ArrayList" = true := by first | (simp [plainName, overriddenIn]; done) | decide +kernel
theorem ef_rads (m : MethodId) (x0 : Addr) (x1 : Addr) : entryFrame m #[(.ref x0), (.ref x1)] 2 = mkF m 0 #[.val (.ref x0), .val (.ref x1)] [] := by first | (simp [entryFrame, mkF, argsToLocals, Value.category]; done) | rfl
def Q_rads (Z : State) (a1 : Addr) (a2 : Addr) (el : Addr) (kk : Nat) (mc : Int32) (F : Nat → Value) (h0 : Heap) (n0 : Nat) (v : Option Value) (h : Heap) (L : List Loc) : Prop := v = some (.int 1) ∧ Fr n0 L ∧ Keep h0 h [a1, el] ∧ Fld Z h a1 "java/util/AbstractList" "modCount" "I" (.int (mc + (1 : Int32))) ∧ Fld Z h a1 "java/util/ArrayList" "elementData" "[Ljava/lang/Object;" (.ref el) ∧ Fld Z h a1 "java/util/ArrayList" "size" "I" (.int (oi (kk + 1))) ∧ ArR Z h el 10 (upV F kk (.ref a2))
set_option maxRecDepth 65536 in
set_option maxHeartbeats 40000000 in
theorem rads (l : Launch) (Z : State) (a0 : Array Value) (hw : ∀ d ∈ tables_1, d.before a0 Z = true) (ws : List Jvm.Cond) (a1 : Addr) (a2 : Addr) (el : Addr) (kk : Nat) (mc : Int32) (F : Nat → Value) (h0 : Heap) (n0 : Nat) (Z0 : n0 ≤ h0.size) (Fp0 : Exa Z h0 a1 "java/util/ArrayList") (Fp1 : Fld Z h0 a1 "java/util/AbstractList" "modCount" "I" (.int mc)) (Fp2 : Fld Z h0 a1 "java/util/ArrayList" "elementData" "[Ljava/lang/Object;" (.ref el)) (Fp3 : Fld Z h0 a1 "java/util/ArrayList" "size" "I" (.int (oi kk))) (Fp4 : ArR Z h0 el 10 F) (Fp5 : Exa Z h0 a2 "java/lang/String") (hkk : kk = 1 ∨ kk = 2) (ga : n0 ≤ a1) (gb : n0 ≤ el) (n31 : el ≠ a1) :
    MetFree l (⟨"java/util/ArrayList", "add", "(Ljava/lang/Object;)Z"⟩ : MethodName) (head1 (Jvm.Cond.code (⟨"java/util/ArrayList", "add", "(Ljava/lang/Object;)Z"⟩ : MethodName) jdk_38_method_25_code 2 (some .boolean) :: ws) ({ frames := 1, cells := 0, slots := 0, locals := 15 } : Room)) (fun a U => a = #[(.ref a1), (.ref a2)] ∧ Z.Warmed39 U.vm ∧ U.heap = h0) (fun _ _ _ _ _ => True) (fun _ U o U' => ∃ v L, o = .returned v ∧ Q_rads Z a1 a2 el kk mc F h0 n0 v U'.heap L ∧ FrameEnd U o U' L ({ frames := 1, cells := 0, slots := 0, locals := 15 } : Room).cells ({ frames := 1, cells := 0, slots := 0, locals := 15 } : Room).slots) := by
  refine MetFree.of_bodySF (plainFor_of_name pn_rads) hisR ?_
  intro p e s m args below meth c s₁ Bd hml0 hP hK
  obtain ⟨rfl, hZ, hh⟩ := hP
  have hx := Bd.exec
  have hby := Bd.bytes
  have hml : c.maxLocals = 2 := hml0
  have hown : s.vm.findClass "java/util/ArrayList" = some m.cls := findClass_of_methodNamed Bd.named
  have hnm := (name_of_methodNamed Bd.named Bd.method).1
  have X0 : Stand p l e ({ frames := 1, cells := 0, slots := 0, locals := 15 } : Room) s m #[(.ref a1), (.ref a2)] below meth c s₁ [] 0 0 := Stand.of_body Bd
  have e0 : s₁.heap = h0 := by rw [← hh, Bd.state]; rfl
  have N0 := Fr.nil n0
  have pre0 : ∀ t, Steps p.tables e below (s₁.setTop (mkF m 0 #[.val (.ref a1), .val (.ref a2)] [])) t → Steps p.tables e below (s₁.setTop (entryFrame m #[(.ref a1), (.ref a2)] 2)) t := fun t k => castTop (ef_rads m a1 a2) k
  have K0 := Keep.refl h0 [a1, el]
  refine own_cps fun G hG => ?_
  obtain ⟨T1, X1, e1, st1⟩ := getF X0 hx hZ hown (host := "") (Or.inl (wq hw 63 rfl)) (Via.of (wq hw 64 rfl)) e0 Fp1 (g := (mkF m 2 #[.val (.ref a1), .val (.ref a2)] [(.ref a1), (.ref a1)])) rfl rfl (dq hby D11 2 rfl)
  obtain ⟨T2, h2, X2, e2, W2, st2⟩ := putF X1 hx hZ hown (host := "") (Or.inl (wq hw 63 rfl)) (Via.of (wq hw 64 rfl)) e1 Fp1 Fp0 (Or.inl (wq hw 22 rfl)) (wq hw 1 rfl) (ty := .int) (by decide) rfl rfl (g := (mkF m 7 #[.val (.ref a1), .val (.ref a2)] [(.int (mc + (1 : Int32))), (.ref a1)])) rfl rfl (dq hby D11 5 rfl)
  have Fp0_v2 := Fp0.wr W2
  have Fp2_v2 := Fp2.other W2 (Or.inr (slot_ne (Or.inl (wq hw 25 rfl)) (Or.inl (wq hw 22 rfl)) (by decide) (t := (.array (.object "java/lang/Object"))) (t' := .int) (by decide) (by decide)))
  have Fp3_v2 := Fp3.other W2 (Or.inr (slot_ne (Or.inl (wq hw 66 rfl)) (Or.inl (wq hw 22 rfl)) (by decide) (t := .int) (t' := .int) (by decide) (by decide)))
  have Fp4_v2 := Fp4.other W2 n31
  have Fp5_v2 := Fp5.wr W2
  have Z2 : Lq n0 h2.size := Nat.le_trans Z0 (Nat.le_of_eq W2.size.symm)
  have K2 := K0.wr W2 (Or.inl (by simp))
  have F2_v2 : Fld Z h2 a1 "java/util/AbstractList" "modCount" "I" (.int (mc + (1 : Int32))) := Fp1.same W2
  have N2 := Fr.snoc X2 N0 ga
  obtain ⟨T3, X3, e3, st3⟩ := getF X2 hx hZ hown (host := "") (Or.inl (wq hw 24 rfl)) Via.refl e2 Fp2_v2 (g := (mkF m 13 #[.val (.ref a1), .val (.ref a2)] [(.ref a1), (.ref a2), (.ref a1)])) rfl rfl (dq hby D11 9 rfl)
  obtain ⟨T4, X4, e4, st4⟩ := getF X3 hx hZ hown (host := "") (Or.inl (wq hw 65 rfl)) Via.refl e3 Fp3_v2 (g := (mkF m 17 #[.val (.ref a1), .val (.ref a2)] [(.ref a1), (.ref el), (.ref a2), (.ref a1)])) rfl rfl (dq hby D11 11 rfl)
  obtain ⟨cq5, qq5, qq5'⟩ := Fp0_v2.cell
  obtain ⟨_, _, ⟨T5, L5, k5, n5⟩, -, X5, ⟨Lc5, hQ5, l5, y5, z5⟩, st5⟩ := X4.privateBack hx (y := (⟨"java/util/ArrayList", "add", "(Ljava/lang/Object;[Ljava/lang/Object;I)V"⟩ : MethodName)) hown (mvT hZ (wq hw 67 rfl)) (mvT hZ (wq hw 68 rfl)) (mvT hZ (wq hw 70 rfl)) (Cond.privateMethod_at (mvP hZ (wq hw 69 rfl) (args := #[]))) (mvT hZ (wq hw 71 rfl)) (by decide) (backOf (W := 0) (rad3s l Z a0 hw [] a1 a2 el kk ((mc + (1 : Int32))) F h2 n0 Z2 Fp0_v2 F2_v2 Fp2_v2 Fp3_v2 Fp4_v2 Fp5_v2 hkk ga gb n31) hZ (wq hw 71 rfl) (wq hw 2 rfl) (by decide) (by decide)) (g := (mkF m 20 #[.val (.ref a1), .val (.ref a2)] [(.int (oi kk)), (.ref el), (.ref a2), (.ref a1)])) rfl (by rw [hml]; rfl) (Steps.refl _) (a := a1) (by rw [e4]; exact qq5) qq5' (argsL := [(.ref a2), (.ref el), (.int (oi kk))]) (rest := []) (lenOf pd_27 rfl) rfl (by show 2 * 0 + _ ≤ _; exact Nat.le_of_eq rfl) (dq hby D11 12 rfl) (fun _ _ => ⟨rfl, e4, (by decide : 0 + 0 ≤ _), (by decide : 0 + 0 ≤ _)⟩)
  dsimp only [Pt.U, Pt.locs, Pt.cells, Pt.slots] at X5 l5 y5 z5 st5 hQ5
  subst l5 y5 z5
  obtain ⟨rfl, N5q, Kc5, nf5_0_v5, nf5_1_v5, nf5_2_v5, nf5_3_v5⟩ := hQ5
  have N5 := Fr.app N2 N5q
  have Fp0_v5 := Fp0_v2.keep Kc5
  have Fp5_v5 := Fp5_v2.keep Kc5
  have Z5 : Lq n0 T5.heap.size := Nat.le_trans Z2 Kc5.1
  have KK5 := K2.trans Kc5 (allS (Or.inl (by simp)) (allS (Or.inl (by simp)) all0))
  refine hG ?_
  obtain ⟨fs, hr, hrun, hended, hW, hsame⟩ := X5.leave (v := some (.int (1 : Int32))) (fun h => by rw [Bd.returns] at h; cases h)
  refine ⟨_, _, pre0 _ ?_, hrun, hended, _, _, rfl, ?_, ⟨_, rfl⟩, hW, hsame.mono (by decide) (by decide)⟩
  · show Steps p.tables e below (s₁.setTop (mkF m 0 #[.val (.ref a1), .val (.ref a2)] [])) _
    refine XS.aloadN X0.here hx rfl (dq hby D11 0 rfl) rfl rfl ?_
    refine XS.dup X0.here hx rfl (dq hby D11 1 rfl) rfl rfl ?_
    refine st1 _ ?_
    refine XS.iconst X1.here hx rfl (dq hby D11 3 rfl) ?_
    refine XS.iadd X1.here hx rfl (dq hby D11 4 rfl) rfl ?_
    refine st2 _ ?_
    refine XS.aloadN X2.here hx rfl (dq hby D11 6 rfl) rfl rfl ?_
    refine XS.aloadN X2.here hx rfl (dq hby D11 7 rfl) rfl rfl ?_
    refine XS.aloadN X2.here hx rfl (dq hby D11 8 rfl) rfl rfl ?_
    refine st3 _ ?_
    refine XS.aloadN X3.here hx rfl (dq hby D11 10 rfl) rfl rfl ?_
    refine st4 _ ?_
    refine st5.trans ?_
    refine XS.iconst X5.here hx rfl (dq hby D11 13 rfl) ?_
    exact retN X5 hx (t := .boolean) Bd.returns (by simp) (dq hby D11 14 rfl) hr
  · show Q_rads Z a1 a2 el kk mc F h0 n0 _ T5.heap _
    exact ⟨rfl, N5, KK5, nf5_0_v5, nf5_1_v5, nf5_2_v5, nf5_3_v5⟩
theorem D17 : ∀ x ∈ ([(0, .aload_n 0, 1), (1, .getfield 48, 3), (4, .ireturn, 1)] : List (Nat × Instr × Nat)), decode jdk_38_method_8_code x.1 = .ok x.2 := by decide +kernel
theorem pn_rsize : plainName "java/util/ArrayList" = true := by first | (simp [plainName, overriddenIn]; done) | decide +kernel
theorem ef_rsize (m : MethodId) (x0 : Addr) : entryFrame m #[(.ref x0)] 1 = mkF m 0 #[.val (.ref x0)] [] := by first | (simp [entryFrame, mkF, argsToLocals, Value.category]; done) | rfl
def Q_rsize (Z : State) (a1 : Addr) (kk : Nat) (h0 : Heap) (n0 : Nat) (v : Option Value) (h : Heap) (L : List Loc) : Prop := v = some (.int (oi kk)) ∧ Fr n0 L ∧ h = h0
set_option maxRecDepth 65536 in
set_option maxHeartbeats 40000000 in
theorem rsize (l : Launch) (Z : State) (a0 : Array Value) (hw : ∀ d ∈ tables_1, d.before a0 Z = true) (ws : List Jvm.Cond) (a1 : Addr) (kk : Nat) (h0 : Heap) (n0 : Nat) (Z0 : n0 ≤ h0.size) (Fp0 : Fld Z h0 a1 "java/util/ArrayList" "size" "I" (.int (oi kk))) :
    MetFree l (⟨"java/util/ArrayList", "size", "()I"⟩ : MethodName) (head1 (Jvm.Cond.code (⟨"java/util/ArrayList", "size", "()I"⟩ : MethodName) jdk_38_method_8_code 1 (some .int) :: ws) ({ frames := 0, cells := 0, slots := 0, locals := 0 } : Room)) (fun a U => a = #[(.ref a1)] ∧ Z.Warmed39 U.vm ∧ U.heap = h0) (fun _ _ _ _ _ => True) (fun _ U o U' => ∃ v L, o = .returned v ∧ Q_rsize Z a1 kk h0 n0 v U'.heap L ∧ FrameEnd U o U' L ({ frames := 0, cells := 0, slots := 0, locals := 0 } : Room).cells ({ frames := 0, cells := 0, slots := 0, locals := 0 } : Room).slots) := by
  refine MetFree.of_bodySF (plainFor_of_name pn_rsize) hisR ?_
  intro p e s m args below meth c s₁ Bd hml0 hP hK
  obtain ⟨rfl, hZ, hh⟩ := hP
  have hx := Bd.exec
  have hby := Bd.bytes
  have hml : c.maxLocals = 1 := hml0
  have hown : s.vm.findClass "java/util/ArrayList" = some m.cls := findClass_of_methodNamed Bd.named
  have hnm := (name_of_methodNamed Bd.named Bd.method).1
  have X0 : Stand p l e ({ frames := 0, cells := 0, slots := 0, locals := 0 } : Room) s m #[(.ref a1)] below meth c s₁ [] 0 0 := Stand.of_body Bd
  have e0 : s₁.heap = h0 := by rw [← hh, Bd.state]; rfl
  have N0 := Fr.nil n0
  have pre0 : ∀ t, Steps p.tables e below (s₁.setTop (mkF m 0 #[.val (.ref a1)] [])) t → Steps p.tables e below (s₁.setTop (entryFrame m #[(.ref a1)] 1)) t := fun t k => castTop (ef_rsize m a1) k
  refine own_cps fun G hG => ?_
  obtain ⟨T1, X1, e1, st1⟩ := getF X0 hx hZ hown (host := "") (Or.inl (wq hw 65 rfl)) Via.refl e0 Fp0 (g := (mkF m 1 #[.val (.ref a1)] [(.ref a1)])) rfl rfl (dq hby D17 1 rfl)
  refine hG ?_
  obtain ⟨fs, hr, hrun, hended, hW, hsame⟩ := X1.leave (v := some (.int (oi kk))) (fun h => by rw [Bd.returns] at h; cases h)
  refine ⟨_, _, pre0 _ ?_, hrun, hended, _, _, rfl, ?_, ⟨_, rfl⟩, hW, hsame.mono (by decide) (by decide)⟩
  · show Steps p.tables e below (s₁.setTop (mkF m 0 #[.val (.ref a1)] [])) _
    refine XS.aloadN X0.here hx rfl (dq hby D17 0 rfl) rfl rfl ?_
    refine st1 _ ?_
    exact retI X1 hx Bd.returns (dq hby D17 2 rfl) hr
  · show Q_rsize Z a1 kk h0 n0 _ T1.heap _
    rw [e1]
    exact ⟨rfl, N0, rfl⟩
theorem D20 : ∀ x ∈ ([(0, .iload_n 0, 1), (1, .ifCond .lt 8, 3), (4, .iload_n 0, 1), (5, .iload_n 1, 1), (6, .if_icmp .lt 10, 3), (16, .iload_n 0, 1), (17, .ireturn, 1)] : List (Nat × Instr × Nat)), decode jdk_41_method_11_code x.1 = .ok x.2 := by decide +kernel
theorem pn_rcki : plainName "jdk/internal/util/Preconditions" = true := by first | (simp [plainName, overriddenIn]; done) | decide +kernel
theorem ef_rcki (m : MethodId) (x0 : Int32) (x1 : Int32) : entryFrame m #[(.int x0), (.int x1), .null] 3 = mkF m 0 #[.val (.int x0), .val (.int x1), .val .null] [] := by first | (simp [entryFrame, mkF, argsToLocals, Value.category]; done) | rfl
def Q_rcki (Z : State)  (u N : Nat) (h0 : Heap) (n0 : Nat) (v : Option Value) (h : Heap) (L : List Loc) : Prop := v = some (.int (oi u)) ∧ Fr n0 L ∧ h = h0
set_option maxRecDepth 65536 in
set_option maxHeartbeats 40000000 in
theorem rcki (l : Launch) (Z : State) (a0 : Array Value) (hw : ∀ d ∈ tables_1, d.before a0 Z = true) (ws : List Jvm.Cond)  (u N : Nat) (h0 : Heap) (n0 : Nat) (Z0 : n0 ≤ h0.size) (hu : u < N) (hN : N < 1000) :
    MetFree l (⟨"jdk/internal/util/Preconditions", "checkIndex", "(IILjava/util/function/BiFunction;)I"⟩ : MethodName) (head1 (Jvm.Cond.code (⟨"jdk/internal/util/Preconditions", "checkIndex", "(IILjava/util/function/BiFunction;)I"⟩ : MethodName) jdk_41_method_11_code 3 (some .int) :: ws) ({ frames := 0, cells := 0, slots := 0, locals := 0 } : Room)) (fun a U => a = #[(.int (oi u)), (.int (oi N)), .null] ∧ Z.Warmed39 U.vm ∧ U.heap = h0) (fun _ _ _ _ _ => True) (fun _ U o U' => ∃ v L, o = .returned v ∧ Q_rcki Z  u N h0 n0 v U'.heap L ∧ FrameEnd U o U' L ({ frames := 0, cells := 0, slots := 0, locals := 0 } : Room).cells ({ frames := 0, cells := 0, slots := 0, locals := 0 } : Room).slots) := by
  refine MetFree.of_bodySF (plainFor_of_name pn_rcki) hisR ?_
  intro p e s m args below meth c s₁ Bd hml0 hP hK
  obtain ⟨rfl, hZ, hh⟩ := hP
  have hx := Bd.exec
  have hby := Bd.bytes
  have hml : c.maxLocals = 3 := hml0
  have hown : s.vm.findClass "jdk/internal/util/Preconditions" = some m.cls := findClass_of_methodNamed Bd.named
  have hnm := (name_of_methodNamed Bd.named Bd.method).1
  have X0 : Stand p l e ({ frames := 0, cells := 0, slots := 0, locals := 0 } : Room) s m #[(.int (oi u)), (.int (oi N)), .null] below meth c s₁ [] 0 0 := Stand.of_body Bd
  have e0 : s₁.heap = h0 := by rw [← hh, Bd.state]; rfl
  have N0 := Fr.nil n0
  have pre0 : ∀ t, Steps p.tables e below (s₁.setTop (mkF m 0 #[.val (.int (oi u)), .val (.int (oi N)), .val .null] [])) t → Steps p.tables e below (s₁.setTop (entryFrame m #[(.int (oi u)), (.int (oi N)), .null] 3)) t := fun t k => castTop (ef_rcki m (oi u) (oi N)) k
  refine own_cps fun G hG => ?_
  refine hG ?_
  obtain ⟨fs, hr, hrun, hended, hW, hsame⟩ := X0.leave (v := some (.int (oi u))) (fun h => by rw [Bd.returns] at h; cases h)
  refine ⟨_, _, pre0 _ ?_, hrun, hended, _, _, rfl, ?_, ⟨_, rfl⟩, hW, hsame.mono (by decide) (by decide)⟩
  · show Steps p.tables e below (s₁.setTop (mkF m 0 #[.val (.int (oi u)), .val (.int (oi N)), .val .null] [])) _
    refine XS.iloadN X0.here hx rfl (dq hby D20 0 rfl) rfl ?_
    refine XS.ifNo X0.here hx rfl (dq hby D20 1 rfl) rfl ((if0 _ _).trans (flt ((oi_nn (by omega)) : ¬ ((oi u) < (0 : Int32)))).1) ?_
    refine XS.iloadN X0.here hx rfl (dq hby D20 2 rfl) rfl ?_
    show Steps p.tables e below (s₁.setTop (mkF m 5 #[.val (.int (oi u)), .val (.int (oi N)), .val .null] [(.int (oi u))])) _
    refine XS.iloadN X0.here hx rfl (dq hby D20 3 rfl) rfl ?_
    refine XS.icmpYes X0.here hx rfl (pc0 := 6) (pc' := 16) rfl (dq hby D20 4 rfl) rfl (tlt ((by rw [oi_lt (by omega) (by omega)]; omega) : ((oi u) < (oi N)))).1 (by decide) (by decide) ?_
    refine XS.iloadN X0.here hx rfl (dq hby D20 5 rfl) rfl ?_
    exact retI X0 hx Bd.returns (dq hby D20 6 rfl) hr
  · show Q_rcki Z  u N h0 n0 _ s₁.heap _
    rw [e0]
    exact ⟨rfl, N0, rfl⟩
theorem D19 : ∀ x ∈ ([(0, .iload_n 0, 1), (1, .iload_n 1, 1), (2, .aconst_null, 1), (3, .invokestatic 105, 3), (6, .ireturn, 1)] : List (Nat × Instr × Nat)), decode jdk_31_method_17_code x.1 = .ok x.2 := by decide +kernel
theorem pn_rckj : plainName "java/util/Objects" = true := by first | (simp [plainName, overriddenIn]; done) | decide +kernel
theorem ef_rckj (m : MethodId) (x0 : Int32) (x1 : Int32) : entryFrame m #[(.int x0), (.int x1)] 2 = mkF m 0 #[.val (.int x0), .val (.int x1)] [] := by first | (simp [entryFrame, mkF, argsToLocals, Value.category]; done) | rfl
def Q_rckj (Z : State)  (u N : Nat) (h0 : Heap) (n0 : Nat) (v : Option Value) (h : Heap) (L : List Loc) : Prop := v = some (.int (oi u)) ∧ Fr n0 L ∧ h = h0
set_option maxRecDepth 65536 in
set_option maxHeartbeats 40000000 in
theorem rckj (l : Launch) (Z : State) (a0 : Array Value) (hw : ∀ d ∈ tables_1, d.before a0 Z = true) (ws : List Jvm.Cond)  (u N : Nat) (h0 : Heap) (n0 : Nat) (Z0 : n0 ≤ h0.size) (hu : u < N) (hN : N < 1000) :
    MetFree l (⟨"java/util/Objects", "checkIndex", "(II)I"⟩ : MethodName) (head1 (Jvm.Cond.code (⟨"java/util/Objects", "checkIndex", "(II)I"⟩ : MethodName) jdk_31_method_17_code 2 (some .int) :: ws) ({ frames := 1, cells := 0, slots := 0, locals := 14 } : Room)) (fun a U => a = #[(.int (oi u)), (.int (oi N))] ∧ Z.Warmed39 U.vm ∧ U.heap = h0) (fun _ _ _ _ _ => True) (fun _ U o U' => ∃ v L, o = .returned v ∧ Q_rckj Z  u N h0 n0 v U'.heap L ∧ FrameEnd U o U' L ({ frames := 1, cells := 0, slots := 0, locals := 14 } : Room).cells ({ frames := 1, cells := 0, slots := 0, locals := 14 } : Room).slots) := by
  refine MetFree.of_bodySF (plainFor_of_name pn_rckj) hisR ?_
  intro p e s m args below meth c s₁ Bd hml0 hP hK
  obtain ⟨rfl, hZ, hh⟩ := hP
  have hx := Bd.exec
  have hby := Bd.bytes
  have hml : c.maxLocals = 2 := hml0
  have hown : s.vm.findClass "java/util/Objects" = some m.cls := findClass_of_methodNamed Bd.named
  have hnm := (name_of_methodNamed Bd.named Bd.method).1
  have X0 : Stand p l e ({ frames := 1, cells := 0, slots := 0, locals := 14 } : Room) s m #[(.int (oi u)), (.int (oi N))] below meth c s₁ [] 0 0 := Stand.of_body Bd
  have e0 : s₁.heap = h0 := by rw [← hh, Bd.state]; rfl
  have N0 := Fr.nil n0
  have pre0 : ∀ t, Steps p.tables e below (s₁.setTop (mkF m 0 #[.val (.int (oi u)), .val (.int (oi N))] [])) t → Steps p.tables e below (s₁.setTop (entryFrame m #[(.int (oi u)), (.int (oi N))] 2)) t := fun t k => castTop (ef_rckj m (oi u) (oi N)) k
  refine own_cps fun G hG => ?_
  obtain ⟨_, _, ⟨T1, L1, k1, n1⟩, -, X1, ⟨Lc1, hQ1, l1, y1, z1⟩, st1⟩ := Jvm.LawKit.callS X0 hx (y := (⟨"jdk/internal/util/Preconditions", "checkIndex", "(IILjava/util/function/BiFunction;)I"⟩ : MethodName)) hown (mvT hZ (wq hw 120 rfl)) (mvT hZ (wq hw 121 rfl)) (mvT hZ (wq hw 122 rfl)) (mvT hZ (wq hw 123 rfl)) (by decide) (backOf (W := 0) (rcki l Z a0 hw [] u N h0 n0 Z0 hu hN) hZ (wq hw 123 rfl) (wq hw 122 rfl) (by decide) (by decide)) (g := (mkF m 3 #[.val (.int (oi u)), .val (.int (oi N))] [.null, (.int (oi N)), (.int (oi u))])) rfl (by rw [hml]; rfl) (argsL := [(.int (oi u)), (.int (oi N)), .null]) (rest := []) (lenOf pd_28 rfl) rfl (by show 2 * 0 + _ ≤ _; exact Nat.le_of_eq rfl) (dq hby D19 3 rfl) (fun _ _ => ⟨rfl, e0, (by decide : 0 + 0 ≤ _), (by decide : 0 + 0 ≤ _)⟩)
  dsimp only [Pt.U, Pt.locs, Pt.cells, Pt.slots] at X1 l1 y1 z1 st1 hQ1
  subst l1 y1 z1
  obtain ⟨rfl, N1q, e1⟩ := hQ1
  have N1 := Fr.app N0 N1q
  refine hG ?_
  obtain ⟨fs, hr, hrun, hended, hW, hsame⟩ := X1.leave (v := some (.int (oi u))) (fun h => by rw [Bd.returns] at h; cases h)
  refine ⟨_, _, pre0 _ ?_, hrun, hended, _, _, rfl, ?_, ⟨_, rfl⟩, hW, hsame.mono (by decide) (by decide)⟩
  · show Steps p.tables e below (s₁.setTop (mkF m 0 #[.val (.int (oi u)), .val (.int (oi N))] [])) _
    refine XS.iloadN X0.here hx rfl (dq hby D19 0 rfl) rfl ?_
    refine XS.iloadN X0.here hx rfl (dq hby D19 1 rfl) rfl ?_
    refine XS.aconstNull X0.here hx rfl (dq hby D19 2 rfl) ?_
    refine st1 _ ?_
    exact retI X1 hx Bd.returns (dq hby D19 4 rfl) hr
  · show Q_rckj Z  u N h0 n0 _ T1.heap _
    rw [e1]
    exact ⟨rfl, N1, rfl⟩
theorem D21 : ∀ x ∈ ([(0, .aload_n 0, 1), (1, .getfield 9, 3), (4, .iload_n 1, 1), (5, .aaload, 1), (6, .areturn, 1)] : List (Nat × Instr × Nat)), decode jdk_38_method_18_code x.1 = .ok x.2 := by decide +kernel
theorem pn_reld : plainName "java/util/ArrayList" = true := by first | (simp [plainName, overriddenIn]; done) | decide +kernel
theorem ef_reld (m : MethodId) (x0 : Addr) (x1 : Int32) : entryFrame m #[(.ref x0), (.int x1)] 2 = mkF m 0 #[.val (.ref x0), .val (.int x1)] [] := by first | (simp [entryFrame, mkF, argsToLocals, Value.category]; done) | rfl
def Q_reld (Z : State) (a1 : Addr) (el ys : Addr) (i : Nat) (F : Nat → Value) (h0 : Heap) (n0 : Nat) (v : Option Value) (h : Heap) (L : List Loc) : Prop := v = some (.ref ys) ∧ Fr n0 L ∧ h = h0
set_option maxRecDepth 65536 in
set_option maxHeartbeats 40000000 in
theorem reld (l : Launch) (Z : State) (a0 : Array Value) (hw : ∀ d ∈ tables_1, d.before a0 Z = true) (ws : List Jvm.Cond) (a1 : Addr) (el ys : Addr) (i : Nat) (F : Nat → Value) (h0 : Heap) (n0 : Nat) (Z0 : n0 ≤ h0.size) (Fp0 : Fld Z h0 a1 "java/util/ArrayList" "elementData" "[Ljava/lang/Object;" (.ref el)) (Fp1 : ArR Z h0 el 10 F) (hi : i < 10) (hy : F i = .ref ys) :
    MetFree l (⟨"java/util/ArrayList", "elementData", "(I)Ljava/lang/Object;"⟩ : MethodName) (head1 (Jvm.Cond.code (⟨"java/util/ArrayList", "elementData", "(I)Ljava/lang/Object;"⟩ : MethodName) jdk_38_method_18_code 2 (some (.object "java/lang/Object")) :: ws) ({ frames := 0, cells := 0, slots := 0, locals := 0 } : Room)) (fun a U => a = #[(.ref a1), (.int (oi i))] ∧ Z.Warmed39 U.vm ∧ U.heap = h0) (fun _ _ _ _ _ => True) (fun _ U o U' => ∃ v L, o = .returned v ∧ Q_reld Z a1 el ys i F h0 n0 v U'.heap L ∧ FrameEnd U o U' L ({ frames := 0, cells := 0, slots := 0, locals := 0 } : Room).cells ({ frames := 0, cells := 0, slots := 0, locals := 0 } : Room).slots) := by
  refine MetFree.of_bodySF (plainFor_of_name pn_reld) hisR ?_
  intro p e s m args below meth c s₁ Bd hml0 hP hK
  obtain ⟨rfl, hZ, hh⟩ := hP
  have hx := Bd.exec
  have hby := Bd.bytes
  have hml : c.maxLocals = 2 := hml0
  have hown : s.vm.findClass "java/util/ArrayList" = some m.cls := findClass_of_methodNamed Bd.named
  have hnm := (name_of_methodNamed Bd.named Bd.method).1
  have X0 : Stand p l e ({ frames := 0, cells := 0, slots := 0, locals := 0 } : Room) s m #[(.ref a1), (.int (oi i))] below meth c s₁ [] 0 0 := Stand.of_body Bd
  have e0 : s₁.heap = h0 := by rw [← hh, Bd.state]; rfl
  have N0 := Fr.nil n0
  have pre0 : ∀ t, Steps p.tables e below (s₁.setTop (mkF m 0 #[.val (.ref a1), .val (.int (oi i))] [])) t → Steps p.tables e below (s₁.setTop (entryFrame m #[(.ref a1), (.int (oi i))] 2)) t := fun t k => castTop (ef_reld m a1 (oi i)) k
  refine own_cps fun G hG => ?_
  obtain ⟨T1, X1, e1, st1⟩ := getF X0 hx hZ hown (host := "") (Or.inl (wq hw 24 rfl)) Via.refl e0 Fp0 (g := (mkF m 1 #[.val (.ref a1), .val (.int (oi i))] [(.ref a1)])) rfl rfl (dq hby D21 1 rfl)
  obtain ⟨cl2, Ar2, S2, H2⟩ := id Fp1
  replace S2 : Sq cl2.slots.size _ := S2
  have hin2 : Hq (oi i) cl2.slots.size := oi_at S2 (by omega) (by omega)
  have hat2 : cl2.slots[((oi i)).toNatClampNeg]? = some (.ref ys) := ArF.at S2 H2.1 hin2 ((congrArg F (oi_n (by omega))).trans hy)
  refine hG ?_
  obtain ⟨fs, hr, hrun, hended, hW, hsame⟩ := X1.leave (v := some (.ref ys)) (fun h => by rw [Bd.returns] at h; cases h)
  refine ⟨_, _, pre0 _ ?_, hrun, hended, _, _, rfl, ?_, ⟨_, rfl⟩, hW, hsame.mono (by decide) (by decide)⟩
  · show Steps p.tables e below (s₁.setTop (mkF m 0 #[.val (.ref a1), .val (.int (oi i))] [])) _
    refine XS.aloadN X0.here hx rfl (dq hby D21 0 rfl) rfl rfl ?_
    refine st1 _ ?_
    refine XS.iloadN X1.here hx rfl (dq hby D21 2 rfl) rfl ?_
    refine X1.aaload hx (j := (oi i)) (v := (.ref ys)) (by rw [e1]; exact Ar2.1) (State.isArrayOf_alike hZ.alike Ar2.2.1) rfl Ar2.2.2 hin2 hat2 (g := (mkF m 5 #[.val (.ref a1), .val (.int (oi i))] [(.int (oi i)), (.ref el)])) rfl rfl (dq hby D21 3 rfl) _ ?_
    jvm_step X1.here [X1.here.top, hx, (dq hby D21 4 rfl), X1.method', Bd.returns, Value.isRef, FieldType.isReference]
    first | (intro acts; rw [hr _ acts rfl rfl rfl]) | rw [hr _ _ rfl rfl rfl]
    exact Steps.refl _
  · show Q_reld Z a1 el ys i F h0 n0 _ T1.heap _
    rw [e1]
    exact ⟨rfl, N0, rfl⟩
theorem D18 : ∀ x ∈ ([(0, .iload_n 1, 1), (1, .aload_n 0, 1), (2, .getfield 48, 3), (5, .invokestatic 118, 3), (8, .pop, 1), (9, .aload_n 0, 1), (10, .iload_n 1, 1), (11, .invokevirtual 123, 3), (14, .areturn, 1)] : List (Nat × Instr × Nat)), decode jdk_38_method_20_code x.1 = .ok x.2 := by decide +kernel
theorem pn_rget : plainName "java/util/ArrayList" = true := by first | (simp [plainName, overriddenIn]; done) | decide +kernel
theorem ef_rget (m : MethodId) (x0 : Addr) (x1 : Int32) : entryFrame m #[(.ref x0), (.int x1)] 2 = mkF m 0 #[.val (.ref x0), .val (.int x1)] [] := by first | (simp [entryFrame, mkF, argsToLocals, Value.category]; done) | rfl
def Q_rget (Z : State) (a1 : Addr) (el ys : Addr) (i kk : Nat) (F : Nat → Value) (h0 : Heap) (n0 : Nat) (v : Option Value) (h : Heap) (L : List Loc) : Prop := v = some (.ref ys) ∧ Fr n0 L ∧ h = h0
set_option maxRecDepth 65536 in
set_option maxHeartbeats 40000000 in
theorem rget (l : Launch) (Z : State) (a0 : Array Value) (hw : ∀ d ∈ tables_1, d.before a0 Z = true) (ws : List Jvm.Cond) (a1 : Addr) (el ys : Addr) (i kk : Nat) (F : Nat → Value) (h0 : Heap) (n0 : Nat) (Z0 : n0 ≤ h0.size) (Fp0 : Exa Z h0 a1 "java/util/ArrayList") (Fp1 : Fld Z h0 a1 "java/util/ArrayList" "elementData" "[Ljava/lang/Object;" (.ref el)) (Fp2 : Fld Z h0 a1 "java/util/ArrayList" "size" "I" (.int (oi kk))) (Fp3 : ArR Z h0 el 10 F) (hi : i < kk) (hkk : kk ≤ 10) (hy : F i = .ref ys) :
    MetFree l (⟨"java/util/ArrayList", "get", "(I)Ljava/lang/Object;"⟩ : MethodName) (head1 (Jvm.Cond.code (⟨"java/util/ArrayList", "get", "(I)Ljava/lang/Object;"⟩ : MethodName) jdk_38_method_20_code 2 (some (.object "java/lang/Object")) :: ws) ({ frames := 2, cells := 0, slots := 0, locals := 27 } : Room)) (fun a U => a = #[(.ref a1), (.int (oi i))] ∧ Z.Warmed39 U.vm ∧ U.heap = h0) (fun _ _ _ _ _ => True) (fun _ U o U' => ∃ v L, o = .returned v ∧ Q_rget Z a1 el ys i kk F h0 n0 v U'.heap L ∧ FrameEnd U o U' L ({ frames := 2, cells := 0, slots := 0, locals := 27 } : Room).cells ({ frames := 2, cells := 0, slots := 0, locals := 27 } : Room).slots) := by
  refine MetFree.of_bodySF (plainFor_of_name pn_rget) hisR ?_
  intro p e s m args below meth c s₁ Bd hml0 hP hK
  obtain ⟨rfl, hZ, hh⟩ := hP
  have hx := Bd.exec
  have hby := Bd.bytes
  have hml : c.maxLocals = 2 := hml0
  have hown : s.vm.findClass "java/util/ArrayList" = some m.cls := findClass_of_methodNamed Bd.named
  have hnm := (name_of_methodNamed Bd.named Bd.method).1
  have X0 : Stand p l e ({ frames := 2, cells := 0, slots := 0, locals := 27 } : Room) s m #[(.ref a1), (.int (oi i))] below meth c s₁ [] 0 0 := Stand.of_body Bd
  have e0 : s₁.heap = h0 := by rw [← hh, Bd.state]; rfl
  have N0 := Fr.nil n0
  have pre0 : ∀ t, Steps p.tables e below (s₁.setTop (mkF m 0 #[.val (.ref a1), .val (.int (oi i))] [])) t → Steps p.tables e below (s₁.setTop (entryFrame m #[(.ref a1), (.int (oi i))] 2)) t := fun t k => castTop (ef_rget m a1 (oi i)) k
  refine own_cps fun G hG => ?_
  obtain ⟨T1, X1, e1, st1⟩ := getF X0 hx hZ hown (host := "") (Or.inl (wq hw 65 rfl)) Via.refl e0 Fp2 (g := (mkF m 2 #[.val (.ref a1), .val (.int (oi i))] [(.ref a1), (.int (oi i))])) rfl rfl (dq hby D18 2 rfl)
  obtain ⟨_, _, ⟨T2, L2, k2, n2⟩, -, X2, ⟨Lc2, hQ2, l2, y2, z2⟩, st2⟩ := Jvm.LawKit.callS X1 hx (y := (⟨"java/util/Objects", "checkIndex", "(II)I"⟩ : MethodName)) hown (mvT hZ (wq hw 116 rfl)) (mvT hZ (wq hw 117 rfl)) (mvT hZ (wq hw 118 rfl)) (mvT hZ (wq hw 119 rfl)) (by decide) (backOf (W := 0) (rckj l Z a0 hw [] i kk h0 n0 Z0 hi (by omega)) hZ (wq hw 119 rfl) (wq hw 118 rfl) (by decide) (by decide)) (g := (mkF m 5 #[.val (.ref a1), .val (.int (oi i))] [(.int (oi kk)), (.int (oi i))])) rfl (by rw [hml]; rfl) (argsL := [(.int (oi i)), (.int (oi kk))]) (rest := []) (lenOf pd_2 rfl) rfl (by show 2 * 0 + _ ≤ _; exact Nat.le_of_eq rfl) (dq hby D18 3 rfl) (fun _ _ => ⟨rfl, e1, (by decide : 0 + 0 ≤ _), (by decide : 0 + 0 ≤ _)⟩)
  dsimp only [Pt.U, Pt.locs, Pt.cells, Pt.slots] at X2 l2 y2 z2 st2 hQ2
  subst l2 y2 z2
  obtain ⟨rfl, N2q, e2⟩ := hQ2
  have N2 := Fr.app N0 N2q
  obtain ⟨cq3, kq3, q3a, q3b, q3c⟩ := isOf hZ e2 Fp0
  obtain ⟨_, _, ⟨T3, L3, k3, n3⟩, -, X3, ⟨Lc3, hQ3, l3, y3, z3⟩, st3⟩ := X2.virtualBack hx (y := (⟨"java/util/ArrayList", "elementData", "(I)Ljava/lang/Object;"⟩ : MethodName)) (z := (⟨"java/util/ArrayList", "elementData", "(I)Ljava/lang/Object;"⟩ : MethodName)) hown (mvT hZ (wq hw 124 rfl)) (mvT hZ (wq hw 125 rfl)) (notFace_of_selects (args := #[]) (mvT hZ (wq hw 127 rfl))) (mvT hZ (wq hw 127 rfl)) (mvT hZ (wq hw 126 rfl)) (by decide) (backOf (W := 0) (reld l Z a0 hw [] a1 el ys i F h0 n0 Z0 Fp1 Fp3 (by omega) hy) hZ (wq hw 128 rfl) (wq hw 2 rfl) (by decide) (by decide)) q3a q3c (g := (mkF m 11 #[.val (.ref a1), .val (.int (oi i))] [(.int (oi i)), (.ref a1)])) rfl (by rw [hml]; rfl) (Steps.refl _) (argsL := [(.int (oi i))]) (rest := []) (lenOf pd_29 rfl) rfl (by show 2 * 0 + _ ≤ _; exact Nat.le_of_eq rfl) (dq hby D18 7 rfl) (fun _ _ => ⟨rfl, e2, (by decide : 0 + 0 ≤ _), (by decide : 0 + 0 ≤ _)⟩)
  dsimp only [Pt.U, Pt.locs, Pt.cells, Pt.slots] at X3 l3 y3 z3 st3 hQ3
  subst l3 y3 z3
  obtain ⟨rfl, N3q, e3⟩ := hQ3
  have N3 := Fr.app N2 N3q
  refine hG ?_
  obtain ⟨fs, hr, hrun, hended, hW, hsame⟩ := X3.leave (v := some (.ref ys)) (fun h => by rw [Bd.returns] at h; cases h)
  refine ⟨_, _, pre0 _ ?_, hrun, hended, _, _, rfl, ?_, ⟨_, rfl⟩, hW, hsame.mono (by decide) (by decide)⟩
  · show Steps p.tables e below (s₁.setTop (mkF m 0 #[.val (.ref a1), .val (.int (oi i))] [])) _
    refine XS.iloadN X0.here hx rfl (dq hby D18 0 rfl) rfl ?_
    refine XS.aloadN X0.here hx rfl (dq hby D18 1 rfl) rfl rfl ?_
    refine st1 _ ?_
    refine st2 _ ?_
    refine XS.pop X2.here hx rfl (dq hby D18 4 rfl) rfl rfl ?_
    refine XS.aloadN X2.here hx rfl (dq hby D18 5 rfl) rfl rfl ?_
    refine XS.iloadN X2.here hx rfl (dq hby D18 6 rfl) rfl ?_
    refine st3.trans ?_
    jvm_step X3.here [X3.here.top, hx, (dq hby D18 8 rfl), X3.method', Bd.returns, Value.isRef, FieldType.isReference]
    first | (intro acts; rw [hr _ acts rfl rfl rfl]) | rw [hr _ _ rfl rfl rfl]
    exact Steps.refl _
  · show Q_rget Z a1 el ys i kk F h0 n0 _ T3.heap _
    rw [e3]
    exact ⟨rfl, N3, rfl⟩
theorem D16 : ∀ x ∈ ([(0, .aload_n 0, 1), (1, .invokespecial 1, 3), (4, .aload_n 0, 1), (5, .aload_n 1, 1), (6, .invokeinterface 7 1, 5), (11, .iconst 1, 1), (12, .iadd, 1), (13, .newarray .int, 2), (15, .putfield 13, 3), (18, .iconst 0, 1), (19, .istore_n 2, 1), (20, .iload_n 2, 1), (21, .aload_n 1, 1), (22, .invokeinterface 7 1, 5), (27, .if_icmp .ge 37, 3), (30, .aload_n 0, 1), (31, .getfield 13, 3), (34, .iload_n 2, 1), (35, .iconst 1, 1), (36, .iadd, 1), (37, .aload_n 0, 1), (38, .getfield 13, 3), (41, .iload_n 2, 1), (42, .iaload, 1), (43, .aload_n 1, 1), (44, .iload_n 2, 1), (45, .invokeinterface 19 2, 5), (50, .checkcast 23, 3), (53, .invokevirtual 25, 3), (56, .iadd, 1), (57, .iastore, 1), (58, .iinc 2 1, 3), (61, .goto (-41), 3), (64, .aload_n 0, 1), (65, .aload_n 0, 1), (66, .getfield 13, 3), (69, .aload_n 1, 1), (70, .invokeinterface 7 1, 5), (75, .iaload, 1), (76, .newarray .char, 2), (78, .putfield 28, 3), (81, .iconst 0, 1), (82, .istore_n 2, 1), (83, .iload_n 2, 1), (84, .aload_n 1, 1), (85, .invokeinterface 7 1, 5), (90, .if_icmp .ge 46, 3), (93, .aload_n 1, 1), (94, .iload_n 2, 1), (95, .invokeinterface 19 2, 5), (100, .checkcast 23, 3), (103, .iconst 0, 1), (104, .aload_n 1, 1), (105, .iload_n 2, 1), (106, .invokeinterface 19 2, 5), (111, .checkcast 23, 3), (114, .invokevirtual 25, 3), (117, .aload_n 0, 1), (118, .getfield 28, 3), (121, .aload_n 0, 1), (122, .getfield 13, 3), (125, .iload_n 2, 1), (126, .iaload, 1), (127, .invokevirtual 32, 3), (130, .iinc 2 1, 3), (133, .goto (-50), 3), (136, .aload_n 0, 1), (137, .aload_n 0, 1), (138, .getfield 28, 3), (141, .aload_n 0, 1), (142, .getfield 13, 3), (145, .invokestatic 36, 3), (148, .putfield 40, 3), (151, .return_, 1)] : List (Nat × Instr × Nat)), decode prog_11_method_1_code x.1 = .ok x.2 := by decide +kernel
theorem pn_rnew : plainName "com/example/even_roster/evenroster/scim/SortedSuffixes" = true := by first | (simp [plainName, overriddenIn]; done) | decide +kernel
theorem ef_rnew (m : MethodId) (x0 : Addr) (x1 : Addr) : entryFrame m #[(.ref x0), (.ref x1)] 3 = mkF m 0 #[.val (.ref x0), .val (.ref x1), .unset] [] := by first | (simp [entryFrame, mkF, argsToLocals, Value.category]; done) | rfl
def Q_rnew (Z : State) (a1 : Addr) (a2 : Addr) (el : Addr) (K : Nat) (cs : Int32) (fo : Value) (sa sb : Nat → Addr) (su sn : Nat → Nat) (sc : Nat → Int32) (sg : Nat → Nat → Int32) (EL : Nat → Value) (h0 : Heap) (n0 : Nat) (v : Option Value) (h : Heap) (L : List Loc) : Prop := ∃ (az ac so : Addr) (F : Nat → Nat) (f : Nat → Int32), v = none ∧ Fr n0 L ∧ Keep h0 h [a1] ∧ Fld Z h a1 "com/example/even_roster/evenroster/scim/SortedSuffixes" "starts" "[I" (.ref az) ∧ Fld Z h a1 "com/example/even_roster/evenroster/scim/SortedSuffixes" "chars" "[C" (.ref ac) ∧ Fld Z h a1 "com/example/even_roster/evenroster/scim/SortedSuffixes" "sorted" "[I" (.ref so) ∧ ArF Z h az .int (K + 1) (fun j => .int (oi (cum su j))) ∧ ArF Z h ac .char (cum su K) (fun j => .int (f j)) ∧ ArF Z h so .int (cum su K) (fun j => .int (oi (F j))) ∧ (∀ j, j < (cum su K) → F j < (cum su K))
set_option maxRecDepth 65536 in
set_option maxHeartbeats 40000000 in
theorem rnew (l : Launch) (Z : State) (a0 : Array Value) (hw : ∀ d ∈ tables_1, d.before a0 Z = true) (ws : List Jvm.Cond) (a1 : Addr) (a2 : Addr) (el : Addr) (K : Nat) (cs : Int32) (fo : Value) (sa sb : Nat → Addr) (su sn : Nat → Nat) (sc : Nat → Int32) (sg : Nat → Nat → Int32) (EL : Nat → Value) (h0 : Heap) (n0 : Nat) (Z0 : n0 ≤ h0.size) (Fp0 : Exa Z h0 a1 "com/example/even_roster/evenroster/scim/SortedSuffixes") (Fp1 : Fld Z h0 a1 "com/example/even_roster/evenroster/scim/SortedSuffixes" "starts" "[I" .null) (Fp2 : Fld Z h0 a1 "com/example/even_roster/evenroster/scim/SortedSuffixes" "chars" "[C" .null) (Fp3 : Fld Z h0 a1 "com/example/even_roster/evenroster/scim/SortedSuffixes" "sorted" "[I" .null) (Fp4 : Exa Z h0 a2 "java/util/ArrayList") (Fp5 : Fld Z h0 a2 "java/util/ArrayList" "elementData" "[Ljava/lang/Object;" (.ref el)) (Fp6 : Fld Z h0 a2 "java/util/ArrayList" "size" "I" (.int (oi K))) (Fp7 : ArR Z h0 el 10 EL) (Fp8 : StrL Z h0 K sa sb sn sc sg) (Fp9 : Sta Z h0 "java/lang/String" "COMPACT_STRINGS" "Z" (.int cs)) (Fp10 : Sta Z h0 "jdk/internal/util/Preconditions" "SIOOBE_FORMATTER" "Ljava/util/function/BiFunction;" fo) (Fp11 : Sta Z h0 "java/lang/StringUTF16" "$assertionsDisabled" "Z" (.int (1 : Int32))) (Fp12 : Sta Z h0 "java/lang/StringUTF16" "HI_BYTE_SHIFT" "I" (.int (0 : Int32))) (Fp13 : Sta Z h0 "java/lang/StringUTF16" "LO_BYTE_SHIFT" "I" (.int (8 : Int32))) (hcs : ¬ cs = 0) (hfo : fo.isRef = true) (hK3 : K = 1 ∨ K = 2 ∨ K = 3) (hEL : ∀ i, i < K → EL i = .ref (sa i)) (hsl : ∀ i, i < K → ((sc i = 0 ∧ sn i = su i) ∨ (sc i = 1 ∧ sn i = 2 * su i)) ∧ (su i = 1 ∨ su i = 2)) (ga : n0 ≤ a1) (n2 : a2 ≠ a1) (ne : el ≠ a1) (aw : Aw K sa sb a1) :
    MetFree l (⟨"com/example/even_roster/evenroster/scim/SortedSuffixes", "<init>", "(Ljava/util/List;)V"⟩ : MethodName) (head1 (Jvm.Cond.code (⟨"com/example/even_roster/evenroster/scim/SortedSuffixes", "<init>", "(Ljava/util/List;)V"⟩ : MethodName) prog_11_method_1_code 3 none :: ws) ({ frames := 5, cells := 10, slots := 310, locals := 82 } : Room)) (fun a U => a = #[(.ref a1), (.ref a2)] ∧ Z.Warmed39 U.vm ∧ U.heap = h0) (fun _ _ _ _ _ => True) (fun _ U o U' => ∃ v L, o = .returned v ∧ Q_rnew Z a1 a2 el K cs fo sa sb su sn sc sg EL h0 n0 v U'.heap L ∧ FrameEnd U o U' L ({ frames := 5, cells := 10, slots := 310, locals := 82 } : Room).cells ({ frames := 5, cells := 10, slots := 310, locals := 82 } : Room).slots) := by
  refine MetFree.of_bodySF (plainFor_of_name pn_rnew) hisR ?_
  intro p e s m args below meth c s₁ Bd hml0 hP hK
  obtain ⟨rfl, hZ, hh⟩ := hP
  have hx := Bd.exec
  have hby := Bd.bytes
  have hml : c.maxLocals = 3 := hml0
  have hown : s.vm.findClass "com/example/even_roster/evenroster/scim/SortedSuffixes" = some m.cls := findClass_of_methodNamed Bd.named
  have hnm := (name_of_methodNamed Bd.named Bd.method).1
  have X0 : Stand p l e ({ frames := 5, cells := 10, slots := 310, locals := 82 } : Room) s m #[(.ref a1), (.ref a2)] below meth c s₁ [] 0 0 := Stand.of_body Bd
  have e0 : s₁.heap = h0 := by rw [← hh, Bd.state]; rfl
  have N0 := Fr.nil n0
  have pre0 : ∀ t, Steps p.tables e below (s₁.setTop (mkF m 0 #[.val (.ref a1), .val (.ref a2), .unset] [])) t → Steps p.tables e below (s₁.setTop (entryFrame m #[(.ref a1), (.ref a2)] 3)) t := fun t k => castTop (ef_rnew m a1 a2) k
  have K0 := Keep.refl h0 [a1]
  refine own_cps fun G hG => ?_
  have hcu := cum_up (fun i hi => (hsl i hi).2)
  obtain ⟨T1, X1, e1, st1⟩ := initO X0 hx hZ hown (wq hw 96 rfl) (wq hw 19 rfl) (wq hw 20 rfl) e0 (g := (mkF m 1 #[.val (.ref a1), .val (.ref a2), .unset] [(.ref a1)])) rfl (by rw [hml]; rfl) rfl (dq hby D16 1 rfl) (by decide) (W := 0) (by show 2 * 0 + _ ≤ _; exact Nat.le_of_eq rfl) (by decide)
  obtain ⟨cq2, kq2, q2a, q2b, q2c⟩ := isOf hZ e1 Fp4
  obtain ⟨_, _, ⟨T2, L2, k2, n2⟩, -, X2, ⟨Lc2, hQ2, l2, y2, z2⟩, st2⟩ := X1.interfaceBack hx (xi := (⟨"java/util/List", "size", "()I"⟩ : MethodName)) (y := (⟨"java/util/ArrayList", "size", "()I"⟩ : MethodName)) hown (mvT hZ (wq hw 97 rfl)) (mvT hZ (wq hw 98 rfl)) (mvT hZ (wq hw 99 rfl)) (mvT hZ (wq hw 100 rfl)) (mvT hZ (wq hw 101 rfl)) (mvT hZ (wq hw 102 rfl)) (mvT hZ (wq hw 103 rfl)) (mvT hZ (wq hw 104 rfl)) (by decide) (backOf (W := 1) (rsize l Z a0 hw [] a2 K h0 n0 Z0 Fp6) hZ (wq hw 105 rfl) (wq hw 2 rfl) (by decide) (by decide)) q2a q2b q2c (g := (mkF m 6 #[.val (.ref a1), .val (.ref a2), .unset] [(.ref a2), (.ref a1)])) rfl (by rw [hml]; rfl) (Steps.refl _) (argsL := []) (rest := [(.ref a1)]) (lenOf pd_14 rfl) rfl (by show 2 * 0 + _ ≤ _; exact Nat.le_of_eq rfl) (dq hby D16 4 rfl) (fun _ _ => ⟨rfl, e1, (by decide : 0 + 0 ≤ _), (by decide : 0 + 0 ≤ _)⟩)
  dsimp only [Pt.U, Pt.locs, Pt.cells, Pt.slots] at X2 l2 y2 z2 st2 hQ2
  subst l2 y2 z2
  obtain ⟨rfl, N2q, e2⟩ := hQ2
  have N2 := Fr.app N0 N2q
  obtain ⟨T3, h3, k3, X3, e3, E3, A3, st3⟩ := newP X2 hx hZ (wq hw 89 rfl) e2 (g := (mkF m 13 #[.val (.ref a1), .val (.ref a2), .unset] [(.int (oi (K + 1))), (.ref a1)])) rfl (dq hby D16 7 rfl) rfl (oi_nn (by omega)) (cap := 4) (by rw [oi_n (k := (K + 1)) (by omega)]; omega) (by decide) (by decide) (by decide)
  obtain ⟨b3, g3⟩ : ∃ z, z = h0.size := ⟨_, rfl⟩
  rw [← g3] at A3 st3
  have ne_a1_b3 : Dif a1 b3 := Nat.ne_of_lt (Nat.lt_of_lt_of_le Fp0.lt (Nat.le_of_eq g3.symm))
  have ne_a2_b3 : Dif a2 b3 := Nat.ne_of_lt (Nat.lt_of_lt_of_le Fp4.lt (Nat.le_of_eq g3.symm))
  have ne_el_b3 : Dif el b3 := Nat.ne_of_lt (Nat.lt_of_lt_of_le Fp7.lt (Nat.le_of_eq g3.symm))
  have g_b3 : Lq n0 b3 := Nat.le_trans Z0 (Nat.le_of_eq g3.symm)
  have aw_b3 := Fp8.aw (Nat.le_of_eq g3.symm)
  have sz_b3 : Lq h0.size b3 := Nat.le_trans K0.1 (Nat.le_of_eq g3.symm)
  clear g3
  have Fp0_v3 := Fp0.ext E3
  have Fp1_v3 := Fp1.ext E3
  have Fp2_v3 := Fp2.ext E3
  have Fp3_v3 := Fp3.ext E3
  have Fp4_v3 := Fp4.ext E3
  have Fp5_v3 := Fp5.ext E3
  have Fp6_v3 := Fp6.ext E3
  have Fp7_v3 := Fp7.ext E3
  have Fp8_v3 := Fp8.ext E3
  have Fp9_v3 := Fp9.ext E3
  have Fp10_v3 := Fp10.ext E3
  have Fp11_v3 := Fp11.ext E3
  have Fp12_v3 := Fp12.ext E3
  have Fp13_v3 := Fp13.ext E3
  have Z3 : Lq n0 h3.size := Nat.le_trans Z0 E3.1
  have K3 := K0.ext E3
  have V3_v3 : ArF Z h3 b3 .int (oi (K + 1)).toNatClampNeg (fun _ => (.int 0)) := ArF.mk0 A3 rfl rfl
  have VC4_v4 : ArF Z h3 b3 .int (K + 1) (fun j => .int (oi (tab (cum su) (0 + 1) j))) := (by have q := V3_v3; rw [oi_n (k := K + 1) (by omega)] at q; exact q.congr (fun j hj => congrArg (fun zz => Value.int (oi zz)) (tab_1 rfl j)))
  obtain ⟨T5, h5, X5, e5, W5, st5⟩ := putF X3 hx hZ hown (host := "") (Or.inl (wq hw 106 rfl)) Via.refl e3 Fp1_v3 Fp0_v3 (Or.inr ⟨(wq hw 107 rfl), rfl, hnm⟩) (wq hw 91 rfl) (ty := (.array .int)) (by decide) rfl rfl (g := (mkF m 15 #[.val (.ref a1), .val (.ref a2), .unset] [(.ref b3), (.ref a1)])) rfl rfl (dq hby D16 8 rfl)
  have Fp0_v5 := Fp0_v3.wr W5
  have Fp2_v5 := Fp2_v3.other W5 (Or.inr (slot_ne (Or.inr (wq hw 141 rfl)) (Or.inr (wq hw 107 rfl)) (by decide) (t := (.array .char)) (t' := (.array .int)) (by decide) (by decide)))
  have Fp3_v5 := Fp3_v3.other W5 (Or.inr (slot_ne (Or.inr (wq hw 188 rfl)) (Or.inr (wq hw 107 rfl)) (by decide) (t := (.array .int)) (t' := (.array .int)) (by decide) (by decide)))
  have Fp4_v5 := Fp4_v3.wr W5
  have Fp5_v5 := Fp5_v3.other W5 (Or.inl n2)
  have Fp6_v5 := Fp6_v3.other W5 (Or.inl n2)
  have Fp7_v5 := Fp7_v3.other W5 ne
  have Fp8_v5 := Fp8_v3.other W5 aw
  have Fp9_v5 := Fp9_v3.wr W5
  have Fp10_v5 := Fp10_v3.wr W5
  have Fp11_v5 := Fp11_v3.wr W5
  have Fp12_v5 := Fp12_v3.wr W5
  have Fp13_v5 := Fp13_v3.wr W5
  have VC4_v5 := VC4_v4.other W5 (Ne.symm ne_a1_b3)
  have Z5 : Lq n0 h5.size := Nat.le_trans Z3 (Nat.le_of_eq W5.size.symm)
  have K5 := K3.wr W5 (Or.inl (by simp))
  have F5_v5 : Fld Z h5 a1 "com/example/even_roster/evenroster/scim/SortedSuffixes" "starts" "[I" (.ref b3) := Fp1_v3.same W5
  have N5 := Fr.snoc X5 N2 ga
  have pre6 : ∀ t, Steps p.tables e below (T5.setTop (mkF m 20 #[.val (.ref a1), .val (.ref a2), .val (.int (0 : Int32))] [])) t → Steps p.tables e below (s₁.setTop (entryFrame m #[(.ref a1), (.ref a2)] 3)) t := by
    intro t k
    refine pre0 t ?_
    refine XS.aloadN X0.here hx rfl (dq hby D16 0 rfl) rfl rfl ?_
    show Steps p.tables e below (s₁.setTop (mkF m 1 #[.val (.ref a1), .val (.ref a2), .unset] [(.ref a1)])) _
    refine st1 _ ?_
    refine XS.aloadN X1.here hx rfl (dq hby D16 2 rfl) rfl rfl ?_
    refine XS.aloadN X1.here hx rfl (dq hby D16 3 rfl) rfl rfl ?_
    refine st2.trans ?_
    refine XS.iconst X2.here hx rfl (dq hby D16 5 rfl) ?_
    refine XS.iadd X2.here hx rfl (dq hby D16 6 rfl) rfl ?_
    show Steps p.tables e below (T2.setTop (mkF m 13 #[.val (.ref a1), .val (.ref a2), .unset] [(.int ((oi K) + (1 : Int32))), (.ref a1)])) _
    rw [oi_s (K)]
    refine st3 _ ?_
    refine st5 _ ?_
    refine XS.iconst X5.here hx rfl (dq hby D16 9 rfl) ?_
    refine XS.istoreN X5.here hx rfl (dq hby D16 10 rfl) rfl (l' := #[.val (.ref a1), .val (.ref a2), .val (.int (0 : Int32))]) rfl ?_
    exact k
  have loop7 : ∀ (k7 : Nat) (TL7 : State) (Lc7 : List Loc) (hL7 : Heap) (i : Nat), Stand p l e ({ frames := 5, cells := 10, slots := 310, locals := 82 } : Room) s m #[(.ref a1), (.ref a2)] below meth c TL7 Lc7 1 4 → TL7.heap = hL7 → Fr n0 Lc7 → Lq n0 hL7.size → Keep h0 hL7 [a1] → Exa Z hL7 a1 "com/example/even_roster/evenroster/scim/SortedSuffixes" → Fld Z hL7 a1 "com/example/even_roster/evenroster/scim/SortedSuffixes" "chars" "[C" .null → Fld Z hL7 a1 "com/example/even_roster/evenroster/scim/SortedSuffixes" "sorted" "[I" .null → Exa Z hL7 a2 "java/util/ArrayList" → Fld Z hL7 a2 "java/util/ArrayList" "elementData" "[Ljava/lang/Object;" (.ref el) → Fld Z hL7 a2 "java/util/ArrayList" "size" "I" (.int (oi K)) → StrL Z hL7 K sa sb sn sc sg → Sta Z hL7 "java/lang/String" "COMPACT_STRINGS" "Z" (.int cs) → Sta Z hL7 "jdk/internal/util/Preconditions" "SIOOBE_FORMATTER" "Ljava/util/function/BiFunction;" fo → Sta Z hL7 "java/lang/StringUTF16" "$assertionsDisabled" "Z" (.int (1 : Int32)) → Sta Z hL7 "java/lang/StringUTF16" "HI_BYTE_SHIFT" "I" (.int (0 : Int32)) → Sta Z hL7 "java/lang/StringUTF16" "LO_BYTE_SHIFT" "I" (.int (8 : Int32)) → Fld Z hL7 a1 "com/example/even_roster/evenroster/scim/SortedSuffixes" "starts" "[I" (.ref b3) → ArR Z hL7 el 10 EL → ArF Z hL7 b3 .int (K + 1) (fun j => .int (oi (tab (cum su) (i + 1) j))) → i + k7 = K → (∀ t, Steps p.tables e below (TL7.setTop (mkF m 20 #[.val (.ref a1), .val (.ref a2), .val (.int (oi i))] [])) t → Steps p.tables e below (s₁.setTop (entryFrame m #[(.ref a1), (.ref a2)] 3)) t) → G := by
    intro k7
    induction k7 with
    | zero =>
      intro TL7 Lc7 hL7 i XL7 eL7 NL7 ZL7 KL7 lf7_0_v7 lf7_1_v7 lf7_2_v7 lf7_3_v7 lf7_4_v7 lf7_5_v7 lf7_6_v7 lf7_7_v7 lf7_8_v7 lf7_9_v7 lf7_10_v7 lf7_11_v7 lf7_12_v7 lf7_13_v7 lf7_14_v7 hk prL7
      obtain ⟨cq8, kq8, q8a, q8b, q8c⟩ := isOf hZ eL7 lf7_3_v7
      obtain ⟨_, _, ⟨T8, L8, k8, n8⟩, -, X8, ⟨Lc8, hQ8, l8, y8, z8⟩, st8⟩ := XL7.interfaceBack hx (xi := (⟨"java/util/List", "size", "()I"⟩ : MethodName)) (y := (⟨"java/util/ArrayList", "size", "()I"⟩ : MethodName)) hown (mvT hZ (wq hw 97 rfl)) (mvT hZ (wq hw 98 rfl)) (mvT hZ (wq hw 99 rfl)) (mvT hZ (wq hw 100 rfl)) (mvT hZ (wq hw 101 rfl)) (mvT hZ (wq hw 102 rfl)) (mvT hZ (wq hw 103 rfl)) (mvT hZ (wq hw 104 rfl)) (by decide) (backOf (W := 1) (rsize l Z a0 hw [] a2 K hL7 n0 ZL7 lf7_5_v7) hZ (wq hw 105 rfl) (wq hw 2 rfl) (by decide) (by decide)) q8a q8b q8c (g := (mkF m 22 #[.val (.ref a1), .val (.ref a2), .val (.int (oi i))] [(.ref a2), (.int (oi i))])) rfl (by rw [hml]; rfl) (Steps.refl _) (argsL := []) (rest := [(.int (oi i))]) (lenOf pd_14 rfl) rfl (by show 2 * 0 + _ ≤ _; exact Nat.le_of_eq rfl) (dq hby D16 13 rfl) (fun _ _ => ⟨rfl, eL7, (by decide : 1 + 0 ≤ _), (by decide : 4 + 0 ≤ _)⟩)
      dsimp only [Pt.U, Pt.locs, Pt.cells, Pt.slots] at X8 l8 y8 z8 st8 hQ8
      subst l8 y8 z8
      obtain ⟨rfl, N8q, e8⟩ := hQ8
      have N8 := Fr.app NL7 N8q
      have hiK : i = K := by omega
      have VC9_v9 : ArF Z hL7 b3 .int (K + 1) (fun j => .int (oi (cum su j))) := (lf7_14_v7.congr (fun j hj => congrArg (fun zz => Value.int (oi zz)) (tab_in (by omega))))
      obtain ⟨T10, X10, e10, st10⟩ := getF X8 hx hZ hown (host := "") (Or.inl (wq hw 106 rfl)) Via.refl e8 lf7_12_v7 (g := (mkF m 66 #[.val (.ref a1), .val (.ref a2), .val (.int (oi i))] [(.ref a1), (.ref a1)])) rfl rfl (dq hby D16 35 rfl)
      obtain ⟨cq11, kq11, q11a, q11b, q11c⟩ := isOf hZ e10 lf7_3_v7
      obtain ⟨_, _, ⟨T11, L11, k11, n11⟩, -, X11, ⟨Lc11, hQ11, l11, y11, z11⟩, st11⟩ := X10.interfaceBack hx (xi := (⟨"java/util/List", "size", "()I"⟩ : MethodName)) (y := (⟨"java/util/ArrayList", "size", "()I"⟩ : MethodName)) hown (mvT hZ (wq hw 97 rfl)) (mvT hZ (wq hw 98 rfl)) (mvT hZ (wq hw 99 rfl)) (mvT hZ (wq hw 100 rfl)) (mvT hZ (wq hw 101 rfl)) (mvT hZ (wq hw 102 rfl)) (mvT hZ (wq hw 103 rfl)) (mvT hZ (wq hw 104 rfl)) (by decide) (backOf (W := 2) (rsize l Z a0 hw [] a2 K hL7 n0 ZL7 lf7_5_v7) hZ (wq hw 105 rfl) (wq hw 2 rfl) (by decide) (by decide)) q11a q11b q11c (g := (mkF m 70 #[.val (.ref a1), .val (.ref a2), .val (.int (oi i))] [(.ref a2), (.ref b3), (.ref a1)])) rfl (by rw [hml]; rfl) (Steps.refl _) (argsL := []) (rest := [(.ref b3), (.ref a1)]) (lenOf pd_14 rfl) rfl (by show 2 * 0 + _ ≤ _; exact Nat.le_of_eq rfl) (dq hby D16 37 rfl) (fun _ _ => ⟨rfl, e10, (by decide : 1 + 0 ≤ _), (by decide : 4 + 0 ≤ _)⟩)
      dsimp only [Pt.U, Pt.locs, Pt.cells, Pt.slots] at X11 l11 y11 z11 st11 hQ11
      subst l11 y11 z11
      obtain ⟨rfl, N11q, e11⟩ := hQ11
      have N11 := Fr.app N8 N11q
      obtain ⟨cl12, Ar12, S12, H12⟩ := id VC9_v9
      replace S12 : Sq cl12.slots.size _ := S12
      have hin12 : Hq (oi K) cl12.slots.size := oi_at S12 (by omega) (by omega)
      have hat12 : cl12.slots[((oi K)).toNatClampNeg]? = some (.int (oi (cum su K))) := ArF.at S12 H12 hin12 (congrArg (fun zz => Value.int (oi zz)) ((congrArg (cum su) (oi_n (by omega))).trans rfl))
      obtain ⟨T13, h13, k13, X13, e13, E13, A13, st13⟩ := newP X11 hx hZ (wq hw 33 rfl) e11 (g := (mkF m 76 #[.val (.ref a1), .val (.ref a2), .val (.int (oi i))] [(.int (oi (cum su K))), (.ref a1)])) rfl (dq hby D16 39 rfl) rfl (oi_nn (by omega)) (cap := 6) (by rw [oi_n (k := (cum su K)) (by omega)]; omega) (by decide) (by decide) (by decide)
      obtain ⟨b13, g13⟩ : ∃ z, z = hL7.size := ⟨_, rfl⟩
      rw [← g13] at A13 st13
      have ne_a1_b13 : Dif a1 b13 := Nat.ne_of_lt (Nat.lt_of_lt_of_le lf7_0_v7.lt (Nat.le_of_eq g13.symm))
      have ne_a2_b13 : Dif a2 b13 := Nat.ne_of_lt (Nat.lt_of_lt_of_le lf7_3_v7.lt (Nat.le_of_eq g13.symm))
      have ne_el_b13 : Dif el b13 := Nat.ne_of_lt (Nat.lt_of_lt_of_le lf7_13_v7.lt (Nat.le_of_eq g13.symm))
      have ne_b3_b13 : Dif b3 b13 := Nat.ne_of_lt (Nat.lt_of_lt_of_le VC9_v9.lt (Nat.le_of_eq g13.symm))
      have g_b13 : Lq n0 b13 := Nat.le_trans ZL7 (Nat.le_of_eq g13.symm)
      have aw_b13 := lf7_6_v7.aw (Nat.le_of_eq g13.symm)
      have sz_b13 : Lq h0.size b13 := Nat.le_trans KL7.1 (Nat.le_of_eq g13.symm)
      clear g13
      have lf7_0_v13 := lf7_0_v7.ext E13
      have lf7_1_v13 := lf7_1_v7.ext E13
      have lf7_2_v13 := lf7_2_v7.ext E13
      have lf7_3_v13 := lf7_3_v7.ext E13
      have lf7_4_v13 := lf7_4_v7.ext E13
      have lf7_5_v13 := lf7_5_v7.ext E13
      have lf7_6_v13 := lf7_6_v7.ext E13
      have lf7_7_v13 := lf7_7_v7.ext E13
      have lf7_8_v13 := lf7_8_v7.ext E13
      have lf7_9_v13 := lf7_9_v7.ext E13
      have lf7_10_v13 := lf7_10_v7.ext E13
      have lf7_11_v13 := lf7_11_v7.ext E13
      have lf7_12_v13 := lf7_12_v7.ext E13
      have lf7_13_v13 := lf7_13_v7.ext E13
      have VC9_v13 := VC9_v9.ext E13
      have Z13 : Lq n0 h13.size := Nat.le_trans ZL7 E13.1
      have K13 := KL7.ext E13
      have V13_v13 : ArF Z h13 b13 .char (oi (cum su K)).toNatClampNeg (fun _ => (.int 0)) := ArF.mk0 A13 rfl rfl
      have VC14_v14 : ArF Z h13 b13 .char (cum su K) (fun j => .int ((fun _ => 0) j)) := (by have q := V13_v13; rw [oi_n (k := (cum su K)) (by omega)] at q; exact q)
      obtain ⟨T15, h15, X15, e15, W15, st15⟩ := putF X13 hx hZ hown (host := "") (Or.inl (wq hw 140 rfl)) Via.refl e13 lf7_1_v13 lf7_0_v13 (Or.inr ⟨(wq hw 141 rfl), rfl, hnm⟩) (wq hw 91 rfl) (ty := (.array .char)) (by decide) rfl rfl (g := (mkF m 78 #[.val (.ref a1), .val (.ref a2), .val (.int (oi i))] [(.ref b13), (.ref a1)])) rfl rfl (dq hby D16 40 rfl)
      have lf7_0_v15 := lf7_0_v13.wr W15
      have lf7_2_v15 := lf7_2_v13.other W15 (Or.inr (slot_ne (Or.inr (wq hw 188 rfl)) (Or.inr (wq hw 141 rfl)) (by decide) (t := (.array .int)) (t' := (.array .char)) (by decide) (by decide)))
      have lf7_3_v15 := lf7_3_v13.wr W15
      have lf7_4_v15 := lf7_4_v13.other W15 (Or.inl n2)
      have lf7_5_v15 := lf7_5_v13.other W15 (Or.inl n2)
      have lf7_6_v15 := lf7_6_v13.other W15 aw
      have lf7_7_v15 := lf7_7_v13.wr W15
      have lf7_8_v15 := lf7_8_v13.wr W15
      have lf7_9_v15 := lf7_9_v13.wr W15
      have lf7_10_v15 := lf7_10_v13.wr W15
      have lf7_11_v15 := lf7_11_v13.wr W15
      have lf7_12_v15 := lf7_12_v13.other W15 (Or.inr (slot_ne (Or.inr (wq hw 107 rfl)) (Or.inr (wq hw 141 rfl)) (by decide) (t := (.array .int)) (t' := (.array .char)) (by decide) (by decide)))
      have lf7_13_v15 := lf7_13_v13.other W15 ne
      have VC9_v15 := VC9_v13.other W15 (Ne.symm ne_a1_b3)
      have VC14_v15 := VC14_v14.other W15 (Ne.symm ne_a1_b13)
      have Z15 : Lq n0 h15.size := Nat.le_trans Z13 (Nat.le_of_eq W15.size.symm)
      have K15 := K13.wr W15 (Or.inl (by simp))
      have F15_v15 : Fld Z h15 a1 "com/example/even_roster/evenroster/scim/SortedSuffixes" "chars" "[C" (.ref b13) := lf7_1_v13.same W15
      have N15 := Fr.snoc X15 N11 ga
      have pre16 : ∀ t, Steps p.tables e below (T15.setTop (mkF m 83 #[.val (.ref a1), .val (.ref a2), .val (.int (0 : Int32))] [])) t → Steps p.tables e below (s₁.setTop (entryFrame m #[(.ref a1), (.ref a2)] 3)) t := by
        intro t k
        refine prL7 t ?_
        refine XS.iloadN XL7.here hx rfl (dq hby D16 11 rfl) rfl ?_
        refine XS.aloadN XL7.here hx rfl (dq hby D16 12 rfl) rfl rfl ?_
        refine st8.trans ?_
        refine XS.icmpYes X8.here hx rfl (pc0 := 27) (pc' := 64) rfl (dq hby D16 14 rfl) rfl (flt ((by rw [oi_lt (by omega) (by omega)]; omega) : ¬ ((oi i) < (oi K)))).2.1 (by decide) (by decide) ?_
        refine XS.aloadN X8.here hx rfl (dq hby D16 33 rfl) rfl rfl ?_
        refine XS.aloadN X8.here hx rfl (dq hby D16 34 rfl) rfl rfl ?_
        refine st10 _ ?_
        refine XS.aloadN X10.here hx rfl (dq hby D16 36 rfl) rfl rfl ?_
        refine st11.trans ?_
        refine X11.iaload hx (j := (oi K)) (v := (.int (oi (cum su K)))) (by rw [e11]; exact Ar12.1) (State.isArrayOf_alike hZ.alike Ar12.2.1) Ar12.2.2 hin12 hat12 (g := (mkF m 75 #[.val (.ref a1), .val (.ref a2), .val (.int (oi i))] [(.int (oi K)), (.ref b3), (.ref a1)])) rfl rfl (dq hby D16 38 rfl) _ ?_
        refine st13 _ ?_
        refine st15 _ ?_
        refine XS.iconst X15.here hx rfl (dq hby D16 41 rfl) ?_
        refine XS.istoreN X15.here hx rfl (dq hby D16 42 rfl) rfl (l' := #[.val (.ref a1), .val (.ref a2), .val (.int (0 : Int32))]) rfl ?_
        exact k
      have loop17 : ∀ (k17 : Nat) (TL17 : State) (Lc17 : List Loc) (hL17 : Heap) (i2 : Nat) (fc : Nat → Int32), Stand p l e ({ frames := 5, cells := 10, slots := 310, locals := 82 } : Room) s m #[(.ref a1), (.ref a2)] below meth c TL17 Lc17 2 10 → TL17.heap = hL17 → Fr n0 Lc17 → Lq n0 hL17.size → Keep h0 hL17 [a1] → Exa Z hL17 a1 "com/example/even_roster/evenroster/scim/SortedSuffixes" → Fld Z hL17 a1 "com/example/even_roster/evenroster/scim/SortedSuffixes" "sorted" "[I" .null → Exa Z hL17 a2 "java/util/ArrayList" → Fld Z hL17 a2 "java/util/ArrayList" "elementData" "[Ljava/lang/Object;" (.ref el) → Fld Z hL17 a2 "java/util/ArrayList" "size" "I" (.int (oi K)) → StrL Z hL17 K sa sb sn sc sg → Sta Z hL17 "java/lang/String" "COMPACT_STRINGS" "Z" (.int cs) → Sta Z hL17 "jdk/internal/util/Preconditions" "SIOOBE_FORMATTER" "Ljava/util/function/BiFunction;" fo → Sta Z hL17 "java/lang/StringUTF16" "$assertionsDisabled" "Z" (.int (1 : Int32)) → Sta Z hL17 "java/lang/StringUTF16" "HI_BYTE_SHIFT" "I" (.int (0 : Int32)) → Sta Z hL17 "java/lang/StringUTF16" "LO_BYTE_SHIFT" "I" (.int (8 : Int32)) → Fld Z hL17 a1 "com/example/even_roster/evenroster/scim/SortedSuffixes" "starts" "[I" (.ref b3) → Fld Z hL17 a1 "com/example/even_roster/evenroster/scim/SortedSuffixes" "chars" "[C" (.ref b13) → ArR Z hL17 el 10 EL → ArF Z hL17 b3 .int (K + 1) (fun j => .int (oi (cum su j))) → ArF Z hL17 b13 .char (cum su K) (fun j => .int (fc j)) → i2 + k17 = K → (∀ j, j < (cum su K) → own_B (fc j)) → (∀ t, Steps p.tables e below (TL17.setTop (mkF m 83 #[.val (.ref a1), .val (.ref a2), .val (.int (oi i2))] [])) t → Steps p.tables e below (s₁.setTop (entryFrame m #[(.ref a1), (.ref a2)] 3)) t) → G := by
        intro k17
        induction k17 with
        | zero =>
          intro TL17 Lc17 hL17 i2 fc XL17 eL17 NL17 ZL17 KL17 lf17_0_v17 lf17_1_v17 lf17_2_v17 lf17_3_v17 lf17_4_v17 lf17_5_v17 lf17_6_v17 lf17_7_v17 lf17_8_v17 lf17_9_v17 lf17_10_v17 lf17_11_v17 lf17_12_v17 lf17_13_v17 lf17_14_v17 lf17_15_v17 hk2 hBf prL17
          obtain ⟨cq18, kq18, q18a, q18b, q18c⟩ := isOf hZ eL17 lf17_2_v17
          obtain ⟨_, _, ⟨T18, L18, k18, n18⟩, -, X18, ⟨Lc18, hQ18, l18, y18, z18⟩, st18⟩ := XL17.interfaceBack hx (xi := (⟨"java/util/List", "size", "()I"⟩ : MethodName)) (y := (⟨"java/util/ArrayList", "size", "()I"⟩ : MethodName)) hown (mvT hZ (wq hw 97 rfl)) (mvT hZ (wq hw 98 rfl)) (mvT hZ (wq hw 99 rfl)) (mvT hZ (wq hw 100 rfl)) (mvT hZ (wq hw 101 rfl)) (mvT hZ (wq hw 102 rfl)) (mvT hZ (wq hw 103 rfl)) (mvT hZ (wq hw 104 rfl)) (by decide) (backOf (W := 1) (rsize l Z a0 hw [] a2 K hL17 n0 ZL17 lf17_4_v17) hZ (wq hw 105 rfl) (wq hw 2 rfl) (by decide) (by decide)) q18a q18b q18c (g := (mkF m 85 #[.val (.ref a1), .val (.ref a2), .val (.int (oi i2))] [(.ref a2), (.int (oi i2))])) rfl (by rw [hml]; rfl) (Steps.refl _) (argsL := []) (rest := [(.int (oi i2))]) (lenOf pd_14 rfl) rfl (by show 2 * 0 + _ ≤ _; exact Nat.le_of_eq rfl) (dq hby D16 45 rfl) (fun _ _ => ⟨rfl, eL17, (by decide : 2 + 0 ≤ _), (by decide : 10 + 0 ≤ _)⟩)
          dsimp only [Pt.U, Pt.locs, Pt.cells, Pt.slots] at X18 l18 y18 z18 st18 hQ18
          subst l18 y18 z18
          obtain ⟨rfl, N18q, e18⟩ := hQ18
          have N18 := Fr.app NL17 N18q
          obtain ⟨T19, X19, e19, st19⟩ := getF X18 hx hZ hown (host := "") (Or.inl (wq hw 140 rfl)) Via.refl e18 lf17_12_v17 (g := (mkF m 138 #[.val (.ref a1), .val (.ref a2), .val (.int (oi i2))] [(.ref a1), (.ref a1)])) rfl rfl (dq hby D16 68 rfl)
          obtain ⟨T20, X20, e20, st20⟩ := getF X19 hx hZ hown (host := "") (Or.inl (wq hw 106 rfl)) Via.refl e19 lf17_11_v17 (g := (mkF m 142 #[.val (.ref a1), .val (.ref a2), .val (.int (oi i2))] [(.ref a1), (.ref b13), (.ref a1)])) rfl rfl (dq hby D16 70 rfl)
          obtain ⟨_, _, ⟨T21, L21, k21, n21⟩, -, X21, ⟨Lc21, hQ21, l21, y21, z21⟩, st21⟩ := Jvm.LawKit.callS X20 hx (y := (⟨"com/example/even_roster/evenroster/scim/SortedSuffixes", "sort", "([C[I)[I"⟩ : MethodName)) hown (mvT hZ (wq hw 173 rfl)) (mvT hZ (wq hw 174 rfl)) (mvT hZ (wq hw 92 rfl)) (mvT hZ (wq hw 175 rfl)) (by decide) (backOf (W := 1) (rsort l Z a0 hw [] b13 b3 (cum su K) K (cum su) fc hL17 n0 ZL17 lf17_15_v17 lf17_14_v17 (cum_ok (fun i hi => (hsl i hi).2)) hBf (by omega) (by omega) (by omega)) hZ (wq hw 175 rfl) (wq hw 92 rfl) (by decide) (by decide)) (g := (mkF m 145 #[.val (.ref a1), .val (.ref a2), .val (.int (oi i2))] [(.ref b3), (.ref b13), (.ref a1)])) rfl (by rw [hml]; rfl) (argsL := [(.ref b13), (.ref b3)]) (rest := [(.ref a1)]) (lenOf pd_30 rfl) rfl (by show 2 * 0 + _ ≤ _; exact Nat.le_of_eq rfl) (dq hby D16 71 rfl) (fun _ _ => ⟨rfl, e20, (by decide : 2 + 8 ≤ _), (by decide : 10 + 300 ≤ _)⟩)
          dsimp only [Pt.U, Pt.locs, Pt.cells, Pt.slots] at X21 l21 y21 z21 st21 hQ21
          subst l21 y21 z21
          obtain ⟨so, Fs, rfl, N21q, Kc21, sb_so, nf21_0_v21, hFs⟩ := hQ21
          have N21 := Fr.app N18 N21q
          replace sb_so : Lq _ _ := sb_so
          have ne_a1_so : Dif a1 so := Nat.ne_of_lt (Nat.lt_of_lt_of_le lf17_0_v17.lt sb_so)
          have ne_a2_so : Dif a2 so := Nat.ne_of_lt (Nat.lt_of_lt_of_le lf17_2_v17.lt sb_so)
          have ne_el_so : Dif el so := Nat.ne_of_lt (Nat.lt_of_lt_of_le lf17_13_v17.lt sb_so)
          have ne_b3_so : Dif b3 so := Nat.ne_of_lt (Nat.lt_of_lt_of_le lf17_14_v17.lt sb_so)
          have ne_b13_so : Dif b13 so := Nat.ne_of_lt (Nat.lt_of_lt_of_le lf17_15_v17.lt sb_so)
          have g_so : Lq n0 so := Nat.le_trans ZL17 sb_so
          have sz_so : Lq h0.size so := Nat.le_trans KL17.1 sb_so
          have lf17_0_v21 := lf17_0_v17.keep Kc21
          have lf17_1_v21 := lf17_1_v17.keep Kc21 nin0
          have lf17_2_v21 := lf17_2_v17.keep Kc21
          have lf17_3_v21 := lf17_3_v17.keep Kc21 nin0
          have lf17_4_v21 := lf17_4_v17.keep Kc21 nin0
          have lf17_5_v21 := lf17_5_v17.keep0 Kc21
          have lf17_6_v21 := Sta.keep0 lf17_6_v17 Kc21
          have lf17_7_v21 := Sta.keep0 lf17_7_v17 Kc21
          have lf17_8_v21 := Sta.keep0 lf17_8_v17 Kc21
          have lf17_9_v21 := Sta.keep0 lf17_9_v17 Kc21
          have lf17_10_v21 := Sta.keep0 lf17_10_v17 Kc21
          have lf17_11_v21 := lf17_11_v17.keep Kc21 nin0
          have lf17_12_v21 := lf17_12_v17.keep Kc21 nin0
          have lf17_13_v21 := lf17_13_v17.keep Kc21 nin0
          have lf17_14_v21 := lf17_14_v17.keep Kc21 nin0
          have lf17_15_v21 := lf17_15_v17.keep Kc21 nin0
          have Z21 : Lq n0 T21.heap.size := Nat.le_trans ZL17 Kc21.1
          have KK21 := KL17.trans Kc21 all0
          obtain ⟨T22, h22, X22, e22, W22, st22⟩ := putF X21 hx hZ hown (host := "") (Or.inl (wq hw 187 rfl)) Via.refl rfl lf17_1_v21 lf17_0_v21 (Or.inr ⟨(wq hw 188 rfl), rfl, hnm⟩) (wq hw 91 rfl) (ty := (.array .int)) (by decide) rfl rfl (g := (mkF m 148 #[.val (.ref a1), .val (.ref a2), .val (.int (oi i2))] [(.ref so), (.ref a1)])) rfl rfl (dq hby D16 72 rfl)
          have lf17_0_v22 := lf17_0_v21.wr W22
          have lf17_2_v22 := lf17_2_v21.wr W22
          have lf17_3_v22 := lf17_3_v21.other W22 (Or.inl n2)
          have lf17_4_v22 := lf17_4_v21.other W22 (Or.inl n2)
          have lf17_5_v22 := lf17_5_v21.other W22 aw
          have lf17_6_v22 := lf17_6_v21.wr W22
          have lf17_7_v22 := lf17_7_v21.wr W22
          have lf17_8_v22 := lf17_8_v21.wr W22
          have lf17_9_v22 := lf17_9_v21.wr W22
          have lf17_10_v22 := lf17_10_v21.wr W22
          have lf17_11_v22 := lf17_11_v21.other W22 (Or.inr (slot_ne (Or.inr (wq hw 107 rfl)) (Or.inr (wq hw 188 rfl)) (by decide) (t := (.array .int)) (t' := (.array .int)) (by decide) (by decide)))
          have lf17_12_v22 := lf17_12_v21.other W22 (Or.inr (slot_ne (Or.inr (wq hw 141 rfl)) (Or.inr (wq hw 188 rfl)) (by decide) (t := (.array .char)) (t' := (.array .int)) (by decide) (by decide)))
          have lf17_13_v22 := lf17_13_v21.other W22 ne
          have lf17_14_v22 := lf17_14_v21.other W22 (Ne.symm ne_a1_b3)
          have lf17_15_v22 := lf17_15_v21.other W22 (Ne.symm ne_a1_b13)
          have nf21_0_v22 := nf21_0_v21.other W22 (Ne.symm ne_a1_so)
          have Z22 : Lq n0 h22.size := Nat.le_trans Z21 (Nat.le_of_eq W22.size.symm)
          have K22 := KK21.wr W22 (Or.inl (by simp))
          have F22_v22 : Fld Z h22 a1 "com/example/even_roster/evenroster/scim/SortedSuffixes" "sorted" "[I" (.ref so) := lf17_1_v21.same W22
          have N22 := Fr.snoc X22 N21 ga
          refine hG ?_
          obtain ⟨fs, hr, hrun, hended, hW, hsame⟩ := X22.leave (v := none) (fun _ => rfl)
          refine ⟨_, _, prL17 _ ?_, hrun, hended, _, _, rfl, ?_, ⟨_, rfl⟩, hW, hsame.mono (by decide) (by decide)⟩
          · show Steps p.tables e below (TL17.setTop (mkF m 83 #[.val (.ref a1), .val (.ref a2), .val (.int (oi i2))] [])) _
            refine XS.iloadN XL17.here hx rfl (dq hby D16 43 rfl) rfl ?_
            refine XS.aloadN XL17.here hx rfl (dq hby D16 44 rfl) rfl rfl ?_
            refine st18.trans ?_
            show Steps p.tables e below (T18.setTop (mkF m 90 #[.val (.ref a1), .val (.ref a2), .val (.int (oi i2))] [(.int (oi K)), (.int (oi i2))])) _
            refine XS.icmpYes X18.here hx rfl (pc0 := 90) (pc' := 136) rfl (dq hby D16 46 rfl) rfl (flt ((by rw [oi_lt (by omega) (by omega)]; omega) : ¬ ((oi i2) < (oi K)))).2.1 (by decide) (by decide) ?_
            refine XS.aloadN X18.here hx rfl (dq hby D16 66 rfl) rfl rfl ?_
            refine XS.aloadN X18.here hx rfl (dq hby D16 67 rfl) rfl rfl ?_
            refine st19 _ ?_
            refine XS.aloadN X19.here hx rfl (dq hby D16 69 rfl) rfl rfl ?_
            refine st20 _ ?_
            refine st21 _ ?_
            refine st22 _ ?_
            exact X22.returnOut hx Bd.returns (dq hby D16 73 rfl) hr
          · show Q_rnew Z a1 a2 el K cs fo sa sb su sn sc sg EL h0 n0 _ T22.heap _
            rw [e22]
            exact ⟨_, _, _, _, _, rfl, N22, K22, lf17_11_v22, lf17_12_v22, F22_v22, lf17_14_v22, lf17_15_v22, nf21_0_v22, hFs⟩
        | succ k17 ih17 =>
          intro TL17 Lc17 hL17 i2 fc XL17 eL17 NL17 ZL17 KL17 lf17_0_v17 lf17_1_v17 lf17_2_v17 lf17_3_v17 lf17_4_v17 lf17_5_v17 lf17_6_v17 lf17_7_v17 lf17_8_v17 lf17_9_v17 lf17_10_v17 lf17_11_v17 lf17_12_v17 lf17_13_v17 lf17_14_v17 lf17_15_v17 hk2 hBf prL17
          obtain ⟨ys, eys⟩ : ∃ z, z = sa i2 := ⟨_, rfl⟩
          obtain ⟨yb, eyb⟩ : ∃ z, z = sb i2 := ⟨_, rfl⟩
          obtain ⟨SE_v0, SV_v0, SC_v0, SA_v0⟩ := lf17_5_v17 i2 (by omega)
          have hsi := hsl i2 (by omega)
          have hel := hEL i2 (by omega)
          have nes_b13 := aw_b13 i2 (by omega)
          rw [← eys] at SE_v0 SV_v0 SC_v0 hel nes_b13
          rw [← eyb] at SV_v0 SA_v0 nes_b13
          have hcu1 := cum_at (su := su) (show i2 < K by omega)
          have ne_ys_b13 : Dif ys b13 := nes_b13.1
          have ne_yb_b13 : Dif yb b13 := nes_b13.2
          clear nes_b13
          obtain ⟨cq23, kq23, q23a, q23b, q23c⟩ := isOf hZ eL17 lf17_2_v17
          obtain ⟨_, _, ⟨T23, L23, k23, n23⟩, -, X23, ⟨Lc23, hQ23, l23, y23, z23⟩, st23⟩ := XL17.interfaceBack hx (xi := (⟨"java/util/List", "size", "()I"⟩ : MethodName)) (y := (⟨"java/util/ArrayList", "size", "()I"⟩ : MethodName)) hown (mvT hZ (wq hw 97 rfl)) (mvT hZ (wq hw 98 rfl)) (mvT hZ (wq hw 99 rfl)) (mvT hZ (wq hw 100 rfl)) (mvT hZ (wq hw 101 rfl)) (mvT hZ (wq hw 102 rfl)) (mvT hZ (wq hw 103 rfl)) (mvT hZ (wq hw 104 rfl)) (by decide) (backOf (W := 1) (rsize l Z a0 hw [] a2 K hL17 n0 ZL17 lf17_4_v17) hZ (wq hw 105 rfl) (wq hw 2 rfl) (by decide) (by decide)) q23a q23b q23c (g := (mkF m 85 #[.val (.ref a1), .val (.ref a2), .val (.int (oi i2))] [(.ref a2), (.int (oi i2))])) rfl (by rw [hml]; rfl) (Steps.refl _) (argsL := []) (rest := [(.int (oi i2))]) (lenOf pd_14 rfl) rfl (by show 2 * 0 + _ ≤ _; exact Nat.le_of_eq rfl) (dq hby D16 45 rfl) (fun _ _ => ⟨rfl, eL17, (by decide : 2 + 0 ≤ _), (by decide : 10 + 0 ≤ _)⟩)
          dsimp only [Pt.U, Pt.locs, Pt.cells, Pt.slots] at X23 l23 y23 z23 st23 hQ23
          subst l23 y23 z23
          obtain ⟨rfl, N23q, e23⟩ := hQ23
          have N23 := Fr.app NL17 N23q
          obtain ⟨cq24, kq24, q24a, q24b, q24c⟩ := isOf hZ e23 lf17_2_v17
          obtain ⟨_, _, ⟨T24, L24, k24, n24⟩, -, X24, ⟨Lc24, hQ24, l24, y24, z24⟩, st24⟩ := X23.interfaceBack hx (xi := (⟨"java/util/List", "get", "(I)Ljava/lang/Object;"⟩ : MethodName)) (y := (⟨"java/util/ArrayList", "get", "(I)Ljava/lang/Object;"⟩ : MethodName)) hown (mvT hZ (wq hw 108 rfl)) (mvT hZ (wq hw 109 rfl)) (mvT hZ (wq hw 110 rfl)) (mvT hZ (wq hw 111 rfl)) (mvT hZ (wq hw 112 rfl)) (mvT hZ (wq hw 113 rfl)) (mvT hZ (wq hw 114 rfl)) (mvT hZ (wq hw 104 rfl)) (by decide) (backOf (W := 0) (rget l Z a0 hw [] a2 el ys (i2) K EL hL17 n0 ZL17 lf17_2_v17 lf17_3_v17 lf17_4_v17 lf17_13_v17 (by omega) (by omega) hel) hZ (wq hw 115 rfl) (wq hw 2 rfl) (by decide) (by decide)) q24a q24b q24c (g := (mkF m 95 #[.val (.ref a1), .val (.ref a2), .val (.int (oi i2))] [(.int (oi i2)), (.ref a2)])) rfl (by rw [hml]; rfl) (Steps.refl _) (argsL := [(.int (oi i2))]) (rest := []) (lenOf pd_29 rfl) rfl (by show 2 * 0 + _ ≤ _; exact Nat.le_of_eq rfl) (dq hby D16 49 rfl) (fun _ _ => ⟨rfl, e23, (by decide : 2 + 0 ≤ _), (by decide : 10 + 0 ≤ _)⟩)
          dsimp only [Pt.U, Pt.locs, Pt.cells, Pt.slots] at X24 l24 y24 z24 st24 hQ24
          subst l24 y24 z24
          obtain ⟨rfl, N24q, e24⟩ := hQ24
          have N24 := Fr.app N23 N24q
          obtain ⟨T25, X25, e25, st25⟩ := castY X24 hx hZ hown (wq hw 129 rfl) e24 (Ins.self SE_v0) (g := (mkF m 100 #[.val (.ref a1), .val (.ref a2), .val (.int (oi i2))] [(.ref ys)])) rfl rfl (dq hby D16 50 rfl)
          obtain ⟨cq26, kq26, q26a, q26b, q26c⟩ := isOf hZ e25 lf17_2_v17
          obtain ⟨_, _, ⟨T26, L26, k26, n26⟩, -, X26, ⟨Lc26, hQ26, l26, y26, z26⟩, st26⟩ := X25.interfaceBack hx (xi := (⟨"java/util/List", "get", "(I)Ljava/lang/Object;"⟩ : MethodName)) (y := (⟨"java/util/ArrayList", "get", "(I)Ljava/lang/Object;"⟩ : MethodName)) hown (mvT hZ (wq hw 108 rfl)) (mvT hZ (wq hw 109 rfl)) (mvT hZ (wq hw 110 rfl)) (mvT hZ (wq hw 111 rfl)) (mvT hZ (wq hw 112 rfl)) (mvT hZ (wq hw 113 rfl)) (mvT hZ (wq hw 114 rfl)) (mvT hZ (wq hw 104 rfl)) (by decide) (backOf (W := 2) (rget l Z a0 hw [] a2 el ys (i2) K EL hL17 n0 ZL17 lf17_2_v17 lf17_3_v17 lf17_4_v17 lf17_13_v17 (by omega) (by omega) hel) hZ (wq hw 115 rfl) (wq hw 2 rfl) (by decide) (by decide)) q26a q26b q26c (g := (mkF m 106 #[.val (.ref a1), .val (.ref a2), .val (.int (oi i2))] [(.int (oi i2)), (.ref a2), (.int (0 : Int32)), (.ref ys)])) rfl (by rw [hml]; rfl) (Steps.refl _) (argsL := [(.int (oi i2))]) (rest := [(.int (0 : Int32)), (.ref ys)]) (lenOf pd_29 rfl) rfl (by show 2 * 0 + _ ≤ _; exact Nat.le_of_eq rfl) (dq hby D16 54 rfl) (fun _ _ => ⟨rfl, e25, (by decide : 2 + 0 ≤ _), (by decide : 10 + 0 ≤ _)⟩)
          dsimp only [Pt.U, Pt.locs, Pt.cells, Pt.slots] at X26 l26 y26 z26 st26 hQ26
          subst l26 y26 z26
          obtain ⟨rfl, N26q, e26⟩ := hQ26
          have N26 := Fr.app N24 N26q
          obtain ⟨T27, X27, e27, st27⟩ := castY X26 hx hZ hown (wq hw 129 rfl) e26 (Ins.self SE_v0) (g := (mkF m 111 #[.val (.ref a1), .val (.ref a2), .val (.int (oi i2))] [(.ref ys), (.int (0 : Int32)), (.ref ys)])) rfl rfl (dq hby D16 55 rfl)
          obtain ⟨cq28, kq28, q28a, q28b, q28c⟩ := isOf hZ e27 SE_v0
          obtain ⟨_, _, ⟨T28, L28, k28, n28⟩, -, X28, ⟨Lc28, hQ28, l28, y28, z28⟩, st28⟩ := X27.virtualBack hx (y := (⟨"java/lang/String", "length", "()I"⟩ : MethodName)) (z := (⟨"java/lang/String", "length", "()I"⟩ : MethodName)) hown (mvT hZ (wq hw 130 rfl)) (mvT hZ (wq hw 131 rfl)) (notFace_of_selects (args := #[]) (mvT hZ (wq hw 133 rfl))) (mvT hZ (wq hw 133 rfl)) (mvT hZ (wq hw 132 rfl)) (by decide) (backOf (W := 2) (rlen l Z a0 hw [] ys yb cs (sc i2) (su i2) (sn i2) (sg i2) hL17 n0 ZL17 lf17_6_v17 SE_v0 SV_v0 SC_v0 SA_v0 hcs hsi.1 hsi.2) hZ (wq hw 134 rfl) (wq hw 32 rfl) (by decide) (by decide)) q28a q28c (g := (mkF m 114 #[.val (.ref a1), .val (.ref a2), .val (.int (oi i2))] [(.ref ys), (.int (0 : Int32)), (.ref ys)])) rfl (by rw [hml]; rfl) (Steps.refl _) (argsL := []) (rest := [(.int (0 : Int32)), (.ref ys)]) (lenOf pd_14 rfl) rfl (by show 2 * 0 + _ ≤ _; exact Nat.le_of_eq rfl) (dq hby D16 56 rfl) (fun _ _ => ⟨rfl, e27, (by decide : 2 + 0 ≤ _), (by decide : 10 + 0 ≤ _)⟩)
          dsimp only [Pt.U, Pt.locs, Pt.cells, Pt.slots] at X28 l28 y28 z28 st28 hQ28
          subst l28 y28 z28
          obtain ⟨rfl, N28q, e28⟩ := hQ28
          have N28 := Fr.app N26 N28q
          obtain ⟨T29, X29, e29, st29⟩ := getF X28 hx hZ hown (host := "") (Or.inl (wq hw 140 rfl)) Via.refl e28 lf17_12_v17 (g := (mkF m 118 #[.val (.ref a1), .val (.ref a2), .val (.int (oi i2))] [(.ref a1), (.int (oi (su i2))), (.int (0 : Int32)), (.ref ys)])) rfl rfl (dq hby D16 58 rfl)
          obtain ⟨T30, X30, e30, st30⟩ := getF X29 hx hZ hown (host := "") (Or.inl (wq hw 106 rfl)) Via.refl e29 lf17_11_v17 (g := (mkF m 122 #[.val (.ref a1), .val (.ref a2), .val (.int (oi i2))] [(.ref a1), (.ref b13), (.int (oi (su i2))), (.int (0 : Int32)), (.ref ys)])) rfl rfl (dq hby D16 60 rfl)
          obtain ⟨cl31, Ar31, S31, H31⟩ := id lf17_14_v17
          replace S31 : Sq cl31.slots.size _ := S31
          have hin31 : Hq (oi i2) cl31.slots.size := oi_at S31 (by omega) (by omega)
          have hat31 : cl31.slots[((oi i2)).toNatClampNeg]? = some (.int (oi (cum su i2))) := ArF.at S31 H31 hin31 (congrArg (fun zz => Value.int (oi zz)) ((congrArg (cum su) (oi_n (by omega))).trans rfl))
          obtain ⟨cq32, kq32, q32a, q32b, q32c⟩ := isOf hZ e30 SE_v0
          obtain ⟨_, _, ⟨T32, L32, k32, n32⟩, -, X32, ⟨Lc32, hQ32, l32, y32, z32⟩, st32⟩ := X30.virtualBack hx (y := (⟨"java/lang/String", "getChars", "(II[CI)V"⟩ : MethodName)) (z := (⟨"java/lang/String", "getChars", "(II[CI)V"⟩ : MethodName)) hown (mvT hZ (wq hw 142 rfl)) (mvT hZ (wq hw 143 rfl)) (notFace_of_selects (args := #[]) (mvT hZ (wq hw 145 rfl))) (mvT hZ (wq hw 145 rfl)) (mvT hZ (wq hw 144 rfl)) (by decide) (backOf (W := 0) (rsgc l Z a0 hw [] ys b13 yb 0 (su i2) (cum su i2) (cum su K) (sn i2) cs (sc i2) (sg i2) fc fo hL17 n0 ZL17 SE_v0 SV_v0 SC_v0 SA_v0 lf17_15_v17 lf17_6_v17 lf17_7_v17 lf17_8_v17 lf17_9_v17 lf17_10_v17 hcs hfo hsi.1 g_b13 ne_ys_b13 ne_yb_b13 rfl (by omega) (by omega) hBf hsi.2) hZ (wq hw 146 rfl) (wq hw 32 rfl) (by decide) (by decide)) q32a q32c (g := (mkF m 127 #[.val (.ref a1), .val (.ref a2), .val (.int (oi i2))] [(.int (oi (cum su i2))), (.ref b13), (.int (oi (su i2))), (.int (0 : Int32)), (.ref ys)])) rfl (by rw [hml]; rfl) (Steps.refl _) (argsL := [(.int (0 : Int32)), (.int (oi (su i2))), (.ref b13), (.int (oi (cum su i2)))]) (rest := []) (lenOf pd_31 rfl) rfl (by show 2 * 0 + _ ≤ _; exact Nat.le_of_eq rfl) (dq hby D16 63 rfl) (fun _ _ => ⟨rfl, e30, (by decide : 2 + 0 ≤ _), (by decide : 10 + 0 ≤ _)⟩)
          dsimp only [Pt.U, Pt.locs, Pt.cells, Pt.slots] at X32 l32 y32 z32 st32 hQ32
          subst l32 y32 z32
          obtain ⟨fn, rfl, N32q, Kc32, nf32_0_v32, hBn⟩ := hQ32
          have N32 := Fr.app N28 N32q
          have lf17_0_v32 := lf17_0_v17.keep Kc32
          have lf17_1_v32 := lf17_1_v17.keep Kc32 (ninS ne_a1_b13 nin0)
          have lf17_2_v32 := lf17_2_v17.keep Kc32
          have lf17_3_v32 := lf17_3_v17.keep Kc32 (ninS ne_a2_b13 nin0)
          have lf17_4_v32 := lf17_4_v17.keep Kc32 (ninS ne_a2_b13 nin0)
          have lf17_5_v32 := lf17_5_v17.keep1 Kc32 aw_b13
          have lf17_6_v32 := Sta.keepW lf17_6_v17 Kc32 (nosS (nosV lf17_15_v17) nos0)
          have lf17_7_v32 := Sta.keepW lf17_7_v17 Kc32 (nosS (nosV lf17_15_v17) nos0)
          have lf17_8_v32 := Sta.keepW lf17_8_v17 Kc32 (nosS (nosV lf17_15_v17) nos0)
          have lf17_9_v32 := Sta.keepW lf17_9_v17 Kc32 (nosS (nosV lf17_15_v17) nos0)
          have lf17_10_v32 := Sta.keepW lf17_10_v17 Kc32 (nosS (nosV lf17_15_v17) nos0)
          have lf17_11_v32 := lf17_11_v17.keep Kc32 (ninS ne_a1_b13 nin0)
          have lf17_12_v32 := lf17_12_v17.keep Kc32 (ninS ne_a1_b13 nin0)
          have lf17_13_v32 := lf17_13_v17.keep Kc32 (ninS ne_el_b13 nin0)
          have lf17_14_v32 := lf17_14_v17.keep Kc32 (ninS ne_b3_b13 nin0)
          have SE_v32 := SE_v0.keep Kc32
          have SV_v32 := SV_v0.keep Kc32 (ninS ne_ys_b13 nin0)
          have SC_v32 := SC_v0.keep Kc32 (ninS ne_ys_b13 nin0)
          have SA_v32 := SA_v0.keep Kc32 (ninS ne_yb_b13 nin0)
          have Z32 : Lq n0 T32.heap.size := Nat.le_trans ZL17 Kc32.1
          have KK32 := KL17.trans Kc32 (allS (Or.inr sz_b13) all0)
          have pre33 : ∀ t, Steps p.tables e below (T32.setTop (mkF m 83 #[.val (.ref a1), .val (.ref a2), .val (.int (oi (i2 + 1)))] [])) t → Steps p.tables e below (s₁.setTop (entryFrame m #[(.ref a1), (.ref a2)] 3)) t := by
            intro t k
            refine prL17 t ?_
            refine XS.iloadN XL17.here hx rfl (dq hby D16 43 rfl) rfl ?_
            refine XS.aloadN XL17.here hx rfl (dq hby D16 44 rfl) rfl rfl ?_
            refine st23.trans ?_
            refine XS.icmpNo X23.here hx rfl (dq hby D16 46 rfl) rfl (tlt ((by rw [oi_lt (by omega) (by omega)]; omega) : ((oi i2) < (oi K)))).2.1 ?_
            refine XS.aloadN X23.here hx rfl (dq hby D16 47 rfl) rfl rfl ?_
            refine XS.iloadN X23.here hx rfl (dq hby D16 48 rfl) rfl ?_
            refine st24.trans ?_
            refine st25 _ ?_
            refine XS.iconst X25.here hx rfl (dq hby D16 51 rfl) ?_
            refine XS.aloadN X25.here hx rfl (dq hby D16 52 rfl) rfl rfl ?_
            refine XS.iloadN X25.here hx rfl (dq hby D16 53 rfl) rfl ?_
            refine st26.trans ?_
            show Steps p.tables e below (T26.setTop (mkF m 111 #[.val (.ref a1), .val (.ref a2), .val (.int (oi i2))] [(.ref ys), (.int (0 : Int32)), (.ref ys)])) _
            refine st27 _ ?_
            refine st28.trans ?_
            refine XS.aloadN X28.here hx rfl (dq hby D16 57 rfl) rfl rfl ?_
            refine st29 _ ?_
            refine XS.aloadN X29.here hx rfl (dq hby D16 59 rfl) rfl rfl ?_
            refine st30 _ ?_
            refine XS.iloadN X30.here hx rfl (dq hby D16 61 rfl) rfl ?_
            refine X30.iaload hx (j := (oi i2)) (v := (.int (oi (cum su i2)))) (by rw [e30]; exact Ar31.1) (State.isArrayOf_alike hZ.alike Ar31.2.1) Ar31.2.2 hin31 hat31 (g := (mkF m 126 #[.val (.ref a1), .val (.ref a2), .val (.int (oi i2))] [(.int (oi i2)), (.ref b3), (.ref b13), (.int (oi (su i2))), (.int (0 : Int32)), (.ref ys)])) rfl rfl (dq hby D16 62 rfl) _ ?_
            refine st32.trans ?_
            refine XS.iinc X32.here hx rfl (dq hby D16 64 rfl) rfl (l' := #[.val (.ref a1), .val (.ref a2), .val (.int ((oi i2) + (1 : Int32)))]) rfl ?_
            show Steps p.tables e below (T32.setTop (mkF m 133 #[.val (.ref a1), .val (.ref a2), .val (.int ((oi i2) + (1 : Int32)))] [])) _
            rw [oi_s (i2)]
            refine XS.goto X32.here hx rfl (pc0 := 133) (pc' := 83) rfl (dq hby D16 65 rfl) (by decide) (by decide) ?_
            exact k
          exact ih17 _ _ _ (i2 + 1) _ X32 rfl N32 Z32 KK32 lf17_0_v32 lf17_1_v32 lf17_2_v32 lf17_3_v32 lf17_4_v32 lf17_5_v32 lf17_6_v32 lf17_7_v32 lf17_8_v32 lf17_9_v32 lf17_10_v32 lf17_11_v32 lf17_12_v32 lf17_13_v32 lf17_14_v32 nf32_0_v32 (by omega) hBn pre33
      exact loop17 K _ _ _ 0 (fun _ => 0) X15 e15 N15 Z15 K15 lf7_0_v15 lf7_2_v15 lf7_3_v15 lf7_4_v15 lf7_5_v15 lf7_6_v15 lf7_7_v15 lf7_8_v15 lf7_9_v15 lf7_10_v15 lf7_11_v15 lf7_12_v15 F15_v15 lf7_13_v15 VC9_v15 VC14_v15 (by omega) (fun _ _ => zero_B) pre16
    | succ k7 ih7 =>
      intro TL7 Lc7 hL7 i XL7 eL7 NL7 ZL7 KL7 lf7_0_v7 lf7_1_v7 lf7_2_v7 lf7_3_v7 lf7_4_v7 lf7_5_v7 lf7_6_v7 lf7_7_v7 lf7_8_v7 lf7_9_v7 lf7_10_v7 lf7_11_v7 lf7_12_v7 lf7_13_v7 lf7_14_v7 hk prL7
      obtain ⟨ys, eys⟩ : ∃ z, z = sa i := ⟨_, rfl⟩
      obtain ⟨yb, eyb⟩ : ∃ z, z = sb i := ⟨_, rfl⟩
      obtain ⟨SE_v0, SV_v0, SC_v0, SA_v0⟩ := lf7_6_v7 i (by omega)
      have hsi := hsl i (by omega)
      have hel := hEL i (by omega)
      have nes_b3 := aw_b3 i (by omega)
      rw [← eys] at SE_v0 SV_v0 SC_v0 hel nes_b3
      rw [← eyb] at SV_v0 SA_v0 nes_b3
      have hcu1 := cum_at (su := su) (show i < K by omega)
      have ne_ys_b3 : Dif ys b3 := nes_b3.1
      have ne_yb_b3 : Dif yb b3 := nes_b3.2
      clear nes_b3
      obtain ⟨cq34, kq34, q34a, q34b, q34c⟩ := isOf hZ eL7 lf7_3_v7
      obtain ⟨_, _, ⟨T34, L34, k34, n34⟩, -, X34, ⟨Lc34, hQ34, l34, y34, z34⟩, st34⟩ := XL7.interfaceBack hx (xi := (⟨"java/util/List", "size", "()I"⟩ : MethodName)) (y := (⟨"java/util/ArrayList", "size", "()I"⟩ : MethodName)) hown (mvT hZ (wq hw 97 rfl)) (mvT hZ (wq hw 98 rfl)) (mvT hZ (wq hw 99 rfl)) (mvT hZ (wq hw 100 rfl)) (mvT hZ (wq hw 101 rfl)) (mvT hZ (wq hw 102 rfl)) (mvT hZ (wq hw 103 rfl)) (mvT hZ (wq hw 104 rfl)) (by decide) (backOf (W := 1) (rsize l Z a0 hw [] a2 K hL7 n0 ZL7 lf7_5_v7) hZ (wq hw 105 rfl) (wq hw 2 rfl) (by decide) (by decide)) q34a q34b q34c (g := (mkF m 22 #[.val (.ref a1), .val (.ref a2), .val (.int (oi i))] [(.ref a2), (.int (oi i))])) rfl (by rw [hml]; rfl) (Steps.refl _) (argsL := []) (rest := [(.int (oi i))]) (lenOf pd_14 rfl) rfl (by show 2 * 0 + _ ≤ _; exact Nat.le_of_eq rfl) (dq hby D16 13 rfl) (fun _ _ => ⟨rfl, eL7, (by decide : 1 + 0 ≤ _), (by decide : 4 + 0 ≤ _)⟩)
      dsimp only [Pt.U, Pt.locs, Pt.cells, Pt.slots] at X34 l34 y34 z34 st34 hQ34
      subst l34 y34 z34
      obtain ⟨rfl, N34q, e34⟩ := hQ34
      have N34 := Fr.app NL7 N34q
      obtain ⟨T35, X35, e35, st35⟩ := getF X34 hx hZ hown (host := "") (Or.inl (wq hw 106 rfl)) Via.refl e34 lf7_12_v7 (g := (mkF m 31 #[.val (.ref a1), .val (.ref a2), .val (.int (oi i))] [(.ref a1)])) rfl rfl (dq hby D16 16 rfl)
      obtain ⟨T36, X36, e36, st36⟩ := getF X35 hx hZ hown (host := "") (Or.inl (wq hw 106 rfl)) Via.refl e35 lf7_12_v7 (g := (mkF m 38 #[.val (.ref a1), .val (.ref a2), .val (.int (oi i))] [(.ref a1), (.int (oi (i + 1))), (.ref b3)])) rfl rfl (dq hby D16 21 rfl)
      obtain ⟨cl37, Ar37, S37, H37⟩ := id lf7_14_v7
      replace S37 : Sq cl37.slots.size _ := S37
      have hin37 : Hq (oi i) cl37.slots.size := oi_at S37 (by omega) (by omega)
      have hat37 : cl37.slots[((oi i)).toNatClampNeg]? = some (.int (oi (cum su i))) := ArF.at S37 H37 hin37 (congrArg (fun zz => Value.int (oi zz)) ((congrArg (tab (cum su) (i + 1)) (oi_n (by omega))).trans (tab_in (by omega))))
      obtain ⟨cq38, kq38, q38a, q38b, q38c⟩ := isOf hZ e36 lf7_3_v7
      obtain ⟨_, _, ⟨T38, L38, k38, n38⟩, -, X38, ⟨Lc38, hQ38, l38, y38, z38⟩, st38⟩ := X36.interfaceBack hx (xi := (⟨"java/util/List", "get", "(I)Ljava/lang/Object;"⟩ : MethodName)) (y := (⟨"java/util/ArrayList", "get", "(I)Ljava/lang/Object;"⟩ : MethodName)) hown (mvT hZ (wq hw 108 rfl)) (mvT hZ (wq hw 109 rfl)) (mvT hZ (wq hw 110 rfl)) (mvT hZ (wq hw 111 rfl)) (mvT hZ (wq hw 112 rfl)) (mvT hZ (wq hw 113 rfl)) (mvT hZ (wq hw 114 rfl)) (mvT hZ (wq hw 104 rfl)) (by decide) (backOf (W := 3) (rget l Z a0 hw [] a2 el ys (i) K EL hL7 n0 ZL7 lf7_3_v7 lf7_4_v7 lf7_5_v7 lf7_13_v7 (by omega) (by omega) hel) hZ (wq hw 115 rfl) (wq hw 2 rfl) (by decide) (by decide)) q38a q38b q38c (g := (mkF m 45 #[.val (.ref a1), .val (.ref a2), .val (.int (oi i))] [(.int (oi i)), (.ref a2), (.int (oi (cum su i))), (.int (oi (i + 1))), (.ref b3)])) rfl (by rw [hml]; rfl) (Steps.refl _) (argsL := [(.int (oi i))]) (rest := [(.int (oi (cum su i))), (.int (oi (i + 1))), (.ref b3)]) (lenOf pd_29 rfl) rfl (by show 2 * 0 + _ ≤ _; exact Nat.le_of_eq rfl) (dq hby D16 26 rfl) (fun _ _ => ⟨rfl, e36, (by decide : 1 + 0 ≤ _), (by decide : 4 + 0 ≤ _)⟩)
      dsimp only [Pt.U, Pt.locs, Pt.cells, Pt.slots] at X38 l38 y38 z38 st38 hQ38
      subst l38 y38 z38
      obtain ⟨rfl, N38q, e38⟩ := hQ38
      have N38 := Fr.app N34 N38q
      obtain ⟨T39, X39, e39, st39⟩ := castY X38 hx hZ hown (wq hw 129 rfl) e38 (Ins.self SE_v0) (g := (mkF m 50 #[.val (.ref a1), .val (.ref a2), .val (.int (oi i))] [(.ref ys), (.int (oi (cum su i))), (.int (oi (i + 1))), (.ref b3)])) rfl rfl (dq hby D16 27 rfl)
      obtain ⟨cq40, kq40, q40a, q40b, q40c⟩ := isOf hZ e39 SE_v0
      obtain ⟨_, _, ⟨T40, L40, k40, n40⟩, -, X40, ⟨Lc40, hQ40, l40, y40, z40⟩, st40⟩ := X39.virtualBack hx (y := (⟨"java/lang/String", "length", "()I"⟩ : MethodName)) (z := (⟨"java/lang/String", "length", "()I"⟩ : MethodName)) hown (mvT hZ (wq hw 130 rfl)) (mvT hZ (wq hw 131 rfl)) (notFace_of_selects (args := #[]) (mvT hZ (wq hw 133 rfl))) (mvT hZ (wq hw 133 rfl)) (mvT hZ (wq hw 132 rfl)) (by decide) (backOf (W := 3) (rlen l Z a0 hw [] ys yb cs (sc i) (su i) (sn i) (sg i) hL7 n0 ZL7 lf7_7_v7 SE_v0 SV_v0 SC_v0 SA_v0 hcs hsi.1 hsi.2) hZ (wq hw 134 rfl) (wq hw 32 rfl) (by decide) (by decide)) q40a q40c (g := (mkF m 53 #[.val (.ref a1), .val (.ref a2), .val (.int (oi i))] [(.ref ys), (.int (oi (cum su i))), (.int (oi (i + 1))), (.ref b3)])) rfl (by rw [hml]; rfl) (Steps.refl _) (argsL := []) (rest := [(.int (oi (cum su i))), (.int (oi (i + 1))), (.ref b3)]) (lenOf pd_14 rfl) rfl (by show 2 * 0 + _ ≤ _; exact Nat.le_of_eq rfl) (dq hby D16 28 rfl) (fun _ _ => ⟨rfl, e39, (by decide : 1 + 0 ≤ _), (by decide : 4 + 0 ≤ _)⟩)
      dsimp only [Pt.U, Pt.locs, Pt.cells, Pt.slots] at X40 l40 y40 z40 st40 hQ40
      subst l40 y40 z40
      obtain ⟨rfl, N40q, e40⟩ := hQ40
      have N40 := Fr.app N38 N40q
      obtain ⟨cl41, Ar41, S41, H41⟩ := id lf7_14_v7
      replace S41 : Sq cl41.slots.size _ := S41
      have hin41 : Hq (oi (i + 1)) cl41.slots.size := oi_at S41 (by omega) (by omega)
      obtain ⟨T41, h41, X41, e41, W41, st41⟩ := stI X40 hx hZ e40 Ar41 (j := (oi (i + 1))) hin41 (g := (mkF m 57 #[.val (.ref a1), .val (.ref a2), .val (.int (oi i))] [(.int (oi (cum su (i + 1)))), (.int (oi (i + 1))), (.ref b3)])) rfl rfl (dq hby D16 30 rfl)
      have lf7_0_v41 := lf7_0_v7.wr W41
      have lf7_1_v41 := lf7_1_v7.other W41 (Or.inl ne_a1_b3)
      have lf7_2_v41 := lf7_2_v7.other W41 (Or.inl ne_a1_b3)
      have lf7_3_v41 := lf7_3_v7.wr W41
      have lf7_4_v41 := lf7_4_v7.other W41 (Or.inl ne_a2_b3)
      have lf7_5_v41 := lf7_5_v7.other W41 (Or.inl ne_a2_b3)
      have lf7_6_v41 := lf7_6_v7.other W41 aw_b3
      have lf7_7_v41 := lf7_7_v7.wr W41
      have lf7_8_v41 := lf7_8_v7.wr W41
      have lf7_9_v41 := lf7_9_v7.wr W41
      have lf7_10_v41 := lf7_10_v7.wr W41
      have lf7_11_v41 := lf7_11_v7.wr W41
      have lf7_12_v41 := lf7_12_v7.other W41 (Or.inl ne_a1_b3)
      have lf7_13_v41 := lf7_13_v7.other W41 ne_el_b3
      have SE_v41 := SE_v0.wr W41
      have SV_v41 := SV_v0.other W41 (Or.inl ne_ys_b3)
      have SC_v41 := SC_v0.other W41 (Or.inl ne_ys_b3)
      have SA_v41 := SA_v0.other W41 ne_yb_b3
      have Z41 : Lq n0 h41.size := Nat.le_trans ZL7 (Nat.le_of_eq W41.size.symm)
      have K41 := KL7.wr W41 (Or.inr sz_b3)
      have V41_v41 := ArF.set Ar41 S41 H41 W41 hin41
      have N41 := Fr.snoc X41 N40 g_b3
      have pre42 : ∀ t, Steps p.tables e below (T41.setTop (mkF m 20 #[.val (.ref a1), .val (.ref a2), .val (.int (oi (i + 1)))] [])) t → Steps p.tables e below (s₁.setTop (entryFrame m #[(.ref a1), (.ref a2)] 3)) t := by
        intro t k
        refine prL7 t ?_
        refine XS.iloadN XL7.here hx rfl (dq hby D16 11 rfl) rfl ?_
        refine XS.aloadN XL7.here hx rfl (dq hby D16 12 rfl) rfl rfl ?_
        refine st34.trans ?_
        refine XS.icmpNo X34.here hx rfl (dq hby D16 14 rfl) rfl (tlt ((by rw [oi_lt (by omega) (by omega)]; omega) : ((oi i) < (oi K)))).2.1 ?_
        refine XS.aloadN X34.here hx rfl (dq hby D16 15 rfl) rfl rfl ?_
        refine st35 _ ?_
        refine XS.iloadN X35.here hx rfl (dq hby D16 17 rfl) rfl ?_
        refine XS.iconst X35.here hx rfl (dq hby D16 18 rfl) ?_
        refine XS.iadd X35.here hx rfl (dq hby D16 19 rfl) rfl ?_
        show Steps p.tables e below (T35.setTop (mkF m 37 #[.val (.ref a1), .val (.ref a2), .val (.int (oi i))] [(.int ((oi i) + (1 : Int32))), (.ref b3)])) _
        rw [oi_s (i)]
        refine XS.aloadN X35.here hx rfl (dq hby D16 20 rfl) rfl rfl ?_
        refine st36 _ ?_
        refine XS.iloadN X36.here hx rfl (dq hby D16 22 rfl) rfl ?_
        refine X36.iaload hx (j := (oi i)) (v := (.int (oi (cum su i)))) (by rw [e36]; exact Ar37.1) (State.isArrayOf_alike hZ.alike Ar37.2.1) Ar37.2.2 hin37 hat37 (g := (mkF m 42 #[.val (.ref a1), .val (.ref a2), .val (.int (oi i))] [(.int (oi i)), (.ref b3), (.int (oi (i + 1))), (.ref b3)])) rfl rfl (dq hby D16 23 rfl) _ ?_
        refine XS.aloadN X36.here hx rfl (dq hby D16 24 rfl) rfl rfl ?_
        refine XS.iloadN X36.here hx rfl (dq hby D16 25 rfl) rfl ?_
        refine st38.trans ?_
        refine st39 _ ?_
        refine st40.trans ?_
        refine XS.iadd X40.here hx rfl (dq hby D16 29 rfl) rfl ?_
        show Steps p.tables e below (T40.setTop (mkF m 57 #[.val (.ref a1), .val (.ref a2), .val (.int (oi i))] [(.int ((oi (cum su i)) + (oi (su i)))), (.int (oi (i + 1))), (.ref b3)])) _
        rw [oi_add ((cum su i)) ((su i))]
        refine st41 _ ?_
        refine XS.iinc X41.here hx rfl (dq hby D16 31 rfl) rfl (l' := #[.val (.ref a1), .val (.ref a2), .val (.int ((oi i) + (1 : Int32)))]) rfl ?_
        show Steps p.tables e below (T41.setTop (mkF m 61 #[.val (.ref a1), .val (.ref a2), .val (.int ((oi i) + (1 : Int32)))] [])) _
        rw [oi_s (i)]
        refine XS.goto X41.here hx rfl (pc0 := 61) (pc' := 20) rfl (dq hby D16 32 rfl) (by decide) (by decide) ?_
        exact k
      exact ih7 _ _ _ (i + 1) X41 e41 N41 Z41 K41 lf7_0_v41 lf7_1_v41 lf7_2_v41 lf7_3_v41 lf7_4_v41 lf7_5_v41 lf7_6_v41 lf7_7_v41 lf7_8_v41 lf7_9_v41 lf7_10_v41 lf7_11_v41 lf7_12_v41 lf7_13_v41 (V41_v41.congr (fun j hj => tab_s (oi_n (k := i + 1) (by omega)) j)) (by omega) pre42
  exact loop7 K _ _ _ 0 X5 e5 N5 Z5 K5 Fp0_v5 Fp2_v5 Fp3_v5 Fp4_v5 Fp5_v5 Fp6_v5 Fp8_v5 Fp9_v5 Fp10_v5 Fp11_v5 Fp12_v5 Fp13_v5 F5_v5 Fp7_v5 VC4_v5 (by omega) pre6
theorem pn_rm0 : plainName "com/example/even_roster/evenroster/scim/SortedSuffixesValuesAtPinLaw" = true := by first | (simp [plainName, overriddenIn]; done) | decide +kernel
theorem ef_rm0 (m : MethodId) (x0 : Int32) (x1 : Int32) (x2 : Int32) (x3 : Int32) (x4 : Int32) (x5 : Int64) : entryFrame m #[(.int x0), (.int x1), (.int x2), (.int x3), (.int x4), (.long x5)] maxLocals = mkF m 0 #[.val (.int x0), .val (.int x1), .val (.int x2), .val (.int x3), .val (.int x4), .val (.long x5), .second, .unset, .unset, .unset, .unset, .unset, .unset, .unset, .unset, .unset, .unset, .unset, .unset, .unset, .unset, .unset, .unset, .unset, .unset, .unset] [] := by first | (simp [entryFrame, mkF, argsToLocals, Value.category, maxLocals]; done) | rfl
def Q_rm0 (Z : State) (p1 : Int32) (p2 : Int32) (p3 : Int32) (p4 : Int32) (p5 : Int32) (q6 : Int64) (cs : Int32) (fo : Value) (dc : Addr) (fd : Nat → Value) (h0 : Heap) (n0 : Nat) (v : Option Value) (h : Heap) (L : List Loc) : Prop := v = some (.int 1) ∧ Fr n0 L
set_option maxRecDepth 65536 in
set_option maxHeartbeats 40000000 in
theorem rm0 (l : Launch) (Z : State) (a0 : Array Value) (hw : ∀ d ∈ tables_1, d.before a0 Z = true) (ws : List Jvm.Cond) (p1 : Int32) (p2 : Int32) (p3 : Int32) (p4 : Int32) (p5 : Int32) (q6 : Int64) (cs : Int32) (fo : Value) (dc : Addr) (fd : Nat → Value) (h0 : Heap) (n0 : Nat) (Z0 : n0 ≤ h0.size) (Fp0 : Sta Z h0 "java/lang/String" "COMPACT_STRINGS" "Z" (.int cs)) (Fp1 : Sta Z h0 "jdk/internal/util/Preconditions" "SIOOBE_FORMATTER" "Ljava/util/function/BiFunction;" fo) (Fp2 : Sta Z h0 "java/lang/StringUTF16" "$assertionsDisabled" "Z" (.int (1 : Int32))) (Fp3 : Sta Z h0 "java/lang/StringUTF16" "HI_BYTE_SHIFT" "I" (.int (0 : Int32))) (Fp4 : Sta Z h0 "java/lang/StringUTF16" "LO_BYTE_SHIFT" "I" (.int (8 : Int32))) (Fp5 : Sta Z h0 "java/util/ArrayList" "DEFAULTCAPACITY_EMPTY_ELEMENTDATA" "[Ljava/lang/Object;" (.ref dc)) (Fp6 : ArF Z h0 dc (.object "java/lang/Object") 0 fd) (hcs : ¬ cs = 0) (hfo : fo.isRef = true) :
    MetFree l x (head1 (Jvm.Cond.code x code maxLocals ret :: ws) room_1) (fun a U => a = #[(.int p1), (.int p2), (.int p3), (.int p4), (.int p5), (.long q6)] ∧ Z.Warmed39 U.vm ∧ U.heap = h0) (fun _ _ _ _ _ => True) (fun _ U o U' => ∃ v L, o = .returned v ∧ Q_rm0 Z p1 p2 p3 p4 p5 q6 cs fo dc fd h0 n0 v U'.heap L ∧ FrameEnd U o U' L room_1.cells room_1.slots) := by
  refine MetFree.of_bodySF (plainFor_of_name pn_rm0) hisR ?_
  intro p e s m args below meth c s₁ Bd hml0 hP hK
  obtain ⟨rfl, hZ, hh⟩ := hP
  have hx := Bd.exec
  have hby := Bd.bytes
  have hml : c.maxLocals = 26 := hml0
  have hown : s.vm.findClass "com/example/even_roster/evenroster/scim/SortedSuffixesValuesAtPinLaw" = some m.cls := findClass_of_methodNamed Bd.named
  have hnm := (name_of_methodNamed Bd.named Bd.method).1
  have X0 : Stand p l e room_1 s m #[(.int p1), (.int p2), (.int p3), (.int p4), (.int p5), (.long q6)] below meth c s₁ [] 0 0 := Stand.of_body Bd
  have e0 : s₁.heap = h0 := by rw [← hh, Bd.state]; rfl
  have N0 := Fr.nil n0
  have pre0 : ∀ t, Steps p.tables e below (s₁.setTop (mkF m 0 #[.val (.int p1), .val (.int p2), .val (.int p3), .val (.int p4), .val (.int p5), .val (.long q6), .second, .unset, .unset, .unset, .unset, .unset, .unset, .unset, .unset, .unset, .unset, .unset, .unset, .unset, .unset, .unset, .unset, .unset, .unset, .unset] [])) t → Steps p.tables e below (s₁.setTop (entryFrame m #[(.int p1), (.int p2), (.int p3), (.int p4), (.int p5), (.long q6)] maxLocals)) t := fun t k => castTop (ef_rm0 m p1 p2 p3 p4 p5 q6) k
  refine own_cps fun G hG => ?_
  obtain ⟨tv, htv⟩ : ∃ z : Int32, z = ((1 : Int32) + ((p4 &&& (3 : Int32)) - ((p4 &&& (3 : Int32)) / (3 : Int32)) * (3 : Int32))) := ⟨_, rfl⟩
  obtain ⟨su0, hsu0, esu0⟩ := own_len ((p4.toUInt32 >>> ((2 : Int32) &&& 31).toUInt32).toInt32)
  obtain ⟨su1, hsu1, esu1⟩ := own_len ((p4.toUInt32 >>> ((3 : Int32) &&& 31).toUInt32).toInt32)
  obtain ⟨su2, hsu2, esu2⟩ := own_len ((p4.toUInt32 >>> ((4 : Int32) &&& 31).toUInt32).toInt32)
  obtain ⟨y1, hy1⟩ : ∃ z : Int32, z = (p1.toUInt32.toUInt16.toUInt32.toInt32) := ⟨_, rfl⟩
  obtain ⟨y2, hy2⟩ : ∃ z : Int32, z = (((p1.toUInt32 >>> ((16 : Int32) &&& 31).toUInt32).toInt32).toUInt32.toUInt16.toUInt32.toInt32) := ⟨_, rfl⟩
  obtain ⟨y3, hy3⟩ : ∃ z : Int32, z = (p2.toUInt32.toUInt16.toUInt32.toInt32) := ⟨_, rfl⟩
  obtain ⟨y4, hy4⟩ : ∃ z : Int32, z = (((p2.toUInt32 >>> ((16 : Int32) &&& 31).toUInt32).toInt32).toUInt32.toUInt16.toUInt32.toInt32) := ⟨_, rfl⟩
  obtain ⟨y5, hy5⟩ : ∃ z : Int32, z = (p3.toUInt32.toUInt16.toUInt32.toInt32) := ⟨_, rfl⟩
  obtain ⟨y6, hy6⟩ : ∃ z : Int32, z = (((p3.toUInt32 >>> ((16 : Int32) &&& 31).toUInt32).toInt32).toUInt32.toUInt16.toUInt32.toInt32) := ⟨_, rfl⟩
  obtain ⟨y7, hy7⟩ : ∃ z : Int32, z = (((q6.toUInt64 >>> ((32 : Int32) &&& 0x3f).toInt64.toUInt64).toInt64).toInt32) := ⟨_, rfl⟩
  obtain ⟨y8, hy8⟩ : ∃ z : Int32, z = (q6.toInt32) := ⟨_, rfl⟩
  obtain ⟨T9, h9, X9, e9, E9, A9, D9, -, st9⟩ := newO X0 hx hZ hown (wq hw 0 rfl) (wq hw 1 rfl) (wq hw 2 rfl) e0 (g := (mkF m 82 #[.val (.int p1), .val (.int p2), .val (.int p3), .val (.int p4), .val (.int p5), .val (.long q6), .second, .val (.int tv), .val (.int (oi su0)), .val (.int (oi su1)), .val (.int (oi su2)), .val (.int y1), .val (.int y2), .val (.int y3), .val (.int y4), .val (.int y5), .val (.int y6), .val (.int y7), .val (.int y8), .unset, .unset, .unset, .unset, .unset, .unset, .unset] [])) rfl (hb hby at_82) (by decide) (by decide)
  obtain ⟨b9, g9⟩ : ∃ z, z = h0.size := ⟨_, rfl⟩
  rw [← g9] at A9 D9 st9
  have ne_dc_b9 : Dif dc b9 := Nat.ne_of_lt (Nat.lt_of_lt_of_le Fp6.lt (Nat.le_of_eq g9.symm))
  have g_b9 : Lq n0 b9 := Nat.le_trans Z0 (Nat.le_of_eq g9.symm)
  clear g9
  have Fp0_v9 := Fp0.ext E9
  have Fp1_v9 := Fp1.ext E9
  have Fp2_v9 := Fp2.ext E9
  have Fp3_v9 := Fp3.ext E9
  have Fp4_v9 := Fp4.ext E9
  have Fp5_v9 := Fp5.ext E9
  have Fp6_v9 := Fp6.ext E9
  have Z9 : Lq n0 h9.size := Nat.le_trans Z0 E9.1
  have Ex9_v9 : Exa Z h9 b9 "java/util/ArrayList" := A9
  have F9modCount_v9 : Fld Z h9 b9 "java/util/AbstractList" "modCount" "I" (.int (0 : Int32)) := D9 (Or.inl (wq hw 22 rfl)) (ty := .int) (by decide)
  have F9elementData_v9 : Fld Z h9 b9 "java/util/ArrayList" "elementData" "[Ljava/lang/Object;" .null := D9 (Or.inl (wq hw 25 rfl)) (ty := (.array (.object "java/lang/Object"))) (by decide)
  have F9size_v9 : Fld Z h9 b9 "java/util/ArrayList" "size" "I" (.int (0 : Int32)) := D9 (Or.inl (wq hw 66 rfl)) (ty := .int) (by decide)
  obtain ⟨_, _, ⟨T10, L10, k10, n10⟩, -, X10, ⟨Lc10, hQ10, l10, y10, z10⟩, st10⟩ := X9.specialBack hx (y := (⟨"java/util/ArrayList", "<init>", "()V"⟩ : MethodName)) rfl hown (mvT hZ (wq hw 3 rfl)) (mvT hZ (wq hw 4 rfl)) (mvT hZ (wq hw 5 rfl)) (by decide) (backOf (W := 1) (ral1 l Z a0 hw [] b9 dc h9 n0 Z9 Ex9_v9 F9modCount_v9 F9elementData_v9 F9size_v9 Fp5_v9 g_b9) hZ (wq hw 5 rfl) (wq hw 2 rfl) (by decide) (by decide)) (g := (mkF m 86 #[.val (.int p1), .val (.int p2), .val (.int p3), .val (.int p4), .val (.int p5), .val (.long q6), .second, .val (.int tv), .val (.int (oi su0)), .val (.int (oi su1)), .val (.int (oi su2)), .val (.int y1), .val (.int y2), .val (.int y3), .val (.int y4), .val (.int y5), .val (.int y6), .val (.int y7), .val (.int y8), .unset, .unset, .unset, .unset, .unset, .unset, .unset] [(.ref b9), (.ref b9)])) rfl (by rw [hml]; rfl) (Steps.refl _) (a := b9) (argsL := []) (rest := [(.ref b9)]) (lenOf pd_24 rfl) rfl (by show 2 * 0 + _ ≤ _; exact Nat.le_of_eq rfl) (hb hby at_86) (fun _ _ => ⟨rfl, e9, (by decide : 1 + 0 ≤ _), (by decide : 3 + 0 ≤ _)⟩)
  dsimp only [Pt.U, Pt.locs, Pt.cells, Pt.slots] at X10 l10 y10 z10 st10 hQ10
  subst l10 y10 z10
  obtain ⟨rfl, N10q, Kc10, nf10_0_v10, nf10_1_v10, nf10_2_v10⟩ := hQ10
  have N10 := Fr.app N0 N10q
  have Fp0_v10 := Sta.keepW Fp0_v9 Kc10 (nosS (nosE Ex9_v9) nos0)
  have Fp1_v10 := Sta.keepW Fp1_v9 Kc10 (nosS (nosE Ex9_v9) nos0)
  have Fp2_v10 := Sta.keepW Fp2_v9 Kc10 (nosS (nosE Ex9_v9) nos0)
  have Fp3_v10 := Sta.keepW Fp3_v9 Kc10 (nosS (nosE Ex9_v9) nos0)
  have Fp4_v10 := Sta.keepW Fp4_v9 Kc10 (nosS (nosE Ex9_v9) nos0)
  have Fp5_v10 := Sta.keepW Fp5_v9 Kc10 (nosS (nosE Ex9_v9) nos0)
  have Fp6_v10 := Fp6_v9.keep Kc10 (ninS ne_dc_b9 nin0)
  have Ex9_v10 := Ex9_v9.keep Kc10
  have Z10 : Lq n0 T10.heap.size := Nat.le_trans Z9 Kc10.1
  obtain ⟨_, _, ⟨T11, L11, k11, n11⟩, -, X11, ⟨Lc11, hQ11, l11, y11, z11⟩, st11⟩ := Jvm.LawKit.callS X10 hx (y := (⟨"com/example/even_roster/evenroster/scim/SortedSuffixesValuesAtPinLaw", "text", "(ICC)Ljava/lang/String;"⟩ : MethodName)) hown (mvT hZ (wq hw 26 rfl)) (mvT hZ (wq hw 27 rfl)) (mvT hZ (wq hw 28 rfl)) (mvT hZ (wq hw 29 rfl)) (by decide) (backOf (W := 1) (rtext l Z a0 hw [] y1 y2 su0 cs T10.heap n0 Z10 Fp0_v10 Fp2_v10 Fp3_v10 Fp4_v10 hcs hsu0) hZ (wq hw 29 rfl) (wq hw 28 rfl) (by decide) (by decide)) (g := (mkF m 99 #[.val (.int p1), .val (.int p2), .val (.int p3), .val (.int p4), .val (.int p5), .val (.long q6), .second, .val (.int tv), .val (.int (oi su0)), .val (.int (oi su1)), .val (.int (oi su2)), .val (.int y1), .val (.int y2), .val (.int y3), .val (.int y4), .val (.int y5), .val (.int y6), .val (.int y7), .val (.int y8), .val (.ref b9), .unset, .unset, .unset, .unset, .unset, .unset] [(.int y2), (.int y1), (.int (oi su0)), (.ref b9)])) rfl (by rw [hml]; rfl) (argsL := [(.int (oi su0)), (.int y1), (.int y2)]) (rest := [(.ref b9)]) (lenOf pd_32 rfl) rfl (by show 2 * 0 + _ ≤ _; exact Nat.le_of_eq rfl) (hb hby at_99) (fun _ _ => ⟨rfl, rfl, (by decide : 1 + 4 ≤ _), (by decide : 3 + 12 ≤ _)⟩)
  dsimp only [Pt.U, Pt.locs, Pt.cells, Pt.slots] at X11 l11 y11 z11 st11 hQ11
  subst l11 y11 z11
  obtain ⟨sa0, sb0, sn0, sc0, sg0, rfl, N11q, Kc11, sb_sa0, sb_sb0, ne_sa0_sb0, nf11_0_v11, nf11_1_v11, nf11_2_v11, nf11_3_v11, hsd0⟩ := hQ11
  have N11 := Fr.app N10 N11q
  replace ne_sa0_sb0 : Dif sa0 sb0 := ne_sa0_sb0
  replace sb_sa0 : Lq _ _ := sb_sa0
  have ne_dc_sa0 : Dif dc sa0 := Nat.ne_of_lt (Nat.lt_of_lt_of_le Fp6_v10.lt sb_sa0)
  have ne_b9_sa0 : Dif b9 sa0 := Nat.ne_of_lt (Nat.lt_of_lt_of_le Ex9_v10.lt sb_sa0)
  have g_sa0 : Lq n0 sa0 := Nat.le_trans Z10 sb_sa0
  replace sb_sb0 : Lq _ _ := sb_sb0
  have ne_dc_sb0 : Dif dc sb0 := Nat.ne_of_lt (Nat.lt_of_lt_of_le Fp6_v10.lt sb_sb0)
  have ne_b9_sb0 : Dif b9 sb0 := Nat.ne_of_lt (Nat.lt_of_lt_of_le Ex9_v10.lt sb_sb0)
  have g_sb0 : Lq n0 sb0 := Nat.le_trans Z10 sb_sb0
  have Fp0_v11 := Sta.keep0 Fp0_v10 Kc11
  have Fp1_v11 := Sta.keep0 Fp1_v10 Kc11
  have Fp2_v11 := Sta.keep0 Fp2_v10 Kc11
  have Fp3_v11 := Sta.keep0 Fp3_v10 Kc11
  have Fp4_v11 := Sta.keep0 Fp4_v10 Kc11
  have Fp5_v11 := Sta.keep0 Fp5_v10 Kc11
  have Fp6_v11 := Fp6_v10.keep Kc11 nin0
  have Ex9_v11 := Ex9_v10.keep Kc11
  have nf10_0_v11 := nf10_0_v10.keep Kc11 nin0
  have nf10_1_v11 := nf10_1_v10.keep Kc11 nin0
  have nf10_2_v11 := nf10_2_v10.keep Kc11 nin0
  have Z11 : Lq n0 T11.heap.size := Nat.le_trans Z10 Kc11.1
  obtain ⟨cq12, kq12, q12a, q12b, q12c⟩ := isOf hZ rfl Ex9_v11
  obtain ⟨_, _, ⟨T12, L12, k12, n12⟩, -, X12, ⟨Lc12, hQ12, l12, y12, z12⟩, st12⟩ := X11.virtualBack hx (y := (⟨"java/util/ArrayList", "add", "(Ljava/lang/Object;)Z"⟩ : MethodName)) (z := (⟨"java/util/ArrayList", "add", "(Ljava/lang/Object;)Z"⟩ : MethodName)) hown (mvT hZ (wq hw 58 rfl)) (mvT hZ (wq hw 59 rfl)) (notFace_of_selects (args := #[]) (mvT hZ (wq hw 61 rfl))) (mvT hZ (wq hw 61 rfl)) (mvT hZ (wq hw 60 rfl)) (by decide) (backOf (W := 0) (radg l Z a0 hw [] b9 sa0 dc fd T11.heap n0 Z11 Ex9_v11 nf10_0_v11 nf10_1_v11 nf10_2_v11 Fp6_v11 Fp5_v11 nf11_0_v11 g_b9 ne_dc_b9) hZ (wq hw 62 rfl) (wq hw 2 rfl) (by decide) (by decide)) q12a q12c (g := (mkF m 102 #[.val (.int p1), .val (.int p2), .val (.int p3), .val (.int p4), .val (.int p5), .val (.long q6), .second, .val (.int tv), .val (.int (oi su0)), .val (.int (oi su1)), .val (.int (oi su2)), .val (.int y1), .val (.int y2), .val (.int y3), .val (.int y4), .val (.int y5), .val (.int y6), .val (.int y7), .val (.int y8), .val (.ref b9), .unset, .unset, .unset, .unset, .unset, .unset] [(.ref sa0), (.ref b9)])) rfl (by rw [hml]; rfl) (Steps.refl _) (argsL := [(.ref sa0)]) (rest := []) (lenOf pd_33 rfl) rfl (by show 2 * 0 + _ ≤ _; exact Nat.le_of_eq rfl) (hb hby at_102) (fun _ _ => ⟨rfl, rfl, (by decide : 5 + 1 ≤ _), (by decide : 15 + 10 ≤ _)⟩)
  dsimp only [Pt.U, Pt.locs, Pt.cells, Pt.slots] at X12 l12 y12 z12 st12 hQ12
  subst l12 y12 z12
  obtain ⟨el, rfl, N12q, Kc12, sb_el, nf12_0_v12, nf12_1_v12, nf12_2_v12, nf12_3_v12⟩ := hQ12
  have N12 := Fr.app N11 N12q
  replace sb_el : Lq _ _ := sb_el
  have ne_dc_el : Dif dc el := Nat.ne_of_lt (Nat.lt_of_lt_of_le Fp6_v11.lt sb_el)
  have ne_b9_el : Dif b9 el := Nat.ne_of_lt (Nat.lt_of_lt_of_le Ex9_v11.lt sb_el)
  have ne_sa0_el : Dif sa0 el := Nat.ne_of_lt (Nat.lt_of_lt_of_le nf11_0_v11.lt sb_el)
  have ne_sb0_el : Dif sb0 el := Nat.ne_of_lt (Nat.lt_of_lt_of_le nf11_3_v11.lt sb_el)
  have g_el : Lq n0 el := Nat.le_trans Z11 sb_el
  have Fp0_v12 := Sta.keepW Fp0_v11 Kc12 (nosS (nosE Ex9_v11) nos0)
  have Fp1_v12 := Sta.keepW Fp1_v11 Kc12 (nosS (nosE Ex9_v11) nos0)
  have Fp2_v12 := Sta.keepW Fp2_v11 Kc12 (nosS (nosE Ex9_v11) nos0)
  have Fp3_v12 := Sta.keepW Fp3_v11 Kc12 (nosS (nosE Ex9_v11) nos0)
  have Fp4_v12 := Sta.keepW Fp4_v11 Kc12 (nosS (nosE Ex9_v11) nos0)
  have Fp5_v12 := Sta.keepW Fp5_v11 Kc12 (nosS (nosE Ex9_v11) nos0)
  have Fp6_v12 := Fp6_v11.keep Kc12 (ninS ne_dc_b9 nin0)
  have Ex9_v12 := Ex9_v11.keep Kc12
  have nf11_0_v12 := nf11_0_v11.keep Kc12
  have nf11_1_v12 := nf11_1_v11.keep Kc12 (ninS (Ne.symm ne_b9_sa0) nin0)
  have nf11_2_v12 := nf11_2_v11.keep Kc12 (ninS (Ne.symm ne_b9_sa0) nin0)
  have nf11_3_v12 := nf11_3_v11.keep Kc12 (ninS (Ne.symm ne_b9_sb0) nin0)
  have Z12 : Lq n0 T12.heap.size := Nat.le_trans Z11 Kc12.1
  have pre13 : ∀ t, Steps p.tables e below (T12.setTop (mkF m 106 #[.val (.int p1), .val (.int p2), .val (.int p3), .val (.int p4), .val (.int p5), .val (.long q6), .second, .val (.int tv), .val (.int (oi su0)), .val (.int (oi su1)), .val (.int (oi su2)), .val (.int y1), .val (.int y2), .val (.int y3), .val (.int y4), .val (.int y5), .val (.int y6), .val (.int y7), .val (.int y8), .val (.ref b9), .unset, .unset, .unset, .unset, .unset, .unset] [])) t → Steps p.tables e below (s₁.setTop (entryFrame m #[(.int p1), (.int p2), (.int p3), (.int p4), (.int p5), (.long q6)] maxLocals)) t := by
    intro t k
    refine pre0 t ?_
    refine XS.iconst X0.here hx rfl (hb hby at_0) ?_
    refine XS.iloadN X0.here hx rfl (hb hby at_1) rfl ?_
    refine XS.iconst X0.here hx rfl (hb hby at_2) ?_
    refine XS.iand X0.here hx rfl (hb hby at_3) rfl ?_
    refine XS.iconst X0.here hx rfl (hb hby at_4) ?_
    refine XS.irem X0.here hx rfl (hb hby at_5) rfl (by decide) ?_
    refine XS.iadd X0.here hx rfl (hb hby at_6) rfl ?_
    show Steps p.tables e below (s₁.setTop (mkF m 7 #[.val (.int p1), .val (.int p2), .val (.int p3), .val (.int p4), .val (.int p5), .val (.long q6), .second, .unset, .unset, .unset, .unset, .unset, .unset, .unset, .unset, .unset, .unset, .unset, .unset, .unset, .unset, .unset, .unset, .unset, .unset, .unset] [(.int ((1 : Int32) + ((p4 &&& (3 : Int32)) - ((p4 &&& (3 : Int32)) / (3 : Int32)) * (3 : Int32))))])) _
    rw [← htv]
    refine XS.istore X0.here hx rfl (hb hby at_7) rfl (l' := #[.val (.int p1), .val (.int p2), .val (.int p3), .val (.int p4), .val (.int p5), .val (.long q6), .second, .val (.int tv), .unset, .unset, .unset, .unset, .unset, .unset, .unset, .unset, .unset, .unset, .unset, .unset, .unset, .unset, .unset, .unset, .unset, .unset]) rfl ?_
    refine XS.iconst X0.here hx rfl (hb hby at_9) ?_
    refine XS.iloadN X0.here hx rfl (hb hby at_10) rfl ?_
    refine XS.iconst X0.here hx rfl (hb hby at_11) ?_
    refine XS.iushr X0.here hx rfl (hb hby at_12) rfl ?_
    refine XS.iconst X0.here hx rfl (hb hby at_13) ?_
    refine XS.iand X0.here hx rfl (hb hby at_14) rfl ?_
    refine XS.iadd X0.here hx rfl (hb hby at_15) rfl ?_
    show Steps p.tables e below (s₁.setTop (mkF m 16 #[.val (.int p1), .val (.int p2), .val (.int p3), .val (.int p4), .val (.int p5), .val (.long q6), .second, .val (.int tv), .unset, .unset, .unset, .unset, .unset, .unset, .unset, .unset, .unset, .unset, .unset, .unset, .unset, .unset, .unset, .unset, .unset, .unset] [(.int ((1 : Int32) + (((p4.toUInt32 >>> ((2 : Int32) &&& 31).toUInt32).toInt32) &&& (1 : Int32))))])) _
    rw [esu0]
    refine XS.istore X0.here hx rfl (hb hby at_16) rfl (l' := #[.val (.int p1), .val (.int p2), .val (.int p3), .val (.int p4), .val (.int p5), .val (.long q6), .second, .val (.int tv), .val (.int (oi su0)), .unset, .unset, .unset, .unset, .unset, .unset, .unset, .unset, .unset, .unset, .unset, .unset, .unset, .unset, .unset, .unset, .unset]) rfl ?_
    refine XS.iconst X0.here hx rfl (hb hby at_18) ?_
    refine XS.iloadN X0.here hx rfl (hb hby at_19) rfl ?_
    refine XS.iconst X0.here hx rfl (hb hby at_20) ?_
    refine XS.iushr X0.here hx rfl (hb hby at_21) rfl ?_
    refine XS.iconst X0.here hx rfl (hb hby at_22) ?_
    refine XS.iand X0.here hx rfl (hb hby at_23) rfl ?_
    refine XS.iadd X0.here hx rfl (hb hby at_24) rfl ?_
    show Steps p.tables e below (s₁.setTop (mkF m 25 #[.val (.int p1), .val (.int p2), .val (.int p3), .val (.int p4), .val (.int p5), .val (.long q6), .second, .val (.int tv), .val (.int (oi su0)), .unset, .unset, .unset, .unset, .unset, .unset, .unset, .unset, .unset, .unset, .unset, .unset, .unset, .unset, .unset, .unset, .unset] [(.int ((1 : Int32) + (((p4.toUInt32 >>> ((3 : Int32) &&& 31).toUInt32).toInt32) &&& (1 : Int32))))])) _
    rw [esu1]
    refine XS.istore X0.here hx rfl (hb hby at_25) rfl (l' := #[.val (.int p1), .val (.int p2), .val (.int p3), .val (.int p4), .val (.int p5), .val (.long q6), .second, .val (.int tv), .val (.int (oi su0)), .val (.int (oi su1)), .unset, .unset, .unset, .unset, .unset, .unset, .unset, .unset, .unset, .unset, .unset, .unset, .unset, .unset, .unset, .unset]) rfl ?_
    refine XS.iconst X0.here hx rfl (hb hby at_27) ?_
    refine XS.iloadN X0.here hx rfl (hb hby at_28) rfl ?_
    refine XS.iconst X0.here hx rfl (hb hby at_29) ?_
    refine XS.iushr X0.here hx rfl (hb hby at_30) rfl ?_
    refine XS.iconst X0.here hx rfl (hb hby at_31) ?_
    refine XS.iand X0.here hx rfl (hb hby at_32) rfl ?_
    refine XS.iadd X0.here hx rfl (hb hby at_33) rfl ?_
    show Steps p.tables e below (s₁.setTop (mkF m 34 #[.val (.int p1), .val (.int p2), .val (.int p3), .val (.int p4), .val (.int p5), .val (.long q6), .second, .val (.int tv), .val (.int (oi su0)), .val (.int (oi su1)), .unset, .unset, .unset, .unset, .unset, .unset, .unset, .unset, .unset, .unset, .unset, .unset, .unset, .unset, .unset, .unset] [(.int ((1 : Int32) + (((p4.toUInt32 >>> ((4 : Int32) &&& 31).toUInt32).toInt32) &&& (1 : Int32))))])) _
    rw [esu2]
    refine XS.istore X0.here hx rfl (hb hby at_34) rfl (l' := #[.val (.int p1), .val (.int p2), .val (.int p3), .val (.int p4), .val (.int p5), .val (.long q6), .second, .val (.int tv), .val (.int (oi su0)), .val (.int (oi su1)), .val (.int (oi su2)), .unset, .unset, .unset, .unset, .unset, .unset, .unset, .unset, .unset, .unset, .unset, .unset, .unset, .unset, .unset]) rfl ?_
    refine XS.iloadN X0.here hx rfl (hb hby at_36) rfl ?_
    refine XS.i2c X0.here hx rfl (hb hby at_37) rfl ?_
    show Steps p.tables e below (s₁.setTop (mkF m 38 #[.val (.int p1), .val (.int p2), .val (.int p3), .val (.int p4), .val (.int p5), .val (.long q6), .second, .val (.int tv), .val (.int (oi su0)), .val (.int (oi su1)), .val (.int (oi su2)), .unset, .unset, .unset, .unset, .unset, .unset, .unset, .unset, .unset, .unset, .unset, .unset, .unset, .unset, .unset] [(.int (p1.toUInt32.toUInt16.toUInt32.toInt32))])) _
    rw [← hy1]
    refine XS.istore X0.here hx rfl (hb hby at_38) rfl (l' := #[.val (.int p1), .val (.int p2), .val (.int p3), .val (.int p4), .val (.int p5), .val (.long q6), .second, .val (.int tv), .val (.int (oi su0)), .val (.int (oi su1)), .val (.int (oi su2)), .val (.int y1), .unset, .unset, .unset, .unset, .unset, .unset, .unset, .unset, .unset, .unset, .unset, .unset, .unset, .unset]) rfl ?_
    refine XS.iloadN X0.here hx rfl (hb hby at_40) rfl ?_
    refine XS.bipush X0.here hx rfl (hb hby at_41) ?_
    refine XS.iushr X0.here hx rfl (hb hby at_43) rfl ?_
    refine XS.i2c X0.here hx rfl (hb hby at_44) rfl ?_
    show Steps p.tables e below (s₁.setTop (mkF m 45 #[.val (.int p1), .val (.int p2), .val (.int p3), .val (.int p4), .val (.int p5), .val (.long q6), .second, .val (.int tv), .val (.int (oi su0)), .val (.int (oi su1)), .val (.int (oi su2)), .val (.int y1), .unset, .unset, .unset, .unset, .unset, .unset, .unset, .unset, .unset, .unset, .unset, .unset, .unset, .unset] [(.int (((p1.toUInt32 >>> ((16 : Int32) &&& 31).toUInt32).toInt32).toUInt32.toUInt16.toUInt32.toInt32))])) _
    rw [← hy2]
    refine XS.istore X0.here hx rfl (hb hby at_45) rfl (l' := #[.val (.int p1), .val (.int p2), .val (.int p3), .val (.int p4), .val (.int p5), .val (.long q6), .second, .val (.int tv), .val (.int (oi su0)), .val (.int (oi su1)), .val (.int (oi su2)), .val (.int y1), .val (.int y2), .unset, .unset, .unset, .unset, .unset, .unset, .unset, .unset, .unset, .unset, .unset, .unset, .unset]) rfl ?_
    refine XS.iloadN X0.here hx rfl (hb hby at_47) rfl ?_
    refine XS.i2c X0.here hx rfl (hb hby at_48) rfl ?_
    show Steps p.tables e below (s₁.setTop (mkF m 49 #[.val (.int p1), .val (.int p2), .val (.int p3), .val (.int p4), .val (.int p5), .val (.long q6), .second, .val (.int tv), .val (.int (oi su0)), .val (.int (oi su1)), .val (.int (oi su2)), .val (.int y1), .val (.int y2), .unset, .unset, .unset, .unset, .unset, .unset, .unset, .unset, .unset, .unset, .unset, .unset, .unset] [(.int (p2.toUInt32.toUInt16.toUInt32.toInt32))])) _
    rw [← hy3]
    refine XS.istore X0.here hx rfl (hb hby at_49) rfl (l' := #[.val (.int p1), .val (.int p2), .val (.int p3), .val (.int p4), .val (.int p5), .val (.long q6), .second, .val (.int tv), .val (.int (oi su0)), .val (.int (oi su1)), .val (.int (oi su2)), .val (.int y1), .val (.int y2), .val (.int y3), .unset, .unset, .unset, .unset, .unset, .unset, .unset, .unset, .unset, .unset, .unset, .unset]) rfl ?_
    refine XS.iloadN X0.here hx rfl (hb hby at_51) rfl ?_
    refine XS.bipush X0.here hx rfl (hb hby at_52) ?_
    refine XS.iushr X0.here hx rfl (hb hby at_54) rfl ?_
    refine XS.i2c X0.here hx rfl (hb hby at_55) rfl ?_
    show Steps p.tables e below (s₁.setTop (mkF m 56 #[.val (.int p1), .val (.int p2), .val (.int p3), .val (.int p4), .val (.int p5), .val (.long q6), .second, .val (.int tv), .val (.int (oi su0)), .val (.int (oi su1)), .val (.int (oi su2)), .val (.int y1), .val (.int y2), .val (.int y3), .unset, .unset, .unset, .unset, .unset, .unset, .unset, .unset, .unset, .unset, .unset, .unset] [(.int (((p2.toUInt32 >>> ((16 : Int32) &&& 31).toUInt32).toInt32).toUInt32.toUInt16.toUInt32.toInt32))])) _
    rw [← hy4]
    refine XS.istore X0.here hx rfl (hb hby at_56) rfl (l' := #[.val (.int p1), .val (.int p2), .val (.int p3), .val (.int p4), .val (.int p5), .val (.long q6), .second, .val (.int tv), .val (.int (oi su0)), .val (.int (oi su1)), .val (.int (oi su2)), .val (.int y1), .val (.int y2), .val (.int y3), .val (.int y4), .unset, .unset, .unset, .unset, .unset, .unset, .unset, .unset, .unset, .unset, .unset]) rfl ?_
    refine XS.iloadN X0.here hx rfl (hb hby at_58) rfl ?_
    refine XS.i2c X0.here hx rfl (hb hby at_59) rfl ?_
    show Steps p.tables e below (s₁.setTop (mkF m 60 #[.val (.int p1), .val (.int p2), .val (.int p3), .val (.int p4), .val (.int p5), .val (.long q6), .second, .val (.int tv), .val (.int (oi su0)), .val (.int (oi su1)), .val (.int (oi su2)), .val (.int y1), .val (.int y2), .val (.int y3), .val (.int y4), .unset, .unset, .unset, .unset, .unset, .unset, .unset, .unset, .unset, .unset, .unset] [(.int (p3.toUInt32.toUInt16.toUInt32.toInt32))])) _
    rw [← hy5]
    refine XS.istore X0.here hx rfl (hb hby at_60) rfl (l' := #[.val (.int p1), .val (.int p2), .val (.int p3), .val (.int p4), .val (.int p5), .val (.long q6), .second, .val (.int tv), .val (.int (oi su0)), .val (.int (oi su1)), .val (.int (oi su2)), .val (.int y1), .val (.int y2), .val (.int y3), .val (.int y4), .val (.int y5), .unset, .unset, .unset, .unset, .unset, .unset, .unset, .unset, .unset, .unset]) rfl ?_
    refine XS.iloadN X0.here hx rfl (hb hby at_62) rfl ?_
    refine XS.bipush X0.here hx rfl (hb hby at_63) ?_
    refine XS.iushr X0.here hx rfl (hb hby at_65) rfl ?_
    refine XS.i2c X0.here hx rfl (hb hby at_66) rfl ?_
    show Steps p.tables e below (s₁.setTop (mkF m 67 #[.val (.int p1), .val (.int p2), .val (.int p3), .val (.int p4), .val (.int p5), .val (.long q6), .second, .val (.int tv), .val (.int (oi su0)), .val (.int (oi su1)), .val (.int (oi su2)), .val (.int y1), .val (.int y2), .val (.int y3), .val (.int y4), .val (.int y5), .unset, .unset, .unset, .unset, .unset, .unset, .unset, .unset, .unset, .unset] [(.int (((p3.toUInt32 >>> ((16 : Int32) &&& 31).toUInt32).toInt32).toUInt32.toUInt16.toUInt32.toInt32))])) _
    rw [← hy6]
    refine XS.istore X0.here hx rfl (hb hby at_67) rfl (l' := #[.val (.int p1), .val (.int p2), .val (.int p3), .val (.int p4), .val (.int p5), .val (.long q6), .second, .val (.int tv), .val (.int (oi su0)), .val (.int (oi su1)), .val (.int (oi su2)), .val (.int y1), .val (.int y2), .val (.int y3), .val (.int y4), .val (.int y5), .val (.int y6), .unset, .unset, .unset, .unset, .unset, .unset, .unset, .unset, .unset]) rfl ?_
    refine XS.lload X0.here hx rfl (hb hby at_69) rfl ?_
    refine XS.bipush X0.here hx rfl (hb hby at_71) ?_
    refine XS.lushr X0.here hx rfl (hb hby at_73) rfl ?_
    refine XS.l2i X0.here hx rfl (hb hby at_74) rfl ?_
    show Steps p.tables e below (s₁.setTop (mkF m 75 #[.val (.int p1), .val (.int p2), .val (.int p3), .val (.int p4), .val (.int p5), .val (.long q6), .second, .val (.int tv), .val (.int (oi su0)), .val (.int (oi su1)), .val (.int (oi su2)), .val (.int y1), .val (.int y2), .val (.int y3), .val (.int y4), .val (.int y5), .val (.int y6), .unset, .unset, .unset, .unset, .unset, .unset, .unset, .unset, .unset] [(.int (((q6.toUInt64 >>> ((32 : Int32) &&& 0x3f).toInt64.toUInt64).toInt64).toInt32))])) _
    rw [← hy7]
    refine XS.istore X0.here hx rfl (hb hby at_75) rfl (l' := #[.val (.int p1), .val (.int p2), .val (.int p3), .val (.int p4), .val (.int p5), .val (.long q6), .second, .val (.int tv), .val (.int (oi su0)), .val (.int (oi su1)), .val (.int (oi su2)), .val (.int y1), .val (.int y2), .val (.int y3), .val (.int y4), .val (.int y5), .val (.int y6), .val (.int y7), .unset, .unset, .unset, .unset, .unset, .unset, .unset, .unset]) rfl ?_
    refine XS.lload X0.here hx rfl (hb hby at_77) rfl ?_
    refine XS.l2i X0.here hx rfl (hb hby at_79) rfl ?_
    show Steps p.tables e below (s₁.setTop (mkF m 80 #[.val (.int p1), .val (.int p2), .val (.int p3), .val (.int p4), .val (.int p5), .val (.long q6), .second, .val (.int tv), .val (.int (oi su0)), .val (.int (oi su1)), .val (.int (oi su2)), .val (.int y1), .val (.int y2), .val (.int y3), .val (.int y4), .val (.int y5), .val (.int y6), .val (.int y7), .unset, .unset, .unset, .unset, .unset, .unset, .unset, .unset] [(.int (q6.toInt32))])) _
    rw [← hy8]
    refine XS.istore X0.here hx rfl (hb hby at_80) rfl (l' := #[.val (.int p1), .val (.int p2), .val (.int p3), .val (.int p4), .val (.int p5), .val (.long q6), .second, .val (.int tv), .val (.int (oi su0)), .val (.int (oi su1)), .val (.int (oi su2)), .val (.int y1), .val (.int y2), .val (.int y3), .val (.int y4), .val (.int y5), .val (.int y6), .val (.int y7), .val (.int y8), .unset, .unset, .unset, .unset, .unset, .unset, .unset]) rfl ?_
    refine st9 _ ?_
    refine XS.dup X9.here hx rfl (hb hby at_85) rfl rfl ?_
    refine st10.trans ?_
    refine XS.astore X10.here hx rfl (hb hby at_89) rfl rfl (l' := #[.val (.int p1), .val (.int p2), .val (.int p3), .val (.int p4), .val (.int p5), .val (.long q6), .second, .val (.int tv), .val (.int (oi su0)), .val (.int (oi su1)), .val (.int (oi su2)), .val (.int y1), .val (.int y2), .val (.int y3), .val (.int y4), .val (.int y5), .val (.int y6), .val (.int y7), .val (.int y8), .val (.ref b9), .unset, .unset, .unset, .unset, .unset, .unset]) rfl ?_
    refine XS.aload X10.here hx rfl (hb hby at_91) rfl rfl ?_
    refine XS.iload X10.here hx rfl (hb hby at_93) rfl ?_
    refine XS.iload X10.here hx rfl (hb hby at_95) rfl ?_
    refine XS.iload X10.here hx rfl (hb hby at_97) rfl ?_
    refine st11 _ ?_
    refine st12.trans ?_
    refine XS.pop X12.here hx rfl (hb hby at_105) rfl rfl ?_
    exact k
  have join14 : ∀ (TJ14 : State) (Lc14 : List Loc) (hJ14 : Heap) (el : Addr) (va : Addr) (K : Nat) (NT : Nat) (tv : Int32) (sa : Nat → Addr) (sb : Nat → Addr) (su : Nat → Nat) (sn : Nat → Nat) (sc : Nat → Int32) (sg : Nat → Nat → Int32) (EL : Nat → Value) (vs : Nat → Int32), Stand p l e room_1 s m #[(.int p1), (.int p2), (.int p3), (.int p4), (.int p5), (.long q6)] below meth c TJ14 Lc14 15 52 → TJ14.heap = hJ14 → Fr n0 Lc14 → Lq n0 hJ14.size → Sta Z hJ14 "java/lang/String" "COMPACT_STRINGS" "Z" (.int cs) → Sta Z hJ14 "jdk/internal/util/Preconditions" "SIOOBE_FORMATTER" "Ljava/util/function/BiFunction;" fo → Sta Z hJ14 "java/lang/StringUTF16" "$assertionsDisabled" "Z" (.int (1 : Int32)) → Sta Z hJ14 "java/lang/StringUTF16" "HI_BYTE_SHIFT" "I" (.int (0 : Int32)) → Sta Z hJ14 "java/lang/StringUTF16" "LO_BYTE_SHIFT" "I" (.int (8 : Int32)) → Exa Z hJ14 b9 "java/util/ArrayList" → Fld Z hJ14 b9 "java/util/ArrayList" "elementData" "[Ljava/lang/Object;" (.ref el) → Fld Z hJ14 b9 "java/util/ArrayList" "size" "I" (.int (oi K)) → ArR Z hJ14 el 10 EL → StrL Z hJ14 K sa sb sn sc sg → ArF Z hJ14 va .int K (fun j => .int (vs j)) → (K = 1 ∨ K = 2 ∨ K = 3) → NT = cum su K → (∀ i, i < K → EL i = .ref (sa i)) → (∀ i, i < K → ((sc i = 0 ∧ sn i = su i) ∨ (sc i = 1 ∧ sn i = 2 * su i)) ∧ (su i = 1 ∨ su i = 2)) → (∀ t, Steps p.tables e below (TJ14.setTop (mkF m 241 #[.val (.int p1), .val (.int p2), .val (.int p3), .val (.int p4), .val (.int p5), .val (.long q6), .second, .val (.int tv), .val (.int (oi su0)), .val (.int (oi su1)), .val (.int (oi su2)), .val (.int y1), .val (.int y2), .val (.int y3), .val (.int y4), .val (.int y5), .val (.int y6), .val (.int y7), .val (.int y8), .val (.ref b9), .val (.int (oi NT)), .val (.ref va), .unset, .unset, .unset, .unset] [])) t → Steps p.tables e below (s₁.setTop (entryFrame m #[(.int p1), (.int p2), (.int p3), (.int p4), (.int p5), (.long q6)] maxLocals)) t) → G := by
    intro TJ14 Lc14 hJ14 el va K NT tv sa sb su sn sc sg EL vs XJ14 eJ14 NJ14 ZJ14 jf14_0_v14 jf14_1_v14 jf14_2_v14 jf14_3_v14 jf14_4_v14 jf14_5_v14 jf14_6_v14 jf14_7_v14 jf14_8_v14 jf14_9_v14 jf14_10_v14 hK3 hNT hEL hsl prJ14
    have hcu := cum_up (fun i hi => (hsl i hi).2)
    obtain ⟨uf, huf, euf⟩ := own_rem ((p4.toUInt32 >>> ((5 : Int32) &&& 31).toUInt32).toInt32) (b := NT) (by omega)
    obtain ⟨ur, hur, eur⟩ := own_rem ((p4.toUInt32 >>> ((8 : Int32) &&& 31).toUInt32).toInt32) (b := (NT - uf)) (by omega)
    obtain ⟨T15, h15, X15, e15, E15, A15, D15, -, st15⟩ := newO XJ14 hx hZ hown (wq hw 90 rfl) (wq hw 91 rfl) (wq hw 92 rfl) eJ14 (g := (mkF m 274 #[.val (.int p1), .val (.int p2), .val (.int p3), .val (.int p4), .val (.int p5), .val (.long q6), .second, .val (.int tv), .val (.int (oi su0)), .val (.int (oi su1)), .val (.int (oi su2)), .val (.int y1), .val (.int y2), .val (.int y3), .val (.int y4), .val (.int y5), .val (.int y6), .val (.int y7), .val (.int y8), .val (.ref b9), .val (.int (oi NT)), .val (.ref va), .val (.int (oi uf)), .val (.int (oi (uf + ur))), .unset, .unset] [])) rfl (hb hby at_274) (by decide) (by decide)
    obtain ⟨b15, g15⟩ : ∃ z, z = hJ14.size := ⟨_, rfl⟩
    rw [← g15] at A15 D15 st15
    have ne_b9_b15 : Dif b9 b15 := Nat.ne_of_lt (Nat.lt_of_lt_of_le jf14_5_v14.lt (Nat.le_of_eq g15.symm))
    have ne_el_b15 : Dif el b15 := Nat.ne_of_lt (Nat.lt_of_lt_of_le jf14_8_v14.lt (Nat.le_of_eq g15.symm))
    have ne_va_b15 : Dif va b15 := Nat.ne_of_lt (Nat.lt_of_lt_of_le jf14_10_v14.lt (Nat.le_of_eq g15.symm))
    have g_b15 : Lq n0 b15 := Nat.le_trans ZJ14 (Nat.le_of_eq g15.symm)
    have aw_b15 := jf14_9_v14.aw (Nat.le_of_eq g15.symm)
    clear g15
    have jf14_0_v15 := jf14_0_v14.ext E15
    have jf14_1_v15 := jf14_1_v14.ext E15
    have jf14_2_v15 := jf14_2_v14.ext E15
    have jf14_3_v15 := jf14_3_v14.ext E15
    have jf14_4_v15 := jf14_4_v14.ext E15
    have jf14_5_v15 := jf14_5_v14.ext E15
    have jf14_6_v15 := jf14_6_v14.ext E15
    have jf14_7_v15 := jf14_7_v14.ext E15
    have jf14_8_v15 := jf14_8_v14.ext E15
    have jf14_9_v15 := jf14_9_v14.ext E15
    have jf14_10_v15 := jf14_10_v14.ext E15
    have Z15 : Lq n0 h15.size := Nat.le_trans ZJ14 E15.1
    have Ex15_v15 : Exa Z h15 b15 "com/example/even_roster/evenroster/scim/SortedSuffixes" := A15
    have F15starts_v15 : Fld Z h15 b15 "com/example/even_roster/evenroster/scim/SortedSuffixes" "starts" "[I" .null := D15 (Or.inr (wq hw 107 rfl)) (ty := (.array .int)) (by decide)
    have F15chars_v15 : Fld Z h15 b15 "com/example/even_roster/evenroster/scim/SortedSuffixes" "chars" "[C" .null := D15 (Or.inr (wq hw 141 rfl)) (ty := (.array .char)) (by decide)
    have F15sorted_v15 : Fld Z h15 b15 "com/example/even_roster/evenroster/scim/SortedSuffixes" "sorted" "[I" .null := D15 (Or.inr (wq hw 188 rfl)) (ty := (.array .int)) (by decide)
    obtain ⟨_, _, ⟨T16, L16, k16, n16⟩, -, X16, ⟨Lc16, hQ16, l16, y16, z16⟩, st16⟩ := X15.specialBack hx (y := (⟨"com/example/even_roster/evenroster/scim/SortedSuffixes", "<init>", "(Ljava/util/List;)V"⟩ : MethodName)) rfl hown (mvT hZ (wq hw 93 rfl)) (mvT hZ (wq hw 94 rfl)) (mvT hZ (wq hw 95 rfl)) (by decide) (backOf (W := 1) (rnew l Z a0 hw [] b15 b9 el K cs fo sa sb su sn sc sg EL h15 n0 Z15 Ex15_v15 F15starts_v15 F15chars_v15 F15sorted_v15 jf14_5_v15 jf14_6_v15 jf14_7_v15 jf14_8_v15 jf14_9_v15 jf14_0_v15 jf14_1_v15 jf14_2_v15 jf14_3_v15 jf14_4_v15 hcs hfo hK3 hEL hsl g_b15 ne_b9_b15 ne_el_b15 aw_b15) hZ (wq hw 95 rfl) (wq hw 92 rfl) (by decide) (by decide)) (g := (mkF m 280 #[.val (.int p1), .val (.int p2), .val (.int p3), .val (.int p4), .val (.int p5), .val (.long q6), .second, .val (.int tv), .val (.int (oi su0)), .val (.int (oi su1)), .val (.int (oi su2)), .val (.int y1), .val (.int y2), .val (.int y3), .val (.int y4), .val (.int y5), .val (.int y6), .val (.int y7), .val (.int y8), .val (.ref b9), .val (.int (oi NT)), .val (.ref va), .val (.int (oi uf)), .val (.int (oi (uf + ur))), .unset, .unset] [(.ref b9), (.ref b15), (.ref b15)])) rfl (by rw [hml]; rfl) (Steps.refl _) (a := b15) (argsL := [(.ref b9)]) (rest := [(.ref b15)]) (lenOf pd_34 rfl) rfl (by show 2 * 0 + _ ≤ _; exact Nat.le_of_eq rfl) (hb hby at_280) (fun _ _ => ⟨rfl, e15, (by decide : 16 + 10 ≤ _), (by decide : 55 + 310 ≤ _)⟩)
    dsimp only [Pt.U, Pt.locs, Pt.cells, Pt.slots] at X16 l16 y16 z16 st16 hQ16
    subst l16 y16 z16
    obtain ⟨az, ac, so, Fs, fch, rfl, N16q, Kc16, nf16_0_v16, nf16_1_v16, nf16_2_v16, nf16_3_v16, nf16_4_v16, nf16_5_v16, hFs⟩ := hQ16
    have N16 := Fr.app NJ14 N16q
    have jf14_0_v16 := Sta.keepW jf14_0_v15 Kc16 (nosS (nosE Ex15_v15) nos0)
    have jf14_1_v16 := Sta.keepW jf14_1_v15 Kc16 (nosS (nosE Ex15_v15) nos0)
    have jf14_2_v16 := Sta.keepW jf14_2_v15 Kc16 (nosS (nosE Ex15_v15) nos0)
    have jf14_3_v16 := Sta.keepW jf14_3_v15 Kc16 (nosS (nosE Ex15_v15) nos0)
    have jf14_4_v16 := Sta.keepW jf14_4_v15 Kc16 (nosS (nosE Ex15_v15) nos0)
    have jf14_5_v16 := jf14_5_v15.keep Kc16
    have jf14_6_v16 := jf14_6_v15.keep Kc16 (ninS ne_b9_b15 nin0)
    have jf14_7_v16 := jf14_7_v15.keep Kc16 (ninS ne_b9_b15 nin0)
    have jf14_8_v16 := jf14_8_v15.keep Kc16 (ninS ne_el_b15 nin0)
    have jf14_9_v16 := jf14_9_v15.keep1 Kc16 aw_b15
    have jf14_10_v16 := jf14_10_v15.keep Kc16 (ninS ne_va_b15 nin0)
    have Ex15_v16 := Ex15_v15.keep Kc16
    have Z16 : Lq n0 T16.heap.size := Nat.le_trans Z15 Kc16.1
    have hSo := cum_ok (fun i hi => (hsl i hi).2)
    obtain ⟨cq17, kq17, q17a, q17b, q17c⟩ := isOf hZ rfl Ex15_v16
    obtain ⟨_, _, ⟨T17, L17, k17, n17⟩, -, X17, ⟨Lc17, hQ17, l17, y17, z17⟩, st17⟩ := X16.virtualBack hx (y := (⟨"com/example/even_roster/evenroster/scim/SortedSuffixes", "valuesAt", "([III)[I"⟩ : MethodName)) (z := (⟨"com/example/even_roster/evenroster/scim/SortedSuffixes", "valuesAt", "([III)[I"⟩ : MethodName)) hown (mvT hZ (wq hw 189 rfl)) (mvT hZ (wq hw 190 rfl)) (notFace_of_selects (args := #[]) (mvT hZ (wq hw 192 rfl))) (mvT hZ (wq hw 192 rfl)) (mvT hZ (wq hw 191 rfl)) (by decide) (backOf (W := 0) (rva l Z a0 hw [] b15 va ac az so uf (uf + ur) (cum su K) K (cum su) Fs fch vs T16.heap n0 Z16 nf16_1_v16 nf16_0_v16 nf16_2_v16 nf16_4_v16 nf16_3_v16 nf16_5_v16 jf14_10_v16 hK3 rfl rfl hSo hFs (by omega) (by omega) (by omega)) hZ (wq hw 193 rfl) (wq hw 92 rfl) (by decide) (by decide)) q17a q17c (g := (mkF m 293 #[.val (.int p1), .val (.int p2), .val (.int p3), .val (.int p4), .val (.int p5), .val (.long q6), .second, .val (.int tv), .val (.int (oi su0)), .val (.int (oi su1)), .val (.int (oi su2)), .val (.int y1), .val (.int y2), .val (.int y3), .val (.int y4), .val (.int y5), .val (.int y6), .val (.int y7), .val (.int y8), .val (.ref b9), .val (.int (oi NT)), .val (.ref va), .val (.int (oi uf)), .val (.int (oi (uf + ur))), .val (.ref b15), .unset] [(.int (oi (uf + ur))), (.int (oi uf)), (.ref va), (.ref b15)])) rfl (by rw [hml]; rfl) (Steps.refl _) (argsL := [(.ref va), (.int (oi uf)), (.int (oi (uf + ur)))]) (rest := []) (lenOf pd_35 rfl) rfl (by show 2 * 0 + _ ≤ _; exact Nat.le_of_eq rfl) (hb hby at_293) (fun _ _ => ⟨rfl, rfl, (by decide : 26 + 2 ≤ _), (by decide : 365 + 12 ≤ _)⟩)
    dsimp only [Pt.U, Pt.locs, Pt.cells, Pt.slots] at X17 l17 y17 z17 st17 hQ17
    subst l17 y17 z17
    obtain ⟨go, rfl, N17q, Kc17, sb_go, nf17_0_v17⟩ := hQ17
    have N17 := Fr.app N16 N17q
    replace sb_go : Lq _ _ := sb_go
    have ne_va_go : Dif va go := Nat.ne_of_lt (Nat.lt_of_lt_of_le jf14_10_v16.lt sb_go)
    have ne_b15_go : Dif b15 go := Nat.ne_of_lt (Nat.lt_of_lt_of_le Ex15_v16.lt sb_go)
    have ne_az_go : Dif az go := Nat.ne_of_lt (Nat.lt_of_lt_of_le nf16_3_v16.lt sb_go)
    have ne_ac_go : Dif ac go := Nat.ne_of_lt (Nat.lt_of_lt_of_le nf16_4_v16.lt sb_go)
    have ne_so_go : Dif so go := Nat.ne_of_lt (Nat.lt_of_lt_of_le nf16_5_v16.lt sb_go)
    have g_go : Lq n0 go := Nat.le_trans Z16 sb_go
    have jf14_10_v17 := jf14_10_v16.keep Kc17 nin0
    have Ex15_v17 := Ex15_v16.keep Kc17
    have nf16_0_v17 := nf16_0_v16.keep Kc17 nin0
    have nf16_1_v17 := nf16_1_v16.keep Kc17 nin0
    have nf16_2_v17 := nf16_2_v16.keep Kc17 nin0
    have nf16_3_v17 := nf16_3_v16.keep Kc17 nin0
    have nf16_4_v17 := nf16_4_v16.keep Kc17 nin0
    have nf16_5_v17 := nf16_5_v16.keep Kc17 nin0
    have Z17 : Lq n0 T17.heap.size := Nat.le_trans Z16 Kc17.1
    obtain ⟨cl18, Ar18, S18, H18⟩ := id nf17_0_v17
    replace S18 : Sq cl18.slots.size _ := S18
    obtain ⟨_, _, ⟨T19, L19, k19, n19⟩, -, X19, ⟨Lc19, hQ19, l19, y19, z19⟩, st19⟩ := Jvm.LawKit.callS X17 hx (y := (⟨"com/example/even_roster/evenroster/scim/SortedSuffixesValuesAtPinLaw", "agrees", "(Lcom/example/even_roster/evenroster/scim/SortedSuffixes;[I[III)Z"⟩ : MethodName)) hown (mvT hZ (wq hw 194 rfl)) (mvT hZ (wq hw 195 rfl)) (mvT hZ (wq hw 28 rfl)) (mvT hZ (wq hw 196 rfl)) (by decide) (backOf (W := 0) (rag l Z a0 hw [] b15 va go az so uf 0 K (cum su K) ((uf + ur) - uf) (cum su) Fs vs T17.heap n0 Z17 Ex15_v17 nf16_0_v17 nf16_2_v17 nf16_3_v17 nf16_5_v17 jf14_10_v17 nf17_0_v17 hK3 rfl rfl hSo (by omega) (by omega) (by omega) hFs) hZ (wq hw 196 rfl) (wq hw 28 rfl) (by decide) (by decide)) (g := (mkF m 320 #[.val (.int p1), .val (.int p2), .val (.int p3), .val (.int p4), .val (.int p5), .val (.long q6), .second, .val (.int tv), .val (.int (oi su0)), .val (.int (oi su1)), .val (.int (oi su2)), .val (.int y1), .val (.int y2), .val (.int y3), .val (.int y4), .val (.int y5), .val (.int y6), .val (.int y7), .val (.int y8), .val (.ref b9), .val (.int (oi NT)), .val (.ref va), .val (.int (oi uf)), .val (.int (oi (uf + ur))), .val (.ref b15), .val (.ref go)] [(.int (0 : Int32)), (.int (oi uf)), (.ref go), (.ref va), (.ref b15)])) rfl (by rw [hml]; rfl) (argsL := [(.ref b15), (.ref va), (.ref go), (.int (oi uf)), (.int (0 : Int32))]) (rest := []) (lenOf pd_36 rfl) rfl (by show 2 * 0 + _ ≤ _; exact Nat.le_of_eq rfl) (hb hby at_320) (fun _ _ => ⟨rfl, rfl, (by decide : 28 + 0 ≤ _), (by decide : 377 + 0 ≤ _)⟩)
    dsimp only [Pt.U, Pt.locs, Pt.cells, Pt.slots] at X19 l19 y19 z19 st19 hQ19
    subst l19 y19 z19
    obtain ⟨rfl, N19q, e19⟩ := hQ19
    have N19 := Fr.app N17 N19q
    obtain ⟨_, _, ⟨T20, L20, k20, n20⟩, -, X20, ⟨Lc20, hQ20, l20, y20, z20⟩, st20⟩ := Jvm.LawKit.callS X19 hx (y := (⟨"com/example/even_roster/evenroster/scim/SortedSuffixesValuesAtPinLaw", "agrees", "(Lcom/example/even_roster/evenroster/scim/SortedSuffixes;[I[III)Z"⟩ : MethodName)) hown (mvT hZ (wq hw 194 rfl)) (mvT hZ (wq hw 195 rfl)) (mvT hZ (wq hw 28 rfl)) (mvT hZ (wq hw 196 rfl)) (by decide) (backOf (W := 0) (rag l Z a0 hw [] b15 va go az so uf 1 K (cum su K) ((uf + ur) - uf) (cum su) Fs vs T17.heap n0 Z17 Ex15_v17 nf16_0_v17 nf16_2_v17 nf16_3_v17 nf16_5_v17 jf14_10_v17 nf17_0_v17 hK3 rfl rfl hSo (by omega) (by omega) (by omega) hFs) hZ (wq hw 196 rfl) (wq hw 28 rfl) (by decide) (by decide)) (g := (mkF m 335 #[.val (.int p1), .val (.int p2), .val (.int p3), .val (.int p4), .val (.int p5), .val (.long q6), .second, .val (.int tv), .val (.int (oi su0)), .val (.int (oi su1)), .val (.int (oi su2)), .val (.int y1), .val (.int y2), .val (.int y3), .val (.int y4), .val (.int y5), .val (.int y6), .val (.int y7), .val (.int y8), .val (.ref b9), .val (.int (oi NT)), .val (.ref va), .val (.int (oi uf)), .val (.int (oi (uf + ur))), .val (.ref b15), .val (.ref go)] [(.int (1 : Int32)), (.int (oi uf)), (.ref go), (.ref va), (.ref b15)])) rfl (by rw [hml]; rfl) (argsL := [(.ref b15), (.ref va), (.ref go), (.int (oi uf)), (.int (1 : Int32))]) (rest := []) (lenOf pd_36 rfl) rfl (by show 2 * 0 + _ ≤ _; exact Nat.le_of_eq rfl) (hb hby at_335) (fun _ _ => ⟨rfl, e19, (by decide : 28 + 0 ≤ _), (by decide : 377 + 0 ≤ _)⟩)
    dsimp only [Pt.U, Pt.locs, Pt.cells, Pt.slots] at X20 l20 y20 z20 st20 hQ20
    subst l20 y20 z20
    obtain ⟨rfl, N20q, e20⟩ := hQ20
    have N20 := Fr.app N19 N20q
    obtain ⟨_, _, ⟨T21, L21, k21, n21⟩, -, X21, ⟨Lc21, hQ21, l21, y21, z21⟩, st21⟩ := Jvm.LawKit.callS X20 hx (y := (⟨"com/example/even_roster/evenroster/scim/SortedSuffixesValuesAtPinLaw", "agrees", "(Lcom/example/even_roster/evenroster/scim/SortedSuffixes;[I[III)Z"⟩ : MethodName)) hown (mvT hZ (wq hw 194 rfl)) (mvT hZ (wq hw 195 rfl)) (mvT hZ (wq hw 28 rfl)) (mvT hZ (wq hw 196 rfl)) (by decide) (backOf (W := 0) (rag l Z a0 hw [] b15 va go az so uf 2 K (cum su K) ((uf + ur) - uf) (cum su) Fs vs T17.heap n0 Z17 Ex15_v17 nf16_0_v17 nf16_2_v17 nf16_3_v17 nf16_5_v17 jf14_10_v17 nf17_0_v17 hK3 rfl rfl hSo (by omega) (by omega) (by omega) hFs) hZ (wq hw 196 rfl) (wq hw 28 rfl) (by decide) (by decide)) (g := (mkF m 350 #[.val (.int p1), .val (.int p2), .val (.int p3), .val (.int p4), .val (.int p5), .val (.long q6), .second, .val (.int tv), .val (.int (oi su0)), .val (.int (oi su1)), .val (.int (oi su2)), .val (.int y1), .val (.int y2), .val (.int y3), .val (.int y4), .val (.int y5), .val (.int y6), .val (.int y7), .val (.int y8), .val (.ref b9), .val (.int (oi NT)), .val (.ref va), .val (.int (oi uf)), .val (.int (oi (uf + ur))), .val (.ref b15), .val (.ref go)] [(.int (2 : Int32)), (.int (oi uf)), (.ref go), (.ref va), (.ref b15)])) rfl (by rw [hml]; rfl) (argsL := [(.ref b15), (.ref va), (.ref go), (.int (oi uf)), (.int (2 : Int32))]) (rest := []) (lenOf pd_36 rfl) rfl (by show 2 * 0 + _ ≤ _; exact Nat.le_of_eq rfl) (hb hby at_350) (fun _ _ => ⟨rfl, e20, (by decide : 28 + 0 ≤ _), (by decide : 377 + 0 ≤ _)⟩)
    dsimp only [Pt.U, Pt.locs, Pt.cells, Pt.slots] at X21 l21 y21 z21 st21 hQ21
    subst l21 y21 z21
    obtain ⟨rfl, N21q, e21⟩ := hQ21
    have N21 := Fr.app N20 N21q
    obtain ⟨_, _, ⟨T22, L22, k22, n22⟩, -, X22, ⟨Lc22, hQ22, l22, y22, z22⟩, st22⟩ := Jvm.LawKit.callS X21 hx (y := (⟨"com/example/even_roster/evenroster/scim/SortedSuffixesValuesAtPinLaw", "agrees", "(Lcom/example/even_roster/evenroster/scim/SortedSuffixes;[I[III)Z"⟩ : MethodName)) hown (mvT hZ (wq hw 194 rfl)) (mvT hZ (wq hw 195 rfl)) (mvT hZ (wq hw 28 rfl)) (mvT hZ (wq hw 196 rfl)) (by decide) (backOf (W := 0) (rag l Z a0 hw [] b15 va go az so uf 3 K (cum su K) ((uf + ur) - uf) (cum su) Fs vs T17.heap n0 Z17 Ex15_v17 nf16_0_v17 nf16_2_v17 nf16_3_v17 nf16_5_v17 jf14_10_v17 nf17_0_v17 hK3 rfl rfl hSo (by omega) (by omega) (by omega) hFs) hZ (wq hw 196 rfl) (wq hw 28 rfl) (by decide) (by decide)) (g := (mkF m 365 #[.val (.int p1), .val (.int p2), .val (.int p3), .val (.int p4), .val (.int p5), .val (.long q6), .second, .val (.int tv), .val (.int (oi su0)), .val (.int (oi su1)), .val (.int (oi su2)), .val (.int y1), .val (.int y2), .val (.int y3), .val (.int y4), .val (.int y5), .val (.int y6), .val (.int y7), .val (.int y8), .val (.ref b9), .val (.int (oi NT)), .val (.ref va), .val (.int (oi uf)), .val (.int (oi (uf + ur))), .val (.ref b15), .val (.ref go)] [(.int (3 : Int32)), (.int (oi uf)), (.ref go), (.ref va), (.ref b15)])) rfl (by rw [hml]; rfl) (argsL := [(.ref b15), (.ref va), (.ref go), (.int (oi uf)), (.int (3 : Int32))]) (rest := []) (lenOf pd_36 rfl) rfl (by show 2 * 0 + _ ≤ _; exact Nat.le_of_eq rfl) (hb hby at_365) (fun _ _ => ⟨rfl, e21, (by decide : 28 + 0 ≤ _), (by decide : 377 + 0 ≤ _)⟩)
    dsimp only [Pt.U, Pt.locs, Pt.cells, Pt.slots] at X22 l22 y22 z22 st22 hQ22
    subst l22 y22 z22
    obtain ⟨rfl, N22q, e22⟩ := hQ22
    have N22 := Fr.app N21 N22q
    obtain ⟨_, _, ⟨T23, L23, k23, n23⟩, -, X23, ⟨Lc23, hQ23, l23, y23, z23⟩, st23⟩ := Jvm.LawKit.callS X22 hx (y := (⟨"com/example/even_roster/evenroster/scim/SortedSuffixesValuesAtPinLaw", "agrees", "(Lcom/example/even_roster/evenroster/scim/SortedSuffixes;[I[III)Z"⟩ : MethodName)) hown (mvT hZ (wq hw 194 rfl)) (mvT hZ (wq hw 195 rfl)) (mvT hZ (wq hw 28 rfl)) (mvT hZ (wq hw 196 rfl)) (by decide) (backOf (W := 0) (rag l Z a0 hw [] b15 va go az so uf 4 K (cum su K) ((uf + ur) - uf) (cum su) Fs vs T17.heap n0 Z17 Ex15_v17 nf16_0_v17 nf16_2_v17 nf16_3_v17 nf16_5_v17 jf14_10_v17 nf17_0_v17 hK3 rfl rfl hSo (by omega) (by omega) (by omega) hFs) hZ (wq hw 196 rfl) (wq hw 28 rfl) (by decide) (by decide)) (g := (mkF m 380 #[.val (.int p1), .val (.int p2), .val (.int p3), .val (.int p4), .val (.int p5), .val (.long q6), .second, .val (.int tv), .val (.int (oi su0)), .val (.int (oi su1)), .val (.int (oi su2)), .val (.int y1), .val (.int y2), .val (.int y3), .val (.int y4), .val (.int y5), .val (.int y6), .val (.int y7), .val (.int y8), .val (.ref b9), .val (.int (oi NT)), .val (.ref va), .val (.int (oi uf)), .val (.int (oi (uf + ur))), .val (.ref b15), .val (.ref go)] [(.int (4 : Int32)), (.int (oi uf)), (.ref go), (.ref va), (.ref b15)])) rfl (by rw [hml]; rfl) (argsL := [(.ref b15), (.ref va), (.ref go), (.int (oi uf)), (.int (4 : Int32))]) (rest := []) (lenOf pd_36 rfl) rfl (by show 2 * 0 + _ ≤ _; exact Nat.le_of_eq rfl) (hb hby at_380) (fun _ _ => ⟨rfl, e22, (by decide : 28 + 0 ≤ _), (by decide : 377 + 0 ≤ _)⟩)
    dsimp only [Pt.U, Pt.locs, Pt.cells, Pt.slots] at X23 l23 y23 z23 st23 hQ23
    subst l23 y23 z23
    obtain ⟨rfl, N23q, e23⟩ := hQ23
    have N23 := Fr.app N22 N23q
    obtain ⟨_, _, ⟨T24, L24, k24, n24⟩, -, X24, ⟨Lc24, hQ24, l24, y24, z24⟩, st24⟩ := Jvm.LawKit.callS X23 hx (y := (⟨"com/example/even_roster/evenroster/scim/SortedSuffixesValuesAtPinLaw", "agrees", "(Lcom/example/even_roster/evenroster/scim/SortedSuffixes;[I[III)Z"⟩ : MethodName)) hown (mvT hZ (wq hw 194 rfl)) (mvT hZ (wq hw 195 rfl)) (mvT hZ (wq hw 28 rfl)) (mvT hZ (wq hw 196 rfl)) (by decide) (backOf (W := 0) (rag l Z a0 hw [] b15 va go az so uf 5 K (cum su K) ((uf + ur) - uf) (cum su) Fs vs T17.heap n0 Z17 Ex15_v17 nf16_0_v17 nf16_2_v17 nf16_3_v17 nf16_5_v17 jf14_10_v17 nf17_0_v17 hK3 rfl rfl hSo (by omega) (by omega) (by omega) hFs) hZ (wq hw 196 rfl) (wq hw 28 rfl) (by decide) (by decide)) (g := (mkF m 395 #[.val (.int p1), .val (.int p2), .val (.int p3), .val (.int p4), .val (.int p5), .val (.long q6), .second, .val (.int tv), .val (.int (oi su0)), .val (.int (oi su1)), .val (.int (oi su2)), .val (.int y1), .val (.int y2), .val (.int y3), .val (.int y4), .val (.int y5), .val (.int y6), .val (.int y7), .val (.int y8), .val (.ref b9), .val (.int (oi NT)), .val (.ref va), .val (.int (oi uf)), .val (.int (oi (uf + ur))), .val (.ref b15), .val (.ref go)] [(.int (5 : Int32)), (.int (oi uf)), (.ref go), (.ref va), (.ref b15)])) rfl (by rw [hml]; rfl) (argsL := [(.ref b15), (.ref va), (.ref go), (.int (oi uf)), (.int (5 : Int32))]) (rest := []) (lenOf pd_36 rfl) rfl (by show 2 * 0 + _ ≤ _; exact Nat.le_of_eq rfl) (hb hby at_395) (fun _ _ => ⟨rfl, e23, (by decide : 28 + 0 ≤ _), (by decide : 377 + 0 ≤ _)⟩)
    dsimp only [Pt.U, Pt.locs, Pt.cells, Pt.slots] at X24 l24 y24 z24 st24 hQ24
    subst l24 y24 z24
    obtain ⟨rfl, N24q, e24⟩ := hQ24
    have N24 := Fr.app N23 N24q
    refine hG ?_
    obtain ⟨fs, hr, hrun, hended, hW, hsame⟩ := X24.leave (v := some (.int (1 : Int32))) (fun h => by rw [Bd.returns] at h; cases h)
    refine ⟨_, _, prJ14 _ ?_, hrun, hended, _, _, rfl, ?_, ⟨_, rfl⟩, hW, hsame.mono (by decide) (by decide)⟩
    · show Steps p.tables e below (TJ14.setTop (mkF m 241 #[.val (.int p1), .val (.int p2), .val (.int p3), .val (.int p4), .val (.int p5), .val (.long q6), .second, .val (.int tv), .val (.int (oi su0)), .val (.int (oi su1)), .val (.int (oi su2)), .val (.int y1), .val (.int y2), .val (.int y3), .val (.int y4), .val (.int y5), .val (.int y6), .val (.int y7), .val (.int y8), .val (.ref b9), .val (.int (oi NT)), .val (.ref va), .unset, .unset, .unset, .unset] [])) _
      refine XS.iloadN XJ14.here hx rfl (hb hby at_241) rfl ?_
      refine XS.iconst XJ14.here hx rfl (hb hby at_242) ?_
      refine XS.iushr XJ14.here hx rfl (hb hby at_243) rfl ?_
      refine XS.bipush XJ14.here hx rfl (hb hby at_244) ?_
      refine XS.iand XJ14.here hx rfl (hb hby at_246) rfl ?_
      refine XS.iload XJ14.here hx rfl (hb hby at_247) rfl ?_
      refine XS.iconst XJ14.here hx rfl (hb hby at_249) ?_
      refine XS.iadd XJ14.here hx rfl (hb hby at_250) rfl ?_
      show Steps p.tables e below (TJ14.setTop (mkF m 251 #[.val (.int p1), .val (.int p2), .val (.int p3), .val (.int p4), .val (.int p5), .val (.long q6), .second, .val (.int tv), .val (.int (oi su0)), .val (.int (oi su1)), .val (.int (oi su2)), .val (.int y1), .val (.int y2), .val (.int y3), .val (.int y4), .val (.int y5), .val (.int y6), .val (.int y7), .val (.int y8), .val (.ref b9), .val (.int (oi NT)), .val (.ref va), .unset, .unset, .unset, .unset] [(.int ((oi NT) + (1 : Int32))), (.int (((p4.toUInt32 >>> ((5 : Int32) &&& 31).toUInt32).toInt32) &&& (7 : Int32)))])) _
      rw [oi_s (NT)]
      refine XS.irem XJ14.here hx rfl (hb hby at_251) rfl (oi_nz (by omega) (by omega)) ?_
      show Steps p.tables e below (TJ14.setTop (mkF m 252 #[.val (.int p1), .val (.int p2), .val (.int p3), .val (.int p4), .val (.int p5), .val (.long q6), .second, .val (.int tv), .val (.int (oi su0)), .val (.int (oi su1)), .val (.int (oi su2)), .val (.int y1), .val (.int y2), .val (.int y3), .val (.int y4), .val (.int y5), .val (.int y6), .val (.int y7), .val (.int y8), .val (.ref b9), .val (.int (oi NT)), .val (.ref va), .unset, .unset, .unset, .unset] [(.int ((((p4.toUInt32 >>> ((5 : Int32) &&& 31).toUInt32).toInt32) &&& (7 : Int32)) - ((((p4.toUInt32 >>> ((5 : Int32) &&& 31).toUInt32).toInt32) &&& (7 : Int32)) / (oi (NT + 1))) * (oi (NT + 1))))])) _
      rw [euf]
      refine XS.istore XJ14.here hx rfl (hb hby at_252) rfl (l' := #[.val (.int p1), .val (.int p2), .val (.int p3), .val (.int p4), .val (.int p5), .val (.long q6), .second, .val (.int tv), .val (.int (oi su0)), .val (.int (oi su1)), .val (.int (oi su2)), .val (.int y1), .val (.int y2), .val (.int y3), .val (.int y4), .val (.int y5), .val (.int y6), .val (.int y7), .val (.int y8), .val (.ref b9), .val (.int (oi NT)), .val (.ref va), .val (.int (oi uf)), .unset, .unset, .unset]) rfl ?_
      refine XS.iload XJ14.here hx rfl (hb hby at_254) rfl ?_
      refine XS.iloadN XJ14.here hx rfl (hb hby at_256) rfl ?_
      refine XS.bipush XJ14.here hx rfl (hb hby at_257) ?_
      refine XS.iushr XJ14.here hx rfl (hb hby at_259) rfl ?_
      refine XS.bipush XJ14.here hx rfl (hb hby at_260) ?_
      refine XS.iand XJ14.here hx rfl (hb hby at_262) rfl ?_
      refine XS.iload XJ14.here hx rfl (hb hby at_263) rfl ?_
      refine XS.iload XJ14.here hx rfl (hb hby at_265) rfl ?_
      refine XS.isub XJ14.here hx rfl (hb hby at_267) rfl ?_
      show Steps p.tables e below (TJ14.setTop (mkF m 268 #[.val (.int p1), .val (.int p2), .val (.int p3), .val (.int p4), .val (.int p5), .val (.long q6), .second, .val (.int tv), .val (.int (oi su0)), .val (.int (oi su1)), .val (.int (oi su2)), .val (.int y1), .val (.int y2), .val (.int y3), .val (.int y4), .val (.int y5), .val (.int y6), .val (.int y7), .val (.int y8), .val (.ref b9), .val (.int (oi NT)), .val (.ref va), .val (.int (oi uf)), .unset, .unset, .unset] [(.int ((oi NT) - (oi uf))), (.int (((p4.toUInt32 >>> ((8 : Int32) &&& 31).toUInt32).toInt32) &&& (7 : Int32))), (.int (oi uf))])) _
      rw [oi_sub (a := NT) (b := uf) (by omega)]
      refine XS.iconst XJ14.here hx rfl (hb hby at_268) ?_
      refine XS.iadd XJ14.here hx rfl (hb hby at_269) rfl ?_
      show Steps p.tables e below (TJ14.setTop (mkF m 270 #[.val (.int p1), .val (.int p2), .val (.int p3), .val (.int p4), .val (.int p5), .val (.long q6), .second, .val (.int tv), .val (.int (oi su0)), .val (.int (oi su1)), .val (.int (oi su2)), .val (.int y1), .val (.int y2), .val (.int y3), .val (.int y4), .val (.int y5), .val (.int y6), .val (.int y7), .val (.int y8), .val (.ref b9), .val (.int (oi NT)), .val (.ref va), .val (.int (oi uf)), .unset, .unset, .unset] [(.int ((oi (NT - uf)) + (1 : Int32))), (.int (((p4.toUInt32 >>> ((8 : Int32) &&& 31).toUInt32).toInt32) &&& (7 : Int32))), (.int (oi uf))])) _
      rw [oi_s ((NT - uf))]
      refine XS.irem XJ14.here hx rfl (hb hby at_270) rfl (oi_nz (by omega) (by omega)) ?_
      show Steps p.tables e below (TJ14.setTop (mkF m 271 #[.val (.int p1), .val (.int p2), .val (.int p3), .val (.int p4), .val (.int p5), .val (.long q6), .second, .val (.int tv), .val (.int (oi su0)), .val (.int (oi su1)), .val (.int (oi su2)), .val (.int y1), .val (.int y2), .val (.int y3), .val (.int y4), .val (.int y5), .val (.int y6), .val (.int y7), .val (.int y8), .val (.ref b9), .val (.int (oi NT)), .val (.ref va), .val (.int (oi uf)), .unset, .unset, .unset] [(.int ((((p4.toUInt32 >>> ((8 : Int32) &&& 31).toUInt32).toInt32) &&& (7 : Int32)) - ((((p4.toUInt32 >>> ((8 : Int32) &&& 31).toUInt32).toInt32) &&& (7 : Int32)) / (oi ((NT - uf) + 1))) * (oi ((NT - uf) + 1)))), (.int (oi uf))])) _
      rw [eur]
      refine XS.iadd XJ14.here hx rfl (hb hby at_271) rfl ?_
      show Steps p.tables e below (TJ14.setTop (mkF m 272 #[.val (.int p1), .val (.int p2), .val (.int p3), .val (.int p4), .val (.int p5), .val (.long q6), .second, .val (.int tv), .val (.int (oi su0)), .val (.int (oi su1)), .val (.int (oi su2)), .val (.int y1), .val (.int y2), .val (.int y3), .val (.int y4), .val (.int y5), .val (.int y6), .val (.int y7), .val (.int y8), .val (.ref b9), .val (.int (oi NT)), .val (.ref va), .val (.int (oi uf)), .unset, .unset, .unset] [(.int ((oi uf) + (oi ur)))])) _
      rw [oi_add (uf) (ur)]
      refine XS.istore XJ14.here hx rfl (hb hby at_272) rfl (l' := #[.val (.int p1), .val (.int p2), .val (.int p3), .val (.int p4), .val (.int p5), .val (.long q6), .second, .val (.int tv), .val (.int (oi su0)), .val (.int (oi su1)), .val (.int (oi su2)), .val (.int y1), .val (.int y2), .val (.int y3), .val (.int y4), .val (.int y5), .val (.int y6), .val (.int y7), .val (.int y8), .val (.ref b9), .val (.int (oi NT)), .val (.ref va), .val (.int (oi uf)), .val (.int (oi (uf + ur))), .unset, .unset]) rfl ?_
      refine st15 _ ?_
      refine XS.dup X15.here hx rfl (hb hby at_277) rfl rfl ?_
      refine XS.aload X15.here hx rfl (hb hby at_278) rfl rfl ?_
      refine st16.trans ?_
      refine XS.astore X16.here hx rfl (hb hby at_283) rfl rfl (l' := #[.val (.int p1), .val (.int p2), .val (.int p3), .val (.int p4), .val (.int p5), .val (.long q6), .second, .val (.int tv), .val (.int (oi su0)), .val (.int (oi su1)), .val (.int (oi su2)), .val (.int y1), .val (.int y2), .val (.int y3), .val (.int y4), .val (.int y5), .val (.int y6), .val (.int y7), .val (.int y8), .val (.ref b9), .val (.int (oi NT)), .val (.ref va), .val (.int (oi uf)), .val (.int (oi (uf + ur))), .val (.ref b15), .unset]) rfl ?_
      refine XS.aload X16.here hx rfl (hb hby at_285) rfl rfl ?_
      refine XS.aload X16.here hx rfl (hb hby at_287) rfl rfl ?_
      refine XS.iload X16.here hx rfl (hb hby at_289) rfl ?_
      refine XS.iload X16.here hx rfl (hb hby at_291) rfl ?_
      refine st17.trans ?_
      refine XS.astore X17.here hx rfl (hb hby at_296) rfl rfl (l' := #[.val (.int p1), .val (.int p2), .val (.int p3), .val (.int p4), .val (.int p5), .val (.long q6), .second, .val (.int tv), .val (.int (oi su0)), .val (.int (oi su1)), .val (.int (oi su2)), .val (.int y1), .val (.int y2), .val (.int y3), .val (.int y4), .val (.int y5), .val (.int y6), .val (.int y7), .val (.int y8), .val (.ref b9), .val (.int (oi NT)), .val (.ref va), .val (.int (oi uf)), .val (.int (oi (uf + ur))), .val (.ref b15), .val (.ref go)]) rfl ?_
      refine XS.aload X17.here hx rfl (hb hby at_298) rfl rfl ?_
      refine X17.arraylength hx Ar18.1 (State.isArrayOf_alike hZ.alike Ar18.2.1) (g := (mkF m 300 #[.val (.int p1), .val (.int p2), .val (.int p3), .val (.int p4), .val (.int p5), .val (.long q6), .second, .val (.int tv), .val (.int (oi su0)), .val (.int (oi su1)), .val (.int (oi su2)), .val (.int y1), .val (.int y2), .val (.int y3), .val (.int y4), .val (.int y5), .val (.int y6), .val (.int y7), .val (.int y8), .val (.ref b9), .val (.int (oi NT)), .val (.ref va), .val (.int (oi uf)), .val (.int (oi (uf + ur))), .val (.ref b15), .val (.ref go)] [(.ref go)])) rfl rfl (hb hby at_300) _ ?_
      rw [show cl18.slots.size.toInt32 = (oi ((uf + ur) - uf)) from (congrArg Nat.toInt32 S18).trans rfl]
      refine XS.iload X17.here hx rfl (hb hby at_301) rfl ?_
      refine XS.iload X17.here hx rfl (hb hby at_303) rfl ?_
      refine XS.isub X17.here hx rfl (hb hby at_305) rfl ?_
      show Steps p.tables e below (T17.setTop (mkF m 306 #[.val (.int p1), .val (.int p2), .val (.int p3), .val (.int p4), .val (.int p5), .val (.long q6), .second, .val (.int tv), .val (.int (oi su0)), .val (.int (oi su1)), .val (.int (oi su2)), .val (.int y1), .val (.int y2), .val (.int y3), .val (.int y4), .val (.int y5), .val (.int y6), .val (.int y7), .val (.int y8), .val (.ref b9), .val (.int (oi NT)), .val (.ref va), .val (.int (oi uf)), .val (.int (oi (uf + ur))), .val (.ref b15), .val (.ref go)] [(.int ((oi (uf + ur)) - (oi uf))), (.int (oi ((uf + ur) - uf)))])) _
      rw [oi_sub (a := (uf + ur)) (b := uf) (by omega)]
      refine XS.icmpYes X17.here hx rfl (pc0 := 306) (pc' := 311) rfl (hb hby at_306) rfl (teq (rfl : ((oi ((uf + ur) - uf)) = (oi ((uf + ur) - uf))))).1 (by decide) (by decide) ?_
      refine XS.aload X17.here hx rfl (hb hby at_311) rfl rfl ?_
      refine XS.aload X17.here hx rfl (hb hby at_313) rfl rfl ?_
      refine XS.aload X17.here hx rfl (hb hby at_315) rfl rfl ?_
      refine XS.iload X17.here hx rfl (hb hby at_317) rfl ?_
      refine XS.iconst X17.here hx rfl (hb hby at_319) ?_
      refine st19 _ ?_
      refine XS.ifNo X19.here hx rfl (hb hby at_323) rfl ((if0 _ _).trans (feq (by decide : ¬ ((1 : Int32) = (0 : Int32)))).1) ?_
      refine XS.aload X19.here hx rfl (hb hby at_326) rfl rfl ?_
      refine XS.aload X19.here hx rfl (hb hby at_328) rfl rfl ?_
      refine XS.aload X19.here hx rfl (hb hby at_330) rfl rfl ?_
      refine XS.iload X19.here hx rfl (hb hby at_332) rfl ?_
      refine XS.iconst X19.here hx rfl (hb hby at_334) ?_
      refine st20 _ ?_
      refine XS.ifNo X20.here hx rfl (hb hby at_338) rfl ((if0 _ _).trans (feq (by decide : ¬ ((1 : Int32) = (0 : Int32)))).1) ?_
      refine XS.aload X20.here hx rfl (hb hby at_341) rfl rfl ?_
      refine XS.aload X20.here hx rfl (hb hby at_343) rfl rfl ?_
      refine XS.aload X20.here hx rfl (hb hby at_345) rfl rfl ?_
      refine XS.iload X20.here hx rfl (hb hby at_347) rfl ?_
      refine XS.iconst X20.here hx rfl (hb hby at_349) ?_
      show Steps p.tables e below (T20.setTop (mkF m 350 #[.val (.int p1), .val (.int p2), .val (.int p3), .val (.int p4), .val (.int p5), .val (.long q6), .second, .val (.int tv), .val (.int (oi su0)), .val (.int (oi su1)), .val (.int (oi su2)), .val (.int y1), .val (.int y2), .val (.int y3), .val (.int y4), .val (.int y5), .val (.int y6), .val (.int y7), .val (.int y8), .val (.ref b9), .val (.int (oi NT)), .val (.ref va), .val (.int (oi uf)), .val (.int (oi (uf + ur))), .val (.ref b15), .val (.ref go)] [(.int (2 : Int32)), (.int (oi uf)), (.ref go), (.ref va), (.ref b15)])) _
      refine st21 _ ?_
      refine XS.ifNo X21.here hx rfl (hb hby at_353) rfl ((if0 _ _).trans (feq (by decide : ¬ ((1 : Int32) = (0 : Int32)))).1) ?_
      refine XS.aload X21.here hx rfl (hb hby at_356) rfl rfl ?_
      refine XS.aload X21.here hx rfl (hb hby at_358) rfl rfl ?_
      refine XS.aload X21.here hx rfl (hb hby at_360) rfl rfl ?_
      refine XS.iload X21.here hx rfl (hb hby at_362) rfl ?_
      refine XS.iconst X21.here hx rfl (hb hby at_364) ?_
      refine st22 _ ?_
      refine XS.ifNo X22.here hx rfl (hb hby at_368) rfl ((if0 _ _).trans (feq (by decide : ¬ ((1 : Int32) = (0 : Int32)))).1) ?_
      refine XS.aload X22.here hx rfl (hb hby at_371) rfl rfl ?_
      refine XS.aload X22.here hx rfl (hb hby at_373) rfl rfl ?_
      refine XS.aload X22.here hx rfl (hb hby at_375) rfl rfl ?_
      refine XS.iload X22.here hx rfl (hb hby at_377) rfl ?_
      refine XS.iconst X22.here hx rfl (hb hby at_379) ?_
      refine st23 _ ?_
      refine XS.ifNo X23.here hx rfl (hb hby at_383) rfl ((if0 _ _).trans (feq (by decide : ¬ ((1 : Int32) = (0 : Int32)))).1) ?_
      refine XS.aload X23.here hx rfl (hb hby at_386) rfl rfl ?_
      refine XS.aload X23.here hx rfl (hb hby at_388) rfl rfl ?_
      refine XS.aload X23.here hx rfl (hb hby at_390) rfl rfl ?_
      refine XS.iload X23.here hx rfl (hb hby at_392) rfl ?_
      refine XS.iconst X23.here hx rfl (hb hby at_394) ?_
      show Steps p.tables e below (T23.setTop (mkF m 395 #[.val (.int p1), .val (.int p2), .val (.int p3), .val (.int p4), .val (.int p5), .val (.long q6), .second, .val (.int tv), .val (.int (oi su0)), .val (.int (oi su1)), .val (.int (oi su2)), .val (.int y1), .val (.int y2), .val (.int y3), .val (.int y4), .val (.int y5), .val (.int y6), .val (.int y7), .val (.int y8), .val (.ref b9), .val (.int (oi NT)), .val (.ref va), .val (.int (oi uf)), .val (.int (oi (uf + ur))), .val (.ref b15), .val (.ref go)] [(.int (5 : Int32)), (.int (oi uf)), (.ref go), (.ref va), (.ref b15)])) _
      refine st24 _ ?_
      refine XS.ifNo X24.here hx rfl (hb hby at_398) rfl ((if0 _ _).trans (feq (by decide : ¬ ((1 : Int32) = (0 : Int32)))).1) ?_
      refine XS.iconst X24.here hx rfl (hb hby at_401) ?_
      refine XS.goto X24.here hx rfl (pc0 := 402) (pc' := 406) rfl (hb hby at_402) (by decide) (by decide) ?_
      exact retN X24 hx (t := .boolean) Bd.returns (by simp) (hb hby at_406) hr
    · show Q_rm0 Z p1 p2 p3 p4 p5 q6 cs fo dc fd h0 n0 _ T24.heap _
      rw [e24]
      exact ⟨rfl, N24⟩
  have htx := own_tx p4
  rw [← htv] at htx
  clear htv
  rcases htx with rfl | rfl | rfl
  · obtain ⟨T25, h25, k25, X25, e25, E25, A25, st25⟩ := newP X12 hx hZ (wq hw 89 rfl) rfl (g := (mkF m 185 #[.val (.int p1), .val (.int p2), .val (.int p3), .val (.int p4), .val (.int p5), .val (.long q6), .second, .val (.int (1 : Int32)), .val (.int (oi su0)), .val (.int (oi su1)), .val (.int (oi su2)), .val (.int y1), .val (.int y2), .val (.int y3), .val (.int y4), .val (.int y5), .val (.int y6), .val (.int y7), .val (.int y8), .val (.ref b9), .val (.int (oi su0)), .unset, .unset, .unset, .unset, .unset] [(.int (1 : Int32))])) rfl (hb hby at_185) rfl (by decide) (cap := 1) (by decide) (by decide) (by decide) (by decide)
    obtain ⟨b25, g25⟩ : ∃ z, z = T12.heap.size := ⟨_, rfl⟩
    rw [← g25] at A25 st25
    have ne_dc_b25 : Dif dc b25 := Nat.ne_of_lt (Nat.lt_of_lt_of_le Fp6_v12.lt (Nat.le_of_eq g25.symm))
    have ne_b9_b25 : Dif b9 b25 := Nat.ne_of_lt (Nat.lt_of_lt_of_le Ex9_v12.lt (Nat.le_of_eq g25.symm))
    have ne_sa0_b25 : Dif sa0 b25 := Nat.ne_of_lt (Nat.lt_of_lt_of_le nf11_0_v12.lt (Nat.le_of_eq g25.symm))
    have ne_sb0_b25 : Dif sb0 b25 := Nat.ne_of_lt (Nat.lt_of_lt_of_le nf11_3_v12.lt (Nat.le_of_eq g25.symm))
    have ne_el_b25 : Dif el b25 := Nat.ne_of_lt (Nat.lt_of_lt_of_le nf12_3_v12.lt (Nat.le_of_eq g25.symm))
    have g_b25 : Lq n0 b25 := Nat.le_trans Z12 (Nat.le_of_eq g25.symm)
    clear g25
    have Fp0_v25 := Fp0_v12.ext E25
    have Fp1_v25 := Fp1_v12.ext E25
    have Fp2_v25 := Fp2_v12.ext E25
    have Fp3_v25 := Fp3_v12.ext E25
    have Fp4_v25 := Fp4_v12.ext E25
    have Fp5_v25 := Fp5_v12.ext E25
    have Fp6_v25 := Fp6_v12.ext E25
    have Ex9_v25 := Ex9_v12.ext E25
    have nf11_0_v25 := nf11_0_v12.ext E25
    have nf11_1_v25 := nf11_1_v12.ext E25
    have nf11_2_v25 := nf11_2_v12.ext E25
    have nf11_3_v25 := nf11_3_v12.ext E25
    have nf12_0_v25 := nf12_0_v12.ext E25
    have nf12_1_v25 := nf12_1_v12.ext E25
    have nf12_2_v25 := nf12_2_v12.ext E25
    have nf12_3_v25 := nf12_3_v12.ext E25
    have Z25 : Lq n0 h25.size := Nat.le_trans Z12 E25.1
    have V25_v25 : ArF Z h25 b25 .int 1 (fun _ => (.int 0)) := ArF.mk0 A25 rfl rfl
    obtain ⟨cl26, Ar26, S26, H26⟩ := id V25_v25
    replace S26 : Sq cl26.slots.size _ := S26
    have hin26 : Hq (0 : Int32) cl26.slots.size := inA S26 (by decide) (by decide)
    obtain ⟨T26, h26, X26, e26, W26, st26⟩ := stI X25 hx hZ e25 Ar26 (j := (0 : Int32)) hin26 (g := (mkF m 191 #[.val (.int p1), .val (.int p2), .val (.int p3), .val (.int p4), .val (.int p5), .val (.long q6), .second, .val (.int (1 : Int32)), .val (.int (oi su0)), .val (.int (oi su1)), .val (.int (oi su2)), .val (.int y1), .val (.int y2), .val (.int y3), .val (.int y4), .val (.int y5), .val (.int y6), .val (.int y7), .val (.int y8), .val (.ref b9), .val (.int (oi su0)), .unset, .unset, .unset, .unset, .unset] [(.int p5), (.int (0 : Int32)), (.ref b25), (.ref b25)])) rfl rfl (hb hby at_191)
    have Fp0_v26 := Fp0_v25.wr W26
    have Fp1_v26 := Fp1_v25.wr W26
    have Fp2_v26 := Fp2_v25.wr W26
    have Fp3_v26 := Fp3_v25.wr W26
    have Fp4_v26 := Fp4_v25.wr W26
    have Fp5_v26 := Fp5_v25.wr W26
    have Fp6_v26 := Fp6_v25.other W26 ne_dc_b25
    have Ex9_v26 := Ex9_v25.wr W26
    have nf11_0_v26 := nf11_0_v25.wr W26
    have nf11_1_v26 := nf11_1_v25.other W26 (Or.inl ne_sa0_b25)
    have nf11_2_v26 := nf11_2_v25.other W26 (Or.inl ne_sa0_b25)
    have nf11_3_v26 := nf11_3_v25.other W26 ne_sb0_b25
    have nf12_0_v26 := nf12_0_v25.other W26 (Or.inl ne_b9_b25)
    have nf12_1_v26 := nf12_1_v25.other W26 (Or.inl ne_b9_b25)
    have nf12_2_v26 := nf12_2_v25.other W26 (Or.inl ne_b9_b25)
    have nf12_3_v26 := nf12_3_v25.other W26 ne_el_b25
    have Z26 : Lq n0 h26.size := Nat.le_trans Z25 (Nat.le_of_eq W26.size.symm)
    have V26_v26 := ArF.set Ar26 S26 H26 W26 hin26
    have N26 := Fr.snoc X26 N12 g_b25
    have VC27_v27 : ArF Z h26 b25 .int 1 (fun j => .int ((up (fun _ => 0) 0 p5) j)) := (V26_v26.congr (fun j hj => set_up (f := (fun _ => 0)) (c := (0 : Int32)) (i := 0) rfl j))
    have pre28 : ∀ t, Steps p.tables e below (T26.setTop (mkF m 241 #[.val (.int p1), .val (.int p2), .val (.int p3), .val (.int p4), .val (.int p5), .val (.long q6), .second, .val (.int (1 : Int32)), .val (.int (oi su0)), .val (.int (oi su1)), .val (.int (oi su2)), .val (.int y1), .val (.int y2), .val (.int y3), .val (.int y4), .val (.int y5), .val (.int y6), .val (.int y7), .val (.int y8), .val (.ref b9), .val (.int (oi su0)), .val (.ref b25), .unset, .unset, .unset, .unset] [])) t → Steps p.tables e below (s₁.setTop (entryFrame m #[(.int p1), (.int p2), (.int p3), (.int p4), (.int p5), (.long q6)] maxLocals)) t := by
      intro t k
      refine pre13 t ?_
      refine XS.iload X12.here hx rfl (hb hby at_106) rfl ?_
      refine XS.iconst X12.here hx rfl (hb hby at_108) ?_
      refine XS.icmpYes X12.here hx rfl (pc0 := 109) (pc' := 127) rfl (hb hby at_109) rfl (flt (by decide : ¬ ((1 : Int32) < (1 : Int32)))).2.2.2 (by decide) (by decide) ?_
      refine XS.iload X12.here hx rfl (hb hby at_127) rfl ?_
      refine XS.iconst X12.here hx rfl (hb hby at_129) ?_
      refine XS.icmpYes X12.here hx rfl (pc0 := 130) (pc' := 148) rfl (hb hby at_130) rfl (flt (by decide : ¬ ((2 : Int32) < (1 : Int32)))).2.2.2 (by decide) (by decide) ?_
      refine XS.iload X12.here hx rfl (hb hby at_148) rfl ?_
      refine XS.iload X12.here hx rfl (hb hby at_150) rfl ?_
      refine XS.iconst X12.here hx rfl (hb hby at_152) ?_
      refine XS.icmpYes X12.here hx rfl (pc0 := 153) (pc' := 161) rfl (hb hby at_153) rfl (flt (by decide : ¬ ((1 : Int32) < (1 : Int32)))).2.2.2 (by decide) (by decide) ?_
      refine XS.iconst X12.here hx rfl (hb hby at_161) ?_
      refine XS.iadd X12.here hx rfl (hb hby at_162) rfl ?_
      show Steps p.tables e below (T12.setTop (mkF m 163 #[.val (.int p1), .val (.int p2), .val (.int p3), .val (.int p4), .val (.int p5), .val (.long q6), .second, .val (.int (1 : Int32)), .val (.int (oi su0)), .val (.int (oi su1)), .val (.int (oi su2)), .val (.int y1), .val (.int y2), .val (.int y3), .val (.int y4), .val (.int y5), .val (.int y6), .val (.int y7), .val (.int y8), .val (.ref b9), .unset, .unset, .unset, .unset, .unset, .unset] [(.int ((oi su0) + (0 : Int32)))])) _
      rw [oi_0 (su0)]
      refine XS.iload X12.here hx rfl (hb hby at_163) rfl ?_
      refine XS.iconst X12.here hx rfl (hb hby at_165) ?_
      refine XS.icmpYes X12.here hx rfl (pc0 := 166) (pc' := 174) rfl (hb hby at_166) rfl (flt (by decide : ¬ ((2 : Int32) < (1 : Int32)))).2.2.2 (by decide) (by decide) ?_
      refine XS.iconst X12.here hx rfl (hb hby at_174) ?_
      refine XS.iadd X12.here hx rfl (hb hby at_175) rfl ?_
      show Steps p.tables e below (T12.setTop (mkF m 176 #[.val (.int p1), .val (.int p2), .val (.int p3), .val (.int p4), .val (.int p5), .val (.long q6), .second, .val (.int (1 : Int32)), .val (.int (oi su0)), .val (.int (oi su1)), .val (.int (oi su2)), .val (.int y1), .val (.int y2), .val (.int y3), .val (.int y4), .val (.int y5), .val (.int y6), .val (.int y7), .val (.int y8), .val (.ref b9), .unset, .unset, .unset, .unset, .unset, .unset] [(.int ((oi su0) + (0 : Int32)))])) _
      rw [oi_0 (su0)]
      refine XS.istore X12.here hx rfl (hb hby at_176) rfl (l' := #[.val (.int p1), .val (.int p2), .val (.int p3), .val (.int p4), .val (.int p5), .val (.long q6), .second, .val (.int (1 : Int32)), .val (.int (oi su0)), .val (.int (oi su1)), .val (.int (oi su2)), .val (.int y1), .val (.int y2), .val (.int y3), .val (.int y4), .val (.int y5), .val (.int y6), .val (.int y7), .val (.int y8), .val (.ref b9), .val (.int (oi su0)), .unset, .unset, .unset, .unset, .unset]) rfl ?_
      refine XS.iload X12.here hx rfl (hb hby at_178) rfl ?_
      refine XS.iconst X12.here hx rfl (hb hby at_180) ?_
      refine XS.icmpNo X12.here hx rfl (hb hby at_181) rfl (teq (by decide : ((1 : Int32) = (1 : Int32)))).2 ?_
      refine XS.iconst X12.here hx rfl (hb hby at_184) ?_
      refine st25 _ ?_
      refine XS.dup X25.here hx rfl (hb hby at_187) rfl rfl ?_
      refine XS.iconst X25.here hx rfl (hb hby at_188) ?_
      refine XS.iload X25.here hx rfl (hb hby at_189) rfl ?_
      refine st26 _ ?_
      refine XS.astore X26.here hx rfl (hb hby at_192) rfl rfl (l' := #[.val (.int p1), .val (.int p2), .val (.int p3), .val (.int p4), .val (.int p5), .val (.long q6), .second, .val (.int (1 : Int32)), .val (.int (oi su0)), .val (.int (oi su1)), .val (.int (oi su2)), .val (.int y1), .val (.int y2), .val (.int y3), .val (.int y4), .val (.int y5), .val (.int y6), .val (.int y7), .val (.int y8), .val (.ref b9), .val (.int (oi su0)), .val (.ref b25), .unset, .unset, .unset, .unset]) rfl ?_
      refine XS.goto X26.here hx rfl (pc0 := 194) (pc' := 241) rfl (hb hby at_194) (by decide) (by decide) ?_
      exact k
    exact join14 _ _ _ _ _ 1 _ _ (f3 sa0 sa0 sa0) (f3 sb0 sb0 sb0) (f3 su0 su0 su0) (f3 sn0 sn0 sn0) (f3 sc0 sc0 sc0) (f3 sg0 sg0 sg0) (upV (fun _ => Value.null) 0 (.ref sa0)) ((up (fun _ => 0) 0 p5)) (X26.more (by decide : 7 ≤ 15) (by decide : 26 ≤ 52)) e26 N26 Z26 Fp0_v26 Fp1_v26 Fp2_v26 Fp3_v26 Fp4_v26 Ex9_v26 nf12_1_v26 nf12_2_v26 nf12_3_v26 (all1 ⟨nf11_0_v26, nf11_1_v26, nf11_2_v26, nf11_3_v26⟩) VC27_v27 (Or.inl rfl) (show su0 = 0 + su0 by omega) (all1 rfl) (all1 ⟨hsd0, hsu0⟩) pre28
  · obtain ⟨_, _, ⟨T29, L29, k29, n29⟩, -, X29, ⟨Lc29, hQ29, l29, y29, z29⟩, st29⟩ := Jvm.LawKit.callS X12 hx (y := (⟨"com/example/even_roster/evenroster/scim/SortedSuffixesValuesAtPinLaw", "text", "(ICC)Ljava/lang/String;"⟩ : MethodName)) hown (mvT hZ (wq hw 26 rfl)) (mvT hZ (wq hw 27 rfl)) (mvT hZ (wq hw 28 rfl)) (mvT hZ (wq hw 29 rfl)) (by decide) (backOf (W := 1) (rtext l Z a0 hw [] y3 y4 su1 cs T12.heap n0 Z12 Fp0_v12 Fp2_v12 Fp3_v12 Fp4_v12 hcs hsu1) hZ (wq hw 29 rfl) (wq hw 28 rfl) (by decide) (by decide)) (g := (mkF m 120 #[.val (.int p1), .val (.int p2), .val (.int p3), .val (.int p4), .val (.int p5), .val (.long q6), .second, .val (.int (2 : Int32)), .val (.int (oi su0)), .val (.int (oi su1)), .val (.int (oi su2)), .val (.int y1), .val (.int y2), .val (.int y3), .val (.int y4), .val (.int y5), .val (.int y6), .val (.int y7), .val (.int y8), .val (.ref b9), .unset, .unset, .unset, .unset, .unset, .unset] [(.int y4), (.int y3), (.int (oi su1)), (.ref b9)])) rfl (by rw [hml]; rfl) (argsL := [(.int (oi su1)), (.int y3), (.int y4)]) (rest := [(.ref b9)]) (lenOf pd_32 rfl) rfl (by show 2 * 0 + _ ≤ _; exact Nat.le_of_eq rfl) (hb hby at_120) (fun _ _ => ⟨rfl, rfl, (by decide : 6 + 4 ≤ _), (by decide : 25 + 12 ≤ _)⟩)
    dsimp only [Pt.U, Pt.locs, Pt.cells, Pt.slots] at X29 l29 y29 z29 st29 hQ29
    subst l29 y29 z29
    obtain ⟨sa1, sb1, sn1, sc1, sg1, rfl, N29q, Kc29, sb_sa1, sb_sb1, ne_sa1_sb1, nf29_0_v29, nf29_1_v29, nf29_2_v29, nf29_3_v29, hsd1⟩ := hQ29
    have N29 := Fr.app N12 N29q
    replace ne_sa1_sb1 : Dif sa1 sb1 := ne_sa1_sb1
    replace sb_sa1 : Lq _ _ := sb_sa1
    have ne_dc_sa1 : Dif dc sa1 := Nat.ne_of_lt (Nat.lt_of_lt_of_le Fp6_v12.lt sb_sa1)
    have ne_b9_sa1 : Dif b9 sa1 := Nat.ne_of_lt (Nat.lt_of_lt_of_le Ex9_v12.lt sb_sa1)
    have ne_sa0_sa1 : Dif sa0 sa1 := Nat.ne_of_lt (Nat.lt_of_lt_of_le nf11_0_v12.lt sb_sa1)
    have ne_sb0_sa1 : Dif sb0 sa1 := Nat.ne_of_lt (Nat.lt_of_lt_of_le nf11_3_v12.lt sb_sa1)
    have ne_el_sa1 : Dif el sa1 := Nat.ne_of_lt (Nat.lt_of_lt_of_le nf12_3_v12.lt sb_sa1)
    have g_sa1 : Lq n0 sa1 := Nat.le_trans Z12 sb_sa1
    replace sb_sb1 : Lq _ _ := sb_sb1
    have ne_dc_sb1 : Dif dc sb1 := Nat.ne_of_lt (Nat.lt_of_lt_of_le Fp6_v12.lt sb_sb1)
    have ne_b9_sb1 : Dif b9 sb1 := Nat.ne_of_lt (Nat.lt_of_lt_of_le Ex9_v12.lt sb_sb1)
    have ne_sa0_sb1 : Dif sa0 sb1 := Nat.ne_of_lt (Nat.lt_of_lt_of_le nf11_0_v12.lt sb_sb1)
    have ne_sb0_sb1 : Dif sb0 sb1 := Nat.ne_of_lt (Nat.lt_of_lt_of_le nf11_3_v12.lt sb_sb1)
    have ne_el_sb1 : Dif el sb1 := Nat.ne_of_lt (Nat.lt_of_lt_of_le nf12_3_v12.lt sb_sb1)
    have g_sb1 : Lq n0 sb1 := Nat.le_trans Z12 sb_sb1
    have Fp0_v29 := Sta.keep0 Fp0_v12 Kc29
    have Fp1_v29 := Sta.keep0 Fp1_v12 Kc29
    have Fp2_v29 := Sta.keep0 Fp2_v12 Kc29
    have Fp3_v29 := Sta.keep0 Fp3_v12 Kc29
    have Fp4_v29 := Sta.keep0 Fp4_v12 Kc29
    have Fp5_v29 := Sta.keep0 Fp5_v12 Kc29
    have Fp6_v29 := Fp6_v12.keep Kc29 nin0
    have Ex9_v29 := Ex9_v12.keep Kc29
    have nf11_0_v29 := nf11_0_v12.keep Kc29
    have nf11_1_v29 := nf11_1_v12.keep Kc29 nin0
    have nf11_2_v29 := nf11_2_v12.keep Kc29 nin0
    have nf11_3_v29 := nf11_3_v12.keep Kc29 nin0
    have nf12_0_v29 := nf12_0_v12.keep Kc29 nin0
    have nf12_1_v29 := nf12_1_v12.keep Kc29 nin0
    have nf12_2_v29 := nf12_2_v12.keep Kc29 nin0
    have nf12_3_v29 := nf12_3_v12.keep Kc29 nin0
    have Z29 : Lq n0 T29.heap.size := Nat.le_trans Z12 Kc29.1
    obtain ⟨cq30, kq30, q30a, q30b, q30c⟩ := isOf hZ rfl Ex9_v29
    obtain ⟨_, _, ⟨T30, L30, k30, n30⟩, -, X30, ⟨Lc30, hQ30, l30, y30, z30⟩, st30⟩ := X29.virtualBack hx (y := (⟨"java/util/ArrayList", "add", "(Ljava/lang/Object;)Z"⟩ : MethodName)) (z := (⟨"java/util/ArrayList", "add", "(Ljava/lang/Object;)Z"⟩ : MethodName)) hown (mvT hZ (wq hw 58 rfl)) (mvT hZ (wq hw 59 rfl)) (notFace_of_selects (args := #[]) (mvT hZ (wq hw 61 rfl))) (mvT hZ (wq hw 61 rfl)) (mvT hZ (wq hw 60 rfl)) (by decide) (backOf (W := 0) (rads l Z a0 hw [] b9 sa1 el 1 (1 : Int32) (upV (fun _ => Value.null) 0 (.ref sa0)) T29.heap n0 Z29 Ex9_v29 nf12_0_v29 nf12_1_v29 nf12_2_v29 nf12_3_v29 nf29_0_v29 (Or.inl rfl) g_b9 g_el (Ne.symm ne_b9_el)) hZ (wq hw 62 rfl) (wq hw 2 rfl) (by decide) (by decide)) q30a q30c (g := (mkF m 123 #[.val (.int p1), .val (.int p2), .val (.int p3), .val (.int p4), .val (.int p5), .val (.long q6), .second, .val (.int (2 : Int32)), .val (.int (oi su0)), .val (.int (oi su1)), .val (.int (oi su2)), .val (.int y1), .val (.int y2), .val (.int y3), .val (.int y4), .val (.int y5), .val (.int y6), .val (.int y7), .val (.int y8), .val (.ref b9), .unset, .unset, .unset, .unset, .unset, .unset] [(.ref sa1), (.ref b9)])) rfl (by rw [hml]; rfl) (Steps.refl _) (argsL := [(.ref sa1)]) (rest := []) (lenOf pd_33 rfl) rfl (by show 2 * 0 + _ ≤ _; exact Nat.le_of_eq rfl) (hb hby at_123) (fun _ _ => ⟨rfl, rfl, (by decide : 10 + 0 ≤ _), (by decide : 37 + 0 ≤ _)⟩)
    dsimp only [Pt.U, Pt.locs, Pt.cells, Pt.slots] at X30 l30 y30 z30 st30 hQ30
    subst l30 y30 z30
    obtain ⟨rfl, N30q, Kc30, nf30_0_v30, nf30_1_v30, nf30_2_v30, nf30_3_v30⟩ := hQ30
    have N30 := Fr.app N29 N30q
    have Fp0_v30 := Sta.keepW Fp0_v29 Kc30 (nosS (nosE Ex9_v29) (nosS (nosR nf12_3_v29) nos0))
    have Fp1_v30 := Sta.keepW Fp1_v29 Kc30 (nosS (nosE Ex9_v29) (nosS (nosR nf12_3_v29) nos0))
    have Fp2_v30 := Sta.keepW Fp2_v29 Kc30 (nosS (nosE Ex9_v29) (nosS (nosR nf12_3_v29) nos0))
    have Fp3_v30 := Sta.keepW Fp3_v29 Kc30 (nosS (nosE Ex9_v29) (nosS (nosR nf12_3_v29) nos0))
    have Fp4_v30 := Sta.keepW Fp4_v29 Kc30 (nosS (nosE Ex9_v29) (nosS (nosR nf12_3_v29) nos0))
    have Fp5_v30 := Sta.keepW Fp5_v29 Kc30 (nosS (nosE Ex9_v29) (nosS (nosR nf12_3_v29) nos0))
    have Fp6_v30 := Fp6_v29.keep Kc30 (ninS ne_dc_b9 (ninS ne_dc_el nin0))
    have Ex9_v30 := Ex9_v29.keep Kc30
    have nf11_0_v30 := nf11_0_v29.keep Kc30
    have nf11_1_v30 := nf11_1_v29.keep Kc30 (ninS (Ne.symm ne_b9_sa0) (ninS ne_sa0_el nin0))
    have nf11_2_v30 := nf11_2_v29.keep Kc30 (ninS (Ne.symm ne_b9_sa0) (ninS ne_sa0_el nin0))
    have nf11_3_v30 := nf11_3_v29.keep Kc30 (ninS (Ne.symm ne_b9_sb0) (ninS ne_sb0_el nin0))
    have nf29_0_v30 := nf29_0_v29.keep Kc30
    have nf29_1_v30 := nf29_1_v29.keep Kc30 (ninS (Ne.symm ne_b9_sa1) (ninS (Ne.symm ne_el_sa1) nin0))
    have nf29_2_v30 := nf29_2_v29.keep Kc30 (ninS (Ne.symm ne_b9_sa1) (ninS (Ne.symm ne_el_sa1) nin0))
    have nf29_3_v30 := nf29_3_v29.keep Kc30 (ninS (Ne.symm ne_b9_sb1) (ninS (Ne.symm ne_el_sb1) nin0))
    have Z30 : Lq n0 T30.heap.size := Nat.le_trans Z29 Kc30.1
    obtain ⟨T31, h31, k31, X31, e31, E31, A31, st31⟩ := newP X30 hx hZ (wq hw 89 rfl) rfl (g := (mkF m 204 #[.val (.int p1), .val (.int p2), .val (.int p3), .val (.int p4), .val (.int p5), .val (.long q6), .second, .val (.int (2 : Int32)), .val (.int (oi su0)), .val (.int (oi su1)), .val (.int (oi su2)), .val (.int y1), .val (.int y2), .val (.int y3), .val (.int y4), .val (.int y5), .val (.int y6), .val (.int y7), .val (.int y8), .val (.ref b9), .val (.int (oi ((su0 + su1)))), .unset, .unset, .unset, .unset, .unset] [(.int (2 : Int32))])) rfl (hb hby at_204) rfl (by decide) (cap := 2) (by decide) (by decide) (by decide) (by decide)
    obtain ⟨b31, g31⟩ : ∃ z, z = T30.heap.size := ⟨_, rfl⟩
    rw [← g31] at A31 st31
    have ne_dc_b31 : Dif dc b31 := Nat.ne_of_lt (Nat.lt_of_lt_of_le Fp6_v30.lt (Nat.le_of_eq g31.symm))
    have ne_b9_b31 : Dif b9 b31 := Nat.ne_of_lt (Nat.lt_of_lt_of_le Ex9_v30.lt (Nat.le_of_eq g31.symm))
    have ne_sa0_b31 : Dif sa0 b31 := Nat.ne_of_lt (Nat.lt_of_lt_of_le nf11_0_v30.lt (Nat.le_of_eq g31.symm))
    have ne_sb0_b31 : Dif sb0 b31 := Nat.ne_of_lt (Nat.lt_of_lt_of_le nf11_3_v30.lt (Nat.le_of_eq g31.symm))
    have ne_sa1_b31 : Dif sa1 b31 := Nat.ne_of_lt (Nat.lt_of_lt_of_le nf29_0_v30.lt (Nat.le_of_eq g31.symm))
    have ne_sb1_b31 : Dif sb1 b31 := Nat.ne_of_lt (Nat.lt_of_lt_of_le nf29_3_v30.lt (Nat.le_of_eq g31.symm))
    have ne_el_b31 : Dif el b31 := Nat.ne_of_lt (Nat.lt_of_lt_of_le nf30_3_v30.lt (Nat.le_of_eq g31.symm))
    have g_b31 : Lq n0 b31 := Nat.le_trans Z30 (Nat.le_of_eq g31.symm)
    clear g31
    have Fp0_v31 := Fp0_v30.ext E31
    have Fp1_v31 := Fp1_v30.ext E31
    have Fp2_v31 := Fp2_v30.ext E31
    have Fp3_v31 := Fp3_v30.ext E31
    have Fp4_v31 := Fp4_v30.ext E31
    have Fp5_v31 := Fp5_v30.ext E31
    have Fp6_v31 := Fp6_v30.ext E31
    have Ex9_v31 := Ex9_v30.ext E31
    have nf11_0_v31 := nf11_0_v30.ext E31
    have nf11_1_v31 := nf11_1_v30.ext E31
    have nf11_2_v31 := nf11_2_v30.ext E31
    have nf11_3_v31 := nf11_3_v30.ext E31
    have nf29_0_v31 := nf29_0_v30.ext E31
    have nf29_1_v31 := nf29_1_v30.ext E31
    have nf29_2_v31 := nf29_2_v30.ext E31
    have nf29_3_v31 := nf29_3_v30.ext E31
    have nf30_0_v31 := nf30_0_v30.ext E31
    have nf30_1_v31 := nf30_1_v30.ext E31
    have nf30_2_v31 := nf30_2_v30.ext E31
    have nf30_3_v31 := nf30_3_v30.ext E31
    have Z31 : Lq n0 h31.size := Nat.le_trans Z30 E31.1
    have V31_v31 : ArF Z h31 b31 .int 2 (fun _ => (.int 0)) := ArF.mk0 A31 rfl rfl
    obtain ⟨cl32, Ar32, S32, H32⟩ := id V31_v31
    replace S32 : Sq cl32.slots.size _ := S32
    have hin32 : Hq (0 : Int32) cl32.slots.size := inA S32 (by decide) (by decide)
    obtain ⟨T32, h32, X32, e32, W32, st32⟩ := stI X31 hx hZ e31 Ar32 (j := (0 : Int32)) hin32 (g := (mkF m 210 #[.val (.int p1), .val (.int p2), .val (.int p3), .val (.int p4), .val (.int p5), .val (.long q6), .second, .val (.int (2 : Int32)), .val (.int (oi su0)), .val (.int (oi su1)), .val (.int (oi su2)), .val (.int y1), .val (.int y2), .val (.int y3), .val (.int y4), .val (.int y5), .val (.int y6), .val (.int y7), .val (.int y8), .val (.ref b9), .val (.int (oi ((su0 + su1)))), .unset, .unset, .unset, .unset, .unset] [(.int p5), (.int (0 : Int32)), (.ref b31), (.ref b31)])) rfl rfl (hb hby at_210)
    have Fp0_v32 := Fp0_v31.wr W32
    have Fp1_v32 := Fp1_v31.wr W32
    have Fp2_v32 := Fp2_v31.wr W32
    have Fp3_v32 := Fp3_v31.wr W32
    have Fp4_v32 := Fp4_v31.wr W32
    have Fp5_v32 := Fp5_v31.wr W32
    have Fp6_v32 := Fp6_v31.other W32 ne_dc_b31
    have Ex9_v32 := Ex9_v31.wr W32
    have nf11_0_v32 := nf11_0_v31.wr W32
    have nf11_1_v32 := nf11_1_v31.other W32 (Or.inl ne_sa0_b31)
    have nf11_2_v32 := nf11_2_v31.other W32 (Or.inl ne_sa0_b31)
    have nf11_3_v32 := nf11_3_v31.other W32 ne_sb0_b31
    have nf29_0_v32 := nf29_0_v31.wr W32
    have nf29_1_v32 := nf29_1_v31.other W32 (Or.inl ne_sa1_b31)
    have nf29_2_v32 := nf29_2_v31.other W32 (Or.inl ne_sa1_b31)
    have nf29_3_v32 := nf29_3_v31.other W32 ne_sb1_b31
    have nf30_0_v32 := nf30_0_v31.other W32 (Or.inl ne_b9_b31)
    have nf30_1_v32 := nf30_1_v31.other W32 (Or.inl ne_b9_b31)
    have nf30_2_v32 := nf30_2_v31.other W32 (Or.inl ne_b9_b31)
    have nf30_3_v32 := nf30_3_v31.other W32 ne_el_b31
    have Z32 : Lq n0 h32.size := Nat.le_trans Z31 (Nat.le_of_eq W32.size.symm)
    have V32_v32 := ArF.set Ar32 S32 H32 W32 hin32
    have N32 := Fr.snoc X32 N30 g_b31
    have VC33_v33 : ArF Z h32 b31 .int 2 (fun j => .int ((up (fun _ => 0) 0 p5) j)) := (V32_v32.congr (fun j hj => set_up (f := (fun _ => 0)) (c := (0 : Int32)) (i := 0) rfl j))
    obtain ⟨cl34, Ar34, S34, H34⟩ := id VC33_v33
    replace S34 : Sq cl34.slots.size _ := S34
    have hin34 : Hq (1 : Int32) cl34.slots.size := inA S34 (by decide) (by decide)
    obtain ⟨T34, h34, X34, e34, W34, st34⟩ := stI X32 hx hZ e32 Ar34 (j := (1 : Int32)) hin34 (g := (mkF m 215 #[.val (.int p1), .val (.int p2), .val (.int p3), .val (.int p4), .val (.int p5), .val (.long q6), .second, .val (.int (2 : Int32)), .val (.int (oi su0)), .val (.int (oi su1)), .val (.int (oi su2)), .val (.int y1), .val (.int y2), .val (.int y3), .val (.int y4), .val (.int y5), .val (.int y6), .val (.int y7), .val (.int y8), .val (.ref b9), .val (.int (oi ((su0 + su1)))), .unset, .unset, .unset, .unset, .unset] [(.int y7), (.int (1 : Int32)), (.ref b31), (.ref b31)])) rfl rfl (hb hby at_215)
    have Fp0_v34 := Fp0_v32.wr W34
    have Fp1_v34 := Fp1_v32.wr W34
    have Fp2_v34 := Fp2_v32.wr W34
    have Fp3_v34 := Fp3_v32.wr W34
    have Fp4_v34 := Fp4_v32.wr W34
    have Fp5_v34 := Fp5_v32.wr W34
    have Fp6_v34 := Fp6_v32.other W34 ne_dc_b31
    have Ex9_v34 := Ex9_v32.wr W34
    have nf11_0_v34 := nf11_0_v32.wr W34
    have nf11_1_v34 := nf11_1_v32.other W34 (Or.inl ne_sa0_b31)
    have nf11_2_v34 := nf11_2_v32.other W34 (Or.inl ne_sa0_b31)
    have nf11_3_v34 := nf11_3_v32.other W34 ne_sb0_b31
    have nf29_0_v34 := nf29_0_v32.wr W34
    have nf29_1_v34 := nf29_1_v32.other W34 (Or.inl ne_sa1_b31)
    have nf29_2_v34 := nf29_2_v32.other W34 (Or.inl ne_sa1_b31)
    have nf29_3_v34 := nf29_3_v32.other W34 ne_sb1_b31
    have nf30_0_v34 := nf30_0_v32.other W34 (Or.inl ne_b9_b31)
    have nf30_1_v34 := nf30_1_v32.other W34 (Or.inl ne_b9_b31)
    have nf30_2_v34 := nf30_2_v32.other W34 (Or.inl ne_b9_b31)
    have nf30_3_v34 := nf30_3_v32.other W34 ne_el_b31
    have Z34 : Lq n0 h34.size := Nat.le_trans Z32 (Nat.le_of_eq W34.size.symm)
    have V34_v34 := ArF.set Ar34 S34 H34 W34 hin34
    have N34 := Fr.snoc X34 N32 g_b31
    have VC35_v35 : ArF Z h34 b31 .int 2 (fun j => .int ((up (up (fun _ => 0) 0 p5) 1 y7) j)) := (V34_v34.congr (fun j hj => set_up (f := (up (fun _ => 0) 0 p5)) (c := (1 : Int32)) (i := 1) rfl j))
    have pre36 : ∀ t, Steps p.tables e below (T34.setTop (mkF m 241 #[.val (.int p1), .val (.int p2), .val (.int p3), .val (.int p4), .val (.int p5), .val (.long q6), .second, .val (.int (2 : Int32)), .val (.int (oi su0)), .val (.int (oi su1)), .val (.int (oi su2)), .val (.int y1), .val (.int y2), .val (.int y3), .val (.int y4), .val (.int y5), .val (.int y6), .val (.int y7), .val (.int y8), .val (.ref b9), .val (.int (oi ((su0 + su1)))), .val (.ref b31), .unset, .unset, .unset, .unset] [])) t → Steps p.tables e below (s₁.setTop (entryFrame m #[(.int p1), (.int p2), (.int p3), (.int p4), (.int p5), (.long q6)] maxLocals)) t := by
      intro t k
      refine pre13 t ?_
      refine XS.iload X12.here hx rfl (hb hby at_106) rfl ?_
      refine XS.iconst X12.here hx rfl (hb hby at_108) ?_
      refine XS.icmpNo X12.here hx rfl (hb hby at_109) rfl (tlt (by decide : ((1 : Int32) < (2 : Int32)))).2.2.2 ?_
      refine XS.aload X12.here hx rfl (hb hby at_112) rfl rfl ?_
      refine XS.iload X12.here hx rfl (hb hby at_114) rfl ?_
      refine XS.iload X12.here hx rfl (hb hby at_116) rfl ?_
      refine XS.iload X12.here hx rfl (hb hby at_118) rfl ?_
      refine st29 _ ?_
      show Steps p.tables e below (T29.setTop (mkF m 123 #[.val (.int p1), .val (.int p2), .val (.int p3), .val (.int p4), .val (.int p5), .val (.long q6), .second, .val (.int (2 : Int32)), .val (.int (oi su0)), .val (.int (oi su1)), .val (.int (oi su2)), .val (.int y1), .val (.int y2), .val (.int y3), .val (.int y4), .val (.int y5), .val (.int y6), .val (.int y7), .val (.int y8), .val (.ref b9), .unset, .unset, .unset, .unset, .unset, .unset] [(.ref sa1), (.ref b9)])) _
      refine st30.trans ?_
      refine XS.pop X30.here hx rfl (hb hby at_126) rfl rfl ?_
      refine XS.iload X30.here hx rfl (hb hby at_127) rfl ?_
      refine XS.iconst X30.here hx rfl (hb hby at_129) ?_
      refine XS.icmpYes X30.here hx rfl (pc0 := 130) (pc' := 148) rfl (hb hby at_130) rfl (flt (by decide : ¬ ((2 : Int32) < (2 : Int32)))).2.2.2 (by decide) (by decide) ?_
      refine XS.iload X30.here hx rfl (hb hby at_148) rfl ?_
      refine XS.iload X30.here hx rfl (hb hby at_150) rfl ?_
      refine XS.iconst X30.here hx rfl (hb hby at_152) ?_
      refine XS.icmpNo X30.here hx rfl (hb hby at_153) rfl (tlt (by decide : ((1 : Int32) < (2 : Int32)))).2.2.2 ?_
      refine XS.iload X30.here hx rfl (hb hby at_156) rfl ?_
      refine XS.goto X30.here hx rfl (pc0 := 158) (pc' := 162) rfl (hb hby at_158) (by decide) (by decide) ?_
      refine XS.iadd X30.here hx rfl (hb hby at_162) rfl ?_
      show Steps p.tables e below (T30.setTop (mkF m 163 #[.val (.int p1), .val (.int p2), .val (.int p3), .val (.int p4), .val (.int p5), .val (.long q6), .second, .val (.int (2 : Int32)), .val (.int (oi su0)), .val (.int (oi su1)), .val (.int (oi su2)), .val (.int y1), .val (.int y2), .val (.int y3), .val (.int y4), .val (.int y5), .val (.int y6), .val (.int y7), .val (.int y8), .val (.ref b9), .unset, .unset, .unset, .unset, .unset, .unset] [(.int ((oi su0) + (oi su1)))])) _
      rw [oi_add (su0) (su1)]
      refine XS.iload X30.here hx rfl (hb hby at_163) rfl ?_
      refine XS.iconst X30.here hx rfl (hb hby at_165) ?_
      refine XS.icmpYes X30.here hx rfl (pc0 := 166) (pc' := 174) rfl (hb hby at_166) rfl (flt (by decide : ¬ ((2 : Int32) < (2 : Int32)))).2.2.2 (by decide) (by decide) ?_
      refine XS.iconst X30.here hx rfl (hb hby at_174) ?_
      refine XS.iadd X30.here hx rfl (hb hby at_175) rfl ?_
      show Steps p.tables e below (T30.setTop (mkF m 176 #[.val (.int p1), .val (.int p2), .val (.int p3), .val (.int p4), .val (.int p5), .val (.long q6), .second, .val (.int (2 : Int32)), .val (.int (oi su0)), .val (.int (oi su1)), .val (.int (oi su2)), .val (.int y1), .val (.int y2), .val (.int y3), .val (.int y4), .val (.int y5), .val (.int y6), .val (.int y7), .val (.int y8), .val (.ref b9), .unset, .unset, .unset, .unset, .unset, .unset] [(.int ((oi (su0 + su1)) + (0 : Int32)))])) _
      rw [oi_0 ((su0 + su1))]
      refine XS.istore X30.here hx rfl (hb hby at_176) rfl (l' := #[.val (.int p1), .val (.int p2), .val (.int p3), .val (.int p4), .val (.int p5), .val (.long q6), .second, .val (.int (2 : Int32)), .val (.int (oi su0)), .val (.int (oi su1)), .val (.int (oi su2)), .val (.int y1), .val (.int y2), .val (.int y3), .val (.int y4), .val (.int y5), .val (.int y6), .val (.int y7), .val (.int y8), .val (.ref b9), .val (.int (oi ((su0 + su1)))), .unset, .unset, .unset, .unset, .unset]) rfl ?_
      refine XS.iload X30.here hx rfl (hb hby at_178) rfl ?_
      refine XS.iconst X30.here hx rfl (hb hby at_180) ?_
      refine XS.icmpYes X30.here hx rfl (pc0 := 181) (pc' := 197) rfl (hb hby at_181) rfl (feq (by decide : ¬ ((2 : Int32) = (1 : Int32)))).2 (by decide) (by decide) ?_
      refine XS.iload X30.here hx rfl (hb hby at_197) rfl ?_
      refine XS.iconst X30.here hx rfl (hb hby at_199) ?_
      refine XS.icmpNo X30.here hx rfl (hb hby at_200) rfl (teq (by decide : ((2 : Int32) = (2 : Int32)))).2 ?_
      refine XS.iconst X30.here hx rfl (hb hby at_203) ?_
      refine st31 _ ?_
      refine XS.dup X31.here hx rfl (hb hby at_206) rfl rfl ?_
      refine XS.iconst X31.here hx rfl (hb hby at_207) ?_
      refine XS.iload X31.here hx rfl (hb hby at_208) rfl ?_
      refine st32 _ ?_
      refine XS.dup X32.here hx rfl (hb hby at_211) rfl rfl ?_
      refine XS.iconst X32.here hx rfl (hb hby at_212) ?_
      refine XS.iload X32.here hx rfl (hb hby at_213) rfl ?_
      refine st34 _ ?_
      refine XS.astore X34.here hx rfl (hb hby at_216) rfl rfl (l' := #[.val (.int p1), .val (.int p2), .val (.int p3), .val (.int p4), .val (.int p5), .val (.long q6), .second, .val (.int (2 : Int32)), .val (.int (oi su0)), .val (.int (oi su1)), .val (.int (oi su2)), .val (.int y1), .val (.int y2), .val (.int y3), .val (.int y4), .val (.int y5), .val (.int y6), .val (.int y7), .val (.int y8), .val (.ref b9), .val (.int (oi ((su0 + su1)))), .val (.ref b31), .unset, .unset, .unset, .unset]) rfl ?_
      refine XS.goto X34.here hx rfl (pc0 := 218) (pc' := 241) rfl (hb hby at_218) (by decide) (by decide) ?_
      exact k
    exact join14 _ _ _ _ _ 2 _ _ (f3 sa0 sa1 sa1) (f3 sb0 sb1 sb1) (f3 su0 su1 su1) (f3 sn0 sn1 sn1) (f3 sc0 sc1 sc1) (f3 sg0 sg1 sg1) (upV (upV (fun _ => Value.null) 0 (.ref sa0)) 1 (.ref sa1)) ((up (up (fun _ => 0) 0 p5) 1 y7)) (X34.more (by decide : 11 ≤ 15) (by decide : 39 ≤ 52)) e34 N34 Z34 Fp0_v34 Fp1_v34 Fp2_v34 Fp3_v34 Fp4_v34 Ex9_v34 nf30_1_v34 nf30_2_v34 nf30_3_v34 (all2 ⟨nf11_0_v34, nf11_1_v34, nf11_2_v34, nf11_3_v34⟩ ⟨nf29_0_v34, nf29_1_v34, nf29_2_v34, nf29_3_v34⟩) VC35_v35 (Or.inr (Or.inl rfl)) (show su0 + su1 = 0 + su0 + su1 by omega) (all2 rfl rfl) (all2 ⟨hsd0, hsu0⟩ ⟨hsd1, hsu1⟩) pre36
  · obtain ⟨_, _, ⟨T37, L37, k37, n37⟩, -, X37, ⟨Lc37, hQ37, l37, y37, z37⟩, st37⟩ := Jvm.LawKit.callS X12 hx (y := (⟨"com/example/even_roster/evenroster/scim/SortedSuffixesValuesAtPinLaw", "text", "(ICC)Ljava/lang/String;"⟩ : MethodName)) hown (mvT hZ (wq hw 26 rfl)) (mvT hZ (wq hw 27 rfl)) (mvT hZ (wq hw 28 rfl)) (mvT hZ (wq hw 29 rfl)) (by decide) (backOf (W := 1) (rtext l Z a0 hw [] y3 y4 su1 cs T12.heap n0 Z12 Fp0_v12 Fp2_v12 Fp3_v12 Fp4_v12 hcs hsu1) hZ (wq hw 29 rfl) (wq hw 28 rfl) (by decide) (by decide)) (g := (mkF m 120 #[.val (.int p1), .val (.int p2), .val (.int p3), .val (.int p4), .val (.int p5), .val (.long q6), .second, .val (.int (3 : Int32)), .val (.int (oi su0)), .val (.int (oi su1)), .val (.int (oi su2)), .val (.int y1), .val (.int y2), .val (.int y3), .val (.int y4), .val (.int y5), .val (.int y6), .val (.int y7), .val (.int y8), .val (.ref b9), .unset, .unset, .unset, .unset, .unset, .unset] [(.int y4), (.int y3), (.int (oi su1)), (.ref b9)])) rfl (by rw [hml]; rfl) (argsL := [(.int (oi su1)), (.int y3), (.int y4)]) (rest := [(.ref b9)]) (lenOf pd_32 rfl) rfl (by show 2 * 0 + _ ≤ _; exact Nat.le_of_eq rfl) (hb hby at_120) (fun _ _ => ⟨rfl, rfl, (by decide : 6 + 4 ≤ _), (by decide : 25 + 12 ≤ _)⟩)
    dsimp only [Pt.U, Pt.locs, Pt.cells, Pt.slots] at X37 l37 y37 z37 st37 hQ37
    subst l37 y37 z37
    obtain ⟨sa1, sb1, sn1, sc1, sg1, rfl, N37q, Kc37, sb_sa1, sb_sb1, ne_sa1_sb1, nf37_0_v37, nf37_1_v37, nf37_2_v37, nf37_3_v37, hsd1⟩ := hQ37
    have N37 := Fr.app N12 N37q
    replace ne_sa1_sb1 : Dif sa1 sb1 := ne_sa1_sb1
    replace sb_sa1 : Lq _ _ := sb_sa1
    have ne_dc_sa1 : Dif dc sa1 := Nat.ne_of_lt (Nat.lt_of_lt_of_le Fp6_v12.lt sb_sa1)
    have ne_b9_sa1 : Dif b9 sa1 := Nat.ne_of_lt (Nat.lt_of_lt_of_le Ex9_v12.lt sb_sa1)
    have ne_sa0_sa1 : Dif sa0 sa1 := Nat.ne_of_lt (Nat.lt_of_lt_of_le nf11_0_v12.lt sb_sa1)
    have ne_sb0_sa1 : Dif sb0 sa1 := Nat.ne_of_lt (Nat.lt_of_lt_of_le nf11_3_v12.lt sb_sa1)
    have ne_el_sa1 : Dif el sa1 := Nat.ne_of_lt (Nat.lt_of_lt_of_le nf12_3_v12.lt sb_sa1)
    have g_sa1 : Lq n0 sa1 := Nat.le_trans Z12 sb_sa1
    replace sb_sb1 : Lq _ _ := sb_sb1
    have ne_dc_sb1 : Dif dc sb1 := Nat.ne_of_lt (Nat.lt_of_lt_of_le Fp6_v12.lt sb_sb1)
    have ne_b9_sb1 : Dif b9 sb1 := Nat.ne_of_lt (Nat.lt_of_lt_of_le Ex9_v12.lt sb_sb1)
    have ne_sa0_sb1 : Dif sa0 sb1 := Nat.ne_of_lt (Nat.lt_of_lt_of_le nf11_0_v12.lt sb_sb1)
    have ne_sb0_sb1 : Dif sb0 sb1 := Nat.ne_of_lt (Nat.lt_of_lt_of_le nf11_3_v12.lt sb_sb1)
    have ne_el_sb1 : Dif el sb1 := Nat.ne_of_lt (Nat.lt_of_lt_of_le nf12_3_v12.lt sb_sb1)
    have g_sb1 : Lq n0 sb1 := Nat.le_trans Z12 sb_sb1
    have Fp0_v37 := Sta.keep0 Fp0_v12 Kc37
    have Fp1_v37 := Sta.keep0 Fp1_v12 Kc37
    have Fp2_v37 := Sta.keep0 Fp2_v12 Kc37
    have Fp3_v37 := Sta.keep0 Fp3_v12 Kc37
    have Fp4_v37 := Sta.keep0 Fp4_v12 Kc37
    have Fp5_v37 := Sta.keep0 Fp5_v12 Kc37
    have Fp6_v37 := Fp6_v12.keep Kc37 nin0
    have Ex9_v37 := Ex9_v12.keep Kc37
    have nf11_0_v37 := nf11_0_v12.keep Kc37
    have nf11_1_v37 := nf11_1_v12.keep Kc37 nin0
    have nf11_2_v37 := nf11_2_v12.keep Kc37 nin0
    have nf11_3_v37 := nf11_3_v12.keep Kc37 nin0
    have nf12_0_v37 := nf12_0_v12.keep Kc37 nin0
    have nf12_1_v37 := nf12_1_v12.keep Kc37 nin0
    have nf12_2_v37 := nf12_2_v12.keep Kc37 nin0
    have nf12_3_v37 := nf12_3_v12.keep Kc37 nin0
    have Z37 : Lq n0 T37.heap.size := Nat.le_trans Z12 Kc37.1
    obtain ⟨cq38, kq38, q38a, q38b, q38c⟩ := isOf hZ rfl Ex9_v37
    obtain ⟨_, _, ⟨T38, L38, k38, n38⟩, -, X38, ⟨Lc38, hQ38, l38, y38, z38⟩, st38⟩ := X37.virtualBack hx (y := (⟨"java/util/ArrayList", "add", "(Ljava/lang/Object;)Z"⟩ : MethodName)) (z := (⟨"java/util/ArrayList", "add", "(Ljava/lang/Object;)Z"⟩ : MethodName)) hown (mvT hZ (wq hw 58 rfl)) (mvT hZ (wq hw 59 rfl)) (notFace_of_selects (args := #[]) (mvT hZ (wq hw 61 rfl))) (mvT hZ (wq hw 61 rfl)) (mvT hZ (wq hw 60 rfl)) (by decide) (backOf (W := 0) (rads l Z a0 hw [] b9 sa1 el 1 (1 : Int32) (upV (fun _ => Value.null) 0 (.ref sa0)) T37.heap n0 Z37 Ex9_v37 nf12_0_v37 nf12_1_v37 nf12_2_v37 nf12_3_v37 nf37_0_v37 (Or.inl rfl) g_b9 g_el (Ne.symm ne_b9_el)) hZ (wq hw 62 rfl) (wq hw 2 rfl) (by decide) (by decide)) q38a q38c (g := (mkF m 123 #[.val (.int p1), .val (.int p2), .val (.int p3), .val (.int p4), .val (.int p5), .val (.long q6), .second, .val (.int (3 : Int32)), .val (.int (oi su0)), .val (.int (oi su1)), .val (.int (oi su2)), .val (.int y1), .val (.int y2), .val (.int y3), .val (.int y4), .val (.int y5), .val (.int y6), .val (.int y7), .val (.int y8), .val (.ref b9), .unset, .unset, .unset, .unset, .unset, .unset] [(.ref sa1), (.ref b9)])) rfl (by rw [hml]; rfl) (Steps.refl _) (argsL := [(.ref sa1)]) (rest := []) (lenOf pd_33 rfl) rfl (by show 2 * 0 + _ ≤ _; exact Nat.le_of_eq rfl) (hb hby at_123) (fun _ _ => ⟨rfl, rfl, (by decide : 10 + 0 ≤ _), (by decide : 37 + 0 ≤ _)⟩)
    dsimp only [Pt.U, Pt.locs, Pt.cells, Pt.slots] at X38 l38 y38 z38 st38 hQ38
    subst l38 y38 z38
    obtain ⟨rfl, N38q, Kc38, nf38_0_v38, nf38_1_v38, nf38_2_v38, nf38_3_v38⟩ := hQ38
    have N38 := Fr.app N37 N38q
    have Fp0_v38 := Sta.keepW Fp0_v37 Kc38 (nosS (nosE Ex9_v37) (nosS (nosR nf12_3_v37) nos0))
    have Fp1_v38 := Sta.keepW Fp1_v37 Kc38 (nosS (nosE Ex9_v37) (nosS (nosR nf12_3_v37) nos0))
    have Fp2_v38 := Sta.keepW Fp2_v37 Kc38 (nosS (nosE Ex9_v37) (nosS (nosR nf12_3_v37) nos0))
    have Fp3_v38 := Sta.keepW Fp3_v37 Kc38 (nosS (nosE Ex9_v37) (nosS (nosR nf12_3_v37) nos0))
    have Fp4_v38 := Sta.keepW Fp4_v37 Kc38 (nosS (nosE Ex9_v37) (nosS (nosR nf12_3_v37) nos0))
    have Fp5_v38 := Sta.keepW Fp5_v37 Kc38 (nosS (nosE Ex9_v37) (nosS (nosR nf12_3_v37) nos0))
    have Fp6_v38 := Fp6_v37.keep Kc38 (ninS ne_dc_b9 (ninS ne_dc_el nin0))
    have Ex9_v38 := Ex9_v37.keep Kc38
    have nf11_0_v38 := nf11_0_v37.keep Kc38
    have nf11_1_v38 := nf11_1_v37.keep Kc38 (ninS (Ne.symm ne_b9_sa0) (ninS ne_sa0_el nin0))
    have nf11_2_v38 := nf11_2_v37.keep Kc38 (ninS (Ne.symm ne_b9_sa0) (ninS ne_sa0_el nin0))
    have nf11_3_v38 := nf11_3_v37.keep Kc38 (ninS (Ne.symm ne_b9_sb0) (ninS ne_sb0_el nin0))
    have nf37_0_v38 := nf37_0_v37.keep Kc38
    have nf37_1_v38 := nf37_1_v37.keep Kc38 (ninS (Ne.symm ne_b9_sa1) (ninS (Ne.symm ne_el_sa1) nin0))
    have nf37_2_v38 := nf37_2_v37.keep Kc38 (ninS (Ne.symm ne_b9_sa1) (ninS (Ne.symm ne_el_sa1) nin0))
    have nf37_3_v38 := nf37_3_v37.keep Kc38 (ninS (Ne.symm ne_b9_sb1) (ninS (Ne.symm ne_el_sb1) nin0))
    have Z38 : Lq n0 T38.heap.size := Nat.le_trans Z37 Kc38.1
    obtain ⟨_, _, ⟨T39, L39, k39, n39⟩, -, X39, ⟨Lc39, hQ39, l39, y39, z39⟩, st39⟩ := Jvm.LawKit.callS X38 hx (y := (⟨"com/example/even_roster/evenroster/scim/SortedSuffixesValuesAtPinLaw", "text", "(ICC)Ljava/lang/String;"⟩ : MethodName)) hown (mvT hZ (wq hw 26 rfl)) (mvT hZ (wq hw 27 rfl)) (mvT hZ (wq hw 28 rfl)) (mvT hZ (wq hw 29 rfl)) (by decide) (backOf (W := 1) (rtext l Z a0 hw [] y5 y6 su2 cs T38.heap n0 Z38 Fp0_v38 Fp2_v38 Fp3_v38 Fp4_v38 hcs hsu2) hZ (wq hw 29 rfl) (wq hw 28 rfl) (by decide) (by decide)) (g := (mkF m 141 #[.val (.int p1), .val (.int p2), .val (.int p3), .val (.int p4), .val (.int p5), .val (.long q6), .second, .val (.int (3 : Int32)), .val (.int (oi su0)), .val (.int (oi su1)), .val (.int (oi su2)), .val (.int y1), .val (.int y2), .val (.int y3), .val (.int y4), .val (.int y5), .val (.int y6), .val (.int y7), .val (.int y8), .val (.ref b9), .unset, .unset, .unset, .unset, .unset, .unset] [(.int y6), (.int y5), (.int (oi su2)), (.ref b9)])) rfl (by rw [hml]; rfl) (argsL := [(.int (oi su2)), (.int y5), (.int y6)]) (rest := [(.ref b9)]) (lenOf pd_32 rfl) rfl (by show 2 * 0 + _ ≤ _; exact Nat.le_of_eq rfl) (hb hby at_141) (fun _ _ => ⟨rfl, rfl, (by decide : 10 + 4 ≤ _), (by decide : 37 + 12 ≤ _)⟩)
    dsimp only [Pt.U, Pt.locs, Pt.cells, Pt.slots] at X39 l39 y39 z39 st39 hQ39
    subst l39 y39 z39
    obtain ⟨sa2, sb2, sn2, sc2, sg2, rfl, N39q, Kc39, sb_sa2, sb_sb2, ne_sa2_sb2, nf39_0_v39, nf39_1_v39, nf39_2_v39, nf39_3_v39, hsd2⟩ := hQ39
    have N39 := Fr.app N38 N39q
    replace ne_sa2_sb2 : Dif sa2 sb2 := ne_sa2_sb2
    replace sb_sa2 : Lq _ _ := sb_sa2
    have ne_dc_sa2 : Dif dc sa2 := Nat.ne_of_lt (Nat.lt_of_lt_of_le Fp6_v38.lt sb_sa2)
    have ne_b9_sa2 : Dif b9 sa2 := Nat.ne_of_lt (Nat.lt_of_lt_of_le Ex9_v38.lt sb_sa2)
    have ne_sa0_sa2 : Dif sa0 sa2 := Nat.ne_of_lt (Nat.lt_of_lt_of_le nf11_0_v38.lt sb_sa2)
    have ne_sb0_sa2 : Dif sb0 sa2 := Nat.ne_of_lt (Nat.lt_of_lt_of_le nf11_3_v38.lt sb_sa2)
    have ne_sa1_sa2 : Dif sa1 sa2 := Nat.ne_of_lt (Nat.lt_of_lt_of_le nf37_0_v38.lt sb_sa2)
    have ne_sb1_sa2 : Dif sb1 sa2 := Nat.ne_of_lt (Nat.lt_of_lt_of_le nf37_3_v38.lt sb_sa2)
    have ne_el_sa2 : Dif el sa2 := Nat.ne_of_lt (Nat.lt_of_lt_of_le nf38_3_v38.lt sb_sa2)
    have g_sa2 : Lq n0 sa2 := Nat.le_trans Z38 sb_sa2
    replace sb_sb2 : Lq _ _ := sb_sb2
    have ne_dc_sb2 : Dif dc sb2 := Nat.ne_of_lt (Nat.lt_of_lt_of_le Fp6_v38.lt sb_sb2)
    have ne_b9_sb2 : Dif b9 sb2 := Nat.ne_of_lt (Nat.lt_of_lt_of_le Ex9_v38.lt sb_sb2)
    have ne_sa0_sb2 : Dif sa0 sb2 := Nat.ne_of_lt (Nat.lt_of_lt_of_le nf11_0_v38.lt sb_sb2)
    have ne_sb0_sb2 : Dif sb0 sb2 := Nat.ne_of_lt (Nat.lt_of_lt_of_le nf11_3_v38.lt sb_sb2)
    have ne_sa1_sb2 : Dif sa1 sb2 := Nat.ne_of_lt (Nat.lt_of_lt_of_le nf37_0_v38.lt sb_sb2)
    have ne_sb1_sb2 : Dif sb1 sb2 := Nat.ne_of_lt (Nat.lt_of_lt_of_le nf37_3_v38.lt sb_sb2)
    have ne_el_sb2 : Dif el sb2 := Nat.ne_of_lt (Nat.lt_of_lt_of_le nf38_3_v38.lt sb_sb2)
    have g_sb2 : Lq n0 sb2 := Nat.le_trans Z38 sb_sb2
    have Fp0_v39 := Sta.keep0 Fp0_v38 Kc39
    have Fp1_v39 := Sta.keep0 Fp1_v38 Kc39
    have Fp2_v39 := Sta.keep0 Fp2_v38 Kc39
    have Fp3_v39 := Sta.keep0 Fp3_v38 Kc39
    have Fp4_v39 := Sta.keep0 Fp4_v38 Kc39
    have Fp5_v39 := Sta.keep0 Fp5_v38 Kc39
    have Fp6_v39 := Fp6_v38.keep Kc39 nin0
    have Ex9_v39 := Ex9_v38.keep Kc39
    have nf11_0_v39 := nf11_0_v38.keep Kc39
    have nf11_1_v39 := nf11_1_v38.keep Kc39 nin0
    have nf11_2_v39 := nf11_2_v38.keep Kc39 nin0
    have nf11_3_v39 := nf11_3_v38.keep Kc39 nin0
    have nf37_0_v39 := nf37_0_v38.keep Kc39
    have nf37_1_v39 := nf37_1_v38.keep Kc39 nin0
    have nf37_2_v39 := nf37_2_v38.keep Kc39 nin0
    have nf37_3_v39 := nf37_3_v38.keep Kc39 nin0
    have nf38_0_v39 := nf38_0_v38.keep Kc39 nin0
    have nf38_1_v39 := nf38_1_v38.keep Kc39 nin0
    have nf38_2_v39 := nf38_2_v38.keep Kc39 nin0
    have nf38_3_v39 := nf38_3_v38.keep Kc39 nin0
    have Z39 : Lq n0 T39.heap.size := Nat.le_trans Z38 Kc39.1
    obtain ⟨cq40, kq40, q40a, q40b, q40c⟩ := isOf hZ rfl Ex9_v39
    obtain ⟨_, _, ⟨T40, L40, k40, n40⟩, -, X40, ⟨Lc40, hQ40, l40, y40, z40⟩, st40⟩ := X39.virtualBack hx (y := (⟨"java/util/ArrayList", "add", "(Ljava/lang/Object;)Z"⟩ : MethodName)) (z := (⟨"java/util/ArrayList", "add", "(Ljava/lang/Object;)Z"⟩ : MethodName)) hown (mvT hZ (wq hw 58 rfl)) (mvT hZ (wq hw 59 rfl)) (notFace_of_selects (args := #[]) (mvT hZ (wq hw 61 rfl))) (mvT hZ (wq hw 61 rfl)) (mvT hZ (wq hw 60 rfl)) (by decide) (backOf (W := 0) (rads l Z a0 hw [] b9 sa2 el 2 ((1 : Int32) + (1 : Int32)) (upV (upV (fun _ => Value.null) 0 (.ref sa0)) 1 (.ref sa1)) T39.heap n0 Z39 Ex9_v39 nf38_0_v39 nf38_1_v39 nf38_2_v39 nf38_3_v39 nf39_0_v39 (Or.inr rfl) g_b9 g_el (Ne.symm ne_b9_el)) hZ (wq hw 62 rfl) (wq hw 2 rfl) (by decide) (by decide)) q40a q40c (g := (mkF m 144 #[.val (.int p1), .val (.int p2), .val (.int p3), .val (.int p4), .val (.int p5), .val (.long q6), .second, .val (.int (3 : Int32)), .val (.int (oi su0)), .val (.int (oi su1)), .val (.int (oi su2)), .val (.int y1), .val (.int y2), .val (.int y3), .val (.int y4), .val (.int y5), .val (.int y6), .val (.int y7), .val (.int y8), .val (.ref b9), .unset, .unset, .unset, .unset, .unset, .unset] [(.ref sa2), (.ref b9)])) rfl (by rw [hml]; rfl) (Steps.refl _) (argsL := [(.ref sa2)]) (rest := []) (lenOf pd_33 rfl) rfl (by show 2 * 0 + _ ≤ _; exact Nat.le_of_eq rfl) (hb hby at_144) (fun _ _ => ⟨rfl, rfl, (by decide : 14 + 0 ≤ _), (by decide : 49 + 0 ≤ _)⟩)
    dsimp only [Pt.U, Pt.locs, Pt.cells, Pt.slots] at X40 l40 y40 z40 st40 hQ40
    subst l40 y40 z40
    obtain ⟨rfl, N40q, Kc40, nf40_0_v40, nf40_1_v40, nf40_2_v40, nf40_3_v40⟩ := hQ40
    have N40 := Fr.app N39 N40q
    have Fp0_v40 := Sta.keepW Fp0_v39 Kc40 (nosS (nosE Ex9_v39) (nosS (nosR nf38_3_v39) nos0))
    have Fp1_v40 := Sta.keepW Fp1_v39 Kc40 (nosS (nosE Ex9_v39) (nosS (nosR nf38_3_v39) nos0))
    have Fp2_v40 := Sta.keepW Fp2_v39 Kc40 (nosS (nosE Ex9_v39) (nosS (nosR nf38_3_v39) nos0))
    have Fp3_v40 := Sta.keepW Fp3_v39 Kc40 (nosS (nosE Ex9_v39) (nosS (nosR nf38_3_v39) nos0))
    have Fp4_v40 := Sta.keepW Fp4_v39 Kc40 (nosS (nosE Ex9_v39) (nosS (nosR nf38_3_v39) nos0))
    have Fp5_v40 := Sta.keepW Fp5_v39 Kc40 (nosS (nosE Ex9_v39) (nosS (nosR nf38_3_v39) nos0))
    have Fp6_v40 := Fp6_v39.keep Kc40 (ninS ne_dc_b9 (ninS ne_dc_el nin0))
    have Ex9_v40 := Ex9_v39.keep Kc40
    have nf11_0_v40 := nf11_0_v39.keep Kc40
    have nf11_1_v40 := nf11_1_v39.keep Kc40 (ninS (Ne.symm ne_b9_sa0) (ninS ne_sa0_el nin0))
    have nf11_2_v40 := nf11_2_v39.keep Kc40 (ninS (Ne.symm ne_b9_sa0) (ninS ne_sa0_el nin0))
    have nf11_3_v40 := nf11_3_v39.keep Kc40 (ninS (Ne.symm ne_b9_sb0) (ninS ne_sb0_el nin0))
    have nf37_0_v40 := nf37_0_v39.keep Kc40
    have nf37_1_v40 := nf37_1_v39.keep Kc40 (ninS (Ne.symm ne_b9_sa1) (ninS (Ne.symm ne_el_sa1) nin0))
    have nf37_2_v40 := nf37_2_v39.keep Kc40 (ninS (Ne.symm ne_b9_sa1) (ninS (Ne.symm ne_el_sa1) nin0))
    have nf37_3_v40 := nf37_3_v39.keep Kc40 (ninS (Ne.symm ne_b9_sb1) (ninS (Ne.symm ne_el_sb1) nin0))
    have nf39_0_v40 := nf39_0_v39.keep Kc40
    have nf39_1_v40 := nf39_1_v39.keep Kc40 (ninS (Ne.symm ne_b9_sa2) (ninS (Ne.symm ne_el_sa2) nin0))
    have nf39_2_v40 := nf39_2_v39.keep Kc40 (ninS (Ne.symm ne_b9_sa2) (ninS (Ne.symm ne_el_sa2) nin0))
    have nf39_3_v40 := nf39_3_v39.keep Kc40 (ninS (Ne.symm ne_b9_sb2) (ninS (Ne.symm ne_el_sb2) nin0))
    have Z40 : Lq n0 T40.heap.size := Nat.le_trans Z39 Kc40.1
    obtain ⟨T41, h41, k41, X41, e41, E41, A41, st41⟩ := newP X40 hx hZ (wq hw 89 rfl) rfl (g := (mkF m 222 #[.val (.int p1), .val (.int p2), .val (.int p3), .val (.int p4), .val (.int p5), .val (.long q6), .second, .val (.int (3 : Int32)), .val (.int (oi su0)), .val (.int (oi su1)), .val (.int (oi su2)), .val (.int y1), .val (.int y2), .val (.int y3), .val (.int y4), .val (.int y5), .val (.int y6), .val (.int y7), .val (.int y8), .val (.ref b9), .val (.int (oi ((su0 + su1) + su2))), .unset, .unset, .unset, .unset, .unset] [(.int (3 : Int32))])) rfl (hb hby at_222) rfl (by decide) (cap := 3) (by decide) (by decide) (by decide) (by decide)
    obtain ⟨b41, g41⟩ : ∃ z, z = T40.heap.size := ⟨_, rfl⟩
    rw [← g41] at A41 st41
    have ne_dc_b41 : Dif dc b41 := Nat.ne_of_lt (Nat.lt_of_lt_of_le Fp6_v40.lt (Nat.le_of_eq g41.symm))
    have ne_b9_b41 : Dif b9 b41 := Nat.ne_of_lt (Nat.lt_of_lt_of_le Ex9_v40.lt (Nat.le_of_eq g41.symm))
    have ne_sa0_b41 : Dif sa0 b41 := Nat.ne_of_lt (Nat.lt_of_lt_of_le nf11_0_v40.lt (Nat.le_of_eq g41.symm))
    have ne_sb0_b41 : Dif sb0 b41 := Nat.ne_of_lt (Nat.lt_of_lt_of_le nf11_3_v40.lt (Nat.le_of_eq g41.symm))
    have ne_sa1_b41 : Dif sa1 b41 := Nat.ne_of_lt (Nat.lt_of_lt_of_le nf37_0_v40.lt (Nat.le_of_eq g41.symm))
    have ne_sb1_b41 : Dif sb1 b41 := Nat.ne_of_lt (Nat.lt_of_lt_of_le nf37_3_v40.lt (Nat.le_of_eq g41.symm))
    have ne_sa2_b41 : Dif sa2 b41 := Nat.ne_of_lt (Nat.lt_of_lt_of_le nf39_0_v40.lt (Nat.le_of_eq g41.symm))
    have ne_sb2_b41 : Dif sb2 b41 := Nat.ne_of_lt (Nat.lt_of_lt_of_le nf39_3_v40.lt (Nat.le_of_eq g41.symm))
    have ne_el_b41 : Dif el b41 := Nat.ne_of_lt (Nat.lt_of_lt_of_le nf40_3_v40.lt (Nat.le_of_eq g41.symm))
    have g_b41 : Lq n0 b41 := Nat.le_trans Z40 (Nat.le_of_eq g41.symm)
    clear g41
    have Fp0_v41 := Fp0_v40.ext E41
    have Fp1_v41 := Fp1_v40.ext E41
    have Fp2_v41 := Fp2_v40.ext E41
    have Fp3_v41 := Fp3_v40.ext E41
    have Fp4_v41 := Fp4_v40.ext E41
    have Fp5_v41 := Fp5_v40.ext E41
    have Fp6_v41 := Fp6_v40.ext E41
    have Ex9_v41 := Ex9_v40.ext E41
    have nf11_0_v41 := nf11_0_v40.ext E41
    have nf11_1_v41 := nf11_1_v40.ext E41
    have nf11_2_v41 := nf11_2_v40.ext E41
    have nf11_3_v41 := nf11_3_v40.ext E41
    have nf37_0_v41 := nf37_0_v40.ext E41
    have nf37_1_v41 := nf37_1_v40.ext E41
    have nf37_2_v41 := nf37_2_v40.ext E41
    have nf37_3_v41 := nf37_3_v40.ext E41
    have nf39_0_v41 := nf39_0_v40.ext E41
    have nf39_1_v41 := nf39_1_v40.ext E41
    have nf39_2_v41 := nf39_2_v40.ext E41
    have nf39_3_v41 := nf39_3_v40.ext E41
    have nf40_0_v41 := nf40_0_v40.ext E41
    have nf40_1_v41 := nf40_1_v40.ext E41
    have nf40_2_v41 := nf40_2_v40.ext E41
    have nf40_3_v41 := nf40_3_v40.ext E41
    have Z41 : Lq n0 h41.size := Nat.le_trans Z40 E41.1
    have V41_v41 : ArF Z h41 b41 .int 3 (fun _ => (.int 0)) := ArF.mk0 A41 rfl rfl
    obtain ⟨cl42, Ar42, S42, H42⟩ := id V41_v41
    replace S42 : Sq cl42.slots.size _ := S42
    have hin42 : Hq (0 : Int32) cl42.slots.size := inA S42 (by decide) (by decide)
    obtain ⟨T42, h42, X42, e42, W42, st42⟩ := stI X41 hx hZ e41 Ar42 (j := (0 : Int32)) hin42 (g := (mkF m 228 #[.val (.int p1), .val (.int p2), .val (.int p3), .val (.int p4), .val (.int p5), .val (.long q6), .second, .val (.int (3 : Int32)), .val (.int (oi su0)), .val (.int (oi su1)), .val (.int (oi su2)), .val (.int y1), .val (.int y2), .val (.int y3), .val (.int y4), .val (.int y5), .val (.int y6), .val (.int y7), .val (.int y8), .val (.ref b9), .val (.int (oi ((su0 + su1) + su2))), .unset, .unset, .unset, .unset, .unset] [(.int p5), (.int (0 : Int32)), (.ref b41), (.ref b41)])) rfl rfl (hb hby at_228)
    have Fp0_v42 := Fp0_v41.wr W42
    have Fp1_v42 := Fp1_v41.wr W42
    have Fp2_v42 := Fp2_v41.wr W42
    have Fp3_v42 := Fp3_v41.wr W42
    have Fp4_v42 := Fp4_v41.wr W42
    have Fp5_v42 := Fp5_v41.wr W42
    have Fp6_v42 := Fp6_v41.other W42 ne_dc_b41
    have Ex9_v42 := Ex9_v41.wr W42
    have nf11_0_v42 := nf11_0_v41.wr W42
    have nf11_1_v42 := nf11_1_v41.other W42 (Or.inl ne_sa0_b41)
    have nf11_2_v42 := nf11_2_v41.other W42 (Or.inl ne_sa0_b41)
    have nf11_3_v42 := nf11_3_v41.other W42 ne_sb0_b41
    have nf37_0_v42 := nf37_0_v41.wr W42
    have nf37_1_v42 := nf37_1_v41.other W42 (Or.inl ne_sa1_b41)
    have nf37_2_v42 := nf37_2_v41.other W42 (Or.inl ne_sa1_b41)
    have nf37_3_v42 := nf37_3_v41.other W42 ne_sb1_b41
    have nf39_0_v42 := nf39_0_v41.wr W42
    have nf39_1_v42 := nf39_1_v41.other W42 (Or.inl ne_sa2_b41)
    have nf39_2_v42 := nf39_2_v41.other W42 (Or.inl ne_sa2_b41)
    have nf39_3_v42 := nf39_3_v41.other W42 ne_sb2_b41
    have nf40_0_v42 := nf40_0_v41.other W42 (Or.inl ne_b9_b41)
    have nf40_1_v42 := nf40_1_v41.other W42 (Or.inl ne_b9_b41)
    have nf40_2_v42 := nf40_2_v41.other W42 (Or.inl ne_b9_b41)
    have nf40_3_v42 := nf40_3_v41.other W42 ne_el_b41
    have Z42 : Lq n0 h42.size := Nat.le_trans Z41 (Nat.le_of_eq W42.size.symm)
    have V42_v42 := ArF.set Ar42 S42 H42 W42 hin42
    have N42 := Fr.snoc X42 N40 g_b41
    have VC43_v43 : ArF Z h42 b41 .int 3 (fun j => .int ((up (fun _ => 0) 0 p5) j)) := (V42_v42.congr (fun j hj => set_up (f := (fun _ => 0)) (c := (0 : Int32)) (i := 0) rfl j))
    obtain ⟨cl44, Ar44, S44, H44⟩ := id VC43_v43
    replace S44 : Sq cl44.slots.size _ := S44
    have hin44 : Hq (1 : Int32) cl44.slots.size := inA S44 (by decide) (by decide)
    obtain ⟨T44, h44, X44, e44, W44, st44⟩ := stI X42 hx hZ e42 Ar44 (j := (1 : Int32)) hin44 (g := (mkF m 233 #[.val (.int p1), .val (.int p2), .val (.int p3), .val (.int p4), .val (.int p5), .val (.long q6), .second, .val (.int (3 : Int32)), .val (.int (oi su0)), .val (.int (oi su1)), .val (.int (oi su2)), .val (.int y1), .val (.int y2), .val (.int y3), .val (.int y4), .val (.int y5), .val (.int y6), .val (.int y7), .val (.int y8), .val (.ref b9), .val (.int (oi ((su0 + su1) + su2))), .unset, .unset, .unset, .unset, .unset] [(.int y7), (.int (1 : Int32)), (.ref b41), (.ref b41)])) rfl rfl (hb hby at_233)
    have Fp0_v44 := Fp0_v42.wr W44
    have Fp1_v44 := Fp1_v42.wr W44
    have Fp2_v44 := Fp2_v42.wr W44
    have Fp3_v44 := Fp3_v42.wr W44
    have Fp4_v44 := Fp4_v42.wr W44
    have Fp5_v44 := Fp5_v42.wr W44
    have Fp6_v44 := Fp6_v42.other W44 ne_dc_b41
    have Ex9_v44 := Ex9_v42.wr W44
    have nf11_0_v44 := nf11_0_v42.wr W44
    have nf11_1_v44 := nf11_1_v42.other W44 (Or.inl ne_sa0_b41)
    have nf11_2_v44 := nf11_2_v42.other W44 (Or.inl ne_sa0_b41)
    have nf11_3_v44 := nf11_3_v42.other W44 ne_sb0_b41
    have nf37_0_v44 := nf37_0_v42.wr W44
    have nf37_1_v44 := nf37_1_v42.other W44 (Or.inl ne_sa1_b41)
    have nf37_2_v44 := nf37_2_v42.other W44 (Or.inl ne_sa1_b41)
    have nf37_3_v44 := nf37_3_v42.other W44 ne_sb1_b41
    have nf39_0_v44 := nf39_0_v42.wr W44
    have nf39_1_v44 := nf39_1_v42.other W44 (Or.inl ne_sa2_b41)
    have nf39_2_v44 := nf39_2_v42.other W44 (Or.inl ne_sa2_b41)
    have nf39_3_v44 := nf39_3_v42.other W44 ne_sb2_b41
    have nf40_0_v44 := nf40_0_v42.other W44 (Or.inl ne_b9_b41)
    have nf40_1_v44 := nf40_1_v42.other W44 (Or.inl ne_b9_b41)
    have nf40_2_v44 := nf40_2_v42.other W44 (Or.inl ne_b9_b41)
    have nf40_3_v44 := nf40_3_v42.other W44 ne_el_b41
    have Z44 : Lq n0 h44.size := Nat.le_trans Z42 (Nat.le_of_eq W44.size.symm)
    have V44_v44 := ArF.set Ar44 S44 H44 W44 hin44
    have N44 := Fr.snoc X44 N42 g_b41
    have VC45_v45 : ArF Z h44 b41 .int 3 (fun j => .int ((up (up (fun _ => 0) 0 p5) 1 y7) j)) := (V44_v44.congr (fun j hj => set_up (f := (up (fun _ => 0) 0 p5)) (c := (1 : Int32)) (i := 1) rfl j))
    obtain ⟨cl46, Ar46, S46, H46⟩ := id VC45_v45
    replace S46 : Sq cl46.slots.size _ := S46
    have hin46 : Hq (2 : Int32) cl46.slots.size := inA S46 (by decide) (by decide)
    obtain ⟨T46, h46, X46, e46, W46, st46⟩ := stI X44 hx hZ e44 Ar46 (j := (2 : Int32)) hin46 (g := (mkF m 238 #[.val (.int p1), .val (.int p2), .val (.int p3), .val (.int p4), .val (.int p5), .val (.long q6), .second, .val (.int (3 : Int32)), .val (.int (oi su0)), .val (.int (oi su1)), .val (.int (oi su2)), .val (.int y1), .val (.int y2), .val (.int y3), .val (.int y4), .val (.int y5), .val (.int y6), .val (.int y7), .val (.int y8), .val (.ref b9), .val (.int (oi ((su0 + su1) + su2))), .unset, .unset, .unset, .unset, .unset] [(.int y8), (.int (2 : Int32)), (.ref b41), (.ref b41)])) rfl rfl (hb hby at_238)
    have Fp0_v46 := Fp0_v44.wr W46
    have Fp1_v46 := Fp1_v44.wr W46
    have Fp2_v46 := Fp2_v44.wr W46
    have Fp3_v46 := Fp3_v44.wr W46
    have Fp4_v46 := Fp4_v44.wr W46
    have Fp5_v46 := Fp5_v44.wr W46
    have Fp6_v46 := Fp6_v44.other W46 ne_dc_b41
    have Ex9_v46 := Ex9_v44.wr W46
    have nf11_0_v46 := nf11_0_v44.wr W46
    have nf11_1_v46 := nf11_1_v44.other W46 (Or.inl ne_sa0_b41)
    have nf11_2_v46 := nf11_2_v44.other W46 (Or.inl ne_sa0_b41)
    have nf11_3_v46 := nf11_3_v44.other W46 ne_sb0_b41
    have nf37_0_v46 := nf37_0_v44.wr W46
    have nf37_1_v46 := nf37_1_v44.other W46 (Or.inl ne_sa1_b41)
    have nf37_2_v46 := nf37_2_v44.other W46 (Or.inl ne_sa1_b41)
    have nf37_3_v46 := nf37_3_v44.other W46 ne_sb1_b41
    have nf39_0_v46 := nf39_0_v44.wr W46
    have nf39_1_v46 := nf39_1_v44.other W46 (Or.inl ne_sa2_b41)
    have nf39_2_v46 := nf39_2_v44.other W46 (Or.inl ne_sa2_b41)
    have nf39_3_v46 := nf39_3_v44.other W46 ne_sb2_b41
    have nf40_0_v46 := nf40_0_v44.other W46 (Or.inl ne_b9_b41)
    have nf40_1_v46 := nf40_1_v44.other W46 (Or.inl ne_b9_b41)
    have nf40_2_v46 := nf40_2_v44.other W46 (Or.inl ne_b9_b41)
    have nf40_3_v46 := nf40_3_v44.other W46 ne_el_b41
    have Z46 : Lq n0 h46.size := Nat.le_trans Z44 (Nat.le_of_eq W46.size.symm)
    have V46_v46 := ArF.set Ar46 S46 H46 W46 hin46
    have N46 := Fr.snoc X46 N44 g_b41
    have VC47_v47 : ArF Z h46 b41 .int 3 (fun j => .int ((up (up (up (fun _ => 0) 0 p5) 1 y7) 2 y8) j)) := (V46_v46.congr (fun j hj => set_up (f := (up (up (fun _ => 0) 0 p5) 1 y7)) (c := (2 : Int32)) (i := 2) rfl j))
    have pre48 : ∀ t, Steps p.tables e below (T46.setTop (mkF m 241 #[.val (.int p1), .val (.int p2), .val (.int p3), .val (.int p4), .val (.int p5), .val (.long q6), .second, .val (.int (3 : Int32)), .val (.int (oi su0)), .val (.int (oi su1)), .val (.int (oi su2)), .val (.int y1), .val (.int y2), .val (.int y3), .val (.int y4), .val (.int y5), .val (.int y6), .val (.int y7), .val (.int y8), .val (.ref b9), .val (.int (oi ((su0 + su1) + su2))), .val (.ref b41), .unset, .unset, .unset, .unset] [])) t → Steps p.tables e below (s₁.setTop (entryFrame m #[(.int p1), (.int p2), (.int p3), (.int p4), (.int p5), (.long q6)] maxLocals)) t := by
      intro t k
      refine pre13 t ?_
      refine XS.iload X12.here hx rfl (hb hby at_106) rfl ?_
      show Steps p.tables e below (T12.setTop (mkF m 108 #[.val (.int p1), .val (.int p2), .val (.int p3), .val (.int p4), .val (.int p5), .val (.long q6), .second, .val (.int (3 : Int32)), .val (.int (oi su0)), .val (.int (oi su1)), .val (.int (oi su2)), .val (.int y1), .val (.int y2), .val (.int y3), .val (.int y4), .val (.int y5), .val (.int y6), .val (.int y7), .val (.int y8), .val (.ref b9), .unset, .unset, .unset, .unset, .unset, .unset] [(.int (3 : Int32))])) _
      refine XS.iconst X12.here hx rfl (hb hby at_108) ?_
      refine XS.icmpNo X12.here hx rfl (hb hby at_109) rfl (tlt (by decide : ((1 : Int32) < (3 : Int32)))).2.2.2 ?_
      refine XS.aload X12.here hx rfl (hb hby at_112) rfl rfl ?_
      refine XS.iload X12.here hx rfl (hb hby at_114) rfl ?_
      refine XS.iload X12.here hx rfl (hb hby at_116) rfl ?_
      refine XS.iload X12.here hx rfl (hb hby at_118) rfl ?_
      refine st37 _ ?_
      refine st38.trans ?_
      refine XS.pop X38.here hx rfl (hb hby at_126) rfl rfl ?_
      refine XS.iload X38.here hx rfl (hb hby at_127) rfl ?_
      refine XS.iconst X38.here hx rfl (hb hby at_129) ?_
      refine XS.icmpNo X38.here hx rfl (hb hby at_130) rfl (tlt (by decide : ((2 : Int32) < (3 : Int32)))).2.2.2 ?_
      refine XS.aload X38.here hx rfl (hb hby at_133) rfl rfl ?_
      refine XS.iload X38.here hx rfl (hb hby at_135) rfl ?_
      refine XS.iload X38.here hx rfl (hb hby at_137) rfl ?_
      refine XS.iload X38.here hx rfl (hb hby at_139) rfl ?_
      refine st39 _ ?_
      refine st40.trans ?_
      refine XS.pop X40.here hx rfl (hb hby at_147) rfl rfl ?_
      refine XS.iload X40.here hx rfl (hb hby at_148) rfl ?_
      refine XS.iload X40.here hx rfl (hb hby at_150) rfl ?_
      show Steps p.tables e below (T40.setTop (mkF m 152 #[.val (.int p1), .val (.int p2), .val (.int p3), .val (.int p4), .val (.int p5), .val (.long q6), .second, .val (.int (3 : Int32)), .val (.int (oi su0)), .val (.int (oi su1)), .val (.int (oi su2)), .val (.int y1), .val (.int y2), .val (.int y3), .val (.int y4), .val (.int y5), .val (.int y6), .val (.int y7), .val (.int y8), .val (.ref b9), .unset, .unset, .unset, .unset, .unset, .unset] [(.int (3 : Int32)), (.int (oi su0))])) _
      refine XS.iconst X40.here hx rfl (hb hby at_152) ?_
      refine XS.icmpNo X40.here hx rfl (hb hby at_153) rfl (tlt (by decide : ((1 : Int32) < (3 : Int32)))).2.2.2 ?_
      refine XS.iload X40.here hx rfl (hb hby at_156) rfl ?_
      refine XS.goto X40.here hx rfl (pc0 := 158) (pc' := 162) rfl (hb hby at_158) (by decide) (by decide) ?_
      refine XS.iadd X40.here hx rfl (hb hby at_162) rfl ?_
      show Steps p.tables e below (T40.setTop (mkF m 163 #[.val (.int p1), .val (.int p2), .val (.int p3), .val (.int p4), .val (.int p5), .val (.long q6), .second, .val (.int (3 : Int32)), .val (.int (oi su0)), .val (.int (oi su1)), .val (.int (oi su2)), .val (.int y1), .val (.int y2), .val (.int y3), .val (.int y4), .val (.int y5), .val (.int y6), .val (.int y7), .val (.int y8), .val (.ref b9), .unset, .unset, .unset, .unset, .unset, .unset] [(.int ((oi su0) + (oi su1)))])) _
      rw [oi_add (su0) (su1)]
      refine XS.iload X40.here hx rfl (hb hby at_163) rfl ?_
      refine XS.iconst X40.here hx rfl (hb hby at_165) ?_
      refine XS.icmpNo X40.here hx rfl (hb hby at_166) rfl (tlt (by decide : ((2 : Int32) < (3 : Int32)))).2.2.2 ?_
      refine XS.iload X40.here hx rfl (hb hby at_169) rfl ?_
      refine XS.goto X40.here hx rfl (pc0 := 171) (pc' := 175) rfl (hb hby at_171) (by decide) (by decide) ?_
      refine XS.iadd X40.here hx rfl (hb hby at_175) rfl ?_
      show Steps p.tables e below (T40.setTop (mkF m 176 #[.val (.int p1), .val (.int p2), .val (.int p3), .val (.int p4), .val (.int p5), .val (.long q6), .second, .val (.int (3 : Int32)), .val (.int (oi su0)), .val (.int (oi su1)), .val (.int (oi su2)), .val (.int y1), .val (.int y2), .val (.int y3), .val (.int y4), .val (.int y5), .val (.int y6), .val (.int y7), .val (.int y8), .val (.ref b9), .unset, .unset, .unset, .unset, .unset, .unset] [(.int ((oi (su0 + su1)) + (oi su2)))])) _
      rw [oi_add ((su0 + su1)) (su2)]
      refine XS.istore X40.here hx rfl (hb hby at_176) rfl (l' := #[.val (.int p1), .val (.int p2), .val (.int p3), .val (.int p4), .val (.int p5), .val (.long q6), .second, .val (.int (3 : Int32)), .val (.int (oi su0)), .val (.int (oi su1)), .val (.int (oi su2)), .val (.int y1), .val (.int y2), .val (.int y3), .val (.int y4), .val (.int y5), .val (.int y6), .val (.int y7), .val (.int y8), .val (.ref b9), .val (.int (oi ((su0 + su1) + su2))), .unset, .unset, .unset, .unset, .unset]) rfl ?_
      refine XS.iload X40.here hx rfl (hb hby at_178) rfl ?_
      refine XS.iconst X40.here hx rfl (hb hby at_180) ?_
      refine XS.icmpYes X40.here hx rfl (pc0 := 181) (pc' := 197) rfl (hb hby at_181) rfl (feq (by decide : ¬ ((3 : Int32) = (1 : Int32)))).2 (by decide) (by decide) ?_
      refine XS.iload X40.here hx rfl (hb hby at_197) rfl ?_
      refine XS.iconst X40.here hx rfl (hb hby at_199) ?_
      refine XS.icmpYes X40.here hx rfl (pc0 := 200) (pc' := 221) rfl (hb hby at_200) rfl (feq (by decide : ¬ ((3 : Int32) = (2 : Int32)))).2 (by decide) (by decide) ?_
      refine XS.iconst X40.here hx rfl (hb hby at_221) ?_
      refine st41 _ ?_
      refine XS.dup X41.here hx rfl (hb hby at_224) rfl rfl ?_
      refine XS.iconst X41.here hx rfl (hb hby at_225) ?_
      refine XS.iload X41.here hx rfl (hb hby at_226) rfl ?_
      refine st42 _ ?_
      refine XS.dup X42.here hx rfl (hb hby at_229) rfl rfl ?_
      refine XS.iconst X42.here hx rfl (hb hby at_230) ?_
      refine XS.iload X42.here hx rfl (hb hby at_231) rfl ?_
      refine st44 _ ?_
      refine XS.dup X44.here hx rfl (hb hby at_234) rfl rfl ?_
      refine XS.iconst X44.here hx rfl (hb hby at_235) ?_
      refine XS.iload X44.here hx rfl (hb hby at_236) rfl ?_
      show Steps p.tables e below (T44.setTop (mkF m 238 #[.val (.int p1), .val (.int p2), .val (.int p3), .val (.int p4), .val (.int p5), .val (.long q6), .second, .val (.int (3 : Int32)), .val (.int (oi su0)), .val (.int (oi su1)), .val (.int (oi su2)), .val (.int y1), .val (.int y2), .val (.int y3), .val (.int y4), .val (.int y5), .val (.int y6), .val (.int y7), .val (.int y8), .val (.ref b9), .val (.int (oi ((su0 + su1) + su2))), .unset, .unset, .unset, .unset, .unset] [(.int y8), (.int (2 : Int32)), (.ref b41), (.ref b41)])) _
      refine st46 _ ?_
      refine XS.astore X46.here hx rfl (hb hby at_239) rfl rfl (l' := #[.val (.int p1), .val (.int p2), .val (.int p3), .val (.int p4), .val (.int p5), .val (.long q6), .second, .val (.int (3 : Int32)), .val (.int (oi su0)), .val (.int (oi su1)), .val (.int (oi su2)), .val (.int y1), .val (.int y2), .val (.int y3), .val (.int y4), .val (.int y5), .val (.int y6), .val (.int y7), .val (.int y8), .val (.ref b9), .val (.int (oi ((su0 + su1) + su2))), .val (.ref b41), .unset, .unset, .unset, .unset]) rfl ?_
      exact k
    exact join14 _ _ _ _ _ 3 _ _ (f3 sa0 sa1 sa2) (f3 sb0 sb1 sb2) (f3 su0 su1 su2) (f3 sn0 sn1 sn2) (f3 sc0 sc1 sc2) (f3 sg0 sg1 sg2) (upV (upV (upV (fun _ => Value.null) 0 (.ref sa0)) 1 (.ref sa1)) 2 (.ref sa2)) ((up (up (up (fun _ => 0) 0 p5) 1 y7) 2 y8)) (X46.more (by decide : 15 ≤ 15) (by decide : 52 ≤ 52)) e46 N46 Z46 Fp0_v46 Fp1_v46 Fp2_v46 Fp3_v46 Fp4_v46 Ex9_v46 nf40_1_v46 nf40_2_v46 nf40_3_v46 (all3 ⟨nf11_0_v46, nf11_1_v46, nf11_2_v46, nf11_3_v46⟩ ⟨nf37_0_v46, nf37_1_v46, nf37_2_v46, nf37_3_v46⟩ ⟨nf39_0_v46, nf39_1_v46, nf39_2_v46, nf39_3_v46⟩) VC47_v47 (Or.inr (Or.inr rfl)) (show su0 + su1 + su2 = 0 + su0 + su1 + su2 by omega) (all3 rfl rfl rfl) (all3 ⟨hsd0, hsu0⟩ ⟨hsd1, hsu1⟩ ⟨hsd2, hsu2⟩) pre48
theorem own_sta {args : Array Value} {s : State} {C n d : String} {k : Int32} (h : (Jvm.Cond.eq (Term.static C n d) (Term.int k)).value args s none s [] = some true) (hi : (Cond.initializedFor C n d).before args s = true) : Sta s s.heap C n d (.int k) := by
  obtain ⟨x, y, hx, hy, k1, k2⟩ := cmp_v (Or.inl h)
  rw [Term.int_eval] at hy
  cases hy
  obtain ⟨z, rfl⟩ := k2
  obtain rfl : z = k := gotT (Cond.eq_ints hx (Term.int_eval k)) h
  exact Sta.start hx (Or.inl hi)
theorem own_arr0 {args : Array Value} {s : State} {t : Term} {a : Addr} {ty : FieldType} (ev : t.eval args s none [] s = some (.ref a)) (h1 : (Cond.arrayOf t ty).value args s none s [] = some true) (h2 : (Jvm.Cond.eq (Term.length t) (Term.int (0 : Int32))).value args s none s [] = some true) : ∃ fd : Nat → Value, ArF s s.heap a ty 0 fd := by
  obtain ⟨c, A⟩ := Arr.start ev h1
  have hat := Arr.fin (U := s) (Vm.Alike.refl _) A
  obtain ⟨x, y, hx, hy, k1, k2⟩ := cmp_v (Or.inl h2)
  have hlt := Jvm.Free.SBG.length_lt ev hat hx
  obtain ⟨a', c', e1, e2, rfl⟩ := Term.length_spec hx
  cases ev.symm.trans e1
  cases hat.symm.trans e2
  have e := gotT (Cond.eq_ints hx (Term.int_eval (0 : Int32))) h2
  refine ⟨fun _ => .null, c, A, ?_, fun i hi => absurd hi (Nat.not_lt_zero i)⟩
  have q := len_toInt (n := c.slots.size) (by omega)
  rw [e, show (0 : Int32).toInt = 0 from by decide] at q
  omega
set_option maxRecDepth 65536 in
set_option maxHeartbeats 40000000 in
theorem comes_1 {Post : Tables → Env → Array Value → State → Outcome → State → Prop} (hpost : ∀ tb e args s v u, (limb_1_1.after args s (.returned v) u = true ∧ limb_1_2.after args s (.returned v) u = true ∧ True) → FrameEnd s (.returned v) u (Jvm.fieldLocs frame_1_writes args s ++ Jvm.arrayLocs frame_1_arrays args s ++ Jvm.staticLocs frame_1_statics s) 64 832 → Post tb e args s (.returned v) u) :
    ArmFor flags0 classFile x code maxLocals ret World_1 tables_1 room_1 Calls_1 rest_1 Pre_1 Post := by
  intro l hfl _ _ p e ha hc hk s m args below hf hA hF happ hP
  obtain ⟨hcalls, hrest, hpre⟩ := hP
  obtain ⟨-, -, -, hnamed, -, -, -, hat⟩ := (Spec.applies_iff hf).mp happ
  obtain ⟨hg, hn⟩ := and_e (Cond.before_iff.mp (show (Jvm.Cond.and given_1 narrow_1).before args s = true from hpre))
  obtain ⟨g0, gr0⟩ := and_e hg
  obtain ⟨ga0, gr1⟩ := and_e gr0
  obtain ⟨ga1, gr2⟩ := and_e gr1
  obtain ⟨ga2, gr3⟩ := and_e gr2
  obtain ⟨ga3, gr4⟩ := and_e gr3
  obtain ⟨ga4, gr5⟩ := and_e gr4
  obtain ⟨w0, w1, w2, w3, w4, w5, rfl⟩ : ∃ w0 w1 w2 w3 w4 w5 : Value, args = #[w0, w1, w2, w3, w4, w5] := by
    have hs : args.size = 6 := by simpa [Cond.value, given_1] using g0
    obtain ⟨L⟩ := args
    match L, hs with
    | [w0, w1, w2, w3, w4, w5], _ => exact ⟨w0, w1, w2, w3, w4, w5, rfl⟩
  have hw := fun d (hd : d ∈ tables_1) => atoms_spec (ws := Jvm.Cond.code x code maxLocals ret :: tables_1) hat d (List.mem_cons_of_mem _ hd)
  have hfit : Fit s := fun {y c} hc i hi => by
    obtain ⟨ha, rfl⟩ := Array.getElem?_eq_some_iff.mp hc
    have q := List.all_eq_true.mp ((Array.all_eq_true_iff_forall_mem.mp hF) _ (Array.getElem_mem ha)) i (List.mem_range.mpr hi)
    simpa [Array.getElem?_eq_getElem hi] using q
  obtain ⟨i0, ei0⟩ := is_v ga0
  obtain rfl : w0 = (.int i0) := Option.some.inj ei0
  obtain ⟨i1, ei1⟩ := is_v ga1
  obtain rfl : w1 = (.int i1) := Option.some.inj ei1
  obtain ⟨i2, ei2⟩ := is_v ga2
  obtain rfl : w2 = (.int i2) := Option.some.inj ei2
  obtain ⟨i3, ei3⟩ := is_v ga3
  obtain rfl : w3 = (.int i3) := Option.some.inj ei3
  obtain ⟨i4, ei4⟩ := is_v ga4
  obtain rfl : w4 = (.int i4) := Option.some.inj ei4
  obtain ⟨i5, ei5⟩ := isL_v gr5
  obtain rfl : w5 = (.long i5) := Option.some.inj ei5
  obtain ⟨hsets, hown0⟩ := atoms_of _ (rest_1_c_eq ▸ (show rest_1_c.before _ s = true from hrest))
  obtain ⟨cs, ecs⟩ := is_v (Cond.before_iff.mp (hsets _ (List.mem_of_getElem? (i := 10) rfl)))
  have SC : Sta s s.heap "java/lang/String" "COMPACT_STRINGS" "Z" (.int cs) := Sta.start ecs (Or.inl (hsets _ (List.mem_of_getElem? (i := 9) rfl)))
  have hcs : ¬ cs = (0 : Int32) := gotF (Cond.eq_ints ecs (Term.int_eval (0))) (not_v (Cond.before_iff.mp (hsets _ (List.mem_of_getElem? (i := 11) rfl))))
  obtain ⟨fo, efo, hfo⟩ := isR_v (Cond.before_iff.mp (hsets _ (List.mem_of_getElem? (i := 17) rfl)))
  have SF : Sta s s.heap "jdk/internal/util/Preconditions" "SIOOBE_FORMATTER" "Ljava/util/function/BiFunction;" fo := Sta.start efo (Or.inl (hsets _ (List.mem_of_getElem? (i := 16) rfl)))
  have SA : Sta s s.heap "java/lang/StringUTF16" "$assertionsDisabled" "Z" (.int (1 : Int32)) := own_sta (Cond.before_iff.mp (hsets _ (List.mem_of_getElem? (i := 21) rfl))) (hsets _ (List.mem_of_getElem? (i := 20) rfl))
  have SH : Sta s s.heap "java/lang/StringUTF16" "HI_BYTE_SHIFT" "I" (.int (0 : Int32)) := own_sta (Cond.before_iff.mp (hsets _ (List.mem_of_getElem? (i := 24) rfl))) (hsets _ (List.mem_of_getElem? (i := 23) rfl))
  have SL : Sta s s.heap "java/lang/StringUTF16" "LO_BYTE_SHIFT" "I" (.int (8 : Int32)) := own_sta (Cond.before_iff.mp (hsets _ (List.mem_of_getElem? (i := 27) rfl))) (hsets _ (List.mem_of_getElem? (i := 26) rfl))
  obtain ⟨dc, edc⟩ := arr_v (Cond.before_iff.mp (hsets _ (List.mem_of_getElem? (i := 6) rfl)))
  have SD : Sta s s.heap "java/util/ArrayList" "DEFAULTCAPACITY_EMPTY_ELEMENTDATA" "[Ljava/lang/Object;" (.ref dc) := Sta.start edc (Or.inr ⟨(wq hw 2 rfl), (hsets _ (List.mem_of_getElem? (i := 2) rfl))⟩)
  obtain ⟨fd, VD⟩ := own_arr0 edc (Cond.before_iff.mp (hsets _ (List.mem_of_getElem? (i := 6) rfl))) (Cond.before_iff.mp (hsets _ (List.mem_of_getElem? (i := 8) rfl)))
  obtain ⟨n, o, h1, h2, h3, _, L, rfl, ⟨rfl, N⟩, hq⟩ := rm0 l s _ hw tables_1 i0 i1 i2 i3 i4 i5 cs fo dc fd s.heap s.heap.size (Nat.le_refl _) SC SF SA SH SL SD VD hcs hfo p e ha hc hk s m _ below hf ((Spec.applies_iff_loose hf).mp happ).1 ⟨rfl, State.Warmed39.refl s, rfl⟩ trivial
  refine ⟨n, _, h1, h2, h3, hpost _ _ _ _ _ _ ⟨Cond.after_iff.mpr rfl, Cond.after_iff.mpr (eq_i res_at (Term.int_eval (1)) rfl), trivial⟩ ⟨hq.1, hq.2.1, (hq.2.2.sift fun y hy => Or.inr (N y hy)).mono (by decide) (by decide)⟩⟩
theorem main_1_1 : Claimed_1_1 := comes_1 fun _ _ _ _ _ _ h hF => ⟨h.1, hF⟩
theorem main_1_2 : Claimed_1_2 := comes_1 fun _ _ _ _ _ _ h hF => ⟨h.2.1, hF⟩
end Jvm.Pilot.@@N@@
namespace Jvm.Pilot.@@N@@
open Jvm Jvm.ClassFile Sem Op Lib Jvm.Free Jvm.Stand Jvm.Pilot.@@N@@.Jvm.D
/-! MADE BY PROGRAM (witnessworld.py) out of the Statement's table words and the real class files: 32 classes; the members and pool entries that the words name. The judged class is class 1, her method 1. -/
namespace start1
open Jvm.ClassFile
def u (s : String) : CpInfo := .utf8 (stringToUtf16 s)
/-- a pool by its gaps: so many unusable entries, then the entry; so many at the end -/
def gap : Nat → List CpInfo → List CpInfo
  | 0, r => r
  | n + 1, r => .unusable :: gap n r
def poolList (es : List (Nat × CpInfo)) (last : Nat) : List CpInfo := es.foldr (fun e r => gap e.1 (e.2 :: r)) (gap last [])
def pool (es : List (Nat × CpInfo)) (last : Nat) : Array CpInfo := ⟨poolList es last⟩
def fileOf (pool : Array CpInfo) (this : Nat) (attrs : Array Attribute := #[]) (ms : Array MethodInfo := #[]) (fl : Nat := 33) (sup : Nat := 0) (ifs : Array Nat := #[]) (fds : Array FieldInfo := #[]) : ClassFile where
  minorVersion := 0
  majorVersion := 65
  constantPool := pool
  accessFlags := fl
  thisClass := this
  superClass := sup
  interfaces := ifs
  fields := fds
  methods := ms
  attributes := attrs
def plain (name : String) (sup : Option ClassId) : Class where
  name := name
  kind := .ordinary
  loader := none
  accessFlags := 33
  super := sup
  interfaces := #[]
  cf := none
  fields := #[]
  methods := #[]
  instanceTypes := #[]
  staticTypes := #[]
  resolved := #[]
  callSites := []
  init := .initialized
  statics := none
  mirror := none

def pool0 : Array CpInfo := pool [(5, u "<init>"), (0, u "()V"), (1, .class_ 10), (1, u "java/lang/Object")] 113

def k0c0 : Code := { maxStack := 0, maxLocals := 1, code := object_method_1_code, exceptionTable := #[], attributes := #[] }
def k0m0 : Method := { name := "<init>", desc := "()V", sig := { parameters := [], returnType := none }, accessFlags := 1, code := some k0c0 }
/-- java/lang/Object -/
def k0 : Class := { plain "java/lang/Object" none with
  accessFlags := 33
  interfaces := #[]
  cf := some (fileOf pool0 8 #[] #[{ accessFlags := 1, nameIndex := 5, descriptorIndex := 6, attributes := #[] }] 33 0 #[] #[])
  fields := #[]
  methods := #[k0m0]
  instanceTypes := #[]
  staticTypes := #[]
  resolved := Array.replicate 124 none
  statics := none }

def pool1 : Array CpInfo := pool [(2, .class_ 4), (0, .nameAndType 5 6), (0, u "java/lang/Object"), (0, u "<init>"), (0, u "()V"), (0, .class_ 8), (0, u "java/util/ArrayList"), (0, .methodref 7 3), (0, .methodref 11 12), (0, .class_ 13), (0, .nameAndType 14 15), (0, u "com/example/even_roster/evenroster/scim/SortedSuffixesValuesAtPinLaw"), (0, u "text"), (0, u "(ICC)Ljava/lang/String;"), (0, .methodref 7 17), (0, .nameAndType 18 19), (0, u "add"), (0, u "(Ljava/lang/Object;)Z"), (0, .class_ 21), (0, u "com/example/even_roster/evenroster/scim/SortedSuffixes"), (0, .methodref 20 23), (0, .nameAndType 5 24), (0, u "(Ljava/util/List;)V"), (0, .methodref 20 26), (0, .nameAndType 27 28), (0, u "valuesAt"), (0, u "([III)[I"), (0, .methodref 11 30), (0, .nameAndType 31 32), (0, u "agrees"), (0, u "(Lcom/example/even_roster/evenroster/scim/SortedSuffixes;[I[III)Z"), (0, .class_ 34), (0, u "java/lang/String"), (0, .methodref 33 36), (0, .nameAndType 5 37), (0, u "([C)V"), (0, .methodref 20 39), (0, .nameAndType 40 41), (0, u "textAt"), (0, u "(I)I"), (2, u "law"), (0, u "(IIIIIJ)Z")] 5

def k1m0 : Method := { name := "<init>", desc := "()V", sig := { parameters := [], returnType := none }, accessFlags := 1, code := none }
def k1c1 : Code := { maxStack := 5, maxLocals := 26, code := code, exceptionTable := #[], attributes := #[] }
def k1m1 : Method := { name := "law", desc := "(IIIIIJ)Z", sig := { parameters := [.int, .int, .int, .int, .int, .long], returnType := some .boolean }, accessFlags := 9, code := some k1c1 }
def k1c2 : Code := { maxStack := 6, maxLocals := 3, code := method_3_code, exceptionTable := #[], attributes := #[] }
def k1m2 : Method := { name := "text", desc := "(ICC)Ljava/lang/String;", sig := { parameters := [.int, .char, .char], returnType := some (.object "java/lang/String") }, accessFlags := 10, code := some k1c2 }
def k1c3 : Code := { maxStack := 5, maxLocals := 5, code := method_4_code, exceptionTable := #[], attributes := #[] }
def k1m3 : Method := { name := "agrees", desc := "(Lcom/example/even_roster/evenroster/scim/SortedSuffixes;[I[III)Z", sig := { parameters := [(.object "com/example/even_roster/evenroster/scim/SortedSuffixes"), (.array .int), (.array .int), .int, .int], returnType := some .boolean }, accessFlags := 10, code := some k1c3 }
/-- com/example/even_roster/evenroster/scim/SortedSuffixesValuesAtPinLaw -/
def k1 : Class := { plain "com/example/even_roster/evenroster/scim/SortedSuffixesValuesAtPinLaw" (some 0) with
  accessFlags := 49
  interfaces := #[]
  cf := some (fileOf pool1 11 #[] #[{ accessFlags := 1, nameIndex := 5, descriptorIndex := 6, attributes := #[] }, { accessFlags := 9, nameIndex := 44, descriptorIndex := 45, attributes := #[] }, { accessFlags := 10, nameIndex := 14, descriptorIndex := 15, attributes := #[] }, { accessFlags := 10, nameIndex := 31, descriptorIndex := 32, attributes := #[] }] 49 2 #[] #[])
  fields := #[]
  methods := #[k1m0, k1m1, k1m2, k1m3]
  instanceTypes := #[]
  staticTypes := #[]
  resolved := Array.replicate 51 none
  statics := none }

def pool2 : Array CpInfo := pool [(8, .class_ 10), (1, u "java/lang/Iterable"), (24, .class_ 36), (0, u "java/lang/Object")] 25

/-- java/lang/Iterable -/
def k2 : Class := { plain "java/lang/Iterable" (some 0) with
  accessFlags := 1537
  interfaces := #[]
  cf := some (fileOf pool2 8 #[] #[] 1537 35 #[] #[])
  fields := #[]
  methods := #[]
  instanceTypes := #[]
  staticTypes := #[]
  resolved := Array.replicate 62 none
  statics := none }

def pool3 : Array CpInfo := pool [(10, .class_ 12), (1, u "java/util/Collection"), (47, .class_ 61), (0, u "java/lang/Object"), (0, .class_ 63), (0, u "java/lang/Iterable")] 51

/-- java/util/Collection -/
def k3 : Class := { plain "java/util/Collection" (some 0) with
  accessFlags := 1537
  interfaces := #[2]
  cf := some (fileOf pool3 10 #[] #[] 1537 60 #[62] #[])
  fields := #[]
  methods := #[]
  instanceTypes := #[]
  staticTypes := #[]
  resolved := Array.replicate 115 none
  statics := none }

def pool4 : Array CpInfo := pool [(1, .methodref 2 3), (0, .class_ 4), (0, .nameAndType 5 6), (0, u "java/lang/Object"), (0, u "<init>"), (0, u "()V"), (1, .class_ 10), (1, u "java/util/AbstractCollection"), (66, .class_ 78), (0, u "java/util/Collection")] 81

def k4c0 : Code := { maxStack := 1, maxLocals := 1, code := jdk_22_method_1_code, exceptionTable := #[], attributes := #[] }
def k4m0 : Method := { name := "<init>", desc := "()V", sig := { parameters := [], returnType := none }, accessFlags := 4, code := some k4c0 }
/-- java/util/AbstractCollection -/
def k4 : Class := { plain "java/util/AbstractCollection" (some 0) with
  accessFlags := 1057
  interfaces := #[3]
  cf := some (fileOf pool4 8 #[] #[{ accessFlags := 4, nameIndex := 5, descriptorIndex := 6, attributes := #[] }] 1057 2 #[77] #[])
  fields := #[]
  methods := #[k4m0]
  instanceTypes := #[]
  staticTypes := #[]
  resolved := Array.replicate 160 none
  statics := none }

def pool5 : Array CpInfo := pool [(8, .class_ 10), (1, u "java/util/SequencedCollection"), (15, .class_ 27), (0, u "java/lang/Object"), (0, .class_ 29), (0, u "java/util/Collection")] 27

/-- java/util/SequencedCollection -/
def k5 : Class := { plain "java/util/SequencedCollection" (some 0) with
  accessFlags := 1537
  interfaces := #[3]
  cf := some (fileOf pool5 8 #[] #[] 1537 26 #[28] #[])
  fields := #[]
  methods := #[]
  instanceTypes := #[]
  staticTypes := #[]
  resolved := Array.replicate 57 none
  statics := none }

def pool6 : Array CpInfo := pool [(8, .class_ 10), (1, u "java/util/List"), (64, u "get"), (0, u "(I)Ljava/lang/Object;"), (2, u "size"), (0, u "()I"), (22, .class_ 104), (0, u "java/lang/Object"), (15, .class_ 121), (0, u "java/util/SequencedCollection")] 129

def k6m0 : Method := { name := "size", desc := "()I", sig := { parameters := [], returnType := some .int }, accessFlags := 1025, code := none }
def k6m1 : Method := { name := "get", desc := "(I)Ljava/lang/Object;", sig := { parameters := [.int], returnType := some (.object "java/lang/Object") }, accessFlags := 1025, code := none }
/-- java/util/List -/
def k6 : Class := { plain "java/util/List" (some 0) with
  accessFlags := 1537
  interfaces := #[5]
  cf := some (fileOf pool6 8 #[] #[{ accessFlags := 1025, nameIndex := 79, descriptorIndex := 80, attributes := #[] }, { accessFlags := 1025, nameIndex := 75, descriptorIndex := 76, attributes := #[] }] 1537 103 #[120] #[])
  fields := #[]
  methods := #[k6m0, k6m1]
  instanceTypes := #[]
  staticTypes := #[]
  resolved := Array.replicate 251 none
  statics := none }

def pool7 : Array CpInfo := pool [(1, .methodref 2 3), (0, .class_ 4), (0, .nameAndType 5 6), (0, u "java/util/AbstractCollection"), (0, u "<init>"), (0, u "()V"), (0, .fieldref 8 9), (0, .class_ 10), (0, .nameAndType 11 12), (0, u "java/util/AbstractList"), (0, u "modCount"), (0, u "I"), (64, .class_ 78), (0, u "java/util/AbstractList$Itr"), (3, .class_ 83), (0, u "java/util/AbstractList$ListItr"), (9, .class_ 94), (0, u "java/util/AbstractList$RandomAccessSubList"), (3, .class_ 99), (0, u "java/util/AbstractList$SubList"), (33, .class_ 134), (0, u "java/util/List"), (73, .class_ 209), (0, u "java/util/AbstractList$SubList$1"), (0, .class_ 211), (0, u "java/util/AbstractList$RandomAccessSpliterator")] 6

def k7c0 : Code := { maxStack := 2, maxLocals := 1, code := jdk_39_method_1_code, exceptionTable := #[], attributes := #[] }
def k7m0 : Method := { name := "<init>", desc := "()V", sig := { parameters := [], returnType := none }, accessFlags := 4, code := some k7c0 }
/-- java/util/AbstractList -/
def k7 : Class := { plain "java/util/AbstractList" (some 4) with
  accessFlags := 1057
  interfaces := #[6]
  cf := some (fileOf pool7 8 #[.nestMembers #[93, 98, 208, 210, 82, 77]] #[{ accessFlags := 4, nameIndex := 5, descriptorIndex := 6, attributes := #[] }] 1057 2 #[133] #[{ accessFlags := 132, nameIndex := 11, descriptorIndex := 12, attributes := #[] }])
  fields := #[{ name := "modCount", type := .int, accessFlags := 132, slot := 0, constantValue := 0 }]
  methods := #[k7m0]
  instanceTypes := #[.int]
  staticTypes := #[]
  resolved := Array.replicate 218 none
  statics := none }

def pool8 : Array CpInfo := pool [(1, .class_ 2), (0, u "java/util/RandomAccess"), (0, .class_ 4), (0, u "java/lang/Object")] 2

/-- java/util/RandomAccess -/
def k8 : Class := { plain "java/util/RandomAccess" (some 0) with
  accessFlags := 1537
  interfaces := #[]
  cf := some (fileOf pool8 1 #[] #[] 1537 3 #[] #[])
  fields := #[]
  methods := #[]
  instanceTypes := #[]
  staticTypes := #[]
  resolved := Array.replicate 7 none
  statics := none }

def pool9 : Array CpInfo := pool [(1, .class_ 2), (0, u "java/lang/Cloneable"), (0, .class_ 4), (0, u "java/lang/Object")] 2

/-- java/lang/Cloneable -/
def k9 : Class := { plain "java/lang/Cloneable" (some 0) with
  accessFlags := 1537
  interfaces := #[]
  cf := some (fileOf pool9 1 #[] #[] 1537 3 #[] #[])
  fields := #[]
  methods := #[]
  instanceTypes := #[]
  staticTypes := #[]
  resolved := Array.replicate 7 none
  statics := none }

def pool10 : Array CpInfo := pool [(1, .class_ 2), (0, u "java/io/Serializable"), (0, .class_ 4), (0, u "java/lang/Object")] 2

/-- java/io/Serializable -/
def k10 : Class := { plain "java/io/Serializable" (some 0) with
  accessFlags := 1537
  interfaces := #[]
  cf := some (fileOf pool10 1 #[] #[] 1537 3 #[] #[])
  fields := #[]
  methods := #[]
  instanceTypes := #[]
  staticTypes := #[]
  resolved := Array.replicate 7 none
  statics := none }

def pool11 : Array CpInfo := pool [(1, .methodref 2 3), (0, .class_ 4), (0, .nameAndType 5 6), (0, u "java/util/AbstractList"), (0, u "<init>"), (0, u "()V"), (0, .class_ 8), (0, u "java/lang/Object"), (0, .fieldref 10 11), (0, .class_ 12), (0, .nameAndType 13 14), (0, u "java/util/ArrayList"), (0, u "elementData"), (0, u "[Ljava/lang/Object;"), (2, u "EMPTY_ELEMENTDATA"), (21, .fieldref 10 40), (0, .nameAndType 41 14), (0, u "DEFAULTCAPACITY_EMPTY_ELEMENTDATA"), (5, u "()[Ljava/lang/Object;"), (0, .fieldref 10 49), (0, .nameAndType 50 51), (0, u "size"), (0, u "I"), (11, .fieldref 10 64), (0, .nameAndType 65 51), (0, u "modCount"), (3, .methodref 10 70), (0, .nameAndType 71 72), (0, u "grow"), (0, u "(I)[Ljava/lang/Object;"), (6, .methodref 80 81), (0, .class_ 82), (0, .nameAndType 83 84), (0, u "java/lang/Math"), (0, u "max"), (0, u "(II)I"), (11, u "(Ljava/lang/Object;)Z"), (21, .methodref 119 120), (0, .class_ 121), (0, .nameAndType 122 84), (0, u "java/util/Objects"), (0, u "checkIndex"), (0, .methodref 10 124), (0, .nameAndType 13 125), (0, u "(I)Ljava/lang/Object;"), (3, .methodref 10 130), (0, .nameAndType 71 47), (0, .methodref 10 132), (0, .nameAndType 133 134), (0, u "add"), (0, u "(Ljava/lang/Object;[Ljava/lang/Object;I)V"), (13, .class_ 149), (0, u "java/util/List"), (36, u "()I"), (75, .class_ 263), (0, u "java/util/ArrayList$ListItr"), (3, .class_ 268), (0, u "java/util/ArrayList$Itr"), (7, .class_ 277), (0, u "java/util/ArrayList$SubList"), (12, .class_ 291), (0, u "java/util/ArrayList$ArrayListSpliterator"), (37, .class_ 330), (0, u "java/util/RandomAccess"), (0, .class_ 332), (0, u "java/lang/Cloneable"), (0, .class_ 334), (0, u "java/io/Serializable"), (0, u "serialVersionUID"), (0, u "J"), (3, u "DEFAULT_CAPACITY"), (40, u "get"), (118, .class_ 501), (0, u "java/util/ArrayList$SubList$2"), (0, .class_ 503), (0, u "java/util/ArrayList$SubList$1")] 5

def k11c0 : Code := { maxStack := 2, maxLocals := 1, code := jdk_38_method_2_code, exceptionTable := #[], attributes := #[] }
def k11m0 : Method := { name := "<init>", desc := "()V", sig := { parameters := [], returnType := none }, accessFlags := 1, code := some k11c0 }
def k11c1 : Code := { maxStack := 4, maxLocals := 4, code := jdk_38_method_6_code, exceptionTable := #[], attributes := #[] }
def k11m1 : Method := { name := "grow", desc := "(I)[Ljava/lang/Object;", sig := { parameters := [.int], returnType := some (.array (.object "java/lang/Object")) }, accessFlags := 2, code := some k11c1 }
def k11c2 : Code := { maxStack := 3, maxLocals := 1, code := jdk_38_method_7_code, exceptionTable := #[], attributes := #[] }
def k11m2 : Method := { name := "grow", desc := "()[Ljava/lang/Object;", sig := { parameters := [], returnType := some (.array (.object "java/lang/Object")) }, accessFlags := 2, code := some k11c2 }
def k11c3 : Code := { maxStack := 1, maxLocals := 1, code := jdk_38_method_8_code, exceptionTable := #[], attributes := #[] }
def k11m3 : Method := { name := "size", desc := "()I", sig := { parameters := [], returnType := some .int }, accessFlags := 1, code := some k11c3 }
def k11c4 : Code := { maxStack := 2, maxLocals := 2, code := jdk_38_method_18_code, exceptionTable := #[], attributes := #[] }
def k11m4 : Method := { name := "elementData", desc := "(I)Ljava/lang/Object;", sig := { parameters := [.int], returnType := some (.object "java/lang/Object") }, accessFlags := 0, code := some k11c4 }
def k11c5 : Code := { maxStack := 2, maxLocals := 2, code := jdk_38_method_20_code, exceptionTable := #[], attributes := #[] }
def k11m5 : Method := { name := "get", desc := "(I)Ljava/lang/Object;", sig := { parameters := [.int], returnType := some (.object "java/lang/Object") }, accessFlags := 1, code := some k11c5 }
def k11c6 : Code := { maxStack := 3, maxLocals := 4, code := jdk_38_method_24_code, exceptionTable := #[], attributes := #[] }
def k11m6 : Method := { name := "add", desc := "(Ljava/lang/Object;[Ljava/lang/Object;I)V", sig := { parameters := [(.object "java/lang/Object"), (.array (.object "java/lang/Object")), .int], returnType := none }, accessFlags := 2, code := some k11c6 }
def k11c7 : Code := { maxStack := 4, maxLocals := 2, code := jdk_38_method_25_code, exceptionTable := #[], attributes := #[] }
def k11m7 : Method := { name := "add", desc := "(Ljava/lang/Object;)Z", sig := { parameters := [(.object "java/lang/Object")], returnType := some .boolean }, accessFlags := 1, code := some k11c7 }
/-- java/util/ArrayList -/
def k11 : Class := { plain "java/util/ArrayList" (some 7) with
  accessFlags := 33
  interfaces := #[6, 8, 9, 10]
  cf := some (fileOf pool11 10 #[.nestMembers #[290, 276, 500, 502, 262, 267]] #[{ accessFlags := 1, nameIndex := 5, descriptorIndex := 6, attributes := #[] }, { accessFlags := 2, nameIndex := 71, descriptorIndex := 72, attributes := #[] }, { accessFlags := 2, nameIndex := 71, descriptorIndex := 47, attributes := #[] }, { accessFlags := 1, nameIndex := 50, descriptorIndex := 186, attributes := #[] }, { accessFlags := 0, nameIndex := 13, descriptorIndex := 125, attributes := #[] }, { accessFlags := 1, nameIndex := 381, descriptorIndex := 125, attributes := #[] }, { accessFlags := 2, nameIndex := 133, descriptorIndex := 134, attributes := #[] }, { accessFlags := 1, nameIndex := 133, descriptorIndex := 96, attributes := #[] }] 33 2 #[148, 329, 331, 333] #[{ accessFlags := 26, nameIndex := 335, descriptorIndex := 336, attributes := #[] }, { accessFlags := 26, nameIndex := 340, descriptorIndex := 51, attributes := #[] }, { accessFlags := 26, nameIndex := 17, descriptorIndex := 14, attributes := #[] }, { accessFlags := 26, nameIndex := 41, descriptorIndex := 14, attributes := #[] }, { accessFlags := 128, nameIndex := 13, descriptorIndex := 14, attributes := #[] }, { accessFlags := 2, nameIndex := 50, descriptorIndex := 51, attributes := #[] }])
  fields := #[{ name := "serialVersionUID", type := .long, accessFlags := 26, slot := 0, constantValue := 0 }, { name := "DEFAULT_CAPACITY", type := .int, accessFlags := 26, slot := 1, constantValue := 0 }, { name := "EMPTY_ELEMENTDATA", type := (.array (.object "java/lang/Object")), accessFlags := 26, slot := 2, constantValue := 0 }, { name := "DEFAULTCAPACITY_EMPTY_ELEMENTDATA", type := (.array (.object "java/lang/Object")), accessFlags := 26, slot := 3, constantValue := 0 }, { name := "elementData", type := (.array (.object "java/lang/Object")), accessFlags := 128, slot := 1, constantValue := 0 }, { name := "size", type := .int, accessFlags := 2, slot := 2, constantValue := 0 }]
  methods := #[k11m0, k11m1, k11m2, k11m3, k11m4, k11m5, k11m6, k11m7]
  instanceTypes := #[.int, (.array (.object "java/lang/Object")), .int]
  staticTypes := #[.long, .int, (.array (.object "java/lang/Object")), (.array (.object "java/lang/Object"))]
  resolved := Array.replicate 509 none
  statics := some 0 }

def pool12 : Array CpInfo := pool [(1, .class_ 2), (0, u "java/lang/Comparable"), (0, .class_ 4), (0, u "java/lang/Object")] 7

/-- java/lang/Comparable -/
def k12 : Class := { plain "java/lang/Comparable" (some 0) with
  accessFlags := 1537
  interfaces := #[]
  cf := some (fileOf pool12 1 #[] #[] 1537 3 #[] #[])
  fields := #[]
  methods := #[]
  instanceTypes := #[]
  staticTypes := #[]
  resolved := Array.replicate 12 none
  statics := none }

def pool13 : Array CpInfo := pool [(2, .class_ 4), (1, u "java/lang/CharSequence"), (42, .class_ 48), (0, u "java/lang/CharSequence$1CodePointIterator"), (10, .class_ 60), (0, u "java/lang/CharSequence$1CharIterator"), (5, .class_ 67), (0, u "java/lang/Object")] 63

/-- java/lang/CharSequence -/
def k13 : Class := { plain "java/lang/CharSequence" (some 0) with
  accessFlags := 1537
  interfaces := #[]
  cf := some (fileOf pool13 2 #[.nestMembers #[47, 59]] #[] 1537 66 #[] #[])
  fields := #[]
  methods := #[]
  instanceTypes := #[]
  staticTypes := #[]
  resolved := Array.replicate 131 none
  statics := none }

def pool14 : Array CpInfo := pool [(1, .class_ 2), (0, u "java/lang/constant/Constable"), (0, .class_ 4), (0, u "java/lang/Object")] 6

/-- java/lang/constant/Constable -/
def k14 : Class := { plain "java/lang/constant/Constable" (some 0) with
  accessFlags := 1537
  interfaces := #[]
  cf := some (fileOf pool14 1 #[] #[] 1537 3 #[] #[])
  fields := #[]
  methods := #[]
  instanceTypes := #[]
  staticTypes := #[]
  resolved := Array.replicate 11 none
  statics := none }

def pool15 : Array CpInfo := pool [(1, .class_ 2), (0, u "java/lang/constant/ConstantDesc"), (0, .class_ 4), (0, u "java/lang/Object")] 32

/-- java/lang/constant/ConstantDesc -/
def k15 : Class := { plain "java/lang/constant/ConstantDesc" (some 0) with
  accessFlags := 1537
  interfaces := #[]
  cf := some (fileOf pool15 1 #[] #[] 1537 3 #[] #[])
  fields := #[]
  methods := #[]
  instanceTypes := #[]
  staticTypes := #[]
  resolved := Array.replicate 37 none
  statics := none }

def pool16 : Array CpInfo := pool [(1, .methodref 2 3), (0, .class_ 4), (0, .nameAndType 5 6), (0, u "java/lang/Object"), (0, u "<init>"), (0, u "()V"), (2, .fieldref 10 11), (0, .class_ 12), (0, .nameAndType 13 14), (0, u "java/lang/String"), (0, u "value"), (0, u "[B"), (0, .fieldref 10 16), (0, .nameAndType 17 18), (0, u "coder"), (0, u "B"), (2, u "hash"), (0, u "I"), (2, u "hashIsZero"), (0, u "Z"), (0, .methodref 10 28), (0, .nameAndType 5 29), (0, u "([CIILjava/lang/Void;)V"), (4, .methodref 10 35), (0, .nameAndType 36 37), (0, u "checkBoundsOffCount"), (0, u "(III)I"), (0, .fieldref 10 39), (0, .nameAndType 40 26), (0, u "COMPACT_STRINGS"), (1, .class_ 44), (1, u "java/lang/StringUTF16"), (0, u "compress"), (1, .methodref 42 48), (0, .nameAndType 49 50), (0, u "coderFromArrayLen"), (0, u "([BI)B"), (56, .class_ 109), (1, u "java/lang/StringLatin1"), (32, u "()Z"), (34, .methodref 42 178), (0, .nameAndType 45 179), (0, u "([CII)[B"), (154, u "()I"), (0, .methodref 10 336), (0, .nameAndType 17 337), (0, u "()B"), (154, .methodref 10 493), (0, .nameAndType 494 142), (0, u "isLatin1"), (10, .methodref 10 506), (0, .nameAndType 507 334), (0, u "length"), (5, u "checkFromToIndex"), (7, .methodref 10 522), (0, .nameAndType 523 524), (0, u "checkBoundsBeginEnd"), (0, u "(III)V"), (0, .methodref 107 526), (0, .nameAndType 527 528), (0, u "getChars"), (0, u "([BII[CI)V"), (0, .methodref 42 526), (45, .class_ 576), (0, u "java/lang/CharSequence"), (22, u "CASE_INSENSITIVE_ORDER"), (0, u "Ljava/util/Comparator;"), (409, u "([C)V"), (42, .fieldref 1054 1055), (0, .class_ 1056), (0, .nameAndType 1057 1058), (0, u "jdk/internal/util/Preconditions"), (0, u "SIOOBE_FORMATTER"), (0, u "Ljava/util/function/BiFunction;"), (3, .methodref 1054 1063), (0, .nameAndType 513 1064), (0, u "(IIILjava/util/function/BiFunction;)I"), (0, .methodref 1054 1066), (0, .nameAndType 1067 1064), (0, u "checkFromIndexSize"), (33, u "serialPersistentFields"), (0, u "[Ljava/io/ObjectStreamField;"), (0, .class_ 1104), (0, u "java/lang/String$CaseInsensitiveComparator"), (1, .class_ 1107), (0, u "java/io/Serializable"), (0, .class_ 1109), (0, u "java/lang/Comparable"), (0, .class_ 1111), (0, u "java/lang/constant/Constable"), (0, .class_ 1113), (0, u "java/lang/constant/ConstantDesc"), (2, u "serialVersionUID"), (0, u "J"), (3, u "REPL"), (0, u "C"), (2, u "LATIN1"), (1, u "UTF16"), (112, u "(II[CI)V")] 210

def k16m0 : Method := { name := "<init>", desc := "()V", sig := { parameters := [], returnType := none }, accessFlags := 1, code := none }
def k16c1 : Code := { maxStack := 5, maxLocals := 2, code := jdk_42_method_3_code, exceptionTable := #[], attributes := #[] }
def k16m1 : Method := { name := "<init>", desc := "([C)V", sig := { parameters := [(.array .char)], returnType := none }, accessFlags := 1, code := some k16c1 }
def k16c2 : Code := { maxStack := 2, maxLocals := 1, code := jdk_42_method_54_code, exceptionTable := #[], attributes := #[] }
def k16m2 : Method := { name := "length", desc := "()I", sig := { parameters := [], returnType := some .int }, accessFlags := 1, code := some k16c2 }
def k16c3 : Code := { maxStack := 5, maxLocals := 5, code := jdk_42_method_61_code, exceptionTable := #[], attributes := #[] }
def k16m3 : Method := { name := "getChars", desc := "(II[CI)V", sig := { parameters := [.int, .int, (.array .char), .int], returnType := none }, accessFlags := 1, code := some k16c3 }
def k16c4 : Code := { maxStack := 4, maxLocals := 6, code := jdk_42_method_149_code, exceptionTable := #[], attributes := #[] }
def k16m4 : Method := { name := "<init>", desc := "([CIILjava/lang/Void;)V", sig := { parameters := [(.array .char), .int, .int, (.object "java/lang/Void")], returnType := none }, accessFlags := 2, code := some k16c4 }
def k16c5 : Code := { maxStack := 1, maxLocals := 1, code := jdk_42_method_152_code, exceptionTable := #[], attributes := #[] }
def k16m5 : Method := { name := "coder", desc := "()B", sig := { parameters := [], returnType := some .byte }, accessFlags := 0, code := some k16c5 }
def k16c6 : Code := { maxStack := 1, maxLocals := 1, code := jdk_42_method_154_code, exceptionTable := #[], attributes := #[] }
def k16m6 : Method := { name := "isLatin1", desc := "()Z", sig := { parameters := [], returnType := some .boolean }, accessFlags := 0, code := some k16c6 }
def k16c7 : Code := { maxStack := 4, maxLocals := 3, code := jdk_42_method_157_code, exceptionTable := #[], attributes := #[] }
def k16m7 : Method := { name := "checkBoundsOffCount", desc := "(III)I", sig := { parameters := [.int, .int, .int], returnType := some .int }, accessFlags := 8, code := some k16c7 }
def k16c8 : Code := { maxStack := 4, maxLocals := 3, code := jdk_42_method_158_code, exceptionTable := #[], attributes := #[] }
def k16m8 : Method := { name := "checkBoundsBeginEnd", desc := "(III)V", sig := { parameters := [.int, .int, .int], returnType := none }, accessFlags := 8, code := some k16c8 }
/-- java/lang/String -/
def k16 : Class := { plain "java/lang/String" (some 0) with
  accessFlags := 49
  interfaces := #[10, 12, 13, 14, 15]
  cf := some (fileOf pool16 10 #[.nestMembers #[1103]] #[{ accessFlags := 1, nameIndex := 5, descriptorIndex := 6, attributes := #[] }, { accessFlags := 1, nameIndex := 5, descriptorIndex := 1010, attributes := #[] }, { accessFlags := 1, nameIndex := 507, descriptorIndex := 334, attributes := #[] }, { accessFlags := 1, nameIndex := 527, descriptorIndex := 1240, attributes := #[] }, { accessFlags := 2, nameIndex := 5, descriptorIndex := 29, attributes := #[] }, { accessFlags := 0, nameIndex := 17, descriptorIndex := 337, attributes := #[] }, { accessFlags := 0, nameIndex := 494, descriptorIndex := 142, attributes := #[] }, { accessFlags := 8, nameIndex := 36, descriptorIndex := 37, attributes := #[] }, { accessFlags := 8, nameIndex := 523, descriptorIndex := 524, attributes := #[] }] 49 2 #[1106, 1108, 575, 1110, 1112] #[{ accessFlags := 18, nameIndex := 13, descriptorIndex := 14, attributes := #[] }, { accessFlags := 18, nameIndex := 17, descriptorIndex := 18, attributes := #[] }, { accessFlags := 2, nameIndex := 21, descriptorIndex := 22, attributes := #[] }, { accessFlags := 2, nameIndex := 25, descriptorIndex := 26, attributes := #[] }, { accessFlags := 26, nameIndex := 1116, descriptorIndex := 1117, attributes := #[] }, { accessFlags := 24, nameIndex := 40, descriptorIndex := 26, attributes := #[] }, { accessFlags := 26, nameIndex := 1101, descriptorIndex := 1102, attributes := #[] }, { accessFlags := 26, nameIndex := 1121, descriptorIndex := 1122, attributes := #[] }, { accessFlags := 25, nameIndex := 599, descriptorIndex := 600, attributes := #[] }, { accessFlags := 24, nameIndex := 1125, descriptorIndex := 18, attributes := #[] }, { accessFlags := 24, nameIndex := 1127, descriptorIndex := 18, attributes := #[] }])
  fields := #[{ name := "value", type := (.array .byte), accessFlags := 18, slot := 0, constantValue := 0 }, { name := "coder", type := .byte, accessFlags := 18, slot := 1, constantValue := 0 }, { name := "hash", type := .int, accessFlags := 2, slot := 2, constantValue := 0 }, { name := "hashIsZero", type := .boolean, accessFlags := 2, slot := 3, constantValue := 0 }, { name := "serialVersionUID", type := .long, accessFlags := 26, slot := 0, constantValue := 0 }, { name := "COMPACT_STRINGS", type := .boolean, accessFlags := 24, slot := 1, constantValue := 0 }, { name := "serialPersistentFields", type := (.array (.object "java/io/ObjectStreamField")), accessFlags := 26, slot := 2, constantValue := 0 }, { name := "REPL", type := .char, accessFlags := 26, slot := 3, constantValue := 0 }, { name := "CASE_INSENSITIVE_ORDER", type := (.object "java/util/Comparator"), accessFlags := 25, slot := 4, constantValue := 0 }, { name := "LATIN1", type := .byte, accessFlags := 24, slot := 5, constantValue := 0 }, { name := "UTF16", type := .byte, accessFlags := 24, slot := 6, constantValue := 0 }]
  methods := #[k16m0, k16m1, k16m2, k16m3, k16m4, k16m5, k16m6, k16m7, k16m8]
  instanceTypes := #[(.array .byte), .byte, .int, .boolean]
  staticTypes := #[.long, .boolean, (.array (.object "java/io/ObjectStreamField")), .char, (.object "java/util/Comparator"), .byte, .byte]
  resolved := Array.replicate 1451 none
  statics := some 1 }

def pool17 : Array CpInfo := pool [(3, .class_ 4), (0, u "java/lang/String"), (1, .class_ 8), (1, u "java/lang/Object"), (0, u "<init>"), (0, u "()V"), (0, .methodref 12 13), (0, .class_ 14), (0, .nameAndType 15 16), (0, u "java/lang/StringUTF16"), (0, u "newBytesLength"), (0, u "(I)I"), (3, .integer 1073741823), (23, .fieldref 12 45), (0, .nameAndType 46 47), (0, u "$assertionsDisabled"), (0, u "Z"), (0, .methodref 12 49), (0, .nameAndType 50 51), (0, u "length"), (0, u "([B)I"), (7, .fieldref 12 60), (0, .nameAndType 61 62), (0, u "HI_BYTE_SHIFT"), (0, u "I"), (0, .fieldref 12 64), (0, .nameAndType 65 62), (0, u "LO_BYTE_SHIFT"), (5, .methodref 12 72), (0, .nameAndType 73 74), (0, u "getChar"), (0, u "([BI)C"), (24, u "(II[B)V"), (5, u "getChars"), (0, u "([BII[CI)V"), (0, .methodref 12 108), (0, .nameAndType 109 110), (0, u "newBytesFor"), (0, u "(I)[B"), (0, .methodref 12 112), (0, .nameAndType 113 114), (0, u "putChar"), (0, u "([BII)V"), (0, .methodref 12 116), (0, .nameAndType 117 118), (0, u "compress"), (0, u "([CI[BII)I"), (0, .methodref 12 120), (0, .nameAndType 121 122), (0, u "toBytes"), (0, u "([CII)[B"), (50, .methodref 12 174), (0, .nameAndType 175 99), (0, u "checkBoundsOffCount"), (85, u "coderFromArrayLen"), (0, u "([BI)B"), (18, u "(III)I"), (87, .class_ 371), (1, u "java/lang/StringUTF16$LinesSpliterator"), (47, .methodref 3 420), (0, .nameAndType 175 281), (9, u "MAX_LENGTH"), (196, .class_ 628), (0, u "java/lang/StringUTF16$CodePointsSpliterator"), (0, .class_ 630), (0, u "java/lang/StringUTF16$CharsSpliterator")] 4

def k17m0 : Method := { name := "<init>", desc := "()V", sig := { parameters := [], returnType := none }, accessFlags := 0, code := none }
def k17c1 : Code := { maxStack := 1, maxLocals := 1, code := jdk_52_method_2_code, exceptionTable := #[], attributes := #[] }
def k17m1 : Method := { name := "newBytesFor", desc := "(I)[B", sig := { parameters := [.int], returnType := some (.array .byte) }, accessFlags := 9, code := some k17c1 }
def k17c2 : Code := { maxStack := 4, maxLocals := 1, code := jdk_52_method_3_code, exceptionTable := #[], attributes := #[] }
def k17m2 : Method := { name := "newBytesLength", desc := "(I)I", sig := { parameters := [.int], returnType := some .int }, accessFlags := 9, code := some k17c2 }
def k17c3 : Code := { maxStack := 4, maxLocals := 3, code := jdk_52_method_4_code, exceptionTable := #[], attributes := #[] }
def k17m3 : Method := { name := "putChar", desc := "([BII)V", sig := { parameters := [(.array .byte), .int, .int], returnType := none }, accessFlags := 8, code := some k17c3 }
def k17c4 : Code := { maxStack := 3, maxLocals := 2, code := jdk_52_method_5_code, exceptionTable := #[], attributes := #[] }
def k17m4 : Method := { name := "getChar", desc := "([BI)C", sig := { parameters := [(.array .byte), .int], returnType := some .char }, accessFlags := 8, code := some k17c4 }
def k17c5 : Code := { maxStack := 2, maxLocals := 1, code := jdk_52_method_6_code, exceptionTable := #[], attributes := #[] }
def k17m5 : Method := { name := "length", desc := "([B)I", sig := { parameters := [(.array .byte)], returnType := some .int }, accessFlags := 9, code := some k17c5 }
def k17c6 : Code := { maxStack := 4, maxLocals := 5, code := jdk_52_method_14_code, exceptionTable := #[], attributes := #[] }
def k17m6 : Method := { name := "toBytes", desc := "([CII)[B", sig := { parameters := [(.array .char), .int, .int], returnType := some (.array .byte) }, accessFlags := 9, code := some k17c6 }
def k17c7 : Code := { maxStack := 2, maxLocals := 2, code := jdk_52_method_15_code, exceptionTable := #[], attributes := #[] }
def k17m7 : Method := { name := "coderFromArrayLen", desc := "([BI)B", sig := { parameters := [(.array .byte), .int], returnType := some .byte }, accessFlags := 8, code := some k17c7 }
def k17c8 : Code := { maxStack := 5, maxLocals := 6, code := jdk_52_method_16_code, exceptionTable := #[], attributes := #[] }
def k17m8 : Method := { name := "compress", desc := "([CII)[B", sig := { parameters := [(.array .char), .int, .int], returnType := some (.array .byte) }, accessFlags := 9, code := some k17c8 }
def k17c9 : Code := { maxStack := 3, maxLocals := 7, code := jdk_52_method_21_code, exceptionTable := #[], attributes := #[] }
def k17m9 : Method := { name := "compress", desc := "([CI[BII)I", sig := { parameters := [(.array .char), .int, (.array .byte), .int, .int], returnType := some .int }, accessFlags := 9, code := some k17c9 }
def k17c10 : Code := { maxStack := 4, maxLocals := 6, code := jdk_52_method_26_code, exceptionTable := #[], attributes := #[] }
def k17m10 : Method := { name := "getChars", desc := "([BII[CI)V", sig := { parameters := [(.array .byte), .int, .int, (.array .char), .int], returnType := none }, accessFlags := 9, code := some k17c10 }
def k17c11 : Code := { maxStack := 3, maxLocals := 3, code := jdk_52_method_94_code, exceptionTable := #[], attributes := #[] }
def k17m11 : Method := { name := "checkBoundsOffCount", desc := "(II[B)V", sig := { parameters := [.int, .int, (.array .byte)], returnType := none }, accessFlags := 9, code := some k17c11 }
/-- java/lang/StringUTF16 -/
def k17 : Class := { plain "java/lang/StringUTF16" (some 0) with
  accessFlags := 48
  interfaces := #[]
  cf := some (fileOf pool17 12 #[.nestMembers #[627, 629, 369]] #[{ accessFlags := 0, nameIndex := 9, descriptorIndex := 10, attributes := #[] }, { accessFlags := 9, nameIndex := 109, descriptorIndex := 110, attributes := #[] }, { accessFlags := 9, nameIndex := 15, descriptorIndex := 16, attributes := #[] }, { accessFlags := 8, nameIndex := 113, descriptorIndex := 114, attributes := #[] }, { accessFlags := 8, nameIndex := 73, descriptorIndex := 74, attributes := #[] }, { accessFlags := 9, nameIndex := 50, descriptorIndex := 51, attributes := #[] }, { accessFlags := 9, nameIndex := 121, descriptorIndex := 122, attributes := #[] }, { accessFlags := 8, nameIndex := 261, descriptorIndex := 262, attributes := #[] }, { accessFlags := 9, nameIndex := 117, descriptorIndex := 122, attributes := #[] }, { accessFlags := 9, nameIndex := 117, descriptorIndex := 118, attributes := #[] }, { accessFlags := 9, nameIndex := 105, descriptorIndex := 106, attributes := #[] }, { accessFlags := 9, nameIndex := 175, descriptorIndex := 99, attributes := #[] }] 48 6 #[] #[{ accessFlags := 26, nameIndex := 61, descriptorIndex := 62, attributes := #[] }, { accessFlags := 26, nameIndex := 65, descriptorIndex := 62, attributes := #[] }, { accessFlags := 24, nameIndex := 430, descriptorIndex := 62, attributes := #[] }, { accessFlags := 4120, nameIndex := 46, descriptorIndex := 47, attributes := #[] }])
  fields := #[{ name := "HI_BYTE_SHIFT", type := .int, accessFlags := 26, slot := 0, constantValue := 0 }, { name := "LO_BYTE_SHIFT", type := .int, accessFlags := 26, slot := 1, constantValue := 0 }, { name := "MAX_LENGTH", type := .int, accessFlags := 24, slot := 2, constantValue := 0 }, { name := "$assertionsDisabled", type := .boolean, accessFlags := 4120, slot := 3, constantValue := 0 }]
  methods := #[k17m0, k17m1, k17m2, k17m3, k17m4, k17m5, k17m6, k17m7, k17m8, k17m9, k17m10, k17m11]
  instanceTypes := #[]
  staticTypes := #[.int, .int, .int, .boolean]
  resolved := Array.replicate 635 none
  statics := some 2 }

def pool18 : Array CpInfo := pool [(1, .class_ 2), (0, u "java/lang/Math"), (1, .class_ 6), (1, u "java/lang/Object"), (0, u "<init>"), (0, u "()V"), (89, .class_ 100), (1, u "java/lang/Math$RandomNumberGeneratorHolder"), (71, u "negativeZeroFloatBits"), (0, u "J"), (2, u "negativeZeroDoubleBits"), (21, u "max"), (46, u "$assertionsDisabled"), (0, u "Z"), (88, u "(II)I"), (2, u "twoToTheDoubleScaleDown"), (0, u "D"), (4, u "twoToTheDoubleScaleUp"), (9, u "E"), (3, u "PI"), (2, u "TAU"), (2, u "DEGREES_TO_RADIANS"), (0, u "RADIANS_TO_DEGREES")] 94

def k18m0 : Method := { name := "<init>", desc := "()V", sig := { parameters := [], returnType := none }, accessFlags := 2, code := none }
def k18c1 : Code := { maxStack := 2, maxLocals := 2, code := jdk_29_method_65_code, exceptionTable := #[], attributes := #[] }
def k18m1 : Method := { name := "max", desc := "(II)I", sig := { parameters := [.int, .int], returnType := some .int }, accessFlags := 9, code := some k18c1 }
/-- java/lang/Math -/
def k18 : Class := { plain "java/lang/Math" (some 0) with
  accessFlags := 49
  interfaces := #[]
  cf := some (fileOf pool18 1 #[.nestMembers #[98]] #[{ accessFlags := 2, nameIndex := 7, descriptorIndex := 8, attributes := #[] }, { accessFlags := 9, nameIndex := 198, descriptorIndex := 335, attributes := #[] }] 49 4 #[] #[{ accessFlags := 25, nameIndex := 354, descriptorIndex := 339, attributes := #[] }, { accessFlags := 25, nameIndex := 358, descriptorIndex := 339, attributes := #[] }, { accessFlags := 25, nameIndex := 361, descriptorIndex := 339, attributes := #[] }, { accessFlags := 26, nameIndex := 364, descriptorIndex := 339, attributes := #[] }, { accessFlags := 26, nameIndex := 365, descriptorIndex := 339, attributes := #[] }, { accessFlags := 26, nameIndex := 172, descriptorIndex := 173, attributes := #[] }, { accessFlags := 26, nameIndex := 176, descriptorIndex := 173, attributes := #[] }, { accessFlags := 8, nameIndex := 344, descriptorIndex := 339, attributes := #[] }, { accessFlags := 8, nameIndex := 338, descriptorIndex := 339, attributes := #[] }, { accessFlags := 4120, nameIndex := 245, descriptorIndex := 246, attributes := #[] }])
  fields := #[{ name := "E", type := .double, accessFlags := 25, slot := 0, constantValue := 0 }, { name := "PI", type := .double, accessFlags := 25, slot := 1, constantValue := 0 }, { name := "TAU", type := .double, accessFlags := 25, slot := 2, constantValue := 0 }, { name := "DEGREES_TO_RADIANS", type := .double, accessFlags := 26, slot := 3, constantValue := 0 }, { name := "RADIANS_TO_DEGREES", type := .double, accessFlags := 26, slot := 4, constantValue := 0 }, { name := "negativeZeroFloatBits", type := .long, accessFlags := 26, slot := 5, constantValue := 0 }, { name := "negativeZeroDoubleBits", type := .long, accessFlags := 26, slot := 6, constantValue := 0 }, { name := "twoToTheDoubleScaleUp", type := .double, accessFlags := 8, slot := 7, constantValue := 0 }, { name := "twoToTheDoubleScaleDown", type := .double, accessFlags := 8, slot := 8, constantValue := 0 }, { name := "$assertionsDisabled", type := .boolean, accessFlags := 4120, slot := 9, constantValue := 0 }]
  methods := #[k18m0, k18m1]
  instanceTypes := #[]
  staticTypes := #[.double, .double, .double, .double, .double, .long, .long, .double, .double, .boolean]
  resolved := Array.replicate 460 none
  statics := none }

def pool19 : Array CpInfo := pool [(1, .methodref 2 3), (0, .class_ 4), (0, .nameAndType 5 6), (0, u "java/lang/Object"), (0, u "<init>"), (0, u "()V"), (0, .interfaceMethodref 8 9), (0, .class_ 10), (0, .nameAndType 11 12), (0, u "java/util/List"), (0, u "size"), (0, u "()I"), (0, .fieldref 14 15), (0, .class_ 16), (0, .nameAndType 17 18), (0, u "com/example/even_roster/evenroster/scim/SortedSuffixes"), (0, u "starts"), (0, u "[I"), (0, .interfaceMethodref 8 20), (0, .nameAndType 21 22), (0, u "get"), (0, u "(I)Ljava/lang/Object;"), (0, .class_ 24), (0, u "java/lang/String"), (0, .methodref 23 26), (0, .nameAndType 27 12), (0, u "length"), (0, .fieldref 14 29), (0, .nameAndType 30 31), (0, u "chars"), (0, u "[C"), (0, .methodref 23 33), (0, .nameAndType 34 35), (0, u "getChars"), (0, u "(II[CI)V"), (0, .methodref 14 37), (0, .nameAndType 38 39), (0, u "sort"), (0, u "([C[I)[I"), (0, .fieldref 14 41), (0, .nameAndType 42 18), (0, u "sorted"), (5, u "(I)I"), (3, .methodref 14 53), (0, .nameAndType 54 48), (0, u "textHolding"), (4, .methodref 60 61), (0, .class_ 62), (0, .nameAndType 63 64), (0, u "java/util/Arrays"), (0, u "fill"), (0, u "([IIII)V"), (2, u "valuesAt"), (0, u "([III)[I"), (4, .class_ 75), (1, u "java/lang/Math"), (1, u "(II)I"), (4, .methodref 73 83), (0, .nameAndType 84 77), (0, u "max"), (0, .methodref 14 86), (0, .nameAndType 87 88), (0, u "byRank"), (0, u "([I[II[I[I)V"), (0, .methodref 14 90), (0, .nameAndType 91 92), (0, u "isSortedWhole"), (0, u "([I[I[II)Z"), (0, .methodref 14 94), (0, .nameAndType 95 96), (0, u "rankAnew"), (0, u "([I[II[I[I)I"), (0, u "(Ljava/util/List;)V"), (8, u "textAt")] 7

def k19c0 : Code := { maxStack := 6, maxLocals := 3, code := prog_11_method_1_code, exceptionTable := #[], attributes := #[] }
def k19m0 : Method := { name := "<init>", desc := "(Ljava/util/List;)V", sig := { parameters := [(.object "java/util/List")], returnType := none }, accessFlags := 0, code := some k19c0 }
def k19c1 : Code := { maxStack := 3, maxLocals := 2, code := prog_11_method_5_code, exceptionTable := #[], attributes := #[] }
def k19m1 : Method := { name := "textAt", desc := "(I)I", sig := { parameters := [.int], returnType := some .int }, accessFlags := 0, code := some k19c1 }
def k19c2 : Code := { maxStack := 5, maxLocals := 7, code := prog_11_method_7_code, exceptionTable := #[], attributes := #[] }
def k19m2 : Method := { name := "valuesAt", desc := "([III)[I", sig := { parameters := [(.array .int), .int, .int], returnType := some (.array .int) }, accessFlags := 0, code := some k19c2 }
def k19c3 : Code := { maxStack := 2, maxLocals := 5, code := prog_11_method_10_code, exceptionTable := #[], attributes := #[] }
def k19m3 : Method := { name := "textHolding", desc := "(I)I", sig := { parameters := [.int], returnType := some .int }, accessFlags := 2, code := some k19c3 }
def k19c4 : Code := { maxStack := 6, maxLocals := 20, code := prog_11_method_11_code, exceptionTable := #[], attributes := #[] }
def k19m4 : Method := { name := "sort", desc := "([C[I)[I", sig := { parameters := [(.array .char), (.array .int)], returnType := some (.array .int) }, accessFlags := 10, code := some k19c4 }
def k19c5 : Code := { maxStack := 3, maxLocals := 7, code := prog_11_method_12_code, exceptionTable := #[], attributes := #[] }
def k19m5 : Method := { name := "isSortedWhole", desc := "([I[I[II)Z", sig := { parameters := [(.array .int), (.array .int), (.array .int), .int], returnType := some .boolean }, accessFlags := 10, code := some k19c5 }
def k19c6 : Code := { maxStack := 6, maxLocals := 9, code := prog_11_method_13_code, exceptionTable := #[], attributes := #[] }
def k19m6 : Method := { name := "byRank", desc := "([I[II[I[I)V", sig := { parameters := [(.array .int), (.array .int), .int, (.array .int), (.array .int)], returnType := none }, accessFlags := 10, code := some k19c6 }
def k19c7 : Code := { maxStack := 3, maxLocals := 11, code := prog_11_method_14_code, exceptionTable := #[], attributes := #[] }
def k19m7 : Method := { name := "rankAnew", desc := "([I[II[I[I)I", sig := { parameters := [(.array .int), (.array .int), .int, (.array .int), (.array .int)], returnType := some .int }, accessFlags := 10, code := some k19c7 }
/-- com/example/even_roster/evenroster/scim/SortedSuffixes -/
def k19 : Class := { plain "com/example/even_roster/evenroster/scim/SortedSuffixes" (some 0) with
  accessFlags := 48
  interfaces := #[]
  cf := some (fileOf pool19 14 #[] #[{ accessFlags := 0, nameIndex := 5, descriptorIndex := 97, attributes := #[] }, { accessFlags := 0, nameIndex := 106, descriptorIndex := 48, attributes := #[] }, { accessFlags := 0, nameIndex := 67, descriptorIndex := 68, attributes := #[] }, { accessFlags := 2, nameIndex := 54, descriptorIndex := 48, attributes := #[] }, { accessFlags := 10, nameIndex := 38, descriptorIndex := 39, attributes := #[] }, { accessFlags := 10, nameIndex := 91, descriptorIndex := 92, attributes := #[] }, { accessFlags := 10, nameIndex := 87, descriptorIndex := 88, attributes := #[] }, { accessFlags := 10, nameIndex := 95, descriptorIndex := 96, attributes := #[] }] 48 2 #[] #[{ accessFlags := 18, nameIndex := 30, descriptorIndex := 31, attributes := #[] }, { accessFlags := 18, nameIndex := 17, descriptorIndex := 18, attributes := #[] }, { accessFlags := 18, nameIndex := 42, descriptorIndex := 18, attributes := #[] }])
  fields := #[{ name := "chars", type := (.array .char), accessFlags := 18, slot := 0, constantValue := 0 }, { name := "starts", type := (.array .int), accessFlags := 18, slot := 1, constantValue := 0 }, { name := "sorted", type := (.array .int), accessFlags := 18, slot := 2, constantValue := 0 }]
  methods := #[k19m0, k19m1, k19m2, k19m3, k19m4, k19m5, k19m6, k19m7]
  instanceTypes := #[(.array .char), (.array .int), (.array .int)]
  staticTypes := #[]
  resolved := Array.replicate 114 none
  statics := none }

def pool20 : Array CpInfo := pool [(2, .class_ 4), (1, u "java/lang/Object"), (0, u "<init>"), (0, u "()V"), (35, .class_ 44), (1, u "java/util/Objects"), (60, .methodref 106 107), (0, .class_ 108), (0, .nameAndType 109 110), (0, u "jdk/internal/util/Preconditions"), (0, u "checkIndex"), (0, u "(IILjava/util/function/BiFunction;)I"), (60, u "(II)I")] 12

def k20m0 : Method := { name := "<init>", desc := "()V", sig := { parameters := [], returnType := none }, accessFlags := 2, code := none }
def k20c1 : Code := { maxStack := 3, maxLocals := 2, code := jdk_31_method_17_code, exceptionTable := #[], attributes := #[] }
def k20m1 : Method := { name := "checkIndex", desc := "(II)I", sig := { parameters := [.int, .int], returnType := some .int }, accessFlags := 9, code := some k20c1 }
/-- java/util/Objects -/
def k20 : Class := { plain "java/util/Objects" (some 0) with
  accessFlags := 49
  interfaces := #[]
  cf := some (fileOf pool20 42 #[] #[{ accessFlags := 2, nameIndex := 5, descriptorIndex := 6, attributes := #[] }, { accessFlags := 9, nameIndex := 109, descriptorIndex := 171, attributes := #[] }] 49 2 #[] #[])
  fields := #[]
  methods := #[k20m0, k20m1]
  instanceTypes := #[]
  staticTypes := #[]
  resolved := Array.replicate 184 none
  statics := none }

def pool21 : Array CpInfo := pool [(2, .class_ 4), (1, u "java/lang/Object"), (0, u "<init>"), (0, u "()V"), (17, .class_ 26), (1, u "jdk/internal/util/Preconditions"), (6, u "checkIndex"), (13, u "checkFromToIndex"), (1, u "checkFromIndexSize"), (5, .class_ 56), (0, u "jdk/internal/util/Preconditions$4"), (57, .class_ 115), (0, u "jdk/internal/util/Preconditions$1"), (7, u "SIOOBE_FORMATTER"), (0, u "Ljava/util/function/BiFunction;"), (0, .class_ 126), (0, u "jdk/internal/util/Preconditions$2"), (3, u "AIOOBE_FORMATTER"), (0, .class_ 132), (0, u "jdk/internal/util/Preconditions$3"), (3, u "IOOBE_FORMATTER"), (41, u "(IILjava/util/function/BiFunction;)I"), (4, u "(IIILjava/util/function/BiFunction;)I")] 10

def k21m0 : Method := { name := "<init>", desc := "()V", sig := { parameters := [], returnType := none }, accessFlags := 1, code := none }
def k21c1 : Code := { maxStack := 3, maxLocals := 3, code := jdk_41_method_11_code, exceptionTable := #[], attributes := #[] }
def k21m1 : Method := { name := "checkIndex", desc := "(IILjava/util/function/BiFunction;)I", sig := { parameters := [.int, .int, (.object "java/util/function/BiFunction")], returnType := some .int }, accessFlags := 9, code := some k21c1 }
def k21c2 : Code := { maxStack := 4, maxLocals := 4, code := jdk_41_method_12_code, exceptionTable := #[], attributes := #[] }
def k21m2 : Method := { name := "checkFromToIndex", desc := "(IIILjava/util/function/BiFunction;)I", sig := { parameters := [.int, .int, .int, (.object "java/util/function/BiFunction")], returnType := some .int }, accessFlags := 9, code := some k21c2 }
def k21c3 : Code := { maxStack := 4, maxLocals := 4, code := jdk_41_method_13_code, exceptionTable := #[], attributes := #[] }
def k21m3 : Method := { name := "checkFromIndexSize", desc := "(IIILjava/util/function/BiFunction;)I", sig := { parameters := [.int, .int, .int, (.object "java/util/function/BiFunction")], returnType := some .int }, accessFlags := 9, code := some k21c3 }
/-- jdk/internal/util/Preconditions -/
def k21 : Class := { plain "jdk/internal/util/Preconditions" (some 0) with
  accessFlags := 33
  interfaces := #[]
  cf := some (fileOf pool21 24 #[.nestMembers #[55, 131, 125, 114]] #[{ accessFlags := 1, nameIndex := 5, descriptorIndex := 6, attributes := #[] }, { accessFlags := 9, nameIndex := 33, descriptorIndex := 178, attributes := #[] }, { accessFlags := 9, nameIndex := 47, descriptorIndex := 183, attributes := #[] }, { accessFlags := 9, nameIndex := 49, descriptorIndex := 183, attributes := #[] }] 33 2 #[] #[{ accessFlags := 25, nameIndex := 123, descriptorIndex := 124, attributes := #[] }, { accessFlags := 25, nameIndex := 130, descriptorIndex := 124, attributes := #[] }, { accessFlags := 25, nameIndex := 136, descriptorIndex := 124, attributes := #[] }])
  fields := #[{ name := "SIOOBE_FORMATTER", type := (.object "java/util/function/BiFunction"), accessFlags := 25, slot := 0, constantValue := 0 }, { name := "AIOOBE_FORMATTER", type := (.object "java/util/function/BiFunction"), accessFlags := 25, slot := 1, constantValue := 0 }, { name := "IOOBE_FORMATTER", type := (.object "java/util/function/BiFunction"), accessFlags := 25, slot := 2, constantValue := 0 }]
  methods := #[k21m0, k21m1, k21m2, k21m3]
  instanceTypes := #[]
  staticTypes := #[(.object "java/util/function/BiFunction"), (.object "java/util/function/BiFunction"), (.object "java/util/function/BiFunction")]
  resolved := Array.replicate 194 none
  statics := some 3 }

def pool22 : Array CpInfo := pool [(4, .class_ 6), (1, u "java/lang/Object"), (0, u "<init>"), (0, u "()V"), (4, .methodref 14 15), (0, .class_ 16), (0, .nameAndType 17 18), (0, u "java/lang/StringLatin1"), (0, u "inflate"), (0, u "([BI[CII)V"), (102, u "$assertionsDisabled"), (0, u "Z"), (98, .class_ 223), (1, u "java/lang/StringLatin1$LinesSpliterator"), (50, u "getChars"), (0, u "([BII[CI)V"), (114, .class_ 391), (0, u "java/lang/StringLatin1$CharsSpliterator")] 3

def k22m0 : Method := { name := "<init>", desc := "()V", sig := { parameters := [], returnType := none }, accessFlags := 0, code := none }
def k22c1 : Code := { maxStack := 6, maxLocals := 5, code := jdk_43_method_11_code, exceptionTable := #[], attributes := #[] }
def k22m1 : Method := { name := "getChars", desc := "([BII[CI)V", sig := { parameters := [(.array .byte), .int, .int, (.array .char), .int], returnType := none }, accessFlags := 9, code := some k22c1 }
def k22c2 : Code := { maxStack := 4, maxLocals := 6, code := jdk_43_method_49_code, exceptionTable := #[], attributes := #[] }
def k22m2 : Method := { name := "inflate", desc := "([BI[CII)V", sig := { parameters := [(.array .byte), .int, (.array .char), .int, .int], returnType := none }, accessFlags := 9, code := some k22c2 }
/-- java/lang/StringLatin1 -/
def k22 : Class := { plain "java/lang/StringLatin1" (some 0) with
  accessFlags := 48
  interfaces := #[]
  cf := some (fileOf pool22 14 #[.nestMembers #[390, 221]] #[{ accessFlags := 0, nameIndex := 7, descriptorIndex := 8, attributes := #[] }, { accessFlags := 9, nameIndex := 274, descriptorIndex := 275, attributes := #[] }, { accessFlags := 9, nameIndex := 17, descriptorIndex := 18, attributes := #[] }] 48 4 #[] #[{ accessFlags := 4120, nameIndex := 121, descriptorIndex := 122, attributes := #[] }])
  fields := #[{ name := "$assertionsDisabled", type := .boolean, accessFlags := 4120, slot := 0, constantValue := 0 }]
  methods := #[k22m0, k22m1, k22m2]
  instanceTypes := #[]
  staticTypes := #[.boolean]
  resolved := Array.replicate 395 none
  statics := none }

def pool23 : Array CpInfo := pool [(2, .class_ 4), (1, u "java/lang/Object"), (0, u "<init>"), (0, u "()V"), (5, u "([IIII)V"), (0, .methodref 14 15), (0, .class_ 16), (0, .nameAndType 17 18), (0, u "java/util/Arrays"), (0, u "rangeCheck"), (0, u "(III)V"), (55, .class_ 76), (1, u "java/util/Arrays$NaturalOrder"), (36, .class_ 115), (1, u "java/util/Arrays$LegacyMergeSort"), (1, u "Z"), (257, .class_ 376), (0, u "java/util/Arrays$ArrayList"), (68, u "$assertionsDisabled"), (269, u "MIN_ARRAY_SORT_GRAN"), (0, u "I"), (2, u "INSERTIONSORT_THRESHOLD"), (120, u "fill"), (134, .class_ 976), (0, u "java/util/Arrays$ArrayItr")] 52

def k23m0 : Method := { name := "<init>", desc := "()V", sig := { parameters := [], returnType := none }, accessFlags := 2, code := none }
def k23c1 : Code := { maxStack := 4, maxLocals := 3, code := jdk_65_method_30_code, exceptionTable := #[], attributes := #[] }
def k23m1 : Method := { name := "rangeCheck", desc := "(III)V", sig := { parameters := [.int, .int, .int], returnType := none }, accessFlags := 8, code := some k23c1 }
def k23c2 : Code := { maxStack := 3, maxLocals := 5, code := jdk_65_method_104_code, exceptionTable := #[], attributes := #[] }
def k23m2 : Method := { name := "fill", desc := "([IIII)V", sig := { parameters := [(.array .int), .int, .int, .int], returnType := none }, accessFlags := 9, code := some k23c2 }
/-- java/util/Arrays -/
def k23 : Class := { plain "java/util/Arrays" (some 0) with
  accessFlags := 49
  interfaces := #[]
  cf := some (fileOf pool23 14 #[.nestMembers #[975, 375, 113, 74]] #[{ accessFlags := 2, nameIndex := 5, descriptorIndex := 6, attributes := #[] }, { accessFlags := 8, nameIndex := 17, descriptorIndex := 18, attributes := #[] }, { accessFlags := 9, nameIndex := 840, descriptorIndex := 12, attributes := #[] }] 49 2 #[] #[{ accessFlags := 26, nameIndex := 715, descriptorIndex := 716, attributes := #[] }, { accessFlags := 26, nameIndex := 719, descriptorIndex := 716, attributes := #[] }, { accessFlags := 4120, nameIndex := 445, descriptorIndex := 117, attributes := #[] }])
  fields := #[{ name := "MIN_ARRAY_SORT_GRAN", type := .int, accessFlags := 26, slot := 0, constantValue := 0 }, { name := "INSERTIONSORT_THRESHOLD", type := .int, accessFlags := 26, slot := 1, constantValue := 0 }, { name := "$assertionsDisabled", type := .boolean, accessFlags := 4120, slot := 2, constantValue := 0 }]
  methods := #[k23m0, k23m1, k23m2]
  instanceTypes := #[]
  staticTypes := #[.int, .int, .boolean]
  resolved := Array.replicate 1029 none
  statics := none }

def pool24 : Array CpInfo := pool [(9, u "<init>"), (6, .class_ 18), (1, u "java/lang/Object"), (0, u "()V"), (1, .class_ 23), (1, u "jdk/internal/util/ArraysSupport"), (0, u "LOG2_ARRAY_LONG_INDEX_SCALE"), (0, u "I"), (2, u "U"), (0, u "Ljdk/internal/misc/Unsafe;"), (8, u "BIG_ENDIAN"), (0, u "Z"), (8, u "LOG2_BYTE_BIT_SIZE"), (4, u "LOG2_ARRAY_INT_INDEX_SCALE"), (54, u "JLA"), (0, u "Ljdk/internal/access/JavaLangAccess;"), (11, u "LOG2_ARRAY_BOOLEAN_INDEX_SCALE"), (9, u "LOG2_ARRAY_BYTE_INDEX_SCALE"), (5, u "LOG2_ARRAY_CHAR_INDEX_SCALE"), (5, u "LOG2_ARRAY_SHORT_INDEX_SCALE"), (18, u "LOG2_ARRAY_FLOAT_INDEX_SCALE"), (24, u "LOG2_ARRAY_DOUBLE_INDEX_SCALE"), (89, u "T_BOOLEAN"), (2, u "T_CHAR"), (1, u "T_FLOAT"), (1, u "T_DOUBLE"), (1, u "T_BYTE"), (1, u "T_SHORT"), (1, u "T_INT"), (1, u "T_LONG"), (1, u "SOFT_MAX_ARRAY_LENGTH")] 83

def k24m0 : Method := { name := "<init>", desc := "()V", sig := { parameters := [], returnType := none }, accessFlags := 2, code := none }
/-- jdk/internal/util/ArraysSupport -/
def k24 : Class := { plain "jdk/internal/util/ArraysSupport" (some 0) with
  accessFlags := 33
  interfaces := #[]
  cf := some (fileOf pool24 21 #[] #[{ accessFlags := 2, nameIndex := 9, descriptorIndex := 19, attributes := #[] }] 33 16 #[] #[{ accessFlags := 24, nameIndex := 28, descriptorIndex := 29, attributes := #[] }, { accessFlags := 26, nameIndex := 38, descriptorIndex := 39, attributes := #[] }, { accessFlags := 25, nameIndex := 121, descriptorIndex := 25, attributes := #[] }, { accessFlags := 25, nameIndex := 131, descriptorIndex := 25, attributes := #[] }, { accessFlags := 25, nameIndex := 137, descriptorIndex := 25, attributes := #[] }, { accessFlags := 25, nameIndex := 143, descriptorIndex := 25, attributes := #[] }, { accessFlags := 25, nameIndex := 53, descriptorIndex := 25, attributes := #[] }, { accessFlags := 25, nameIndex := 24, descriptorIndex := 25, attributes := #[] }, { accessFlags := 25, nameIndex := 162, descriptorIndex := 25, attributes := #[] }, { accessFlags := 25, nameIndex := 187, descriptorIndex := 25, attributes := #[] }, { accessFlags := 26, nameIndex := 48, descriptorIndex := 25, attributes := #[] }, { accessFlags := 25, nameIndex := 277, descriptorIndex := 25, attributes := #[] }, { accessFlags := 25, nameIndex := 280, descriptorIndex := 25, attributes := #[] }, { accessFlags := 25, nameIndex := 282, descriptorIndex := 25, attributes := #[] }, { accessFlags := 25, nameIndex := 284, descriptorIndex := 25, attributes := #[] }, { accessFlags := 25, nameIndex := 286, descriptorIndex := 25, attributes := #[] }, { accessFlags := 25, nameIndex := 288, descriptorIndex := 25, attributes := #[] }, { accessFlags := 25, nameIndex := 290, descriptorIndex := 25, attributes := #[] }, { accessFlags := 25, nameIndex := 292, descriptorIndex := 25, attributes := #[] }, { accessFlags := 26, nameIndex := 108, descriptorIndex := 109, attributes := #[] }, { accessFlags := 25, nameIndex := 294, descriptorIndex := 25, attributes := #[] }])
  fields := #[{ name := "U", type := (.object "jdk/internal/misc/Unsafe"), accessFlags := 24, slot := 0, constantValue := 0 }, { name := "BIG_ENDIAN", type := .boolean, accessFlags := 26, slot := 1, constantValue := 0 }, { name := "LOG2_ARRAY_BOOLEAN_INDEX_SCALE", type := .int, accessFlags := 25, slot := 2, constantValue := 0 }, { name := "LOG2_ARRAY_BYTE_INDEX_SCALE", type := .int, accessFlags := 25, slot := 3, constantValue := 0 }, { name := "LOG2_ARRAY_CHAR_INDEX_SCALE", type := .int, accessFlags := 25, slot := 4, constantValue := 0 }, { name := "LOG2_ARRAY_SHORT_INDEX_SCALE", type := .int, accessFlags := 25, slot := 5, constantValue := 0 }, { name := "LOG2_ARRAY_INT_INDEX_SCALE", type := .int, accessFlags := 25, slot := 6, constantValue := 0 }, { name := "LOG2_ARRAY_LONG_INDEX_SCALE", type := .int, accessFlags := 25, slot := 7, constantValue := 0 }, { name := "LOG2_ARRAY_FLOAT_INDEX_SCALE", type := .int, accessFlags := 25, slot := 8, constantValue := 0 }, { name := "LOG2_ARRAY_DOUBLE_INDEX_SCALE", type := .int, accessFlags := 25, slot := 9, constantValue := 0 }, { name := "LOG2_BYTE_BIT_SIZE", type := .int, accessFlags := 26, slot := 10, constantValue := 0 }, { name := "T_BOOLEAN", type := .int, accessFlags := 25, slot := 11, constantValue := 0 }, { name := "T_CHAR", type := .int, accessFlags := 25, slot := 12, constantValue := 0 }, { name := "T_FLOAT", type := .int, accessFlags := 25, slot := 13, constantValue := 0 }, { name := "T_DOUBLE", type := .int, accessFlags := 25, slot := 14, constantValue := 0 }, { name := "T_BYTE", type := .int, accessFlags := 25, slot := 15, constantValue := 0 }, { name := "T_SHORT", type := .int, accessFlags := 25, slot := 16, constantValue := 0 }, { name := "T_INT", type := .int, accessFlags := 25, slot := 17, constantValue := 0 }, { name := "T_LONG", type := .int, accessFlags := 25, slot := 18, constantValue := 0 }, { name := "JLA", type := (.object "jdk/internal/access/JavaLangAccess"), accessFlags := 26, slot := 19, constantValue := 0 }, { name := "SOFT_MAX_ARRAY_LENGTH", type := .int, accessFlags := 25, slot := 20, constantValue := 0 }]
  methods := #[k24m0]
  instanceTypes := #[]
  staticTypes := #[(.object "jdk/internal/misc/Unsafe"), .boolean, .int, .int, .int, .int, .int, .int, .int, .int, .int, .int, .int, .int, .int, .int, .int, .int, .int, (.object "jdk/internal/access/JavaLangAccess"), .int]
  resolved := Array.replicate 378 none
  statics := none }

/-- the primitive byte -/
def k25 : Class := { plain "byte" none with kind := .primitive 'B', accessFlags := 0x411 }
/-- [B -/
def k26 : Class := { plain "[B" (some 0) with kind := .array 25 .byte, interfaces := #[9, 10], accessFlags := 1041 }

/-- the primitive char -/
def k27 : Class := { plain "char" none with kind := .primitive 'C', accessFlags := 0x411 }
/-- [C -/
def k28 : Class := { plain "[C" (some 0) with kind := .array 27 .char, interfaces := #[9, 10], accessFlags := 1041 }

/-- the primitive int -/
def k29 : Class := { plain "int" none with kind := .primitive 'I', accessFlags := 0x411 }
/-- [I -/
def k30 : Class := { plain "[I" (some 0) with kind := .array 29 .int, interfaces := #[9, 10], accessFlags := 1041 }

/-- [Ljava/lang/Object; -/
def k31 : Class := { plain "[Ljava/lang/Object;" (some 0) with kind := .array 0 (.object "java/lang/Object"), interfaces := #[9, 10], accessFlags := 1041 }

def heap : Heap := #[{ cls := 11, slots := #[.long 0, .int 0, .ref 4, .ref 5], vm := .statics 11 },
  { cls := 16, slots := #[.long 0, .int 1, .null, .int 0, .null, .int 0, .int 0], vm := .statics 16 },
  { cls := 17, slots := #[.int 0, .int 8, .int 0, .int 1], vm := .statics 17 },
  { cls := 21, slots := #[.null, .null, .null], vm := .statics 21 },
  { cls := 31, slots := #[], vm := .none },
  { cls := 31, slots := #[], vm := .none }]
def classes : Array Class := #[k0, k1, k2, k3, k4, k5, k6, k7, k8, k9, k10, k11, k12, k13, k14, k15, k16, k17, k18, k19, k20, k21, k22, k23, k24, k25, k26, k27, k28, k29, k30, k31]
def interned : List (Array UInt16 × Addr) := []
def slotsUsed : Nat := 18
def theMethod : MethodId := ⟨1, 1⟩
def args0 : Array Value := #[.int 5, .int 5, .int 5, .int 5, .int 5, .long 5]
def aboutOver (below : List Frame) : State where
  vm := { classes := classes, interned := interned.toArray }
  heap := heap
  slotsUsed := slotsUsed
  threads := #[{ frames := .invoking theMethod args0 :: below }]
def below0 : List Frame := [.native { method := ⟨0, 0⟩, args := #[] }]
def about1 : State := aboutOver below0
def p0 : Program := .bare "" "" ""
def e0 : Env := launch0.env 0 0 0
theorem w_frames : about1.frames = Frame.invoking theMethod args0 :: below0 := rfl
set_option maxRecDepth 65536 in
theorem w_args : argsFit about1.vm theMethod args0 = true := by decide +kernel
set_option maxRecDepth 65536 in
theorem w_heap : heapFits about1 = true := by decide +kernel
set_option maxRecDepth 65536 in
theorem w_runnable : about1.curStatus? = some .runnable := by decide +kernel
set_option maxRecDepth 65536 in
theorem w_alone : about1.alone = true := by decide +kernel
set_option maxRecDepth 65536 in
theorem w_named : about1.methodNamed? x = some theMethod := by decide +kernel
set_option maxRecDepth 65536 in
theorem w_hears : about1.hears theMethod below0 = true := by decide +kernel
set_option maxRecDepth 65536 in
theorem w_ripe : about1.ripe theMethod args0 below0 = true := by decide +kernel
theorem w_running : about1.status = .running := rfl
set_option maxRecDepth 65536 in
theorem w_room : about1.hasRoom e0.platform room_1 = true :=
  launch0.hasRoom_least _ room_1 (by decide +kernel) (by decide +kernel) (by decide +kernel) (by decide +kernel) (by decide +kernel) (by decide +kernel)
theorem allAtoms_all (ts : List Jvm.Cond) (a : Array Jvm.Value) (st : Jvm.State) : (allAtoms ts).before a st = ts.all (fun c => c.before a st) := by
  induction ts with
  | nil => rfl
  | cons c t ih =>
    show (Jvm.Cond.and c (allAtoms t)).before a st = _
    rw [Jvm.Cond.before_and, ih, List.all_cons]
def words1 : List Jvm.Cond := Jvm.Cond.code x code maxLocals ret :: tables_1
/-- a 'code' word, met by the world's own term for the bytes: nothing is compared byte by byte -/
theorem code_word {y : MethodName} {bytes : ByteArray} {mx : Nat} {rt : Option FieldType} {a : Array Value} {s : State} {m : MethodId} {meth : Method} {c : Code} (h1 : s.methodNamed? y = some m) (h2 : s.vm.method? m = some meth) (h3 : meth.code = some c) (h4 : c.code = bytes)
    (h5 : (c.maxLocals == mx && c.exceptionTable.isEmpty && decide (c.maxStack ≤ mostOperands) && decide (meth.sig.returnType = rt) && !meth.locks && decide (parseMethodDescriptor y.desc = some meth.sig)) = true) : (Jvm.Cond.code y bytes mx rt).before a s = true := by
  simp only [Bool.and_eq_true, beq_iff_eq, Bool.not_eq_true', decide_eq_true_eq] at h5
  obtain ⟨⟨⟨⟨⟨g1, g2⟩, g3⟩, g4⟩, g5⟩, g6⟩ := h5
  simp [Cond.before, Cond.holds, Cond.value, h1, h2, h3, h4, g1, g2, g3, g4, g5, g6]
def isCode : Jvm.Cond → Bool
  | .code _ _ _ _ => true
  | _ => false
theorem all_split {L : List Jvm.Cond} {P : Jvm.Cond → Bool} (h1 : L.all (fun c => isCode c || P c) = true) (h2 : ∀ c ∈ L.filter isCode, P c = true) : L.all P = true := by
  refine List.all_eq_true.mpr fun c hc => ?_
  have h := List.all_eq_true.mp h1 c hc
  rcases Bool.eq_false_or_eq_true (isCode c) with hi | hi
  · exact h2 c (List.mem_filter.mpr ⟨hc, hi⟩)
  · simpa [hi] using h
set_option maxRecDepth 65536 in
theorem w_c0 : (Jvm.Cond.code x code maxLocals ret).before args0 about1 = true := code_word (m := ⟨1, 1⟩) (meth := k1m1) (c := k1c1) (by decide +kernel) rfl rfl rfl (by decide +kernel)
set_option maxRecDepth 65536 in
theorem w_c1 : (Jvm.Cond.code ({ cls := "java/util/ArrayList", name := "<init>", desc := "()V" } : Jvm.MethodName) jdk_38_method_2_code (1 : Nat) (Option.none : Option Jvm.ClassFile.FieldType)).before args0 about1 = true := code_word (m := ⟨11, 0⟩) (meth := k11m0) (c := k11c0) (by decide +kernel) rfl rfl rfl (by decide +kernel)
set_option maxRecDepth 65536 in
theorem w_c2 : (Jvm.Cond.code ({ cls := "java/util/AbstractList", name := "<init>", desc := "()V" } : Jvm.MethodName) jdk_39_method_1_code (1 : Nat) (Option.none : Option Jvm.ClassFile.FieldType)).before args0 about1 = true := code_word (m := ⟨7, 0⟩) (meth := k7m0) (c := k7c0) (by decide +kernel) rfl rfl rfl (by decide +kernel)
set_option maxRecDepth 65536 in
theorem w_c3 : (Jvm.Cond.code ({ cls := "java/util/AbstractCollection", name := "<init>", desc := "()V" } : Jvm.MethodName) jdk_22_method_1_code (1 : Nat) (Option.none : Option Jvm.ClassFile.FieldType)).before args0 about1 = true := code_word (m := ⟨4, 0⟩) (meth := k4m0) (c := k4c0) (by decide +kernel) rfl rfl rfl (by decide +kernel)
set_option maxRecDepth 65536 in
theorem w_c4 : (Jvm.Cond.code ({ cls := "java/lang/Object", name := "<init>", desc := "()V" } : Jvm.MethodName) object_method_1_code (1 : Nat) (Option.none : Option Jvm.ClassFile.FieldType)).before args0 about1 = true := code_word (m := ⟨0, 0⟩) (meth := k0m0) (c := k0c0) (by decide +kernel) rfl rfl rfl (by decide +kernel)
set_option maxRecDepth 65536 in
theorem w_c5 : (Jvm.Cond.code ({ cls := "com/example/even_roster/evenroster/scim/SortedSuffixesValuesAtPinLaw", name := "text", desc := "(ICC)Ljava/lang/String;" } : Jvm.MethodName) method_3_code (3 : Nat) (Option.some (Jvm.ClassFile.FieldType.object "java/lang/String"))).before args0 about1 = true := code_word (m := ⟨1, 2⟩) (meth := k1m2) (c := k1c2) (by decide +kernel) rfl rfl rfl (by decide +kernel)
set_option maxRecDepth 65536 in
theorem w_c6 : (Jvm.Cond.code ({ cls := "java/lang/String", name := "<init>", desc := "([C)V" } : Jvm.MethodName) jdk_42_method_3_code (2 : Nat) (Option.none : Option Jvm.ClassFile.FieldType)).before args0 about1 = true := code_word (m := ⟨16, 1⟩) (meth := k16m1) (c := k16c1) (by decide +kernel) rfl rfl rfl (by decide +kernel)
set_option maxRecDepth 65536 in
theorem w_c7 : (Jvm.Cond.code ({ cls := "java/lang/String", name := "<init>", desc := "([CIILjava/lang/Void;)V" } : Jvm.MethodName) jdk_42_method_149_code (6 : Nat) (Option.none : Option Jvm.ClassFile.FieldType)).before args0 about1 = true := code_word (m := ⟨16, 4⟩) (meth := k16m4) (c := k16c4) (by decide +kernel) rfl rfl rfl (by decide +kernel)
set_option maxRecDepth 65536 in
theorem w_c8 : (Jvm.Cond.code ({ cls := "java/lang/StringUTF16", name := "compress", desc := "([CII)[B" } : Jvm.MethodName) jdk_52_method_16_code (6 : Nat) (Option.some (Jvm.ClassFile.FieldType.array Jvm.ClassFile.FieldType.byte))).before args0 about1 = true := code_word (m := ⟨17, 8⟩) (meth := k17m8) (c := k17c8) (by decide +kernel) rfl rfl rfl (by decide +kernel)
set_option maxRecDepth 65536 in
theorem w_c9 : (Jvm.Cond.code ({ cls := "java/lang/StringUTF16", name := "compress", desc := "([CI[BII)I" } : Jvm.MethodName) jdk_52_method_21_code (7 : Nat) (Option.some Jvm.ClassFile.FieldType.int)).before args0 about1 = true := code_word (m := ⟨17, 9⟩) (meth := k17m9) (c := k17c9) (by decide +kernel) rfl rfl rfl (by decide +kernel)
set_option maxRecDepth 65536 in
theorem w_c10 : (Jvm.Cond.code ({ cls := "java/lang/StringUTF16", name := "coderFromArrayLen", desc := "([BI)B" } : Jvm.MethodName) jdk_52_method_15_code (2 : Nat) (Option.some Jvm.ClassFile.FieldType.byte)).before args0 about1 = true := code_word (m := ⟨17, 7⟩) (meth := k17m7) (c := k17c7) (by decide +kernel) rfl rfl rfl (by decide +kernel)
set_option maxRecDepth 65536 in
theorem w_c11 : (Jvm.Cond.code ({ cls := "java/util/ArrayList", name := "add", desc := "(Ljava/lang/Object;)Z" } : Jvm.MethodName) jdk_38_method_25_code (2 : Nat) (Option.some Jvm.ClassFile.FieldType.boolean)).before args0 about1 = true := code_word (m := ⟨11, 7⟩) (meth := k11m7) (c := k11c7) (by decide +kernel) rfl rfl rfl (by decide +kernel)
set_option maxRecDepth 65536 in
theorem w_c12 : (Jvm.Cond.code ({ cls := "java/util/ArrayList", name := "add", desc := "(Ljava/lang/Object;[Ljava/lang/Object;I)V" } : Jvm.MethodName) jdk_38_method_24_code (4 : Nat) (Option.none : Option Jvm.ClassFile.FieldType)).before args0 about1 = true := code_word (m := ⟨11, 6⟩) (meth := k11m6) (c := k11c6) (by decide +kernel) rfl rfl rfl (by decide +kernel)
set_option maxRecDepth 65536 in
theorem w_c13 : (Jvm.Cond.code ({ cls := "java/util/ArrayList", name := "grow", desc := "()[Ljava/lang/Object;" } : Jvm.MethodName) jdk_38_method_7_code (1 : Nat) (Option.some (Jvm.ClassFile.FieldType.array (Jvm.ClassFile.FieldType.object "java/lang/Object")))).before args0 about1 = true := code_word (m := ⟨11, 2⟩) (meth := k11m2) (c := k11c2) (by decide +kernel) rfl rfl rfl (by decide +kernel)
set_option maxRecDepth 65536 in
theorem w_c14 : (Jvm.Cond.code ({ cls := "java/util/ArrayList", name := "grow", desc := "(I)[Ljava/lang/Object;" } : Jvm.MethodName) jdk_38_method_6_code (4 : Nat) (Option.some (Jvm.ClassFile.FieldType.array (Jvm.ClassFile.FieldType.object "java/lang/Object")))).before args0 about1 = true := code_word (m := ⟨11, 1⟩) (meth := k11m1) (c := k11c1) (by decide +kernel) rfl rfl rfl (by decide +kernel)
set_option maxRecDepth 65536 in
theorem w_c15 : (Jvm.Cond.code ({ cls := "java/lang/Math", name := "max", desc := "(II)I" } : Jvm.MethodName) jdk_29_method_65_code (2 : Nat) (Option.some Jvm.ClassFile.FieldType.int)).before args0 about1 = true := code_word (m := ⟨18, 1⟩) (meth := k18m1) (c := k18c1) (by decide +kernel) rfl rfl rfl (by decide +kernel)
set_option maxRecDepth 65536 in
theorem w_c16 : (Jvm.Cond.code ({ cls := "com/example/even_roster/evenroster/scim/SortedSuffixes", name := "<init>", desc := "(Ljava/util/List;)V" } : Jvm.MethodName) prog_11_method_1_code (3 : Nat) (Option.none : Option Jvm.ClassFile.FieldType)).before args0 about1 = true := code_word (m := ⟨19, 0⟩) (meth := k19m0) (c := k19c0) (by decide +kernel) rfl rfl rfl (by decide +kernel)
set_option maxRecDepth 65536 in
theorem w_c17 : (Jvm.Cond.code ({ cls := "java/util/ArrayList", name := "size", desc := "()I" } : Jvm.MethodName) jdk_38_method_8_code (1 : Nat) (Option.some Jvm.ClassFile.FieldType.int)).before args0 about1 = true := code_word (m := ⟨11, 3⟩) (meth := k11m3) (c := k11c3) (by decide +kernel) rfl rfl rfl (by decide +kernel)
set_option maxRecDepth 65536 in
theorem w_c18 : (Jvm.Cond.code ({ cls := "java/util/ArrayList", name := "get", desc := "(I)Ljava/lang/Object;" } : Jvm.MethodName) jdk_38_method_20_code (2 : Nat) (Option.some (Jvm.ClassFile.FieldType.object "java/lang/Object"))).before args0 about1 = true := code_word (m := ⟨11, 5⟩) (meth := k11m5) (c := k11c5) (by decide +kernel) rfl rfl rfl (by decide +kernel)
set_option maxRecDepth 65536 in
theorem w_c19 : (Jvm.Cond.code ({ cls := "java/util/Objects", name := "checkIndex", desc := "(II)I" } : Jvm.MethodName) jdk_31_method_17_code (2 : Nat) (Option.some Jvm.ClassFile.FieldType.int)).before args0 about1 = true := code_word (m := ⟨20, 1⟩) (meth := k20m1) (c := k20c1) (by decide +kernel) rfl rfl rfl (by decide +kernel)
set_option maxRecDepth 65536 in
theorem w_c20 : (Jvm.Cond.code ({ cls := "jdk/internal/util/Preconditions", name := "checkIndex", desc := "(IILjava/util/function/BiFunction;)I" } : Jvm.MethodName) jdk_41_method_11_code (3 : Nat) (Option.some Jvm.ClassFile.FieldType.int)).before args0 about1 = true := code_word (m := ⟨21, 1⟩) (meth := k21m1) (c := k21c1) (by decide +kernel) rfl rfl rfl (by decide +kernel)
set_option maxRecDepth 65536 in
theorem w_c21 : (Jvm.Cond.code ({ cls := "java/util/ArrayList", name := "elementData", desc := "(I)Ljava/lang/Object;" } : Jvm.MethodName) jdk_38_method_18_code (2 : Nat) (Option.some (Jvm.ClassFile.FieldType.object "java/lang/Object"))).before args0 about1 = true := code_word (m := ⟨11, 4⟩) (meth := k11m4) (c := k11c4) (by decide +kernel) rfl rfl rfl (by decide +kernel)
set_option maxRecDepth 65536 in
theorem w_c22 : (Jvm.Cond.code ({ cls := "java/lang/String", name := "length", desc := "()I" } : Jvm.MethodName) jdk_42_method_54_code (1 : Nat) (Option.some Jvm.ClassFile.FieldType.int)).before args0 about1 = true := code_word (m := ⟨16, 2⟩) (meth := k16m2) (c := k16c2) (by decide +kernel) rfl rfl rfl (by decide +kernel)
set_option maxRecDepth 65536 in
theorem w_c23 : (Jvm.Cond.code ({ cls := "java/lang/String", name := "coder", desc := "()B" } : Jvm.MethodName) jdk_42_method_152_code (1 : Nat) (Option.some Jvm.ClassFile.FieldType.byte)).before args0 about1 = true := code_word (m := ⟨16, 5⟩) (meth := k16m5) (c := k16c5) (by decide +kernel) rfl rfl rfl (by decide +kernel)
set_option maxRecDepth 65536 in
theorem w_c24 : (Jvm.Cond.code ({ cls := "java/lang/String", name := "getChars", desc := "(II[CI)V" } : Jvm.MethodName) jdk_42_method_61_code (5 : Nat) (Option.none : Option Jvm.ClassFile.FieldType)).before args0 about1 = true := code_word (m := ⟨16, 3⟩) (meth := k16m3) (c := k16c3) (by decide +kernel) rfl rfl rfl (by decide +kernel)
set_option maxRecDepth 65536 in
theorem w_c25 : (Jvm.Cond.code ({ cls := "java/lang/String", name := "checkBoundsBeginEnd", desc := "(III)V" } : Jvm.MethodName) jdk_42_method_158_code (3 : Nat) (Option.none : Option Jvm.ClassFile.FieldType)).before args0 about1 = true := code_word (m := ⟨16, 8⟩) (meth := k16m8) (c := k16c8) (by decide +kernel) rfl rfl rfl (by decide +kernel)
set_option maxRecDepth 65536 in
theorem w_c26 : (Jvm.Cond.code ({ cls := "jdk/internal/util/Preconditions", name := "checkFromToIndex", desc := "(IIILjava/util/function/BiFunction;)I" } : Jvm.MethodName) jdk_41_method_12_code (4 : Nat) (Option.some Jvm.ClassFile.FieldType.int)).before args0 about1 = true := code_word (m := ⟨21, 2⟩) (meth := k21m2) (c := k21c2) (by decide +kernel) rfl rfl rfl (by decide +kernel)
set_option maxRecDepth 65536 in
theorem w_c27 : (Jvm.Cond.code ({ cls := "java/lang/String", name := "checkBoundsOffCount", desc := "(III)I" } : Jvm.MethodName) jdk_42_method_157_code (3 : Nat) (Option.some Jvm.ClassFile.FieldType.int)).before args0 about1 = true := code_word (m := ⟨16, 7⟩) (meth := k16m7) (c := k16c7) (by decide +kernel) rfl rfl rfl (by decide +kernel)
set_option maxRecDepth 65536 in
theorem w_c28 : (Jvm.Cond.code ({ cls := "jdk/internal/util/Preconditions", name := "checkFromIndexSize", desc := "(IIILjava/util/function/BiFunction;)I" } : Jvm.MethodName) jdk_41_method_13_code (4 : Nat) (Option.some Jvm.ClassFile.FieldType.int)).before args0 about1 = true := code_word (m := ⟨21, 3⟩) (meth := k21m3) (c := k21c3) (by decide +kernel) rfl rfl rfl (by decide +kernel)
set_option maxRecDepth 65536 in
theorem w_c29 : (Jvm.Cond.code ({ cls := "java/lang/String", name := "isLatin1", desc := "()Z" } : Jvm.MethodName) jdk_42_method_154_code (1 : Nat) (Option.some Jvm.ClassFile.FieldType.boolean)).before args0 about1 = true := code_word (m := ⟨16, 6⟩) (meth := k16m6) (c := k16c6) (by decide +kernel) rfl rfl rfl (by decide +kernel)
set_option maxRecDepth 65536 in
theorem w_c30 : (Jvm.Cond.code ({ cls := "java/lang/StringLatin1", name := "getChars", desc := "([BII[CI)V" } : Jvm.MethodName) jdk_43_method_11_code (5 : Nat) (Option.none : Option Jvm.ClassFile.FieldType)).before args0 about1 = true := code_word (m := ⟨22, 1⟩) (meth := k22m1) (c := k22c1) (by decide +kernel) rfl rfl rfl (by decide +kernel)
set_option maxRecDepth 65536 in
theorem w_c31 : (Jvm.Cond.code ({ cls := "java/lang/StringLatin1", name := "inflate", desc := "([BI[CII)V" } : Jvm.MethodName) jdk_43_method_49_code (6 : Nat) (Option.none : Option Jvm.ClassFile.FieldType)).before args0 about1 = true := code_word (m := ⟨22, 2⟩) (meth := k22m2) (c := k22c2) (by decide +kernel) rfl rfl rfl (by decide +kernel)
set_option maxRecDepth 65536 in
theorem w_c32 : (Jvm.Cond.code ({ cls := "com/example/even_roster/evenroster/scim/SortedSuffixes", name := "sort", desc := "([C[I)[I" } : Jvm.MethodName) prog_11_method_11_code (20 : Nat) (Option.some (Jvm.ClassFile.FieldType.array Jvm.ClassFile.FieldType.int))).before args0 about1 = true := code_word (m := ⟨19, 4⟩) (meth := k19m4) (c := k19c4) (by decide +kernel) rfl rfl rfl (by decide +kernel)
set_option maxRecDepth 65536 in
theorem w_c33 : (Jvm.Cond.code ({ cls := "java/util/Arrays", name := "fill", desc := "([IIII)V" } : Jvm.MethodName) jdk_65_method_104_code (5 : Nat) (Option.none : Option Jvm.ClassFile.FieldType)).before args0 about1 = true := code_word (m := ⟨23, 2⟩) (meth := k23m2) (c := k23c2) (by decide +kernel) rfl rfl rfl (by decide +kernel)
set_option maxRecDepth 65536 in
theorem w_c34 : (Jvm.Cond.code ({ cls := "java/util/Arrays", name := "rangeCheck", desc := "(III)V" } : Jvm.MethodName) jdk_65_method_30_code (3 : Nat) (Option.none : Option Jvm.ClassFile.FieldType)).before args0 about1 = true := code_word (m := ⟨23, 1⟩) (meth := k23m1) (c := k23c1) (by decide +kernel) rfl rfl rfl (by decide +kernel)
set_option maxRecDepth 65536 in
theorem w_c35 : (Jvm.Cond.code ({ cls := "com/example/even_roster/evenroster/scim/SortedSuffixes", name := "byRank", desc := "([I[II[I[I)V" } : Jvm.MethodName) prog_11_method_13_code (9 : Nat) (Option.none : Option Jvm.ClassFile.FieldType)).before args0 about1 = true := code_word (m := ⟨19, 6⟩) (meth := k19m6) (c := k19c6) (by decide +kernel) rfl rfl rfl (by decide +kernel)
set_option maxRecDepth 65536 in
theorem w_c36 : (Jvm.Cond.code ({ cls := "com/example/even_roster/evenroster/scim/SortedSuffixes", name := "valuesAt", desc := "([III)[I" } : Jvm.MethodName) prog_11_method_7_code (7 : Nat) (Option.some (Jvm.ClassFile.FieldType.array Jvm.ClassFile.FieldType.int))).before args0 about1 = true := code_word (m := ⟨19, 2⟩) (meth := k19m2) (c := k19c2) (by decide +kernel) rfl rfl rfl (by decide +kernel)
set_option maxRecDepth 65536 in
theorem w_c37 : (Jvm.Cond.code ({ cls := "com/example/even_roster/evenroster/scim/SortedSuffixesValuesAtPinLaw", name := "agrees", desc := "(Lcom/example/even_roster/evenroster/scim/SortedSuffixes;[I[III)Z" } : Jvm.MethodName) method_4_code (5 : Nat) (Option.some Jvm.ClassFile.FieldType.boolean)).before args0 about1 = true := code_word (m := ⟨1, 3⟩) (meth := k1m3) (c := k1c3) (by decide +kernel) rfl rfl rfl (by decide +kernel)
set_option maxRecDepth 65536 in
theorem w_c38 : (Jvm.Cond.code ({ cls := "com/example/even_roster/evenroster/scim/SortedSuffixes", name := "isSortedWhole", desc := "([I[I[II)Z" } : Jvm.MethodName) prog_11_method_12_code (7 : Nat) (Option.some Jvm.ClassFile.FieldType.boolean)).before args0 about1 = true := code_word (m := ⟨19, 5⟩) (meth := k19m5) (c := k19c5) (by decide +kernel) rfl rfl rfl (by decide +kernel)
set_option maxRecDepth 65536 in
theorem w_c39 : (Jvm.Cond.code ({ cls := "java/lang/StringUTF16", name := "toBytes", desc := "([CII)[B" } : Jvm.MethodName) jdk_52_method_14_code (5 : Nat) (Option.some (Jvm.ClassFile.FieldType.array Jvm.ClassFile.FieldType.byte))).before args0 about1 = true := code_word (m := ⟨17, 6⟩) (meth := k17m6) (c := k17c6) (by decide +kernel) rfl rfl rfl (by decide +kernel)
set_option maxRecDepth 65536 in
theorem w_c40 : (Jvm.Cond.code ({ cls := "java/lang/StringUTF16", name := "newBytesFor", desc := "(I)[B" } : Jvm.MethodName) jdk_52_method_2_code (1 : Nat) (Option.some (Jvm.ClassFile.FieldType.array Jvm.ClassFile.FieldType.byte))).before args0 about1 = true := code_word (m := ⟨17, 1⟩) (meth := k17m1) (c := k17c1) (by decide +kernel) rfl rfl rfl (by decide +kernel)
set_option maxRecDepth 65536 in
theorem w_c41 : (Jvm.Cond.code ({ cls := "java/lang/StringUTF16", name := "newBytesLength", desc := "(I)I" } : Jvm.MethodName) jdk_52_method_3_code (1 : Nat) (Option.some Jvm.ClassFile.FieldType.int)).before args0 about1 = true := code_word (m := ⟨17, 2⟩) (meth := k17m2) (c := k17c2) (by decide +kernel) rfl rfl rfl (by decide +kernel)
set_option maxRecDepth 65536 in
theorem w_c42 : (Jvm.Cond.code ({ cls := "java/lang/StringUTF16", name := "putChar", desc := "([BII)V" } : Jvm.MethodName) jdk_52_method_4_code (3 : Nat) (Option.none : Option Jvm.ClassFile.FieldType)).before args0 about1 = true := code_word (m := ⟨17, 3⟩) (meth := k17m3) (c := k17c3) (by decide +kernel) rfl rfl rfl (by decide +kernel)
set_option maxRecDepth 65536 in
theorem w_c43 : (Jvm.Cond.code ({ cls := "java/lang/StringUTF16", name := "getChar", desc := "([BI)C" } : Jvm.MethodName) jdk_52_method_5_code (2 : Nat) (Option.some Jvm.ClassFile.FieldType.char)).before args0 about1 = true := code_word (m := ⟨17, 4⟩) (meth := k17m4) (c := k17c4) (by decide +kernel) rfl rfl rfl (by decide +kernel)
set_option maxRecDepth 65536 in
theorem w_c44 : (Jvm.Cond.code ({ cls := "java/lang/StringUTF16", name := "getChars", desc := "([BII[CI)V" } : Jvm.MethodName) jdk_52_method_26_code (6 : Nat) (Option.none : Option Jvm.ClassFile.FieldType)).before args0 about1 = true := code_word (m := ⟨17, 10⟩) (meth := k17m10) (c := k17c10) (by decide +kernel) rfl rfl rfl (by decide +kernel)
set_option maxRecDepth 65536 in
theorem w_c45 : (Jvm.Cond.code ({ cls := "java/lang/StringUTF16", name := "checkBoundsOffCount", desc := "(II[B)V" } : Jvm.MethodName) jdk_52_method_94_code (3 : Nat) (Option.none : Option Jvm.ClassFile.FieldType)).before args0 about1 = true := code_word (m := ⟨17, 11⟩) (meth := k17m11) (c := k17c11) (by decide +kernel) rfl rfl rfl (by decide +kernel)
set_option maxRecDepth 65536 in
theorem w_c46 : (Jvm.Cond.code ({ cls := "java/lang/StringUTF16", name := "length", desc := "([B)I" } : Jvm.MethodName) jdk_52_method_6_code (1 : Nat) (Option.some Jvm.ClassFile.FieldType.int)).before args0 about1 = true := code_word (m := ⟨17, 5⟩) (meth := k17m5) (c := k17c5) (by decide +kernel) rfl rfl rfl (by decide +kernel)
set_option maxRecDepth 65536 in
theorem w_c47 : (Jvm.Cond.code ({ cls := "com/example/even_roster/evenroster/scim/SortedSuffixes", name := "textAt", desc := "(I)I" } : Jvm.MethodName) prog_11_method_5_code (2 : Nat) (Option.some Jvm.ClassFile.FieldType.int)).before args0 about1 = true := code_word (m := ⟨19, 1⟩) (meth := k19m1) (c := k19c1) (by decide +kernel) rfl rfl rfl (by decide +kernel)
set_option maxRecDepth 65536 in
theorem w_c48 : (Jvm.Cond.code ({ cls := "com/example/even_roster/evenroster/scim/SortedSuffixes", name := "textHolding", desc := "(I)I" } : Jvm.MethodName) prog_11_method_10_code (5 : Nat) (Option.some Jvm.ClassFile.FieldType.int)).before args0 about1 = true := code_word (m := ⟨19, 3⟩) (meth := k19m3) (c := k19c3) (by decide +kernel) rfl rfl rfl (by decide +kernel)
set_option maxRecDepth 65536 in
theorem w_c49 : (Jvm.Cond.code ({ cls := "com/example/even_roster/evenroster/scim/SortedSuffixes", name := "rankAnew", desc := "([I[II[I[I)I" } : Jvm.MethodName) prog_11_method_14_code (11 : Nat) (Option.some Jvm.ClassFile.FieldType.int)).before args0 about1 = true := code_word (m := ⟨19, 7⟩) (meth := k19m7) (c := k19c7) (by decide +kernel) rfl rfl rfl (by decide +kernel)
def codes1 : List Jvm.Cond := [Jvm.Cond.code x code maxLocals ret, Jvm.Cond.code ({ cls := "java/util/ArrayList", name := "<init>", desc := "()V" } : Jvm.MethodName) jdk_38_method_2_code (1 : Nat) (Option.none : Option Jvm.ClassFile.FieldType), Jvm.Cond.code ({ cls := "java/util/AbstractList", name := "<init>", desc := "()V" } : Jvm.MethodName) jdk_39_method_1_code (1 : Nat) (Option.none : Option Jvm.ClassFile.FieldType), Jvm.Cond.code ({ cls := "java/util/AbstractCollection", name := "<init>", desc := "()V" } : Jvm.MethodName) jdk_22_method_1_code (1 : Nat) (Option.none : Option Jvm.ClassFile.FieldType), Jvm.Cond.code ({ cls := "java/lang/Object", name := "<init>", desc := "()V" } : Jvm.MethodName) object_method_1_code (1 : Nat) (Option.none : Option Jvm.ClassFile.FieldType), Jvm.Cond.code ({ cls := "com/example/even_roster/evenroster/scim/SortedSuffixesValuesAtPinLaw", name := "text", desc := "(ICC)Ljava/lang/String;" } : Jvm.MethodName) method_3_code (3 : Nat) (Option.some (Jvm.ClassFile.FieldType.object "java/lang/String")), Jvm.Cond.code ({ cls := "java/lang/String", name := "<init>", desc := "([C)V" } : Jvm.MethodName) jdk_42_method_3_code (2 : Nat) (Option.none : Option Jvm.ClassFile.FieldType), Jvm.Cond.code ({ cls := "java/lang/String", name := "<init>", desc := "([CIILjava/lang/Void;)V" } : Jvm.MethodName) jdk_42_method_149_code (6 : Nat) (Option.none : Option Jvm.ClassFile.FieldType), Jvm.Cond.code ({ cls := "java/lang/StringUTF16", name := "compress", desc := "([CII)[B" } : Jvm.MethodName) jdk_52_method_16_code (6 : Nat) (Option.some (Jvm.ClassFile.FieldType.array Jvm.ClassFile.FieldType.byte)), Jvm.Cond.code ({ cls := "java/lang/StringUTF16", name := "compress", desc := "([CI[BII)I" } : Jvm.MethodName) jdk_52_method_21_code (7 : Nat) (Option.some Jvm.ClassFile.FieldType.int), Jvm.Cond.code ({ cls := "java/lang/StringUTF16", name := "coderFromArrayLen", desc := "([BI)B" } : Jvm.MethodName) jdk_52_method_15_code (2 : Nat) (Option.some Jvm.ClassFile.FieldType.byte), Jvm.Cond.code ({ cls := "java/util/ArrayList", name := "add", desc := "(Ljava/lang/Object;)Z" } : Jvm.MethodName) jdk_38_method_25_code (2 : Nat) (Option.some Jvm.ClassFile.FieldType.boolean), Jvm.Cond.code ({ cls := "java/util/ArrayList", name := "add", desc := "(Ljava/lang/Object;[Ljava/lang/Object;I)V" } : Jvm.MethodName) jdk_38_method_24_code (4 : Nat) (Option.none : Option Jvm.ClassFile.FieldType), Jvm.Cond.code ({ cls := "java/util/ArrayList", name := "grow", desc := "()[Ljava/lang/Object;" } : Jvm.MethodName) jdk_38_method_7_code (1 : Nat) (Option.some (Jvm.ClassFile.FieldType.array (Jvm.ClassFile.FieldType.object "java/lang/Object"))), Jvm.Cond.code ({ cls := "java/util/ArrayList", name := "grow", desc := "(I)[Ljava/lang/Object;" } : Jvm.MethodName) jdk_38_method_6_code (4 : Nat) (Option.some (Jvm.ClassFile.FieldType.array (Jvm.ClassFile.FieldType.object "java/lang/Object"))), Jvm.Cond.code ({ cls := "java/lang/Math", name := "max", desc := "(II)I" } : Jvm.MethodName) jdk_29_method_65_code (2 : Nat) (Option.some Jvm.ClassFile.FieldType.int), Jvm.Cond.code ({ cls := "com/example/even_roster/evenroster/scim/SortedSuffixes", name := "<init>", desc := "(Ljava/util/List;)V" } : Jvm.MethodName) prog_11_method_1_code (3 : Nat) (Option.none : Option Jvm.ClassFile.FieldType), Jvm.Cond.code ({ cls := "java/util/ArrayList", name := "size", desc := "()I" } : Jvm.MethodName) jdk_38_method_8_code (1 : Nat) (Option.some Jvm.ClassFile.FieldType.int), Jvm.Cond.code ({ cls := "java/util/ArrayList", name := "get", desc := "(I)Ljava/lang/Object;" } : Jvm.MethodName) jdk_38_method_20_code (2 : Nat) (Option.some (Jvm.ClassFile.FieldType.object "java/lang/Object")), Jvm.Cond.code ({ cls := "java/util/Objects", name := "checkIndex", desc := "(II)I" } : Jvm.MethodName) jdk_31_method_17_code (2 : Nat) (Option.some Jvm.ClassFile.FieldType.int), Jvm.Cond.code ({ cls := "jdk/internal/util/Preconditions", name := "checkIndex", desc := "(IILjava/util/function/BiFunction;)I" } : Jvm.MethodName) jdk_41_method_11_code (3 : Nat) (Option.some Jvm.ClassFile.FieldType.int), Jvm.Cond.code ({ cls := "java/util/ArrayList", name := "elementData", desc := "(I)Ljava/lang/Object;" } : Jvm.MethodName) jdk_38_method_18_code (2 : Nat) (Option.some (Jvm.ClassFile.FieldType.object "java/lang/Object")), Jvm.Cond.code ({ cls := "java/lang/String", name := "length", desc := "()I" } : Jvm.MethodName) jdk_42_method_54_code (1 : Nat) (Option.some Jvm.ClassFile.FieldType.int), Jvm.Cond.code ({ cls := "java/lang/String", name := "coder", desc := "()B" } : Jvm.MethodName) jdk_42_method_152_code (1 : Nat) (Option.some Jvm.ClassFile.FieldType.byte), Jvm.Cond.code ({ cls := "java/lang/String", name := "getChars", desc := "(II[CI)V" } : Jvm.MethodName) jdk_42_method_61_code (5 : Nat) (Option.none : Option Jvm.ClassFile.FieldType), Jvm.Cond.code ({ cls := "java/lang/String", name := "checkBoundsBeginEnd", desc := "(III)V" } : Jvm.MethodName) jdk_42_method_158_code (3 : Nat) (Option.none : Option Jvm.ClassFile.FieldType), Jvm.Cond.code ({ cls := "jdk/internal/util/Preconditions", name := "checkFromToIndex", desc := "(IIILjava/util/function/BiFunction;)I" } : Jvm.MethodName) jdk_41_method_12_code (4 : Nat) (Option.some Jvm.ClassFile.FieldType.int), Jvm.Cond.code ({ cls := "java/lang/String", name := "checkBoundsOffCount", desc := "(III)I" } : Jvm.MethodName) jdk_42_method_157_code (3 : Nat) (Option.some Jvm.ClassFile.FieldType.int), Jvm.Cond.code ({ cls := "jdk/internal/util/Preconditions", name := "checkFromIndexSize", desc := "(IIILjava/util/function/BiFunction;)I" } : Jvm.MethodName) jdk_41_method_13_code (4 : Nat) (Option.some Jvm.ClassFile.FieldType.int), Jvm.Cond.code ({ cls := "java/lang/String", name := "isLatin1", desc := "()Z" } : Jvm.MethodName) jdk_42_method_154_code (1 : Nat) (Option.some Jvm.ClassFile.FieldType.boolean), Jvm.Cond.code ({ cls := "java/lang/StringLatin1", name := "getChars", desc := "([BII[CI)V" } : Jvm.MethodName) jdk_43_method_11_code (5 : Nat) (Option.none : Option Jvm.ClassFile.FieldType), Jvm.Cond.code ({ cls := "java/lang/StringLatin1", name := "inflate", desc := "([BI[CII)V" } : Jvm.MethodName) jdk_43_method_49_code (6 : Nat) (Option.none : Option Jvm.ClassFile.FieldType), Jvm.Cond.code ({ cls := "com/example/even_roster/evenroster/scim/SortedSuffixes", name := "sort", desc := "([C[I)[I" } : Jvm.MethodName) prog_11_method_11_code (20 : Nat) (Option.some (Jvm.ClassFile.FieldType.array Jvm.ClassFile.FieldType.int)), Jvm.Cond.code ({ cls := "java/util/Arrays", name := "fill", desc := "([IIII)V" } : Jvm.MethodName) jdk_65_method_104_code (5 : Nat) (Option.none : Option Jvm.ClassFile.FieldType), Jvm.Cond.code ({ cls := "java/util/Arrays", name := "rangeCheck", desc := "(III)V" } : Jvm.MethodName) jdk_65_method_30_code (3 : Nat) (Option.none : Option Jvm.ClassFile.FieldType), Jvm.Cond.code ({ cls := "com/example/even_roster/evenroster/scim/SortedSuffixes", name := "byRank", desc := "([I[II[I[I)V" } : Jvm.MethodName) prog_11_method_13_code (9 : Nat) (Option.none : Option Jvm.ClassFile.FieldType), Jvm.Cond.code ({ cls := "com/example/even_roster/evenroster/scim/SortedSuffixes", name := "valuesAt", desc := "([III)[I" } : Jvm.MethodName) prog_11_method_7_code (7 : Nat) (Option.some (Jvm.ClassFile.FieldType.array Jvm.ClassFile.FieldType.int)), Jvm.Cond.code ({ cls := "com/example/even_roster/evenroster/scim/SortedSuffixesValuesAtPinLaw", name := "agrees", desc := "(Lcom/example/even_roster/evenroster/scim/SortedSuffixes;[I[III)Z" } : Jvm.MethodName) method_4_code (5 : Nat) (Option.some Jvm.ClassFile.FieldType.boolean), Jvm.Cond.code ({ cls := "com/example/even_roster/evenroster/scim/SortedSuffixes", name := "isSortedWhole", desc := "([I[I[II)Z" } : Jvm.MethodName) prog_11_method_12_code (7 : Nat) (Option.some Jvm.ClassFile.FieldType.boolean), Jvm.Cond.code ({ cls := "java/lang/StringUTF16", name := "toBytes", desc := "([CII)[B" } : Jvm.MethodName) jdk_52_method_14_code (5 : Nat) (Option.some (Jvm.ClassFile.FieldType.array Jvm.ClassFile.FieldType.byte)), Jvm.Cond.code ({ cls := "java/lang/StringUTF16", name := "newBytesFor", desc := "(I)[B" } : Jvm.MethodName) jdk_52_method_2_code (1 : Nat) (Option.some (Jvm.ClassFile.FieldType.array Jvm.ClassFile.FieldType.byte)), Jvm.Cond.code ({ cls := "java/lang/StringUTF16", name := "newBytesLength", desc := "(I)I" } : Jvm.MethodName) jdk_52_method_3_code (1 : Nat) (Option.some Jvm.ClassFile.FieldType.int), Jvm.Cond.code ({ cls := "java/lang/StringUTF16", name := "putChar", desc := "([BII)V" } : Jvm.MethodName) jdk_52_method_4_code (3 : Nat) (Option.none : Option Jvm.ClassFile.FieldType), Jvm.Cond.code ({ cls := "java/lang/StringUTF16", name := "getChar", desc := "([BI)C" } : Jvm.MethodName) jdk_52_method_5_code (2 : Nat) (Option.some Jvm.ClassFile.FieldType.char), Jvm.Cond.code ({ cls := "java/lang/StringUTF16", name := "getChars", desc := "([BII[CI)V" } : Jvm.MethodName) jdk_52_method_26_code (6 : Nat) (Option.none : Option Jvm.ClassFile.FieldType), Jvm.Cond.code ({ cls := "java/lang/StringUTF16", name := "checkBoundsOffCount", desc := "(II[B)V" } : Jvm.MethodName) jdk_52_method_94_code (3 : Nat) (Option.none : Option Jvm.ClassFile.FieldType), Jvm.Cond.code ({ cls := "java/lang/StringUTF16", name := "length", desc := "([B)I" } : Jvm.MethodName) jdk_52_method_6_code (1 : Nat) (Option.some Jvm.ClassFile.FieldType.int), Jvm.Cond.code ({ cls := "com/example/even_roster/evenroster/scim/SortedSuffixes", name := "textAt", desc := "(I)I" } : Jvm.MethodName) prog_11_method_5_code (2 : Nat) (Option.some Jvm.ClassFile.FieldType.int), Jvm.Cond.code ({ cls := "com/example/even_roster/evenroster/scim/SortedSuffixes", name := "textHolding", desc := "(I)I" } : Jvm.MethodName) prog_11_method_10_code (5 : Nat) (Option.some Jvm.ClassFile.FieldType.int), Jvm.Cond.code ({ cls := "com/example/even_roster/evenroster/scim/SortedSuffixes", name := "rankAnew", desc := "([I[II[I[I)I" } : Jvm.MethodName) prog_11_method_14_code (11 : Nat) (Option.some Jvm.ClassFile.FieldType.int)]
set_option maxRecDepth 65536 in
theorem codes_eq : words1.filter isCode = codes1 := rfl
theorem w_codes : ∀ c ∈ words1.filter isCode, c.before args0 about1 = true := by
  rw [codes_eq]
  intro c hc
  simp only [codes1, List.mem_cons, List.not_mem_nil, or_false] at hc
  rcases hc with rfl | rfl | rfl | rfl | rfl | rfl | rfl | rfl | rfl | rfl | rfl | rfl | rfl | rfl | rfl | rfl | rfl | rfl | rfl | rfl | rfl | rfl | rfl | rfl | rfl | rfl | rfl | rfl | rfl | rfl | rfl | rfl | rfl | rfl | rfl | rfl | rfl | rfl | rfl | rfl | rfl | rfl | rfl | rfl | rfl | rfl | rfl | rfl | rfl | rfl
  · exact w_c0
  · exact w_c1
  · exact w_c2
  · exact w_c3
  · exact w_c4
  · exact w_c5
  · exact w_c6
  · exact w_c7
  · exact w_c8
  · exact w_c9
  · exact w_c10
  · exact w_c11
  · exact w_c12
  · exact w_c13
  · exact w_c14
  · exact w_c15
  · exact w_c16
  · exact w_c17
  · exact w_c18
  · exact w_c19
  · exact w_c20
  · exact w_c21
  · exact w_c22
  · exact w_c23
  · exact w_c24
  · exact w_c25
  · exact w_c26
  · exact w_c27
  · exact w_c28
  · exact w_c29
  · exact w_c30
  · exact w_c31
  · exact w_c32
  · exact w_c33
  · exact w_c34
  · exact w_c35
  · exact w_c36
  · exact w_c37
  · exact w_c38
  · exact w_c39
  · exact w_c40
  · exact w_c41
  · exact w_c42
  · exact w_c43
  · exact w_c44
  · exact w_c45
  · exact w_c46
  · exact w_c47
  · exact w_c48
  · exact w_c49
set_option maxRecDepth 65536 in
theorem w_t1 : (words1.take 24).all (fun c => isCode c || c.before args0 about1) = true := by decide +kernel
set_option maxRecDepth 65536 in
theorem w_t2 : ((words1.drop 24).take 24).all (fun c => isCode c || c.before args0 about1) = true := by decide +kernel
set_option maxRecDepth 65536 in
theorem w_t3 : (((words1.drop 24).drop 24).take 24).all (fun c => isCode c || c.before args0 about1) = true := by decide +kernel
set_option maxRecDepth 65536 in
theorem w_t4 : ((((words1.drop 24).drop 24).drop 24).take 24).all (fun c => isCode c || c.before args0 about1) = true := by decide +kernel
set_option maxRecDepth 65536 in
theorem w_t5 : (((((words1.drop 24).drop 24).drop 24).drop 24).take 24).all (fun c => isCode c || c.before args0 about1) = true := by decide +kernel
set_option maxRecDepth 65536 in
theorem w_t6 : ((((((words1.drop 24).drop 24).drop 24).drop 24).drop 24).take 24).all (fun c => isCode c || c.before args0 about1) = true := by decide +kernel
set_option maxRecDepth 65536 in
theorem w_t7 : (((((((words1.drop 24).drop 24).drop 24).drop 24).drop 24).drop 24).take 24).all (fun c => isCode c || c.before args0 about1) = true := by decide +kernel
set_option maxRecDepth 65536 in
theorem w_t8 : ((((((((words1.drop 24).drop 24).drop 24).drop 24).drop 24).drop 24).drop 24).take 24).all (fun c => isCode c || c.before args0 about1) = true := by decide +kernel
set_option maxRecDepth 65536 in
theorem w_t9 : (((((((((words1.drop 24).drop 24).drop 24).drop 24).drop 24).drop 24).drop 24).drop 24).take 24).all (fun c => isCode c || c.before args0 about1) = true := by decide +kernel
set_option maxRecDepth 65536 in
theorem w_t10 : ((((((((((words1.drop 24).drop 24).drop 24).drop 24).drop 24).drop 24).drop 24).drop 24).drop 24).take 24).all (fun c => isCode c || c.before args0 about1) = true := by decide +kernel
set_option maxRecDepth 65536 in
theorem w_t11 : ((((((((((words1.drop 24).drop 24).drop 24).drop 24).drop 24).drop 24).drop 24).drop 24).drop 24).drop 24).all (fun c => isCode c || c.before args0 about1) = true := by decide +kernel
theorem w_tables : (allAtoms (Jvm.Cond.code x code maxLocals ret :: tables_1)).before args0 about1 = true := by
  rw [allAtoms_all]
  show words1.all (fun c => c.before args0 about1) = true
  refine all_split ?_ w_codes
  rw [← List.take_append_drop 24 words1, List.all_append, w_t1, ← List.take_append_drop 24 (words1.drop 24), List.all_append, w_t2, ← List.take_append_drop 24 ((words1.drop 24).drop 24), List.all_append, w_t3, ← List.take_append_drop 24 (((words1.drop 24).drop 24).drop 24), List.all_append, w_t4, ← List.take_append_drop 24 ((((words1.drop 24).drop 24).drop 24).drop 24), List.all_append, w_t5, ← List.take_append_drop 24 (((((words1.drop 24).drop 24).drop 24).drop 24).drop 24), List.all_append, w_t6, ← List.take_append_drop 24 ((((((words1.drop 24).drop 24).drop 24).drop 24).drop 24).drop 24), List.all_append, w_t7, ← List.take_append_drop 24 (((((((words1.drop 24).drop 24).drop 24).drop 24).drop 24).drop 24).drop 24), List.all_append, w_t8, ← List.take_append_drop 24 ((((((((words1.drop 24).drop 24).drop 24).drop 24).drop 24).drop 24).drop 24).drop 24), List.all_append, w_t9, ← List.take_append_drop 24 (((((((((words1.drop 24).drop 24).drop 24).drop 24).drop 24).drop 24).drop 24).drop 24).drop 24), List.all_append, w_t10, w_t11]
  rfl
set_option maxRecDepth 65536 in
theorem w_rest : rest_1_c.before args0 about1 = true := by decide +kernel
set_option maxRecDepth 65536 in
theorem w_case : (Jvm.Cond.and given_1 narrow_1).before args0 about1 = true := by decide +kernel
theorem w_applies : (headSpec (Jvm.Cond.code x code maxLocals ret :: tables_1) room_1).applies x e0.platform about1 = true :=
  (Spec.applies_iff w_frames).mpr ⟨w_running, w_runnable, w_alone, w_named, w_hears, w_ripe, w_room, w_tables⟩
theorem atStart : AtStart classFile x code maxLocals ret World_1 tables_1 room_1 Calls_1 rest_1 Pre_1 launch0 p0 e0 about1 theMethod args0 below0 :=
  ⟨lists_1, trivial, launch0.admits_env _ _ _, launch0.least_env, fairChoices_fair.cas, fairChoices_fair.clock, w_frames, w_args, w_heap, w_applies, trivial, w_rest, w_case⟩
end start1
theorem witness_1 : WitnessClaimed_1 := ⟨start1.p0, start1.e0, start1.about1, start1.theMethod, start1.args0, start1.below0, start1.atStart⟩
end Jvm.Pilot.@@N@@
