import JvmDerived
import JvmDerived.Pilot.@@N@@Statement
import JvmDerived.Pilot.@@N@@Code
set_option linter.unusedVariables false
set_option linter.unusedSimpArgs false
namespace Jvm.RoadKit
open Sem ClassFile Op Lib Jvm.Stand Jvm.Free Jvm.LawKit
section New
variable {p : Program} {l : Launch} {e : Env} {R : Room} {s : State} {m : MethodId} {args : Array Value} {below : List Frame} {meth : Method} {c : Code} {T : State} {locs : List Loc} {cells slots : Nat}
theorem retI (X : Stand p l e R s m args below meth c T locs cells slots) (hx : p.tables.exec = Jvm.exec) {pc : Nat} {Ls : Array Slot} {z : Int32} {rest : List Value} (hret : meth.sig.returnType = some .int) (hd : decode c.code pc = .ok (.ireturn, 1)) {fs : List Frame}
    (hl : ∀ (f : JFrame) (acts : List Action), f.method = m → f.locked = none → f.entered = [] → (doReturn e (T.setTop f) acts (some (.int z))).1 = T.setFrames fs) : Steps p.tables e below (T.setTop (mkF m pc Ls (.int z :: rest))) (T.setFrames fs) := by
  have hm' : T.vm.method? m = some meth := X.method'
  have hn : narrow .int (.int z) = .int z := rfl
  show Steps p.tables e below (T.setTop { method := m, pc := pc, locals := Ls, stack := _ :: rest, locked := none }) _
  jvm_step X.here [X.here.top, hx, hd, hm', hret, hn]
  first | (intro acts; rw [hl _ acts rfl rfl rfl]) | rw [hl _ _ rfl rfl rfl]
  exact Steps.refl _
theorem retJ (X : Stand p l e R s m args below meth c T locs cells slots) (hx : p.tables.exec = Jvm.exec) {pc : Nat} {Ls : Array Slot} {z : Int64} {rest : List Value} (hret : meth.sig.returnType = some .long) (hd : decode c.code pc = .ok (.lreturn, 1)) {fs : List Frame}
    (hl : ∀ (f : JFrame) (acts : List Action), f.method = m → f.locked = none → f.entered = [] → (doReturn e (T.setTop f) acts (some (.long z))).1 = T.setFrames fs) : Steps p.tables e below (T.setTop (mkF m pc Ls (.long z :: rest))) (T.setFrames fs) := by
  have hm' : T.vm.method? m = some meth := X.method'
  have hn : narrow .long (.long z) = .long z := rfl
  show Steps p.tables e below (T.setTop { method := m, pc := pc, locals := Ls, stack := _ :: rest, locked := none }) _
  jvm_step X.here [X.here.top, hx, hd, hm', hret, hn]
  first | (intro acts; rw [hl _ acts rfl rfl rfl]) | rw [hl _ _ rfl rfl rfl]
  exact Steps.refl _
end New
end Jvm.RoadKit
namespace Jvm.Pilot.@@N@@
open Jvm Jvm.ClassFile Sem Op Lib Jvm.Free Jvm.Stand Jvm.LawKit Jvm.RoadKit Bundle Jvm.Pilot.@@N@@.Jvm.D
theorem own_fld {args : Array Value} {s : State} {t : Term} {a : Addr} {C n d : String} {k : Int32} (ev : t.eval args s none [] s = some (.ref a)) (h : (Jvm.Cond.eq (Term.field t C n d) (Term.int k)).value args s none s [] = some true) : Fld s s.heap a C n d (.int k) := by
  obtain ⟨x, y, hx, hy, k1, k2⟩ := cmp_v (Or.inl h)
  rw [Term.int_eval] at hy
  cases hy
  obtain ⟨z, rfl⟩ := k2
  obtain rfl : z = k := gotT (Cond.eq_ints hx (Term.int_eval k)) h
  rw [fld_at ev] at hx
  exact Fld.start hx
theorem pd_0 : parseMethodDescriptor "(Z)Lcom/example/eventloom/eventloom/Item$Truth;" = some ⟨[.boolean], some (.object "com/example/eventloom/eventloom/Item$Truth")⟩ := by decide +kernel
theorem pd_1 : parseMethodDescriptor "()Z" = some ⟨[], some .boolean⟩ := by decide +kernel
def own_of (p1 : Int32) (wT : Addr) (wF : Addr) : Addr := if p1 = (0 : Int32) then wF else wT
theorem d1_0 : decode prog_46_method_2_code 0 = .ok (.iload_n 0, 1) := by decide +kernel
theorem d1_1 : decode prog_46_method_2_code 1 = .ok (.ifCond .eq 9, 3) := by decide +kernel
theorem d1_4 : decode prog_46_method_2_code 4 = .ok (.getstatic 13, 3) := by decide +kernel
theorem d1_7 : decode prog_46_method_2_code 7 = .ok (.goto 6, 3) := by decide +kernel
theorem d1_10 : decode prog_46_method_2_code 10 = .ok (.getstatic 17, 3) := by decide +kernel
theorem d1_13 : decode prog_46_method_2_code 13 = .ok (.areturn, 1) := by decide +kernel
theorem pn_rm1 : plainName "com/example/eventloom/eventloom/Item$Truth" = true := by first | (simp [plainName, overriddenIn]; done) | decide +kernel
theorem ef_rm1 (m : MethodId) (x0 : Int32) : entryFrame m #[(.int x0)] 1 = mkF m 0 #[.val (.int x0)] [] := by first | (simp [entryFrame, mkF, argsToLocals, Value.category]; done) | rfl
def Q_rm1 (Z : State) (p1 : Int32) (wT : Addr) (wF : Addr) (h0 : Heap) (n0 : Nat) (v : Option Value) (h : Heap) (L : List Loc) : Prop := v = some (.ref (own_of p1 wT wF)) ∧ Fr n0 L ∧ h = h0
set_option maxRecDepth 65536 in
set_option maxHeartbeats 40000000 in
theorem rm1 (l : Launch) (Z : State) (a0 : Array Value) (hw : ∀ d ∈ tables_1, d.before a0 Z = true) (ws : List Jvm.Cond) (p1 : Int32) (wT : Addr) (wF : Addr) (h0 : Heap) (n0 : Nat) (Z0 : n0 ≤ h0.size) (ST : Sta Z h0 "com/example/eventloom/eventloom/Item$Truth" "TRUE" "Lcom/example/eventloom/eventloom/Item$Truth;" (.ref wT)) (SF : Sta Z h0 "com/example/eventloom/eventloom/Item$Truth" "FALSE" "Lcom/example/eventloom/eventloom/Item$Truth;" (.ref wF)) :
    MetFree l (⟨"com/example/eventloom/eventloom/Item$Truth", "of", "(Z)Lcom/example/eventloom/eventloom/Item$Truth;"⟩ : MethodName) (head1 (Jvm.Cond.code (⟨"com/example/eventloom/eventloom/Item$Truth", "of", "(Z)Lcom/example/eventloom/eventloom/Item$Truth;"⟩ : MethodName) prog_46_method_2_code 1 (some (.object "com/example/eventloom/eventloom/Item$Truth")) :: ws) ({ frames := 0, cells := 0, slots := 0, locals := 0 } : Room)) (fun a U => a = #[(.int p1)] ∧ Z.Warmed39 U.vm ∧ U.heap = h0) (fun _ _ _ _ _ => True) (fun _ U o U' => ∃ v L, o = .returned v ∧ Q_rm1 Z p1 wT wF h0 n0 v U'.heap L ∧ FrameEnd U o U' L ({ frames := 0, cells := 0, slots := 0, locals := 0 } : Room).cells ({ frames := 0, cells := 0, slots := 0, locals := 0 } : Room).slots) := by
  refine MetFree.of_bodySF (plainFor_of_name pn_rm1) hisR ?_
  intro p e s m args below meth c s₁ Bd hml0 hP hK
  obtain ⟨rfl, hZ, hh⟩ := hP
  have hx := Bd.exec
  have hby := Bd.bytes
  have hml : c.maxLocals = 1 := hml0
  have hown : s.vm.findClass "com/example/eventloom/eventloom/Item$Truth" = some m.cls := findClass_of_methodNamed Bd.named
  have hnm := (name_of_methodNamed Bd.named Bd.method).1
  have X0 : Stand p l e ({ frames := 0, cells := 0, slots := 0, locals := 0 } : Room) s m #[(.int p1)] below meth c s₁ [] 0 0 := Stand.of_body Bd
  have e0 : s₁.heap = h0 := by rw [← hh, Bd.state]; rfl
  have N0 := Fr.nil n0
  have pre0 : ∀ t, Steps p.tables e below (s₁.setTop (mkF m 0 #[.val (.int p1)] [])) t → Steps p.tables e below (s₁.setTop (entryFrame m #[(.int p1)] 1)) t := fun t k => castTop (ef_rm1 m p1) k
  have pre1 : ∀ t, Steps p.tables e below (s₁.setTop (mkF m 1 #[.val (.int p1)] [(.int p1)])) t → Steps p.tables e below (s₁.setTop (entryFrame m #[(.int p1)] 1)) t := by
    intro t k
    refine pre0 t ?_
    show Steps p.tables e below (s₁.setTop (mkF m 0 #[.val (.int p1)] [])) _
    refine XS.iloadN X0.here hx rfl (hb hby d1_0) rfl ?_
    exact k
  by_cases hc1_2 : p1 = (0 : Int32)
  · obtain ⟨T3, X3, e3, st3⟩ := getS2 X0 hx hZ hown (host := "") (Or.inl (hw _ (List.mem_of_getElem? (i := 4) rfl))) Via.refl e0 SF (g := (mkF m 10 #[.val (.int p1)] [])) rfl (hb hby d1_10)
    obtain ⟨fs, hr, hrun, hended, hW, hsame⟩ := X3.leave (v := some (.ref wF)) (fun h => by rw [Bd.returns] at h; cases h)
    refine ⟨_, _, pre1 _ ?_, hrun, hended, _, _, rfl, ?_, ⟨_, rfl⟩, hW, hsame.mono (by decide) (by decide)⟩
    · show Steps p.tables e below (s₁.setTop (mkF m 1 #[.val (.int p1)] [(.int p1)])) _
      refine XS.ifYes X0.here hx rfl (pc0 := 1) (pc' := 10) rfl (hb hby d1_1) rfl ((if0 _ _).trans (teq hc1_2).1) (by decide) (by decide) ?_
      show Steps p.tables e below (s₁.setTop (mkF m 10 #[.val (.int p1)] [])) _
      refine st3 _ ?_
      show Steps p.tables e below (T3.setTop (mkF m 13 #[.val (.int p1)] [(.ref wF)])) _
      jvm_step X3.here [X3.here.top, hx, (hb hby d1_13), X3.method', Bd.returns, Value.isRef, FieldType.isReference]
      first | (intro acts; rw [hr _ acts rfl rfl rfl]) | rw [hr _ _ rfl rfl rfl]
      exact Steps.refl _
    · show Q_rm1 Z p1 wT wF h0 n0 _ T3.heap _
      rw [e3]
      exact ⟨by rw [own_of, if_pos hc1_2], N0, rfl⟩
  · obtain ⟨T4, X4, e4, st4⟩ := getS2 X0 hx hZ hown (host := "") (Or.inl (hw _ (List.mem_of_getElem? (i := 6) rfl))) Via.refl e0 ST (g := (mkF m 4 #[.val (.int p1)] [])) rfl (hb hby d1_4)
    obtain ⟨fs, hr, hrun, hended, hW, hsame⟩ := X4.leave (v := some (.ref wT)) (fun h => by rw [Bd.returns] at h; cases h)
    refine ⟨_, _, pre1 _ ?_, hrun, hended, _, _, rfl, ?_, ⟨_, rfl⟩, hW, hsame.mono (by decide) (by decide)⟩
    · show Steps p.tables e below (s₁.setTop (mkF m 1 #[.val (.int p1)] [(.int p1)])) _
      refine XS.ifNo X0.here hx rfl (hb hby d1_1) rfl ((if0 _ _).trans (feq hc1_2).1) ?_
      show Steps p.tables e below (s₁.setTop (mkF m 4 #[.val (.int p1)] [])) _
      refine st4 _ ?_
      show Steps p.tables e below (T4.setTop (mkF m 7 #[.val (.int p1)] [(.ref wT)])) _
      refine XS.goto X4.here hx rfl (pc0 := 7) (pc' := 13) rfl (hb hby d1_7) (by decide) (by decide) ?_
      show Steps p.tables e below (T4.setTop (mkF m 13 #[.val (.int p1)] [(.ref wT)])) _
      jvm_step X4.here [X4.here.top, hx, (hb hby d1_13), X4.method', Bd.returns, Value.isRef, FieldType.isReference]
      first | (intro acts; rw [hr _ acts rfl rfl rfl]) | rw [hr _ _ rfl rfl rfl]
      exact Steps.refl _
    · show Q_rm1 Z p1 wT wF h0 n0 _ T4.heap _
      rw [e4]
      exact ⟨by rw [own_of, if_neg hc1_2], N0, rfl⟩
def own_val (a1 : Addr) (w : Int32) : Int32 := (nar .boolean w)
theorem d2_0 : decode prog_46_method_9_code 0 = .ok (.aload_n 0, 1) := by decide +kernel
theorem d2_1 : decode prog_46_method_9_code 1 = .ok (.getfield 7, 3) := by decide +kernel
theorem d2_4 : decode prog_46_method_9_code 4 = .ok (.ireturn, 1) := by decide +kernel
theorem pn_rm2 : plainName "com/example/eventloom/eventloom/Item$Truth" = true := by first | (simp [plainName, overriddenIn]; done) | decide +kernel
theorem ef_rm2 (m : MethodId) (x0 : Addr) : entryFrame m #[(.ref x0)] 1 = mkF m 0 #[.val (.ref x0)] [] := by first | (simp [entryFrame, mkF, argsToLocals, Value.category]; done) | rfl
def Q_rm2 (Z : State) (a1 : Addr) (w : Int32) (h0 : Heap) (n0 : Nat) (v : Option Value) (h : Heap) (L : List Loc) : Prop := v = some (.int (own_val a1 w)) ∧ Fr n0 L ∧ h = h0
set_option maxRecDepth 65536 in
set_option maxHeartbeats 40000000 in
theorem rm2 (l : Launch) (Z : State) (a0 : Array Value) (hw : ∀ d ∈ tables_1, d.before a0 Z = true) (ws : List Jvm.Cond) (a1 : Addr) (w : Int32) (h0 : Heap) (n0 : Nat) (Z0 : n0 ≤ h0.size) (F0 : Fld Z h0 a1 "com/example/eventloom/eventloom/Item$Truth" "value" "Z" (.int w)) :
    MetFree l (⟨"com/example/eventloom/eventloom/Item$Truth", "value", "()Z"⟩ : MethodName) (head1 (Jvm.Cond.code (⟨"com/example/eventloom/eventloom/Item$Truth", "value", "()Z"⟩ : MethodName) prog_46_method_9_code 1 (some .boolean) :: ws) ({ frames := 0, cells := 0, slots := 0, locals := 0 } : Room)) (fun a U => a = #[(.ref a1)] ∧ Z.Warmed39 U.vm ∧ U.heap = h0) (fun _ _ _ _ _ => True) (fun _ U o U' => ∃ v L, o = .returned v ∧ Q_rm2 Z a1 w h0 n0 v U'.heap L ∧ FrameEnd U o U' L ({ frames := 0, cells := 0, slots := 0, locals := 0 } : Room).cells ({ frames := 0, cells := 0, slots := 0, locals := 0 } : Room).slots) := by
  refine MetFree.of_bodySF (plainFor_of_name pn_rm2) hisR ?_
  intro p e s m args below meth c s₁ Bd hml0 hP hK
  obtain ⟨rfl, hZ, hh⟩ := hP
  have hx := Bd.exec
  have hby := Bd.bytes
  have hml : c.maxLocals = 1 := hml0
  have hown : s.vm.findClass "com/example/eventloom/eventloom/Item$Truth" = some m.cls := findClass_of_methodNamed Bd.named
  have hnm := (name_of_methodNamed Bd.named Bd.method).1
  have X0 : Stand p l e ({ frames := 0, cells := 0, slots := 0, locals := 0 } : Room) s m #[(.ref a1)] below meth c s₁ [] 0 0 := Stand.of_body Bd
  have e0 : s₁.heap = h0 := by rw [← hh, Bd.state]; rfl
  have N0 := Fr.nil n0
  have pre0 : ∀ t, Steps p.tables e below (s₁.setTop (mkF m 0 #[.val (.ref a1)] [])) t → Steps p.tables e below (s₁.setTop (entryFrame m #[(.ref a1)] 1)) t := fun t k => castTop (ef_rm2 m a1) k
  obtain ⟨T1, X1, e1, st1⟩ := getF X0 hx hZ hown (host := "") (Or.inl (hw _ (List.mem_of_getElem? (i := 13) rfl))) Via.refl e0 F0 (g := (mkF m 1 #[.val (.ref a1)] [(.ref a1)])) rfl rfl (hb hby d2_1)
  obtain ⟨fs, hr, hrun, hended, hW, hsame⟩ := X1.leave (v := some (.int (nar .boolean w))) (fun h => by rw [Bd.returns] at h; cases h)
  refine ⟨_, _, pre0 _ ?_, hrun, hended, _, _, rfl, ?_, ⟨_, rfl⟩, hW, hsame.mono (by decide) (by decide)⟩
  · show Steps p.tables e below (s₁.setTop (mkF m 0 #[.val (.ref a1)] [])) _
    refine XS.aloadN X0.here hx rfl (hb hby d2_0) rfl rfl ?_
    show Steps p.tables e below (s₁.setTop (mkF m 1 #[.val (.ref a1)] [(.ref a1)])) _
    refine st1 _ ?_
    show Steps p.tables e below (T1.setTop (mkF m 4 #[.val (.ref a1)] [(.int w)])) _
    exact retN X1 hx (t := .boolean) Bd.returns (by simp) (hb hby d2_4) hr
  · show Q_rm2 Z a1 w h0 n0 _ T1.heap _
    rw [e1]
    exact ⟨by rw [own_val], N0, rfl⟩
theorem pn_rm0 : plainName "com/example/eventloom/eventloom/TruthOfPinLaw" = true := by first | (simp [plainName, overriddenIn]; done) | decide +kernel
theorem ef_rm0 (m : MethodId) (x0 : Int32) : entryFrame m #[(.int x0)] maxLocals = mkF m 0 #[.val (.int x0), .unset, .unset, .unset, .unset, .unset] [] := by first | (simp [entryFrame, mkF, argsToLocals, Value.category, maxLocals]; done) | rfl
def Q_rm0 (Z : State) (p1 : Int32) (w_FALSE : Addr) (w_TRUE : Addr) (h0 : Heap) (n0 : Nat) (v : Option Value) (h : Heap) (L : List Loc) : Prop := v = some (.int 1) ∧ Fr n0 L
set_option maxRecDepth 65536 in
set_option maxHeartbeats 40000000 in
theorem rm0 (l : Launch) (Z : State) (a0 : Array Value) (hw : ∀ d ∈ tables_1, d.before a0 Z = true) (ws : List Jvm.Cond) (p1 : Int32) (w_FALSE : Addr) (w_TRUE : Addr) (h0 : Heap) (n0 : Nat) (Z0 : n0 ≤ h0.size) (S_w_FALSE : Sta Z h0 "com/example/eventloom/eventloom/Item$Truth" "FALSE" "Lcom/example/eventloom/eventloom/Item$Truth;" (.ref w_FALSE)) (E_w_FALSE : Exa Z h0 w_FALSE "com/example/eventloom/eventloom/Item$Truth") (S_w_TRUE : Sta Z h0 "com/example/eventloom/eventloom/Item$Truth" "TRUE" "Lcom/example/eventloom/eventloom/Item$Truth;" (.ref w_TRUE)) (E_w_TRUE : Exa Z h0 w_TRUE "com/example/eventloom/eventloom/Item$Truth") (F_w_FALSE_value : Fld Z h0 w_FALSE "com/example/eventloom/eventloom/Item$Truth" "value" "Z" (.int (0 : Int32))) (F_w_TRUE_value : Fld Z h0 w_TRUE "com/example/eventloom/eventloom/Item$Truth" "value" "Z" (.int (1 : Int32))) :
    MetFree l x (head1 (Jvm.Cond.code x code maxLocals ret :: ws) room_1) (fun a U => a = #[(.int p1)] ∧ Z.Warmed39 U.vm ∧ U.heap = h0) (fun _ _ _ _ _ => True) (fun _ U o U' => ∃ v L, o = .returned v ∧ Q_rm0 Z p1 w_FALSE w_TRUE h0 n0 v U'.heap L ∧ FrameEnd U o U' L room_1.cells room_1.slots) := by
  refine MetFree.of_bodySF (plainFor_of_name pn_rm0) hisR ?_
  intro p e s m args below meth c s₁ Bd hml0 hP hK
  obtain ⟨rfl, hZ, hh⟩ := hP
  have hx := Bd.exec
  have hby := Bd.bytes
  have hml : c.maxLocals = 6 := hml0
  have hown : s.vm.findClass "com/example/eventloom/eventloom/TruthOfPinLaw" = some m.cls := findClass_of_methodNamed Bd.named
  have hnm := (name_of_methodNamed Bd.named Bd.method).1
  have X0 : Stand p l e room_1 s m #[(.int p1)] below meth c s₁ [] 0 0 := Stand.of_body Bd
  have e0 : s₁.heap = h0 := by rw [← hh, Bd.state]; rfl
  have N0 := Fr.nil n0
  have pre0 : ∀ t, Steps p.tables e below (s₁.setTop (mkF m 0 #[.val (.int p1), .unset, .unset, .unset, .unset, .unset] [])) t → Steps p.tables e below (s₁.setTop (entryFrame m #[(.int p1)] maxLocals)) t := fun t k => castTop (ef_rm0 m p1) k
  have pre1 : ∀ t, Steps p.tables e below (s₁.setTop (mkF m 3 #[.val (.int p1), .unset, .unset, .unset, .unset, .unset] [(.int (p1 &&& (1 : Int32)))])) t → Steps p.tables e below (s₁.setTop (entryFrame m #[(.int p1)] maxLocals)) t := by
    intro t k
    refine pre0 t ?_
    show Steps p.tables e below (s₁.setTop (mkF m 0 #[.val (.int p1), .unset, .unset, .unset, .unset, .unset] [])) _
    refine XS.iloadN X0.here hx rfl (hb hby at_0) rfl ?_
    show Steps p.tables e below (s₁.setTop (mkF m 1 #[.val (.int p1), .unset, .unset, .unset, .unset, .unset] [(.int p1)])) _
    refine XS.iconst X0.here hx rfl (hb hby at_1) ?_
    show Steps p.tables e below (s₁.setTop (mkF m 2 #[.val (.int p1), .unset, .unset, .unset, .unset, .unset] [(.int (1 : Int32)), (.int p1)])) _
    refine XS.iand X0.here hx rfl (hb hby at_2) rfl ?_
    exact k
  by_cases hc3_2 : (p1 &&& (1 : Int32)) = (0 : Int32)
  · obtain ⟨_, _, ⟨T3, L3, k3, n3⟩, -, X3, ⟨Lc3, hQ3, l3, y3, z3⟩, st3⟩ := Jvm.LawKit.callS X0 hx (y := (⟨"com/example/eventloom/eventloom/Item$Truth", "of", "(Z)Lcom/example/eventloom/eventloom/Item$Truth;"⟩ : MethodName)) hown (mvT hZ (hw _ (List.mem_of_getElem? (i := 0) rfl))) (mvT hZ (hw _ (List.mem_of_getElem? (i := 1) rfl))) (mvT hZ (hw _ (List.mem_of_getElem? (i := 2) rfl))) (mvT hZ (hw _ (List.mem_of_getElem? (i := 3) rfl))) (by decide) (backOf (W := 0) (rm1 l Z a0 hw [] (0 : Int32) w_TRUE w_FALSE h0 n0 Z0 S_w_TRUE S_w_FALSE) hZ (hw _ (List.mem_of_getElem? (i := 3) rfl)) (hw _ (List.mem_of_getElem? (i := 2) rfl)) (by decide) (by decide)) (g := (mkF m 13 #[.val (.int p1), .val (.int (0 : Int32)), .unset, .unset, .unset, .unset] [(.int (0 : Int32))])) rfl (by rw [hml]; rfl) (argsL := [(.int (0 : Int32))]) (rest := []) (lenOf pd_0 rfl) rfl (by show 2 * 0 + _ ≤ _; exact Nat.le_of_eq rfl) (hb hby at_13) (fun _ _ => ⟨rfl, e0, (by decide : 0 + 0 ≤ _), (by decide : 0 + 0 ≤ _)⟩)
    dsimp only [Pt.U, Pt.locs, Pt.cells, Pt.slots] at X3 l3 y3 z3 st3 hQ3
    subst l3 y3 z3
    obtain ⟨rfl, N3q, e3⟩ := hQ3
    have N3 := Fr.app N0 N3q
    obtain ⟨_, _, ⟨T4, L4, k4, n4⟩, -, X4, ⟨Lc4, hQ4, l4, y4, z4⟩, st4⟩ := Jvm.LawKit.callS X3 hx (y := (⟨"com/example/eventloom/eventloom/Item$Truth", "of", "(Z)Lcom/example/eventloom/eventloom/Item$Truth;"⟩ : MethodName)) hown (mvT hZ (hw _ (List.mem_of_getElem? (i := 0) rfl))) (mvT hZ (hw _ (List.mem_of_getElem? (i := 1) rfl))) (mvT hZ (hw _ (List.mem_of_getElem? (i := 2) rfl))) (mvT hZ (hw _ (List.mem_of_getElem? (i := 3) rfl))) (by decide) (backOf (W := 0) (rm1 l Z a0 hw [] (1 : Int32) w_TRUE w_FALSE h0 n0 Z0 S_w_TRUE S_w_FALSE) hZ (hw _ (List.mem_of_getElem? (i := 3) rfl)) (hw _ (List.mem_of_getElem? (i := 2) rfl)) (by decide) (by decide)) (g := (mkF m 26 #[.val (.int p1), .val (.int (0 : Int32)), .val (.ref w_FALSE), .unset, .unset, .unset] [(.int (1 : Int32))])) rfl (by rw [hml]; rfl) (argsL := [(.int (1 : Int32))]) (rest := []) (lenOf pd_0 rfl) rfl (by show 2 * 0 + _ ≤ _; exact Nat.le_of_eq rfl) (hb hby at_26) (fun _ _ => ⟨rfl, e3, (by decide : 0 + 0 ≤ _), (by decide : 0 + 0 ≤ _)⟩)
    dsimp only [Pt.U, Pt.locs, Pt.cells, Pt.slots] at X4 l4 y4 z4 st4 hQ4
    subst l4 y4 z4
    obtain ⟨rfl, N4q, e4⟩ := hQ4
    have N4 := Fr.app N3 N4q
    obtain ⟨cq5, kq5, q5a, q5b, q5c⟩ := isOf hZ e4 E_w_FALSE
    obtain ⟨_, _, ⟨T5, L5, k5, n5⟩, -, X5, ⟨Lc5, hQ5, l5, y5, z5⟩, st5⟩ := X4.virtualBack hx (y := (⟨"com/example/eventloom/eventloom/Item$Truth", "value", "()Z"⟩ : MethodName)) (z := (⟨"com/example/eventloom/eventloom/Item$Truth", "value", "()Z"⟩ : MethodName)) hown (mvT hZ (hw _ (List.mem_of_getElem? (i := 8) rfl))) (mvT hZ (hw _ (List.mem_of_getElem? (i := 9) rfl))) (notFace_of_selects (args := #[]) (mvT hZ (hw _ (List.mem_of_getElem? (i := 11) rfl)))) (mvT hZ (hw _ (List.mem_of_getElem? (i := 11) rfl))) (mvT hZ (hw _ (List.mem_of_getElem? (i := 10) rfl))) (by decide) (backOf (W := 0) (rm2 l Z a0 hw [] w_FALSE (0 : Int32) h0 n0 Z0 F_w_FALSE_value) hZ (hw _ (List.mem_of_getElem? (i := 12) rfl)) (hw _ (List.mem_of_getElem? (i := 2) rfl)) (by decide) (by decide)) q5a q5c (g := (mkF m 41 #[.val (.int p1), .val (.int (0 : Int32)), .val (.ref w_FALSE), .val (.ref w_TRUE), .unset, .unset] [(.ref w_FALSE)])) rfl (by rw [hml]; rfl) (Steps.refl _) (argsL := []) (rest := []) (lenOf pd_1 rfl) rfl (by show 2 * 0 + _ ≤ _; exact Nat.le_of_eq rfl) (hb hby at_41) (fun _ _ => ⟨rfl, e4, (by decide : 0 + 0 ≤ _), (by decide : 0 + 0 ≤ _)⟩)
    dsimp only [Pt.U, Pt.locs, Pt.cells, Pt.slots] at X5 l5 y5 z5 st5 hQ5
    subst l5 y5 z5
    obtain ⟨rfl, N5q, e5⟩ := hQ5
    have N5 := Fr.app N4 N5q
    obtain ⟨cq6, kq6, q6a, q6b, q6c⟩ := isOf hZ e5 E_w_TRUE
    obtain ⟨_, _, ⟨T6, L6, k6, n6⟩, -, X6, ⟨Lc6, hQ6, l6, y6, z6⟩, st6⟩ := X5.virtualBack hx (y := (⟨"com/example/eventloom/eventloom/Item$Truth", "value", "()Z"⟩ : MethodName)) (z := (⟨"com/example/eventloom/eventloom/Item$Truth", "value", "()Z"⟩ : MethodName)) hown (mvT hZ (hw _ (List.mem_of_getElem? (i := 8) rfl))) (mvT hZ (hw _ (List.mem_of_getElem? (i := 9) rfl))) (notFace_of_selects (args := #[]) (mvT hZ (hw _ (List.mem_of_getElem? (i := 11) rfl)))) (mvT hZ (hw _ (List.mem_of_getElem? (i := 11) rfl))) (mvT hZ (hw _ (List.mem_of_getElem? (i := 10) rfl))) (by decide) (backOf (W := 0) (rm2 l Z a0 hw [] w_TRUE (1 : Int32) h0 n0 Z0 F_w_TRUE_value) hZ (hw _ (List.mem_of_getElem? (i := 12) rfl)) (hw _ (List.mem_of_getElem? (i := 2) rfl)) (by decide) (by decide)) q6a q6c (g := (mkF m 49 #[.val (.int p1), .val (.int (0 : Int32)), .val (.ref w_FALSE), .val (.ref w_TRUE), .unset, .unset] [(.ref w_TRUE)])) rfl (by rw [hml]; rfl) (Steps.refl _) (argsL := []) (rest := []) (lenOf pd_1 rfl) rfl (by show 2 * 0 + _ ≤ _; exact Nat.le_of_eq rfl) (hb hby at_49) (fun _ _ => ⟨rfl, e5, (by decide : 0 + 0 ≤ _), (by decide : 0 + 0 ≤ _)⟩)
    dsimp only [Pt.U, Pt.locs, Pt.cells, Pt.slots] at X6 l6 y6 z6 st6 hQ6
    subst l6 y6 z6
    obtain ⟨rfl, N6q, e6⟩ := hQ6
    have N6 := Fr.app N5 N6q
    obtain ⟨T7, X7, e7, st7⟩ := getS2 X6 hx hZ hown (host := "") (Or.inl (hw _ (List.mem_of_getElem? (i := 15) rfl))) Via.refl e6 S_w_FALSE (g := (mkF m 82 #[.val (.int p1), .val (.int (0 : Int32)), .val (.ref w_FALSE), .val (.ref w_TRUE), .val (.int (1 : Int32)), .unset] [(.ref w_FALSE)])) rfl (hb hby at_82)
    obtain ⟨T8, X8, e8, st8⟩ := getS2 X7 hx hZ hown (host := "") (Or.inl (hw _ (List.mem_of_getElem? (i := 16) rfl))) Via.refl e7 S_w_TRUE (g := (mkF m 99 #[.val (.int p1), .val (.int (0 : Int32)), .val (.ref w_FALSE), .val (.ref w_TRUE), .val (.int (1 : Int32)), .unset] [(.ref w_TRUE)])) rfl (hb hby at_99)
    obtain ⟨fs, hr, hrun, hended, hW, hsame⟩ := X8.leave (v := some (.int (1 : Int32))) (fun h => by rw [Bd.returns] at h; cases h)
    refine ⟨_, _, pre1 _ ?_, hrun, hended, _, _, rfl, ?_, ⟨_, rfl⟩, hW, hsame.mono (by decide) (by decide)⟩
    · show Steps p.tables e below (s₁.setTop (mkF m 3 #[.val (.int p1), .unset, .unset, .unset, .unset, .unset] [(.int (p1 &&& (1 : Int32)))])) _
      refine XS.ifYes X0.here hx rfl (pc0 := 3) (pc' := 10) rfl (hb hby at_3) rfl ((if0 _ _).trans (teq hc3_2).1) (by decide) (by decide) ?_
      show Steps p.tables e below (s₁.setTop (mkF m 10 #[.val (.int p1), .unset, .unset, .unset, .unset, .unset] [])) _
      refine XS.iconst X0.here hx rfl (hb hby at_10) ?_
      show Steps p.tables e below (s₁.setTop (mkF m 11 #[.val (.int p1), .unset, .unset, .unset, .unset, .unset] [(.int (0 : Int32))])) _
      refine XS.istoreN X0.here hx rfl (hb hby at_11) rfl (l' := #[.val (.int p1), .val (.int (0 : Int32)), .unset, .unset, .unset, .unset]) rfl ?_
      show Steps p.tables e below (s₁.setTop (mkF m 12 #[.val (.int p1), .val (.int (0 : Int32)), .unset, .unset, .unset, .unset] [])) _
      refine XS.iloadN X0.here hx rfl (hb hby at_12) rfl ?_
      show Steps p.tables e below (s₁.setTop (mkF m 13 #[.val (.int p1), .val (.int (0 : Int32)), .unset, .unset, .unset, .unset] [(.int (0 : Int32))])) _
      refine st3 _ ?_
      show Steps p.tables e below (T3.setTop (mkF m 16 #[.val (.int p1), .val (.int (0 : Int32)), .unset, .unset, .unset, .unset] [(.ref w_FALSE)])) _
      refine XS.astoreN X3.here hx rfl (hb hby at_16) rfl rfl (l' := #[.val (.int p1), .val (.int (0 : Int32)), .val (.ref w_FALSE), .unset, .unset, .unset]) rfl ?_
      show Steps p.tables e below (T3.setTop (mkF m 17 #[.val (.int p1), .val (.int (0 : Int32)), .val (.ref w_FALSE), .unset, .unset, .unset] [])) _
      refine XS.iloadN X3.here hx rfl (hb hby at_17) rfl ?_
      show Steps p.tables e below (T3.setTop (mkF m 18 #[.val (.int p1), .val (.int (0 : Int32)), .val (.ref w_FALSE), .unset, .unset, .unset] [(.int (0 : Int32))])) _
      refine XS.ifNo X3.here hx rfl (hb hby at_18) rfl ((if0 _ _).trans (teq (by decide : ((0 : Int32) = (0 : Int32)))).2) ?_
      show Steps p.tables e below (T3.setTop (mkF m 21 #[.val (.int p1), .val (.int (0 : Int32)), .val (.ref w_FALSE), .unset, .unset, .unset] [])) _
      refine XS.iconst X3.here hx rfl (hb hby at_21) ?_
      show Steps p.tables e below (T3.setTop (mkF m 22 #[.val (.int p1), .val (.int (0 : Int32)), .val (.ref w_FALSE), .unset, .unset, .unset] [(.int (1 : Int32))])) _
      refine XS.goto X3.here hx rfl (pc0 := 22) (pc' := 26) rfl (hb hby at_22) (by decide) (by decide) ?_
      show Steps p.tables e below (T3.setTop (mkF m 26 #[.val (.int p1), .val (.int (0 : Int32)), .val (.ref w_FALSE), .unset, .unset, .unset] [(.int (1 : Int32))])) _
      refine st4 _ ?_
      show Steps p.tables e below (T4.setTop (mkF m 29 #[.val (.int p1), .val (.int (0 : Int32)), .val (.ref w_FALSE), .unset, .unset, .unset] [(.ref w_TRUE)])) _
      refine XS.astoreN X4.here hx rfl (hb hby at_29) rfl rfl (l' := #[.val (.int p1), .val (.int (0 : Int32)), .val (.ref w_FALSE), .val (.ref w_TRUE), .unset, .unset]) rfl ?_
      show Steps p.tables e below (T4.setTop (mkF m 30 #[.val (.int p1), .val (.int (0 : Int32)), .val (.ref w_FALSE), .val (.ref w_TRUE), .unset, .unset] [])) _
      refine XS.aloadN X4.here hx rfl (hb hby at_30) rfl rfl ?_
      show Steps p.tables e below (T4.setTop (mkF m 31 #[.val (.int p1), .val (.int (0 : Int32)), .val (.ref w_FALSE), .val (.ref w_TRUE), .unset, .unset] [(.ref w_FALSE)])) _
      refine XS.ifnullNo X4.here hx rfl (hb hby at_31) rfl ?_
      show Steps p.tables e below (T4.setTop (mkF m 34 #[.val (.int p1), .val (.int (0 : Int32)), .val (.ref w_FALSE), .val (.ref w_TRUE), .unset, .unset] [])) _
      refine XS.aloadN X4.here hx rfl (hb hby at_34) rfl rfl ?_
      show Steps p.tables e below (T4.setTop (mkF m 35 #[.val (.int p1), .val (.int (0 : Int32)), .val (.ref w_FALSE), .val (.ref w_TRUE), .unset, .unset] [(.ref w_TRUE)])) _
      refine XS.ifnonnullYes X4.here hx rfl (pc0 := 35) (pc' := 40) rfl (hb hby at_35) rfl (by decide) (by decide) ?_
      show Steps p.tables e below (T4.setTop (mkF m 40 #[.val (.int p1), .val (.int (0 : Int32)), .val (.ref w_FALSE), .val (.ref w_TRUE), .unset, .unset] [])) _
      refine XS.aloadN X4.here hx rfl (hb hby at_40) rfl rfl ?_
      show Steps p.tables e below (T4.setTop (mkF m 41 #[.val (.int p1), .val (.int (0 : Int32)), .val (.ref w_FALSE), .val (.ref w_TRUE), .unset, .unset] [(.ref w_FALSE)])) _
      refine st5.trans ?_
      show Steps p.tables e below (T5.setTop (mkF m 44 #[.val (.int p1), .val (.int (0 : Int32)), .val (.ref w_FALSE), .val (.ref w_TRUE), .unset, .unset] [(.int (0 : Int32))])) _
      refine XS.iloadN X5.here hx rfl (hb hby at_44) rfl ?_
      show Steps p.tables e below (T5.setTop (mkF m 45 #[.val (.int p1), .val (.int (0 : Int32)), .val (.ref w_FALSE), .val (.ref w_TRUE), .unset, .unset] [(.int (0 : Int32)), (.int (0 : Int32))])) _
      refine XS.icmpNo X5.here hx rfl (hb hby at_45) rfl (teq (by decide : ((0 : Int32) = (0 : Int32)))).2 ?_
      show Steps p.tables e below (T5.setTop (mkF m 48 #[.val (.int p1), .val (.int (0 : Int32)), .val (.ref w_FALSE), .val (.ref w_TRUE), .unset, .unset] [])) _
      refine XS.aloadN X5.here hx rfl (hb hby at_48) rfl rfl ?_
      show Steps p.tables e below (T5.setTop (mkF m 49 #[.val (.int p1), .val (.int (0 : Int32)), .val (.ref w_FALSE), .val (.ref w_TRUE), .unset, .unset] [(.ref w_TRUE)])) _
      refine st6.trans ?_
      show Steps p.tables e below (T6.setTop (mkF m 52 #[.val (.int p1), .val (.int (0 : Int32)), .val (.ref w_FALSE), .val (.ref w_TRUE), .unset, .unset] [(.int (1 : Int32))])) _
      refine XS.iloadN X6.here hx rfl (hb hby at_52) rfl ?_
      show Steps p.tables e below (T6.setTop (mkF m 53 #[.val (.int p1), .val (.int (0 : Int32)), .val (.ref w_FALSE), .val (.ref w_TRUE), .unset, .unset] [(.int (0 : Int32)), (.int (1 : Int32))])) _
      refine XS.ifNo X6.here hx rfl (hb hby at_53) rfl ((if0 _ _).trans (teq (by decide : ((0 : Int32) = (0 : Int32)))).2) ?_
      show Steps p.tables e below (T6.setTop (mkF m 56 #[.val (.int p1), .val (.int (0 : Int32)), .val (.ref w_FALSE), .val (.ref w_TRUE), .unset, .unset] [(.int (1 : Int32))])) _
      refine XS.iconst X6.here hx rfl (hb hby at_56) ?_
      show Steps p.tables e below (T6.setTop (mkF m 57 #[.val (.int p1), .val (.int (0 : Int32)), .val (.ref w_FALSE), .val (.ref w_TRUE), .unset, .unset] [(.int (1 : Int32)), (.int (1 : Int32))])) _
      refine XS.goto X6.here hx rfl (pc0 := 57) (pc' := 61) rfl (hb hby at_57) (by decide) (by decide) ?_
      show Steps p.tables e below (T6.setTop (mkF m 61 #[.val (.int p1), .val (.int (0 : Int32)), .val (.ref w_FALSE), .val (.ref w_TRUE), .unset, .unset] [(.int (1 : Int32)), (.int (1 : Int32))])) _
      refine XS.icmpNo X6.here hx rfl (hb hby at_61) rfl (teq (by decide : ((1 : Int32) = (1 : Int32)))).2 ?_
      show Steps p.tables e below (T6.setTop (mkF m 64 #[.val (.int p1), .val (.int (0 : Int32)), .val (.ref w_FALSE), .val (.ref w_TRUE), .unset, .unset] [])) _
      refine XS.iconst X6.here hx rfl (hb hby at_64) ?_
      show Steps p.tables e below (T6.setTop (mkF m 65 #[.val (.int p1), .val (.int (0 : Int32)), .val (.ref w_FALSE), .val (.ref w_TRUE), .unset, .unset] [(.int (1 : Int32))])) _
      refine XS.goto X6.here hx rfl (pc0 := 65) (pc' := 69) rfl (hb hby at_65) (by decide) (by decide) ?_
      show Steps p.tables e below (T6.setTop (mkF m 69 #[.val (.int p1), .val (.int (0 : Int32)), .val (.ref w_FALSE), .val (.ref w_TRUE), .unset, .unset] [(.int (1 : Int32))])) _
      refine XS.istore X6.here hx rfl (hb hby at_69) rfl (l' := #[.val (.int p1), .val (.int (0 : Int32)), .val (.ref w_FALSE), .val (.ref w_TRUE), .val (.int (1 : Int32)), .unset]) rfl ?_
      show Steps p.tables e below (T6.setTop (mkF m 71 #[.val (.int p1), .val (.int (0 : Int32)), .val (.ref w_FALSE), .val (.ref w_TRUE), .val (.int (1 : Int32)), .unset] [])) _
      refine XS.aloadN X6.here hx rfl (hb hby at_71) rfl rfl ?_
      show Steps p.tables e below (T6.setTop (mkF m 72 #[.val (.int p1), .val (.int (0 : Int32)), .val (.ref w_FALSE), .val (.ref w_TRUE), .val (.int (1 : Int32)), .unset] [(.ref w_FALSE)])) _
      refine XS.iloadN X6.here hx rfl (hb hby at_72) rfl ?_
      show Steps p.tables e below (T6.setTop (mkF m 73 #[.val (.int p1), .val (.int (0 : Int32)), .val (.ref w_FALSE), .val (.ref w_TRUE), .val (.int (1 : Int32)), .unset] [(.int (0 : Int32)), (.ref w_FALSE)])) _
      refine XS.ifYes X6.here hx rfl (pc0 := 73) (pc' := 82) rfl (hb hby at_73) rfl ((if0 _ _).trans (teq (by decide : ((0 : Int32) = (0 : Int32)))).1) (by decide) (by decide) ?_
      show Steps p.tables e below (T6.setTop (mkF m 82 #[.val (.int p1), .val (.int (0 : Int32)), .val (.ref w_FALSE), .val (.ref w_TRUE), .val (.int (1 : Int32)), .unset] [(.ref w_FALSE)])) _
      refine st7 _ ?_
      show Steps p.tables e below (T7.setTop (mkF m 85 #[.val (.int p1), .val (.int (0 : Int32)), .val (.ref w_FALSE), .val (.ref w_TRUE), .val (.int (1 : Int32)), .unset] [(.ref w_FALSE), (.ref w_FALSE)])) _
      refine Jvm.RoadKit.acmp (g := (mkF m 85 #[.val (.int p1), .val (.int (0 : Int32)), .val (.ref w_FALSE), .val (.ref w_TRUE), .val (.int (1 : Int32)), .unset] [(.ref w_FALSE), (.ref w_FALSE)])) X7 hx rfl rfl rfl (pc0 := 85) (pc' := 88) (same := true) rfl (hb hby at_85) rfl (decide_eq_true rfl) (by decide) (by decide) ?_
      show Steps p.tables e below (T7.setTop (mkF m 88 #[.val (.int p1), .val (.int (0 : Int32)), .val (.ref w_FALSE), .val (.ref w_TRUE), .val (.int (1 : Int32)), .unset] [])) _
      refine XS.aloadN X7.here hx rfl (hb hby at_88) rfl rfl ?_
      show Steps p.tables e below (T7.setTop (mkF m 89 #[.val (.int p1), .val (.int (0 : Int32)), .val (.ref w_FALSE), .val (.ref w_TRUE), .val (.int (1 : Int32)), .unset] [(.ref w_TRUE)])) _
      refine XS.iloadN X7.here hx rfl (hb hby at_89) rfl ?_
      show Steps p.tables e below (T7.setTop (mkF m 90 #[.val (.int p1), .val (.int (0 : Int32)), .val (.ref w_FALSE), .val (.ref w_TRUE), .val (.int (1 : Int32)), .unset] [(.int (0 : Int32)), (.ref w_TRUE)])) _
      refine XS.ifYes X7.here hx rfl (pc0 := 90) (pc' := 99) rfl (hb hby at_90) rfl ((if0 _ _).trans (teq (by decide : ((0 : Int32) = (0 : Int32)))).1) (by decide) (by decide) ?_
      show Steps p.tables e below (T7.setTop (mkF m 99 #[.val (.int p1), .val (.int (0 : Int32)), .val (.ref w_FALSE), .val (.ref w_TRUE), .val (.int (1 : Int32)), .unset] [(.ref w_TRUE)])) _
      refine st8 _ ?_
      show Steps p.tables e below (T8.setTop (mkF m 102 #[.val (.int p1), .val (.int (0 : Int32)), .val (.ref w_FALSE), .val (.ref w_TRUE), .val (.int (1 : Int32)), .unset] [(.ref w_TRUE), (.ref w_TRUE)])) _
      refine Jvm.RoadKit.acmp (g := (mkF m 102 #[.val (.int p1), .val (.int (0 : Int32)), .val (.ref w_FALSE), .val (.ref w_TRUE), .val (.int (1 : Int32)), .unset] [(.ref w_TRUE), (.ref w_TRUE)])) X8 hx rfl rfl rfl (pc0 := 102) (pc' := 105) (same := true) rfl (hb hby at_102) rfl (decide_eq_true rfl) (by decide) (by decide) ?_
      show Steps p.tables e below (T8.setTop (mkF m 105 #[.val (.int p1), .val (.int (0 : Int32)), .val (.ref w_FALSE), .val (.ref w_TRUE), .val (.int (1 : Int32)), .unset] [])) _
      refine XS.iconst X8.here hx rfl (hb hby at_105) ?_
      show Steps p.tables e below (T8.setTop (mkF m 106 #[.val (.int p1), .val (.int (0 : Int32)), .val (.ref w_FALSE), .val (.ref w_TRUE), .val (.int (1 : Int32)), .unset] [(.int (1 : Int32))])) _
      refine XS.goto X8.here hx rfl (pc0 := 106) (pc' := 110) rfl (hb hby at_106) (by decide) (by decide) ?_
      show Steps p.tables e below (T8.setTop (mkF m 110 #[.val (.int p1), .val (.int (0 : Int32)), .val (.ref w_FALSE), .val (.ref w_TRUE), .val (.int (1 : Int32)), .unset] [(.int (1 : Int32))])) _
      refine XS.istore X8.here hx rfl (hb hby at_110) rfl (l' := #[.val (.int p1), .val (.int (0 : Int32)), .val (.ref w_FALSE), .val (.ref w_TRUE), .val (.int (1 : Int32)), .val (.int (1 : Int32))]) rfl ?_
      show Steps p.tables e below (T8.setTop (mkF m 112 #[.val (.int p1), .val (.int (0 : Int32)), .val (.ref w_FALSE), .val (.ref w_TRUE), .val (.int (1 : Int32)), .val (.int (1 : Int32))] [])) _
      refine XS.iload X8.here hx rfl (hb hby at_112) rfl ?_
      show Steps p.tables e below (T8.setTop (mkF m 114 #[.val (.int p1), .val (.int (0 : Int32)), .val (.ref w_FALSE), .val (.ref w_TRUE), .val (.int (1 : Int32)), .val (.int (1 : Int32))] [(.int (1 : Int32))])) _
      refine XS.ifNo X8.here hx rfl (hb hby at_114) rfl ((if0 _ _).trans (feq (by decide : ¬ ((1 : Int32) = (0 : Int32)))).1) ?_
      show Steps p.tables e below (T8.setTop (mkF m 117 #[.val (.int p1), .val (.int (0 : Int32)), .val (.ref w_FALSE), .val (.ref w_TRUE), .val (.int (1 : Int32)), .val (.int (1 : Int32))] [])) _
      refine XS.iload X8.here hx rfl (hb hby at_117) rfl ?_
      show Steps p.tables e below (T8.setTop (mkF m 119 #[.val (.int p1), .val (.int (0 : Int32)), .val (.ref w_FALSE), .val (.ref w_TRUE), .val (.int (1 : Int32)), .val (.int (1 : Int32))] [(.int (1 : Int32))])) _
      refine XS.ifNo X8.here hx rfl (hb hby at_119) rfl ((if0 _ _).trans (feq (by decide : ¬ ((1 : Int32) = (0 : Int32)))).1) ?_
      show Steps p.tables e below (T8.setTop (mkF m 122 #[.val (.int p1), .val (.int (0 : Int32)), .val (.ref w_FALSE), .val (.ref w_TRUE), .val (.int (1 : Int32)), .val (.int (1 : Int32))] [])) _
      refine XS.iconst X8.here hx rfl (hb hby at_122) ?_
      show Steps p.tables e below (T8.setTop (mkF m 123 #[.val (.int p1), .val (.int (0 : Int32)), .val (.ref w_FALSE), .val (.ref w_TRUE), .val (.int (1 : Int32)), .val (.int (1 : Int32))] [(.int (1 : Int32))])) _
      refine XS.goto X8.here hx rfl (pc0 := 123) (pc' := 127) rfl (hb hby at_123) (by decide) (by decide) ?_
      show Steps p.tables e below (T8.setTop (mkF m 127 #[.val (.int p1), .val (.int (0 : Int32)), .val (.ref w_FALSE), .val (.ref w_TRUE), .val (.int (1 : Int32)), .val (.int (1 : Int32))] [(.int (1 : Int32))])) _
      exact retN X8 hx (t := .boolean) Bd.returns (by simp) (hb hby at_127) hr
    · show Q_rm0 Z p1 w_FALSE w_TRUE h0 n0 _ T8.heap _
      rw [e8]
      exact ⟨rfl, N6⟩
  · obtain ⟨_, _, ⟨T9, L9, k9, n9⟩, -, X9, ⟨Lc9, hQ9, l9, y9, z9⟩, st9⟩ := Jvm.LawKit.callS X0 hx (y := (⟨"com/example/eventloom/eventloom/Item$Truth", "of", "(Z)Lcom/example/eventloom/eventloom/Item$Truth;"⟩ : MethodName)) hown (mvT hZ (hw _ (List.mem_of_getElem? (i := 0) rfl))) (mvT hZ (hw _ (List.mem_of_getElem? (i := 1) rfl))) (mvT hZ (hw _ (List.mem_of_getElem? (i := 2) rfl))) (mvT hZ (hw _ (List.mem_of_getElem? (i := 3) rfl))) (by decide) (backOf (W := 0) (rm1 l Z a0 hw [] (1 : Int32) w_TRUE w_FALSE h0 n0 Z0 S_w_TRUE S_w_FALSE) hZ (hw _ (List.mem_of_getElem? (i := 3) rfl)) (hw _ (List.mem_of_getElem? (i := 2) rfl)) (by decide) (by decide)) (g := (mkF m 13 #[.val (.int p1), .val (.int (1 : Int32)), .unset, .unset, .unset, .unset] [(.int (1 : Int32))])) rfl (by rw [hml]; rfl) (argsL := [(.int (1 : Int32))]) (rest := []) (lenOf pd_0 rfl) rfl (by show 2 * 0 + _ ≤ _; exact Nat.le_of_eq rfl) (hb hby at_13) (fun _ _ => ⟨rfl, e0, (by decide : 0 + 0 ≤ _), (by decide : 0 + 0 ≤ _)⟩)
    dsimp only [Pt.U, Pt.locs, Pt.cells, Pt.slots] at X9 l9 y9 z9 st9 hQ9
    subst l9 y9 z9
    obtain ⟨rfl, N9q, e9⟩ := hQ9
    have N9 := Fr.app N0 N9q
    obtain ⟨_, _, ⟨T10, L10, k10, n10⟩, -, X10, ⟨Lc10, hQ10, l10, y10, z10⟩, st10⟩ := Jvm.LawKit.callS X9 hx (y := (⟨"com/example/eventloom/eventloom/Item$Truth", "of", "(Z)Lcom/example/eventloom/eventloom/Item$Truth;"⟩ : MethodName)) hown (mvT hZ (hw _ (List.mem_of_getElem? (i := 0) rfl))) (mvT hZ (hw _ (List.mem_of_getElem? (i := 1) rfl))) (mvT hZ (hw _ (List.mem_of_getElem? (i := 2) rfl))) (mvT hZ (hw _ (List.mem_of_getElem? (i := 3) rfl))) (by decide) (backOf (W := 0) (rm1 l Z a0 hw [] (0 : Int32) w_TRUE w_FALSE h0 n0 Z0 S_w_TRUE S_w_FALSE) hZ (hw _ (List.mem_of_getElem? (i := 3) rfl)) (hw _ (List.mem_of_getElem? (i := 2) rfl)) (by decide) (by decide)) (g := (mkF m 26 #[.val (.int p1), .val (.int (1 : Int32)), .val (.ref w_TRUE), .unset, .unset, .unset] [(.int (0 : Int32))])) rfl (by rw [hml]; rfl) (argsL := [(.int (0 : Int32))]) (rest := []) (lenOf pd_0 rfl) rfl (by show 2 * 0 + _ ≤ _; exact Nat.le_of_eq rfl) (hb hby at_26) (fun _ _ => ⟨rfl, e9, (by decide : 0 + 0 ≤ _), (by decide : 0 + 0 ≤ _)⟩)
    dsimp only [Pt.U, Pt.locs, Pt.cells, Pt.slots] at X10 l10 y10 z10 st10 hQ10
    subst l10 y10 z10
    obtain ⟨rfl, N10q, e10⟩ := hQ10
    have N10 := Fr.app N9 N10q
    obtain ⟨cq11, kq11, q11a, q11b, q11c⟩ := isOf hZ e10 E_w_TRUE
    obtain ⟨_, _, ⟨T11, L11, k11, n11⟩, -, X11, ⟨Lc11, hQ11, l11, y11, z11⟩, st11⟩ := X10.virtualBack hx (y := (⟨"com/example/eventloom/eventloom/Item$Truth", "value", "()Z"⟩ : MethodName)) (z := (⟨"com/example/eventloom/eventloom/Item$Truth", "value", "()Z"⟩ : MethodName)) hown (mvT hZ (hw _ (List.mem_of_getElem? (i := 8) rfl))) (mvT hZ (hw _ (List.mem_of_getElem? (i := 9) rfl))) (notFace_of_selects (args := #[]) (mvT hZ (hw _ (List.mem_of_getElem? (i := 11) rfl)))) (mvT hZ (hw _ (List.mem_of_getElem? (i := 11) rfl))) (mvT hZ (hw _ (List.mem_of_getElem? (i := 10) rfl))) (by decide) (backOf (W := 0) (rm2 l Z a0 hw [] w_TRUE (1 : Int32) h0 n0 Z0 F_w_TRUE_value) hZ (hw _ (List.mem_of_getElem? (i := 12) rfl)) (hw _ (List.mem_of_getElem? (i := 2) rfl)) (by decide) (by decide)) q11a q11c (g := (mkF m 41 #[.val (.int p1), .val (.int (1 : Int32)), .val (.ref w_TRUE), .val (.ref w_FALSE), .unset, .unset] [(.ref w_TRUE)])) rfl (by rw [hml]; rfl) (Steps.refl _) (argsL := []) (rest := []) (lenOf pd_1 rfl) rfl (by show 2 * 0 + _ ≤ _; exact Nat.le_of_eq rfl) (hb hby at_41) (fun _ _ => ⟨rfl, e10, (by decide : 0 + 0 ≤ _), (by decide : 0 + 0 ≤ _)⟩)
    dsimp only [Pt.U, Pt.locs, Pt.cells, Pt.slots] at X11 l11 y11 z11 st11 hQ11
    subst l11 y11 z11
    obtain ⟨rfl, N11q, e11⟩ := hQ11
    have N11 := Fr.app N10 N11q
    obtain ⟨cq12, kq12, q12a, q12b, q12c⟩ := isOf hZ e11 E_w_FALSE
    obtain ⟨_, _, ⟨T12, L12, k12, n12⟩, -, X12, ⟨Lc12, hQ12, l12, y12, z12⟩, st12⟩ := X11.virtualBack hx (y := (⟨"com/example/eventloom/eventloom/Item$Truth", "value", "()Z"⟩ : MethodName)) (z := (⟨"com/example/eventloom/eventloom/Item$Truth", "value", "()Z"⟩ : MethodName)) hown (mvT hZ (hw _ (List.mem_of_getElem? (i := 8) rfl))) (mvT hZ (hw _ (List.mem_of_getElem? (i := 9) rfl))) (notFace_of_selects (args := #[]) (mvT hZ (hw _ (List.mem_of_getElem? (i := 11) rfl)))) (mvT hZ (hw _ (List.mem_of_getElem? (i := 11) rfl))) (mvT hZ (hw _ (List.mem_of_getElem? (i := 10) rfl))) (by decide) (backOf (W := 0) (rm2 l Z a0 hw [] w_FALSE (0 : Int32) h0 n0 Z0 F_w_FALSE_value) hZ (hw _ (List.mem_of_getElem? (i := 12) rfl)) (hw _ (List.mem_of_getElem? (i := 2) rfl)) (by decide) (by decide)) q12a q12c (g := (mkF m 49 #[.val (.int p1), .val (.int (1 : Int32)), .val (.ref w_TRUE), .val (.ref w_FALSE), .unset, .unset] [(.ref w_FALSE)])) rfl (by rw [hml]; rfl) (Steps.refl _) (argsL := []) (rest := []) (lenOf pd_1 rfl) rfl (by show 2 * 0 + _ ≤ _; exact Nat.le_of_eq rfl) (hb hby at_49) (fun _ _ => ⟨rfl, e11, (by decide : 0 + 0 ≤ _), (by decide : 0 + 0 ≤ _)⟩)
    dsimp only [Pt.U, Pt.locs, Pt.cells, Pt.slots] at X12 l12 y12 z12 st12 hQ12
    subst l12 y12 z12
    obtain ⟨rfl, N12q, e12⟩ := hQ12
    have N12 := Fr.app N11 N12q
    obtain ⟨T13, X13, e13, st13⟩ := getS2 X12 hx hZ hown (host := "") (Or.inl (hw _ (List.mem_of_getElem? (i := 16) rfl))) Via.refl e12 S_w_TRUE (g := (mkF m 76 #[.val (.int p1), .val (.int (1 : Int32)), .val (.ref w_TRUE), .val (.ref w_FALSE), .val (.int (1 : Int32)), .unset] [(.ref w_TRUE)])) rfl (hb hby at_76)
    obtain ⟨T14, X14, e14, st14⟩ := getS2 X13 hx hZ hown (host := "") (Or.inl (hw _ (List.mem_of_getElem? (i := 15) rfl))) Via.refl e13 S_w_FALSE (g := (mkF m 93 #[.val (.int p1), .val (.int (1 : Int32)), .val (.ref w_TRUE), .val (.ref w_FALSE), .val (.int (1 : Int32)), .unset] [(.ref w_FALSE)])) rfl (hb hby at_93)
    obtain ⟨fs, hr, hrun, hended, hW, hsame⟩ := X14.leave (v := some (.int (1 : Int32))) (fun h => by rw [Bd.returns] at h; cases h)
    refine ⟨_, _, pre1 _ ?_, hrun, hended, _, _, rfl, ?_, ⟨_, rfl⟩, hW, hsame.mono (by decide) (by decide)⟩
    · show Steps p.tables e below (s₁.setTop (mkF m 3 #[.val (.int p1), .unset, .unset, .unset, .unset, .unset] [(.int (p1 &&& (1 : Int32)))])) _
      refine XS.ifNo X0.here hx rfl (hb hby at_3) rfl ((if0 _ _).trans (feq hc3_2).1) ?_
      show Steps p.tables e below (s₁.setTop (mkF m 6 #[.val (.int p1), .unset, .unset, .unset, .unset, .unset] [])) _
      refine XS.iconst X0.here hx rfl (hb hby at_6) ?_
      show Steps p.tables e below (s₁.setTop (mkF m 7 #[.val (.int p1), .unset, .unset, .unset, .unset, .unset] [(.int (1 : Int32))])) _
      refine XS.goto X0.here hx rfl (pc0 := 7) (pc' := 11) rfl (hb hby at_7) (by decide) (by decide) ?_
      show Steps p.tables e below (s₁.setTop (mkF m 11 #[.val (.int p1), .unset, .unset, .unset, .unset, .unset] [(.int (1 : Int32))])) _
      refine XS.istoreN X0.here hx rfl (hb hby at_11) rfl (l' := #[.val (.int p1), .val (.int (1 : Int32)), .unset, .unset, .unset, .unset]) rfl ?_
      show Steps p.tables e below (s₁.setTop (mkF m 12 #[.val (.int p1), .val (.int (1 : Int32)), .unset, .unset, .unset, .unset] [])) _
      refine XS.iloadN X0.here hx rfl (hb hby at_12) rfl ?_
      show Steps p.tables e below (s₁.setTop (mkF m 13 #[.val (.int p1), .val (.int (1 : Int32)), .unset, .unset, .unset, .unset] [(.int (1 : Int32))])) _
      refine st9 _ ?_
      show Steps p.tables e below (T9.setTop (mkF m 16 #[.val (.int p1), .val (.int (1 : Int32)), .unset, .unset, .unset, .unset] [(.ref w_TRUE)])) _
      refine XS.astoreN X9.here hx rfl (hb hby at_16) rfl rfl (l' := #[.val (.int p1), .val (.int (1 : Int32)), .val (.ref w_TRUE), .unset, .unset, .unset]) rfl ?_
      show Steps p.tables e below (T9.setTop (mkF m 17 #[.val (.int p1), .val (.int (1 : Int32)), .val (.ref w_TRUE), .unset, .unset, .unset] [])) _
      refine XS.iloadN X9.here hx rfl (hb hby at_17) rfl ?_
      show Steps p.tables e below (T9.setTop (mkF m 18 #[.val (.int p1), .val (.int (1 : Int32)), .val (.ref w_TRUE), .unset, .unset, .unset] [(.int (1 : Int32))])) _
      refine XS.ifYes X9.here hx rfl (pc0 := 18) (pc' := 25) rfl (hb hby at_18) rfl ((if0 _ _).trans (feq (by decide : ¬ ((1 : Int32) = (0 : Int32)))).2) (by decide) (by decide) ?_
      show Steps p.tables e below (T9.setTop (mkF m 25 #[.val (.int p1), .val (.int (1 : Int32)), .val (.ref w_TRUE), .unset, .unset, .unset] [])) _
      refine XS.iconst X9.here hx rfl (hb hby at_25) ?_
      show Steps p.tables e below (T9.setTop (mkF m 26 #[.val (.int p1), .val (.int (1 : Int32)), .val (.ref w_TRUE), .unset, .unset, .unset] [(.int (0 : Int32))])) _
      refine st10 _ ?_
      show Steps p.tables e below (T10.setTop (mkF m 29 #[.val (.int p1), .val (.int (1 : Int32)), .val (.ref w_TRUE), .unset, .unset, .unset] [(.ref w_FALSE)])) _
      refine XS.astoreN X10.here hx rfl (hb hby at_29) rfl rfl (l' := #[.val (.int p1), .val (.int (1 : Int32)), .val (.ref w_TRUE), .val (.ref w_FALSE), .unset, .unset]) rfl ?_
      show Steps p.tables e below (T10.setTop (mkF m 30 #[.val (.int p1), .val (.int (1 : Int32)), .val (.ref w_TRUE), .val (.ref w_FALSE), .unset, .unset] [])) _
      refine XS.aloadN X10.here hx rfl (hb hby at_30) rfl rfl ?_
      show Steps p.tables e below (T10.setTop (mkF m 31 #[.val (.int p1), .val (.int (1 : Int32)), .val (.ref w_TRUE), .val (.ref w_FALSE), .unset, .unset] [(.ref w_TRUE)])) _
      refine XS.ifnullNo X10.here hx rfl (hb hby at_31) rfl ?_
      show Steps p.tables e below (T10.setTop (mkF m 34 #[.val (.int p1), .val (.int (1 : Int32)), .val (.ref w_TRUE), .val (.ref w_FALSE), .unset, .unset] [])) _
      refine XS.aloadN X10.here hx rfl (hb hby at_34) rfl rfl ?_
      show Steps p.tables e below (T10.setTop (mkF m 35 #[.val (.int p1), .val (.int (1 : Int32)), .val (.ref w_TRUE), .val (.ref w_FALSE), .unset, .unset] [(.ref w_FALSE)])) _
      refine XS.ifnonnullYes X10.here hx rfl (pc0 := 35) (pc' := 40) rfl (hb hby at_35) rfl (by decide) (by decide) ?_
      show Steps p.tables e below (T10.setTop (mkF m 40 #[.val (.int p1), .val (.int (1 : Int32)), .val (.ref w_TRUE), .val (.ref w_FALSE), .unset, .unset] [])) _
      refine XS.aloadN X10.here hx rfl (hb hby at_40) rfl rfl ?_
      show Steps p.tables e below (T10.setTop (mkF m 41 #[.val (.int p1), .val (.int (1 : Int32)), .val (.ref w_TRUE), .val (.ref w_FALSE), .unset, .unset] [(.ref w_TRUE)])) _
      refine st11.trans ?_
      show Steps p.tables e below (T11.setTop (mkF m 44 #[.val (.int p1), .val (.int (1 : Int32)), .val (.ref w_TRUE), .val (.ref w_FALSE), .unset, .unset] [(.int (1 : Int32))])) _
      refine XS.iloadN X11.here hx rfl (hb hby at_44) rfl ?_
      show Steps p.tables e below (T11.setTop (mkF m 45 #[.val (.int p1), .val (.int (1 : Int32)), .val (.ref w_TRUE), .val (.ref w_FALSE), .unset, .unset] [(.int (1 : Int32)), (.int (1 : Int32))])) _
      refine XS.icmpNo X11.here hx rfl (hb hby at_45) rfl (teq (by decide : ((1 : Int32) = (1 : Int32)))).2 ?_
      show Steps p.tables e below (T11.setTop (mkF m 48 #[.val (.int p1), .val (.int (1 : Int32)), .val (.ref w_TRUE), .val (.ref w_FALSE), .unset, .unset] [])) _
      refine XS.aloadN X11.here hx rfl (hb hby at_48) rfl rfl ?_
      show Steps p.tables e below (T11.setTop (mkF m 49 #[.val (.int p1), .val (.int (1 : Int32)), .val (.ref w_TRUE), .val (.ref w_FALSE), .unset, .unset] [(.ref w_FALSE)])) _
      refine st12.trans ?_
      show Steps p.tables e below (T12.setTop (mkF m 52 #[.val (.int p1), .val (.int (1 : Int32)), .val (.ref w_TRUE), .val (.ref w_FALSE), .unset, .unset] [(.int (0 : Int32))])) _
      refine XS.iloadN X12.here hx rfl (hb hby at_52) rfl ?_
      show Steps p.tables e below (T12.setTop (mkF m 53 #[.val (.int p1), .val (.int (1 : Int32)), .val (.ref w_TRUE), .val (.ref w_FALSE), .unset, .unset] [(.int (1 : Int32)), (.int (0 : Int32))])) _
      refine XS.ifYes X12.here hx rfl (pc0 := 53) (pc' := 60) rfl (hb hby at_53) rfl ((if0 _ _).trans (feq (by decide : ¬ ((1 : Int32) = (0 : Int32)))).2) (by decide) (by decide) ?_
      show Steps p.tables e below (T12.setTop (mkF m 60 #[.val (.int p1), .val (.int (1 : Int32)), .val (.ref w_TRUE), .val (.ref w_FALSE), .unset, .unset] [(.int (0 : Int32))])) _
      refine XS.iconst X12.here hx rfl (hb hby at_60) ?_
      show Steps p.tables e below (T12.setTop (mkF m 61 #[.val (.int p1), .val (.int (1 : Int32)), .val (.ref w_TRUE), .val (.ref w_FALSE), .unset, .unset] [(.int (0 : Int32)), (.int (0 : Int32))])) _
      refine XS.icmpNo X12.here hx rfl (hb hby at_61) rfl (teq (by decide : ((0 : Int32) = (0 : Int32)))).2 ?_
      show Steps p.tables e below (T12.setTop (mkF m 64 #[.val (.int p1), .val (.int (1 : Int32)), .val (.ref w_TRUE), .val (.ref w_FALSE), .unset, .unset] [])) _
      refine XS.iconst X12.here hx rfl (hb hby at_64) ?_
      show Steps p.tables e below (T12.setTop (mkF m 65 #[.val (.int p1), .val (.int (1 : Int32)), .val (.ref w_TRUE), .val (.ref w_FALSE), .unset, .unset] [(.int (1 : Int32))])) _
      refine XS.goto X12.here hx rfl (pc0 := 65) (pc' := 69) rfl (hb hby at_65) (by decide) (by decide) ?_
      show Steps p.tables e below (T12.setTop (mkF m 69 #[.val (.int p1), .val (.int (1 : Int32)), .val (.ref w_TRUE), .val (.ref w_FALSE), .unset, .unset] [(.int (1 : Int32))])) _
      refine XS.istore X12.here hx rfl (hb hby at_69) rfl (l' := #[.val (.int p1), .val (.int (1 : Int32)), .val (.ref w_TRUE), .val (.ref w_FALSE), .val (.int (1 : Int32)), .unset]) rfl ?_
      show Steps p.tables e below (T12.setTop (mkF m 71 #[.val (.int p1), .val (.int (1 : Int32)), .val (.ref w_TRUE), .val (.ref w_FALSE), .val (.int (1 : Int32)), .unset] [])) _
      refine XS.aloadN X12.here hx rfl (hb hby at_71) rfl rfl ?_
      show Steps p.tables e below (T12.setTop (mkF m 72 #[.val (.int p1), .val (.int (1 : Int32)), .val (.ref w_TRUE), .val (.ref w_FALSE), .val (.int (1 : Int32)), .unset] [(.ref w_TRUE)])) _
      refine XS.iloadN X12.here hx rfl (hb hby at_72) rfl ?_
      show Steps p.tables e below (T12.setTop (mkF m 73 #[.val (.int p1), .val (.int (1 : Int32)), .val (.ref w_TRUE), .val (.ref w_FALSE), .val (.int (1 : Int32)), .unset] [(.int (1 : Int32)), (.ref w_TRUE)])) _
      refine XS.ifNo X12.here hx rfl (hb hby at_73) rfl ((if0 _ _).trans (feq (by decide : ¬ ((1 : Int32) = (0 : Int32)))).1) ?_
      show Steps p.tables e below (T12.setTop (mkF m 76 #[.val (.int p1), .val (.int (1 : Int32)), .val (.ref w_TRUE), .val (.ref w_FALSE), .val (.int (1 : Int32)), .unset] [(.ref w_TRUE)])) _
      refine st13 _ ?_
      show Steps p.tables e below (T13.setTop (mkF m 79 #[.val (.int p1), .val (.int (1 : Int32)), .val (.ref w_TRUE), .val (.ref w_FALSE), .val (.int (1 : Int32)), .unset] [(.ref w_TRUE), (.ref w_TRUE)])) _
      refine XS.goto X13.here hx rfl (pc0 := 79) (pc' := 85) rfl (hb hby at_79) (by decide) (by decide) ?_
      show Steps p.tables e below (T13.setTop (mkF m 85 #[.val (.int p1), .val (.int (1 : Int32)), .val (.ref w_TRUE), .val (.ref w_FALSE), .val (.int (1 : Int32)), .unset] [(.ref w_TRUE), (.ref w_TRUE)])) _
      refine Jvm.RoadKit.acmp (g := (mkF m 85 #[.val (.int p1), .val (.int (1 : Int32)), .val (.ref w_TRUE), .val (.ref w_FALSE), .val (.int (1 : Int32)), .unset] [(.ref w_TRUE), (.ref w_TRUE)])) X13 hx rfl rfl rfl (pc0 := 85) (pc' := 88) (same := true) rfl (hb hby at_85) rfl (decide_eq_true rfl) (by decide) (by decide) ?_
      show Steps p.tables e below (T13.setTop (mkF m 88 #[.val (.int p1), .val (.int (1 : Int32)), .val (.ref w_TRUE), .val (.ref w_FALSE), .val (.int (1 : Int32)), .unset] [])) _
      refine XS.aloadN X13.here hx rfl (hb hby at_88) rfl rfl ?_
      show Steps p.tables e below (T13.setTop (mkF m 89 #[.val (.int p1), .val (.int (1 : Int32)), .val (.ref w_TRUE), .val (.ref w_FALSE), .val (.int (1 : Int32)), .unset] [(.ref w_FALSE)])) _
      refine XS.iloadN X13.here hx rfl (hb hby at_89) rfl ?_
      show Steps p.tables e below (T13.setTop (mkF m 90 #[.val (.int p1), .val (.int (1 : Int32)), .val (.ref w_TRUE), .val (.ref w_FALSE), .val (.int (1 : Int32)), .unset] [(.int (1 : Int32)), (.ref w_FALSE)])) _
      refine XS.ifNo X13.here hx rfl (hb hby at_90) rfl ((if0 _ _).trans (feq (by decide : ¬ ((1 : Int32) = (0 : Int32)))).1) ?_
      show Steps p.tables e below (T13.setTop (mkF m 93 #[.val (.int p1), .val (.int (1 : Int32)), .val (.ref w_TRUE), .val (.ref w_FALSE), .val (.int (1 : Int32)), .unset] [(.ref w_FALSE)])) _
      refine st14 _ ?_
      show Steps p.tables e below (T14.setTop (mkF m 96 #[.val (.int p1), .val (.int (1 : Int32)), .val (.ref w_TRUE), .val (.ref w_FALSE), .val (.int (1 : Int32)), .unset] [(.ref w_FALSE), (.ref w_FALSE)])) _
      refine XS.goto X14.here hx rfl (pc0 := 96) (pc' := 102) rfl (hb hby at_96) (by decide) (by decide) ?_
      show Steps p.tables e below (T14.setTop (mkF m 102 #[.val (.int p1), .val (.int (1 : Int32)), .val (.ref w_TRUE), .val (.ref w_FALSE), .val (.int (1 : Int32)), .unset] [(.ref w_FALSE), (.ref w_FALSE)])) _
      refine Jvm.RoadKit.acmp (g := (mkF m 102 #[.val (.int p1), .val (.int (1 : Int32)), .val (.ref w_TRUE), .val (.ref w_FALSE), .val (.int (1 : Int32)), .unset] [(.ref w_FALSE), (.ref w_FALSE)])) X14 hx rfl rfl rfl (pc0 := 102) (pc' := 105) (same := true) rfl (hb hby at_102) rfl (decide_eq_true rfl) (by decide) (by decide) ?_
      show Steps p.tables e below (T14.setTop (mkF m 105 #[.val (.int p1), .val (.int (1 : Int32)), .val (.ref w_TRUE), .val (.ref w_FALSE), .val (.int (1 : Int32)), .unset] [])) _
      refine XS.iconst X14.here hx rfl (hb hby at_105) ?_
      show Steps p.tables e below (T14.setTop (mkF m 106 #[.val (.int p1), .val (.int (1 : Int32)), .val (.ref w_TRUE), .val (.ref w_FALSE), .val (.int (1 : Int32)), .unset] [(.int (1 : Int32))])) _
      refine XS.goto X14.here hx rfl (pc0 := 106) (pc' := 110) rfl (hb hby at_106) (by decide) (by decide) ?_
      show Steps p.tables e below (T14.setTop (mkF m 110 #[.val (.int p1), .val (.int (1 : Int32)), .val (.ref w_TRUE), .val (.ref w_FALSE), .val (.int (1 : Int32)), .unset] [(.int (1 : Int32))])) _
      refine XS.istore X14.here hx rfl (hb hby at_110) rfl (l' := #[.val (.int p1), .val (.int (1 : Int32)), .val (.ref w_TRUE), .val (.ref w_FALSE), .val (.int (1 : Int32)), .val (.int (1 : Int32))]) rfl ?_
      show Steps p.tables e below (T14.setTop (mkF m 112 #[.val (.int p1), .val (.int (1 : Int32)), .val (.ref w_TRUE), .val (.ref w_FALSE), .val (.int (1 : Int32)), .val (.int (1 : Int32))] [])) _
      refine XS.iload X14.here hx rfl (hb hby at_112) rfl ?_
      show Steps p.tables e below (T14.setTop (mkF m 114 #[.val (.int p1), .val (.int (1 : Int32)), .val (.ref w_TRUE), .val (.ref w_FALSE), .val (.int (1 : Int32)), .val (.int (1 : Int32))] [(.int (1 : Int32))])) _
      refine XS.ifNo X14.here hx rfl (hb hby at_114) rfl ((if0 _ _).trans (feq (by decide : ¬ ((1 : Int32) = (0 : Int32)))).1) ?_
      show Steps p.tables e below (T14.setTop (mkF m 117 #[.val (.int p1), .val (.int (1 : Int32)), .val (.ref w_TRUE), .val (.ref w_FALSE), .val (.int (1 : Int32)), .val (.int (1 : Int32))] [])) _
      refine XS.iload X14.here hx rfl (hb hby at_117) rfl ?_
      show Steps p.tables e below (T14.setTop (mkF m 119 #[.val (.int p1), .val (.int (1 : Int32)), .val (.ref w_TRUE), .val (.ref w_FALSE), .val (.int (1 : Int32)), .val (.int (1 : Int32))] [(.int (1 : Int32))])) _
      refine XS.ifNo X14.here hx rfl (hb hby at_119) rfl ((if0 _ _).trans (feq (by decide : ¬ ((1 : Int32) = (0 : Int32)))).1) ?_
      show Steps p.tables e below (T14.setTop (mkF m 122 #[.val (.int p1), .val (.int (1 : Int32)), .val (.ref w_TRUE), .val (.ref w_FALSE), .val (.int (1 : Int32)), .val (.int (1 : Int32))] [])) _
      refine XS.iconst X14.here hx rfl (hb hby at_122) ?_
      show Steps p.tables e below (T14.setTop (mkF m 123 #[.val (.int p1), .val (.int (1 : Int32)), .val (.ref w_TRUE), .val (.ref w_FALSE), .val (.int (1 : Int32)), .val (.int (1 : Int32))] [(.int (1 : Int32))])) _
      refine XS.goto X14.here hx rfl (pc0 := 123) (pc' := 127) rfl (hb hby at_123) (by decide) (by decide) ?_
      show Steps p.tables e below (T14.setTop (mkF m 127 #[.val (.int p1), .val (.int (1 : Int32)), .val (.ref w_TRUE), .val (.ref w_FALSE), .val (.int (1 : Int32)), .val (.int (1 : Int32))] [(.int (1 : Int32))])) _
      exact retN X14 hx (t := .boolean) Bd.returns (by simp) (hb hby at_127) hr
    · show Q_rm0 Z p1 w_FALSE w_TRUE h0 n0 _ T14.heap _
      rw [e14]
      exact ⟨rfl, N12⟩
set_option maxRecDepth 65536 in
set_option maxHeartbeats 40000000 in
theorem comes_1 {Post : Tables → Env → Array Value → State → Outcome → State → Prop} (hpost : ∀ tb e args s v u, (limb_1_1.after args s (.returned v) u = true ∧ limb_1_2.after args s (.returned v) u = true ∧ True) → FrameEnd s (.returned v) u (Jvm.fieldLocs frame_1_writes args s ++ Jvm.arrayLocs frame_1_arrays args s ++ Jvm.staticLocs frame_1_statics s) 0 0 → Post tb e args s (.returned v) u) :
    ArmFor flags0 classFile x code maxLocals ret World_1 tables_1 room_1 Calls_1 rest_1 Pre_1 Post := by
  intro l hfl _ _ p e ha hc hk s m args below hf hA hF happ hP
  obtain ⟨hcalls, hrest, hpre⟩ := hP
  obtain ⟨-, -, -, hnamed, -, -, -, hat⟩ := (Spec.applies_iff hf).mp happ
  obtain ⟨hg, hn⟩ := and_e (Cond.before_iff.mp (show (Jvm.Cond.and given_1 narrow_1).before args s = true from hpre))
  obtain ⟨g0, gr0⟩ := and_e hg
  obtain ⟨w0, rfl⟩ : ∃ w0 : Value, args = #[w0] := by
    have hs : args.size = 1 := by simpa [Cond.value, given_1] using g0
    obtain ⟨L⟩ := args
    match L, hs with
    | [w0], _ => exact ⟨w0, rfl⟩
  have hw := fun d (hd : d ∈ tables_1) => atoms_spec (ws := Jvm.Cond.code x code maxLocals ret :: tables_1) hat d (List.mem_cons_of_mem _ hd)
  have hfit : Fit s := fun {y c} hc i hi => by
    obtain ⟨ha, rfl⟩ := Array.getElem?_eq_some_iff.mp hc
    have q := List.all_eq_true.mp ((Array.all_eq_true_iff_forall_mem.mp hF) _ (Array.getElem_mem ha)) i (List.mem_range.mpr hi)
    simpa [Array.getElem?_eq_getElem hi] using q
  obtain ⟨i0, ei0⟩ := is_v gr0
  obtain rfl : w0 = (.int i0) := Option.some.inj ei0
  obtain ⟨nl1, nr1⟩ := and_e hn
  obtain ⟨w_FALSE, ev_w_FALSE⟩ := exa_v nl1
  have S_w_FALSE : Sta s s.heap "com/example/eventloom/eventloom/Item$Truth" "FALSE" "Lcom/example/eventloom/eventloom/Item$Truth;" (.ref w_FALSE) := Sta.start ev_w_FALSE (Or.inr ⟨(hw _ (List.mem_of_getElem? (i := 2) rfl)), (hw _ (List.mem_of_getElem? (i := 5) rfl))⟩)
  have E_w_FALSE := Exa.start ev_w_FALSE nl1
  obtain ⟨nl2, nr2⟩ := and_e nr1
  obtain ⟨w_TRUE, ev_w_TRUE⟩ := exa_v nl2
  have S_w_TRUE : Sta s s.heap "com/example/eventloom/eventloom/Item$Truth" "TRUE" "Lcom/example/eventloom/eventloom/Item$Truth;" (.ref w_TRUE) := Sta.start ev_w_TRUE (Or.inr ⟨(hw _ (List.mem_of_getElem? (i := 2) rfl)), (hw _ (List.mem_of_getElem? (i := 7) rfl))⟩)
  have E_w_TRUE := Exa.start ev_w_TRUE nl2
  obtain ⟨nl3, nr3⟩ := and_e nr2
  have F_w_FALSE_value := own_fld ev_w_FALSE nl3
  have F_w_TRUE_value := own_fld ev_w_TRUE nr3
  obtain ⟨n, o, h1, h2, h3, _, L, rfl, ⟨rfl, N⟩, hq⟩ := rm0 l s _ hw tables_1 i0 w_FALSE w_TRUE s.heap s.heap.size (Nat.le_refl _) S_w_FALSE E_w_FALSE S_w_TRUE E_w_TRUE F_w_FALSE_value F_w_TRUE_value p e ha hc hk s m _ below hf ((Spec.applies_iff_loose hf).mp happ).1 ⟨rfl, State.Warmed39.refl s, rfl⟩ trivial
  refine ⟨n, _, h1, h2, h3, hpost _ _ _ _ _ _ ⟨Cond.after_iff.mpr rfl, Cond.after_iff.mpr (eq_i res_at (Term.int_eval (1)) rfl), trivial⟩ ⟨hq.1, hq.2.1, (hq.2.2.sift fun y hy => Or.inr (N y hy)).mono (by decide) (by decide)⟩⟩
theorem main_1_1 : Claimed_1_1 := comes_1 fun _ _ _ _ _ _ h hF => ⟨h.1, hF⟩
theorem main_1_2 : Claimed_1_2 := comes_1 fun _ _ _ _ _ _ h hF => ⟨h.2.1, hF⟩
end Jvm.Pilot.@@N@@
namespace Jvm.Pilot.@@N@@
open Jvm Jvm.ClassFile Sem Op Lib Jvm.Free Jvm.Stand Jvm.Pilot.@@N@@.Jvm.D
/-! MADE BY PROGRAM (witnessworld.py) out of the Statement's table words and the real class files: 12 classes; the members and pool entries that the words name. The judged class is class 1, her method 1. -/
namespace start1
open Jvm.ClassFile
def u (s : String) : CpInfo := .utf8 (stringToUtf16 s)
/-- a pool by its gaps: so many unusable entries, then the entry; so many at the end -/
def gap : Nat → List CpInfo → List CpInfo
  | 0, r => r
  | n + 1, r => .unusable :: gap n r
def poolList (es : List (Nat × CpInfo)) (last : Nat) : List CpInfo := es.foldr (fun e r => gap e.1 (e.2 :: r)) (gap last [])
def pool (es : List (Nat × CpInfo)) (last : Nat) : Array CpInfo := ⟨poolList es last⟩
def fileOf (pool : Array CpInfo) (this : Nat) (attrs : Array Attribute := #[]) (ms : Array MethodInfo := #[]) (fl : Nat := 33) (sup : Nat := 0) (ifs : Array Nat := #[]) (fds : Array FieldInfo := #[]) : ClassFile where
  minorVersion := 0
  majorVersion := 65
  constantPool := pool
  accessFlags := fl
  thisClass := this
  superClass := sup
  interfaces := ifs
  fields := fds
  methods := ms
  attributes := attrs
def plain (name : String) (sup : Option ClassId) : Class where
  name := name
  kind := .ordinary
  loader := none
  accessFlags := 33
  super := sup
  interfaces := #[]
  cf := none
  fields := #[]
  methods := #[]
  instanceTypes := #[]
  staticTypes := #[]
  resolved := #[]
  callSites := []
  init := .initialized
  statics := none
  mirror := none

def pool0 : Array CpInfo := pool [(5, u "<init>"), (0, u "()V"), (1, .class_ 10), (1, u "java/lang/Object")] 113

def k0m0 : Method := { name := "<init>", desc := "()V", sig := { parameters := [], returnType := none }, accessFlags := 1, code := none }
/-- java/lang/Object -/
def k0 : Class := { plain "java/lang/Object" none with
  accessFlags := 33
  interfaces := #[]
  cf := some (fileOf pool0 8 #[] #[{ accessFlags := 1, nameIndex := 5, descriptorIndex := 6, attributes := #[] }] 33 0 #[] #[])
  fields := #[]
  methods := #[k0m0]
  instanceTypes := #[]
  staticTypes := #[]
  resolved := Array.replicate 124 none
  statics := none }

def pool1 : Array CpInfo := pool [(2, .class_ 4), (1, u "java/lang/Object"), (0, u "<init>"), (0, u "()V"), (0, .methodref 8 9), (0, .class_ 10), (0, .nameAndType 11 12), (0, u "com/example/eventloom/eventloom/Item$Truth"), (0, u "of"), (0, u "(Z)Lcom/example/eventloom/eventloom/Item$Truth;"), (0, .methodref 8 14), (0, .nameAndType 15 16), (0, u "value"), (0, u "()Z"), (0, .fieldref 8 18), (0, .nameAndType 19 20), (0, u "TRUE"), (0, u "Lcom/example/eventloom/eventloom/Item$Truth;"), (0, .fieldref 8 22), (0, .nameAndType 23 20), (0, u "FALSE"), (0, .class_ 25), (0, u "com/example/eventloom/eventloom/TruthOfPinLaw"), (2, u "law"), (0, u "(I)Z")] 7

def k1m0 : Method := { name := "<init>", desc := "()V", sig := { parameters := [], returnType := none }, accessFlags := 2, code := none }
def k1c1 : Code := { maxStack := 2, maxLocals := 6, code := code, exceptionTable := #[], attributes := #[] }
def k1m1 : Method := { name := "law", desc := "(I)Z", sig := { parameters := [.int], returnType := some .boolean }, accessFlags := 9, code := some k1c1 }
/-- com/example/eventloom/eventloom/TruthOfPinLaw -/
def k1 : Class := { plain "com/example/eventloom/eventloom/TruthOfPinLaw" (some 0) with
  accessFlags := 49
  interfaces := #[]
  cf := some (fileOf pool1 24 #[] #[{ accessFlags := 2, nameIndex := 5, descriptorIndex := 6, attributes := #[] }, { accessFlags := 9, nameIndex := 28, descriptorIndex := 29, attributes := #[] }] 49 2 #[] #[])
  fields := #[]
  methods := #[k1m0, k1m1]
  instanceTypes := #[]
  staticTypes := #[]
  resolved := Array.replicate 37 none
  statics := none }

def pool2 : Array CpInfo := pool [(2, .class_ 4), (1, u "java/lang/Object"), (0, u "<init>"), (0, u "()V"), (0, .class_ 8), (0, u "java/lang/Record")] 13

def k2m0 : Method := { name := "<init>", desc := "()V", sig := { parameters := [], returnType := none }, accessFlags := 4, code := none }
/-- java/lang/Record -/
def k2 : Class := { plain "java/lang/Record" (some 0) with
  accessFlags := 1057
  interfaces := #[]
  cf := some (fileOf pool2 7 #[] #[{ accessFlags := 4, nameIndex := 5, descriptorIndex := 6, attributes := #[] }] 1057 2 #[] #[])
  fields := #[]
  methods := #[k2m0]
  instanceTypes := #[]
  staticTypes := #[]
  resolved := Array.replicate 22 none
  statics := none }

def pool3 : Array CpInfo := pool [(2, .class_ 4), (1, u "com/example/eventloom/eventloom/Value"), (29, .class_ 35), (0, u "java/lang/Object")] 10

/-- com/example/eventloom/eventloom/Value -/
def k3 : Class := { plain "com/example/eventloom/eventloom/Value" (some 0) with
  accessFlags := 1536
  interfaces := #[]
  cf := some (fileOf pool3 2 #[] #[] 1536 34 #[] #[])
  fields := #[]
  methods := #[]
  instanceTypes := #[]
  staticTypes := #[]
  resolved := Array.replicate 46 none
  statics := none }

def pool4 : Array CpInfo := pool [(7, .class_ 8), (0, u "com/example/eventloom/eventloom/Item"), (0, .class_ 10), (0, u "java/lang/Object"), (0, .class_ 12), (0, u "com/example/eventloom/eventloom/Value"), (15, .class_ 29), (0, u "com/example/eventloom/eventloom/Item$Node"), (0, .class_ 31), (0, u "com/example/eventloom/eventloom/Item$Truth"), (0, .class_ 33), (0, u "com/example/eventloom/eventloom/Item$Number"), (0, .class_ 35), (0, u "com/example/eventloom/eventloom/Item$Text")] 6

/-- com/example/eventloom/eventloom/Item -/
def k4 : Class := { plain "com/example/eventloom/eventloom/Item" (some 0) with
  accessFlags := 1536
  interfaces := #[3]
  cf := some (fileOf pool4 7 #[.nestMembers #[28, 30, 32, 34]] #[] 1536 9 #[11] #[])
  fields := #[]
  methods := #[]
  instanceTypes := #[]
  staticTypes := #[]
  resolved := Array.replicate 42 none
  statics := none }

def pool5 : Array CpInfo := pool [(2, .class_ 4), (1, u "java/lang/Record"), (2, .fieldref 8 9), (0, .class_ 10), (0, .nameAndType 11 12), (0, u "com/example/eventloom/eventloom/Item$Truth"), (0, u "value"), (0, u "Z"), (0, .fieldref 8 14), (0, .nameAndType 15 16), (0, u "TRUE"), (0, u "Lcom/example/eventloom/eventloom/Item$Truth;"), (0, .fieldref 8 18), (0, .nameAndType 19 16), (0, u "FALSE"), (20, .class_ 41), (0, u "com/example/eventloom/eventloom/Item"), (3, u "of"), (0, u "(Z)Lcom/example/eventloom/eventloom/Item$Truth;"), (6, u "()Z")] 24

def k5c0 : Code := { maxStack := 1, maxLocals := 1, code := prog_46_method_2_code, exceptionTable := #[], attributes := #[] }
def k5m0 : Method := { name := "of", desc := "(Z)Lcom/example/eventloom/eventloom/Item$Truth;", sig := { parameters := [.boolean], returnType := some (.object "com/example/eventloom/eventloom/Item$Truth") }, accessFlags := 8, code := some k5c0 }
def k5c1 : Code := { maxStack := 1, maxLocals := 1, code := prog_46_method_9_code, exceptionTable := #[], attributes := #[] }
def k5m1 : Method := { name := "value", desc := "()Z", sig := { parameters := [], returnType := some .boolean }, accessFlags := 1, code := some k5c1 }
/-- com/example/eventloom/eventloom/Item$Truth -/
def k5 : Class := { plain "com/example/eventloom/eventloom/Item$Truth" (some 2) with
  accessFlags := 49
  interfaces := #[4]
  cf := some (fileOf pool5 8 #[.nestHost 40] #[{ accessFlags := 8, nameIndex := 45, descriptorIndex := 46, attributes := #[] }, { accessFlags := 1, nameIndex := 11, descriptorIndex := 53, attributes := #[] }] 49 2 #[40] #[{ accessFlags := 18, nameIndex := 11, descriptorIndex := 12, attributes := #[] }, { accessFlags := 24, nameIndex := 15, descriptorIndex := 16, attributes := #[] }, { accessFlags := 24, nameIndex := 19, descriptorIndex := 16, attributes := #[] }])
  fields := #[{ name := "value", type := .boolean, accessFlags := 18, slot := 0, constantValue := 0 }, { name := "TRUE", type := (.object "com/example/eventloom/eventloom/Item$Truth"), accessFlags := 24, slot := 0, constantValue := 0 }, { name := "FALSE", type := (.object "com/example/eventloom/eventloom/Item$Truth"), accessFlags := 24, slot := 1, constantValue := 0 }]
  methods := #[k5m0, k5m1]
  instanceTypes := #[.boolean]
  staticTypes := #[(.object "com/example/eventloom/eventloom/Item$Truth"), (.object "com/example/eventloom/eventloom/Item$Truth")]
  resolved := Array.replicate 78 none
  statics := some 0 }

def pool6 : Array CpInfo := pool [(1, u "java/lang/Cloneable"), (0, .class_ 1), (0, u "java/lang/Object"), (0, .class_ 3)] 3

/-- java/lang/Cloneable -/
def k6 : Class := { plain "java/lang/Cloneable" (some 0) with
  accessFlags := 1537
  interfaces := #[]
  cf := some (fileOf pool6 2 #[] #[] 1537 4 #[] #[])
  fields := #[]
  methods := #[]
  instanceTypes := #[]
  staticTypes := #[]
  resolved := Array.replicate 8 none
  statics := none }

def pool7 : Array CpInfo := pool [(1, u "java/io/Serializable"), (0, .class_ 1), (0, u "java/lang/Object"), (0, .class_ 3)] 3

/-- java/io/Serializable -/
def k7 : Class := { plain "java/io/Serializable" (some 0) with
  accessFlags := 1537
  interfaces := #[]
  cf := some (fileOf pool7 2 #[] #[] 1537 4 #[] #[])
  fields := #[]
  methods := #[]
  instanceTypes := #[]
  staticTypes := #[]
  resolved := Array.replicate 8 none
  statics := none }

/-- the primitive byte -/
def k8 : Class := { plain "byte" none with kind := .primitive 'B', accessFlags := 0x411 }
/-- [B -/
def k9 : Class := { plain "[B" (some 0) with kind := .array 8 .byte, interfaces := #[6, 7], accessFlags := 1041 }

/-- the primitive int -/
def k10 : Class := { plain "int" none with kind := .primitive 'I', accessFlags := 0x411 }
/-- [I -/
def k11 : Class := { plain "[I" (some 0) with kind := .array 10 .int, interfaces := #[6, 7], accessFlags := 1041 }

def heap : Heap := #[{ cls := 5, slots := #[.ref 1, .ref 2], vm := .statics 5 },
  { cls := 5, slots := #[.int 1], vm := .none },
  { cls := 5, slots := #[.int 0], vm := .none }]
def classes : Array Class := #[k0, k1, k2, k3, k4, k5, k6, k7, k8, k9, k10, k11]
def interned : List (Array UInt16 × Addr) := []
def slotsUsed : Nat := 4
def theMethod : MethodId := ⟨1, 1⟩
def args0 : Array Value := #[.int 5]
def aboutOver (below : List Frame) : State where
  vm := { classes := classes, interned := interned.toArray }
  heap := heap
  slotsUsed := slotsUsed
  threads := #[{ frames := .invoking theMethod args0 :: below }]
def below0 : List Frame := [.native { method := ⟨0, 0⟩, args := #[] }]
def about1 : State := aboutOver below0
def p0 : Program := .bare "" "" ""
def e0 : Env := launch0.env 0 0 0
theorem w_frames : about1.frames = Frame.invoking theMethod args0 :: below0 := rfl
set_option maxRecDepth 65536 in
theorem w_args : argsFit about1.vm theMethod args0 = true := by decide +kernel
set_option maxRecDepth 65536 in
theorem w_heap : heapFits about1 = true := by decide +kernel
set_option maxRecDepth 65536 in
theorem w_runnable : about1.curStatus? = some .runnable := by decide +kernel
set_option maxRecDepth 65536 in
theorem w_alone : about1.alone = true := by decide +kernel
set_option maxRecDepth 65536 in
theorem w_named : about1.methodNamed? x = some theMethod := by decide +kernel
set_option maxRecDepth 65536 in
theorem w_hears : about1.hears theMethod below0 = true := by decide +kernel
set_option maxRecDepth 65536 in
theorem w_ripe : about1.ripe theMethod args0 below0 = true := by decide +kernel
theorem w_running : about1.status = .running := rfl
set_option maxRecDepth 65536 in
theorem w_room : about1.hasRoom e0.platform room_1 = true :=
  launch0.hasRoom_least _ room_1 (by decide +kernel) (by decide +kernel) (by decide +kernel) (by decide +kernel) (by decide +kernel) (by decide +kernel)
theorem allAtoms_all (ts : List Jvm.Cond) (a : Array Jvm.Value) (st : Jvm.State) : (allAtoms ts).before a st = ts.all (fun c => c.before a st) := by
  induction ts with
  | nil => rfl
  | cons c t ih =>
    show (Jvm.Cond.and c (allAtoms t)).before a st = _
    rw [Jvm.Cond.before_and, ih, List.all_cons]
def words1 : List Jvm.Cond := Jvm.Cond.code x code maxLocals ret :: tables_1
/-- a 'code' word, met by the world's own term for the bytes: nothing is compared byte by byte -/
theorem code_word {y : MethodName} {bytes : ByteArray} {mx : Nat} {rt : Option FieldType} {a : Array Value} {s : State} {m : MethodId} {meth : Method} {c : Code} (h1 : s.methodNamed? y = some m) (h2 : s.vm.method? m = some meth) (h3 : meth.code = some c) (h4 : c.code = bytes)
    (h5 : (c.maxLocals == mx && c.exceptionTable.isEmpty && decide (c.maxStack ≤ mostOperands) && decide (meth.sig.returnType = rt) && !meth.locks && decide (parseMethodDescriptor y.desc = some meth.sig)) = true) : (Jvm.Cond.code y bytes mx rt).before a s = true := by
  simp only [Bool.and_eq_true, beq_iff_eq, Bool.not_eq_true', decide_eq_true_eq] at h5
  obtain ⟨⟨⟨⟨⟨g1, g2⟩, g3⟩, g4⟩, g5⟩, g6⟩ := h5
  simp [Cond.before, Cond.holds, Cond.value, h1, h2, h3, h4, g1, g2, g3, g4, g5, g6]
def isCode : Jvm.Cond → Bool
  | .code _ _ _ _ => true
  | _ => false
theorem all_split {L : List Jvm.Cond} {P : Jvm.Cond → Bool} (h1 : L.all (fun c => isCode c || P c) = true) (h2 : ∀ c ∈ L.filter isCode, P c = true) : L.all P = true := by
  refine List.all_eq_true.mpr fun c hc => ?_
  have h := List.all_eq_true.mp h1 c hc
  rcases Bool.eq_false_or_eq_true (isCode c) with hi | hi
  · exact h2 c (List.mem_filter.mpr ⟨hc, hi⟩)
  · simpa [hi] using h
set_option maxRecDepth 65536 in
theorem w_c0 : (Jvm.Cond.code x code maxLocals ret).before args0 about1 = true := code_word (m := ⟨1, 1⟩) (meth := k1m1) (c := k1c1) (by decide +kernel) rfl rfl rfl (by decide +kernel)
set_option maxRecDepth 65536 in
theorem w_c1 : (Jvm.Cond.code ({ cls := "com/example/eventloom/eventloom/Item$Truth", name := "of", desc := "(Z)Lcom/example/eventloom/eventloom/Item$Truth;" } : Jvm.MethodName) prog_46_method_2_code (1 : Nat) (Option.some (Jvm.ClassFile.FieldType.object "com/example/eventloom/eventloom/Item$Truth"))).before args0 about1 = true := code_word (m := ⟨5, 0⟩) (meth := k5m0) (c := k5c0) (by decide +kernel) rfl rfl rfl (by decide +kernel)
set_option maxRecDepth 65536 in
theorem w_c2 : (Jvm.Cond.code ({ cls := "com/example/eventloom/eventloom/Item$Truth", name := "value", desc := "()Z" } : Jvm.MethodName) prog_46_method_9_code (1 : Nat) (Option.some Jvm.ClassFile.FieldType.boolean)).before args0 about1 = true := code_word (m := ⟨5, 1⟩) (meth := k5m1) (c := k5c1) (by decide +kernel) rfl rfl rfl (by decide +kernel)
def codes1 : List Jvm.Cond := [Jvm.Cond.code x code maxLocals ret, Jvm.Cond.code ({ cls := "com/example/eventloom/eventloom/Item$Truth", name := "of", desc := "(Z)Lcom/example/eventloom/eventloom/Item$Truth;" } : Jvm.MethodName) prog_46_method_2_code (1 : Nat) (Option.some (Jvm.ClassFile.FieldType.object "com/example/eventloom/eventloom/Item$Truth")), Jvm.Cond.code ({ cls := "com/example/eventloom/eventloom/Item$Truth", name := "value", desc := "()Z" } : Jvm.MethodName) prog_46_method_9_code (1 : Nat) (Option.some Jvm.ClassFile.FieldType.boolean)]
set_option maxRecDepth 65536 in
theorem codes_eq : words1.filter isCode = codes1 := rfl
theorem w_codes : ∀ c ∈ words1.filter isCode, c.before args0 about1 = true := by
  rw [codes_eq]
  intro c hc
  simp only [codes1, List.mem_cons, List.not_mem_nil, or_false] at hc
  rcases hc with rfl | rfl | rfl
  · exact w_c0
  · exact w_c1
  · exact w_c2
set_option maxRecDepth 65536 in
theorem w_t1 : words1.all (fun c => isCode c || c.before args0 about1) = true := by decide +kernel
theorem w_tables : (allAtoms (Jvm.Cond.code x code maxLocals ret :: tables_1)).before args0 about1 = true := by
  rw [allAtoms_all]
  show words1.all (fun c => c.before args0 about1) = true
  refine all_split ?_ w_codes
  rw [w_t1]
set_option maxRecDepth 65536 in
theorem w_case : (Jvm.Cond.and given_1 narrow_1).before args0 about1 = true := by decide +kernel
theorem w_applies : (headSpec (Jvm.Cond.code x code maxLocals ret :: tables_1) room_1).applies x e0.platform about1 = true :=
  (Spec.applies_iff w_frames).mpr ⟨w_running, w_runnable, w_alone, w_named, w_hears, w_ripe, w_room, w_tables⟩
theorem atStart : AtStart classFile x code maxLocals ret World_1 tables_1 room_1 Calls_1 rest_1 Pre_1 launch0 p0 e0 about1 theMethod args0 below0 :=
  ⟨lists_1, trivial, launch0.admits_env _ _ _, launch0.least_env, fairChoices_fair.cas, fairChoices_fair.clock, w_frames, w_args, w_heap, w_applies, trivial, trivial, w_case⟩
end start1
theorem witness_1 : WitnessClaimed_1 := ⟨start1.p0, start1.e0, start1.about1, start1.theMethod, start1.args0, start1.below0, start1.atStart⟩
end Jvm.Pilot.@@N@@
