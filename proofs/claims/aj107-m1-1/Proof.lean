import JvmDerived
import JvmDerived.Pilot.@@N@@Statement
import JvmDerived.Pilot.@@N@@Code
set_option linter.unusedVariables false
set_option linter.unusedSimpArgs false
namespace Jvm.RoadKit
open Sem ClassFile Op Lib Jvm.Stand Jvm.Free Jvm.LawKit
section New
variable {p : Program} {l : Launch} {e : Env} {R : Room} {s : State} {m : MethodId} {args : Array Value} {below : List Frame} {meth : Method} {c : Code} {T : State} {locs : List Loc} {cells slots : Nat}
theorem retI (X : Stand p l e R s m args below meth c T locs cells slots) (hx : p.tables.exec = Jvm.exec) {pc : Nat} {Ls : Array Slot} {z : Int32} {rest : List Value} (hret : meth.sig.returnType = some .int) (hd : decode c.code pc = .ok (.ireturn, 1)) {fs : List Frame}
    (hl : ∀ (f : JFrame) (acts : List Action), f.method = m → f.locked = none → f.entered = [] → (doReturn e (T.setTop f) acts (some (.int z))).1 = T.setFrames fs) : Steps p.tables e below (T.setTop (mkF m pc Ls (.int z :: rest))) (T.setFrames fs) := by
  have hm' : T.vm.method? m = some meth := X.method'
  have hn : narrow .int (.int z) = .int z := rfl
  show Steps p.tables e below (T.setTop { method := m, pc := pc, locals := Ls, stack := _ :: rest, locked := none }) _
  jvm_step X.here [X.here.top, hx, hd, hm', hret, hn]
  first | (intro acts; rw [hl _ acts rfl rfl rfl]) | rw [hl _ _ rfl rfl rfl]
  exact Steps.refl _
theorem retJ (X : Stand p l e R s m args below meth c T locs cells slots) (hx : p.tables.exec = Jvm.exec) {pc : Nat} {Ls : Array Slot} {z : Int64} {rest : List Value} (hret : meth.sig.returnType = some .long) (hd : decode c.code pc = .ok (.lreturn, 1)) {fs : List Frame}
    (hl : ∀ (f : JFrame) (acts : List Action), f.method = m → f.locked = none → f.entered = [] → (doReturn e (T.setTop f) acts (some (.long z))).1 = T.setFrames fs) : Steps p.tables e below (T.setTop (mkF m pc Ls (.long z :: rest))) (T.setFrames fs) := by
  have hm' : T.vm.method? m = some meth := X.method'
  have hn : narrow .long (.long z) = .long z := rfl
  show Steps p.tables e below (T.setTop { method := m, pc := pc, locals := Ls, stack := _ :: rest, locked := none }) _
  jvm_step X.here [X.here.top, hx, hd, hm', hret, hn]
  first | (intro acts; rw [hl _ acts rfl rfl rfl]) | rw [hl _ _ rfl rfl rfl]
  exact Steps.refl _
end New
end Jvm.RoadKit
namespace Jvm.Pilot.@@N@@
open Jvm Jvm.ClassFile Sem Op Lib Jvm.Free Jvm.Stand Jvm.LawKit Jvm.RoadKit Bundle Jvm.Pilot.@@N@@.Jvm.D
def own_nw (c i : Int64) : Int64 := i * ((2 : Int64) - (c * i))
def own_inv (c : Int64) : Int64 := own_nw c (own_nw c (own_nw c (own_nw c (own_nw c c))))
def own_sr (x : Int64) (k : Int32) : Int64 := (x.toUInt64 >>> (k &&& 0x3f).toInt64.toUInt64).toInt64
def own_xs (x : Int64) (k : Int32) : Int64 := x ^^^ own_sr x k
def own_mix (x : Int64) : Int64 := own_xs (own_xs (own_xs x 30 * (-4658895280553007687)) 27 * (-7723592293110705685)) 31
def own_un (x : Int64) (a b : Int32) : Int64 := (x ^^^ own_sr x a) ^^^ own_sr x b
theorem d1_0 : decode method_2_code 0 = .ok (.lload_n 0, 1) := by decide +kernel
theorem d1_1 : decode method_2_code 1 = .ok (.lstore_n 2, 1) := by decide +kernel
theorem d1_2 : decode method_2_code 2 = .ok (.lload_n 2, 1) := by decide +kernel
theorem d1_3 : decode method_2_code 3 = .ok (.ldc2_w 7, 3) := by decide +kernel
theorem d1_6 : decode method_2_code 6 = .ok (.lload_n 0, 1) := by decide +kernel
theorem d1_7 : decode method_2_code 7 = .ok (.lload_n 2, 1) := by decide +kernel
theorem d1_8 : decode method_2_code 8 = .ok (.lmul, 1) := by decide +kernel
theorem d1_9 : decode method_2_code 9 = .ok (.lsub, 1) := by decide +kernel
theorem d1_10 : decode method_2_code 10 = .ok (.lmul, 1) := by decide +kernel
theorem d1_11 : decode method_2_code 11 = .ok (.lstore_n 2, 1) := by decide +kernel
theorem d1_12 : decode method_2_code 12 = .ok (.lload_n 2, 1) := by decide +kernel
theorem d1_13 : decode method_2_code 13 = .ok (.ldc2_w 7, 3) := by decide +kernel
theorem d1_16 : decode method_2_code 16 = .ok (.lload_n 0, 1) := by decide +kernel
theorem d1_17 : decode method_2_code 17 = .ok (.lload_n 2, 1) := by decide +kernel
theorem d1_18 : decode method_2_code 18 = .ok (.lmul, 1) := by decide +kernel
theorem d1_19 : decode method_2_code 19 = .ok (.lsub, 1) := by decide +kernel
theorem d1_20 : decode method_2_code 20 = .ok (.lmul, 1) := by decide +kernel
theorem d1_21 : decode method_2_code 21 = .ok (.lstore_n 2, 1) := by decide +kernel
theorem d1_22 : decode method_2_code 22 = .ok (.lload_n 2, 1) := by decide +kernel
theorem d1_23 : decode method_2_code 23 = .ok (.ldc2_w 7, 3) := by decide +kernel
theorem d1_26 : decode method_2_code 26 = .ok (.lload_n 0, 1) := by decide +kernel
theorem d1_27 : decode method_2_code 27 = .ok (.lload_n 2, 1) := by decide +kernel
theorem d1_28 : decode method_2_code 28 = .ok (.lmul, 1) := by decide +kernel
theorem d1_29 : decode method_2_code 29 = .ok (.lsub, 1) := by decide +kernel
theorem d1_30 : decode method_2_code 30 = .ok (.lmul, 1) := by decide +kernel
theorem d1_31 : decode method_2_code 31 = .ok (.lstore_n 2, 1) := by decide +kernel
theorem d1_32 : decode method_2_code 32 = .ok (.lload_n 2, 1) := by decide +kernel
theorem d1_33 : decode method_2_code 33 = .ok (.ldc2_w 7, 3) := by decide +kernel
theorem d1_36 : decode method_2_code 36 = .ok (.lload_n 0, 1) := by decide +kernel
theorem d1_37 : decode method_2_code 37 = .ok (.lload_n 2, 1) := by decide +kernel
theorem d1_38 : decode method_2_code 38 = .ok (.lmul, 1) := by decide +kernel
theorem d1_39 : decode method_2_code 39 = .ok (.lsub, 1) := by decide +kernel
theorem d1_40 : decode method_2_code 40 = .ok (.lmul, 1) := by decide +kernel
theorem d1_41 : decode method_2_code 41 = .ok (.lstore_n 2, 1) := by decide +kernel
theorem d1_42 : decode method_2_code 42 = .ok (.lload_n 2, 1) := by decide +kernel
theorem d1_43 : decode method_2_code 43 = .ok (.ldc2_w 7, 3) := by decide +kernel
theorem d1_46 : decode method_2_code 46 = .ok (.lload_n 0, 1) := by decide +kernel
theorem d1_47 : decode method_2_code 47 = .ok (.lload_n 2, 1) := by decide +kernel
theorem d1_48 : decode method_2_code 48 = .ok (.lmul, 1) := by decide +kernel
theorem d1_49 : decode method_2_code 49 = .ok (.lsub, 1) := by decide +kernel
theorem d1_50 : decode method_2_code 50 = .ok (.lmul, 1) := by decide +kernel
theorem d1_51 : decode method_2_code 51 = .ok (.lstore_n 2, 1) := by decide +kernel
theorem d1_52 : decode method_2_code 52 = .ok (.lload_n 2, 1) := by decide +kernel
theorem d1_53 : decode method_2_code 53 = .ok (.lreturn, 1) := by decide +kernel
theorem pn_rm1 : plainName "com/example/velar/velar/SplitMix64MixPinLaw" = true := by first | (simp [plainName, overriddenIn]; done) | decide +kernel
theorem ef_rm1 (m : MethodId) (x0 : Int64) : entryFrame m #[(.long x0)] 4 = mkF m 0 #[.val (.long x0), .second, .unset, .unset] [] := by first | (simp [entryFrame, mkF, argsToLocals, Value.category]; done) | rfl
def Q_rm1 (Z : State) (q1 : Int64) (h0 : Heap) (n0 : Nat) (v : Option Value) (h : Heap) (L : List Loc) : Prop := v = some (.long (own_inv q1)) ∧ Fr n0 L ∧ h = h0
set_option maxRecDepth 65536 in
set_option maxHeartbeats 40000000 in
theorem rm1 (l : Launch) (Z : State) (a0 : Array Value) (hw : ∀ d ∈ tables_1, d.before a0 Z = true) (ws : List Jvm.Cond) (q1 : Int64) (h0 : Heap) (n0 : Nat) (Z0 : n0 ≤ h0.size) :
    MetFree l (⟨"com/example/velar/velar/SplitMix64MixPinLaw", "inverseOf", "(J)J"⟩ : MethodName) (head1 (Jvm.Cond.code (⟨"com/example/velar/velar/SplitMix64MixPinLaw", "inverseOf", "(J)J"⟩ : MethodName) method_2_code 4 (some .long) :: ws) ({ frames := 0, cells := 0, slots := 0, locals := 0 } : Room)) (fun a U => a = #[(.long q1)] ∧ Z.Warmed39 U.vm ∧ U.heap = h0) (fun _ _ _ _ _ => True) (fun _ U o U' => ∃ v L, o = .returned v ∧ Q_rm1 Z q1 h0 n0 v U'.heap L ∧ FrameEnd U o U' L ({ frames := 0, cells := 0, slots := 0, locals := 0 } : Room).cells ({ frames := 0, cells := 0, slots := 0, locals := 0 } : Room).slots) := by
  refine MetFree.of_bodySF (plainFor_of_name pn_rm1) hisR ?_
  intro p e s m args below meth c s₁ Bd hml0 hP hK
  obtain ⟨rfl, hZ, hh⟩ := hP
  have hx := Bd.exec
  have hby := Bd.bytes
  have hml : c.maxLocals = 4 := hml0
  have hown : s.vm.findClass "com/example/velar/velar/SplitMix64MixPinLaw" = some m.cls := findClass_of_methodNamed Bd.named
  have hnm := (name_of_methodNamed Bd.named Bd.method).1
  have X0 : Stand p l e ({ frames := 0, cells := 0, slots := 0, locals := 0 } : Room) s m #[(.long q1)] below meth c s₁ [] 0 0 := Stand.of_body Bd
  have e0 : s₁.heap = h0 := by rw [← hh, Bd.state]; rfl
  have N0 := Fr.nil n0
  have pre0 : ∀ t, Steps p.tables e below (s₁.setTop (mkF m 0 #[.val (.long q1), .second, .unset, .unset] [])) t → Steps p.tables e below (s₁.setTop (entryFrame m #[(.long q1)] 4)) t := fun t k => castTop (ef_rm1 m q1) k
  obtain ⟨fs, hr, hrun, hended, hW, hsame⟩ := X0.leave (v := some (.long (own_nw q1 (own_nw q1 (own_nw q1 (own_nw q1 (own_nw q1 q1))))))) (fun h => by rw [Bd.returns] at h; cases h)
  refine ⟨_, _, pre0 _ ?_, hrun, hended, _, _, rfl, ?_, ⟨_, rfl⟩, hW, hsame.mono (by decide) (by decide)⟩
  · show Steps p.tables e below (s₁.setTop (mkF m 0 #[.val (.long q1), .second, .unset, .unset] [])) _
    refine XS.lloadN X0.here hx rfl (hb hby d1_0) rfl ?_
    show Steps p.tables e below (s₁.setTop (mkF m 1 #[.val (.long q1), .second, .unset, .unset] [(.long q1)])) _
    refine XS.lstoreN X0.here hx rfl (hb hby d1_1) rfl (l' := #[.val (.long q1), .second, .val (.long q1), .second]) rfl ?_
    show Steps p.tables e below (s₁.setTop (mkF m 2 #[.val (.long q1), .second, .val (.long q1), .second] [])) _
    refine XS.lloadN X0.here hx rfl (hb hby d1_2) rfl ?_
    show Steps p.tables e below (s₁.setTop (mkF m 3 #[.val (.long q1), .second, .val (.long q1), .second] [(.long q1)])) _
    refine X0.ldc2Long hx hown (mvT hZ (hw _ (List.mem_of_getElem? (i := 6) rfl))) (g := (mkF m 3 #[.val (.long q1), .second, .val (.long q1), .second] [(.long q1)])) rfl (hb hby d1_3) _ ?_
    show Steps p.tables e below (s₁.setTop (mkF m 6 #[.val (.long q1), .second, .val (.long q1), .second] [(.long (2 : Int64)), (.long q1)])) _
    refine XS.lloadN X0.here hx rfl (hb hby d1_6) rfl ?_
    show Steps p.tables e below (s₁.setTop (mkF m 7 #[.val (.long q1), .second, .val (.long q1), .second] [(.long q1), (.long (2 : Int64)), (.long q1)])) _
    refine XS.lloadN X0.here hx rfl (hb hby d1_7) rfl ?_
    show Steps p.tables e below (s₁.setTop (mkF m 8 #[.val (.long q1), .second, .val (.long q1), .second] [(.long q1), (.long q1), (.long (2 : Int64)), (.long q1)])) _
    refine XS.lmul X0.here hx rfl (hb hby d1_8) rfl ?_
    show Steps p.tables e below (s₁.setTop (mkF m 9 #[.val (.long q1), .second, .val (.long q1), .second] [(.long (q1 * q1)), (.long (2 : Int64)), (.long q1)])) _
    refine XS.lsub X0.here hx rfl (hb hby d1_9) rfl ?_
    show Steps p.tables e below (s₁.setTop (mkF m 10 #[.val (.long q1), .second, .val (.long q1), .second] [(.long ((2 : Int64) - (q1 * q1))), (.long q1)])) _
    refine XS.lmul X0.here hx rfl (hb hby d1_10) rfl ?_
    show Steps p.tables e below (s₁.setTop (mkF m 11 #[.val (.long q1), .second, .val (.long q1), .second] [(.long (own_nw q1 q1))])) _
    refine XS.lstoreN X0.here hx rfl (hb hby d1_11) rfl (l' := #[.val (.long q1), .second, .val (.long (own_nw q1 q1)), .second]) rfl ?_
    show Steps p.tables e below (s₁.setTop (mkF m 12 #[.val (.long q1), .second, .val (.long (own_nw q1 q1)), .second] [])) _
    refine XS.lloadN X0.here hx rfl (hb hby d1_12) rfl ?_
    show Steps p.tables e below (s₁.setTop (mkF m 13 #[.val (.long q1), .second, .val (.long (own_nw q1 q1)), .second] [(.long (own_nw q1 q1))])) _
    refine X0.ldc2Long hx hown (mvT hZ (hw _ (List.mem_of_getElem? (i := 6) rfl))) (g := (mkF m 13 #[.val (.long q1), .second, .val (.long (own_nw q1 q1)), .second] [(.long (own_nw q1 q1))])) rfl (hb hby d1_13) _ ?_
    show Steps p.tables e below (s₁.setTop (mkF m 16 #[.val (.long q1), .second, .val (.long (own_nw q1 q1)), .second] [(.long (2 : Int64)), (.long (own_nw q1 q1))])) _
    refine XS.lloadN X0.here hx rfl (hb hby d1_16) rfl ?_
    show Steps p.tables e below (s₁.setTop (mkF m 17 #[.val (.long q1), .second, .val (.long (own_nw q1 q1)), .second] [(.long q1), (.long (2 : Int64)), (.long (own_nw q1 q1))])) _
    refine XS.lloadN X0.here hx rfl (hb hby d1_17) rfl ?_
    show Steps p.tables e below (s₁.setTop (mkF m 18 #[.val (.long q1), .second, .val (.long (own_nw q1 q1)), .second] [(.long (own_nw q1 q1)), (.long q1), (.long (2 : Int64)), (.long (own_nw q1 q1))])) _
    refine XS.lmul X0.here hx rfl (hb hby d1_18) rfl ?_
    show Steps p.tables e below (s₁.setTop (mkF m 19 #[.val (.long q1), .second, .val (.long (own_nw q1 q1)), .second] [(.long (q1 * (own_nw q1 q1))), (.long (2 : Int64)), (.long (own_nw q1 q1))])) _
    refine XS.lsub X0.here hx rfl (hb hby d1_19) rfl ?_
    show Steps p.tables e below (s₁.setTop (mkF m 20 #[.val (.long q1), .second, .val (.long (own_nw q1 q1)), .second] [(.long ((2 : Int64) - (q1 * (own_nw q1 q1)))), (.long (own_nw q1 q1))])) _
    refine XS.lmul X0.here hx rfl (hb hby d1_20) rfl ?_
    show Steps p.tables e below (s₁.setTop (mkF m 21 #[.val (.long q1), .second, .val (.long (own_nw q1 q1)), .second] [(.long (own_nw q1 (own_nw q1 q1)))])) _
    refine XS.lstoreN X0.here hx rfl (hb hby d1_21) rfl (l' := #[.val (.long q1), .second, .val (.long (own_nw q1 (own_nw q1 q1))), .second]) rfl ?_
    show Steps p.tables e below (s₁.setTop (mkF m 22 #[.val (.long q1), .second, .val (.long (own_nw q1 (own_nw q1 q1))), .second] [])) _
    refine XS.lloadN X0.here hx rfl (hb hby d1_22) rfl ?_
    show Steps p.tables e below (s₁.setTop (mkF m 23 #[.val (.long q1), .second, .val (.long (own_nw q1 (own_nw q1 q1))), .second] [(.long (own_nw q1 (own_nw q1 q1)))])) _
    refine X0.ldc2Long hx hown (mvT hZ (hw _ (List.mem_of_getElem? (i := 6) rfl))) (g := (mkF m 23 #[.val (.long q1), .second, .val (.long (own_nw q1 (own_nw q1 q1))), .second] [(.long (own_nw q1 (own_nw q1 q1)))])) rfl (hb hby d1_23) _ ?_
    show Steps p.tables e below (s₁.setTop (mkF m 26 #[.val (.long q1), .second, .val (.long (own_nw q1 (own_nw q1 q1))), .second] [(.long (2 : Int64)), (.long (own_nw q1 (own_nw q1 q1)))])) _
    refine XS.lloadN X0.here hx rfl (hb hby d1_26) rfl ?_
    show Steps p.tables e below (s₁.setTop (mkF m 27 #[.val (.long q1), .second, .val (.long (own_nw q1 (own_nw q1 q1))), .second] [(.long q1), (.long (2 : Int64)), (.long (own_nw q1 (own_nw q1 q1)))])) _
    refine XS.lloadN X0.here hx rfl (hb hby d1_27) rfl ?_
    show Steps p.tables e below (s₁.setTop (mkF m 28 #[.val (.long q1), .second, .val (.long (own_nw q1 (own_nw q1 q1))), .second] [(.long (own_nw q1 (own_nw q1 q1))), (.long q1), (.long (2 : Int64)), (.long (own_nw q1 (own_nw q1 q1)))])) _
    refine XS.lmul X0.here hx rfl (hb hby d1_28) rfl ?_
    show Steps p.tables e below (s₁.setTop (mkF m 29 #[.val (.long q1), .second, .val (.long (own_nw q1 (own_nw q1 q1))), .second] [(.long (q1 * (own_nw q1 (own_nw q1 q1)))), (.long (2 : Int64)), (.long (own_nw q1 (own_nw q1 q1)))])) _
    refine XS.lsub X0.here hx rfl (hb hby d1_29) rfl ?_
    show Steps p.tables e below (s₁.setTop (mkF m 30 #[.val (.long q1), .second, .val (.long (own_nw q1 (own_nw q1 q1))), .second] [(.long ((2 : Int64) - (q1 * (own_nw q1 (own_nw q1 q1))))), (.long (own_nw q1 (own_nw q1 q1)))])) _
    refine XS.lmul X0.here hx rfl (hb hby d1_30) rfl ?_
    show Steps p.tables e below (s₁.setTop (mkF m 31 #[.val (.long q1), .second, .val (.long (own_nw q1 (own_nw q1 q1))), .second] [(.long (own_nw q1 (own_nw q1 (own_nw q1 q1))))])) _
    refine XS.lstoreN X0.here hx rfl (hb hby d1_31) rfl (l' := #[.val (.long q1), .second, .val (.long (own_nw q1 (own_nw q1 (own_nw q1 q1)))), .second]) rfl ?_
    show Steps p.tables e below (s₁.setTop (mkF m 32 #[.val (.long q1), .second, .val (.long (own_nw q1 (own_nw q1 (own_nw q1 q1)))), .second] [])) _
    refine XS.lloadN X0.here hx rfl (hb hby d1_32) rfl ?_
    show Steps p.tables e below (s₁.setTop (mkF m 33 #[.val (.long q1), .second, .val (.long (own_nw q1 (own_nw q1 (own_nw q1 q1)))), .second] [(.long (own_nw q1 (own_nw q1 (own_nw q1 q1))))])) _
    refine X0.ldc2Long hx hown (mvT hZ (hw _ (List.mem_of_getElem? (i := 6) rfl))) (g := (mkF m 33 #[.val (.long q1), .second, .val (.long (own_nw q1 (own_nw q1 (own_nw q1 q1)))), .second] [(.long (own_nw q1 (own_nw q1 (own_nw q1 q1))))])) rfl (hb hby d1_33) _ ?_
    show Steps p.tables e below (s₁.setTop (mkF m 36 #[.val (.long q1), .second, .val (.long (own_nw q1 (own_nw q1 (own_nw q1 q1)))), .second] [(.long (2 : Int64)), (.long (own_nw q1 (own_nw q1 (own_nw q1 q1))))])) _
    refine XS.lloadN X0.here hx rfl (hb hby d1_36) rfl ?_
    show Steps p.tables e below (s₁.setTop (mkF m 37 #[.val (.long q1), .second, .val (.long (own_nw q1 (own_nw q1 (own_nw q1 q1)))), .second] [(.long q1), (.long (2 : Int64)), (.long (own_nw q1 (own_nw q1 (own_nw q1 q1))))])) _
    refine XS.lloadN X0.here hx rfl (hb hby d1_37) rfl ?_
    show Steps p.tables e below (s₁.setTop (mkF m 38 #[.val (.long q1), .second, .val (.long (own_nw q1 (own_nw q1 (own_nw q1 q1)))), .second] [(.long (own_nw q1 (own_nw q1 (own_nw q1 q1)))), (.long q1), (.long (2 : Int64)), (.long (own_nw q1 (own_nw q1 (own_nw q1 q1))))])) _
    refine XS.lmul X0.here hx rfl (hb hby d1_38) rfl ?_
    show Steps p.tables e below (s₁.setTop (mkF m 39 #[.val (.long q1), .second, .val (.long (own_nw q1 (own_nw q1 (own_nw q1 q1)))), .second] [(.long (q1 * (own_nw q1 (own_nw q1 (own_nw q1 q1))))), (.long (2 : Int64)), (.long (own_nw q1 (own_nw q1 (own_nw q1 q1))))])) _
    refine XS.lsub X0.here hx rfl (hb hby d1_39) rfl ?_
    show Steps p.tables e below (s₁.setTop (mkF m 40 #[.val (.long q1), .second, .val (.long (own_nw q1 (own_nw q1 (own_nw q1 q1)))), .second] [(.long ((2 : Int64) - (q1 * (own_nw q1 (own_nw q1 (own_nw q1 q1)))))), (.long (own_nw q1 (own_nw q1 (own_nw q1 q1))))])) _
    refine XS.lmul X0.here hx rfl (hb hby d1_40) rfl ?_
    show Steps p.tables e below (s₁.setTop (mkF m 41 #[.val (.long q1), .second, .val (.long (own_nw q1 (own_nw q1 (own_nw q1 q1)))), .second] [(.long (own_nw q1 (own_nw q1 (own_nw q1 (own_nw q1 q1)))))])) _
    refine XS.lstoreN X0.here hx rfl (hb hby d1_41) rfl (l' := #[.val (.long q1), .second, .val (.long (own_nw q1 (own_nw q1 (own_nw q1 (own_nw q1 q1))))), .second]) rfl ?_
    show Steps p.tables e below (s₁.setTop (mkF m 42 #[.val (.long q1), .second, .val (.long (own_nw q1 (own_nw q1 (own_nw q1 (own_nw q1 q1))))), .second] [])) _
    refine XS.lloadN X0.here hx rfl (hb hby d1_42) rfl ?_
    show Steps p.tables e below (s₁.setTop (mkF m 43 #[.val (.long q1), .second, .val (.long (own_nw q1 (own_nw q1 (own_nw q1 (own_nw q1 q1))))), .second] [(.long (own_nw q1 (own_nw q1 (own_nw q1 (own_nw q1 q1)))))])) _
    refine X0.ldc2Long hx hown (mvT hZ (hw _ (List.mem_of_getElem? (i := 6) rfl))) (g := (mkF m 43 #[.val (.long q1), .second, .val (.long (own_nw q1 (own_nw q1 (own_nw q1 (own_nw q1 q1))))), .second] [(.long (own_nw q1 (own_nw q1 (own_nw q1 (own_nw q1 q1)))))])) rfl (hb hby d1_43) _ ?_
    show Steps p.tables e below (s₁.setTop (mkF m 46 #[.val (.long q1), .second, .val (.long (own_nw q1 (own_nw q1 (own_nw q1 (own_nw q1 q1))))), .second] [(.long (2 : Int64)), (.long (own_nw q1 (own_nw q1 (own_nw q1 (own_nw q1 q1)))))])) _
    refine XS.lloadN X0.here hx rfl (hb hby d1_46) rfl ?_
    show Steps p.tables e below (s₁.setTop (mkF m 47 #[.val (.long q1), .second, .val (.long (own_nw q1 (own_nw q1 (own_nw q1 (own_nw q1 q1))))), .second] [(.long q1), (.long (2 : Int64)), (.long (own_nw q1 (own_nw q1 (own_nw q1 (own_nw q1 q1)))))])) _
    refine XS.lloadN X0.here hx rfl (hb hby d1_47) rfl ?_
    show Steps p.tables e below (s₁.setTop (mkF m 48 #[.val (.long q1), .second, .val (.long (own_nw q1 (own_nw q1 (own_nw q1 (own_nw q1 q1))))), .second] [(.long (own_nw q1 (own_nw q1 (own_nw q1 (own_nw q1 q1))))), (.long q1), (.long (2 : Int64)), (.long (own_nw q1 (own_nw q1 (own_nw q1 (own_nw q1 q1)))))])) _
    refine XS.lmul X0.here hx rfl (hb hby d1_48) rfl ?_
    show Steps p.tables e below (s₁.setTop (mkF m 49 #[.val (.long q1), .second, .val (.long (own_nw q1 (own_nw q1 (own_nw q1 (own_nw q1 q1))))), .second] [(.long (q1 * (own_nw q1 (own_nw q1 (own_nw q1 (own_nw q1 q1)))))), (.long (2 : Int64)), (.long (own_nw q1 (own_nw q1 (own_nw q1 (own_nw q1 q1)))))])) _
    refine XS.lsub X0.here hx rfl (hb hby d1_49) rfl ?_
    show Steps p.tables e below (s₁.setTop (mkF m 50 #[.val (.long q1), .second, .val (.long (own_nw q1 (own_nw q1 (own_nw q1 (own_nw q1 q1))))), .second] [(.long ((2 : Int64) - (q1 * (own_nw q1 (own_nw q1 (own_nw q1 (own_nw q1 q1))))))), (.long (own_nw q1 (own_nw q1 (own_nw q1 (own_nw q1 q1)))))])) _
    refine XS.lmul X0.here hx rfl (hb hby d1_50) rfl ?_
    show Steps p.tables e below (s₁.setTop (mkF m 51 #[.val (.long q1), .second, .val (.long (own_nw q1 (own_nw q1 (own_nw q1 (own_nw q1 q1))))), .second] [(.long (own_nw q1 (own_nw q1 (own_nw q1 (own_nw q1 (own_nw q1 q1))))))])) _
    refine XS.lstoreN X0.here hx rfl (hb hby d1_51) rfl (l' := #[.val (.long q1), .second, .val (.long (own_nw q1 (own_nw q1 (own_nw q1 (own_nw q1 (own_nw q1 q1)))))), .second]) rfl ?_
    show Steps p.tables e below (s₁.setTop (mkF m 52 #[.val (.long q1), .second, .val (.long (own_nw q1 (own_nw q1 (own_nw q1 (own_nw q1 (own_nw q1 q1)))))), .second] [])) _
    refine XS.lloadN X0.here hx rfl (hb hby d1_52) rfl ?_
    show Steps p.tables e below (s₁.setTop (mkF m 53 #[.val (.long q1), .second, .val (.long (own_nw q1 (own_nw q1 (own_nw q1 (own_nw q1 (own_nw q1 q1)))))), .second] [(.long (own_nw q1 (own_nw q1 (own_nw q1 (own_nw q1 (own_nw q1 q1))))))])) _
    exact retJ X0 hx Bd.returns (hb hby d1_53) hr
  · show Q_rm1 Z q1 h0 n0 _ s₁.heap _
    rw [e0]
    exact ⟨rfl, N0, rfl⟩
theorem d2_0 : decode prog_20_method_3_code 0 = .ok (.lload_n 0, 1) := by decide +kernel
theorem d2_1 : decode prog_20_method_3_code 1 = .ok (.lload_n 0, 1) := by decide +kernel
theorem d2_2 : decode prog_20_method_3_code 2 = .ok (.bipush 30, 2) := by decide +kernel
theorem d2_4 : decode prog_20_method_3_code 4 = .ok (.lushr, 1) := by decide +kernel
theorem d2_5 : decode prog_20_method_3_code 5 = .ok (.lxor, 1) := by decide +kernel
theorem d2_6 : decode prog_20_method_3_code 6 = .ok (.ldc2_w 19, 3) := by decide +kernel
theorem d2_9 : decode prog_20_method_3_code 9 = .ok (.lmul, 1) := by decide +kernel
theorem d2_10 : decode prog_20_method_3_code 10 = .ok (.lstore_n 2, 1) := by decide +kernel
theorem d2_11 : decode prog_20_method_3_code 11 = .ok (.lload_n 2, 1) := by decide +kernel
theorem d2_12 : decode prog_20_method_3_code 12 = .ok (.lload_n 2, 1) := by decide +kernel
theorem d2_13 : decode prog_20_method_3_code 13 = .ok (.bipush 27, 2) := by decide +kernel
theorem d2_15 : decode prog_20_method_3_code 15 = .ok (.lushr, 1) := by decide +kernel
theorem d2_16 : decode prog_20_method_3_code 16 = .ok (.lxor, 1) := by decide +kernel
theorem d2_17 : decode prog_20_method_3_code 17 = .ok (.ldc2_w 21, 3) := by decide +kernel
theorem d2_20 : decode prog_20_method_3_code 20 = .ok (.lmul, 1) := by decide +kernel
theorem d2_21 : decode prog_20_method_3_code 21 = .ok (.lstore_n 2, 1) := by decide +kernel
theorem d2_22 : decode prog_20_method_3_code 22 = .ok (.lload_n 2, 1) := by decide +kernel
theorem d2_23 : decode prog_20_method_3_code 23 = .ok (.lload_n 2, 1) := by decide +kernel
theorem d2_24 : decode prog_20_method_3_code 24 = .ok (.bipush 31, 2) := by decide +kernel
theorem d2_26 : decode prog_20_method_3_code 26 = .ok (.lushr, 1) := by decide +kernel
theorem d2_27 : decode prog_20_method_3_code 27 = .ok (.lxor, 1) := by decide +kernel
theorem d2_28 : decode prog_20_method_3_code 28 = .ok (.lreturn, 1) := by decide +kernel
theorem pn_rm2 : plainName "com/example/velar/velar/SplitMix64" = true := by first | (simp [plainName, overriddenIn]; done) | decide +kernel
theorem ef_rm2 (m : MethodId) (x0 : Int64) : entryFrame m #[(.long x0)] 4 = mkF m 0 #[.val (.long x0), .second, .unset, .unset] [] := by first | (simp [entryFrame, mkF, argsToLocals, Value.category]; done) | rfl
def Q_rm2 (Z : State) (q1 : Int64) (h0 : Heap) (n0 : Nat) (v : Option Value) (h : Heap) (L : List Loc) : Prop := v = some (.long (own_mix q1)) ∧ Fr n0 L ∧ h = h0
set_option maxRecDepth 65536 in
set_option maxHeartbeats 40000000 in
theorem rm2 (l : Launch) (Z : State) (a0 : Array Value) (hw : ∀ d ∈ tables_1, d.before a0 Z = true) (ws : List Jvm.Cond) (q1 : Int64) (h0 : Heap) (n0 : Nat) (Z0 : n0 ≤ h0.size) :
    MetFree l (⟨"com/example/velar/velar/SplitMix64", "mix", "(J)J"⟩ : MethodName) (head1 (Jvm.Cond.code (⟨"com/example/velar/velar/SplitMix64", "mix", "(J)J"⟩ : MethodName) prog_20_method_3_code 4 (some .long) :: ws) ({ frames := 0, cells := 0, slots := 0, locals := 0 } : Room)) (fun a U => a = #[(.long q1)] ∧ Z.Warmed39 U.vm ∧ U.heap = h0) (fun _ _ _ _ _ => True) (fun _ U o U' => ∃ v L, o = .returned v ∧ Q_rm2 Z q1 h0 n0 v U'.heap L ∧ FrameEnd U o U' L ({ frames := 0, cells := 0, slots := 0, locals := 0 } : Room).cells ({ frames := 0, cells := 0, slots := 0, locals := 0 } : Room).slots) := by
  refine MetFree.of_bodySF (plainFor_of_name pn_rm2) hisR ?_
  intro p e s m args below meth c s₁ Bd hml0 hP hK
  obtain ⟨rfl, hZ, hh⟩ := hP
  have hx := Bd.exec
  have hby := Bd.bytes
  have hml : c.maxLocals = 4 := hml0
  have hown : s.vm.findClass "com/example/velar/velar/SplitMix64" = some m.cls := findClass_of_methodNamed Bd.named
  have hnm := (name_of_methodNamed Bd.named Bd.method).1
  have X0 : Stand p l e ({ frames := 0, cells := 0, slots := 0, locals := 0 } : Room) s m #[(.long q1)] below meth c s₁ [] 0 0 := Stand.of_body Bd
  have e0 : s₁.heap = h0 := by rw [← hh, Bd.state]; rfl
  have N0 := Fr.nil n0
  have pre0 : ∀ t, Steps p.tables e below (s₁.setTop (mkF m 0 #[.val (.long q1), .second, .unset, .unset] [])) t → Steps p.tables e below (s₁.setTop (entryFrame m #[(.long q1)] 4)) t := fun t k => castTop (ef_rm2 m q1) k
  obtain ⟨fs, hr, hrun, hended, hW, hsame⟩ := X0.leave (v := some (.long (own_xs ((own_xs ((own_xs q1 30) * (-4658895280553007687 : Int64)) 27) * (-7723592293110705685 : Int64)) 31))) (fun h => by rw [Bd.returns] at h; cases h)
  refine ⟨_, _, pre0 _ ?_, hrun, hended, _, _, rfl, ?_, ⟨_, rfl⟩, hW, hsame.mono (by decide) (by decide)⟩
  · show Steps p.tables e below (s₁.setTop (mkF m 0 #[.val (.long q1), .second, .unset, .unset] [])) _
    refine XS.lloadN X0.here hx rfl (hb hby d2_0) rfl ?_
    show Steps p.tables e below (s₁.setTop (mkF m 1 #[.val (.long q1), .second, .unset, .unset] [(.long q1)])) _
    refine XS.lloadN X0.here hx rfl (hb hby d2_1) rfl ?_
    show Steps p.tables e below (s₁.setTop (mkF m 2 #[.val (.long q1), .second, .unset, .unset] [(.long q1), (.long q1)])) _
    refine XS.bipush X0.here hx rfl (hb hby d2_2) ?_
    show Steps p.tables e below (s₁.setTop (mkF m 4 #[.val (.long q1), .second, .unset, .unset] [(.int (30 : Int32)), (.long q1), (.long q1)])) _
    refine XS.lushr X0.here hx rfl (hb hby d2_4) rfl ?_
    show Steps p.tables e below (s₁.setTop (mkF m 5 #[.val (.long q1), .second, .unset, .unset] [(.long ((q1.toUInt64 >>> ((30 : Int32) &&& 0x3f).toInt64.toUInt64).toInt64)), (.long q1)])) _
    refine XS.lxor X0.here hx rfl (hb hby d2_5) rfl ?_
    show Steps p.tables e below (s₁.setTop (mkF m 6 #[.val (.long q1), .second, .unset, .unset] [(.long (q1 ^^^ ((q1.toUInt64 >>> ((30 : Int32) &&& 0x3f).toInt64.toUInt64).toInt64)))])) _
    refine X0.ldc2Long hx hown (mvT hZ (hw _ (List.mem_of_getElem? (i := 11) rfl))) (g := (mkF m 6 #[.val (.long q1), .second, .unset, .unset] [(.long (q1 ^^^ ((q1.toUInt64 >>> ((30 : Int32) &&& 0x3f).toInt64.toUInt64).toInt64)))])) rfl (hb hby d2_6) _ ?_
    show Steps p.tables e below (s₁.setTop (mkF m 9 #[.val (.long q1), .second, .unset, .unset] [(.long (-4658895280553007687 : Int64)), (.long (q1 ^^^ ((q1.toUInt64 >>> ((30 : Int32) &&& 0x3f).toInt64.toUInt64).toInt64)))])) _
    refine XS.lmul X0.here hx rfl (hb hby d2_9) rfl ?_
    show Steps p.tables e below (s₁.setTop (mkF m 10 #[.val (.long q1), .second, .unset, .unset] [(.long ((own_xs q1 30) * (-4658895280553007687 : Int64)))])) _
    refine XS.lstoreN X0.here hx rfl (hb hby d2_10) rfl (l' := #[.val (.long q1), .second, .val (.long ((own_xs q1 30) * (-4658895280553007687 : Int64))), .second]) rfl ?_
    show Steps p.tables e below (s₁.setTop (mkF m 11 #[.val (.long q1), .second, .val (.long ((own_xs q1 30) * (-4658895280553007687 : Int64))), .second] [])) _
    refine XS.lloadN X0.here hx rfl (hb hby d2_11) rfl ?_
    show Steps p.tables e below (s₁.setTop (mkF m 12 #[.val (.long q1), .second, .val (.long ((own_xs q1 30) * (-4658895280553007687 : Int64))), .second] [(.long ((own_xs q1 30) * (-4658895280553007687 : Int64)))])) _
    refine XS.lloadN X0.here hx rfl (hb hby d2_12) rfl ?_
    show Steps p.tables e below (s₁.setTop (mkF m 13 #[.val (.long q1), .second, .val (.long ((own_xs q1 30) * (-4658895280553007687 : Int64))), .second] [(.long ((own_xs q1 30) * (-4658895280553007687 : Int64))), (.long ((own_xs q1 30) * (-4658895280553007687 : Int64)))])) _
    refine XS.bipush X0.here hx rfl (hb hby d2_13) ?_
    show Steps p.tables e below (s₁.setTop (mkF m 15 #[.val (.long q1), .second, .val (.long ((own_xs q1 30) * (-4658895280553007687 : Int64))), .second] [(.int (27 : Int32)), (.long ((own_xs q1 30) * (-4658895280553007687 : Int64))), (.long ((own_xs q1 30) * (-4658895280553007687 : Int64)))])) _
    refine XS.lushr X0.here hx rfl (hb hby d2_15) rfl ?_
    show Steps p.tables e below (s₁.setTop (mkF m 16 #[.val (.long q1), .second, .val (.long ((own_xs q1 30) * (-4658895280553007687 : Int64))), .second] [(.long ((((own_xs q1 30) * (-4658895280553007687 : Int64)).toUInt64 >>> ((27 : Int32) &&& 0x3f).toInt64.toUInt64).toInt64)), (.long ((own_xs q1 30) * (-4658895280553007687 : Int64)))])) _
    refine XS.lxor X0.here hx rfl (hb hby d2_16) rfl ?_
    show Steps p.tables e below (s₁.setTop (mkF m 17 #[.val (.long q1), .second, .val (.long ((own_xs q1 30) * (-4658895280553007687 : Int64))), .second] [(.long (((own_xs q1 30) * (-4658895280553007687 : Int64)) ^^^ ((((own_xs q1 30) * (-4658895280553007687 : Int64)).toUInt64 >>> ((27 : Int32) &&& 0x3f).toInt64.toUInt64).toInt64)))])) _
    refine X0.ldc2Long hx hown (mvT hZ (hw _ (List.mem_of_getElem? (i := 12) rfl))) (g := (mkF m 17 #[.val (.long q1), .second, .val (.long ((own_xs q1 30) * (-4658895280553007687 : Int64))), .second] [(.long (((own_xs q1 30) * (-4658895280553007687 : Int64)) ^^^ ((((own_xs q1 30) * (-4658895280553007687 : Int64)).toUInt64 >>> ((27 : Int32) &&& 0x3f).toInt64.toUInt64).toInt64)))])) rfl (hb hby d2_17) _ ?_
    show Steps p.tables e below (s₁.setTop (mkF m 20 #[.val (.long q1), .second, .val (.long ((own_xs q1 30) * (-4658895280553007687 : Int64))), .second] [(.long (-7723592293110705685 : Int64)), (.long (((own_xs q1 30) * (-4658895280553007687 : Int64)) ^^^ ((((own_xs q1 30) * (-4658895280553007687 : Int64)).toUInt64 >>> ((27 : Int32) &&& 0x3f).toInt64.toUInt64).toInt64)))])) _
    refine XS.lmul X0.here hx rfl (hb hby d2_20) rfl ?_
    show Steps p.tables e below (s₁.setTop (mkF m 21 #[.val (.long q1), .second, .val (.long ((own_xs q1 30) * (-4658895280553007687 : Int64))), .second] [(.long ((own_xs ((own_xs q1 30) * (-4658895280553007687 : Int64)) 27) * (-7723592293110705685 : Int64)))])) _
    refine XS.lstoreN X0.here hx rfl (hb hby d2_21) rfl (l' := #[.val (.long q1), .second, .val (.long ((own_xs ((own_xs q1 30) * (-4658895280553007687 : Int64)) 27) * (-7723592293110705685 : Int64))), .second]) rfl ?_
    show Steps p.tables e below (s₁.setTop (mkF m 22 #[.val (.long q1), .second, .val (.long ((own_xs ((own_xs q1 30) * (-4658895280553007687 : Int64)) 27) * (-7723592293110705685 : Int64))), .second] [])) _
    refine XS.lloadN X0.here hx rfl (hb hby d2_22) rfl ?_
    show Steps p.tables e below (s₁.setTop (mkF m 23 #[.val (.long q1), .second, .val (.long ((own_xs ((own_xs q1 30) * (-4658895280553007687 : Int64)) 27) * (-7723592293110705685 : Int64))), .second] [(.long ((own_xs ((own_xs q1 30) * (-4658895280553007687 : Int64)) 27) * (-7723592293110705685 : Int64)))])) _
    refine XS.lloadN X0.here hx rfl (hb hby d2_23) rfl ?_
    show Steps p.tables e below (s₁.setTop (mkF m 24 #[.val (.long q1), .second, .val (.long ((own_xs ((own_xs q1 30) * (-4658895280553007687 : Int64)) 27) * (-7723592293110705685 : Int64))), .second] [(.long ((own_xs ((own_xs q1 30) * (-4658895280553007687 : Int64)) 27) * (-7723592293110705685 : Int64))), (.long ((own_xs ((own_xs q1 30) * (-4658895280553007687 : Int64)) 27) * (-7723592293110705685 : Int64)))])) _
    refine XS.bipush X0.here hx rfl (hb hby d2_24) ?_
    show Steps p.tables e below (s₁.setTop (mkF m 26 #[.val (.long q1), .second, .val (.long ((own_xs ((own_xs q1 30) * (-4658895280553007687 : Int64)) 27) * (-7723592293110705685 : Int64))), .second] [(.int (31 : Int32)), (.long ((own_xs ((own_xs q1 30) * (-4658895280553007687 : Int64)) 27) * (-7723592293110705685 : Int64))), (.long ((own_xs ((own_xs q1 30) * (-4658895280553007687 : Int64)) 27) * (-7723592293110705685 : Int64)))])) _
    refine XS.lushr X0.here hx rfl (hb hby d2_26) rfl ?_
    show Steps p.tables e below (s₁.setTop (mkF m 27 #[.val (.long q1), .second, .val (.long ((own_xs ((own_xs q1 30) * (-4658895280553007687 : Int64)) 27) * (-7723592293110705685 : Int64))), .second] [(.long ((((own_xs ((own_xs q1 30) * (-4658895280553007687 : Int64)) 27) * (-7723592293110705685 : Int64)).toUInt64 >>> ((31 : Int32) &&& 0x3f).toInt64.toUInt64).toInt64)), (.long ((own_xs ((own_xs q1 30) * (-4658895280553007687 : Int64)) 27) * (-7723592293110705685 : Int64)))])) _
    refine XS.lxor X0.here hx rfl (hb hby d2_27) rfl ?_
    show Steps p.tables e below (s₁.setTop (mkF m 28 #[.val (.long q1), .second, .val (.long ((own_xs ((own_xs q1 30) * (-4658895280553007687 : Int64)) 27) * (-7723592293110705685 : Int64))), .second] [(.long (own_xs ((own_xs ((own_xs q1 30) * (-4658895280553007687 : Int64)) 27) * (-7723592293110705685 : Int64)) 31))])) _
    exact retJ X0 hx Bd.returns (hb hby d2_28) hr
  · show Q_rm2 Z q1 h0 n0 _ s₁.heap _
    rw [e0]
    exact ⟨rfl, N0, rfl⟩
theorem own_sr_bv (x : Int64) : (own_sr x 27).toBitVec = x.toBitVec >>> 27 ∧ (own_sr x 30).toBitVec = x.toBitVec >>> 30 ∧ (own_sr x 31).toBitVec = x.toBitVec >>> 31 ∧ (own_sr x 54).toBitVec = x.toBitVec >>> 54 ∧ (own_sr x 60).toBitVec = x.toBitVec >>> 60 ∧ (own_sr x 62).toBitVec = x.toBitVec >>> 62 := by
  refine ⟨rfl, rfl, rfl, rfl, rfl, rfl⟩
theorem own_bv (x : BitVec 64) (a b : Nat) (h : b = a + a) (h2 : 64 ≤ a + b) : ((x ^^^ (x >>> a)) ^^^ ((x ^^^ (x >>> a)) >>> a)) ^^^ ((x ^^^ (x >>> a)) >>> b) = x := by
  subst h
  have e1 : x >>> (a + a) = (x >>> a) >>> a := BitVec.shiftRight_add x a a
  have e3 : (x >>> a) >>> (a + a) = 0#64 := by
    rw [← BitVec.shiftRight_add]; exact BitVec.ushiftRight_eq_zero h2
  rw [BitVec.ushiftRight_xor_distrib, BitVec.ushiftRight_xor_distrib, e3, e1, BitVec.xor_zero]
  generalize (x >>> a) >>> a = z
  generalize x >>> a = y
  rw [BitVec.xor_assoc, BitVec.xor_assoc, BitVec.xor_assoc, BitVec.xor_self, BitVec.xor_zero, BitVec.xor_self, BitVec.xor_zero]
theorem own_un_xs (x : Int64) : own_un (own_xs x 31) 31 62 = x ∧ own_un (own_xs x 27) 27 54 = x ∧ own_un (own_xs x 30) 30 60 = x := by
  refine ⟨?_, ?_, ?_⟩
  · apply Int64.toBitVec_inj.mp
    exact own_bv x.toBitVec 31 62 rfl (by decide)
  · apply Int64.toBitVec_inj.mp
    exact own_bv x.toBitVec 27 54 rfl (by decide)
  · apply Int64.toBitVec_inj.mp
    exact own_bv x.toBitVec 30 60 rfl (by decide)
theorem own_i1 : (-4658895280553007687 : Int64) * own_inv (-4658895280553007687) = 1 := by decide +kernel
theorem own_i2 : (-7723592293110705685 : Int64) * own_inv (-7723592293110705685) = 1 := by decide +kernel
theorem own_law (x : Int64) : own_un ((own_un ((own_un (own_mix x) 31 62) * (own_inv (-7723592293110705685 : Int64))) 27 54) * (own_inv (-4658895280553007687 : Int64))) 30 60 = x := by
  have h1 : ∀ z : Int64, z * (-7723592293110705685) * own_inv (-7723592293110705685) = z := fun z => by rw [Int64.mul_assoc, own_i2, Int64.mul_one]
  have h2 : ∀ z : Int64, z * (-4658895280553007687) * own_inv (-4658895280553007687) = z := fun z => by rw [Int64.mul_assoc, own_i1, Int64.mul_one]
  rw [own_mix, (own_un_xs _).1, h1, (own_un_xs _).2.1, h2, (own_un_xs _).2.2]
theorem pd_0 : parseMethodDescriptor "(J)J" = some ⟨[.long], some .long⟩ := by decide +kernel
theorem pn_rm0 : plainName "com/example/velar/velar/SplitMix64MixPinLaw" = true := by first | (simp [plainName, overriddenIn]; done) | decide +kernel
theorem ef_rm0 (m : MethodId) (x0 : Int64) : entryFrame m #[(.long x0)] maxLocals = mkF m 0 #[.val (.long x0), .second, .unset, .unset, .unset, .unset, .unset, .unset, .unset, .unset, .unset, .unset, .unset, .unset, .unset, .unset, .unset, .unset, .unset, .unset, .unset, .unset] [] := by first | (simp [entryFrame, mkF, argsToLocals, Value.category, maxLocals]; done) | rfl
def Q_rm0 (Z : State) (q1 : Int64) (h0 : Heap) (n0 : Nat) (v : Option Value) (h : Heap) (L : List Loc) : Prop := v = some (.int 1) ∧ Fr n0 L
set_option maxRecDepth 65536 in
set_option maxHeartbeats 40000000 in
theorem rm0 (l : Launch) (Z : State) (a0 : Array Value) (hw : ∀ d ∈ tables_1, d.before a0 Z = true) (ws : List Jvm.Cond) (q1 : Int64) (h0 : Heap) (n0 : Nat) (Z0 : n0 ≤ h0.size) :
    MetFree l x (head1 (Jvm.Cond.code x code maxLocals ret :: ws) room_1) (fun a U => a = #[(.long q1)] ∧ Z.Warmed39 U.vm ∧ U.heap = h0) (fun _ _ _ _ _ => True) (fun _ U o U' => ∃ v L, o = .returned v ∧ Q_rm0 Z q1 h0 n0 v U'.heap L ∧ FrameEnd U o U' L room_1.cells room_1.slots) := by
  refine MetFree.of_bodySF (plainFor_of_name pn_rm0) hisR ?_
  intro p e s m args below meth c s₁ Bd hml0 hP hK
  obtain ⟨rfl, hZ, hh⟩ := hP
  have hx := Bd.exec
  have hby := Bd.bytes
  have hml : c.maxLocals = 22 := hml0
  have hown : s.vm.findClass "com/example/velar/velar/SplitMix64MixPinLaw" = some m.cls := findClass_of_methodNamed Bd.named
  have hnm := (name_of_methodNamed Bd.named Bd.method).1
  have X0 : Stand p l e room_1 s m #[(.long q1)] below meth c s₁ [] 0 0 := Stand.of_body Bd
  have e0 : s₁.heap = h0 := by rw [← hh, Bd.state]; rfl
  have N0 := Fr.nil n0
  have pre0 : ∀ t, Steps p.tables e below (s₁.setTop (mkF m 0 #[.val (.long q1), .second, .unset, .unset, .unset, .unset, .unset, .unset, .unset, .unset, .unset, .unset, .unset, .unset, .unset, .unset, .unset, .unset, .unset, .unset, .unset, .unset] [])) t → Steps p.tables e below (s₁.setTop (entryFrame m #[(.long q1)] maxLocals)) t := fun t k => castTop (ef_rm0 m q1) k
  obtain ⟨_, _, ⟨T1, L1, k1, n1⟩, -, X1, ⟨Lc1, hQ1, l1, y1, z1⟩, st1⟩ := Jvm.LawKit.callS X0 hx (y := (⟨"com/example/velar/velar/SplitMix64MixPinLaw", "inverseOf", "(J)J"⟩ : MethodName)) hown (mvT hZ (hw _ (List.mem_of_getElem? (i := 2) rfl))) (mvT hZ (hw _ (List.mem_of_getElem? (i := 3) rfl))) (mvT hZ (hw _ (List.mem_of_getElem? (i := 4) rfl))) (mvT hZ (hw _ (List.mem_of_getElem? (i := 5) rfl))) (by decide) (backOf (W := 0) (rm1 l Z a0 hw [] (-4658895280553007687 : Int64) h0 n0 Z0) hZ (hw _ (List.mem_of_getElem? (i := 5) rfl)) (hw _ (List.mem_of_getElem? (i := 4) rfl)) (by decide) (by decide)) (g := (mkF m 10 #[.val (.long q1), .second, .val (.long (-4658895280553007687 : Int64)), .second, .val (.long (-7723592293110705685 : Int64)), .second, .unset, .unset, .unset, .unset, .unset, .unset, .unset, .unset, .unset, .unset, .unset, .unset, .unset, .unset, .unset, .unset] [(.long (-4658895280553007687 : Int64))])) rfl (by rw [hml]; rfl) (argsL := [(.long (-4658895280553007687 : Int64))]) (rest := []) (lenOf pd_0 rfl) rfl (by show 2 * 0 + _ ≤ _; exact Nat.le_of_eq rfl) (hb hby at_10) (fun _ _ => ⟨rfl, e0, (by decide : 0 + 0 ≤ _), (by decide : 0 + 0 ≤ _)⟩)
  dsimp only [Pt.U, Pt.locs, Pt.cells, Pt.slots] at X1 l1 y1 z1 st1 hQ1
  subst l1 y1 z1
  obtain ⟨rfl, N1q, e1⟩ := hQ1
  have N1 := Fr.app N0 N1q
  obtain ⟨_, _, ⟨T2, L2, k2, n2⟩, -, X2, ⟨Lc2, hQ2, l2, y2, z2⟩, st2⟩ := Jvm.LawKit.callS X1 hx (y := (⟨"com/example/velar/velar/SplitMix64MixPinLaw", "inverseOf", "(J)J"⟩ : MethodName)) hown (mvT hZ (hw _ (List.mem_of_getElem? (i := 2) rfl))) (mvT hZ (hw _ (List.mem_of_getElem? (i := 3) rfl))) (mvT hZ (hw _ (List.mem_of_getElem? (i := 4) rfl))) (mvT hZ (hw _ (List.mem_of_getElem? (i := 5) rfl))) (by decide) (backOf (W := 0) (rm1 l Z a0 hw [] (-7723592293110705685 : Int64) h0 n0 Z0) hZ (hw _ (List.mem_of_getElem? (i := 5) rfl)) (hw _ (List.mem_of_getElem? (i := 4) rfl)) (by decide) (by decide)) (g := (mkF m 17 #[.val (.long q1), .second, .val (.long (-4658895280553007687 : Int64)), .second, .val (.long (-7723592293110705685 : Int64)), .second, .val (.long (own_inv (-4658895280553007687 : Int64))), .second, .unset, .unset, .unset, .unset, .unset, .unset, .unset, .unset, .unset, .unset, .unset, .unset, .unset, .unset] [(.long (-7723592293110705685 : Int64))])) rfl (by rw [hml]; rfl) (argsL := [(.long (-7723592293110705685 : Int64))]) (rest := []) (lenOf pd_0 rfl) rfl (by show 2 * 0 + _ ≤ _; exact Nat.le_of_eq rfl) (hb hby at_17) (fun _ _ => ⟨rfl, e1, (by decide : 0 + 0 ≤ _), (by decide : 0 + 0 ≤ _)⟩)
  dsimp only [Pt.U, Pt.locs, Pt.cells, Pt.slots] at X2 l2 y2 z2 st2 hQ2
  subst l2 y2 z2
  obtain ⟨rfl, N2q, e2⟩ := hQ2
  have N2 := Fr.app N1 N2q
  obtain ⟨_, _, ⟨T3, L3, k3, n3⟩, -, X3, ⟨Lc3, hQ3, l3, y3, z3⟩, st3⟩ := Jvm.LawKit.callS X2 hx (y := (⟨"com/example/velar/velar/SplitMix64", "mix", "(J)J"⟩ : MethodName)) hown (mvT hZ (hw _ (List.mem_of_getElem? (i := 7) rfl))) (mvT hZ (hw _ (List.mem_of_getElem? (i := 8) rfl))) (mvT hZ (hw _ (List.mem_of_getElem? (i := 9) rfl))) (mvT hZ (hw _ (List.mem_of_getElem? (i := 10) rfl))) (by decide) (backOf (W := 0) (rm2 l Z a0 hw [] q1 h0 n0 Z0) hZ (hw _ (List.mem_of_getElem? (i := 10) rfl)) (hw _ (List.mem_of_getElem? (i := 9) rfl)) (by decide) (by decide)) (g := (mkF m 23 #[.val (.long q1), .second, .val (.long (-4658895280553007687 : Int64)), .second, .val (.long (-7723592293110705685 : Int64)), .second, .val (.long (own_inv (-4658895280553007687 : Int64))), .second, .val (.long (own_inv (-7723592293110705685 : Int64))), .second, .unset, .unset, .unset, .unset, .unset, .unset, .unset, .unset, .unset, .unset, .unset, .unset] [(.long q1)])) rfl (by rw [hml]; rfl) (argsL := [(.long q1)]) (rest := []) (lenOf pd_0 rfl) rfl (by show 2 * 0 + _ ≤ _; exact Nat.le_of_eq rfl) (hb hby at_23) (fun _ _ => ⟨rfl, e2, (by decide : 0 + 0 ≤ _), (by decide : 0 + 0 ≤ _)⟩)
  dsimp only [Pt.U, Pt.locs, Pt.cells, Pt.slots] at X3 l3 y3 z3 st3 hQ3
  subst l3 y3 z3
  obtain ⟨rfl, N3q, e3⟩ := hQ3
  have N3 := Fr.app N2 N3q
  obtain ⟨fs, hr, hrun, hended, hW, hsame⟩ := X3.leave (v := some (.int (1 : Int32))) (fun h => by rw [Bd.returns] at h; cases h)
  refine ⟨_, _, pre0 _ ?_, hrun, hended, _, _, rfl, ?_, ⟨_, rfl⟩, hW, hsame.mono (by decide) (by decide)⟩
  · show Steps p.tables e below (s₁.setTop (mkF m 0 #[.val (.long q1), .second, .unset, .unset, .unset, .unset, .unset, .unset, .unset, .unset, .unset, .unset, .unset, .unset, .unset, .unset, .unset, .unset, .unset, .unset, .unset, .unset] [])) _
    refine X0.ldc2Long hx hown (mvT hZ (hw _ (List.mem_of_getElem? (i := 0) rfl))) (g := (mkF m 0 #[.val (.long q1), .second, .unset, .unset, .unset, .unset, .unset, .unset, .unset, .unset, .unset, .unset, .unset, .unset, .unset, .unset, .unset, .unset, .unset, .unset, .unset, .unset] [])) rfl (hb hby at_0) _ ?_
    show Steps p.tables e below (s₁.setTop (mkF m 3 #[.val (.long q1), .second, .unset, .unset, .unset, .unset, .unset, .unset, .unset, .unset, .unset, .unset, .unset, .unset, .unset, .unset, .unset, .unset, .unset, .unset, .unset, .unset] [(.long (-4658895280553007687 : Int64))])) _
    refine XS.lstoreN X0.here hx rfl (hb hby at_3) rfl (l' := #[.val (.long q1), .second, .val (.long (-4658895280553007687 : Int64)), .second, .unset, .unset, .unset, .unset, .unset, .unset, .unset, .unset, .unset, .unset, .unset, .unset, .unset, .unset, .unset, .unset, .unset, .unset]) rfl ?_
    show Steps p.tables e below (s₁.setTop (mkF m 4 #[.val (.long q1), .second, .val (.long (-4658895280553007687 : Int64)), .second, .unset, .unset, .unset, .unset, .unset, .unset, .unset, .unset, .unset, .unset, .unset, .unset, .unset, .unset, .unset, .unset, .unset, .unset] [])) _
    refine X0.ldc2Long hx hown (mvT hZ (hw _ (List.mem_of_getElem? (i := 1) rfl))) (g := (mkF m 4 #[.val (.long q1), .second, .val (.long (-4658895280553007687 : Int64)), .second, .unset, .unset, .unset, .unset, .unset, .unset, .unset, .unset, .unset, .unset, .unset, .unset, .unset, .unset, .unset, .unset, .unset, .unset] [])) rfl (hb hby at_4) _ ?_
    show Steps p.tables e below (s₁.setTop (mkF m 7 #[.val (.long q1), .second, .val (.long (-4658895280553007687 : Int64)), .second, .unset, .unset, .unset, .unset, .unset, .unset, .unset, .unset, .unset, .unset, .unset, .unset, .unset, .unset, .unset, .unset, .unset, .unset] [(.long (-7723592293110705685 : Int64))])) _
    refine XS.lstore X0.here hx rfl (hb hby at_7) rfl (l' := #[.val (.long q1), .second, .val (.long (-4658895280553007687 : Int64)), .second, .val (.long (-7723592293110705685 : Int64)), .second, .unset, .unset, .unset, .unset, .unset, .unset, .unset, .unset, .unset, .unset, .unset, .unset, .unset, .unset, .unset, .unset]) rfl ?_
    show Steps p.tables e below (s₁.setTop (mkF m 9 #[.val (.long q1), .second, .val (.long (-4658895280553007687 : Int64)), .second, .val (.long (-7723592293110705685 : Int64)), .second, .unset, .unset, .unset, .unset, .unset, .unset, .unset, .unset, .unset, .unset, .unset, .unset, .unset, .unset, .unset, .unset] [])) _
    refine XS.lloadN X0.here hx rfl (hb hby at_9) rfl ?_
    show Steps p.tables e below (s₁.setTop (mkF m 10 #[.val (.long q1), .second, .val (.long (-4658895280553007687 : Int64)), .second, .val (.long (-7723592293110705685 : Int64)), .second, .unset, .unset, .unset, .unset, .unset, .unset, .unset, .unset, .unset, .unset, .unset, .unset, .unset, .unset, .unset, .unset] [(.long (-4658895280553007687 : Int64))])) _
    refine st1 _ ?_
    show Steps p.tables e below (T1.setTop (mkF m 13 #[.val (.long q1), .second, .val (.long (-4658895280553007687 : Int64)), .second, .val (.long (-7723592293110705685 : Int64)), .second, .unset, .unset, .unset, .unset, .unset, .unset, .unset, .unset, .unset, .unset, .unset, .unset, .unset, .unset, .unset, .unset] [(.long (own_inv (-4658895280553007687 : Int64)))])) _
    refine XS.lstore X1.here hx rfl (hb hby at_13) rfl (l' := #[.val (.long q1), .second, .val (.long (-4658895280553007687 : Int64)), .second, .val (.long (-7723592293110705685 : Int64)), .second, .val (.long (own_inv (-4658895280553007687 : Int64))), .second, .unset, .unset, .unset, .unset, .unset, .unset, .unset, .unset, .unset, .unset, .unset, .unset, .unset, .unset]) rfl ?_
    show Steps p.tables e below (T1.setTop (mkF m 15 #[.val (.long q1), .second, .val (.long (-4658895280553007687 : Int64)), .second, .val (.long (-7723592293110705685 : Int64)), .second, .val (.long (own_inv (-4658895280553007687 : Int64))), .second, .unset, .unset, .unset, .unset, .unset, .unset, .unset, .unset, .unset, .unset, .unset, .unset, .unset, .unset] [])) _
    refine XS.lload X1.here hx rfl (hb hby at_15) rfl ?_
    show Steps p.tables e below (T1.setTop (mkF m 17 #[.val (.long q1), .second, .val (.long (-4658895280553007687 : Int64)), .second, .val (.long (-7723592293110705685 : Int64)), .second, .val (.long (own_inv (-4658895280553007687 : Int64))), .second, .unset, .unset, .unset, .unset, .unset, .unset, .unset, .unset, .unset, .unset, .unset, .unset, .unset, .unset] [(.long (-7723592293110705685 : Int64))])) _
    refine st2 _ ?_
    show Steps p.tables e below (T2.setTop (mkF m 20 #[.val (.long q1), .second, .val (.long (-4658895280553007687 : Int64)), .second, .val (.long (-7723592293110705685 : Int64)), .second, .val (.long (own_inv (-4658895280553007687 : Int64))), .second, .unset, .unset, .unset, .unset, .unset, .unset, .unset, .unset, .unset, .unset, .unset, .unset, .unset, .unset] [(.long (own_inv (-7723592293110705685 : Int64)))])) _
    refine XS.lstore X2.here hx rfl (hb hby at_20) rfl (l' := #[.val (.long q1), .second, .val (.long (-4658895280553007687 : Int64)), .second, .val (.long (-7723592293110705685 : Int64)), .second, .val (.long (own_inv (-4658895280553007687 : Int64))), .second, .val (.long (own_inv (-7723592293110705685 : Int64))), .second, .unset, .unset, .unset, .unset, .unset, .unset, .unset, .unset, .unset, .unset, .unset, .unset]) rfl ?_
    show Steps p.tables e below (T2.setTop (mkF m 22 #[.val (.long q1), .second, .val (.long (-4658895280553007687 : Int64)), .second, .val (.long (-7723592293110705685 : Int64)), .second, .val (.long (own_inv (-4658895280553007687 : Int64))), .second, .val (.long (own_inv (-7723592293110705685 : Int64))), .second, .unset, .unset, .unset, .unset, .unset, .unset, .unset, .unset, .unset, .unset, .unset, .unset] [])) _
    refine XS.lloadN X2.here hx rfl (hb hby at_22) rfl ?_
    show Steps p.tables e below (T2.setTop (mkF m 23 #[.val (.long q1), .second, .val (.long (-4658895280553007687 : Int64)), .second, .val (.long (-7723592293110705685 : Int64)), .second, .val (.long (own_inv (-4658895280553007687 : Int64))), .second, .val (.long (own_inv (-7723592293110705685 : Int64))), .second, .unset, .unset, .unset, .unset, .unset, .unset, .unset, .unset, .unset, .unset, .unset, .unset] [(.long q1)])) _
    refine st3 _ ?_
    show Steps p.tables e below (T3.setTop (mkF m 26 #[.val (.long q1), .second, .val (.long (-4658895280553007687 : Int64)), .second, .val (.long (-7723592293110705685 : Int64)), .second, .val (.long (own_inv (-4658895280553007687 : Int64))), .second, .val (.long (own_inv (-7723592293110705685 : Int64))), .second, .unset, .unset, .unset, .unset, .unset, .unset, .unset, .unset, .unset, .unset, .unset, .unset] [(.long (own_mix q1))])) _
    refine XS.lstore X3.here hx rfl (hb hby at_26) rfl (l' := #[.val (.long q1), .second, .val (.long (-4658895280553007687 : Int64)), .second, .val (.long (-7723592293110705685 : Int64)), .second, .val (.long (own_inv (-4658895280553007687 : Int64))), .second, .val (.long (own_inv (-7723592293110705685 : Int64))), .second, .val (.long (own_mix q1)), .second, .unset, .unset, .unset, .unset, .unset, .unset, .unset, .unset, .unset, .unset]) rfl ?_
    show Steps p.tables e below (T3.setTop (mkF m 28 #[.val (.long q1), .second, .val (.long (-4658895280553007687 : Int64)), .second, .val (.long (-7723592293110705685 : Int64)), .second, .val (.long (own_inv (-4658895280553007687 : Int64))), .second, .val (.long (own_inv (-7723592293110705685 : Int64))), .second, .val (.long (own_mix q1)), .second, .unset, .unset, .unset, .unset, .unset, .unset, .unset, .unset, .unset, .unset] [])) _
    refine XS.lload X3.here hx rfl (hb hby at_28) rfl ?_
    show Steps p.tables e below (T3.setTop (mkF m 30 #[.val (.long q1), .second, .val (.long (-4658895280553007687 : Int64)), .second, .val (.long (-7723592293110705685 : Int64)), .second, .val (.long (own_inv (-4658895280553007687 : Int64))), .second, .val (.long (own_inv (-7723592293110705685 : Int64))), .second, .val (.long (own_mix q1)), .second, .unset, .unset, .unset, .unset, .unset, .unset, .unset, .unset, .unset, .unset] [(.long (own_mix q1))])) _
    refine XS.lload X3.here hx rfl (hb hby at_30) rfl ?_
    show Steps p.tables e below (T3.setTop (mkF m 32 #[.val (.long q1), .second, .val (.long (-4658895280553007687 : Int64)), .second, .val (.long (-7723592293110705685 : Int64)), .second, .val (.long (own_inv (-4658895280553007687 : Int64))), .second, .val (.long (own_inv (-7723592293110705685 : Int64))), .second, .val (.long (own_mix q1)), .second, .unset, .unset, .unset, .unset, .unset, .unset, .unset, .unset, .unset, .unset] [(.long (own_mix q1)), (.long (own_mix q1))])) _
    refine XS.bipush X3.here hx rfl (hb hby at_32) ?_
    show Steps p.tables e below (T3.setTop (mkF m 34 #[.val (.long q1), .second, .val (.long (-4658895280553007687 : Int64)), .second, .val (.long (-7723592293110705685 : Int64)), .second, .val (.long (own_inv (-4658895280553007687 : Int64))), .second, .val (.long (own_inv (-7723592293110705685 : Int64))), .second, .val (.long (own_mix q1)), .second, .unset, .unset, .unset, .unset, .unset, .unset, .unset, .unset, .unset, .unset] [(.int (31 : Int32)), (.long (own_mix q1)), (.long (own_mix q1))])) _
    refine XS.lushr X3.here hx rfl (hb hby at_34) rfl ?_
    show Steps p.tables e below (T3.setTop (mkF m 35 #[.val (.long q1), .second, .val (.long (-4658895280553007687 : Int64)), .second, .val (.long (-7723592293110705685 : Int64)), .second, .val (.long (own_inv (-4658895280553007687 : Int64))), .second, .val (.long (own_inv (-7723592293110705685 : Int64))), .second, .val (.long (own_mix q1)), .second, .unset, .unset, .unset, .unset, .unset, .unset, .unset, .unset, .unset, .unset] [(.long (((own_mix q1).toUInt64 >>> ((31 : Int32) &&& 0x3f).toInt64.toUInt64).toInt64)), (.long (own_mix q1))])) _
    refine XS.lxor X3.here hx rfl (hb hby at_35) rfl ?_
    show Steps p.tables e below (T3.setTop (mkF m 36 #[.val (.long q1), .second, .val (.long (-4658895280553007687 : Int64)), .second, .val (.long (-7723592293110705685 : Int64)), .second, .val (.long (own_inv (-4658895280553007687 : Int64))), .second, .val (.long (own_inv (-7723592293110705685 : Int64))), .second, .val (.long (own_mix q1)), .second, .unset, .unset, .unset, .unset, .unset, .unset, .unset, .unset, .unset, .unset] [(.long ((own_mix q1) ^^^ (((own_mix q1).toUInt64 >>> ((31 : Int32) &&& 0x3f).toInt64.toUInt64).toInt64)))])) _
    refine XS.lload X3.here hx rfl (hb hby at_36) rfl ?_
    show Steps p.tables e below (T3.setTop (mkF m 38 #[.val (.long q1), .second, .val (.long (-4658895280553007687 : Int64)), .second, .val (.long (-7723592293110705685 : Int64)), .second, .val (.long (own_inv (-4658895280553007687 : Int64))), .second, .val (.long (own_inv (-7723592293110705685 : Int64))), .second, .val (.long (own_mix q1)), .second, .unset, .unset, .unset, .unset, .unset, .unset, .unset, .unset, .unset, .unset] [(.long (own_mix q1)), (.long ((own_mix q1) ^^^ (((own_mix q1).toUInt64 >>> ((31 : Int32) &&& 0x3f).toInt64.toUInt64).toInt64)))])) _
    refine XS.bipush X3.here hx rfl (hb hby at_38) ?_
    show Steps p.tables e below (T3.setTop (mkF m 40 #[.val (.long q1), .second, .val (.long (-4658895280553007687 : Int64)), .second, .val (.long (-7723592293110705685 : Int64)), .second, .val (.long (own_inv (-4658895280553007687 : Int64))), .second, .val (.long (own_inv (-7723592293110705685 : Int64))), .second, .val (.long (own_mix q1)), .second, .unset, .unset, .unset, .unset, .unset, .unset, .unset, .unset, .unset, .unset] [(.int (62 : Int32)), (.long (own_mix q1)), (.long ((own_mix q1) ^^^ (((own_mix q1).toUInt64 >>> ((31 : Int32) &&& 0x3f).toInt64.toUInt64).toInt64)))])) _
    refine XS.lushr X3.here hx rfl (hb hby at_40) rfl ?_
    show Steps p.tables e below (T3.setTop (mkF m 41 #[.val (.long q1), .second, .val (.long (-4658895280553007687 : Int64)), .second, .val (.long (-7723592293110705685 : Int64)), .second, .val (.long (own_inv (-4658895280553007687 : Int64))), .second, .val (.long (own_inv (-7723592293110705685 : Int64))), .second, .val (.long (own_mix q1)), .second, .unset, .unset, .unset, .unset, .unset, .unset, .unset, .unset, .unset, .unset] [(.long (((own_mix q1).toUInt64 >>> ((62 : Int32) &&& 0x3f).toInt64.toUInt64).toInt64)), (.long ((own_mix q1) ^^^ (((own_mix q1).toUInt64 >>> ((31 : Int32) &&& 0x3f).toInt64.toUInt64).toInt64)))])) _
    refine XS.lxor X3.here hx rfl (hb hby at_41) rfl ?_
    show Steps p.tables e below (T3.setTop (mkF m 42 #[.val (.long q1), .second, .val (.long (-4658895280553007687 : Int64)), .second, .val (.long (-7723592293110705685 : Int64)), .second, .val (.long (own_inv (-4658895280553007687 : Int64))), .second, .val (.long (own_inv (-7723592293110705685 : Int64))), .second, .val (.long (own_mix q1)), .second, .unset, .unset, .unset, .unset, .unset, .unset, .unset, .unset, .unset, .unset] [(.long (own_un (own_mix q1) 31 62))])) _
    refine XS.lstore X3.here hx rfl (hb hby at_42) rfl (l' := #[.val (.long q1), .second, .val (.long (-4658895280553007687 : Int64)), .second, .val (.long (-7723592293110705685 : Int64)), .second, .val (.long (own_inv (-4658895280553007687 : Int64))), .second, .val (.long (own_inv (-7723592293110705685 : Int64))), .second, .val (.long (own_mix q1)), .second, .val (.long (own_un (own_mix q1) 31 62)), .second, .unset, .unset, .unset, .unset, .unset, .unset, .unset, .unset]) rfl ?_
    show Steps p.tables e below (T3.setTop (mkF m 44 #[.val (.long q1), .second, .val (.long (-4658895280553007687 : Int64)), .second, .val (.long (-7723592293110705685 : Int64)), .second, .val (.long (own_inv (-4658895280553007687 : Int64))), .second, .val (.long (own_inv (-7723592293110705685 : Int64))), .second, .val (.long (own_mix q1)), .second, .val (.long (own_un (own_mix q1) 31 62)), .second, .unset, .unset, .unset, .unset, .unset, .unset, .unset, .unset] [])) _
    refine XS.lload X3.here hx rfl (hb hby at_44) rfl ?_
    show Steps p.tables e below (T3.setTop (mkF m 46 #[.val (.long q1), .second, .val (.long (-4658895280553007687 : Int64)), .second, .val (.long (-7723592293110705685 : Int64)), .second, .val (.long (own_inv (-4658895280553007687 : Int64))), .second, .val (.long (own_inv (-7723592293110705685 : Int64))), .second, .val (.long (own_mix q1)), .second, .val (.long (own_un (own_mix q1) 31 62)), .second, .unset, .unset, .unset, .unset, .unset, .unset, .unset, .unset] [(.long (own_un (own_mix q1) 31 62))])) _
    refine XS.lload X3.here hx rfl (hb hby at_46) rfl ?_
    show Steps p.tables e below (T3.setTop (mkF m 48 #[.val (.long q1), .second, .val (.long (-4658895280553007687 : Int64)), .second, .val (.long (-7723592293110705685 : Int64)), .second, .val (.long (own_inv (-4658895280553007687 : Int64))), .second, .val (.long (own_inv (-7723592293110705685 : Int64))), .second, .val (.long (own_mix q1)), .second, .val (.long (own_un (own_mix q1) 31 62)), .second, .unset, .unset, .unset, .unset, .unset, .unset, .unset, .unset] [(.long (own_inv (-7723592293110705685 : Int64))), (.long (own_un (own_mix q1) 31 62))])) _
    refine XS.lmul X3.here hx rfl (hb hby at_48) rfl ?_
    show Steps p.tables e below (T3.setTop (mkF m 49 #[.val (.long q1), .second, .val (.long (-4658895280553007687 : Int64)), .second, .val (.long (-7723592293110705685 : Int64)), .second, .val (.long (own_inv (-4658895280553007687 : Int64))), .second, .val (.long (own_inv (-7723592293110705685 : Int64))), .second, .val (.long (own_mix q1)), .second, .val (.long (own_un (own_mix q1) 31 62)), .second, .unset, .unset, .unset, .unset, .unset, .unset, .unset, .unset] [(.long ((own_un (own_mix q1) 31 62) * (own_inv (-7723592293110705685 : Int64))))])) _
    refine XS.lstore X3.here hx rfl (hb hby at_49) rfl (l' := #[.val (.long q1), .second, .val (.long (-4658895280553007687 : Int64)), .second, .val (.long (-7723592293110705685 : Int64)), .second, .val (.long (own_inv (-4658895280553007687 : Int64))), .second, .val (.long (own_inv (-7723592293110705685 : Int64))), .second, .val (.long (own_mix q1)), .second, .val (.long (own_un (own_mix q1) 31 62)), .second, .val (.long ((own_un (own_mix q1) 31 62) * (own_inv (-7723592293110705685 : Int64)))), .second, .unset, .unset, .unset, .unset, .unset, .unset]) rfl ?_
    show Steps p.tables e below (T3.setTop (mkF m 51 #[.val (.long q1), .second, .val (.long (-4658895280553007687 : Int64)), .second, .val (.long (-7723592293110705685 : Int64)), .second, .val (.long (own_inv (-4658895280553007687 : Int64))), .second, .val (.long (own_inv (-7723592293110705685 : Int64))), .second, .val (.long (own_mix q1)), .second, .val (.long (own_un (own_mix q1) 31 62)), .second, .val (.long ((own_un (own_mix q1) 31 62) * (own_inv (-7723592293110705685 : Int64)))), .second, .unset, .unset, .unset, .unset, .unset, .unset] [])) _
    refine XS.lload X3.here hx rfl (hb hby at_51) rfl ?_
    show Steps p.tables e below (T3.setTop (mkF m 53 #[.val (.long q1), .second, .val (.long (-4658895280553007687 : Int64)), .second, .val (.long (-7723592293110705685 : Int64)), .second, .val (.long (own_inv (-4658895280553007687 : Int64))), .second, .val (.long (own_inv (-7723592293110705685 : Int64))), .second, .val (.long (own_mix q1)), .second, .val (.long (own_un (own_mix q1) 31 62)), .second, .val (.long ((own_un (own_mix q1) 31 62) * (own_inv (-7723592293110705685 : Int64)))), .second, .unset, .unset, .unset, .unset, .unset, .unset] [(.long ((own_un (own_mix q1) 31 62) * (own_inv (-7723592293110705685 : Int64))))])) _
    refine XS.lload X3.here hx rfl (hb hby at_53) rfl ?_
    show Steps p.tables e below (T3.setTop (mkF m 55 #[.val (.long q1), .second, .val (.long (-4658895280553007687 : Int64)), .second, .val (.long (-7723592293110705685 : Int64)), .second, .val (.long (own_inv (-4658895280553007687 : Int64))), .second, .val (.long (own_inv (-7723592293110705685 : Int64))), .second, .val (.long (own_mix q1)), .second, .val (.long (own_un (own_mix q1) 31 62)), .second, .val (.long ((own_un (own_mix q1) 31 62) * (own_inv (-7723592293110705685 : Int64)))), .second, .unset, .unset, .unset, .unset, .unset, .unset] [(.long ((own_un (own_mix q1) 31 62) * (own_inv (-7723592293110705685 : Int64)))), (.long ((own_un (own_mix q1) 31 62) * (own_inv (-7723592293110705685 : Int64))))])) _
    refine XS.bipush X3.here hx rfl (hb hby at_55) ?_
    show Steps p.tables e below (T3.setTop (mkF m 57 #[.val (.long q1), .second, .val (.long (-4658895280553007687 : Int64)), .second, .val (.long (-7723592293110705685 : Int64)), .second, .val (.long (own_inv (-4658895280553007687 : Int64))), .second, .val (.long (own_inv (-7723592293110705685 : Int64))), .second, .val (.long (own_mix q1)), .second, .val (.long (own_un (own_mix q1) 31 62)), .second, .val (.long ((own_un (own_mix q1) 31 62) * (own_inv (-7723592293110705685 : Int64)))), .second, .unset, .unset, .unset, .unset, .unset, .unset] [(.int (27 : Int32)), (.long ((own_un (own_mix q1) 31 62) * (own_inv (-7723592293110705685 : Int64)))), (.long ((own_un (own_mix q1) 31 62) * (own_inv (-7723592293110705685 : Int64))))])) _
    refine XS.lushr X3.here hx rfl (hb hby at_57) rfl ?_
    show Steps p.tables e below (T3.setTop (mkF m 58 #[.val (.long q1), .second, .val (.long (-4658895280553007687 : Int64)), .second, .val (.long (-7723592293110705685 : Int64)), .second, .val (.long (own_inv (-4658895280553007687 : Int64))), .second, .val (.long (own_inv (-7723592293110705685 : Int64))), .second, .val (.long (own_mix q1)), .second, .val (.long (own_un (own_mix q1) 31 62)), .second, .val (.long ((own_un (own_mix q1) 31 62) * (own_inv (-7723592293110705685 : Int64)))), .second, .unset, .unset, .unset, .unset, .unset, .unset] [(.long ((((own_un (own_mix q1) 31 62) * (own_inv (-7723592293110705685 : Int64))).toUInt64 >>> ((27 : Int32) &&& 0x3f).toInt64.toUInt64).toInt64)), (.long ((own_un (own_mix q1) 31 62) * (own_inv (-7723592293110705685 : Int64))))])) _
    refine XS.lxor X3.here hx rfl (hb hby at_58) rfl ?_
    show Steps p.tables e below (T3.setTop (mkF m 59 #[.val (.long q1), .second, .val (.long (-4658895280553007687 : Int64)), .second, .val (.long (-7723592293110705685 : Int64)), .second, .val (.long (own_inv (-4658895280553007687 : Int64))), .second, .val (.long (own_inv (-7723592293110705685 : Int64))), .second, .val (.long (own_mix q1)), .second, .val (.long (own_un (own_mix q1) 31 62)), .second, .val (.long ((own_un (own_mix q1) 31 62) * (own_inv (-7723592293110705685 : Int64)))), .second, .unset, .unset, .unset, .unset, .unset, .unset] [(.long (((own_un (own_mix q1) 31 62) * (own_inv (-7723592293110705685 : Int64))) ^^^ ((((own_un (own_mix q1) 31 62) * (own_inv (-7723592293110705685 : Int64))).toUInt64 >>> ((27 : Int32) &&& 0x3f).toInt64.toUInt64).toInt64)))])) _
    refine XS.lload X3.here hx rfl (hb hby at_59) rfl ?_
    show Steps p.tables e below (T3.setTop (mkF m 61 #[.val (.long q1), .second, .val (.long (-4658895280553007687 : Int64)), .second, .val (.long (-7723592293110705685 : Int64)), .second, .val (.long (own_inv (-4658895280553007687 : Int64))), .second, .val (.long (own_inv (-7723592293110705685 : Int64))), .second, .val (.long (own_mix q1)), .second, .val (.long (own_un (own_mix q1) 31 62)), .second, .val (.long ((own_un (own_mix q1) 31 62) * (own_inv (-7723592293110705685 : Int64)))), .second, .unset, .unset, .unset, .unset, .unset, .unset] [(.long ((own_un (own_mix q1) 31 62) * (own_inv (-7723592293110705685 : Int64)))), (.long (((own_un (own_mix q1) 31 62) * (own_inv (-7723592293110705685 : Int64))) ^^^ ((((own_un (own_mix q1) 31 62) * (own_inv (-7723592293110705685 : Int64))).toUInt64 >>> ((27 : Int32) &&& 0x3f).toInt64.toUInt64).toInt64)))])) _
    refine XS.bipush X3.here hx rfl (hb hby at_61) ?_
    show Steps p.tables e below (T3.setTop (mkF m 63 #[.val (.long q1), .second, .val (.long (-4658895280553007687 : Int64)), .second, .val (.long (-7723592293110705685 : Int64)), .second, .val (.long (own_inv (-4658895280553007687 : Int64))), .second, .val (.long (own_inv (-7723592293110705685 : Int64))), .second, .val (.long (own_mix q1)), .second, .val (.long (own_un (own_mix q1) 31 62)), .second, .val (.long ((own_un (own_mix q1) 31 62) * (own_inv (-7723592293110705685 : Int64)))), .second, .unset, .unset, .unset, .unset, .unset, .unset] [(.int (54 : Int32)), (.long ((own_un (own_mix q1) 31 62) * (own_inv (-7723592293110705685 : Int64)))), (.long (((own_un (own_mix q1) 31 62) * (own_inv (-7723592293110705685 : Int64))) ^^^ ((((own_un (own_mix q1) 31 62) * (own_inv (-7723592293110705685 : Int64))).toUInt64 >>> ((27 : Int32) &&& 0x3f).toInt64.toUInt64).toInt64)))])) _
    refine XS.lushr X3.here hx rfl (hb hby at_63) rfl ?_
    show Steps p.tables e below (T3.setTop (mkF m 64 #[.val (.long q1), .second, .val (.long (-4658895280553007687 : Int64)), .second, .val (.long (-7723592293110705685 : Int64)), .second, .val (.long (own_inv (-4658895280553007687 : Int64))), .second, .val (.long (own_inv (-7723592293110705685 : Int64))), .second, .val (.long (own_mix q1)), .second, .val (.long (own_un (own_mix q1) 31 62)), .second, .val (.long ((own_un (own_mix q1) 31 62) * (own_inv (-7723592293110705685 : Int64)))), .second, .unset, .unset, .unset, .unset, .unset, .unset] [(.long ((((own_un (own_mix q1) 31 62) * (own_inv (-7723592293110705685 : Int64))).toUInt64 >>> ((54 : Int32) &&& 0x3f).toInt64.toUInt64).toInt64)), (.long (((own_un (own_mix q1) 31 62) * (own_inv (-7723592293110705685 : Int64))) ^^^ ((((own_un (own_mix q1) 31 62) * (own_inv (-7723592293110705685 : Int64))).toUInt64 >>> ((27 : Int32) &&& 0x3f).toInt64.toUInt64).toInt64)))])) _
    refine XS.lxor X3.here hx rfl (hb hby at_64) rfl ?_
    show Steps p.tables e below (T3.setTop (mkF m 65 #[.val (.long q1), .second, .val (.long (-4658895280553007687 : Int64)), .second, .val (.long (-7723592293110705685 : Int64)), .second, .val (.long (own_inv (-4658895280553007687 : Int64))), .second, .val (.long (own_inv (-7723592293110705685 : Int64))), .second, .val (.long (own_mix q1)), .second, .val (.long (own_un (own_mix q1) 31 62)), .second, .val (.long ((own_un (own_mix q1) 31 62) * (own_inv (-7723592293110705685 : Int64)))), .second, .unset, .unset, .unset, .unset, .unset, .unset] [(.long (own_un ((own_un (own_mix q1) 31 62) * (own_inv (-7723592293110705685 : Int64))) 27 54))])) _
    refine XS.lstore X3.here hx rfl (hb hby at_65) rfl (l' := #[.val (.long q1), .second, .val (.long (-4658895280553007687 : Int64)), .second, .val (.long (-7723592293110705685 : Int64)), .second, .val (.long (own_inv (-4658895280553007687 : Int64))), .second, .val (.long (own_inv (-7723592293110705685 : Int64))), .second, .val (.long (own_mix q1)), .second, .val (.long (own_un (own_mix q1) 31 62)), .second, .val (.long ((own_un (own_mix q1) 31 62) * (own_inv (-7723592293110705685 : Int64)))), .second, .val (.long (own_un ((own_un (own_mix q1) 31 62) * (own_inv (-7723592293110705685 : Int64))) 27 54)), .second, .unset, .unset, .unset, .unset]) rfl ?_
    show Steps p.tables e below (T3.setTop (mkF m 67 #[.val (.long q1), .second, .val (.long (-4658895280553007687 : Int64)), .second, .val (.long (-7723592293110705685 : Int64)), .second, .val (.long (own_inv (-4658895280553007687 : Int64))), .second, .val (.long (own_inv (-7723592293110705685 : Int64))), .second, .val (.long (own_mix q1)), .second, .val (.long (own_un (own_mix q1) 31 62)), .second, .val (.long ((own_un (own_mix q1) 31 62) * (own_inv (-7723592293110705685 : Int64)))), .second, .val (.long (own_un ((own_un (own_mix q1) 31 62) * (own_inv (-7723592293110705685 : Int64))) 27 54)), .second, .unset, .unset, .unset, .unset] [])) _
    refine XS.lload X3.here hx rfl (hb hby at_67) rfl ?_
    show Steps p.tables e below (T3.setTop (mkF m 69 #[.val (.long q1), .second, .val (.long (-4658895280553007687 : Int64)), .second, .val (.long (-7723592293110705685 : Int64)), .second, .val (.long (own_inv (-4658895280553007687 : Int64))), .second, .val (.long (own_inv (-7723592293110705685 : Int64))), .second, .val (.long (own_mix q1)), .second, .val (.long (own_un (own_mix q1) 31 62)), .second, .val (.long ((own_un (own_mix q1) 31 62) * (own_inv (-7723592293110705685 : Int64)))), .second, .val (.long (own_un ((own_un (own_mix q1) 31 62) * (own_inv (-7723592293110705685 : Int64))) 27 54)), .second, .unset, .unset, .unset, .unset] [(.long (own_un ((own_un (own_mix q1) 31 62) * (own_inv (-7723592293110705685 : Int64))) 27 54))])) _
    refine XS.lload X3.here hx rfl (hb hby at_69) rfl ?_
    show Steps p.tables e below (T3.setTop (mkF m 71 #[.val (.long q1), .second, .val (.long (-4658895280553007687 : Int64)), .second, .val (.long (-7723592293110705685 : Int64)), .second, .val (.long (own_inv (-4658895280553007687 : Int64))), .second, .val (.long (own_inv (-7723592293110705685 : Int64))), .second, .val (.long (own_mix q1)), .second, .val (.long (own_un (own_mix q1) 31 62)), .second, .val (.long ((own_un (own_mix q1) 31 62) * (own_inv (-7723592293110705685 : Int64)))), .second, .val (.long (own_un ((own_un (own_mix q1) 31 62) * (own_inv (-7723592293110705685 : Int64))) 27 54)), .second, .unset, .unset, .unset, .unset] [(.long (own_inv (-4658895280553007687 : Int64))), (.long (own_un ((own_un (own_mix q1) 31 62) * (own_inv (-7723592293110705685 : Int64))) 27 54))])) _
    refine XS.lmul X3.here hx rfl (hb hby at_71) rfl ?_
    show Steps p.tables e below (T3.setTop (mkF m 72 #[.val (.long q1), .second, .val (.long (-4658895280553007687 : Int64)), .second, .val (.long (-7723592293110705685 : Int64)), .second, .val (.long (own_inv (-4658895280553007687 : Int64))), .second, .val (.long (own_inv (-7723592293110705685 : Int64))), .second, .val (.long (own_mix q1)), .second, .val (.long (own_un (own_mix q1) 31 62)), .second, .val (.long ((own_un (own_mix q1) 31 62) * (own_inv (-7723592293110705685 : Int64)))), .second, .val (.long (own_un ((own_un (own_mix q1) 31 62) * (own_inv (-7723592293110705685 : Int64))) 27 54)), .second, .unset, .unset, .unset, .unset] [(.long ((own_un ((own_un (own_mix q1) 31 62) * (own_inv (-7723592293110705685 : Int64))) 27 54) * (own_inv (-4658895280553007687 : Int64))))])) _
    refine XS.lstore X3.here hx rfl (hb hby at_72) rfl (l' := #[.val (.long q1), .second, .val (.long (-4658895280553007687 : Int64)), .second, .val (.long (-7723592293110705685 : Int64)), .second, .val (.long (own_inv (-4658895280553007687 : Int64))), .second, .val (.long (own_inv (-7723592293110705685 : Int64))), .second, .val (.long (own_mix q1)), .second, .val (.long (own_un (own_mix q1) 31 62)), .second, .val (.long ((own_un (own_mix q1) 31 62) * (own_inv (-7723592293110705685 : Int64)))), .second, .val (.long (own_un ((own_un (own_mix q1) 31 62) * (own_inv (-7723592293110705685 : Int64))) 27 54)), .second, .val (.long ((own_un ((own_un (own_mix q1) 31 62) * (own_inv (-7723592293110705685 : Int64))) 27 54) * (own_inv (-4658895280553007687 : Int64)))), .second, .unset, .unset]) rfl ?_
    show Steps p.tables e below (T3.setTop (mkF m 74 #[.val (.long q1), .second, .val (.long (-4658895280553007687 : Int64)), .second, .val (.long (-7723592293110705685 : Int64)), .second, .val (.long (own_inv (-4658895280553007687 : Int64))), .second, .val (.long (own_inv (-7723592293110705685 : Int64))), .second, .val (.long (own_mix q1)), .second, .val (.long (own_un (own_mix q1) 31 62)), .second, .val (.long ((own_un (own_mix q1) 31 62) * (own_inv (-7723592293110705685 : Int64)))), .second, .val (.long (own_un ((own_un (own_mix q1) 31 62) * (own_inv (-7723592293110705685 : Int64))) 27 54)), .second, .val (.long ((own_un ((own_un (own_mix q1) 31 62) * (own_inv (-7723592293110705685 : Int64))) 27 54) * (own_inv (-4658895280553007687 : Int64)))), .second, .unset, .unset] [])) _
    refine XS.lload X3.here hx rfl (hb hby at_74) rfl ?_
    show Steps p.tables e below (T3.setTop (mkF m 76 #[.val (.long q1), .second, .val (.long (-4658895280553007687 : Int64)), .second, .val (.long (-7723592293110705685 : Int64)), .second, .val (.long (own_inv (-4658895280553007687 : Int64))), .second, .val (.long (own_inv (-7723592293110705685 : Int64))), .second, .val (.long (own_mix q1)), .second, .val (.long (own_un (own_mix q1) 31 62)), .second, .val (.long ((own_un (own_mix q1) 31 62) * (own_inv (-7723592293110705685 : Int64)))), .second, .val (.long (own_un ((own_un (own_mix q1) 31 62) * (own_inv (-7723592293110705685 : Int64))) 27 54)), .second, .val (.long ((own_un ((own_un (own_mix q1) 31 62) * (own_inv (-7723592293110705685 : Int64))) 27 54) * (own_inv (-4658895280553007687 : Int64)))), .second, .unset, .unset] [(.long ((own_un ((own_un (own_mix q1) 31 62) * (own_inv (-7723592293110705685 : Int64))) 27 54) * (own_inv (-4658895280553007687 : Int64))))])) _
    refine XS.lload X3.here hx rfl (hb hby at_76) rfl ?_
    show Steps p.tables e below (T3.setTop (mkF m 78 #[.val (.long q1), .second, .val (.long (-4658895280553007687 : Int64)), .second, .val (.long (-7723592293110705685 : Int64)), .second, .val (.long (own_inv (-4658895280553007687 : Int64))), .second, .val (.long (own_inv (-7723592293110705685 : Int64))), .second, .val (.long (own_mix q1)), .second, .val (.long (own_un (own_mix q1) 31 62)), .second, .val (.long ((own_un (own_mix q1) 31 62) * (own_inv (-7723592293110705685 : Int64)))), .second, .val (.long (own_un ((own_un (own_mix q1) 31 62) * (own_inv (-7723592293110705685 : Int64))) 27 54)), .second, .val (.long ((own_un ((own_un (own_mix q1) 31 62) * (own_inv (-7723592293110705685 : Int64))) 27 54) * (own_inv (-4658895280553007687 : Int64)))), .second, .unset, .unset] [(.long ((own_un ((own_un (own_mix q1) 31 62) * (own_inv (-7723592293110705685 : Int64))) 27 54) * (own_inv (-4658895280553007687 : Int64)))), (.long ((own_un ((own_un (own_mix q1) 31 62) * (own_inv (-7723592293110705685 : Int64))) 27 54) * (own_inv (-4658895280553007687 : Int64))))])) _
    refine XS.bipush X3.here hx rfl (hb hby at_78) ?_
    show Steps p.tables e below (T3.setTop (mkF m 80 #[.val (.long q1), .second, .val (.long (-4658895280553007687 : Int64)), .second, .val (.long (-7723592293110705685 : Int64)), .second, .val (.long (own_inv (-4658895280553007687 : Int64))), .second, .val (.long (own_inv (-7723592293110705685 : Int64))), .second, .val (.long (own_mix q1)), .second, .val (.long (own_un (own_mix q1) 31 62)), .second, .val (.long ((own_un (own_mix q1) 31 62) * (own_inv (-7723592293110705685 : Int64)))), .second, .val (.long (own_un ((own_un (own_mix q1) 31 62) * (own_inv (-7723592293110705685 : Int64))) 27 54)), .second, .val (.long ((own_un ((own_un (own_mix q1) 31 62) * (own_inv (-7723592293110705685 : Int64))) 27 54) * (own_inv (-4658895280553007687 : Int64)))), .second, .unset, .unset] [(.int (30 : Int32)), (.long ((own_un ((own_un (own_mix q1) 31 62) * (own_inv (-7723592293110705685 : Int64))) 27 54) * (own_inv (-4658895280553007687 : Int64)))), (.long ((own_un ((own_un (own_mix q1) 31 62) * (own_inv (-7723592293110705685 : Int64))) 27 54) * (own_inv (-4658895280553007687 : Int64))))])) _
    refine XS.lushr X3.here hx rfl (hb hby at_80) rfl ?_
    show Steps p.tables e below (T3.setTop (mkF m 81 #[.val (.long q1), .second, .val (.long (-4658895280553007687 : Int64)), .second, .val (.long (-7723592293110705685 : Int64)), .second, .val (.long (own_inv (-4658895280553007687 : Int64))), .second, .val (.long (own_inv (-7723592293110705685 : Int64))), .second, .val (.long (own_mix q1)), .second, .val (.long (own_un (own_mix q1) 31 62)), .second, .val (.long ((own_un (own_mix q1) 31 62) * (own_inv (-7723592293110705685 : Int64)))), .second, .val (.long (own_un ((own_un (own_mix q1) 31 62) * (own_inv (-7723592293110705685 : Int64))) 27 54)), .second, .val (.long ((own_un ((own_un (own_mix q1) 31 62) * (own_inv (-7723592293110705685 : Int64))) 27 54) * (own_inv (-4658895280553007687 : Int64)))), .second, .unset, .unset] [(.long ((((own_un ((own_un (own_mix q1) 31 62) * (own_inv (-7723592293110705685 : Int64))) 27 54) * (own_inv (-4658895280553007687 : Int64))).toUInt64 >>> ((30 : Int32) &&& 0x3f).toInt64.toUInt64).toInt64)), (.long ((own_un ((own_un (own_mix q1) 31 62) * (own_inv (-7723592293110705685 : Int64))) 27 54) * (own_inv (-4658895280553007687 : Int64))))])) _
    refine XS.lxor X3.here hx rfl (hb hby at_81) rfl ?_
    show Steps p.tables e below (T3.setTop (mkF m 82 #[.val (.long q1), .second, .val (.long (-4658895280553007687 : Int64)), .second, .val (.long (-7723592293110705685 : Int64)), .second, .val (.long (own_inv (-4658895280553007687 : Int64))), .second, .val (.long (own_inv (-7723592293110705685 : Int64))), .second, .val (.long (own_mix q1)), .second, .val (.long (own_un (own_mix q1) 31 62)), .second, .val (.long ((own_un (own_mix q1) 31 62) * (own_inv (-7723592293110705685 : Int64)))), .second, .val (.long (own_un ((own_un (own_mix q1) 31 62) * (own_inv (-7723592293110705685 : Int64))) 27 54)), .second, .val (.long ((own_un ((own_un (own_mix q1) 31 62) * (own_inv (-7723592293110705685 : Int64))) 27 54) * (own_inv (-4658895280553007687 : Int64)))), .second, .unset, .unset] [(.long (((own_un ((own_un (own_mix q1) 31 62) * (own_inv (-7723592293110705685 : Int64))) 27 54) * (own_inv (-4658895280553007687 : Int64))) ^^^ ((((own_un ((own_un (own_mix q1) 31 62) * (own_inv (-7723592293110705685 : Int64))) 27 54) * (own_inv (-4658895280553007687 : Int64))).toUInt64 >>> ((30 : Int32) &&& 0x3f).toInt64.toUInt64).toInt64)))])) _
    refine XS.lload X3.here hx rfl (hb hby at_82) rfl ?_
    show Steps p.tables e below (T3.setTop (mkF m 84 #[.val (.long q1), .second, .val (.long (-4658895280553007687 : Int64)), .second, .val (.long (-7723592293110705685 : Int64)), .second, .val (.long (own_inv (-4658895280553007687 : Int64))), .second, .val (.long (own_inv (-7723592293110705685 : Int64))), .second, .val (.long (own_mix q1)), .second, .val (.long (own_un (own_mix q1) 31 62)), .second, .val (.long ((own_un (own_mix q1) 31 62) * (own_inv (-7723592293110705685 : Int64)))), .second, .val (.long (own_un ((own_un (own_mix q1) 31 62) * (own_inv (-7723592293110705685 : Int64))) 27 54)), .second, .val (.long ((own_un ((own_un (own_mix q1) 31 62) * (own_inv (-7723592293110705685 : Int64))) 27 54) * (own_inv (-4658895280553007687 : Int64)))), .second, .unset, .unset] [(.long ((own_un ((own_un (own_mix q1) 31 62) * (own_inv (-7723592293110705685 : Int64))) 27 54) * (own_inv (-4658895280553007687 : Int64)))), (.long (((own_un ((own_un (own_mix q1) 31 62) * (own_inv (-7723592293110705685 : Int64))) 27 54) * (own_inv (-4658895280553007687 : Int64))) ^^^ ((((own_un ((own_un (own_mix q1) 31 62) * (own_inv (-7723592293110705685 : Int64))) 27 54) * (own_inv (-4658895280553007687 : Int64))).toUInt64 >>> ((30 : Int32) &&& 0x3f).toInt64.toUInt64).toInt64)))])) _
    refine XS.bipush X3.here hx rfl (hb hby at_84) ?_
    show Steps p.tables e below (T3.setTop (mkF m 86 #[.val (.long q1), .second, .val (.long (-4658895280553007687 : Int64)), .second, .val (.long (-7723592293110705685 : Int64)), .second, .val (.long (own_inv (-4658895280553007687 : Int64))), .second, .val (.long (own_inv (-7723592293110705685 : Int64))), .second, .val (.long (own_mix q1)), .second, .val (.long (own_un (own_mix q1) 31 62)), .second, .val (.long ((own_un (own_mix q1) 31 62) * (own_inv (-7723592293110705685 : Int64)))), .second, .val (.long (own_un ((own_un (own_mix q1) 31 62) * (own_inv (-7723592293110705685 : Int64))) 27 54)), .second, .val (.long ((own_un ((own_un (own_mix q1) 31 62) * (own_inv (-7723592293110705685 : Int64))) 27 54) * (own_inv (-4658895280553007687 : Int64)))), .second, .unset, .unset] [(.int (60 : Int32)), (.long ((own_un ((own_un (own_mix q1) 31 62) * (own_inv (-7723592293110705685 : Int64))) 27 54) * (own_inv (-4658895280553007687 : Int64)))), (.long (((own_un ((own_un (own_mix q1) 31 62) * (own_inv (-7723592293110705685 : Int64))) 27 54) * (own_inv (-4658895280553007687 : Int64))) ^^^ ((((own_un ((own_un (own_mix q1) 31 62) * (own_inv (-7723592293110705685 : Int64))) 27 54) * (own_inv (-4658895280553007687 : Int64))).toUInt64 >>> ((30 : Int32) &&& 0x3f).toInt64.toUInt64).toInt64)))])) _
    refine XS.lushr X3.here hx rfl (hb hby at_86) rfl ?_
    show Steps p.tables e below (T3.setTop (mkF m 87 #[.val (.long q1), .second, .val (.long (-4658895280553007687 : Int64)), .second, .val (.long (-7723592293110705685 : Int64)), .second, .val (.long (own_inv (-4658895280553007687 : Int64))), .second, .val (.long (own_inv (-7723592293110705685 : Int64))), .second, .val (.long (own_mix q1)), .second, .val (.long (own_un (own_mix q1) 31 62)), .second, .val (.long ((own_un (own_mix q1) 31 62) * (own_inv (-7723592293110705685 : Int64)))), .second, .val (.long (own_un ((own_un (own_mix q1) 31 62) * (own_inv (-7723592293110705685 : Int64))) 27 54)), .second, .val (.long ((own_un ((own_un (own_mix q1) 31 62) * (own_inv (-7723592293110705685 : Int64))) 27 54) * (own_inv (-4658895280553007687 : Int64)))), .second, .unset, .unset] [(.long ((((own_un ((own_un (own_mix q1) 31 62) * (own_inv (-7723592293110705685 : Int64))) 27 54) * (own_inv (-4658895280553007687 : Int64))).toUInt64 >>> ((60 : Int32) &&& 0x3f).toInt64.toUInt64).toInt64)), (.long (((own_un ((own_un (own_mix q1) 31 62) * (own_inv (-7723592293110705685 : Int64))) 27 54) * (own_inv (-4658895280553007687 : Int64))) ^^^ ((((own_un ((own_un (own_mix q1) 31 62) * (own_inv (-7723592293110705685 : Int64))) 27 54) * (own_inv (-4658895280553007687 : Int64))).toUInt64 >>> ((30 : Int32) &&& 0x3f).toInt64.toUInt64).toInt64)))])) _
    refine XS.lxor X3.here hx rfl (hb hby at_87) rfl ?_
    show Steps p.tables e below (T3.setTop (mkF m 88 #[.val (.long q1), .second, .val (.long (-4658895280553007687 : Int64)), .second, .val (.long (-7723592293110705685 : Int64)), .second, .val (.long (own_inv (-4658895280553007687 : Int64))), .second, .val (.long (own_inv (-7723592293110705685 : Int64))), .second, .val (.long (own_mix q1)), .second, .val (.long (own_un (own_mix q1) 31 62)), .second, .val (.long ((own_un (own_mix q1) 31 62) * (own_inv (-7723592293110705685 : Int64)))), .second, .val (.long (own_un ((own_un (own_mix q1) 31 62) * (own_inv (-7723592293110705685 : Int64))) 27 54)), .second, .val (.long ((own_un ((own_un (own_mix q1) 31 62) * (own_inv (-7723592293110705685 : Int64))) 27 54) * (own_inv (-4658895280553007687 : Int64)))), .second, .unset, .unset] [(.long (own_un ((own_un ((own_un (own_mix q1) 31 62) * (own_inv (-7723592293110705685 : Int64))) 27 54) * (own_inv (-4658895280553007687 : Int64))) 30 60))])) _
    refine XS.lstore X3.here hx rfl (hb hby at_88) rfl (l' := #[.val (.long q1), .second, .val (.long (-4658895280553007687 : Int64)), .second, .val (.long (-7723592293110705685 : Int64)), .second, .val (.long (own_inv (-4658895280553007687 : Int64))), .second, .val (.long (own_inv (-7723592293110705685 : Int64))), .second, .val (.long (own_mix q1)), .second, .val (.long (own_un (own_mix q1) 31 62)), .second, .val (.long ((own_un (own_mix q1) 31 62) * (own_inv (-7723592293110705685 : Int64)))), .second, .val (.long (own_un ((own_un (own_mix q1) 31 62) * (own_inv (-7723592293110705685 : Int64))) 27 54)), .second, .val (.long ((own_un ((own_un (own_mix q1) 31 62) * (own_inv (-7723592293110705685 : Int64))) 27 54) * (own_inv (-4658895280553007687 : Int64)))), .second, .val (.long (own_un ((own_un ((own_un (own_mix q1) 31 62) * (own_inv (-7723592293110705685 : Int64))) 27 54) * (own_inv (-4658895280553007687 : Int64))) 30 60)), .second]) rfl ?_
    show Steps p.tables e below (T3.setTop (mkF m 90 #[.val (.long q1), .second, .val (.long (-4658895280553007687 : Int64)), .second, .val (.long (-7723592293110705685 : Int64)), .second, .val (.long (own_inv (-4658895280553007687 : Int64))), .second, .val (.long (own_inv (-7723592293110705685 : Int64))), .second, .val (.long (own_mix q1)), .second, .val (.long (own_un (own_mix q1) 31 62)), .second, .val (.long ((own_un (own_mix q1) 31 62) * (own_inv (-7723592293110705685 : Int64)))), .second, .val (.long (own_un ((own_un (own_mix q1) 31 62) * (own_inv (-7723592293110705685 : Int64))) 27 54)), .second, .val (.long ((own_un ((own_un (own_mix q1) 31 62) * (own_inv (-7723592293110705685 : Int64))) 27 54) * (own_inv (-4658895280553007687 : Int64)))), .second, .val (.long (own_un ((own_un ((own_un (own_mix q1) 31 62) * (own_inv (-7723592293110705685 : Int64))) 27 54) * (own_inv (-4658895280553007687 : Int64))) 30 60)), .second] [])) _
    refine XS.lloadN X3.here hx rfl (hb hby at_90) rfl ?_
    show Steps p.tables e below (T3.setTop (mkF m 91 #[.val (.long q1), .second, .val (.long (-4658895280553007687 : Int64)), .second, .val (.long (-7723592293110705685 : Int64)), .second, .val (.long (own_inv (-4658895280553007687 : Int64))), .second, .val (.long (own_inv (-7723592293110705685 : Int64))), .second, .val (.long (own_mix q1)), .second, .val (.long (own_un (own_mix q1) 31 62)), .second, .val (.long ((own_un (own_mix q1) 31 62) * (own_inv (-7723592293110705685 : Int64)))), .second, .val (.long (own_un ((own_un (own_mix q1) 31 62) * (own_inv (-7723592293110705685 : Int64))) 27 54)), .second, .val (.long ((own_un ((own_un (own_mix q1) 31 62) * (own_inv (-7723592293110705685 : Int64))) 27 54) * (own_inv (-4658895280553007687 : Int64)))), .second, .val (.long (own_un ((own_un ((own_un (own_mix q1) 31 62) * (own_inv (-7723592293110705685 : Int64))) 27 54) * (own_inv (-4658895280553007687 : Int64))) 30 60)), .second] [(.long (-4658895280553007687 : Int64))])) _
    refine XS.lload X3.here hx rfl (hb hby at_91) rfl ?_
    show Steps p.tables e below (T3.setTop (mkF m 93 #[.val (.long q1), .second, .val (.long (-4658895280553007687 : Int64)), .second, .val (.long (-7723592293110705685 : Int64)), .second, .val (.long (own_inv (-4658895280553007687 : Int64))), .second, .val (.long (own_inv (-7723592293110705685 : Int64))), .second, .val (.long (own_mix q1)), .second, .val (.long (own_un (own_mix q1) 31 62)), .second, .val (.long ((own_un (own_mix q1) 31 62) * (own_inv (-7723592293110705685 : Int64)))), .second, .val (.long (own_un ((own_un (own_mix q1) 31 62) * (own_inv (-7723592293110705685 : Int64))) 27 54)), .second, .val (.long ((own_un ((own_un (own_mix q1) 31 62) * (own_inv (-7723592293110705685 : Int64))) 27 54) * (own_inv (-4658895280553007687 : Int64)))), .second, .val (.long (own_un ((own_un ((own_un (own_mix q1) 31 62) * (own_inv (-7723592293110705685 : Int64))) 27 54) * (own_inv (-4658895280553007687 : Int64))) 30 60)), .second] [(.long (own_inv (-4658895280553007687 : Int64))), (.long (-4658895280553007687 : Int64))])) _
    refine XS.lmul X3.here hx rfl (hb hby at_93) rfl ?_
    show Steps p.tables e below (T3.setTop (mkF m 94 #[.val (.long q1), .second, .val (.long (-4658895280553007687 : Int64)), .second, .val (.long (-7723592293110705685 : Int64)), .second, .val (.long (own_inv (-4658895280553007687 : Int64))), .second, .val (.long (own_inv (-7723592293110705685 : Int64))), .second, .val (.long (own_mix q1)), .second, .val (.long (own_un (own_mix q1) 31 62)), .second, .val (.long ((own_un (own_mix q1) 31 62) * (own_inv (-7723592293110705685 : Int64)))), .second, .val (.long (own_un ((own_un (own_mix q1) 31 62) * (own_inv (-7723592293110705685 : Int64))) 27 54)), .second, .val (.long ((own_un ((own_un (own_mix q1) 31 62) * (own_inv (-7723592293110705685 : Int64))) 27 54) * (own_inv (-4658895280553007687 : Int64)))), .second, .val (.long (own_un ((own_un ((own_un (own_mix q1) 31 62) * (own_inv (-7723592293110705685 : Int64))) 27 54) * (own_inv (-4658895280553007687 : Int64))) 30 60)), .second] [(.long ((-4658895280553007687 : Int64) * (own_inv (-4658895280553007687 : Int64))))])) _
    refine XS.lconst X3.here hx rfl (hb hby at_94) ?_
    show Steps p.tables e below (T3.setTop (mkF m 95 #[.val (.long q1), .second, .val (.long (-4658895280553007687 : Int64)), .second, .val (.long (-7723592293110705685 : Int64)), .second, .val (.long (own_inv (-4658895280553007687 : Int64))), .second, .val (.long (own_inv (-7723592293110705685 : Int64))), .second, .val (.long (own_mix q1)), .second, .val (.long (own_un (own_mix q1) 31 62)), .second, .val (.long ((own_un (own_mix q1) 31 62) * (own_inv (-7723592293110705685 : Int64)))), .second, .val (.long (own_un ((own_un (own_mix q1) 31 62) * (own_inv (-7723592293110705685 : Int64))) 27 54)), .second, .val (.long ((own_un ((own_un (own_mix q1) 31 62) * (own_inv (-7723592293110705685 : Int64))) 27 54) * (own_inv (-4658895280553007687 : Int64)))), .second, .val (.long (own_un ((own_un ((own_un (own_mix q1) 31 62) * (own_inv (-7723592293110705685 : Int64))) 27 54) * (own_inv (-4658895280553007687 : Int64))) 30 60)), .second] [(.long (1 : Int64)), (.long ((-4658895280553007687 : Int64) * (own_inv (-4658895280553007687 : Int64))))])) _
    refine XS.lcmp X3.here hx rfl (hb hby at_95) rfl ?_
    show Steps p.tables e below (T3.setTop (mkF m 96 #[.val (.long q1), .second, .val (.long (-4658895280553007687 : Int64)), .second, .val (.long (-7723592293110705685 : Int64)), .second, .val (.long (own_inv (-4658895280553007687 : Int64))), .second, .val (.long (own_inv (-7723592293110705685 : Int64))), .second, .val (.long (own_mix q1)), .second, .val (.long (own_un (own_mix q1) 31 62)), .second, .val (.long ((own_un (own_mix q1) 31 62) * (own_inv (-7723592293110705685 : Int64)))), .second, .val (.long (own_un ((own_un (own_mix q1) 31 62) * (own_inv (-7723592293110705685 : Int64))) 27 54)), .second, .val (.long ((own_un ((own_un (own_mix q1) 31 62) * (own_inv (-7723592293110705685 : Int64))) 27 54) * (own_inv (-4658895280553007687 : Int64)))), .second, .val (.long (own_un ((own_un ((own_un (own_mix q1) 31 62) * (own_inv (-7723592293110705685 : Int64))) 27 54) * (own_inv (-4658895280553007687 : Int64))) 30 60)), .second] [(.int (lcmpW ((-4658895280553007687 : Int64) * (own_inv (-4658895280553007687 : Int64))) (1 : Int64)))])) _
    refine XS.ifNo X3.here hx rfl (hb hby at_96) rfl ((if0 _ _).trans (teq (by decide +kernel : ((lcmpW ((-4658895280553007687 : Int64) * (own_inv (-4658895280553007687 : Int64))) (1 : Int64)) = (0 : Int32)))).2) ?_
    show Steps p.tables e below (T3.setTop (mkF m 99 #[.val (.long q1), .second, .val (.long (-4658895280553007687 : Int64)), .second, .val (.long (-7723592293110705685 : Int64)), .second, .val (.long (own_inv (-4658895280553007687 : Int64))), .second, .val (.long (own_inv (-7723592293110705685 : Int64))), .second, .val (.long (own_mix q1)), .second, .val (.long (own_un (own_mix q1) 31 62)), .second, .val (.long ((own_un (own_mix q1) 31 62) * (own_inv (-7723592293110705685 : Int64)))), .second, .val (.long (own_un ((own_un (own_mix q1) 31 62) * (own_inv (-7723592293110705685 : Int64))) 27 54)), .second, .val (.long ((own_un ((own_un (own_mix q1) 31 62) * (own_inv (-7723592293110705685 : Int64))) 27 54) * (own_inv (-4658895280553007687 : Int64)))), .second, .val (.long (own_un ((own_un ((own_un (own_mix q1) 31 62) * (own_inv (-7723592293110705685 : Int64))) 27 54) * (own_inv (-4658895280553007687 : Int64))) 30 60)), .second] [])) _
    refine XS.lload X3.here hx rfl (hb hby at_99) rfl ?_
    show Steps p.tables e below (T3.setTop (mkF m 101 #[.val (.long q1), .second, .val (.long (-4658895280553007687 : Int64)), .second, .val (.long (-7723592293110705685 : Int64)), .second, .val (.long (own_inv (-4658895280553007687 : Int64))), .second, .val (.long (own_inv (-7723592293110705685 : Int64))), .second, .val (.long (own_mix q1)), .second, .val (.long (own_un (own_mix q1) 31 62)), .second, .val (.long ((own_un (own_mix q1) 31 62) * (own_inv (-7723592293110705685 : Int64)))), .second, .val (.long (own_un ((own_un (own_mix q1) 31 62) * (own_inv (-7723592293110705685 : Int64))) 27 54)), .second, .val (.long ((own_un ((own_un (own_mix q1) 31 62) * (own_inv (-7723592293110705685 : Int64))) 27 54) * (own_inv (-4658895280553007687 : Int64)))), .second, .val (.long (own_un ((own_un ((own_un (own_mix q1) 31 62) * (own_inv (-7723592293110705685 : Int64))) 27 54) * (own_inv (-4658895280553007687 : Int64))) 30 60)), .second] [(.long (-7723592293110705685 : Int64))])) _
    refine XS.lload X3.here hx rfl (hb hby at_101) rfl ?_
    show Steps p.tables e below (T3.setTop (mkF m 103 #[.val (.long q1), .second, .val (.long (-4658895280553007687 : Int64)), .second, .val (.long (-7723592293110705685 : Int64)), .second, .val (.long (own_inv (-4658895280553007687 : Int64))), .second, .val (.long (own_inv (-7723592293110705685 : Int64))), .second, .val (.long (own_mix q1)), .second, .val (.long (own_un (own_mix q1) 31 62)), .second, .val (.long ((own_un (own_mix q1) 31 62) * (own_inv (-7723592293110705685 : Int64)))), .second, .val (.long (own_un ((own_un (own_mix q1) 31 62) * (own_inv (-7723592293110705685 : Int64))) 27 54)), .second, .val (.long ((own_un ((own_un (own_mix q1) 31 62) * (own_inv (-7723592293110705685 : Int64))) 27 54) * (own_inv (-4658895280553007687 : Int64)))), .second, .val (.long (own_un ((own_un ((own_un (own_mix q1) 31 62) * (own_inv (-7723592293110705685 : Int64))) 27 54) * (own_inv (-4658895280553007687 : Int64))) 30 60)), .second] [(.long (own_inv (-7723592293110705685 : Int64))), (.long (-7723592293110705685 : Int64))])) _
    refine XS.lmul X3.here hx rfl (hb hby at_103) rfl ?_
    show Steps p.tables e below (T3.setTop (mkF m 104 #[.val (.long q1), .second, .val (.long (-4658895280553007687 : Int64)), .second, .val (.long (-7723592293110705685 : Int64)), .second, .val (.long (own_inv (-4658895280553007687 : Int64))), .second, .val (.long (own_inv (-7723592293110705685 : Int64))), .second, .val (.long (own_mix q1)), .second, .val (.long (own_un (own_mix q1) 31 62)), .second, .val (.long ((own_un (own_mix q1) 31 62) * (own_inv (-7723592293110705685 : Int64)))), .second, .val (.long (own_un ((own_un (own_mix q1) 31 62) * (own_inv (-7723592293110705685 : Int64))) 27 54)), .second, .val (.long ((own_un ((own_un (own_mix q1) 31 62) * (own_inv (-7723592293110705685 : Int64))) 27 54) * (own_inv (-4658895280553007687 : Int64)))), .second, .val (.long (own_un ((own_un ((own_un (own_mix q1) 31 62) * (own_inv (-7723592293110705685 : Int64))) 27 54) * (own_inv (-4658895280553007687 : Int64))) 30 60)), .second] [(.long ((-7723592293110705685 : Int64) * (own_inv (-7723592293110705685 : Int64))))])) _
    refine XS.lconst X3.here hx rfl (hb hby at_104) ?_
    show Steps p.tables e below (T3.setTop (mkF m 105 #[.val (.long q1), .second, .val (.long (-4658895280553007687 : Int64)), .second, .val (.long (-7723592293110705685 : Int64)), .second, .val (.long (own_inv (-4658895280553007687 : Int64))), .second, .val (.long (own_inv (-7723592293110705685 : Int64))), .second, .val (.long (own_mix q1)), .second, .val (.long (own_un (own_mix q1) 31 62)), .second, .val (.long ((own_un (own_mix q1) 31 62) * (own_inv (-7723592293110705685 : Int64)))), .second, .val (.long (own_un ((own_un (own_mix q1) 31 62) * (own_inv (-7723592293110705685 : Int64))) 27 54)), .second, .val (.long ((own_un ((own_un (own_mix q1) 31 62) * (own_inv (-7723592293110705685 : Int64))) 27 54) * (own_inv (-4658895280553007687 : Int64)))), .second, .val (.long (own_un ((own_un ((own_un (own_mix q1) 31 62) * (own_inv (-7723592293110705685 : Int64))) 27 54) * (own_inv (-4658895280553007687 : Int64))) 30 60)), .second] [(.long (1 : Int64)), (.long ((-7723592293110705685 : Int64) * (own_inv (-7723592293110705685 : Int64))))])) _
    refine XS.lcmp X3.here hx rfl (hb hby at_105) rfl ?_
    show Steps p.tables e below (T3.setTop (mkF m 106 #[.val (.long q1), .second, .val (.long (-4658895280553007687 : Int64)), .second, .val (.long (-7723592293110705685 : Int64)), .second, .val (.long (own_inv (-4658895280553007687 : Int64))), .second, .val (.long (own_inv (-7723592293110705685 : Int64))), .second, .val (.long (own_mix q1)), .second, .val (.long (own_un (own_mix q1) 31 62)), .second, .val (.long ((own_un (own_mix q1) 31 62) * (own_inv (-7723592293110705685 : Int64)))), .second, .val (.long (own_un ((own_un (own_mix q1) 31 62) * (own_inv (-7723592293110705685 : Int64))) 27 54)), .second, .val (.long ((own_un ((own_un (own_mix q1) 31 62) * (own_inv (-7723592293110705685 : Int64))) 27 54) * (own_inv (-4658895280553007687 : Int64)))), .second, .val (.long (own_un ((own_un ((own_un (own_mix q1) 31 62) * (own_inv (-7723592293110705685 : Int64))) 27 54) * (own_inv (-4658895280553007687 : Int64))) 30 60)), .second] [(.int (lcmpW ((-7723592293110705685 : Int64) * (own_inv (-7723592293110705685 : Int64))) (1 : Int64)))])) _
    refine XS.ifNo X3.here hx rfl (hb hby at_106) rfl ((if0 _ _).trans (teq (by decide +kernel : ((lcmpW ((-7723592293110705685 : Int64) * (own_inv (-7723592293110705685 : Int64))) (1 : Int64)) = (0 : Int32)))).2) ?_
    show Steps p.tables e below (T3.setTop (mkF m 109 #[.val (.long q1), .second, .val (.long (-4658895280553007687 : Int64)), .second, .val (.long (-7723592293110705685 : Int64)), .second, .val (.long (own_inv (-4658895280553007687 : Int64))), .second, .val (.long (own_inv (-7723592293110705685 : Int64))), .second, .val (.long (own_mix q1)), .second, .val (.long (own_un (own_mix q1) 31 62)), .second, .val (.long ((own_un (own_mix q1) 31 62) * (own_inv (-7723592293110705685 : Int64)))), .second, .val (.long (own_un ((own_un (own_mix q1) 31 62) * (own_inv (-7723592293110705685 : Int64))) 27 54)), .second, .val (.long ((own_un ((own_un (own_mix q1) 31 62) * (own_inv (-7723592293110705685 : Int64))) 27 54) * (own_inv (-4658895280553007687 : Int64)))), .second, .val (.long (own_un ((own_un ((own_un (own_mix q1) 31 62) * (own_inv (-7723592293110705685 : Int64))) 27 54) * (own_inv (-4658895280553007687 : Int64))) 30 60)), .second] [])) _
    refine XS.lload X3.here hx rfl (hb hby at_109) rfl ?_
    show Steps p.tables e below (T3.setTop (mkF m 111 #[.val (.long q1), .second, .val (.long (-4658895280553007687 : Int64)), .second, .val (.long (-7723592293110705685 : Int64)), .second, .val (.long (own_inv (-4658895280553007687 : Int64))), .second, .val (.long (own_inv (-7723592293110705685 : Int64))), .second, .val (.long (own_mix q1)), .second, .val (.long (own_un (own_mix q1) 31 62)), .second, .val (.long ((own_un (own_mix q1) 31 62) * (own_inv (-7723592293110705685 : Int64)))), .second, .val (.long (own_un ((own_un (own_mix q1) 31 62) * (own_inv (-7723592293110705685 : Int64))) 27 54)), .second, .val (.long ((own_un ((own_un (own_mix q1) 31 62) * (own_inv (-7723592293110705685 : Int64))) 27 54) * (own_inv (-4658895280553007687 : Int64)))), .second, .val (.long (own_un ((own_un ((own_un (own_mix q1) 31 62) * (own_inv (-7723592293110705685 : Int64))) 27 54) * (own_inv (-4658895280553007687 : Int64))) 30 60)), .second] [(.long (own_un ((own_un ((own_un (own_mix q1) 31 62) * (own_inv (-7723592293110705685 : Int64))) 27 54) * (own_inv (-4658895280553007687 : Int64))) 30 60))])) _
    refine XS.lloadN X3.here hx rfl (hb hby at_111) rfl ?_
    show Steps p.tables e below (T3.setTop (mkF m 112 #[.val (.long q1), .second, .val (.long (-4658895280553007687 : Int64)), .second, .val (.long (-7723592293110705685 : Int64)), .second, .val (.long (own_inv (-4658895280553007687 : Int64))), .second, .val (.long (own_inv (-7723592293110705685 : Int64))), .second, .val (.long (own_mix q1)), .second, .val (.long (own_un (own_mix q1) 31 62)), .second, .val (.long ((own_un (own_mix q1) 31 62) * (own_inv (-7723592293110705685 : Int64)))), .second, .val (.long (own_un ((own_un (own_mix q1) 31 62) * (own_inv (-7723592293110705685 : Int64))) 27 54)), .second, .val (.long ((own_un ((own_un (own_mix q1) 31 62) * (own_inv (-7723592293110705685 : Int64))) 27 54) * (own_inv (-4658895280553007687 : Int64)))), .second, .val (.long (own_un ((own_un ((own_un (own_mix q1) 31 62) * (own_inv (-7723592293110705685 : Int64))) 27 54) * (own_inv (-4658895280553007687 : Int64))) 30 60)), .second] [(.long q1), (.long (own_un ((own_un ((own_un (own_mix q1) 31 62) * (own_inv (-7723592293110705685 : Int64))) 27 54) * (own_inv (-4658895280553007687 : Int64))) 30 60))])) _
    refine XS.lcmp X3.here hx rfl (hb hby at_112) rfl ?_
    show Steps p.tables e below (T3.setTop (mkF m 113 #[.val (.long q1), .second, .val (.long (-4658895280553007687 : Int64)), .second, .val (.long (-7723592293110705685 : Int64)), .second, .val (.long (own_inv (-4658895280553007687 : Int64))), .second, .val (.long (own_inv (-7723592293110705685 : Int64))), .second, .val (.long (own_mix q1)), .second, .val (.long (own_un (own_mix q1) 31 62)), .second, .val (.long ((own_un (own_mix q1) 31 62) * (own_inv (-7723592293110705685 : Int64)))), .second, .val (.long (own_un ((own_un (own_mix q1) 31 62) * (own_inv (-7723592293110705685 : Int64))) 27 54)), .second, .val (.long ((own_un ((own_un (own_mix q1) 31 62) * (own_inv (-7723592293110705685 : Int64))) 27 54) * (own_inv (-4658895280553007687 : Int64)))), .second, .val (.long (own_un ((own_un ((own_un (own_mix q1) 31 62) * (own_inv (-7723592293110705685 : Int64))) 27 54) * (own_inv (-4658895280553007687 : Int64))) 30 60)), .second] [(.int (lcmpW (own_un ((own_un ((own_un (own_mix q1) 31 62) * (own_inv (-7723592293110705685 : Int64))) 27 54) * (own_inv (-4658895280553007687 : Int64))) 30 60) q1))])) _
    refine XS.ifNo X3.here hx rfl (hb hby at_113) rfl ((if0 _ _).trans (teq ((lw_eq _ _).mpr (own_law q1) : ((lcmpW (own_un ((own_un ((own_un (own_mix q1) 31 62) * (own_inv (-7723592293110705685 : Int64))) 27 54) * (own_inv (-4658895280553007687 : Int64))) 30 60) q1) = (0 : Int32)))).2) ?_
    show Steps p.tables e below (T3.setTop (mkF m 116 #[.val (.long q1), .second, .val (.long (-4658895280553007687 : Int64)), .second, .val (.long (-7723592293110705685 : Int64)), .second, .val (.long (own_inv (-4658895280553007687 : Int64))), .second, .val (.long (own_inv (-7723592293110705685 : Int64))), .second, .val (.long (own_mix q1)), .second, .val (.long (own_un (own_mix q1) 31 62)), .second, .val (.long ((own_un (own_mix q1) 31 62) * (own_inv (-7723592293110705685 : Int64)))), .second, .val (.long (own_un ((own_un (own_mix q1) 31 62) * (own_inv (-7723592293110705685 : Int64))) 27 54)), .second, .val (.long ((own_un ((own_un (own_mix q1) 31 62) * (own_inv (-7723592293110705685 : Int64))) 27 54) * (own_inv (-4658895280553007687 : Int64)))), .second, .val (.long (own_un ((own_un ((own_un (own_mix q1) 31 62) * (own_inv (-7723592293110705685 : Int64))) 27 54) * (own_inv (-4658895280553007687 : Int64))) 30 60)), .second] [])) _
    refine XS.iconst X3.here hx rfl (hb hby at_116) ?_
    show Steps p.tables e below (T3.setTop (mkF m 117 #[.val (.long q1), .second, .val (.long (-4658895280553007687 : Int64)), .second, .val (.long (-7723592293110705685 : Int64)), .second, .val (.long (own_inv (-4658895280553007687 : Int64))), .second, .val (.long (own_inv (-7723592293110705685 : Int64))), .second, .val (.long (own_mix q1)), .second, .val (.long (own_un (own_mix q1) 31 62)), .second, .val (.long ((own_un (own_mix q1) 31 62) * (own_inv (-7723592293110705685 : Int64)))), .second, .val (.long (own_un ((own_un (own_mix q1) 31 62) * (own_inv (-7723592293110705685 : Int64))) 27 54)), .second, .val (.long ((own_un ((own_un (own_mix q1) 31 62) * (own_inv (-7723592293110705685 : Int64))) 27 54) * (own_inv (-4658895280553007687 : Int64)))), .second, .val (.long (own_un ((own_un ((own_un (own_mix q1) 31 62) * (own_inv (-7723592293110705685 : Int64))) 27 54) * (own_inv (-4658895280553007687 : Int64))) 30 60)), .second] [(.int (1 : Int32))])) _
    refine XS.goto X3.here hx rfl (pc0 := 117) (pc' := 121) rfl (hb hby at_117) (by decide) (by decide) ?_
    show Steps p.tables e below (T3.setTop (mkF m 121 #[.val (.long q1), .second, .val (.long (-4658895280553007687 : Int64)), .second, .val (.long (-7723592293110705685 : Int64)), .second, .val (.long (own_inv (-4658895280553007687 : Int64))), .second, .val (.long (own_inv (-7723592293110705685 : Int64))), .second, .val (.long (own_mix q1)), .second, .val (.long (own_un (own_mix q1) 31 62)), .second, .val (.long ((own_un (own_mix q1) 31 62) * (own_inv (-7723592293110705685 : Int64)))), .second, .val (.long (own_un ((own_un (own_mix q1) 31 62) * (own_inv (-7723592293110705685 : Int64))) 27 54)), .second, .val (.long ((own_un ((own_un (own_mix q1) 31 62) * (own_inv (-7723592293110705685 : Int64))) 27 54) * (own_inv (-4658895280553007687 : Int64)))), .second, .val (.long (own_un ((own_un ((own_un (own_mix q1) 31 62) * (own_inv (-7723592293110705685 : Int64))) 27 54) * (own_inv (-4658895280553007687 : Int64))) 30 60)), .second] [(.int (1 : Int32))])) _
    exact retN X3 hx (t := .boolean) Bd.returns (by simp) (hb hby at_121) hr
  · show Q_rm0 Z q1 h0 n0 _ T3.heap _
    rw [e3]
    exact ⟨rfl, N3⟩
set_option maxRecDepth 65536 in
set_option maxHeartbeats 40000000 in
theorem comes_1 {Post : Tables → Env → Array Value → State → Outcome → State → Prop} (hpost : ∀ tb e args s v u, (limb_1_1.after args s (.returned v) u = true ∧ limb_1_2.after args s (.returned v) u = true ∧ True) → FrameEnd s (.returned v) u (Jvm.fieldLocs frame_1_writes args s ++ Jvm.arrayLocs frame_1_arrays args s ++ Jvm.staticLocs frame_1_statics s) 0 0 → Post tb e args s (.returned v) u) :
    ArmFor flags0 classFile x code maxLocals ret World_1 tables_1 room_1 Calls_1 rest_1 Pre_1 Post := by
  intro l hfl _ _ p e ha hc hk s m args below hf hA hF happ hP
  obtain ⟨hcalls, hrest, hpre⟩ := hP
  obtain ⟨-, -, -, hnamed, -, -, -, hat⟩ := (Spec.applies_iff hf).mp happ
  obtain ⟨hg, hn⟩ := and_e (Cond.before_iff.mp (show (Jvm.Cond.and given_1 narrow_1).before args s = true from hpre))
  obtain ⟨g0, gr0⟩ := and_e hg
  obtain ⟨w0, rfl⟩ : ∃ w0 : Value, args = #[w0] := by
    have hs : args.size = 1 := by simpa [Cond.value, given_1] using g0
    obtain ⟨L⟩ := args
    match L, hs with
    | [w0], _ => exact ⟨w0, rfl⟩
  have hw := fun d (hd : d ∈ tables_1) => atoms_spec (ws := Jvm.Cond.code x code maxLocals ret :: tables_1) hat d (List.mem_cons_of_mem _ hd)
  have hfit : Fit s := fun {y c} hc i hi => by
    obtain ⟨ha, rfl⟩ := Array.getElem?_eq_some_iff.mp hc
    have q := List.all_eq_true.mp ((Array.all_eq_true_iff_forall_mem.mp hF) _ (Array.getElem_mem ha)) i (List.mem_range.mpr hi)
    simpa [Array.getElem?_eq_getElem hi] using q
  obtain ⟨i0, ei0⟩ := isL_v gr0
  obtain rfl : w0 = (.long i0) := Option.some.inj ei0
  obtain ⟨n, o, h1, h2, h3, _, L, rfl, ⟨rfl, N⟩, hq⟩ := rm0 l s _ hw tables_1 i0 s.heap s.heap.size (Nat.le_refl _) p e ha hc hk s m _ below hf ((Spec.applies_iff_loose hf).mp happ).1 ⟨rfl, State.Warmed39.refl s, rfl⟩ trivial
  refine ⟨n, _, h1, h2, h3, hpost _ _ _ _ _ _ ⟨Cond.after_iff.mpr rfl, Cond.after_iff.mpr (eq_i res_at (Term.int_eval (1)) rfl), trivial⟩ ⟨hq.1, hq.2.1, (hq.2.2.sift fun y hy => Or.inr (N y hy)).mono (by decide) (by decide)⟩⟩
theorem main_1_1 : Claimed_1_1 := comes_1 fun _ _ _ _ _ _ h hF => ⟨h.1, hF⟩
theorem main_1_2 : Claimed_1_2 := comes_1 fun _ _ _ _ _ _ h hF => ⟨h.2.1, hF⟩
end Jvm.Pilot.@@N@@
namespace Jvm.Pilot.@@N@@
open Jvm Jvm.ClassFile Sem Op Lib Jvm.Free Jvm.Stand Jvm.Pilot.@@N@@.Jvm.D
/-! MADE BY PROGRAM (witnessworld.py) out of the Statement's table words and the real class files: 9 classes; the members and pool entries that the words name. The judged class is class 1, her method 2. -/
namespace start1
open Jvm.ClassFile
def u (s : String) : CpInfo := .utf8 (stringToUtf16 s)
/-- a pool by its gaps: so many unusable entries, then the entry; so many at the end -/
def gap : Nat → List CpInfo → List CpInfo
  | 0, r => r
  | n + 1, r => .unusable :: gap n r
def poolList (es : List (Nat × CpInfo)) (last : Nat) : List CpInfo := es.foldr (fun e r => gap e.1 (e.2 :: r)) (gap last [])
def pool (es : List (Nat × CpInfo)) (last : Nat) : Array CpInfo := ⟨poolList es last⟩
def fileOf (pool : Array CpInfo) (this : Nat) (attrs : Array Attribute := #[]) (ms : Array MethodInfo := #[]) (fl : Nat := 33) (sup : Nat := 0) (ifs : Array Nat := #[]) (fds : Array FieldInfo := #[]) : ClassFile where
  minorVersion := 0
  majorVersion := 65
  constantPool := pool
  accessFlags := fl
  thisClass := this
  superClass := sup
  interfaces := ifs
  fields := fds
  methods := ms
  attributes := attrs
def plain (name : String) (sup : Option ClassId) : Class where
  name := name
  kind := .ordinary
  loader := none
  accessFlags := 33
  super := sup
  interfaces := #[]
  cf := none
  fields := #[]
  methods := #[]
  instanceTypes := #[]
  staticTypes := #[]
  resolved := #[]
  callSites := []
  init := .initialized
  statics := none
  mirror := none

def pool0 : Array CpInfo := pool [(5, u "<init>"), (0, u "()V"), (1, .class_ 10), (1, u "java/lang/Object")] 113

def k0m0 : Method := { name := "<init>", desc := "()V", sig := { parameters := [], returnType := none }, accessFlags := 1, code := none }
/-- java/lang/Object -/
def k0 : Class := { plain "java/lang/Object" none with
  accessFlags := 33
  interfaces := #[]
  cf := some (fileOf pool0 8 #[] #[{ accessFlags := 1, nameIndex := 5, descriptorIndex := 6, attributes := #[] }] 33 0 #[] #[])
  fields := #[]
  methods := #[k0m0]
  instanceTypes := #[]
  staticTypes := #[]
  resolved := Array.replicate 124 none
  statics := none }

def pool1 : Array CpInfo := pool [(2, .class_ 4), (1, u "java/lang/Object"), (0, u "<init>"), (0, u "()V"), (0, .long 2), (1, .long 13787848793156543929), (1, .long 10723151780598845931), (1, .methodref 14 15), (0, .class_ 16), (0, .nameAndType 17 18), (0, u "com/example/velar/velar/SplitMix64MixPinLaw"), (0, u "inverseOf"), (0, u "(J)J"), (0, .methodref 20 21), (0, .class_ 22), (0, .nameAndType 23 18), (0, u "com/example/velar/velar/SplitMix64"), (0, u "mix"), (2, u "law"), (0, u "(J)Z")] 3

def k1m0 : Method := { name := "<init>", desc := "()V", sig := { parameters := [], returnType := none }, accessFlags := 2, code := none }
def k1c1 : Code := { maxStack := 8, maxLocals := 4, code := method_2_code, exceptionTable := #[], attributes := #[] }
def k1m1 : Method := { name := "inverseOf", desc := "(J)J", sig := { parameters := [.long], returnType := some .long }, accessFlags := 10, code := some k1c1 }
def k1c2 : Code := { maxStack := 5, maxLocals := 22, code := code, exceptionTable := #[], attributes := #[] }
def k1m2 : Method := { name := "law", desc := "(J)Z", sig := { parameters := [.long], returnType := some .boolean }, accessFlags := 9, code := some k1c2 }
/-- com/example/velar/velar/SplitMix64MixPinLaw -/
def k1 : Class := { plain "com/example/velar/velar/SplitMix64MixPinLaw" (some 0) with
  accessFlags := 49
  interfaces := #[]
  cf := some (fileOf pool1 14 #[] #[{ accessFlags := 2, nameIndex := 5, descriptorIndex := 6, attributes := #[] }, { accessFlags := 10, nameIndex := 17, descriptorIndex := 18, attributes := #[] }, { accessFlags := 9, nameIndex := 26, descriptorIndex := 27, attributes := #[] }] 49 2 #[] #[])
  fields := #[]
  methods := #[k1m0, k1m1, k1m2]
  instanceTypes := #[]
  staticTypes := #[]
  resolved := Array.replicate 31 none
  statics := none }

def pool2 : Array CpInfo := pool [(2, .class_ 4), (1, u "java/lang/Object"), (3, .class_ 10), (1, u "com/example/velar/velar/SplitMix64"), (0, u "state"), (0, u "J"), (4, u "mix"), (0, u "(J)J"), (0, .long 13787848793156543929), (1, .long 10723151780598845931), (28, u "STEP")] 8

def k2c0 : Code := { maxStack := 5, maxLocals := 4, code := prog_20_method_3_code, exceptionTable := #[], attributes := #[] }
def k2m0 : Method := { name := "mix", desc := "(J)J", sig := { parameters := [.long], returnType := some .long }, accessFlags := 8, code := some k2c0 }
/-- com/example/velar/velar/SplitMix64 -/
def k2 : Class := { plain "com/example/velar/velar/SplitMix64" (some 0) with
  accessFlags := 48
  interfaces := #[]
  cf := some (fileOf pool2 8 #[] #[{ accessFlags := 8, nameIndex := 17, descriptorIndex := 18, attributes := #[] }] 48 2 #[] #[{ accessFlags := 26, nameIndex := 50, descriptorIndex := 12, attributes := #[] }, { accessFlags := 2, nameIndex := 11, descriptorIndex := 12, attributes := #[] }])
  fields := #[{ name := "STEP", type := .long, accessFlags := 26, slot := 0, constantValue := 0 }, { name := "state", type := .long, accessFlags := 2, slot := 0, constantValue := 0 }]
  methods := #[k2m0]
  instanceTypes := #[.long]
  staticTypes := #[.long]
  resolved := Array.replicate 59 none
  statics := none }

def pool3 : Array CpInfo := pool [(1, u "java/lang/Cloneable"), (0, .class_ 1), (0, u "java/lang/Object"), (0, .class_ 3)] 3

/-- java/lang/Cloneable -/
def k3 : Class := { plain "java/lang/Cloneable" (some 0) with
  accessFlags := 1537
  interfaces := #[]
  cf := some (fileOf pool3 2 #[] #[] 1537 4 #[] #[])
  fields := #[]
  methods := #[]
  instanceTypes := #[]
  staticTypes := #[]
  resolved := Array.replicate 8 none
  statics := none }

def pool4 : Array CpInfo := pool [(1, u "java/io/Serializable"), (0, .class_ 1), (0, u "java/lang/Object"), (0, .class_ 3)] 3

/-- java/io/Serializable -/
def k4 : Class := { plain "java/io/Serializable" (some 0) with
  accessFlags := 1537
  interfaces := #[]
  cf := some (fileOf pool4 2 #[] #[] 1537 4 #[] #[])
  fields := #[]
  methods := #[]
  instanceTypes := #[]
  staticTypes := #[]
  resolved := Array.replicate 8 none
  statics := none }

/-- the primitive byte -/
def k5 : Class := { plain "byte" none with kind := .primitive 'B', accessFlags := 0x411 }
/-- [B -/
def k6 : Class := { plain "[B" (some 0) with kind := .array 5 .byte, interfaces := #[3, 4], accessFlags := 1041 }

/-- the primitive int -/
def k7 : Class := { plain "int" none with kind := .primitive 'I', accessFlags := 0x411 }
/-- [I -/
def k8 : Class := { plain "[I" (some 0) with kind := .array 7 .int, interfaces := #[3, 4], accessFlags := 1041 }

def heap : Heap := #[]
def classes : Array Class := #[k0, k1, k2, k3, k4, k5, k6, k7, k8]
def interned : List (Array UInt16 × Addr) := []
def slotsUsed : Nat := 0
def theMethod : MethodId := ⟨1, 2⟩
def args0 : Array Value := #[.long 5]
def aboutOver (below : List Frame) : State where
  vm := { classes := classes, interned := interned.toArray }
  heap := heap
  slotsUsed := slotsUsed
  threads := #[{ frames := .invoking theMethod args0 :: below }]
def below0 : List Frame := [.native { method := ⟨0, 0⟩, args := #[] }]
def about1 : State := aboutOver below0
def p0 : Program := .bare "" "" ""
def e0 : Env := launch0.env 0 0 0
theorem w_frames : about1.frames = Frame.invoking theMethod args0 :: below0 := rfl
set_option maxRecDepth 65536 in
theorem w_args : argsFit about1.vm theMethod args0 = true := by decide +kernel
set_option maxRecDepth 65536 in
theorem w_heap : heapFits about1 = true := by decide +kernel
set_option maxRecDepth 65536 in
theorem w_runnable : about1.curStatus? = some .runnable := by decide +kernel
set_option maxRecDepth 65536 in
theorem w_alone : about1.alone = true := by decide +kernel
set_option maxRecDepth 65536 in
theorem w_named : about1.methodNamed? x = some theMethod := by decide +kernel
set_option maxRecDepth 65536 in
theorem w_hears : about1.hears theMethod below0 = true := by decide +kernel
set_option maxRecDepth 65536 in
theorem w_ripe : about1.ripe theMethod args0 below0 = true := by decide +kernel
theorem w_running : about1.status = .running := rfl
set_option maxRecDepth 65536 in
theorem w_room : about1.hasRoom e0.platform room_1 = true :=
  launch0.hasRoom_least _ room_1 (by decide +kernel) (by decide +kernel) (by decide +kernel) (by decide +kernel) (by decide +kernel) (by decide +kernel)
theorem allAtoms_all (ts : List Jvm.Cond) (a : Array Jvm.Value) (st : Jvm.State) : (allAtoms ts).before a st = ts.all (fun c => c.before a st) := by
  induction ts with
  | nil => rfl
  | cons c t ih =>
    show (Jvm.Cond.and c (allAtoms t)).before a st = _
    rw [Jvm.Cond.before_and, ih, List.all_cons]
def words1 : List Jvm.Cond := Jvm.Cond.code x code maxLocals ret :: tables_1
/-- a 'code' word, met by the world's own term for the bytes: nothing is compared byte by byte -/
theorem code_word {y : MethodName} {bytes : ByteArray} {mx : Nat} {rt : Option FieldType} {a : Array Value} {s : State} {m : MethodId} {meth : Method} {c : Code} (h1 : s.methodNamed? y = some m) (h2 : s.vm.method? m = some meth) (h3 : meth.code = some c) (h4 : c.code = bytes)
    (h5 : (c.maxLocals == mx && c.exceptionTable.isEmpty && decide (c.maxStack ≤ mostOperands) && decide (meth.sig.returnType = rt) && !meth.locks && decide (parseMethodDescriptor y.desc = some meth.sig)) = true) : (Jvm.Cond.code y bytes mx rt).before a s = true := by
  simp only [Bool.and_eq_true, beq_iff_eq, Bool.not_eq_true', decide_eq_true_eq] at h5
  obtain ⟨⟨⟨⟨⟨g1, g2⟩, g3⟩, g4⟩, g5⟩, g6⟩ := h5
  simp [Cond.before, Cond.holds, Cond.value, h1, h2, h3, h4, g1, g2, g3, g4, g5, g6]
def isCode : Jvm.Cond → Bool
  | .code _ _ _ _ => true
  | _ => false
theorem all_split {L : List Jvm.Cond} {P : Jvm.Cond → Bool} (h1 : L.all (fun c => isCode c || P c) = true) (h2 : ∀ c ∈ L.filter isCode, P c = true) : L.all P = true := by
  refine List.all_eq_true.mpr fun c hc => ?_
  have h := List.all_eq_true.mp h1 c hc
  rcases Bool.eq_false_or_eq_true (isCode c) with hi | hi
  · exact h2 c (List.mem_filter.mpr ⟨hc, hi⟩)
  · simpa [hi] using h
set_option maxRecDepth 65536 in
theorem w_c0 : (Jvm.Cond.code x code maxLocals ret).before args0 about1 = true := code_word (m := ⟨1, 2⟩) (meth := k1m2) (c := k1c2) (by decide +kernel) rfl rfl rfl (by decide +kernel)
set_option maxRecDepth 65536 in
theorem w_c1 : (Jvm.Cond.code ({ cls := "com/example/velar/velar/SplitMix64MixPinLaw", name := "inverseOf", desc := "(J)J" } : Jvm.MethodName) method_2_code (4 : Nat) (Option.some Jvm.ClassFile.FieldType.long)).before args0 about1 = true := code_word (m := ⟨1, 1⟩) (meth := k1m1) (c := k1c1) (by decide +kernel) rfl rfl rfl (by decide +kernel)
set_option maxRecDepth 65536 in
theorem w_c2 : (Jvm.Cond.code ({ cls := "com/example/velar/velar/SplitMix64", name := "mix", desc := "(J)J" } : Jvm.MethodName) prog_20_method_3_code (4 : Nat) (Option.some Jvm.ClassFile.FieldType.long)).before args0 about1 = true := code_word (m := ⟨2, 0⟩) (meth := k2m0) (c := k2c0) (by decide +kernel) rfl rfl rfl (by decide +kernel)
def codes1 : List Jvm.Cond := [Jvm.Cond.code x code maxLocals ret, Jvm.Cond.code ({ cls := "com/example/velar/velar/SplitMix64MixPinLaw", name := "inverseOf", desc := "(J)J" } : Jvm.MethodName) method_2_code (4 : Nat) (Option.some Jvm.ClassFile.FieldType.long), Jvm.Cond.code ({ cls := "com/example/velar/velar/SplitMix64", name := "mix", desc := "(J)J" } : Jvm.MethodName) prog_20_method_3_code (4 : Nat) (Option.some Jvm.ClassFile.FieldType.long)]
set_option maxRecDepth 65536 in
theorem codes_eq : words1.filter isCode = codes1 := rfl
theorem w_codes : ∀ c ∈ words1.filter isCode, c.before args0 about1 = true := by
  rw [codes_eq]
  intro c hc
  simp only [codes1, List.mem_cons, List.not_mem_nil, or_false] at hc
  rcases hc with rfl | rfl | rfl
  · exact w_c0
  · exact w_c1
  · exact w_c2
set_option maxRecDepth 65536 in
theorem w_t1 : words1.all (fun c => isCode c || c.before args0 about1) = true := by decide +kernel
theorem w_tables : (allAtoms (Jvm.Cond.code x code maxLocals ret :: tables_1)).before args0 about1 = true := by
  rw [allAtoms_all]
  show words1.all (fun c => c.before args0 about1) = true
  refine all_split ?_ w_codes
  rw [w_t1]
set_option maxRecDepth 65536 in
theorem w_case : (Jvm.Cond.and given_1 narrow_1).before args0 about1 = true := by decide +kernel
theorem w_applies : (headSpec (Jvm.Cond.code x code maxLocals ret :: tables_1) room_1).applies x e0.platform about1 = true :=
  (Spec.applies_iff w_frames).mpr ⟨w_running, w_runnable, w_alone, w_named, w_hears, w_ripe, w_room, w_tables⟩
theorem atStart : AtStart classFile x code maxLocals ret World_1 tables_1 room_1 Calls_1 rest_1 Pre_1 launch0 p0 e0 about1 theMethod args0 below0 :=
  ⟨lists_1, trivial, launch0.admits_env _ _ _, launch0.least_env, fairChoices_fair.cas, fairChoices_fair.clock, w_frames, w_args, w_heap, w_applies, trivial, trivial, w_case⟩
end start1
theorem witness_1 : WitnessClaimed_1 := ⟨start1.p0, start1.e0, start1.about1, start1.theMethod, start1.args0, start1.below0, start1.atStart⟩
end Jvm.Pilot.@@N@@
