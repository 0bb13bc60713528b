import JvmDerived
import JvmDerived.Pilot.@@N@@Statement
import JvmDerived.Pilot.@@N@@Code
set_option linter.unusedVariables false
set_option linter.unusedSimpArgs false
namespace Jvm.RoadKit
open Sem ClassFile Op Lib Jvm.Stand Jvm.Free Jvm.LawKit
section New
variable {p : Program} {l : Launch} {e : Env} {R : Room} {s : State} {m : MethodId} {args : Array Value} {below : List Frame} {meth : Method} {c : Code} {T : State} {locs : List Loc} {cells slots : Nat}
theorem retI (X : Stand p l e R s m args below meth c T locs cells slots) (hx : p.tables.exec = Jvm.exec) {pc : Nat} {Ls : Array Slot} {z : Int32} {rest : List Value} (hret : meth.sig.returnType = some .int) (hd : decode c.code pc = .ok (.ireturn, 1)) {fs : List Frame}
    (hl : ∀ (f : JFrame) (acts : List Action), f.method = m → f.locked = none → f.entered = [] → (doReturn e (T.setTop f) acts (some (.int z))).1 = T.setFrames fs) : Steps p.tables e below (T.setTop (mkF m pc Ls (.int z :: rest))) (T.setFrames fs) := by
  have hm' : T.vm.method? m = some meth := X.method'
  have hn : narrow .int (.int z) = .int z := rfl
  show Steps p.tables e below (T.setTop { method := m, pc := pc, locals := Ls, stack := _ :: rest, locked := none }) _
  jvm_step X.here [X.here.top, hx, hd, hm', hret, hn]
  first | (intro acts; rw [hl _ acts rfl rfl rfl]) | rw [hl _ _ rfl rfl rfl]
  exact Steps.refl _
theorem retJ (X : Stand p l e R s m args below meth c T locs cells slots) (hx : p.tables.exec = Jvm.exec) {pc : Nat} {Ls : Array Slot} {z : Int64} {rest : List Value} (hret : meth.sig.returnType = some .long) (hd : decode c.code pc = .ok (.lreturn, 1)) {fs : List Frame}
    (hl : ∀ (f : JFrame) (acts : List Action), f.method = m → f.locked = none → f.entered = [] → (doReturn e (T.setTop f) acts (some (.long z))).1 = T.setFrames fs) : Steps p.tables e below (T.setTop (mkF m pc Ls (.long z :: rest))) (T.setFrames fs) := by
  have hm' : T.vm.method? m = some meth := X.method'
  have hn : narrow .long (.long z) = .long z := rfl
  show Steps p.tables e below (T.setTop { method := m, pc := pc, locals := Ls, stack := _ :: rest, locked := none }) _
  jvm_step X.here [X.here.top, hx, hd, hm', hret, hn]
  first | (intro acts; rw [hl _ acts rfl rfl rfl]) | rw [hl _ _ rfl rfl rfl]
  exact Steps.refl _
end New
end Jvm.RoadKit
namespace Jvm.Pilot.@@N@@
open Jvm Jvm.ClassFile Sem Op Lib Jvm.Free Jvm.Stand Jvm.LawKit Jvm.RoadKit Bundle Jvm.Pilot.@@N@@.Jvm.D
def own_rank (q1 : Int64) : Int64 := ((((99 : Int64) * q1) + (99 : Int64)) / (100 : Int64))
theorem d1_0 : decode prog_144_method_4_code 0 = .ok (.ldc2_w 38, 3) := by decide +kernel
theorem d1_3 : decode prog_144_method_4_code 3 = .ok (.lload_n 0, 1) := by decide +kernel
theorem d1_4 : decode prog_144_method_4_code 4 = .ok (.lmul, 1) := by decide +kernel
theorem d1_5 : decode prog_144_method_4_code 5 = .ok (.ldc2_w 38, 3) := by decide +kernel
theorem d1_8 : decode prog_144_method_4_code 8 = .ok (.ladd, 1) := by decide +kernel
theorem d1_9 : decode prog_144_method_4_code 9 = .ok (.ldc2_w 40, 3) := by decide +kernel
theorem d1_12 : decode prog_144_method_4_code 12 = .ok (.ldiv, 1) := by decide +kernel
theorem d1_13 : decode prog_144_method_4_code 13 = .ok (.lreturn, 1) := by decide +kernel
theorem pn_rm1 : plainName "nachbar/sim/Summary" = true := by first | (simp [plainName, overriddenIn]; done) | decide +kernel
theorem ef_rm1 (m : MethodId) (x0 : Int64) : entryFrame m #[(.long x0)] 2 = mkF m 0 #[.val (.long x0), .second] [] := by first | (simp [entryFrame, mkF, argsToLocals, Value.category]; done) | rfl
def Q_rm1 (Z : State) (q1 : Int64) (h0 : Heap) (n0 : Nat) (v : Option Value) (h : Heap) (L : List Loc) : Prop := v = some (.long (own_rank q1)) ∧ Fr n0 L ∧ h = h0
set_option maxRecDepth 65536 in
set_option maxHeartbeats 40000000 in
theorem rm1 (l : Launch) (Z : State) (a0 : Array Value) (hw : ∀ d ∈ tables_1, d.before a0 Z = true) (ws : List Jvm.Cond) (q1 : Int64) (h0 : Heap) (n0 : Nat) (Z0 : n0 ≤ h0.size) :
    MetFree l (⟨"nachbar/sim/Summary", "p99Rank", "(J)J"⟩ : MethodName) (head1 (Jvm.Cond.code (⟨"nachbar/sim/Summary", "p99Rank", "(J)J"⟩ : MethodName) prog_144_method_4_code 2 (some .long) :: ws) ({ frames := 0, cells := 0, slots := 0, locals := 0 } : Room)) (fun a U => a = #[(.long q1)] ∧ Z.Warmed39 U.vm ∧ U.heap = h0) (fun _ _ _ _ _ => True) (fun _ U o U' => ∃ v L, o = .returned v ∧ Q_rm1 Z q1 h0 n0 v U'.heap L ∧ FrameEnd U o U' L ({ frames := 0, cells := 0, slots := 0, locals := 0 } : Room).cells ({ frames := 0, cells := 0, slots := 0, locals := 0 } : Room).slots) := by
  refine MetFree.of_bodySF (plainFor_of_name pn_rm1) hisR ?_
  intro p e s m args below meth c s₁ Bd hml0 hP hK
  obtain ⟨rfl, hZ, hh⟩ := hP
  have hx := Bd.exec
  have hby := Bd.bytes
  have hml : c.maxLocals = 2 := hml0
  have hown : s.vm.findClass "nachbar/sim/Summary" = some m.cls := findClass_of_methodNamed Bd.named
  have hnm := (name_of_methodNamed Bd.named Bd.method).1
  have X0 : Stand p l e ({ frames := 0, cells := 0, slots := 0, locals := 0 } : Room) s m #[(.long q1)] below meth c s₁ [] 0 0 := Stand.of_body Bd
  have e0 : s₁.heap = h0 := by rw [← hh, Bd.state]; rfl
  have N0 := Fr.nil n0
  have pre0 : ∀ t, Steps p.tables e below (s₁.setTop (mkF m 0 #[.val (.long q1), .second] [])) t → Steps p.tables e below (s₁.setTop (entryFrame m #[(.long q1)] 2)) t := fun t k => castTop (ef_rm1 m q1) k
  obtain ⟨fs, hr, hrun, hended, hW, hsame⟩ := X0.leave (v := some (.long ((((99 : Int64) * q1) + (99 : Int64)) / (100 : Int64)))) (fun h => by rw [Bd.returns] at h; cases h)
  refine ⟨_, _, pre0 _ ?_, hrun, hended, _, _, rfl, ?_, ⟨_, rfl⟩, hW, hsame.mono (by decide) (by decide)⟩
  · show Steps p.tables e below (s₁.setTop (mkF m 0 #[.val (.long q1), .second] [])) _
    refine X0.ldc2Long hx hown (mvT hZ (hw _ (List.mem_of_getElem? (i := 5) rfl))) (g := (mkF m 0 #[.val (.long q1), .second] [])) rfl (hb hby d1_0) _ ?_
    show Steps p.tables e below (s₁.setTop (mkF m 3 #[.val (.long q1), .second] [(.long (99 : Int64))])) _
    refine XS.lloadN X0.here hx rfl (hb hby d1_3) rfl ?_
    show Steps p.tables e below (s₁.setTop (mkF m 4 #[.val (.long q1), .second] [(.long q1), (.long (99 : Int64))])) _
    refine XS.lmul X0.here hx rfl (hb hby d1_4) rfl ?_
    show Steps p.tables e below (s₁.setTop (mkF m 5 #[.val (.long q1), .second] [(.long ((99 : Int64) * q1))])) _
    refine X0.ldc2Long hx hown (mvT hZ (hw _ (List.mem_of_getElem? (i := 5) rfl))) (g := (mkF m 5 #[.val (.long q1), .second] [(.long ((99 : Int64) * q1))])) rfl (hb hby d1_5) _ ?_
    show Steps p.tables e below (s₁.setTop (mkF m 8 #[.val (.long q1), .second] [(.long (99 : Int64)), (.long ((99 : Int64) * q1))])) _
    refine XS.ladd X0.here hx rfl (hb hby d1_8) rfl ?_
    show Steps p.tables e below (s₁.setTop (mkF m 9 #[.val (.long q1), .second] [(.long (((99 : Int64) * q1) + (99 : Int64)))])) _
    refine X0.ldc2Long hx hown (mvT hZ (hw _ (List.mem_of_getElem? (i := 6) rfl))) (g := (mkF m 9 #[.val (.long q1), .second] [(.long (((99 : Int64) * q1) + (99 : Int64)))])) rfl (hb hby d1_9) _ ?_
    show Steps p.tables e below (s₁.setTop (mkF m 12 #[.val (.long q1), .second] [(.long (100 : Int64)), (.long (((99 : Int64) * q1) + (99 : Int64)))])) _
    refine XS.ldiv X0.here hx rfl (hb hby d1_12) rfl (by decide) ?_
    show Steps p.tables e below (s₁.setTop (mkF m 13 #[.val (.long q1), .second] [(.long ((((99 : Int64) * q1) + (99 : Int64)) / (100 : Int64)))])) _
    exact retJ X0 hx Bd.returns (hb hby d1_13) hr
  · show Q_rm1 Z q1 h0 n0 _ s₁.heap _
    rw [e0]
    exact ⟨by rw [own_rank], N0, rfl⟩
theorem own_ushr_le (x : Int64) (s : UInt64) (h0 : 0 ≤ x.toInt) : 0 ≤ ((x.toUInt64 >>> s).toInt64).toInt ∧ ((x.toUInt64 >>> s).toInt64).toInt ≤ x.toInt := by
  have e : ((x.toUInt64 >>> s).toInt64).toBitVec.toNat ≤ x.toBitVec.toNat := by
    show (x.toUInt64 >>> s).toNat ≤ x.toUInt64.toNat
    rw [UInt64.toNat_shiftRight]
    exact Nat.shiftRight_le _ _
  have hx : x.toInt = (x.toBitVec.toNat : Int) := by
    have := BitVec.toInt_eq_toNat_cond x.toBitVec
    have l := x.toBitVec.isLt
    change x.toInt = _ at this
    rw [this] at h0 ⊢
    split at h0 <;> omega
  have hy := BitVec.toInt_eq_toNat_cond ((x.toUInt64 >>> s).toInt64).toBitVec
  change ((x.toUInt64 >>> s).toInt64).toInt = _ at hy
  have r := rng64 x
  rw [hy]
  split <;> omega
theorem own_bound {x y : Int64} {s : UInt64} (h : y = ((x &&& (72057594037927935 : Int64)).toUInt64 >>> s).toInt64) : 0 ≤ y.toInt ∧ y.toInt < 72057594037927936 := by
  have hm := c_maskL x (72057594037927935 : Int64) 56 (by decide) (by decide +kernel)
  have p : ((2 ^ 56 : Nat) : Int) = 72057594037927936 := by decide
  rw [p] at hm
  have b := own_ushr_le (x &&& (72057594037927935 : Int64)) s (by rw [hm]; omega)
  subst h
  omega
theorem own_facts {c : Int64} (h0 : 0 ≤ c.toInt) (h1 : c.toInt < 72057594037927936) :
    (¬ (lcmpW (own_rank c) (0 : Int64)) < (0 : Int32)) ∧ (¬ (0 : Int32) < (lcmpW (own_rank c) c)) ∧ ((lcmpW (own_rank c) (c - (c / (100 : Int64)))) = (0 : Int32)) ∧ (¬ (lcmpW ((100 : Int64) * (own_rank c)) ((99 : Int64) * c)) < (0 : Int32)) ∧ ((lcmpW ((100 : Int64) * ((own_rank c) - (1 : Int64))) ((99 : Int64) * c)) < (0 : Int32)) := by
  have k99 : (99 : Int64).toInt = 99 := by decide
  have k100 : (100 : Int64).toInt = 100 := by decide
  have k1 : (1 : Int64).toInt = 1 := by decide
  have k0 : (0 : Int64).toInt = 0 := by decide
  have r0 := c_lmul 99 c
  have q0 := rng64 ((99 : Int64) * c)
  rw [k99] at r0
  have m99 : ((99 : Int64) * c).toInt = 99 * c.toInt := by omega
  have r1 := c_ladd ((99 : Int64) * c) 99
  have q1 := rng64 ((99 : Int64) * c + 99)
  rw [k99, m99] at r1
  have a99 : ((99 : Int64) * c + 99).toInt = 99 * c.toInt + 99 := by omega
  have d := (c_ldiv ((99 : Int64) * c + 99) 100 100 k100 (by decide)).1 (by omega)
  rw [a99] at d
  have d2 := (c_ldiv c 100 100 k100 (by decide)).1 h0
  have er : own_rank c = ((99 : Int64) * c + 99) / 100 := rfl
  rw [← er] at d
  have r2 := c_lsub c (c / 100)
  have q2 := rng64 (c - c / 100)
  have s2 : (c - c / 100).toInt = c.toInt - c.toInt / 100 := by omega
  have r3 := c_lmul 100 (own_rank c)
  have q3 := rng64 ((100 : Int64) * own_rank c)
  rw [k100] at r3
  have s3 : ((100 : Int64) * own_rank c).toInt = 100 * (own_rank c).toInt := by omega
  have r4 := c_lsub (own_rank c) 1
  have q4 := rng64 (own_rank c - 1)
  rw [k1] at r4
  have s4 : (own_rank c - 1).toInt = (own_rank c).toInt - 1 := by omega
  have r5 := c_lmul 100 (own_rank c - 1)
  have q5 := rng64 ((100 : Int64) * (own_rank c - 1))
  rw [k100, s4] at r5
  have s5 : ((100 : Int64) * (own_rank c - 1)).toInt = 100 * ((own_rank c).toInt - 1) := by omega
  rw [lw_lt, lw_gt, lw_eq, lw_lt, lw_lt, ← Int64.toInt_inj, Int64.lt_iff_toInt_lt, Int64.lt_iff_toInt_lt, Int64.lt_iff_toInt_lt, Int64.lt_iff_toInt_lt]
  rw [k0, s2, s3, s5, m99]
  omega
theorem pd_0 : parseMethodDescriptor "(J)J" = some ⟨[.long], some .long⟩ := by decide +kernel
theorem pn_rm0 : plainName "nachbar/sim/SummaryP99RankPinLaw" = true := by first | (simp [plainName, overriddenIn]; done) | decide +kernel
theorem ef_rm0 (m : MethodId) (x0 : Int64) (x1 : Int32) : entryFrame m #[(.long x0), (.int x1)] maxLocals = mkF m 0 #[.val (.long x0), .second, .val (.int x1), .unset, .unset, .unset, .unset, .unset, .unset, .unset] [] := by first | (simp [entryFrame, mkF, argsToLocals, Value.category, maxLocals]; done) | rfl
def Q_rm0 (Z : State) (q1 : Int64) (p2 : Int32) (h0 : Heap) (n0 : Nat) (v : Option Value) (h : Heap) (L : List Loc) : Prop := v = some (.int 1) ∧ Fr n0 L
set_option maxRecDepth 65536 in
set_option maxHeartbeats 40000000 in
theorem rm0 (l : Launch) (Z : State) (a0 : Array Value) (hw : ∀ d ∈ tables_1, d.before a0 Z = true) (ws : List Jvm.Cond) (q1 : Int64) (p2 : Int32) (h0 : Heap) (n0 : Nat) (Z0 : n0 ≤ h0.size) :
    MetFree l x (head1 (Jvm.Cond.code x code maxLocals ret :: ws) room_1) (fun a U => a = #[(.long q1), (.int p2)] ∧ Z.Warmed39 U.vm ∧ U.heap = h0) (fun _ _ _ _ _ => True) (fun _ U o U' => ∃ v L, o = .returned v ∧ Q_rm0 Z q1 p2 h0 n0 v U'.heap L ∧ FrameEnd U o U' L room_1.cells room_1.slots) := by
  refine MetFree.of_bodySF (plainFor_of_name pn_rm0) hisR ?_
  intro p e s m args below meth c s₁ Bd hml0 hP hK
  obtain ⟨rfl, hZ, hh⟩ := hP
  have hx := Bd.exec
  have hby := Bd.bytes
  have hml : c.maxLocals = 10 := hml0
  have hown : s.vm.findClass "nachbar/sim/SummaryP99RankPinLaw" = some m.cls := findClass_of_methodNamed Bd.named
  have hnm := (name_of_methodNamed Bd.named Bd.method).1
  have X0 : Stand p l e room_1 s m #[(.long q1), (.int p2)] below meth c s₁ [] 0 0 := Stand.of_body Bd
  have e0 : s₁.heap = h0 := by rw [← hh, Bd.state]; rfl
  have N0 := Fr.nil n0
  have pre0 : ∀ t, Steps p.tables e below (s₁.setTop (mkF m 0 #[.val (.long q1), .second, .val (.int p2), .unset, .unset, .unset, .unset, .unset, .unset, .unset] [])) t → Steps p.tables e below (s₁.setTop (entryFrame m #[(.long q1), (.int p2)] maxLocals)) t := fun t k => castTop (ef_rm0 m q1 p2) k
  obtain ⟨y1, hy1⟩ : ∃ z : Int64, z = (((q1 &&& (72057594037927935 : Int64)).toUInt64 >>> ((p2 &&& (63 : Int32)) &&& 0x3f).toInt64.toUInt64).toInt64) := ⟨_, rfl⟩
  obtain ⟨hb0, hb1⟩ := own_bound hy1
  obtain ⟨_, _, ⟨T2, L2, k2, n2⟩, -, X2, ⟨Lc2, hQ2, l2, y2, z2⟩, st2⟩ := Jvm.LawKit.callS X0 hx (y := (⟨"nachbar/sim/Summary", "p99Rank", "(J)J"⟩ : MethodName)) hown (mvT hZ (hw _ (List.mem_of_getElem? (i := 1) rfl))) (mvT hZ (hw _ (List.mem_of_getElem? (i := 2) rfl))) (mvT hZ (hw _ (List.mem_of_getElem? (i := 3) rfl))) (mvT hZ (hw _ (List.mem_of_getElem? (i := 4) rfl))) (by decide) (backOf (W := 0) (rm1 l Z a0 hw [] y1 h0 n0 Z0) hZ (hw _ (List.mem_of_getElem? (i := 4) rfl)) (hw _ (List.mem_of_getElem? (i := 3) rfl)) (by decide) (by decide)) (g := (mkF m 12 #[.val (.long q1), .second, .val (.int p2), .val (.long y1), .second, .unset, .unset, .unset, .unset, .unset] [(.long y1)])) rfl (by rw [hml]; rfl) (argsL := [(.long y1)]) (rest := []) (lenOf pd_0 rfl) rfl (by show 2 * 0 + _ ≤ _; exact Nat.le_of_eq rfl) (hb hby at_12) (fun _ _ => ⟨rfl, e0, (by decide : 0 + 0 ≤ _), (by decide : 0 + 0 ≤ _)⟩)
  dsimp only [Pt.U, Pt.locs, Pt.cells, Pt.slots] at X2 l2 y2 z2 st2 hQ2
  subst l2 y2 z2
  obtain ⟨rfl, N2q, e2⟩ := hQ2
  have N2 := Fr.app N0 N2q
  obtain ⟨fs, hr, hrun, hended, hW, hsame⟩ := X2.leave (v := some (.int (1 : Int32))) (fun h => by rw [Bd.returns] at h; cases h)
  refine ⟨_, _, pre0 _ ?_, hrun, hended, _, _, rfl, ?_, ⟨_, rfl⟩, hW, hsame.mono (by decide) (by decide)⟩
  · show Steps p.tables e below (s₁.setTop (mkF m 0 #[.val (.long q1), .second, .val (.int p2), .unset, .unset, .unset, .unset, .unset, .unset, .unset] [])) _
    refine XS.lloadN X0.here hx rfl (hb hby at_0) rfl ?_
    show Steps p.tables e below (s₁.setTop (mkF m 1 #[.val (.long q1), .second, .val (.int p2), .unset, .unset, .unset, .unset, .unset, .unset, .unset] [(.long q1)])) _
    refine X0.ldc2Long hx hown (mvT hZ (hw _ (List.mem_of_getElem? (i := 0) rfl))) (g := (mkF m 1 #[.val (.long q1), .second, .val (.int p2), .unset, .unset, .unset, .unset, .unset, .unset, .unset] [(.long q1)])) rfl (hb hby at_1) _ ?_
    show Steps p.tables e below (s₁.setTop (mkF m 4 #[.val (.long q1), .second, .val (.int p2), .unset, .unset, .unset, .unset, .unset, .unset, .unset] [(.long (72057594037927935 : Int64)), (.long q1)])) _
    refine XS.land X0.here hx rfl (hb hby at_4) rfl ?_
    show Steps p.tables e below (s₁.setTop (mkF m 5 #[.val (.long q1), .second, .val (.int p2), .unset, .unset, .unset, .unset, .unset, .unset, .unset] [(.long (q1 &&& (72057594037927935 : Int64)))])) _
    refine XS.iloadN X0.here hx rfl (hb hby at_5) rfl ?_
    show Steps p.tables e below (s₁.setTop (mkF m 6 #[.val (.long q1), .second, .val (.int p2), .unset, .unset, .unset, .unset, .unset, .unset, .unset] [(.int p2), (.long (q1 &&& (72057594037927935 : Int64)))])) _
    refine XS.bipush X0.here hx rfl (hb hby at_6) ?_
    show Steps p.tables e below (s₁.setTop (mkF m 8 #[.val (.long q1), .second, .val (.int p2), .unset, .unset, .unset, .unset, .unset, .unset, .unset] [(.int (63 : Int32)), (.int p2), (.long (q1 &&& (72057594037927935 : Int64)))])) _
    refine XS.iand X0.here hx rfl (hb hby at_8) rfl ?_
    show Steps p.tables e below (s₁.setTop (mkF m 9 #[.val (.long q1), .second, .val (.int p2), .unset, .unset, .unset, .unset, .unset, .unset, .unset] [(.int (p2 &&& (63 : Int32))), (.long (q1 &&& (72057594037927935 : Int64)))])) _
    refine XS.lushr X0.here hx rfl (hb hby at_9) rfl ?_
    show Steps p.tables e below (s₁.setTop (mkF m 10 #[.val (.long q1), .second, .val (.int p2), .unset, .unset, .unset, .unset, .unset, .unset, .unset] [(.long (((q1 &&& (72057594037927935 : Int64)).toUInt64 >>> ((p2 &&& (63 : Int32)) &&& 0x3f).toInt64.toUInt64).toInt64))])) _
    rw [← hy1]
    refine XS.lstoreN X0.here hx rfl (hb hby at_10) rfl (l' := #[.val (.long q1), .second, .val (.int p2), .val (.long y1), .second, .unset, .unset, .unset, .unset, .unset]) rfl ?_
    show Steps p.tables e below (s₁.setTop (mkF m 11 #[.val (.long q1), .second, .val (.int p2), .val (.long y1), .second, .unset, .unset, .unset, .unset, .unset] [])) _
    refine XS.lloadN X0.here hx rfl (hb hby at_11) rfl ?_
    show Steps p.tables e below (s₁.setTop (mkF m 12 #[.val (.long q1), .second, .val (.int p2), .val (.long y1), .second, .unset, .unset, .unset, .unset, .unset] [(.long y1)])) _
    refine st2 _ ?_
    show Steps p.tables e below (T2.setTop (mkF m 15 #[.val (.long q1), .second, .val (.int p2), .val (.long y1), .second, .unset, .unset, .unset, .unset, .unset] [(.long (own_rank y1))])) _
    refine XS.lstore X2.here hx rfl (hb hby at_15) rfl (l' := #[.val (.long q1), .second, .val (.int p2), .val (.long y1), .second, .val (.long (own_rank y1)), .second, .unset, .unset, .unset]) rfl ?_
    show Steps p.tables e below (T2.setTop (mkF m 17 #[.val (.long q1), .second, .val (.int p2), .val (.long y1), .second, .val (.long (own_rank y1)), .second, .unset, .unset, .unset] [])) _
    refine XS.lload X2.here hx rfl (hb hby at_17) rfl ?_
    show Steps p.tables e below (T2.setTop (mkF m 19 #[.val (.long q1), .second, .val (.int p2), .val (.long y1), .second, .val (.long (own_rank y1)), .second, .unset, .unset, .unset] [(.long (own_rank y1))])) _
    refine XS.lconst X2.here hx rfl (hb hby at_19) ?_
    show Steps p.tables e below (T2.setTop (mkF m 20 #[.val (.long q1), .second, .val (.int p2), .val (.long y1), .second, .val (.long (own_rank y1)), .second, .unset, .unset, .unset] [(.long (0 : Int64)), (.long (own_rank y1))])) _
    refine XS.lcmp X2.here hx rfl (hb hby at_20) rfl ?_
    show Steps p.tables e below (T2.setTop (mkF m 21 #[.val (.long q1), .second, .val (.int p2), .val (.long y1), .second, .val (.long (own_rank y1)), .second, .unset, .unset, .unset] [(.int (lcmpW (own_rank y1) (0 : Int64)))])) _
    refine XS.ifNo X2.here hx rfl (hb hby at_21) rfl ((if0 _ _).trans (flt ((own_facts hb0 hb1).1 : ¬ ((lcmpW (own_rank y1) (0 : Int64)) < (0 : Int32)))).1) ?_
    show Steps p.tables e below (T2.setTop (mkF m 24 #[.val (.long q1), .second, .val (.int p2), .val (.long y1), .second, .val (.long (own_rank y1)), .second, .unset, .unset, .unset] [])) _
    refine XS.lload X2.here hx rfl (hb hby at_24) rfl ?_
    show Steps p.tables e below (T2.setTop (mkF m 26 #[.val (.long q1), .second, .val (.int p2), .val (.long y1), .second, .val (.long (own_rank y1)), .second, .unset, .unset, .unset] [(.long (own_rank y1))])) _
    refine XS.lloadN X2.here hx rfl (hb hby at_26) rfl ?_
    show Steps p.tables e below (T2.setTop (mkF m 27 #[.val (.long q1), .second, .val (.int p2), .val (.long y1), .second, .val (.long (own_rank y1)), .second, .unset, .unset, .unset] [(.long y1), (.long (own_rank y1))])) _
    refine XS.lcmp X2.here hx rfl (hb hby at_27) rfl ?_
    show Steps p.tables e below (T2.setTop (mkF m 28 #[.val (.long q1), .second, .val (.int p2), .val (.long y1), .second, .val (.long (own_rank y1)), .second, .unset, .unset, .unset] [(.int (lcmpW (own_rank y1) y1))])) _
    refine XS.ifNo X2.here hx rfl (hb hby at_28) rfl ((if0 _ _).trans (flt ((own_facts hb0 hb1).2.1 : ¬ ((0 : Int32) < (lcmpW (own_rank y1) y1)))).2.2.1) ?_
    show Steps p.tables e below (T2.setTop (mkF m 31 #[.val (.long q1), .second, .val (.int p2), .val (.long y1), .second, .val (.long (own_rank y1)), .second, .unset, .unset, .unset] [])) _
    refine XS.iconst X2.here hx rfl (hb hby at_31) ?_
    show Steps p.tables e below (T2.setTop (mkF m 32 #[.val (.long q1), .second, .val (.int p2), .val (.long y1), .second, .val (.long (own_rank y1)), .second, .unset, .unset, .unset] [(.int (1 : Int32))])) _
    refine XS.goto X2.here hx rfl (pc0 := 32) (pc' := 36) rfl (hb hby at_32) (by decide) (by decide) ?_
    show Steps p.tables e below (T2.setTop (mkF m 36 #[.val (.long q1), .second, .val (.int p2), .val (.long y1), .second, .val (.long (own_rank y1)), .second, .unset, .unset, .unset] [(.int (1 : Int32))])) _
    refine XS.istore X2.here hx rfl (hb hby at_36) rfl (l' := #[.val (.long q1), .second, .val (.int p2), .val (.long y1), .second, .val (.long (own_rank y1)), .second, .val (.int (1 : Int32)), .unset, .unset]) rfl ?_
    show Steps p.tables e below (T2.setTop (mkF m 38 #[.val (.long q1), .second, .val (.int p2), .val (.long y1), .second, .val (.long (own_rank y1)), .second, .val (.int (1 : Int32)), .unset, .unset] [])) _
    refine XS.lload X2.here hx rfl (hb hby at_38) rfl ?_
    show Steps p.tables e below (T2.setTop (mkF m 40 #[.val (.long q1), .second, .val (.int p2), .val (.long y1), .second, .val (.long (own_rank y1)), .second, .val (.int (1 : Int32)), .unset, .unset] [(.long (own_rank y1))])) _
    refine XS.lloadN X2.here hx rfl (hb hby at_40) rfl ?_
    show Steps p.tables e below (T2.setTop (mkF m 41 #[.val (.long q1), .second, .val (.int p2), .val (.long y1), .second, .val (.long (own_rank y1)), .second, .val (.int (1 : Int32)), .unset, .unset] [(.long y1), (.long (own_rank y1))])) _
    refine XS.lloadN X2.here hx rfl (hb hby at_41) rfl ?_
    show Steps p.tables e below (T2.setTop (mkF m 42 #[.val (.long q1), .second, .val (.int p2), .val (.long y1), .second, .val (.long (own_rank y1)), .second, .val (.int (1 : Int32)), .unset, .unset] [(.long y1), (.long y1), (.long (own_rank y1))])) _
    refine X2.ldc2Long hx hown (mvT hZ (hw _ (List.mem_of_getElem? (i := 7) rfl))) (g := (mkF m 42 #[.val (.long q1), .second, .val (.int p2), .val (.long y1), .second, .val (.long (own_rank y1)), .second, .val (.int (1 : Int32)), .unset, .unset] [(.long y1), (.long y1), (.long (own_rank y1))])) rfl (hb hby at_42) _ ?_
    show Steps p.tables e below (T2.setTop (mkF m 45 #[.val (.long q1), .second, .val (.int p2), .val (.long y1), .second, .val (.long (own_rank y1)), .second, .val (.int (1 : Int32)), .unset, .unset] [(.long (100 : Int64)), (.long y1), (.long y1), (.long (own_rank y1))])) _
    refine XS.ldiv X2.here hx rfl (hb hby at_45) rfl (by decide) ?_
    show Steps p.tables e below (T2.setTop (mkF m 46 #[.val (.long q1), .second, .val (.int p2), .val (.long y1), .second, .val (.long (own_rank y1)), .second, .val (.int (1 : Int32)), .unset, .unset] [(.long (y1 / (100 : Int64))), (.long y1), (.long (own_rank y1))])) _
    refine XS.lsub X2.here hx rfl (hb hby at_46) rfl ?_
    show Steps p.tables e below (T2.setTop (mkF m 47 #[.val (.long q1), .second, .val (.int p2), .val (.long y1), .second, .val (.long (own_rank y1)), .second, .val (.int (1 : Int32)), .unset, .unset] [(.long (y1 - (y1 / (100 : Int64)))), (.long (own_rank y1))])) _
    refine XS.lcmp X2.here hx rfl (hb hby at_47) rfl ?_
    show Steps p.tables e below (T2.setTop (mkF m 48 #[.val (.long q1), .second, .val (.int p2), .val (.long y1), .second, .val (.long (own_rank y1)), .second, .val (.int (1 : Int32)), .unset, .unset] [(.int (lcmpW (own_rank y1) (y1 - (y1 / (100 : Int64)))))])) _
    refine XS.ifNo X2.here hx rfl (hb hby at_48) rfl ((if0 _ _).trans (teq ((own_facts hb0 hb1).2.2.1 : ((lcmpW (own_rank y1) (y1 - (y1 / (100 : Int64)))) = (0 : Int32)))).2) ?_
    show Steps p.tables e below (T2.setTop (mkF m 51 #[.val (.long q1), .second, .val (.int p2), .val (.long y1), .second, .val (.long (own_rank y1)), .second, .val (.int (1 : Int32)), .unset, .unset] [])) _
    refine XS.iconst X2.here hx rfl (hb hby at_51) ?_
    show Steps p.tables e below (T2.setTop (mkF m 52 #[.val (.long q1), .second, .val (.int p2), .val (.long y1), .second, .val (.long (own_rank y1)), .second, .val (.int (1 : Int32)), .unset, .unset] [(.int (1 : Int32))])) _
    refine XS.goto X2.here hx rfl (pc0 := 52) (pc' := 56) rfl (hb hby at_52) (by decide) (by decide) ?_
    show Steps p.tables e below (T2.setTop (mkF m 56 #[.val (.long q1), .second, .val (.int p2), .val (.long y1), .second, .val (.long (own_rank y1)), .second, .val (.int (1 : Int32)), .unset, .unset] [(.int (1 : Int32))])) _
    refine XS.istore X2.here hx rfl (hb hby at_56) rfl (l' := #[.val (.long q1), .second, .val (.int p2), .val (.long y1), .second, .val (.long (own_rank y1)), .second, .val (.int (1 : Int32)), .val (.int (1 : Int32)), .unset]) rfl ?_
    show Steps p.tables e below (T2.setTop (mkF m 58 #[.val (.long q1), .second, .val (.int p2), .val (.long y1), .second, .val (.long (own_rank y1)), .second, .val (.int (1 : Int32)), .val (.int (1 : Int32)), .unset] [])) _
    refine XS.iload X2.here hx rfl (hb hby at_58) rfl ?_
    show Steps p.tables e below (T2.setTop (mkF m 60 #[.val (.long q1), .second, .val (.int p2), .val (.long y1), .second, .val (.long (own_rank y1)), .second, .val (.int (1 : Int32)), .val (.int (1 : Int32)), .unset] [(.int (1 : Int32))])) _
    refine XS.ifNo X2.here hx rfl (hb hby at_60) rfl ((if0 _ _).trans (feq (by decide : ¬ ((1 : Int32) = (0 : Int32)))).1) ?_
    show Steps p.tables e below (T2.setTop (mkF m 63 #[.val (.long q1), .second, .val (.int p2), .val (.long y1), .second, .val (.long (own_rank y1)), .second, .val (.int (1 : Int32)), .val (.int (1 : Int32)), .unset] [])) _
    refine X2.ldc2Long hx hown (mvT hZ (hw _ (List.mem_of_getElem? (i := 7) rfl))) (g := (mkF m 63 #[.val (.long q1), .second, .val (.int p2), .val (.long y1), .second, .val (.long (own_rank y1)), .second, .val (.int (1 : Int32)), .val (.int (1 : Int32)), .unset] [])) rfl (hb hby at_63) _ ?_
    show Steps p.tables e below (T2.setTop (mkF m 66 #[.val (.long q1), .second, .val (.int p2), .val (.long y1), .second, .val (.long (own_rank y1)), .second, .val (.int (1 : Int32)), .val (.int (1 : Int32)), .unset] [(.long (100 : Int64))])) _
    refine XS.lload X2.here hx rfl (hb hby at_66) rfl ?_
    show Steps p.tables e below (T2.setTop (mkF m 68 #[.val (.long q1), .second, .val (.int p2), .val (.long y1), .second, .val (.long (own_rank y1)), .second, .val (.int (1 : Int32)), .val (.int (1 : Int32)), .unset] [(.long (own_rank y1)), (.long (100 : Int64))])) _
    refine XS.lmul X2.here hx rfl (hb hby at_68) rfl ?_
    show Steps p.tables e below (T2.setTop (mkF m 69 #[.val (.long q1), .second, .val (.int p2), .val (.long y1), .second, .val (.long (own_rank y1)), .second, .val (.int (1 : Int32)), .val (.int (1 : Int32)), .unset] [(.long ((100 : Int64) * (own_rank y1)))])) _
    refine X2.ldc2Long hx hown (mvT hZ (hw _ (List.mem_of_getElem? (i := 8) rfl))) (g := (mkF m 69 #[.val (.long q1), .second, .val (.int p2), .val (.long y1), .second, .val (.long (own_rank y1)), .second, .val (.int (1 : Int32)), .val (.int (1 : Int32)), .unset] [(.long ((100 : Int64) * (own_rank y1)))])) rfl (hb hby at_69) _ ?_
    show Steps p.tables e below (T2.setTop (mkF m 72 #[.val (.long q1), .second, .val (.int p2), .val (.long y1), .second, .val (.long (own_rank y1)), .second, .val (.int (1 : Int32)), .val (.int (1 : Int32)), .unset] [(.long (99 : Int64)), (.long ((100 : Int64) * (own_rank y1)))])) _
    refine XS.lloadN X2.here hx rfl (hb hby at_72) rfl ?_
    show Steps p.tables e below (T2.setTop (mkF m 73 #[.val (.long q1), .second, .val (.int p2), .val (.long y1), .second, .val (.long (own_rank y1)), .second, .val (.int (1 : Int32)), .val (.int (1 : Int32)), .unset] [(.long y1), (.long (99 : Int64)), (.long ((100 : Int64) * (own_rank y1)))])) _
    refine XS.lmul X2.here hx rfl (hb hby at_73) rfl ?_
    show Steps p.tables e below (T2.setTop (mkF m 74 #[.val (.long q1), .second, .val (.int p2), .val (.long y1), .second, .val (.long (own_rank y1)), .second, .val (.int (1 : Int32)), .val (.int (1 : Int32)), .unset] [(.long ((99 : Int64) * y1)), (.long ((100 : Int64) * (own_rank y1)))])) _
    refine XS.lcmp X2.here hx rfl (hb hby at_74) rfl ?_
    show Steps p.tables e below (T2.setTop (mkF m 75 #[.val (.long q1), .second, .val (.int p2), .val (.long y1), .second, .val (.long (own_rank y1)), .second, .val (.int (1 : Int32)), .val (.int (1 : Int32)), .unset] [(.int (lcmpW ((100 : Int64) * (own_rank y1)) ((99 : Int64) * y1)))])) _
    refine XS.ifNo X2.here hx rfl (hb hby at_75) rfl ((if0 _ _).trans (flt ((own_facts hb0 hb1).2.2.2.1 : ¬ ((lcmpW ((100 : Int64) * (own_rank y1)) ((99 : Int64) * y1)) < (0 : Int32)))).1) ?_
    show Steps p.tables e below (T2.setTop (mkF m 78 #[.val (.long q1), .second, .val (.int p2), .val (.long y1), .second, .val (.long (own_rank y1)), .second, .val (.int (1 : Int32)), .val (.int (1 : Int32)), .unset] [])) _
    refine X2.ldc2Long hx hown (mvT hZ (hw _ (List.mem_of_getElem? (i := 7) rfl))) (g := (mkF m 78 #[.val (.long q1), .second, .val (.int p2), .val (.long y1), .second, .val (.long (own_rank y1)), .second, .val (.int (1 : Int32)), .val (.int (1 : Int32)), .unset] [])) rfl (hb hby at_78) _ ?_
    show Steps p.tables e below (T2.setTop (mkF m 81 #[.val (.long q1), .second, .val (.int p2), .val (.long y1), .second, .val (.long (own_rank y1)), .second, .val (.int (1 : Int32)), .val (.int (1 : Int32)), .unset] [(.long (100 : Int64))])) _
    refine XS.lload X2.here hx rfl (hb hby at_81) rfl ?_
    show Steps p.tables e below (T2.setTop (mkF m 83 #[.val (.long q1), .second, .val (.int p2), .val (.long y1), .second, .val (.long (own_rank y1)), .second, .val (.int (1 : Int32)), .val (.int (1 : Int32)), .unset] [(.long (own_rank y1)), (.long (100 : Int64))])) _
    refine XS.lconst X2.here hx rfl (hb hby at_83) ?_
    show Steps p.tables e below (T2.setTop (mkF m 84 #[.val (.long q1), .second, .val (.int p2), .val (.long y1), .second, .val (.long (own_rank y1)), .second, .val (.int (1 : Int32)), .val (.int (1 : Int32)), .unset] [(.long (1 : Int64)), (.long (own_rank y1)), (.long (100 : Int64))])) _
    refine XS.lsub X2.here hx rfl (hb hby at_84) rfl ?_
    show Steps p.tables e below (T2.setTop (mkF m 85 #[.val (.long q1), .second, .val (.int p2), .val (.long y1), .second, .val (.long (own_rank y1)), .second, .val (.int (1 : Int32)), .val (.int (1 : Int32)), .unset] [(.long ((own_rank y1) - (1 : Int64))), (.long (100 : Int64))])) _
    refine XS.lmul X2.here hx rfl (hb hby at_85) rfl ?_
    show Steps p.tables e below (T2.setTop (mkF m 86 #[.val (.long q1), .second, .val (.int p2), .val (.long y1), .second, .val (.long (own_rank y1)), .second, .val (.int (1 : Int32)), .val (.int (1 : Int32)), .unset] [(.long ((100 : Int64) * ((own_rank y1) - (1 : Int64))))])) _
    refine X2.ldc2Long hx hown (mvT hZ (hw _ (List.mem_of_getElem? (i := 8) rfl))) (g := (mkF m 86 #[.val (.long q1), .second, .val (.int p2), .val (.long y1), .second, .val (.long (own_rank y1)), .second, .val (.int (1 : Int32)), .val (.int (1 : Int32)), .unset] [(.long ((100 : Int64) * ((own_rank y1) - (1 : Int64))))])) rfl (hb hby at_86) _ ?_
    show Steps p.tables e below (T2.setTop (mkF m 89 #[.val (.long q1), .second, .val (.int p2), .val (.long y1), .second, .val (.long (own_rank y1)), .second, .val (.int (1 : Int32)), .val (.int (1 : Int32)), .unset] [(.long (99 : Int64)), (.long ((100 : Int64) * ((own_rank y1) - (1 : Int64))))])) _
    refine XS.lloadN X2.here hx rfl (hb hby at_89) rfl ?_
    show Steps p.tables e below (T2.setTop (mkF m 90 #[.val (.long q1), .second, .val (.int p2), .val (.long y1), .second, .val (.long (own_rank y1)), .second, .val (.int (1 : Int32)), .val (.int (1 : Int32)), .unset] [(.long y1), (.long (99 : Int64)), (.long ((100 : Int64) * ((own_rank y1) - (1 : Int64))))])) _
    refine XS.lmul X2.here hx rfl (hb hby at_90) rfl ?_
    show Steps p.tables e below (T2.setTop (mkF m 91 #[.val (.long q1), .second, .val (.int p2), .val (.long y1), .second, .val (.long (own_rank y1)), .second, .val (.int (1 : Int32)), .val (.int (1 : Int32)), .unset] [(.long ((99 : Int64) * y1)), (.long ((100 : Int64) * ((own_rank y1) - (1 : Int64))))])) _
    refine XS.lcmp X2.here hx rfl (hb hby at_91) rfl ?_
    show Steps p.tables e below (T2.setTop (mkF m 92 #[.val (.long q1), .second, .val (.int p2), .val (.long y1), .second, .val (.long (own_rank y1)), .second, .val (.int (1 : Int32)), .val (.int (1 : Int32)), .unset] [(.int (lcmpW ((100 : Int64) * ((own_rank y1) - (1 : Int64))) ((99 : Int64) * y1)))])) _
    refine XS.ifNo X2.here hx rfl (hb hby at_92) rfl ((if0 _ _).trans (tlt ((own_facts hb0 hb1).2.2.2.2 : ((lcmpW ((100 : Int64) * ((own_rank y1) - (1 : Int64))) ((99 : Int64) * y1)) < (0 : Int32)))).2.1) ?_
    show Steps p.tables e below (T2.setTop (mkF m 95 #[.val (.long q1), .second, .val (.int p2), .val (.long y1), .second, .val (.long (own_rank y1)), .second, .val (.int (1 : Int32)), .val (.int (1 : Int32)), .unset] [])) _
    refine XS.iconst X2.here hx rfl (hb hby at_95) ?_
    show Steps p.tables e below (T2.setTop (mkF m 96 #[.val (.long q1), .second, .val (.int p2), .val (.long y1), .second, .val (.long (own_rank y1)), .second, .val (.int (1 : Int32)), .val (.int (1 : Int32)), .unset] [(.int (1 : Int32))])) _
    refine XS.goto X2.here hx rfl (pc0 := 96) (pc' := 100) rfl (hb hby at_96) (by decide) (by decide) ?_
    show Steps p.tables e below (T2.setTop (mkF m 100 #[.val (.long q1), .second, .val (.int p2), .val (.long y1), .second, .val (.long (own_rank y1)), .second, .val (.int (1 : Int32)), .val (.int (1 : Int32)), .unset] [(.int (1 : Int32))])) _
    refine XS.istore X2.here hx rfl (hb hby at_100) rfl (l' := #[.val (.long q1), .second, .val (.int p2), .val (.long y1), .second, .val (.long (own_rank y1)), .second, .val (.int (1 : Int32)), .val (.int (1 : Int32)), .val (.int (1 : Int32))]) rfl ?_
    show Steps p.tables e below (T2.setTop (mkF m 102 #[.val (.long q1), .second, .val (.int p2), .val (.long y1), .second, .val (.long (own_rank y1)), .second, .val (.int (1 : Int32)), .val (.int (1 : Int32)), .val (.int (1 : Int32))] [])) _
    refine XS.iload X2.here hx rfl (hb hby at_102) rfl ?_
    show Steps p.tables e below (T2.setTop (mkF m 104 #[.val (.long q1), .second, .val (.int p2), .val (.long y1), .second, .val (.long (own_rank y1)), .second, .val (.int (1 : Int32)), .val (.int (1 : Int32)), .val (.int (1 : Int32))] [(.int (1 : Int32))])) _
    refine XS.ifNo X2.here hx rfl (hb hby at_104) rfl ((if0 _ _).trans (feq (by decide : ¬ ((1 : Int32) = (0 : Int32)))).1) ?_
    show Steps p.tables e below (T2.setTop (mkF m 107 #[.val (.long q1), .second, .val (.int p2), .val (.long y1), .second, .val (.long (own_rank y1)), .second, .val (.int (1 : Int32)), .val (.int (1 : Int32)), .val (.int (1 : Int32))] [])) _
    refine XS.iload X2.here hx rfl (hb hby at_107) rfl ?_
    show Steps p.tables e below (T2.setTop (mkF m 109 #[.val (.long q1), .second, .val (.int p2), .val (.long y1), .second, .val (.long (own_rank y1)), .second, .val (.int (1 : Int32)), .val (.int (1 : Int32)), .val (.int (1 : Int32))] [(.int (1 : Int32))])) _
    refine XS.ifNo X2.here hx rfl (hb hby at_109) rfl ((if0 _ _).trans (feq (by decide : ¬ ((1 : Int32) = (0 : Int32)))).1) ?_
    show Steps p.tables e below (T2.setTop (mkF m 112 #[.val (.long q1), .second, .val (.int p2), .val (.long y1), .second, .val (.long (own_rank y1)), .second, .val (.int (1 : Int32)), .val (.int (1 : Int32)), .val (.int (1 : Int32))] [])) _
    refine XS.iload X2.here hx rfl (hb hby at_112) rfl ?_
    show Steps p.tables e below (T2.setTop (mkF m 114 #[.val (.long q1), .second, .val (.int p2), .val (.long y1), .second, .val (.long (own_rank y1)), .second, .val (.int (1 : Int32)), .val (.int (1 : Int32)), .val (.int (1 : Int32))] [(.int (1 : Int32))])) _
    refine XS.ifNo X2.here hx rfl (hb hby at_114) rfl ((if0 _ _).trans (feq (by decide : ¬ ((1 : Int32) = (0 : Int32)))).1) ?_
    show Steps p.tables e below (T2.setTop (mkF m 117 #[.val (.long q1), .second, .val (.int p2), .val (.long y1), .second, .val (.long (own_rank y1)), .second, .val (.int (1 : Int32)), .val (.int (1 : Int32)), .val (.int (1 : Int32))] [])) _
    refine XS.iconst X2.here hx rfl (hb hby at_117) ?_
    show Steps p.tables e below (T2.setTop (mkF m 118 #[.val (.long q1), .second, .val (.int p2), .val (.long y1), .second, .val (.long (own_rank y1)), .second, .val (.int (1 : Int32)), .val (.int (1 : Int32)), .val (.int (1 : Int32))] [(.int (1 : Int32))])) _
    refine XS.goto X2.here hx rfl (pc0 := 118) (pc' := 122) rfl (hb hby at_118) (by decide) (by decide) ?_
    show Steps p.tables e below (T2.setTop (mkF m 122 #[.val (.long q1), .second, .val (.int p2), .val (.long y1), .second, .val (.long (own_rank y1)), .second, .val (.int (1 : Int32)), .val (.int (1 : Int32)), .val (.int (1 : Int32))] [(.int (1 : Int32))])) _
    exact retN X2 hx (t := .boolean) Bd.returns (by simp) (hb hby at_122) hr
  · show Q_rm0 Z q1 p2 h0 n0 _ T2.heap _
    rw [e2]
    exact ⟨rfl, N2⟩
set_option maxRecDepth 65536 in
set_option maxHeartbeats 40000000 in
theorem comes_1 {Post : Tables → Env → Array Value → State → Outcome → State → Prop} (hpost : ∀ tb e args s v u, (limb_1_1.after args s (.returned v) u = true ∧ limb_1_2.after args s (.returned v) u = true ∧ True) → FrameEnd s (.returned v) u (Jvm.fieldLocs frame_1_writes args s ++ Jvm.arrayLocs frame_1_arrays args s ++ Jvm.staticLocs frame_1_statics s) 0 0 → Post tb e args s (.returned v) u) :
    ArmFor flags0 classFile x code maxLocals ret World_1 tables_1 room_1 Calls_1 rest_1 Pre_1 Post := by
  intro l hfl _ _ p e ha hc hk s m args below hf hA hF happ hP
  obtain ⟨hcalls, hrest, hpre⟩ := hP
  obtain ⟨-, -, -, hnamed, -, -, -, hat⟩ := (Spec.applies_iff hf).mp happ
  obtain ⟨hg, hn⟩ := and_e (Cond.before_iff.mp (show (Jvm.Cond.and given_1 narrow_1).before args s = true from hpre))
  obtain ⟨g0, gr0⟩ := and_e hg
  obtain ⟨ga0, gr1⟩ := and_e gr0
  obtain ⟨w0, w1, rfl⟩ : ∃ w0 w1 : Value, args = #[w0, w1] := by
    have hs : args.size = 2 := by simpa [Cond.value, given_1] using g0
    obtain ⟨L⟩ := args
    match L, hs with
    | [w0, w1], _ => exact ⟨w0, w1, rfl⟩
  have hw := fun d (hd : d ∈ tables_1) => atoms_spec (ws := Jvm.Cond.code x code maxLocals ret :: tables_1) hat d (List.mem_cons_of_mem _ hd)
  have hfit : Fit s := fun {y c} hc i hi => by
    obtain ⟨ha, rfl⟩ := Array.getElem?_eq_some_iff.mp hc
    have q := List.all_eq_true.mp ((Array.all_eq_true_iff_forall_mem.mp hF) _ (Array.getElem_mem ha)) i (List.mem_range.mpr hi)
    simpa [Array.getElem?_eq_getElem hi] using q
  obtain ⟨i0, ei0⟩ := isL_v ga0
  obtain rfl : w0 = (.long i0) := Option.some.inj ei0
  obtain ⟨i1, ei1⟩ := is_v gr1
  obtain rfl : w1 = (.int i1) := Option.some.inj ei1
  obtain ⟨n, o, h1, h2, h3, _, L, rfl, ⟨rfl, N⟩, hq⟩ := rm0 l s _ hw tables_1 i0 i1 s.heap s.heap.size (Nat.le_refl _) p e ha hc hk s m _ below hf ((Spec.applies_iff_loose hf).mp happ).1 ⟨rfl, State.Warmed39.refl s, rfl⟩ trivial
  refine ⟨n, _, h1, h2, h3, hpost _ _ _ _ _ _ ⟨Cond.after_iff.mpr rfl, Cond.after_iff.mpr (eq_i res_at (Term.int_eval (1)) rfl), trivial⟩ ⟨hq.1, hq.2.1, (hq.2.2.sift fun y hy => Or.inr (N y hy)).mono (by decide) (by decide)⟩⟩
theorem main_1_1 : Claimed_1_1 := comes_1 fun _ _ _ _ _ _ h hF => ⟨h.1, hF⟩
theorem main_1_2 : Claimed_1_2 := comes_1 fun _ _ _ _ _ _ h hF => ⟨h.2.1, hF⟩
end Jvm.Pilot.@@N@@
namespace Jvm.Pilot.@@N@@
open Jvm Jvm.ClassFile Sem Op Lib Jvm.Free Jvm.Stand Jvm.Pilot.@@N@@.Jvm.D
/-! MADE BY PROGRAM (witnessworld.py) out of the Statement's table words and the real class files: 10 classes; the members and pool entries that the words name. The judged class is class 1, her method 1. -/
namespace start1
open Jvm.ClassFile
def u (s : String) : CpInfo := .utf8 (stringToUtf16 s)
/-- a pool by its gaps: so many unusable entries, then the entry; so many at the end -/
def gap : Nat → List CpInfo → List CpInfo
  | 0, r => r
  | n + 1, r => .unusable :: gap n r
def poolList (es : List (Nat × CpInfo)) (last : Nat) : List CpInfo := es.foldr (fun e r => gap e.1 (e.2 :: r)) (gap last [])
def pool (es : List (Nat × CpInfo)) (last : Nat) : Array CpInfo := ⟨poolList es last⟩
def fileOf (pool : Array CpInfo) (this : Nat) (attrs : Array Attribute := #[]) (ms : Array MethodInfo := #[]) (fl : Nat := 33) (sup : Nat := 0) (ifs : Array Nat := #[]) (fds : Array FieldInfo := #[]) : ClassFile where
  minorVersion := 0
  majorVersion := 65
  constantPool := pool
  accessFlags := fl
  thisClass := this
  superClass := sup
  interfaces := ifs
  fields := fds
  methods := ms
  attributes := attrs
def plain (name : String) (sup : Option ClassId) : Class where
  name := name
  kind := .ordinary
  loader := none
  accessFlags := 33
  super := sup
  interfaces := #[]
  cf := none
  fields := #[]
  methods := #[]
  instanceTypes := #[]
  staticTypes := #[]
  resolved := #[]
  callSites := []
  init := .initialized
  statics := none
  mirror := none

def pool0 : Array CpInfo := pool [(5, u "<init>"), (0, u "()V"), (1, .class_ 10), (1, u "java/lang/Object")] 113

def k0m0 : Method := { name := "<init>", desc := "()V", sig := { parameters := [], returnType := none }, accessFlags := 1, code := none }
/-- java/lang/Object -/
def k0 : Class := { plain "java/lang/Object" none with
  accessFlags := 33
  interfaces := #[]
  cf := some (fileOf pool0 8 #[] #[{ accessFlags := 1, nameIndex := 5, descriptorIndex := 6, attributes := #[] }] 33 0 #[] #[])
  fields := #[]
  methods := #[k0m0]
  instanceTypes := #[]
  staticTypes := #[]
  resolved := Array.replicate 124 none
  statics := none }

def pool1 : Array CpInfo := pool [(2, .class_ 4), (1, u "java/lang/Object"), (0, u "<init>"), (0, u "()V"), (0, .long 72057594037927935), (1, .methodref 10 11), (0, .class_ 12), (0, .nameAndType 13 14), (0, u "nachbar/sim/Summary"), (0, u "p99Rank"), (0, u "(J)J"), (0, .long 100), (1, .long 99), (1, .class_ 20), (0, u "nachbar/sim/SummaryP99RankPinLaw"), (2, u "law"), (0, u "(JI)Z")] 3

def k1m0 : Method := { name := "<init>", desc := "()V", sig := { parameters := [], returnType := none }, accessFlags := 1, code := none }
def k1c1 : Code := { maxStack := 8, maxLocals := 10, code := code, exceptionTable := #[], attributes := #[] }
def k1m1 : Method := { name := "law", desc := "(JI)Z", sig := { parameters := [.long, .int], returnType := some .boolean }, accessFlags := 9, code := some k1c1 }
/-- nachbar/sim/SummaryP99RankPinLaw -/
def k1 : Class := { plain "nachbar/sim/SummaryP99RankPinLaw" (some 0) with
  accessFlags := 49
  interfaces := #[]
  cf := some (fileOf pool1 19 #[] #[{ accessFlags := 1, nameIndex := 5, descriptorIndex := 6, attributes := #[] }, { accessFlags := 9, nameIndex := 23, descriptorIndex := 24, attributes := #[] }] 49 2 #[] #[])
  fields := #[]
  methods := #[k1m0, k1m1]
  instanceTypes := #[]
  staticTypes := #[]
  resolved := Array.replicate 28 none
  statics := none }

def pool2 : Array CpInfo := pool [(2, .class_ 4), (1, u "java/lang/Object"), (0, u "<init>"), (0, u "()V"), (0, .class_ 8), (0, u "java/lang/Record")] 13

def k2m0 : Method := { name := "<init>", desc := "()V", sig := { parameters := [], returnType := none }, accessFlags := 4, code := none }
/-- java/lang/Record -/
def k2 : Class := { plain "java/lang/Record" (some 0) with
  accessFlags := 1057
  interfaces := #[]
  cf := some (fileOf pool2 7 #[] #[{ accessFlags := 4, nameIndex := 5, descriptorIndex := 6, attributes := #[] }] 1057 2 #[] #[])
  fields := #[]
  methods := #[k2m0]
  instanceTypes := #[]
  staticTypes := #[]
  resolved := Array.replicate 22 none
  statics := none }

def pool3 : Array CpInfo := pool [(2, .class_ 4), (1, u "java/lang/Record"), (3, .class_ 10), (1, u "nachbar/sim/Summary"), (0, u "count"), (0, u "J"), (2, u "sum"), (2, u "p99"), (2, u "max"), (16, .long 99), (1, .long 100), (18, u "p99Rank"), (0, u "(J)J")] 27

def k3c0 : Code := { maxStack := 4, maxLocals := 2, code := prog_144_method_4_code, exceptionTable := #[], attributes := #[] }
def k3m0 : Method := { name := "p99Rank", desc := "(J)J", sig := { parameters := [.long], returnType := some .long }, accessFlags := 8, code := some k3c0 }
/-- nachbar/sim/Summary -/
def k3 : Class := { plain "nachbar/sim/Summary" (some 2) with
  accessFlags := 49
  interfaces := #[]
  cf := some (fileOf pool3 8 #[] #[{ accessFlags := 8, nameIndex := 59, descriptorIndex := 60, attributes := #[] }] 49 2 #[] #[{ accessFlags := 18, nameIndex := 11, descriptorIndex := 12, attributes := #[] }, { accessFlags := 18, nameIndex := 15, descriptorIndex := 12, attributes := #[] }, { accessFlags := 18, nameIndex := 18, descriptorIndex := 12, attributes := #[] }, { accessFlags := 18, nameIndex := 21, descriptorIndex := 12, attributes := #[] }])
  fields := #[{ name := "count", type := .long, accessFlags := 18, slot := 0, constantValue := 0 }, { name := "sum", type := .long, accessFlags := 18, slot := 1, constantValue := 0 }, { name := "p99", type := .long, accessFlags := 18, slot := 2, constantValue := 0 }, { name := "max", type := .long, accessFlags := 18, slot := 3, constantValue := 0 }]
  methods := #[k3m0]
  instanceTypes := #[.long, .long, .long, .long]
  staticTypes := #[]
  resolved := Array.replicate 88 none
  statics := none }

def pool4 : Array CpInfo := pool [(1, u "java/lang/Cloneable"), (0, .class_ 1), (0, u "java/lang/Object"), (0, .class_ 3)] 3

/-- java/lang/Cloneable -/
def k4 : Class := { plain "java/lang/Cloneable" (some 0) with
  accessFlags := 1537
  interfaces := #[]
  cf := some (fileOf pool4 2 #[] #[] 1537 4 #[] #[])
  fields := #[]
  methods := #[]
  instanceTypes := #[]
  staticTypes := #[]
  resolved := Array.replicate 8 none
  statics := none }

def pool5 : Array CpInfo := pool [(1, u "java/io/Serializable"), (0, .class_ 1), (0, u "java/lang/Object"), (0, .class_ 3)] 3

/-- java/io/Serializable -/
def k5 : Class := { plain "java/io/Serializable" (some 0) with
  accessFlags := 1537
  interfaces := #[]
  cf := some (fileOf pool5 2 #[] #[] 1537 4 #[] #[])
  fields := #[]
  methods := #[]
  instanceTypes := #[]
  staticTypes := #[]
  resolved := Array.replicate 8 none
  statics := none }

/-- the primitive byte -/
def k6 : Class := { plain "byte" none with kind := .primitive 'B', accessFlags := 0x411 }
/-- [B -/
def k7 : Class := { plain "[B" (some 0) with kind := .array 6 .byte, interfaces := #[4, 5], accessFlags := 1041 }

/-- the primitive int -/
def k8 : Class := { plain "int" none with kind := .primitive 'I', accessFlags := 0x411 }
/-- [I -/
def k9 : Class := { plain "[I" (some 0) with kind := .array 8 .int, interfaces := #[4, 5], accessFlags := 1041 }

def heap : Heap := #[]
def classes : Array Class := #[k0, k1, k2, k3, k4, k5, k6, k7, k8, k9]
def interned : List (Array UInt16 × Addr) := []
def slotsUsed : Nat := 0
def theMethod : MethodId := ⟨1, 1⟩
def args0 : Array Value := #[.long 5, .int 3]
def aboutOver (below : List Frame) : State where
  vm := { classes := classes, interned := interned.toArray }
  heap := heap
  slotsUsed := slotsUsed
  threads := #[{ frames := .invoking theMethod args0 :: below }]
def below0 : List Frame := [.native { method := ⟨0, 0⟩, args := #[] }]
def about1 : State := aboutOver below0
def p0 : Program := .bare "" "" ""
def e0 : Env := launch0.env 0 0 0
theorem w_frames : about1.frames = Frame.invoking theMethod args0 :: below0 := rfl
set_option maxRecDepth 65536 in
theorem w_args : argsFit about1.vm theMethod args0 = true := by decide +kernel
set_option maxRecDepth 65536 in
theorem w_heap : heapFits about1 = true := by decide +kernel
set_option maxRecDepth 65536 in
theorem w_runnable : about1.curStatus? = some .runnable := by decide +kernel
set_option maxRecDepth 65536 in
theorem w_alone : about1.alone = true := by decide +kernel
set_option maxRecDepth 65536 in
theorem w_named : about1.methodNamed? x = some theMethod := by decide +kernel
set_option maxRecDepth 65536 in
theorem w_hears : about1.hears theMethod below0 = true := by decide +kernel
set_option maxRecDepth 65536 in
theorem w_ripe : about1.ripe theMethod args0 below0 = true := by decide +kernel
theorem w_running : about1.status = .running := rfl
set_option maxRecDepth 65536 in
theorem w_room : about1.hasRoom e0.platform room_1 = true :=
  launch0.hasRoom_least _ room_1 (by decide +kernel) (by decide +kernel) (by decide +kernel) (by decide +kernel) (by decide +kernel) (by decide +kernel)
theorem allAtoms_all (ts : List Jvm.Cond) (a : Array Jvm.Value) (st : Jvm.State) : (allAtoms ts).before a st = ts.all (fun c => c.before a st) := by
  induction ts with
  | nil => rfl
  | cons c t ih =>
    show (Jvm.Cond.and c (allAtoms t)).before a st = _
    rw [Jvm.Cond.before_and, ih, List.all_cons]
def words1 : List Jvm.Cond := Jvm.Cond.code x code maxLocals ret :: tables_1
/-- a 'code' word, met by the world's own term for the bytes: nothing is compared byte by byte -/
theorem code_word {y : MethodName} {bytes : ByteArray} {mx : Nat} {rt : Option FieldType} {a : Array Value} {s : State} {m : MethodId} {meth : Method} {c : Code} (h1 : s.methodNamed? y = some m) (h2 : s.vm.method? m = some meth) (h3 : meth.code = some c) (h4 : c.code = bytes)
    (h5 : (c.maxLocals == mx && c.exceptionTable.isEmpty && decide (c.maxStack ≤ mostOperands) && decide (meth.sig.returnType = rt) && !meth.locks && decide (parseMethodDescriptor y.desc = some meth.sig)) = true) : (Jvm.Cond.code y bytes mx rt).before a s = true := by
  simp only [Bool.and_eq_true, beq_iff_eq, Bool.not_eq_true', decide_eq_true_eq] at h5
  obtain ⟨⟨⟨⟨⟨g1, g2⟩, g3⟩, g4⟩, g5⟩, g6⟩ := h5
  simp [Cond.before, Cond.holds, Cond.value, h1, h2, h3, h4, g1, g2, g3, g4, g5, g6]
def isCode : Jvm.Cond → Bool
  | .code _ _ _ _ => true
  | _ => false
theorem all_split {L : List Jvm.Cond} {P : Jvm.Cond → Bool} (h1 : L.all (fun c => isCode c || P c) = true) (h2 : ∀ c ∈ L.filter isCode, P c = true) : L.all P = true := by
  refine List.all_eq_true.mpr fun c hc => ?_
  have h := List.all_eq_true.mp h1 c hc
  rcases Bool.eq_false_or_eq_true (isCode c) with hi | hi
  · exact h2 c (List.mem_filter.mpr ⟨hc, hi⟩)
  · simpa [hi] using h
set_option maxRecDepth 65536 in
theorem w_c0 : (Jvm.Cond.code x code maxLocals ret).before args0 about1 = true := code_word (m := ⟨1, 1⟩) (meth := k1m1) (c := k1c1) (by decide +kernel) rfl rfl rfl (by decide +kernel)
set_option maxRecDepth 65536 in
theorem w_c1 : (Jvm.Cond.code ({ cls := "nachbar/sim/Summary", name := "p99Rank", desc := "(J)J" } : Jvm.MethodName) prog_144_method_4_code (2 : Nat) (Option.some Jvm.ClassFile.FieldType.long)).before args0 about1 = true := code_word (m := ⟨3, 0⟩) (meth := k3m0) (c := k3c0) (by decide +kernel) rfl rfl rfl (by decide +kernel)
def codes1 : List Jvm.Cond := [Jvm.Cond.code x code maxLocals ret, Jvm.Cond.code ({ cls := "nachbar/sim/Summary", name := "p99Rank", desc := "(J)J" } : Jvm.MethodName) prog_144_method_4_code (2 : Nat) (Option.some Jvm.ClassFile.FieldType.long)]
set_option maxRecDepth 65536 in
theorem codes_eq : words1.filter isCode = codes1 := rfl
theorem w_codes : ∀ c ∈ words1.filter isCode, c.before args0 about1 = true := by
  rw [codes_eq]
  intro c hc
  simp only [codes1, List.mem_cons, List.not_mem_nil, or_false] at hc
  rcases hc with rfl | rfl
  · exact w_c0
  · exact w_c1
set_option maxRecDepth 65536 in
theorem w_t1 : words1.all (fun c => isCode c || c.before args0 about1) = true := by decide +kernel
theorem w_tables : (allAtoms (Jvm.Cond.code x code maxLocals ret :: tables_1)).before args0 about1 = true := by
  rw [allAtoms_all]
  show words1.all (fun c => c.before args0 about1) = true
  refine all_split ?_ w_codes
  rw [w_t1]
set_option maxRecDepth 65536 in
theorem w_case : (Jvm.Cond.and given_1 narrow_1).before args0 about1 = true := by decide +kernel
theorem w_applies : (headSpec (Jvm.Cond.code x code maxLocals ret :: tables_1) room_1).applies x e0.platform about1 = true :=
  (Spec.applies_iff w_frames).mpr ⟨w_running, w_runnable, w_alone, w_named, w_hears, w_ripe, w_room, w_tables⟩
theorem atStart : AtStart classFile x code maxLocals ret World_1 tables_1 room_1 Calls_1 rest_1 Pre_1 launch0 p0 e0 about1 theMethod args0 below0 :=
  ⟨lists_1, trivial, launch0.admits_env _ _ _, launch0.least_env, fairChoices_fair.cas, fairChoices_fair.clock, w_frames, w_args, w_heap, w_applies, trivial, trivial, w_case⟩
end start1
theorem witness_1 : WitnessClaimed_1 := ⟨start1.p0, start1.e0, start1.about1, start1.theMethod, start1.args0, start1.below0, start1.atStart⟩
end Jvm.Pilot.@@N@@
