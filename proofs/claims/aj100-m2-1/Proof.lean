import JvmDerived
import JvmDerived.Pilot.@@N@@Statement
import JvmDerived.Pilot.@@N@@Code
set_option linter.unusedVariables false
set_option linter.unusedSimpArgs false
namespace Jvm.RoadKit
open Sem ClassFile Op Lib Jvm.Stand Jvm.Free Jvm.LawKit
section New
variable {p : Program} {l : Launch} {e : Env} {R : Room} {s : State} {m : MethodId} {args : Array Value} {below : List Frame} {meth : Method} {c : Code} {T : State} {locs : List Loc} {cells slots : Nat}
theorem retI (X : Stand p l e R s m args below meth c T locs cells slots) (hx : p.tables.exec = Jvm.exec) {pc : Nat} {Ls : Array Slot} {z : Int32} {rest : List Value} (hret : meth.sig.returnType = some .int) (hd : decode c.code pc = .ok (.ireturn, 1)) {fs : List Frame}
    (hl : ∀ (f : JFrame) (acts : List Action), f.method = m → f.locked = none → f.entered = [] → (doReturn e (T.setTop f) acts (some (.int z))).1 = T.setFrames fs) : Steps p.tables e below (T.setTop (mkF m pc Ls (.int z :: rest))) (T.setFrames fs) := by
  have hm' : T.vm.method? m = some meth := X.method'
  have hn : narrow .int (.int z) = .int z := rfl
  show Steps p.tables e below (T.setTop { method := m, pc := pc, locals := Ls, stack := _ :: rest, locked := none }) _
  jvm_step X.here [X.here.top, hx, hd, hm', hret, hn]
  first | (intro acts; rw [hl _ acts rfl rfl rfl]) | rw [hl _ _ rfl rfl rfl]
  exact Steps.refl _
theorem retJ (X : Stand p l e R s m args below meth c T locs cells slots) (hx : p.tables.exec = Jvm.exec) {pc : Nat} {Ls : Array Slot} {z : Int64} {rest : List Value} (hret : meth.sig.returnType = some .long) (hd : decode c.code pc = .ok (.lreturn, 1)) {fs : List Frame}
    (hl : ∀ (f : JFrame) (acts : List Action), f.method = m → f.locked = none → f.entered = [] → (doReturn e (T.setTop f) acts (some (.long z))).1 = T.setFrames fs) : Steps p.tables e below (T.setTop (mkF m pc Ls (.long z :: rest))) (T.setFrames fs) := by
  have hm' : T.vm.method? m = some meth := X.method'
  have hn : narrow .long (.long z) = .long z := rfl
  show Steps p.tables e below (T.setTop { method := m, pc := pc, locals := Ls, stack := _ :: rest, locked := none }) _
  jvm_step X.here [X.here.top, hx, hd, hm', hret, hn]
  first | (intro acts; rw [hl _ acts rfl rfl rfl]) | rw [hl _ _ rfl rfl rfl]
  exact Steps.refl _
end New
end Jvm.RoadKit
namespace Jvm.Pilot.@@N@@
open Jvm Jvm.ClassFile Sem Op Lib Jvm.Free Jvm.Stand Jvm.LawKit Jvm.RoadKit Bundle Jvm.Pilot.@@N@@.Jvm.D
theorem pd_0 : parseMethodDescriptor "(D)D" = some ⟨[.double], some .double⟩ := by decide +kernel
theorem d1_0 : decode prog_152_method_16_code 0 = .ok (.dload_n 0, 1) := by decide +kernel
theorem d1_1 : decode prog_152_method_16_code 1 = .ok (.dconst 0, 1) := by decide +kernel
theorem d1_2 : decode prog_152_method_16_code 2 = .ok (.dcmp .l, 1) := by decide +kernel
theorem d1_3 : decode prog_152_method_16_code 3 = .ok (.ifCond .lt 9, 3) := by decide +kernel
theorem d1_6 : decode prog_152_method_16_code 6 = .ok (.dload_n 0, 1) := by decide +kernel
theorem d1_7 : decode prog_152_method_16_code 7 = .ok (.dconst 1, 1) := by decide +kernel
theorem d1_8 : decode prog_152_method_16_code 8 = .ok (.dcmp .g, 1) := by decide +kernel
theorem d1_9 : decode prog_152_method_16_code 9 = .ok (.ifCond .lt 17, 3) := by decide +kernel
theorem d1_26 : decode prog_152_method_16_code 26 = .ok (.dload_n 0, 1) := by decide +kernel
theorem d1_27 : decode prog_152_method_16_code 27 = .ok (.dreturn, 1) := by decide +kernel
theorem pn_rm1 : plainName "nachbar/sim/VirtualNetwork" = true := by first | (simp [plainName, overriddenIn]; done) | decide +kernel
theorem ef_rm1 (m : MethodId) (x0 : UInt64) : entryFrame m #[(.double x0)] 2 = mkF m 0 #[.val (.double x0), .second] [] := by first | (simp [entryFrame, mkF, argsToLocals, Value.category]; done) | rfl
def Q_rm1 (Z : State) (d1 : UInt64) (h0 : Heap) (n0 : Nat) (v : Option Value) (h : Heap) (L : List Loc) : Prop := v = some (.double d1) ∧ Fr n0 L ∧ h = h0
set_option maxRecDepth 65536 in
set_option maxHeartbeats 40000000 in
theorem rm1 (l : Launch) (Z : State) (a0 : Array Value) (hw : ∀ d ∈ tables_1, d.before a0 Z = true) (ws : List Jvm.Cond) (d1 : UInt64) (h0 : Heap) (n0 : Nat) (Z0 : n0 ≤ h0.size) (hge : ¬ (cmpValue (FP.dcmp d1 FP.dconst0) .l) < (0 : Int32)) (hlt : (cmpValue (FP.dcmp d1 FP.dconst1) .g) < (0 : Int32)) :
    MetFree l (⟨"nachbar/sim/VirtualNetwork", "checkLoss", "(D)D"⟩ : MethodName) (head1 (Jvm.Cond.code (⟨"nachbar/sim/VirtualNetwork", "checkLoss", "(D)D"⟩ : MethodName) prog_152_method_16_code 2 (some .double) :: ws) ({ frames := 0, cells := 0, slots := 0, locals := 0 } : Room)) (fun a U => a = #[(.double d1)] ∧ Z.Warmed39 U.vm ∧ U.heap = h0) (fun _ _ _ _ _ => True) (fun _ U o U' => ∃ v L, o = .returned v ∧ Q_rm1 Z d1 h0 n0 v U'.heap L ∧ FrameEnd U o U' L ({ frames := 0, cells := 0, slots := 0, locals := 0 } : Room).cells ({ frames := 0, cells := 0, slots := 0, locals := 0 } : Room).slots) := by
  refine MetFree.of_bodySF (plainFor_of_name pn_rm1) hisR ?_
  intro p e s m args below meth c s₁ Bd hml0 hP hK
  obtain ⟨rfl, hZ, hh⟩ := hP
  have hx := Bd.exec
  have hby := Bd.bytes
  have hml : c.maxLocals = 2 := hml0
  have hown : s.vm.findClass "nachbar/sim/VirtualNetwork" = some m.cls := findClass_of_methodNamed Bd.named
  have hnm := (name_of_methodNamed Bd.named Bd.method).1
  have X0 : Stand p l e ({ frames := 0, cells := 0, slots := 0, locals := 0 } : Room) s m #[(.double d1)] below meth c s₁ [] 0 0 := Stand.of_body Bd
  have e0 : s₁.heap = h0 := by rw [← hh, Bd.state]; rfl
  have N0 := Fr.nil n0
  have pre0 : ∀ t, Steps p.tables e below (s₁.setTop (mkF m 0 #[.val (.double d1), .second] [])) t → Steps p.tables e below (s₁.setTop (entryFrame m #[(.double d1)] 2)) t := fun t k => castTop (ef_rm1 m d1) k
  obtain ⟨fs, hr, hrun, hended, hW, hsame⟩ := X0.leave (v := some (.double d1)) (fun h => by rw [Bd.returns] at h; cases h)
  refine ⟨_, _, pre0 _ ?_, hrun, hended, _, _, rfl, ?_, ⟨_, rfl⟩, hW, hsame.mono (by decide) (by decide)⟩
  · show Steps p.tables e below (s₁.setTop (mkF m 0 #[.val (.double d1), .second] [])) _
    refine XS.dloadN X0.here hx rfl (hb hby d1_0) rfl ?_
    show Steps p.tables e below (s₁.setTop (mkF m 1 #[.val (.double d1), .second] [(.double d1)])) _
    refine XS.dconst0 X0.here hx rfl (hb hby d1_1) rfl ?_
    show Steps p.tables e below (s₁.setTop (mkF m 2 #[.val (.double d1), .second] [(.double FP.dconst0), (.double d1)])) _
    refine XS.dcmpS X0.here hx rfl (hb hby d1_2) rfl rfl ?_
    show Steps p.tables e below (s₁.setTop (mkF m 3 #[.val (.double d1), .second] [(.int (cmpValue (FP.dcmp d1 FP.dconst0) .l))])) _
    refine XS.ifNo X0.here hx rfl (hb hby d1_3) rfl ((if0 _ _).trans (flt (hge : ¬ ((cmpValue (FP.dcmp d1 FP.dconst0) .l) < (0 : Int32)))).1) ?_
    show Steps p.tables e below (s₁.setTop (mkF m 6 #[.val (.double d1), .second] [])) _
    refine XS.dloadN X0.here hx rfl (hb hby d1_6) rfl ?_
    show Steps p.tables e below (s₁.setTop (mkF m 7 #[.val (.double d1), .second] [(.double d1)])) _
    refine XS.dconst1 X0.here hx rfl (hb hby d1_7) rfl ?_
    show Steps p.tables e below (s₁.setTop (mkF m 8 #[.val (.double d1), .second] [(.double FP.dconst1), (.double d1)])) _
    refine XS.dcmpS X0.here hx rfl (hb hby d1_8) rfl rfl ?_
    show Steps p.tables e below (s₁.setTop (mkF m 9 #[.val (.double d1), .second] [(.int (cmpValue (FP.dcmp d1 FP.dconst1) .g))])) _
    refine XS.ifYes X0.here hx rfl (pc0 := 9) (pc' := 26) rfl (hb hby d1_9) rfl ((if0 _ _).trans (tlt (hlt : ((cmpValue (FP.dcmp d1 FP.dconst1) .g) < (0 : Int32)))).1) (by decide) (by decide) ?_
    show Steps p.tables e below (s₁.setTop (mkF m 26 #[.val (.double d1), .second] [])) _
    refine XS.dloadN X0.here hx rfl (hb hby d1_26) rfl ?_
    show Steps p.tables e below (s₁.setTop (mkF m 27 #[.val (.double d1), .second] [(.double d1)])) _
    exact retOut X0 hx (t := .double) Bd.returns rfl (Or.inr (Or.inr (Or.inl ⟨rfl, rfl, _, rfl⟩))) (hb hby d1_27) hr
  · show Q_rm1 Z d1 h0 n0 _ s₁.heap _
    rw [e0]
    exact ⟨rfl, N0, rfl⟩
def own_OK (d : UInt64) : Prop := Jvm.Free.Fl.NoNaN64 d ∧ (cmpValue (FP.dcmp d d) .l) = (0 : Int32) ∧ (¬ (cmpValue (FP.dcmp d FP.dconst0) .l) < (0 : Int32)) ∧ (cmpValue (FP.dcmp d FP.dconst1) .g) < (0 : Int32)
theorem own_neg0 : own_OK (9223372036854775808 : UInt64) := by unfold own_OK Jvm.Free.Fl.NoNaN64; decide +kernel
theorem own_k0 : own_OK (FP.ddiv (FP.l2d (0 : Int64)) (4845873199050653696 : UInt64)) := by unfold own_OK Jvm.Free.Fl.NoNaN64; decide +kernel
theorem own_kM : own_OK (FP.ddiv (FP.l2d (9007199254740991 : Int64)) (4845873199050653696 : UInt64)) := by unfold own_OK Jvm.Free.Fl.NoNaN64; decide +kernel
theorem own_kb {x y : Int64} (h : y = (x &&& (9007199254740991 : Int64))) : 0 ≤ y.toInt ∧ y.toInt < 9007199254740992 := by
  have hm := c_maskL x 9007199254740991 53 (by decide) (by decide +kernel)
  rw [show ((2 ^ 53 : Nat) : Int) = 9007199254740992 from by decide, ← h] at hm
  omega
open Jvm.FP.Core in
theorem own_val (k : Int64) (h0 : 0 < k.toInt) (h1 : k.toInt < 9007199254740992) : ∃ c m : Nat, val64 (Jvm.FP.Core.ddiv (Jvm.FP.Core.l2d k) 4845873199050653696) = .fin false c (-(m : Int) - 53) ∧ (c : Int) = k.toInt * ((2 ^ m : Nat) : Int) ∧ m ≤ 52 := by
  obtain ⟨c, q, hv⟩ := l2d_shape k
  rw [decide_eq_false (by omega)] at hv
  have hw := l2d_whole (a := k) ⟨by omega, by omega⟩
  have hf := val64_fits (Jvm.FP.Core.l2d k)
  rw [hv] at hw hf
  obtain ⟨f1, f2, f3, f4⟩ := hf
  have hp : (2 : Nat) ^ b64.p = 9007199254740992 := by decide +kernel
  have hqm : b64.qmin = -1074 := by decide +kernel
  have hqx : b64.qmax = 971 := by decide +kernel
  have ht : b64.tails = 4503599627370496 := by decide +kernel
  rw [hp] at f1
  rw [hqm] at f2 f4
  rw [ht] at f4
  rw [hqx] at f3
  have hw' : ((c * 2 ^ q.toNat : Nat) : Int) = k.toInt * ((2 ^ (-q).toNat : Nat) : Int) := hw
  have hq1 : -52 ≤ q := by
    refine Int.not_lt.mp fun hlt => ?_
    have e1 : q.toNat = 0 := by omega
    rw [e1, Nat.pow_zero, Nat.mul_one] at hw'
    have e2 : (2 : Nat) ^ 53 ≤ 2 ^ (-q).toNat := Nat.pow_le_pow_right (by decide) (by omega)
    have e3 : ((2 ^ (-q).toNat : Nat) : Int) ≤ k.toInt * ((2 ^ (-q).toNat : Nat) : Int) := by
      have := Int.mul_le_mul_of_nonneg_right (show (1 : Int) ≤ k.toInt by omega) (show (0 : Int) ≤ ((2 ^ (-q).toNat : Nat) : Int) by omega)
      rw [Int.one_mul] at this
      exact this
    have e4 : (2 : Nat) ^ 53 = 9007199254740992 := by decide
    omega
  have hc : 4503599627370496 ≤ c := by omega
  have hq0 : q ≤ 0 := by
    refine Int.not_lt.mp fun hlt => ?_
    have e1 : (-q).toNat = 0 := by omega
    rw [e1, Nat.pow_zero] at hw'
    have e2 : (2 : Nat) ^ 1 ≤ 2 ^ q.toNat := Nat.pow_le_pow_right (by decide) (by omega)
    have e3 : c * 2 ≤ c * 2 ^ q.toNat := Nat.mul_le_mul_left c (by simpa using e2)
    omega
  have e0 : q.toNat = 0 := by omega
  rw [e0, Nat.pow_zero, Nat.mul_one] at hw'
  refine ⟨c, (-q).toNat, ?_, hw', by omega⟩
  have hb : val64 4845873199050653696 = .fin false (2 ^ 52) 1 := by decide +kernel
  rw [val64_ddiv, hv, hb]
  show (if (2 ^ 52 : Nat) = 0 then (if c = 0 then Datum.nan else Datum.inf false) else roundRatio b64 false c (2 ^ 52) (q - 1)) = _
  rw [if_neg (by decide), show (-((-q).toNat : Int) - 53) = q - 53 by omega]
  refine roundRatio_exact good_b64 (by decide) ⟨by rw [hp]; exact f1, by rw [hqm]; omega, by rw [hqx]; omega, Or.inr (by rw [ht]; exact hc)⟩ ?_
  rw [show (q - 1 - (q - 53)).toNat = 52 by omega, show (q - 53 - (q - 1)).toNat = 0 by omega, Nat.pow_zero, Nat.mul_one]
open Jvm.FP.Core in
theorem own_kf {k : Int64} (h0 : 0 ≤ k.toInt) (h1 : k.toInt < 9007199254740992) : own_OK (FP.ddiv (FP.l2d k) (4845873199050653696 : UInt64)) := by
  by_cases hk : k.toInt = 0
  · obtain rfl : k = 0 := Int64.toInt_inj.mp (hk.trans (by decide))
    exact own_k0
  obtain ⟨c, m, hv, hc, hm⟩ := own_val k (by omega) h1
  have hqm : b64.qmin = -1074 := by decide +kernel
  generalize hd : Jvm.FP.Core.ddiv (Jvm.FP.Core.l2d k) 4845873199050653696 = d at hv
  have hd' : FP.ddiv (FP.l2d k) (4845873199050653696 : UInt64) = d := hd
  rw [hd']
  have hn : val64 d ≠ .nan := by rw [hv]; exact Datum.noConfusion
  have hn0 : val64 Jvm.FP.Core.dconst0 ≠ .nan := by decide +kernel
  have hn1 : val64 Jvm.FP.Core.dconst1 ≠ .nan := by decide +kernel
  have z0 : zval b64 (val64 Jvm.FP.Core.dconst0) = 0 := by decide +kernel
  have z1 : zval b64 (val64 Jvm.FP.Core.dconst1) = ((2 ^ 1074 : Nat) : Int) := by decide +kernel
  have zd : zval b64 (val64 d) = ((c * 2 ^ (1021 - m) : Nat) : Int) := by
    rw [hv]
    show ((c * 2 ^ (-(m : Int) - 53 - b64.qmin).toNat : Nat) : Int) = _
    rw [hqm, show (-(m : Int) - 53 - -1074).toNat = 1021 - m by omega]
  have hcm : c = k.toInt.toNat * 2 ^ m := by
    have : (c : Int) = ((k.toInt.toNat * 2 ^ m : Nat) : Int) := by rw [hc, Int.natCast_mul, Int.toNat_of_nonneg h0]
    exact Int.ofNat.inj this
  have hlt : c * 2 ^ (1021 - m) < 2 ^ 1074 := by
    rw [hcm, Nat.mul_assoc, ← Nat.pow_add, show m + (1021 - m) = 1021 by omega, show 1074 = 53 + 1021 from rfl, Nat.pow_add]
    exact Nat.mul_lt_mul_of_pos_right (by have e4 : (2 : Nat) ^ 53 = 9007199254740992 := by decide
                                          omega) (Nat.two_pow_pos _)
  refine ⟨Jvm.Free.Fl.noNaN64_no.mpr (by cases hx : dIsNaN d with | false => rfl | true => exact absurd ((dIsNaN_iff d).mp hx) hn), ?_, ?_, ?_⟩
  · show cmpValue (Jvm.FP.Core.dcmp d d) .l = 0
    rw [dcmp_zval hn hn]
    have : compare (zval b64 (val64 d)) (zval b64 (val64 d)) = .eq := Int.compare_eq_eq.mpr rfl
    rw [this]; rfl
  · show ¬ cmpValue (Jvm.FP.Core.dcmp d Jvm.FP.Core.dconst0) .l < 0
    rw [dcmp_zval hn hn0, z0, zd]
    rcases hcp : compare ((c * 2 ^ (1021 - m) : Nat) : Int) 0 with _ | _ | _
    · exact absurd (Int.compare_eq_lt.mp hcp) (by omega)
    · exact (by decide)
    · exact (by decide)
  · show cmpValue (Jvm.FP.Core.dcmp d Jvm.FP.Core.dconst1) .g < 0
    rw [dcmp_zval hn hn1, z1, zd]
    have : compare ((c * 2 ^ (1021 - m) : Nat) : Int) ((2 ^ 1074 : Nat) : Int) = .lt := Int.compare_eq_lt.mpr (by omega)
    rw [this]; decide
theorem pn_rm0 : plainName "nachbar/sim/VirtualNetworkCheckLossPinLaw" = true := by first | (simp [plainName, overriddenIn]; done) | decide +kernel
theorem ef_rm0 (m : MethodId) (x0 : Int64) (x1 : Int32) : entryFrame m #[(.long x0), (.int x1)] maxLocals = mkF m 0 #[.val (.long x0), .second, .val (.int x1), .unset, .unset, .unset, .unset, .unset, .unset, .unset] [] := by first | (simp [entryFrame, mkF, argsToLocals, Value.category, maxLocals]; done) | rfl
def Q_rm0 (Z : State) (q1 : Int64) (p2 : Int32) (h0 : Heap) (n0 : Nat) (v : Option Value) (h : Heap) (L : List Loc) : Prop := v = some (.int 1) ∧ Fr n0 L
set_option maxRecDepth 65536 in
set_option maxHeartbeats 40000000 in
theorem rm0 (l : Launch) (Z : State) (a0 : Array Value) (hw : ∀ d ∈ tables_1, d.before a0 Z = true) (ws : List Jvm.Cond) (q1 : Int64) (p2 : Int32) (h0 : Heap) (n0 : Nat) (Z0 : n0 ≤ h0.size) :
    MetFree l x (head1 (Jvm.Cond.code x code maxLocals ret :: ws) room_1) (fun a U => a = #[(.long q1), (.int p2)] ∧ Z.Warmed39 U.vm ∧ U.heap = h0) (fun _ _ _ _ _ => True) (fun _ U o U' => ∃ v L, o = .returned v ∧ Q_rm0 Z q1 p2 h0 n0 v U'.heap L ∧ FrameEnd U o U' L room_1.cells room_1.slots) := by
  refine MetFree.of_bodySF (plainFor_of_name pn_rm0) hisR ?_
  intro p e s m args below meth c s₁ Bd hml0 hP hK
  obtain ⟨rfl, hZ, hh⟩ := hP
  have hx := Bd.exec
  have hby := Bd.bytes
  have hml : c.maxLocals = 10 := hml0
  have hown : s.vm.findClass "nachbar/sim/VirtualNetworkCheckLossPinLaw" = some m.cls := findClass_of_methodNamed Bd.named
  have hnm := (name_of_methodNamed Bd.named Bd.method).1
  have X0 : Stand p l e room_1 s m #[(.long q1), (.int p2)] below meth c s₁ [] 0 0 := Stand.of_body Bd
  have e0 : s₁.heap = h0 := by rw [← hh, Bd.state]; rfl
  have N0 := Fr.nil n0
  have pre0 : ∀ t, Steps p.tables e below (s₁.setTop (mkF m 0 #[.val (.long q1), .second, .val (.int p2), .unset, .unset, .unset, .unset, .unset, .unset, .unset] [])) t → Steps p.tables e below (s₁.setTop (entryFrame m #[(.long q1), (.int p2)] maxLocals)) t := fun t k => castTop (ef_rm0 m q1 p2) k
  obtain ⟨y1, hy1⟩ : ∃ z : Int64, z = (q1 &&& (9007199254740991 : Int64)) := ⟨_, rfl⟩
  have hkb := own_kb hy1
  have pre2 : ∀ t, Steps p.tables e below (s₁.setTop (mkF m 14 #[.val (.long q1), .second, .val (.int p2), .val (.long y1), .second, .val (.int (p2 &&& (3 : Int32))), .unset, .unset, .unset, .unset] [(.int (1 : Int32)), (.int (p2 &&& (3 : Int32)))])) t → Steps p.tables e below (s₁.setTop (entryFrame m #[(.long q1), (.int p2)] maxLocals)) t := by
    intro t k
    refine pre0 t ?_
    show Steps p.tables e below (s₁.setTop (mkF m 0 #[.val (.long q1), .second, .val (.int p2), .unset, .unset, .unset, .unset, .unset, .unset, .unset] [])) _
    refine XS.lloadN X0.here hx rfl (hb hby at_0) rfl ?_
    show Steps p.tables e below (s₁.setTop (mkF m 1 #[.val (.long q1), .second, .val (.int p2), .unset, .unset, .unset, .unset, .unset, .unset, .unset] [(.long q1)])) _
    refine X0.ldc2Long hx hown (mvT hZ (hw _ (List.mem_of_getElem? (i := 0) rfl))) (g := (mkF m 1 #[.val (.long q1), .second, .val (.int p2), .unset, .unset, .unset, .unset, .unset, .unset, .unset] [(.long q1)])) rfl (hb hby at_1) _ ?_
    show Steps p.tables e below (s₁.setTop (mkF m 4 #[.val (.long q1), .second, .val (.int p2), .unset, .unset, .unset, .unset, .unset, .unset, .unset] [(.long (9007199254740991 : Int64)), (.long q1)])) _
    refine XS.land X0.here hx rfl (hb hby at_4) rfl ?_
    show Steps p.tables e below (s₁.setTop (mkF m 5 #[.val (.long q1), .second, .val (.int p2), .unset, .unset, .unset, .unset, .unset, .unset, .unset] [(.long (q1 &&& (9007199254740991 : Int64)))])) _
    rw [← hy1]
    refine XS.lstoreN X0.here hx rfl (hb hby at_5) rfl (l' := #[.val (.long q1), .second, .val (.int p2), .val (.long y1), .second, .unset, .unset, .unset, .unset, .unset]) rfl ?_
    show Steps p.tables e below (s₁.setTop (mkF m 6 #[.val (.long q1), .second, .val (.int p2), .val (.long y1), .second, .unset, .unset, .unset, .unset, .unset] [])) _
    refine XS.iloadN X0.here hx rfl (hb hby at_6) rfl ?_
    show Steps p.tables e below (s₁.setTop (mkF m 7 #[.val (.long q1), .second, .val (.int p2), .val (.long y1), .second, .unset, .unset, .unset, .unset, .unset] [(.int p2)])) _
    refine XS.iconst X0.here hx rfl (hb hby at_7) ?_
    show Steps p.tables e below (s₁.setTop (mkF m 8 #[.val (.long q1), .second, .val (.int p2), .val (.long y1), .second, .unset, .unset, .unset, .unset, .unset] [(.int (3 : Int32)), (.int p2)])) _
    refine XS.iand X0.here hx rfl (hb hby at_8) rfl ?_
    show Steps p.tables e below (s₁.setTop (mkF m 9 #[.val (.long q1), .second, .val (.int p2), .val (.long y1), .second, .unset, .unset, .unset, .unset, .unset] [(.int (p2 &&& (3 : Int32)))])) _
    refine XS.istore X0.here hx rfl (hb hby at_9) rfl (l' := #[.val (.long q1), .second, .val (.int p2), .val (.long y1), .second, .val (.int (p2 &&& (3 : Int32))), .unset, .unset, .unset, .unset]) rfl ?_
    show Steps p.tables e below (s₁.setTop (mkF m 11 #[.val (.long q1), .second, .val (.int p2), .val (.long y1), .second, .val (.int (p2 &&& (3 : Int32))), .unset, .unset, .unset, .unset] [])) _
    refine XS.iload X0.here hx rfl (hb hby at_11) rfl ?_
    show Steps p.tables e below (s₁.setTop (mkF m 13 #[.val (.long q1), .second, .val (.int p2), .val (.long y1), .second, .val (.int (p2 &&& (3 : Int32))), .unset, .unset, .unset, .unset] [(.int (p2 &&& (3 : Int32)))])) _
    refine XS.iconst X0.here hx rfl (hb hby at_13) ?_
    exact k
  by_cases hc14_3 : (p2 &&& (3 : Int32)) = (1 : Int32)
  · obtain ⟨_, _, ⟨T4, L4, k4, n4⟩, -, X4, ⟨Lc4, hQ4, l4, y4, z4⟩, st4⟩ := Jvm.LawKit.callS X0 hx (y := (⟨"nachbar/sim/VirtualNetwork", "checkLoss", "(D)D"⟩ : MethodName)) hown (mvT hZ (hw _ (List.mem_of_getElem? (i := 2) rfl))) (mvT hZ (hw _ (List.mem_of_getElem? (i := 3) rfl))) (mvT hZ (hw _ (List.mem_of_getElem? (i := 4) rfl))) (mvT hZ (hw _ (List.mem_of_getElem? (i := 5) rfl))) (by decide) (backOf (W := 0) (rm1 l Z a0 hw [] (FP.ddiv (FP.l2d (0 : Int64)) (4845873199050653696 : UInt64)) h0 n0 Z0 (own_k0).2.2.1 (own_k0).2.2.2) hZ (hw _ (List.mem_of_getElem? (i := 5) rfl)) (hw _ (List.mem_of_getElem? (i := 4) rfl)) (by decide) (by decide)) (g := (mkF m 53 #[.val (.long q1), .second, .val (.int p2), .val (.long (0 : Int64)), .second, .val (.int (p2 &&& (3 : Int32))), .val (.double (FP.ddiv (FP.l2d (0 : Int64)) (4845873199050653696 : UInt64))), .second, .unset, .unset] [(.double (FP.ddiv (FP.l2d (0 : Int64)) (4845873199050653696 : UInt64)))])) rfl (by rw [hml]; rfl) (argsL := [(.double (FP.ddiv (FP.l2d (0 : Int64)) (4845873199050653696 : UInt64)))]) (rest := []) (lenOf pd_0 rfl) rfl (by show 2 * 0 + _ ≤ _; exact Nat.le_of_eq rfl) (hb hby at_53) (fun _ _ => ⟨rfl, e0, (by decide : 0 + 0 ≤ _), (by decide : 0 + 0 ≤ _)⟩)
    dsimp only [Pt.U, Pt.locs, Pt.cells, Pt.slots] at X4 l4 y4 z4 st4 hQ4
    subst l4 y4 z4
    obtain ⟨rfl, N4q, e4⟩ := hQ4
    have N4 := Fr.app N0 N4q
    obtain ⟨fs, hr, hrun, hended, hW, hsame⟩ := X4.leave (v := some (.int (1 : Int32))) (fun h => by rw [Bd.returns] at h; cases h)
    refine ⟨_, _, pre2 _ ?_, hrun, hended, _, _, rfl, ?_, ⟨_, rfl⟩, hW, hsame.mono (by decide) (by decide)⟩
    · show Steps p.tables e below (s₁.setTop (mkF m 14 #[.val (.long q1), .second, .val (.int p2), .val (.long y1), .second, .val (.int (p2 &&& (3 : Int32))), .unset, .unset, .unset, .unset] [(.int (1 : Int32)), (.int (p2 &&& (3 : Int32)))])) _
      refine XS.icmpNo X0.here hx rfl (hb hby at_14) rfl (teq hc14_3).2 ?_
      show Steps p.tables e below (s₁.setTop (mkF m 17 #[.val (.long q1), .second, .val (.int p2), .val (.long y1), .second, .val (.int (p2 &&& (3 : Int32))), .unset, .unset, .unset, .unset] [])) _
      refine XS.lconst X0.here hx rfl (hb hby at_17) ?_
      show Steps p.tables e below (s₁.setTop (mkF m 18 #[.val (.long q1), .second, .val (.int p2), .val (.long y1), .second, .val (.int (p2 &&& (3 : Int32))), .unset, .unset, .unset, .unset] [(.long (0 : Int64))])) _
      refine XS.lstoreN X0.here hx rfl (hb hby at_18) rfl (l' := #[.val (.long q1), .second, .val (.int p2), .val (.long (0 : Int64)), .second, .val (.int (p2 &&& (3 : Int32))), .unset, .unset, .unset, .unset]) rfl ?_
      show Steps p.tables e below (s₁.setTop (mkF m 19 #[.val (.long q1), .second, .val (.int p2), .val (.long (0 : Int64)), .second, .val (.int (p2 &&& (3 : Int32))), .unset, .unset, .unset, .unset] [])) _
      refine XS.goto X0.here hx rfl (pc0 := 19) (pc' := 32) rfl (hb hby at_19) (by decide) (by decide) ?_
      show Steps p.tables e below (s₁.setTop (mkF m 32 #[.val (.long q1), .second, .val (.int p2), .val (.long (0 : Int64)), .second, .val (.int (p2 &&& (3 : Int32))), .unset, .unset, .unset, .unset] [])) _
      refine XS.lloadN X0.here hx rfl (hb hby at_32) rfl ?_
      show Steps p.tables e below (s₁.setTop (mkF m 33 #[.val (.long q1), .second, .val (.int p2), .val (.long (0 : Int64)), .second, .val (.int (p2 &&& (3 : Int32))), .unset, .unset, .unset, .unset] [(.long (0 : Int64))])) _
      refine XS.l2dS X0.here hx rfl (hb hby at_33) rfl rfl ?_
      show Steps p.tables e below (s₁.setTop (mkF m 34 #[.val (.long q1), .second, .val (.int p2), .val (.long (0 : Int64)), .second, .val (.int (p2 &&& (3 : Int32))), .unset, .unset, .unset, .unset] [(.double (FP.l2d (0 : Int64)))])) _
      refine X0.ldc2DoubleC hx hown (mvT hZ (hw _ (List.mem_of_getElem? (i := 1) rfl))) (g := (mkF m 34 #[.val (.long q1), .second, .val (.int p2), .val (.long (0 : Int64)), .second, .val (.int (p2 &&& (3 : Int32))), .unset, .unset, .unset, .unset] [(.double (FP.l2d (0 : Int64)))])) rfl (hb hby at_34) _ ?_
      show Steps p.tables e below (s₁.setTop (mkF m 37 #[.val (.long q1), .second, .val (.int p2), .val (.long (0 : Int64)), .second, .val (.int (p2 &&& (3 : Int32))), .unset, .unset, .unset, .unset] [(.double (4845873199050653696 : UInt64)), (.double (FP.l2d (0 : Int64)))])) _
      refine XS.ddivS X0.here hx rfl (hb hby at_37) rfl (own_k0).1 (v := (FP.ddiv (FP.l2d (0 : Int64)) (4845873199050653696 : UInt64))) rfl ?_
      show Steps p.tables e below (s₁.setTop (mkF m 38 #[.val (.long q1), .second, .val (.int p2), .val (.long (0 : Int64)), .second, .val (.int (p2 &&& (3 : Int32))), .unset, .unset, .unset, .unset] [(.double (FP.ddiv (FP.l2d (0 : Int64)) (4845873199050653696 : UInt64)))])) _
      refine XS.dstore X0.here hx rfl (hb hby at_38) rfl (l' := #[.val (.long q1), .second, .val (.int p2), .val (.long (0 : Int64)), .second, .val (.int (p2 &&& (3 : Int32))), .val (.double (FP.ddiv (FP.l2d (0 : Int64)) (4845873199050653696 : UInt64))), .second, .unset, .unset]) rfl ?_
      show Steps p.tables e below (s₁.setTop (mkF m 40 #[.val (.long q1), .second, .val (.int p2), .val (.long (0 : Int64)), .second, .val (.int (p2 &&& (3 : Int32))), .val (.double (FP.ddiv (FP.l2d (0 : Int64)) (4845873199050653696 : UInt64))), .second, .unset, .unset] [])) _
      refine XS.iload X0.here hx rfl (hb hby at_40) rfl ?_
      show Steps p.tables e below (s₁.setTop (mkF m 42 #[.val (.long q1), .second, .val (.int p2), .val (.long (0 : Int64)), .second, .val (.int (p2 &&& (3 : Int32))), .val (.double (FP.ddiv (FP.l2d (0 : Int64)) (4845873199050653696 : UInt64))), .second, .unset, .unset] [(.int (p2 &&& (3 : Int32)))])) _
      refine XS.iconst X0.here hx rfl (hb hby at_42) ?_
      show Steps p.tables e below (s₁.setTop (mkF m 43 #[.val (.long q1), .second, .val (.int p2), .val (.long (0 : Int64)), .second, .val (.int (p2 &&& (3 : Int32))), .val (.double (FP.ddiv (FP.l2d (0 : Int64)) (4845873199050653696 : UInt64))), .second, .unset, .unset] [(.int (3 : Int32)), (.int (p2 &&& (3 : Int32)))])) _
      refine XS.icmpYes X0.here hx rfl (pc0 := 43) (pc' := 51) rfl (hb hby at_43) rfl (feq ((fun q => absurd (hc14_3.symm.trans q) (by decide)) : ¬ ((p2 &&& (3 : Int32)) = (3 : Int32)))).2 (by decide) (by decide) ?_
      show Steps p.tables e below (s₁.setTop (mkF m 51 #[.val (.long q1), .second, .val (.int p2), .val (.long (0 : Int64)), .second, .val (.int (p2 &&& (3 : Int32))), .val (.double (FP.ddiv (FP.l2d (0 : Int64)) (4845873199050653696 : UInt64))), .second, .unset, .unset] [])) _
      refine XS.dload X0.here hx rfl (hb hby at_51) rfl ?_
      show Steps p.tables e below (s₁.setTop (mkF m 53 #[.val (.long q1), .second, .val (.int p2), .val (.long (0 : Int64)), .second, .val (.int (p2 &&& (3 : Int32))), .val (.double (FP.ddiv (FP.l2d (0 : Int64)) (4845873199050653696 : UInt64))), .second, .unset, .unset] [(.double (FP.ddiv (FP.l2d (0 : Int64)) (4845873199050653696 : UInt64)))])) _
      refine st4 _ ?_
      show Steps p.tables e below (T4.setTop (mkF m 56 #[.val (.long q1), .second, .val (.int p2), .val (.long (0 : Int64)), .second, .val (.int (p2 &&& (3 : Int32))), .val (.double (FP.ddiv (FP.l2d (0 : Int64)) (4845873199050653696 : UInt64))), .second, .unset, .unset] [(.double (FP.ddiv (FP.l2d (0 : Int64)) (4845873199050653696 : UInt64)))])) _
      refine XS.dstore X4.here hx rfl (hb hby at_56) rfl (l' := #[.val (.long q1), .second, .val (.int p2), .val (.long (0 : Int64)), .second, .val (.int (p2 &&& (3 : Int32))), .val (.double (FP.ddiv (FP.l2d (0 : Int64)) (4845873199050653696 : UInt64))), .second, .val (.double (FP.ddiv (FP.l2d (0 : Int64)) (4845873199050653696 : UInt64))), .second]) rfl ?_
      show Steps p.tables e below (T4.setTop (mkF m 58 #[.val (.long q1), .second, .val (.int p2), .val (.long (0 : Int64)), .second, .val (.int (p2 &&& (3 : Int32))), .val (.double (FP.ddiv (FP.l2d (0 : Int64)) (4845873199050653696 : UInt64))), .second, .val (.double (FP.ddiv (FP.l2d (0 : Int64)) (4845873199050653696 : UInt64))), .second] [])) _
      refine XS.dload X4.here hx rfl (hb hby at_58) rfl ?_
      show Steps p.tables e below (T4.setTop (mkF m 60 #[.val (.long q1), .second, .val (.int p2), .val (.long (0 : Int64)), .second, .val (.int (p2 &&& (3 : Int32))), .val (.double (FP.ddiv (FP.l2d (0 : Int64)) (4845873199050653696 : UInt64))), .second, .val (.double (FP.ddiv (FP.l2d (0 : Int64)) (4845873199050653696 : UInt64))), .second] [(.double (FP.ddiv (FP.l2d (0 : Int64)) (4845873199050653696 : UInt64)))])) _
      refine XS.dload X4.here hx rfl (hb hby at_60) rfl ?_
      show Steps p.tables e below (T4.setTop (mkF m 62 #[.val (.long q1), .second, .val (.int p2), .val (.long (0 : Int64)), .second, .val (.int (p2 &&& (3 : Int32))), .val (.double (FP.ddiv (FP.l2d (0 : Int64)) (4845873199050653696 : UInt64))), .second, .val (.double (FP.ddiv (FP.l2d (0 : Int64)) (4845873199050653696 : UInt64))), .second] [(.double (FP.ddiv (FP.l2d (0 : Int64)) (4845873199050653696 : UInt64))), (.double (FP.ddiv (FP.l2d (0 : Int64)) (4845873199050653696 : UInt64)))])) _
      refine XS.dcmpS X4.here hx rfl (hb hby at_62) rfl rfl ?_
      show Steps p.tables e below (T4.setTop (mkF m 63 #[.val (.long q1), .second, .val (.int p2), .val (.long (0 : Int64)), .second, .val (.int (p2 &&& (3 : Int32))), .val (.double (FP.ddiv (FP.l2d (0 : Int64)) (4845873199050653696 : UInt64))), .second, .val (.double (FP.ddiv (FP.l2d (0 : Int64)) (4845873199050653696 : UInt64))), .second] [(.int (cmpValue (FP.dcmp (FP.ddiv (FP.l2d (0 : Int64)) (4845873199050653696 : UInt64)) (FP.ddiv (FP.l2d (0 : Int64)) (4845873199050653696 : UInt64))) .l))])) _
      refine XS.ifNo X4.here hx rfl (hb hby at_63) rfl ((if0 _ _).trans (teq ((own_k0).2.1 : ((cmpValue (FP.dcmp (FP.ddiv (FP.l2d (0 : Int64)) (4845873199050653696 : UInt64)) (FP.ddiv (FP.l2d (0 : Int64)) (4845873199050653696 : UInt64))) .l) = (0 : Int32)))).2) ?_
      show Steps p.tables e below (T4.setTop (mkF m 66 #[.val (.long q1), .second, .val (.int p2), .val (.long (0 : Int64)), .second, .val (.int (p2 &&& (3 : Int32))), .val (.double (FP.ddiv (FP.l2d (0 : Int64)) (4845873199050653696 : UInt64))), .second, .val (.double (FP.ddiv (FP.l2d (0 : Int64)) (4845873199050653696 : UInt64))), .second] [])) _
      refine XS.dload X4.here hx rfl (hb hby at_66) rfl ?_
      show Steps p.tables e below (T4.setTop (mkF m 68 #[.val (.long q1), .second, .val (.int p2), .val (.long (0 : Int64)), .second, .val (.int (p2 &&& (3 : Int32))), .val (.double (FP.ddiv (FP.l2d (0 : Int64)) (4845873199050653696 : UInt64))), .second, .val (.double (FP.ddiv (FP.l2d (0 : Int64)) (4845873199050653696 : UInt64))), .second] [(.double (FP.ddiv (FP.l2d (0 : Int64)) (4845873199050653696 : UInt64)))])) _
      refine XS.dconst0 X4.here hx rfl (hb hby at_68) rfl ?_
      show Steps p.tables e below (T4.setTop (mkF m 69 #[.val (.long q1), .second, .val (.int p2), .val (.long (0 : Int64)), .second, .val (.int (p2 &&& (3 : Int32))), .val (.double (FP.ddiv (FP.l2d (0 : Int64)) (4845873199050653696 : UInt64))), .second, .val (.double (FP.ddiv (FP.l2d (0 : Int64)) (4845873199050653696 : UInt64))), .second] [(.double FP.dconst0), (.double (FP.ddiv (FP.l2d (0 : Int64)) (4845873199050653696 : UInt64)))])) _
      refine XS.dcmpS X4.here hx rfl (hb hby at_69) rfl rfl ?_
      show Steps p.tables e below (T4.setTop (mkF m 70 #[.val (.long q1), .second, .val (.int p2), .val (.long (0 : Int64)), .second, .val (.int (p2 &&& (3 : Int32))), .val (.double (FP.ddiv (FP.l2d (0 : Int64)) (4845873199050653696 : UInt64))), .second, .val (.double (FP.ddiv (FP.l2d (0 : Int64)) (4845873199050653696 : UInt64))), .second] [(.int (cmpValue (FP.dcmp (FP.ddiv (FP.l2d (0 : Int64)) (4845873199050653696 : UInt64)) FP.dconst0) .l))])) _
      refine XS.ifNo X4.here hx rfl (hb hby at_70) rfl ((if0 _ _).trans (flt ((own_k0).2.2.1 : ¬ ((cmpValue (FP.dcmp (FP.ddiv (FP.l2d (0 : Int64)) (4845873199050653696 : UInt64)) FP.dconst0) .l) < (0 : Int32)))).1) ?_
      show Steps p.tables e below (T4.setTop (mkF m 73 #[.val (.long q1), .second, .val (.int p2), .val (.long (0 : Int64)), .second, .val (.int (p2 &&& (3 : Int32))), .val (.double (FP.ddiv (FP.l2d (0 : Int64)) (4845873199050653696 : UInt64))), .second, .val (.double (FP.ddiv (FP.l2d (0 : Int64)) (4845873199050653696 : UInt64))), .second] [])) _
      refine XS.dload X4.here hx rfl (hb hby at_73) rfl ?_
      show Steps p.tables e below (T4.setTop (mkF m 75 #[.val (.long q1), .second, .val (.int p2), .val (.long (0 : Int64)), .second, .val (.int (p2 &&& (3 : Int32))), .val (.double (FP.ddiv (FP.l2d (0 : Int64)) (4845873199050653696 : UInt64))), .second, .val (.double (FP.ddiv (FP.l2d (0 : Int64)) (4845873199050653696 : UInt64))), .second] [(.double (FP.ddiv (FP.l2d (0 : Int64)) (4845873199050653696 : UInt64)))])) _
      refine XS.dconst1 X4.here hx rfl (hb hby at_75) rfl ?_
      show Steps p.tables e below (T4.setTop (mkF m 76 #[.val (.long q1), .second, .val (.int p2), .val (.long (0 : Int64)), .second, .val (.int (p2 &&& (3 : Int32))), .val (.double (FP.ddiv (FP.l2d (0 : Int64)) (4845873199050653696 : UInt64))), .second, .val (.double (FP.ddiv (FP.l2d (0 : Int64)) (4845873199050653696 : UInt64))), .second] [(.double FP.dconst1), (.double (FP.ddiv (FP.l2d (0 : Int64)) (4845873199050653696 : UInt64)))])) _
      refine XS.dcmpS X4.here hx rfl (hb hby at_76) rfl rfl ?_
      show Steps p.tables e below (T4.setTop (mkF m 77 #[.val (.long q1), .second, .val (.int p2), .val (.long (0 : Int64)), .second, .val (.int (p2 &&& (3 : Int32))), .val (.double (FP.ddiv (FP.l2d (0 : Int64)) (4845873199050653696 : UInt64))), .second, .val (.double (FP.ddiv (FP.l2d (0 : Int64)) (4845873199050653696 : UInt64))), .second] [(.int (cmpValue (FP.dcmp (FP.ddiv (FP.l2d (0 : Int64)) (4845873199050653696 : UInt64)) FP.dconst1) .g))])) _
      refine XS.ifNo X4.here hx rfl (hb hby at_77) rfl ((if0 _ _).trans (tlt ((own_k0).2.2.2 : ((cmpValue (FP.dcmp (FP.ddiv (FP.l2d (0 : Int64)) (4845873199050653696 : UInt64)) FP.dconst1) .g) < (0 : Int32)))).2.1) ?_
      show Steps p.tables e below (T4.setTop (mkF m 80 #[.val (.long q1), .second, .val (.int p2), .val (.long (0 : Int64)), .second, .val (.int (p2 &&& (3 : Int32))), .val (.double (FP.ddiv (FP.l2d (0 : Int64)) (4845873199050653696 : UInt64))), .second, .val (.double (FP.ddiv (FP.l2d (0 : Int64)) (4845873199050653696 : UInt64))), .second] [])) _
      refine XS.iconst X4.here hx rfl (hb hby at_80) ?_
      show Steps p.tables e below (T4.setTop (mkF m 81 #[.val (.long q1), .second, .val (.int p2), .val (.long (0 : Int64)), .second, .val (.int (p2 &&& (3 : Int32))), .val (.double (FP.ddiv (FP.l2d (0 : Int64)) (4845873199050653696 : UInt64))), .second, .val (.double (FP.ddiv (FP.l2d (0 : Int64)) (4845873199050653696 : UInt64))), .second] [(.int (1 : Int32))])) _
      refine XS.goto X4.here hx rfl (pc0 := 81) (pc' := 85) rfl (hb hby at_81) (by decide) (by decide) ?_
      show Steps p.tables e below (T4.setTop (mkF m 85 #[.val (.long q1), .second, .val (.int p2), .val (.long (0 : Int64)), .second, .val (.int (p2 &&& (3 : Int32))), .val (.double (FP.ddiv (FP.l2d (0 : Int64)) (4845873199050653696 : UInt64))), .second, .val (.double (FP.ddiv (FP.l2d (0 : Int64)) (4845873199050653696 : UInt64))), .second] [(.int (1 : Int32))])) _
      exact retN X4 hx (t := .boolean) Bd.returns (by simp) (hb hby at_85) hr
    · show Q_rm0 Z q1 p2 h0 n0 _ T4.heap _
      rw [e4]
      exact ⟨rfl, N4⟩
  · have pre5 : ∀ t, Steps p.tables e below (s₁.setTop (mkF m 25 #[.val (.long q1), .second, .val (.int p2), .val (.long y1), .second, .val (.int (p2 &&& (3 : Int32))), .unset, .unset, .unset, .unset] [(.int (2 : Int32)), (.int (p2 &&& (3 : Int32)))])) t → Steps p.tables e below (s₁.setTop (entryFrame m #[(.long q1), (.int p2)] maxLocals)) t := by
      intro t k
      refine pre2 t ?_
      show Steps p.tables e below (s₁.setTop (mkF m 14 #[.val (.long q1), .second, .val (.int p2), .val (.long y1), .second, .val (.int (p2 &&& (3 : Int32))), .unset, .unset, .unset, .unset] [(.int (1 : Int32)), (.int (p2 &&& (3 : Int32)))])) _
      refine XS.icmpYes X0.here hx rfl (pc0 := 14) (pc' := 22) rfl (hb hby at_14) rfl (feq hc14_3).2 (by decide) (by decide) ?_
      show Steps p.tables e below (s₁.setTop (mkF m 22 #[.val (.long q1), .second, .val (.int p2), .val (.long y1), .second, .val (.int (p2 &&& (3 : Int32))), .unset, .unset, .unset, .unset] [])) _
      refine XS.iload X0.here hx rfl (hb hby at_22) rfl ?_
      show Steps p.tables e below (s₁.setTop (mkF m 24 #[.val (.long q1), .second, .val (.int p2), .val (.long y1), .second, .val (.int (p2 &&& (3 : Int32))), .unset, .unset, .unset, .unset] [(.int (p2 &&& (3 : Int32)))])) _
      refine XS.iconst X0.here hx rfl (hb hby at_24) ?_
      exact k
    by_cases hc25_6 : (p2 &&& (3 : Int32)) = (2 : Int32)
    · obtain ⟨_, _, ⟨T7, L7, k7, n7⟩, -, X7, ⟨Lc7, hQ7, l7, y7, z7⟩, st7⟩ := Jvm.LawKit.callS X0 hx (y := (⟨"nachbar/sim/VirtualNetwork", "checkLoss", "(D)D"⟩ : MethodName)) hown (mvT hZ (hw _ (List.mem_of_getElem? (i := 2) rfl))) (mvT hZ (hw _ (List.mem_of_getElem? (i := 3) rfl))) (mvT hZ (hw _ (List.mem_of_getElem? (i := 4) rfl))) (mvT hZ (hw _ (List.mem_of_getElem? (i := 5) rfl))) (by decide) (backOf (W := 0) (rm1 l Z a0 hw [] (FP.ddiv (FP.l2d (9007199254740991 : Int64)) (4845873199050653696 : UInt64)) h0 n0 Z0 (own_kM).2.2.1 (own_kM).2.2.2) hZ (hw _ (List.mem_of_getElem? (i := 5) rfl)) (hw _ (List.mem_of_getElem? (i := 4) rfl)) (by decide) (by decide)) (g := (mkF m 53 #[.val (.long q1), .second, .val (.int p2), .val (.long (9007199254740991 : Int64)), .second, .val (.int (p2 &&& (3 : Int32))), .val (.double (FP.ddiv (FP.l2d (9007199254740991 : Int64)) (4845873199050653696 : UInt64))), .second, .unset, .unset] [(.double (FP.ddiv (FP.l2d (9007199254740991 : Int64)) (4845873199050653696 : UInt64)))])) rfl (by rw [hml]; rfl) (argsL := [(.double (FP.ddiv (FP.l2d (9007199254740991 : Int64)) (4845873199050653696 : UInt64)))]) (rest := []) (lenOf pd_0 rfl) rfl (by show 2 * 0 + _ ≤ _; exact Nat.le_of_eq rfl) (hb hby at_53) (fun _ _ => ⟨rfl, e0, (by decide : 0 + 0 ≤ _), (by decide : 0 + 0 ≤ _)⟩)
      dsimp only [Pt.U, Pt.locs, Pt.cells, Pt.slots] at X7 l7 y7 z7 st7 hQ7
      subst l7 y7 z7
      obtain ⟨rfl, N7q, e7⟩ := hQ7
      have N7 := Fr.app N0 N7q
      obtain ⟨fs, hr, hrun, hended, hW, hsame⟩ := X7.leave (v := some (.int (1 : Int32))) (fun h => by rw [Bd.returns] at h; cases h)
      refine ⟨_, _, pre5 _ ?_, hrun, hended, _, _, rfl, ?_, ⟨_, rfl⟩, hW, hsame.mono (by decide) (by decide)⟩
      · show Steps p.tables e below (s₁.setTop (mkF m 25 #[.val (.long q1), .second, .val (.int p2), .val (.long y1), .second, .val (.int (p2 &&& (3 : Int32))), .unset, .unset, .unset, .unset] [(.int (2 : Int32)), (.int (p2 &&& (3 : Int32)))])) _
        refine XS.icmpNo X0.here hx rfl (hb hby at_25) rfl (teq hc25_6).2 ?_
        show Steps p.tables e below (s₁.setTop (mkF m 28 #[.val (.long q1), .second, .val (.int p2), .val (.long y1), .second, .val (.int (p2 &&& (3 : Int32))), .unset, .unset, .unset, .unset] [])) _
        refine X0.ldc2Long hx hown (mvT hZ (hw _ (List.mem_of_getElem? (i := 0) rfl))) (g := (mkF m 28 #[.val (.long q1), .second, .val (.int p2), .val (.long y1), .second, .val (.int (p2 &&& (3 : Int32))), .unset, .unset, .unset, .unset] [])) rfl (hb hby at_28) _ ?_
        show Steps p.tables e below (s₁.setTop (mkF m 31 #[.val (.long q1), .second, .val (.int p2), .val (.long y1), .second, .val (.int (p2 &&& (3 : Int32))), .unset, .unset, .unset, .unset] [(.long (9007199254740991 : Int64))])) _
        refine XS.lstoreN X0.here hx rfl (hb hby at_31) rfl (l' := #[.val (.long q1), .second, .val (.int p2), .val (.long (9007199254740991 : Int64)), .second, .val (.int (p2 &&& (3 : Int32))), .unset, .unset, .unset, .unset]) rfl ?_
        show Steps p.tables e below (s₁.setTop (mkF m 32 #[.val (.long q1), .second, .val (.int p2), .val (.long (9007199254740991 : Int64)), .second, .val (.int (p2 &&& (3 : Int32))), .unset, .unset, .unset, .unset] [])) _
        refine XS.lloadN X0.here hx rfl (hb hby at_32) rfl ?_
        show Steps p.tables e below (s₁.setTop (mkF m 33 #[.val (.long q1), .second, .val (.int p2), .val (.long (9007199254740991 : Int64)), .second, .val (.int (p2 &&& (3 : Int32))), .unset, .unset, .unset, .unset] [(.long (9007199254740991 : Int64))])) _
        refine XS.l2dS X0.here hx rfl (hb hby at_33) rfl rfl ?_
        show Steps p.tables e below (s₁.setTop (mkF m 34 #[.val (.long q1), .second, .val (.int p2), .val (.long (9007199254740991 : Int64)), .second, .val (.int (p2 &&& (3 : Int32))), .unset, .unset, .unset, .unset] [(.double (FP.l2d (9007199254740991 : Int64)))])) _
        refine X0.ldc2DoubleC hx hown (mvT hZ (hw _ (List.mem_of_getElem? (i := 1) rfl))) (g := (mkF m 34 #[.val (.long q1), .second, .val (.int p2), .val (.long (9007199254740991 : Int64)), .second, .val (.int (p2 &&& (3 : Int32))), .unset, .unset, .unset, .unset] [(.double (FP.l2d (9007199254740991 : Int64)))])) rfl (hb hby at_34) _ ?_
        show Steps p.tables e below (s₁.setTop (mkF m 37 #[.val (.long q1), .second, .val (.int p2), .val (.long (9007199254740991 : Int64)), .second, .val (.int (p2 &&& (3 : Int32))), .unset, .unset, .unset, .unset] [(.double (4845873199050653696 : UInt64)), (.double (FP.l2d (9007199254740991 : Int64)))])) _
        refine XS.ddivS X0.here hx rfl (hb hby at_37) rfl (own_kM).1 (v := (FP.ddiv (FP.l2d (9007199254740991 : Int64)) (4845873199050653696 : UInt64))) rfl ?_
        show Steps p.tables e below (s₁.setTop (mkF m 38 #[.val (.long q1), .second, .val (.int p2), .val (.long (9007199254740991 : Int64)), .second, .val (.int (p2 &&& (3 : Int32))), .unset, .unset, .unset, .unset] [(.double (FP.ddiv (FP.l2d (9007199254740991 : Int64)) (4845873199050653696 : UInt64)))])) _
        refine XS.dstore X0.here hx rfl (hb hby at_38) rfl (l' := #[.val (.long q1), .second, .val (.int p2), .val (.long (9007199254740991 : Int64)), .second, .val (.int (p2 &&& (3 : Int32))), .val (.double (FP.ddiv (FP.l2d (9007199254740991 : Int64)) (4845873199050653696 : UInt64))), .second, .unset, .unset]) rfl ?_
        show Steps p.tables e below (s₁.setTop (mkF m 40 #[.val (.long q1), .second, .val (.int p2), .val (.long (9007199254740991 : Int64)), .second, .val (.int (p2 &&& (3 : Int32))), .val (.double (FP.ddiv (FP.l2d (9007199254740991 : Int64)) (4845873199050653696 : UInt64))), .second, .unset, .unset] [])) _
        refine XS.iload X0.here hx rfl (hb hby at_40) rfl ?_
        show Steps p.tables e below (s₁.setTop (mkF m 42 #[.val (.long q1), .second, .val (.int p2), .val (.long (9007199254740991 : Int64)), .second, .val (.int (p2 &&& (3 : Int32))), .val (.double (FP.ddiv (FP.l2d (9007199254740991 : Int64)) (4845873199050653696 : UInt64))), .second, .unset, .unset] [(.int (p2 &&& (3 : Int32)))])) _
        refine XS.iconst X0.here hx rfl (hb hby at_42) ?_
        show Steps p.tables e below (s₁.setTop (mkF m 43 #[.val (.long q1), .second, .val (.int p2), .val (.long (9007199254740991 : Int64)), .second, .val (.int (p2 &&& (3 : Int32))), .val (.double (FP.ddiv (FP.l2d (9007199254740991 : Int64)) (4845873199050653696 : UInt64))), .second, .unset, .unset] [(.int (3 : Int32)), (.int (p2 &&& (3 : Int32)))])) _
        refine XS.icmpYes X0.here hx rfl (pc0 := 43) (pc' := 51) rfl (hb hby at_43) rfl (feq ((fun q => absurd (hc25_6.symm.trans q) (by decide)) : ¬ ((p2 &&& (3 : Int32)) = (3 : Int32)))).2 (by decide) (by decide) ?_
        show Steps p.tables e below (s₁.setTop (mkF m 51 #[.val (.long q1), .second, .val (.int p2), .val (.long (9007199254740991 : Int64)), .second, .val (.int (p2 &&& (3 : Int32))), .val (.double (FP.ddiv (FP.l2d (9007199254740991 : Int64)) (4845873199050653696 : UInt64))), .second, .unset, .unset] [])) _
        refine XS.dload X0.here hx rfl (hb hby at_51) rfl ?_
        show Steps p.tables e below (s₁.setTop (mkF m 53 #[.val (.long q1), .second, .val (.int p2), .val (.long (9007199254740991 : Int64)), .second, .val (.int (p2 &&& (3 : Int32))), .val (.double (FP.ddiv (FP.l2d (9007199254740991 : Int64)) (4845873199050653696 : UInt64))), .second, .unset, .unset] [(.double (FP.ddiv (FP.l2d (9007199254740991 : Int64)) (4845873199050653696 : UInt64)))])) _
        refine st7 _ ?_
        show Steps p.tables e below (T7.setTop (mkF m 56 #[.val (.long q1), .second, .val (.int p2), .val (.long (9007199254740991 : Int64)), .second, .val (.int (p2 &&& (3 : Int32))), .val (.double (FP.ddiv (FP.l2d (9007199254740991 : Int64)) (4845873199050653696 : UInt64))), .second, .unset, .unset] [(.double (FP.ddiv (FP.l2d (9007199254740991 : Int64)) (4845873199050653696 : UInt64)))])) _
        refine XS.dstore X7.here hx rfl (hb hby at_56) rfl (l' := #[.val (.long q1), .second, .val (.int p2), .val (.long (9007199254740991 : Int64)), .second, .val (.int (p2 &&& (3 : Int32))), .val (.double (FP.ddiv (FP.l2d (9007199254740991 : Int64)) (4845873199050653696 : UInt64))), .second, .val (.double (FP.ddiv (FP.l2d (9007199254740991 : Int64)) (4845873199050653696 : UInt64))), .second]) rfl ?_
        show Steps p.tables e below (T7.setTop (mkF m 58 #[.val (.long q1), .second, .val (.int p2), .val (.long (9007199254740991 : Int64)), .second, .val (.int (p2 &&& (3 : Int32))), .val (.double (FP.ddiv (FP.l2d (9007199254740991 : Int64)) (4845873199050653696 : UInt64))), .second, .val (.double (FP.ddiv (FP.l2d (9007199254740991 : Int64)) (4845873199050653696 : UInt64))), .second] [])) _
        refine XS.dload X7.here hx rfl (hb hby at_58) rfl ?_
        show Steps p.tables e below (T7.setTop (mkF m 60 #[.val (.long q1), .second, .val (.int p2), .val (.long (9007199254740991 : Int64)), .second, .val (.int (p2 &&& (3 : Int32))), .val (.double (FP.ddiv (FP.l2d (9007199254740991 : Int64)) (4845873199050653696 : UInt64))), .second, .val (.double (FP.ddiv (FP.l2d (9007199254740991 : Int64)) (4845873199050653696 : UInt64))), .second] [(.double (FP.ddiv (FP.l2d (9007199254740991 : Int64)) (4845873199050653696 : UInt64)))])) _
        refine XS.dload X7.here hx rfl (hb hby at_60) rfl ?_
        show Steps p.tables e below (T7.setTop (mkF m 62 #[.val (.long q1), .second, .val (.int p2), .val (.long (9007199254740991 : Int64)), .second, .val (.int (p2 &&& (3 : Int32))), .val (.double (FP.ddiv (FP.l2d (9007199254740991 : Int64)) (4845873199050653696 : UInt64))), .second, .val (.double (FP.ddiv (FP.l2d (9007199254740991 : Int64)) (4845873199050653696 : UInt64))), .second] [(.double (FP.ddiv (FP.l2d (9007199254740991 : Int64)) (4845873199050653696 : UInt64))), (.double (FP.ddiv (FP.l2d (9007199254740991 : Int64)) (4845873199050653696 : UInt64)))])) _
        refine XS.dcmpS X7.here hx rfl (hb hby at_62) rfl rfl ?_
        show Steps p.tables e below (T7.setTop (mkF m 63 #[.val (.long q1), .second, .val (.int p2), .val (.long (9007199254740991 : Int64)), .second, .val (.int (p2 &&& (3 : Int32))), .val (.double (FP.ddiv (FP.l2d (9007199254740991 : Int64)) (4845873199050653696 : UInt64))), .second, .val (.double (FP.ddiv (FP.l2d (9007199254740991 : Int64)) (4845873199050653696 : UInt64))), .second] [(.int (cmpValue (FP.dcmp (FP.ddiv (FP.l2d (9007199254740991 : Int64)) (4845873199050653696 : UInt64)) (FP.ddiv (FP.l2d (9007199254740991 : Int64)) (4845873199050653696 : UInt64))) .l))])) _
        refine XS.ifNo X7.here hx rfl (hb hby at_63) rfl ((if0 _ _).trans (teq ((own_kM).2.1 : ((cmpValue (FP.dcmp (FP.ddiv (FP.l2d (9007199254740991 : Int64)) (4845873199050653696 : UInt64)) (FP.ddiv (FP.l2d (9007199254740991 : Int64)) (4845873199050653696 : UInt64))) .l) = (0 : Int32)))).2) ?_
        show Steps p.tables e below (T7.setTop (mkF m 66 #[.val (.long q1), .second, .val (.int p2), .val (.long (9007199254740991 : Int64)), .second, .val (.int (p2 &&& (3 : Int32))), .val (.double (FP.ddiv (FP.l2d (9007199254740991 : Int64)) (4845873199050653696 : UInt64))), .second, .val (.double (FP.ddiv (FP.l2d (9007199254740991 : Int64)) (4845873199050653696 : UInt64))), .second] [])) _
        refine XS.dload X7.here hx rfl (hb hby at_66) rfl ?_
        show Steps p.tables e below (T7.setTop (mkF m 68 #[.val (.long q1), .second, .val (.int p2), .val (.long (9007199254740991 : Int64)), .second, .val (.int (p2 &&& (3 : Int32))), .val (.double (FP.ddiv (FP.l2d (9007199254740991 : Int64)) (4845873199050653696 : UInt64))), .second, .val (.double (FP.ddiv (FP.l2d (9007199254740991 : Int64)) (4845873199050653696 : UInt64))), .second] [(.double (FP.ddiv (FP.l2d (9007199254740991 : Int64)) (4845873199050653696 : UInt64)))])) _
        refine XS.dconst0 X7.here hx rfl (hb hby at_68) rfl ?_
        show Steps p.tables e below (T7.setTop (mkF m 69 #[.val (.long q1), .second, .val (.int p2), .val (.long (9007199254740991 : Int64)), .second, .val (.int (p2 &&& (3 : Int32))), .val (.double (FP.ddiv (FP.l2d (9007199254740991 : Int64)) (4845873199050653696 : UInt64))), .second, .val (.double (FP.ddiv (FP.l2d (9007199254740991 : Int64)) (4845873199050653696 : UInt64))), .second] [(.double FP.dconst0), (.double (FP.ddiv (FP.l2d (9007199254740991 : Int64)) (4845873199050653696 : UInt64)))])) _
        refine XS.dcmpS X7.here hx rfl (hb hby at_69) rfl rfl ?_
        show Steps p.tables e below (T7.setTop (mkF m 70 #[.val (.long q1), .second, .val (.int p2), .val (.long (9007199254740991 : Int64)), .second, .val (.int (p2 &&& (3 : Int32))), .val (.double (FP.ddiv (FP.l2d (9007199254740991 : Int64)) (4845873199050653696 : UInt64))), .second, .val (.double (FP.ddiv (FP.l2d (9007199254740991 : Int64)) (4845873199050653696 : UInt64))), .second] [(.int (cmpValue (FP.dcmp (FP.ddiv (FP.l2d (9007199254740991 : Int64)) (4845873199050653696 : UInt64)) FP.dconst0) .l))])) _
        refine XS.ifNo X7.here hx rfl (hb hby at_70) rfl ((if0 _ _).trans (flt ((own_kM).2.2.1 : ¬ ((cmpValue (FP.dcmp (FP.ddiv (FP.l2d (9007199254740991 : Int64)) (4845873199050653696 : UInt64)) FP.dconst0) .l) < (0 : Int32)))).1) ?_
        show Steps p.tables e below (T7.setTop (mkF m 73 #[.val (.long q1), .second, .val (.int p2), .val (.long (9007199254740991 : Int64)), .second, .val (.int (p2 &&& (3 : Int32))), .val (.double (FP.ddiv (FP.l2d (9007199254740991 : Int64)) (4845873199050653696 : UInt64))), .second, .val (.double (FP.ddiv (FP.l2d (9007199254740991 : Int64)) (4845873199050653696 : UInt64))), .second] [])) _
        refine XS.dload X7.here hx rfl (hb hby at_73) rfl ?_
        show Steps p.tables e below (T7.setTop (mkF m 75 #[.val (.long q1), .second, .val (.int p2), .val (.long (9007199254740991 : Int64)), .second, .val (.int (p2 &&& (3 : Int32))), .val (.double (FP.ddiv (FP.l2d (9007199254740991 : Int64)) (4845873199050653696 : UInt64))), .second, .val (.double (FP.ddiv (FP.l2d (9007199254740991 : Int64)) (4845873199050653696 : UInt64))), .second] [(.double (FP.ddiv (FP.l2d (9007199254740991 : Int64)) (4845873199050653696 : UInt64)))])) _
        refine XS.dconst1 X7.here hx rfl (hb hby at_75) rfl ?_
        show Steps p.tables e below (T7.setTop (mkF m 76 #[.val (.long q1), .second, .val (.int p2), .val (.long (9007199254740991 : Int64)), .second, .val (.int (p2 &&& (3 : Int32))), .val (.double (FP.ddiv (FP.l2d (9007199254740991 : Int64)) (4845873199050653696 : UInt64))), .second, .val (.double (FP.ddiv (FP.l2d (9007199254740991 : Int64)) (4845873199050653696 : UInt64))), .second] [(.double FP.dconst1), (.double (FP.ddiv (FP.l2d (9007199254740991 : Int64)) (4845873199050653696 : UInt64)))])) _
        refine XS.dcmpS X7.here hx rfl (hb hby at_76) rfl rfl ?_
        show Steps p.tables e below (T7.setTop (mkF m 77 #[.val (.long q1), .second, .val (.int p2), .val (.long (9007199254740991 : Int64)), .second, .val (.int (p2 &&& (3 : Int32))), .val (.double (FP.ddiv (FP.l2d (9007199254740991 : Int64)) (4845873199050653696 : UInt64))), .second, .val (.double (FP.ddiv (FP.l2d (9007199254740991 : Int64)) (4845873199050653696 : UInt64))), .second] [(.int (cmpValue (FP.dcmp (FP.ddiv (FP.l2d (9007199254740991 : Int64)) (4845873199050653696 : UInt64)) FP.dconst1) .g))])) _
        refine XS.ifNo X7.here hx rfl (hb hby at_77) rfl ((if0 _ _).trans (tlt ((own_kM).2.2.2 : ((cmpValue (FP.dcmp (FP.ddiv (FP.l2d (9007199254740991 : Int64)) (4845873199050653696 : UInt64)) FP.dconst1) .g) < (0 : Int32)))).2.1) ?_
        show Steps p.tables e below (T7.setTop (mkF m 80 #[.val (.long q1), .second, .val (.int p2), .val (.long (9007199254740991 : Int64)), .second, .val (.int (p2 &&& (3 : Int32))), .val (.double (FP.ddiv (FP.l2d (9007199254740991 : Int64)) (4845873199050653696 : UInt64))), .second, .val (.double (FP.ddiv (FP.l2d (9007199254740991 : Int64)) (4845873199050653696 : UInt64))), .second] [])) _
        refine XS.iconst X7.here hx rfl (hb hby at_80) ?_
        show Steps p.tables e below (T7.setTop (mkF m 81 #[.val (.long q1), .second, .val (.int p2), .val (.long (9007199254740991 : Int64)), .second, .val (.int (p2 &&& (3 : Int32))), .val (.double (FP.ddiv (FP.l2d (9007199254740991 : Int64)) (4845873199050653696 : UInt64))), .second, .val (.double (FP.ddiv (FP.l2d (9007199254740991 : Int64)) (4845873199050653696 : UInt64))), .second] [(.int (1 : Int32))])) _
        refine XS.goto X7.here hx rfl (pc0 := 81) (pc' := 85) rfl (hb hby at_81) (by decide) (by decide) ?_
        show Steps p.tables e below (T7.setTop (mkF m 85 #[.val (.long q1), .second, .val (.int p2), .val (.long (9007199254740991 : Int64)), .second, .val (.int (p2 &&& (3 : Int32))), .val (.double (FP.ddiv (FP.l2d (9007199254740991 : Int64)) (4845873199050653696 : UInt64))), .second, .val (.double (FP.ddiv (FP.l2d (9007199254740991 : Int64)) (4845873199050653696 : UInt64))), .second] [(.int (1 : Int32))])) _
        exact retN X7 hx (t := .boolean) Bd.returns (by simp) (hb hby at_85) hr
      · show Q_rm0 Z q1 p2 h0 n0 _ T7.heap _
        rw [e7]
        exact ⟨rfl, N7⟩
    · have pre8 : ∀ t, Steps p.tables e below (s₁.setTop (mkF m 43 #[.val (.long q1), .second, .val (.int p2), .val (.long y1), .second, .val (.int (p2 &&& (3 : Int32))), .val (.double (FP.ddiv (FP.l2d y1) (4845873199050653696 : UInt64))), .second, .unset, .unset] [(.int (3 : Int32)), (.int (p2 &&& (3 : Int32)))])) t → Steps p.tables e below (s₁.setTop (entryFrame m #[(.long q1), (.int p2)] maxLocals)) t := by
        intro t k
        refine pre5 t ?_
        show Steps p.tables e below (s₁.setTop (mkF m 25 #[.val (.long q1), .second, .val (.int p2), .val (.long y1), .second, .val (.int (p2 &&& (3 : Int32))), .unset, .unset, .unset, .unset] [(.int (2 : Int32)), (.int (p2 &&& (3 : Int32)))])) _
        refine XS.icmpYes X0.here hx rfl (pc0 := 25) (pc' := 32) rfl (hb hby at_25) rfl (feq hc25_6).2 (by decide) (by decide) ?_
        show Steps p.tables e below (s₁.setTop (mkF m 32 #[.val (.long q1), .second, .val (.int p2), .val (.long y1), .second, .val (.int (p2 &&& (3 : Int32))), .unset, .unset, .unset, .unset] [])) _
        refine XS.lloadN X0.here hx rfl (hb hby at_32) rfl ?_
        show Steps p.tables e below (s₁.setTop (mkF m 33 #[.val (.long q1), .second, .val (.int p2), .val (.long y1), .second, .val (.int (p2 &&& (3 : Int32))), .unset, .unset, .unset, .unset] [(.long y1)])) _
        refine XS.l2dS X0.here hx rfl (hb hby at_33) rfl rfl ?_
        show Steps p.tables e below (s₁.setTop (mkF m 34 #[.val (.long q1), .second, .val (.int p2), .val (.long y1), .second, .val (.int (p2 &&& (3 : Int32))), .unset, .unset, .unset, .unset] [(.double (FP.l2d y1))])) _
        refine X0.ldc2DoubleC hx hown (mvT hZ (hw _ (List.mem_of_getElem? (i := 1) rfl))) (g := (mkF m 34 #[.val (.long q1), .second, .val (.int p2), .val (.long y1), .second, .val (.int (p2 &&& (3 : Int32))), .unset, .unset, .unset, .unset] [(.double (FP.l2d y1))])) rfl (hb hby at_34) _ ?_
        show Steps p.tables e below (s₁.setTop (mkF m 37 #[.val (.long q1), .second, .val (.int p2), .val (.long y1), .second, .val (.int (p2 &&& (3 : Int32))), .unset, .unset, .unset, .unset] [(.double (4845873199050653696 : UInt64)), (.double (FP.l2d y1))])) _
        refine XS.ddivS X0.here hx rfl (hb hby at_37) rfl (own_kf hkb.1 hkb.2).1 (v := (FP.ddiv (FP.l2d y1) (4845873199050653696 : UInt64))) rfl ?_
        show Steps p.tables e below (s₁.setTop (mkF m 38 #[.val (.long q1), .second, .val (.int p2), .val (.long y1), .second, .val (.int (p2 &&& (3 : Int32))), .unset, .unset, .unset, .unset] [(.double (FP.ddiv (FP.l2d y1) (4845873199050653696 : UInt64)))])) _
        refine XS.dstore X0.here hx rfl (hb hby at_38) rfl (l' := #[.val (.long q1), .second, .val (.int p2), .val (.long y1), .second, .val (.int (p2 &&& (3 : Int32))), .val (.double (FP.ddiv (FP.l2d y1) (4845873199050653696 : UInt64))), .second, .unset, .unset]) rfl ?_
        show Steps p.tables e below (s₁.setTop (mkF m 40 #[.val (.long q1), .second, .val (.int p2), .val (.long y1), .second, .val (.int (p2 &&& (3 : Int32))), .val (.double (FP.ddiv (FP.l2d y1) (4845873199050653696 : UInt64))), .second, .unset, .unset] [])) _
        refine XS.iload X0.here hx rfl (hb hby at_40) rfl ?_
        show Steps p.tables e below (s₁.setTop (mkF m 42 #[.val (.long q1), .second, .val (.int p2), .val (.long y1), .second, .val (.int (p2 &&& (3 : Int32))), .val (.double (FP.ddiv (FP.l2d y1) (4845873199050653696 : UInt64))), .second, .unset, .unset] [(.int (p2 &&& (3 : Int32)))])) _
        refine XS.iconst X0.here hx rfl (hb hby at_42) ?_
        exact k
      by_cases hc43_9 : (p2 &&& (3 : Int32)) = (3 : Int32)
      · obtain ⟨_, _, ⟨T10, L10, k10, n10⟩, -, X10, ⟨Lc10, hQ10, l10, y10, z10⟩, st10⟩ := Jvm.LawKit.callS X0 hx (y := (⟨"nachbar/sim/VirtualNetwork", "checkLoss", "(D)D"⟩ : MethodName)) hown (mvT hZ (hw _ (List.mem_of_getElem? (i := 2) rfl))) (mvT hZ (hw _ (List.mem_of_getElem? (i := 3) rfl))) (mvT hZ (hw _ (List.mem_of_getElem? (i := 4) rfl))) (mvT hZ (hw _ (List.mem_of_getElem? (i := 5) rfl))) (by decide) (backOf (W := 0) (rm1 l Z a0 hw [] (9223372036854775808 : UInt64) h0 n0 Z0 own_neg0.2.2.1 own_neg0.2.2.2) hZ (hw _ (List.mem_of_getElem? (i := 5) rfl)) (hw _ (List.mem_of_getElem? (i := 4) rfl)) (by decide) (by decide)) (g := (mkF m 53 #[.val (.long q1), .second, .val (.int p2), .val (.long y1), .second, .val (.int (p2 &&& (3 : Int32))), .val (.double (9223372036854775808 : UInt64)), .second, .unset, .unset] [(.double (9223372036854775808 : UInt64))])) rfl (by rw [hml]; rfl) (argsL := [(.double (9223372036854775808 : UInt64))]) (rest := []) (lenOf pd_0 rfl) rfl (by show 2 * 0 + _ ≤ _; exact Nat.le_of_eq rfl) (hb hby at_53) (fun _ _ => ⟨rfl, e0, (by decide : 0 + 0 ≤ _), (by decide : 0 + 0 ≤ _)⟩)
        dsimp only [Pt.U, Pt.locs, Pt.cells, Pt.slots] at X10 l10 y10 z10 st10 hQ10
        subst l10 y10 z10
        obtain ⟨rfl, N10q, e10⟩ := hQ10
        have N10 := Fr.app N0 N10q
        obtain ⟨fs, hr, hrun, hended, hW, hsame⟩ := X10.leave (v := some (.int (1 : Int32))) (fun h => by rw [Bd.returns] at h; cases h)
        refine ⟨_, _, pre8 _ ?_, hrun, hended, _, _, rfl, ?_, ⟨_, rfl⟩, hW, hsame.mono (by decide) (by decide)⟩
        · show Steps p.tables e below (s₁.setTop (mkF m 43 #[.val (.long q1), .second, .val (.int p2), .val (.long y1), .second, .val (.int (p2 &&& (3 : Int32))), .val (.double (FP.ddiv (FP.l2d y1) (4845873199050653696 : UInt64))), .second, .unset, .unset] [(.int (3 : Int32)), (.int (p2 &&& (3 : Int32)))])) _
          refine XS.icmpNo X0.here hx rfl (hb hby at_43) rfl (teq hc43_9).2 ?_
          show Steps p.tables e below (s₁.setTop (mkF m 46 #[.val (.long q1), .second, .val (.int p2), .val (.long y1), .second, .val (.int (p2 &&& (3 : Int32))), .val (.double (FP.ddiv (FP.l2d y1) (4845873199050653696 : UInt64))), .second, .unset, .unset] [])) _
          refine X0.ldc2DoubleC hx hown (mvT hZ (hw _ (List.mem_of_getElem? (i := 6) rfl))) (g := (mkF m 46 #[.val (.long q1), .second, .val (.int p2), .val (.long y1), .second, .val (.int (p2 &&& (3 : Int32))), .val (.double (FP.ddiv (FP.l2d y1) (4845873199050653696 : UInt64))), .second, .unset, .unset] [])) rfl (hb hby at_46) _ ?_
          show Steps p.tables e below (s₁.setTop (mkF m 49 #[.val (.long q1), .second, .val (.int p2), .val (.long y1), .second, .val (.int (p2 &&& (3 : Int32))), .val (.double (FP.ddiv (FP.l2d y1) (4845873199050653696 : UInt64))), .second, .unset, .unset] [(.double (9223372036854775808 : UInt64))])) _
          refine XS.dstore X0.here hx rfl (hb hby at_49) rfl (l' := #[.val (.long q1), .second, .val (.int p2), .val (.long y1), .second, .val (.int (p2 &&& (3 : Int32))), .val (.double (9223372036854775808 : UInt64)), .second, .unset, .unset]) rfl ?_
          show Steps p.tables e below (s₁.setTop (mkF m 51 #[.val (.long q1), .second, .val (.int p2), .val (.long y1), .second, .val (.int (p2 &&& (3 : Int32))), .val (.double (9223372036854775808 : UInt64)), .second, .unset, .unset] [])) _
          refine XS.dload X0.here hx rfl (hb hby at_51) rfl ?_
          show Steps p.tables e below (s₁.setTop (mkF m 53 #[.val (.long q1), .second, .val (.int p2), .val (.long y1), .second, .val (.int (p2 &&& (3 : Int32))), .val (.double (9223372036854775808 : UInt64)), .second, .unset, .unset] [(.double (9223372036854775808 : UInt64))])) _
          refine st10 _ ?_
          show Steps p.tables e below (T10.setTop (mkF m 56 #[.val (.long q1), .second, .val (.int p2), .val (.long y1), .second, .val (.int (p2 &&& (3 : Int32))), .val (.double (9223372036854775808 : UInt64)), .second, .unset, .unset] [(.double (9223372036854775808 : UInt64))])) _
          refine XS.dstore X10.here hx rfl (hb hby at_56) rfl (l' := #[.val (.long q1), .second, .val (.int p2), .val (.long y1), .second, .val (.int (p2 &&& (3 : Int32))), .val (.double (9223372036854775808 : UInt64)), .second, .val (.double (9223372036854775808 : UInt64)), .second]) rfl ?_
          show Steps p.tables e below (T10.setTop (mkF m 58 #[.val (.long q1), .second, .val (.int p2), .val (.long y1), .second, .val (.int (p2 &&& (3 : Int32))), .val (.double (9223372036854775808 : UInt64)), .second, .val (.double (9223372036854775808 : UInt64)), .second] [])) _
          refine XS.dload X10.here hx rfl (hb hby at_58) rfl ?_
          show Steps p.tables e below (T10.setTop (mkF m 60 #[.val (.long q1), .second, .val (.int p2), .val (.long y1), .second, .val (.int (p2 &&& (3 : Int32))), .val (.double (9223372036854775808 : UInt64)), .second, .val (.double (9223372036854775808 : UInt64)), .second] [(.double (9223372036854775808 : UInt64))])) _
          refine XS.dload X10.here hx rfl (hb hby at_60) rfl ?_
          show Steps p.tables e below (T10.setTop (mkF m 62 #[.val (.long q1), .second, .val (.int p2), .val (.long y1), .second, .val (.int (p2 &&& (3 : Int32))), .val (.double (9223372036854775808 : UInt64)), .second, .val (.double (9223372036854775808 : UInt64)), .second] [(.double (9223372036854775808 : UInt64)), (.double (9223372036854775808 : UInt64))])) _
          refine XS.dcmpS X10.here hx rfl (hb hby at_62) rfl rfl ?_
          show Steps p.tables e below (T10.setTop (mkF m 63 #[.val (.long q1), .second, .val (.int p2), .val (.long y1), .second, .val (.int (p2 &&& (3 : Int32))), .val (.double (9223372036854775808 : UInt64)), .second, .val (.double (9223372036854775808 : UInt64)), .second] [(.int (cmpValue (FP.dcmp (9223372036854775808 : UInt64) (9223372036854775808 : UInt64)) .l))])) _
          refine XS.ifNo X10.here hx rfl (hb hby at_63) rfl ((if0 _ _).trans (teq (own_neg0.2.1 : ((cmpValue (FP.dcmp (9223372036854775808 : UInt64) (9223372036854775808 : UInt64)) .l) = (0 : Int32)))).2) ?_
          show Steps p.tables e below (T10.setTop (mkF m 66 #[.val (.long q1), .second, .val (.int p2), .val (.long y1), .second, .val (.int (p2 &&& (3 : Int32))), .val (.double (9223372036854775808 : UInt64)), .second, .val (.double (9223372036854775808 : UInt64)), .second] [])) _
          refine XS.dload X10.here hx rfl (hb hby at_66) rfl ?_
          show Steps p.tables e below (T10.setTop (mkF m 68 #[.val (.long q1), .second, .val (.int p2), .val (.long y1), .second, .val (.int (p2 &&& (3 : Int32))), .val (.double (9223372036854775808 : UInt64)), .second, .val (.double (9223372036854775808 : UInt64)), .second] [(.double (9223372036854775808 : UInt64))])) _
          refine XS.dconst0 X10.here hx rfl (hb hby at_68) rfl ?_
          show Steps p.tables e below (T10.setTop (mkF m 69 #[.val (.long q1), .second, .val (.int p2), .val (.long y1), .second, .val (.int (p2 &&& (3 : Int32))), .val (.double (9223372036854775808 : UInt64)), .second, .val (.double (9223372036854775808 : UInt64)), .second] [(.double FP.dconst0), (.double (9223372036854775808 : UInt64))])) _
          refine XS.dcmpS X10.here hx rfl (hb hby at_69) rfl rfl ?_
          show Steps p.tables e below (T10.setTop (mkF m 70 #[.val (.long q1), .second, .val (.int p2), .val (.long y1), .second, .val (.int (p2 &&& (3 : Int32))), .val (.double (9223372036854775808 : UInt64)), .second, .val (.double (9223372036854775808 : UInt64)), .second] [(.int (cmpValue (FP.dcmp (9223372036854775808 : UInt64) FP.dconst0) .l))])) _
          refine XS.ifNo X10.here hx rfl (hb hby at_70) rfl ((if0 _ _).trans (flt (own_neg0.2.2.1 : ¬ ((cmpValue (FP.dcmp (9223372036854775808 : UInt64) FP.dconst0) .l) < (0 : Int32)))).1) ?_
          show Steps p.tables e below (T10.setTop (mkF m 73 #[.val (.long q1), .second, .val (.int p2), .val (.long y1), .second, .val (.int (p2 &&& (3 : Int32))), .val (.double (9223372036854775808 : UInt64)), .second, .val (.double (9223372036854775808 : UInt64)), .second] [])) _
          refine XS.dload X10.here hx rfl (hb hby at_73) rfl ?_
          show Steps p.tables e below (T10.setTop (mkF m 75 #[.val (.long q1), .second, .val (.int p2), .val (.long y1), .second, .val (.int (p2 &&& (3 : Int32))), .val (.double (9223372036854775808 : UInt64)), .second, .val (.double (9223372036854775808 : UInt64)), .second] [(.double (9223372036854775808 : UInt64))])) _
          refine XS.dconst1 X10.here hx rfl (hb hby at_75) rfl ?_
          show Steps p.tables e below (T10.setTop (mkF m 76 #[.val (.long q1), .second, .val (.int p2), .val (.long y1), .second, .val (.int (p2 &&& (3 : Int32))), .val (.double (9223372036854775808 : UInt64)), .second, .val (.double (9223372036854775808 : UInt64)), .second] [(.double FP.dconst1), (.double (9223372036854775808 : UInt64))])) _
          refine XS.dcmpS X10.here hx rfl (hb hby at_76) rfl rfl ?_
          show Steps p.tables e below (T10.setTop (mkF m 77 #[.val (.long q1), .second, .val (.int p2), .val (.long y1), .second, .val (.int (p2 &&& (3 : Int32))), .val (.double (9223372036854775808 : UInt64)), .second, .val (.double (9223372036854775808 : UInt64)), .second] [(.int (cmpValue (FP.dcmp (9223372036854775808 : UInt64) FP.dconst1) .g))])) _
          refine XS.ifNo X10.here hx rfl (hb hby at_77) rfl ((if0 _ _).trans (tlt (own_neg0.2.2.2 : ((cmpValue (FP.dcmp (9223372036854775808 : UInt64) FP.dconst1) .g) < (0 : Int32)))).2.1) ?_
          show Steps p.tables e below (T10.setTop (mkF m 80 #[.val (.long q1), .second, .val (.int p2), .val (.long y1), .second, .val (.int (p2 &&& (3 : Int32))), .val (.double (9223372036854775808 : UInt64)), .second, .val (.double (9223372036854775808 : UInt64)), .second] [])) _
          refine XS.iconst X10.here hx rfl (hb hby at_80) ?_
          show Steps p.tables e below (T10.setTop (mkF m 81 #[.val (.long q1), .second, .val (.int p2), .val (.long y1), .second, .val (.int (p2 &&& (3 : Int32))), .val (.double (9223372036854775808 : UInt64)), .second, .val (.double (9223372036854775808 : UInt64)), .second] [(.int (1 : Int32))])) _
          refine XS.goto X10.here hx rfl (pc0 := 81) (pc' := 85) rfl (hb hby at_81) (by decide) (by decide) ?_
          show Steps p.tables e below (T10.setTop (mkF m 85 #[.val (.long q1), .second, .val (.int p2), .val (.long y1), .second, .val (.int (p2 &&& (3 : Int32))), .val (.double (9223372036854775808 : UInt64)), .second, .val (.double (9223372036854775808 : UInt64)), .second] [(.int (1 : Int32))])) _
          exact retN X10 hx (t := .boolean) Bd.returns (by simp) (hb hby at_85) hr
        · show Q_rm0 Z q1 p2 h0 n0 _ T10.heap _
          rw [e10]
          exact ⟨rfl, N10⟩
      · obtain ⟨_, _, ⟨T11, L11, k11, n11⟩, -, X11, ⟨Lc11, hQ11, l11, y11, z11⟩, st11⟩ := Jvm.LawKit.callS X0 hx (y := (⟨"nachbar/sim/VirtualNetwork", "checkLoss", "(D)D"⟩ : MethodName)) hown (mvT hZ (hw _ (List.mem_of_getElem? (i := 2) rfl))) (mvT hZ (hw _ (List.mem_of_getElem? (i := 3) rfl))) (mvT hZ (hw _ (List.mem_of_getElem? (i := 4) rfl))) (mvT hZ (hw _ (List.mem_of_getElem? (i := 5) rfl))) (by decide) (backOf (W := 0) (rm1 l Z a0 hw [] (FP.ddiv (FP.l2d y1) (4845873199050653696 : UInt64)) h0 n0 Z0 (own_kf hkb.1 hkb.2).2.2.1 (own_kf hkb.1 hkb.2).2.2.2) hZ (hw _ (List.mem_of_getElem? (i := 5) rfl)) (hw _ (List.mem_of_getElem? (i := 4) rfl)) (by decide) (by decide)) (g := (mkF m 53 #[.val (.long q1), .second, .val (.int p2), .val (.long y1), .second, .val (.int (p2 &&& (3 : Int32))), .val (.double (FP.ddiv (FP.l2d y1) (4845873199050653696 : UInt64))), .second, .unset, .unset] [(.double (FP.ddiv (FP.l2d y1) (4845873199050653696 : UInt64)))])) rfl (by rw [hml]; rfl) (argsL := [(.double (FP.ddiv (FP.l2d y1) (4845873199050653696 : UInt64)))]) (rest := []) (lenOf pd_0 rfl) rfl (by show 2 * 0 + _ ≤ _; exact Nat.le_of_eq rfl) (hb hby at_53) (fun _ _ => ⟨rfl, e0, (by decide : 0 + 0 ≤ _), (by decide : 0 + 0 ≤ _)⟩)
        dsimp only [Pt.U, Pt.locs, Pt.cells, Pt.slots] at X11 l11 y11 z11 st11 hQ11
        subst l11 y11 z11
        obtain ⟨rfl, N11q, e11⟩ := hQ11
        have N11 := Fr.app N0 N11q
        obtain ⟨fs, hr, hrun, hended, hW, hsame⟩ := X11.leave (v := some (.int (1 : Int32))) (fun h => by rw [Bd.returns] at h; cases h)
        refine ⟨_, _, pre8 _ ?_, hrun, hended, _, _, rfl, ?_, ⟨_, rfl⟩, hW, hsame.mono (by decide) (by decide)⟩
        · show Steps p.tables e below (s₁.setTop (mkF m 43 #[.val (.long q1), .second, .val (.int p2), .val (.long y1), .second, .val (.int (p2 &&& (3 : Int32))), .val (.double (FP.ddiv (FP.l2d y1) (4845873199050653696 : UInt64))), .second, .unset, .unset] [(.int (3 : Int32)), (.int (p2 &&& (3 : Int32)))])) _
          refine XS.icmpYes X0.here hx rfl (pc0 := 43) (pc' := 51) rfl (hb hby at_43) rfl (feq hc43_9).2 (by decide) (by decide) ?_
          show Steps p.tables e below (s₁.setTop (mkF m 51 #[.val (.long q1), .second, .val (.int p2), .val (.long y1), .second, .val (.int (p2 &&& (3 : Int32))), .val (.double (FP.ddiv (FP.l2d y1) (4845873199050653696 : UInt64))), .second, .unset, .unset] [])) _
          refine XS.dload X0.here hx rfl (hb hby at_51) rfl ?_
          show Steps p.tables e below (s₁.setTop (mkF m 53 #[.val (.long q1), .second, .val (.int p2), .val (.long y1), .second, .val (.int (p2 &&& (3 : Int32))), .val (.double (FP.ddiv (FP.l2d y1) (4845873199050653696 : UInt64))), .second, .unset, .unset] [(.double (FP.ddiv (FP.l2d y1) (4845873199050653696 : UInt64)))])) _
          refine st11 _ ?_
          show Steps p.tables e below (T11.setTop (mkF m 56 #[.val (.long q1), .second, .val (.int p2), .val (.long y1), .second, .val (.int (p2 &&& (3 : Int32))), .val (.double (FP.ddiv (FP.l2d y1) (4845873199050653696 : UInt64))), .second, .unset, .unset] [(.double (FP.ddiv (FP.l2d y1) (4845873199050653696 : UInt64)))])) _
          refine XS.dstore X11.here hx rfl (hb hby at_56) rfl (l' := #[.val (.long q1), .second, .val (.int p2), .val (.long y1), .second, .val (.int (p2 &&& (3 : Int32))), .val (.double (FP.ddiv (FP.l2d y1) (4845873199050653696 : UInt64))), .second, .val (.double (FP.ddiv (FP.l2d y1) (4845873199050653696 : UInt64))), .second]) rfl ?_
          show Steps p.tables e below (T11.setTop (mkF m 58 #[.val (.long q1), .second, .val (.int p2), .val (.long y1), .second, .val (.int (p2 &&& (3 : Int32))), .val (.double (FP.ddiv (FP.l2d y1) (4845873199050653696 : UInt64))), .second, .val (.double (FP.ddiv (FP.l2d y1) (4845873199050653696 : UInt64))), .second] [])) _
          refine XS.dload X11.here hx rfl (hb hby at_58) rfl ?_
          show Steps p.tables e below (T11.setTop (mkF m 60 #[.val (.long q1), .second, .val (.int p2), .val (.long y1), .second, .val (.int (p2 &&& (3 : Int32))), .val (.double (FP.ddiv (FP.l2d y1) (4845873199050653696 : UInt64))), .second, .val (.double (FP.ddiv (FP.l2d y1) (4845873199050653696 : UInt64))), .second] [(.double (FP.ddiv (FP.l2d y1) (4845873199050653696 : UInt64)))])) _
          refine XS.dload X11.here hx rfl (hb hby at_60) rfl ?_
          show Steps p.tables e below (T11.setTop (mkF m 62 #[.val (.long q1), .second, .val (.int p2), .val (.long y1), .second, .val (.int (p2 &&& (3 : Int32))), .val (.double (FP.ddiv (FP.l2d y1) (4845873199050653696 : UInt64))), .second, .val (.double (FP.ddiv (FP.l2d y1) (4845873199050653696 : UInt64))), .second] [(.double (FP.ddiv (FP.l2d y1) (4845873199050653696 : UInt64))), (.double (FP.ddiv (FP.l2d y1) (4845873199050653696 : UInt64)))])) _
          refine XS.dcmpS X11.here hx rfl (hb hby at_62) rfl rfl ?_
          show Steps p.tables e below (T11.setTop (mkF m 63 #[.val (.long q1), .second, .val (.int p2), .val (.long y1), .second, .val (.int (p2 &&& (3 : Int32))), .val (.double (FP.ddiv (FP.l2d y1) (4845873199050653696 : UInt64))), .second, .val (.double (FP.ddiv (FP.l2d y1) (4845873199050653696 : UInt64))), .second] [(.int (cmpValue (FP.dcmp (FP.ddiv (FP.l2d y1) (4845873199050653696 : UInt64)) (FP.ddiv (FP.l2d y1) (4845873199050653696 : UInt64))) .l))])) _
          refine XS.ifNo X11.here hx rfl (hb hby at_63) rfl ((if0 _ _).trans (teq ((own_kf hkb.1 hkb.2).2.1 : ((cmpValue (FP.dcmp (FP.ddiv (FP.l2d y1) (4845873199050653696 : UInt64)) (FP.ddiv (FP.l2d y1) (4845873199050653696 : UInt64))) .l) = (0 : Int32)))).2) ?_
          show Steps p.tables e below (T11.setTop (mkF m 66 #[.val (.long q1), .second, .val (.int p2), .val (.long y1), .second, .val (.int (p2 &&& (3 : Int32))), .val (.double (FP.ddiv (FP.l2d y1) (4845873199050653696 : UInt64))), .second, .val (.double (FP.ddiv (FP.l2d y1) (4845873199050653696 : UInt64))), .second] [])) _
          refine XS.dload X11.here hx rfl (hb hby at_66) rfl ?_
          show Steps p.tables e below (T11.setTop (mkF m 68 #[.val (.long q1), .second, .val (.int p2), .val (.long y1), .second, .val (.int (p2 &&& (3 : Int32))), .val (.double (FP.ddiv (FP.l2d y1) (4845873199050653696 : UInt64))), .second, .val (.double (FP.ddiv (FP.l2d y1) (4845873199050653696 : UInt64))), .second] [(.double (FP.ddiv (FP.l2d y1) (4845873199050653696 : UInt64)))])) _
          refine XS.dconst0 X11.here hx rfl (hb hby at_68) rfl ?_
          show Steps p.tables e below (T11.setTop (mkF m 69 #[.val (.long q1), .second, .val (.int p2), .val (.long y1), .second, .val (.int (p2 &&& (3 : Int32))), .val (.double (FP.ddiv (FP.l2d y1) (4845873199050653696 : UInt64))), .second, .val (.double (FP.ddiv (FP.l2d y1) (4845873199050653696 : UInt64))), .second] [(.double FP.dconst0), (.double (FP.ddiv (FP.l2d y1) (4845873199050653696 : UInt64)))])) _
          refine XS.dcmpS X11.here hx rfl (hb hby at_69) rfl rfl ?_
          show Steps p.tables e below (T11.setTop (mkF m 70 #[.val (.long q1), .second, .val (.int p2), .val (.long y1), .second, .val (.int (p2 &&& (3 : Int32))), .val (.double (FP.ddiv (FP.l2d y1) (4845873199050653696 : UInt64))), .second, .val (.double (FP.ddiv (FP.l2d y1) (4845873199050653696 : UInt64))), .second] [(.int (cmpValue (FP.dcmp (FP.ddiv (FP.l2d y1) (4845873199050653696 : UInt64)) FP.dconst0) .l))])) _
          refine XS.ifNo X11.here hx rfl (hb hby at_70) rfl ((if0 _ _).trans (flt ((own_kf hkb.1 hkb.2).2.2.1 : ¬ ((cmpValue (FP.dcmp (FP.ddiv (FP.l2d y1) (4845873199050653696 : UInt64)) FP.dconst0) .l) < (0 : Int32)))).1) ?_
          show Steps p.tables e below (T11.setTop (mkF m 73 #[.val (.long q1), .second, .val (.int p2), .val (.long y1), .second, .val (.int (p2 &&& (3 : Int32))), .val (.double (FP.ddiv (FP.l2d y1) (4845873199050653696 : UInt64))), .second, .val (.double (FP.ddiv (FP.l2d y1) (4845873199050653696 : UInt64))), .second] [])) _
          refine XS.dload X11.here hx rfl (hb hby at_73) rfl ?_
          show Steps p.tables e below (T11.setTop (mkF m 75 #[.val (.long q1), .second, .val (.int p2), .val (.long y1), .second, .val (.int (p2 &&& (3 : Int32))), .val (.double (FP.ddiv (FP.l2d y1) (4845873199050653696 : UInt64))), .second, .val (.double (FP.ddiv (FP.l2d y1) (4845873199050653696 : UInt64))), .second] [(.double (FP.ddiv (FP.l2d y1) (4845873199050653696 : UInt64)))])) _
          refine XS.dconst1 X11.here hx rfl (hb hby at_75) rfl ?_
          show Steps p.tables e below (T11.setTop (mkF m 76 #[.val (.long q1), .second, .val (.int p2), .val (.long y1), .second, .val (.int (p2 &&& (3 : Int32))), .val (.double (FP.ddiv (FP.l2d y1) (4845873199050653696 : UInt64))), .second, .val (.double (FP.ddiv (FP.l2d y1) (4845873199050653696 : UInt64))), .second] [(.double FP.dconst1), (.double (FP.ddiv (FP.l2d y1) (4845873199050653696 : UInt64)))])) _
          refine XS.dcmpS X11.here hx rfl (hb hby at_76) rfl rfl ?_
          show Steps p.tables e below (T11.setTop (mkF m 77 #[.val (.long q1), .second, .val (.int p2), .val (.long y1), .second, .val (.int (p2 &&& (3 : Int32))), .val (.double (FP.ddiv (FP.l2d y1) (4845873199050653696 : UInt64))), .second, .val (.double (FP.ddiv (FP.l2d y1) (4845873199050653696 : UInt64))), .second] [(.int (cmpValue (FP.dcmp (FP.ddiv (FP.l2d y1) (4845873199050653696 : UInt64)) FP.dconst1) .g))])) _
          refine XS.ifNo X11.here hx rfl (hb hby at_77) rfl ((if0 _ _).trans (tlt ((own_kf hkb.1 hkb.2).2.2.2 : ((cmpValue (FP.dcmp (FP.ddiv (FP.l2d y1) (4845873199050653696 : UInt64)) FP.dconst1) .g) < (0 : Int32)))).2.1) ?_
          show Steps p.tables e below (T11.setTop (mkF m 80 #[.val (.long q1), .second, .val (.int p2), .val (.long y1), .second, .val (.int (p2 &&& (3 : Int32))), .val (.double (FP.ddiv (FP.l2d y1) (4845873199050653696 : UInt64))), .second, .val (.double (FP.ddiv (FP.l2d y1) (4845873199050653696 : UInt64))), .second] [])) _
          refine XS.iconst X11.here hx rfl (hb hby at_80) ?_
          show Steps p.tables e below (T11.setTop (mkF m 81 #[.val (.long q1), .second, .val (.int p2), .val (.long y1), .second, .val (.int (p2 &&& (3 : Int32))), .val (.double (FP.ddiv (FP.l2d y1) (4845873199050653696 : UInt64))), .second, .val (.double (FP.ddiv (FP.l2d y1) (4845873199050653696 : UInt64))), .second] [(.int (1 : Int32))])) _
          refine XS.goto X11.here hx rfl (pc0 := 81) (pc' := 85) rfl (hb hby at_81) (by decide) (by decide) ?_
          show Steps p.tables e below (T11.setTop (mkF m 85 #[.val (.long q1), .second, .val (.int p2), .val (.long y1), .second, .val (.int (p2 &&& (3 : Int32))), .val (.double (FP.ddiv (FP.l2d y1) (4845873199050653696 : UInt64))), .second, .val (.double (FP.ddiv (FP.l2d y1) (4845873199050653696 : UInt64))), .second] [(.int (1 : Int32))])) _
          exact retN X11 hx (t := .boolean) Bd.returns (by simp) (hb hby at_85) hr
        · show Q_rm0 Z q1 p2 h0 n0 _ T11.heap _
          rw [e11]
          exact ⟨rfl, N11⟩
set_option maxRecDepth 65536 in
set_option maxHeartbeats 40000000 in
theorem comes_1 {Post : Tables → Env → Array Value → State → Outcome → State → Prop} (hpost : ∀ tb e args s v u, (limb_1_1.after args s (.returned v) u = true ∧ limb_1_2.after args s (.returned v) u = true ∧ True) → FrameEnd s (.returned v) u (Jvm.fieldLocs frame_1_writes args s ++ Jvm.arrayLocs frame_1_arrays args s ++ Jvm.staticLocs frame_1_statics s) 0 0 → Post tb e args s (.returned v) u) :
    ArmFor flags0 classFile x code maxLocals ret World_1 tables_1 room_1 Calls_1 rest_1 Pre_1 Post := by
  intro l hfl _ _ p e ha hc hk s m args below hf hA hF happ hP
  obtain ⟨hcalls, hrest, hpre⟩ := hP
  obtain ⟨-, -, -, hnamed, -, -, -, hat⟩ := (Spec.applies_iff hf).mp happ
  obtain ⟨hg, hn⟩ := and_e (Cond.before_iff.mp (show (Jvm.Cond.and given_1 narrow_1).before args s = true from hpre))
  obtain ⟨g0, gr0⟩ := and_e hg
  obtain ⟨ga0, gr1⟩ := and_e gr0
  obtain ⟨w0, w1, rfl⟩ : ∃ w0 w1 : Value, args = #[w0, w1] := by
    have hs : args.size = 2 := by simpa [Cond.value, given_1] using g0
    obtain ⟨L⟩ := args
    match L, hs with
    | [w0, w1], _ => exact ⟨w0, w1, rfl⟩
  have hw := fun d (hd : d ∈ tables_1) => atoms_spec (ws := Jvm.Cond.code x code maxLocals ret :: tables_1) hat d (List.mem_cons_of_mem _ hd)
  have hfit : Fit s := fun {y c} hc i hi => by
    obtain ⟨ha, rfl⟩ := Array.getElem?_eq_some_iff.mp hc
    have q := List.all_eq_true.mp ((Array.all_eq_true_iff_forall_mem.mp hF) _ (Array.getElem_mem ha)) i (List.mem_range.mpr hi)
    simpa [Array.getElem?_eq_getElem hi] using q
  obtain ⟨i0, ei0⟩ := isL_v ga0
  obtain rfl : w0 = (.long i0) := Option.some.inj ei0
  obtain ⟨i1, ei1⟩ := is_v gr1
  obtain rfl : w1 = (.int i1) := Option.some.inj ei1
  obtain ⟨n, o, h1, h2, h3, _, L, rfl, ⟨rfl, N⟩, hq⟩ := rm0 l s _ hw tables_1 i0 i1 s.heap s.heap.size (Nat.le_refl _) p e ha hc hk s m _ below hf ((Spec.applies_iff_loose hf).mp happ).1 ⟨rfl, State.Warmed39.refl s, rfl⟩ trivial
  refine ⟨n, _, h1, h2, h3, hpost _ _ _ _ _ _ ⟨Cond.after_iff.mpr rfl, Cond.after_iff.mpr (eq_i res_at (Term.int_eval (1)) rfl), trivial⟩ ⟨hq.1, hq.2.1, (hq.2.2.sift fun y hy => Or.inr (N y hy)).mono (by decide) (by decide)⟩⟩
theorem main_1_1 : Claimed_1_1 := comes_1 fun _ _ _ _ _ _ h hF => ⟨h.1, hF⟩
theorem main_1_2 : Claimed_1_2 := comes_1 fun _ _ _ _ _ _ h hF => ⟨h.2.1, hF⟩
end Jvm.Pilot.@@N@@
namespace Jvm.Pilot.@@N@@
open Jvm Jvm.ClassFile Sem Op Lib Jvm.Free Jvm.Stand Jvm.Pilot.@@N@@.Jvm.D
/-! MADE BY PROGRAM (witnessworld.py) out of the Statement's table words and the real class files: 9 classes; the members and pool entries that the words name. The judged class is class 1, her method 1. -/
namespace start1
open Jvm.ClassFile
def u (s : String) : CpInfo := .utf8 (stringToUtf16 s)
/-- a pool by its gaps: so many unusable entries, then the entry; so many at the end -/
def gap : Nat → List CpInfo → List CpInfo
  | 0, r => r
  | n + 1, r => .unusable :: gap n r
def poolList (es : List (Nat × CpInfo)) (last : Nat) : List CpInfo := es.foldr (fun e r => gap e.1 (e.2 :: r)) (gap last [])
def pool (es : List (Nat × CpInfo)) (last : Nat) : Array CpInfo := ⟨poolList es last⟩
def fileOf (pool : Array CpInfo) (this : Nat) (attrs : Array Attribute := #[]) (ms : Array MethodInfo := #[]) (fl : Nat := 33) (sup : Nat := 0) (ifs : Array Nat := #[]) (fds : Array FieldInfo := #[]) : ClassFile where
  minorVersion := 0
  majorVersion := 65
  constantPool := pool
  accessFlags := fl
  thisClass := this
  superClass := sup
  interfaces := ifs
  fields := fds
  methods := ms
  attributes := attrs
def plain (name : String) (sup : Option ClassId) : Class where
  name := name
  kind := .ordinary
  loader := none
  accessFlags := 33
  super := sup
  interfaces := #[]
  cf := none
  fields := #[]
  methods := #[]
  instanceTypes := #[]
  staticTypes := #[]
  resolved := #[]
  callSites := []
  init := .initialized
  statics := none
  mirror := none

def pool0 : Array CpInfo := pool [(5, u "<init>"), (0, u "()V"), (1, .class_ 10), (1, u "java/lang/Object")] 113

def k0m0 : Method := { name := "<init>", desc := "()V", sig := { parameters := [], returnType := none }, accessFlags := 1, code := none }
/-- java/lang/Object -/
def k0 : Class := { plain "java/lang/Object" none with
  accessFlags := 33
  interfaces := #[]
  cf := some (fileOf pool0 8 #[] #[{ accessFlags := 1, nameIndex := 5, descriptorIndex := 6, attributes := #[] }] 33 0 #[] #[])
  fields := #[]
  methods := #[k0m0]
  instanceTypes := #[]
  staticTypes := #[]
  resolved := Array.replicate 124 none
  statics := none }

def pool1 : Array CpInfo := pool [(2, .class_ 4), (1, u "java/lang/Object"), (0, u "<init>"), (0, u "()V"), (0, .class_ 8), (0, u "nachbar/sim/VirtualNetworkCheckLossPinLaw"), (0, .long 9007199254740991), (1, .double 4845873199050653696), (1, .double 9223372036854775808), (1, .methodref 16 17), (0, .class_ 18), (0, .nameAndType 19 20), (0, u "nachbar/sim/VirtualNetwork"), (0, u "checkLoss"), (0, u "(D)D"), (0, u "MASK53"), (0, u "J"), (3, u "law"), (0, u "(JI)Z")] 3

def k1m0 : Method := { name := "<init>", desc := "()V", sig := { parameters := [], returnType := none }, accessFlags := 1, code := none }
def k1c1 : Code := { maxStack := 4, maxLocals := 10, code := code, exceptionTable := #[], attributes := #[] }
def k1m1 : Method := { name := "law", desc := "(JI)Z", sig := { parameters := [.long, .int], returnType := some .boolean }, accessFlags := 9, code := some k1c1 }
/-- nachbar/sim/VirtualNetworkCheckLossPinLaw -/
def k1 : Class := { plain "nachbar/sim/VirtualNetworkCheckLossPinLaw" (some 0) with
  accessFlags := 49
  interfaces := #[]
  cf := some (fileOf pool1 7 #[] #[{ accessFlags := 1, nameIndex := 5, descriptorIndex := 6, attributes := #[] }, { accessFlags := 9, nameIndex := 26, descriptorIndex := 27, attributes := #[] }] 49 2 #[] #[{ accessFlags := 26, nameIndex := 21, descriptorIndex := 22, attributes := #[] }])
  fields := #[{ name := "MASK53", type := .long, accessFlags := 26, slot := 0, constantValue := 0 }]
  methods := #[k1m0, k1m1]
  instanceTypes := #[]
  staticTypes := #[.long]
  resolved := Array.replicate 31 none
  statics := none }

def pool2 : Array CpInfo := pool [(6, u "Lnachbar/service/StorageLimits;"), (1, .class_ 10), (1, u "nachbar/sim/VirtualNetwork"), (11, .class_ 24), (1, u "java/lang/Object"), (6, u "clock"), (0, u "Lnachbar/sim/VirtualClock;"), (5, u "stations"), (0, u "Ljava/util/Map;"), (2, u "checkLoss"), (0, u "(D)D"), (2, u "loss"), (0, u "D"), (12, u "random"), (0, u "Ljava/util/Random;"), (4, u "limits"), (10, u "delays"), (0, u "Lnachbar/sim/Delays;"), (2, u "lastGiven"), (0, u "I"), (28, .class_ 112), (0, u "nachbar/sim/VirtualNetwork$Station"), (59, u "datagrams"), (0, u "J"), (2, u "bytes"), (2, u "lost"), (2, .class_ 183), (0, u "nachbar/sim/VirtualNetwork$Watcher"), (2, u "watcher"), (0, u "Lnachbar/sim/VirtualNetwork$Watcher;"), (92, u "MAX_NODES"), (1, u "PORT")] 69

def k2c0 : Code := { maxStack := 4, maxLocals := 2, code := prog_152_method_16_code, exceptionTable := #[], attributes := #[] }
def k2m0 : Method := { name := "checkLoss", desc := "(D)D", sig := { parameters := [.double], returnType := some .double }, accessFlags := 8, code := some k2c0 }
/-- nachbar/sim/VirtualNetwork -/
def k2 : Class := { plain "nachbar/sim/VirtualNetwork" (some 0) with
  accessFlags := 49
  interfaces := #[]
  cf := some (fileOf pool2 8 #[.nestMembers #[111, 182]] #[{ accessFlags := 8, nameIndex := 42, descriptorIndex := 43, attributes := #[] }] 49 22 #[] #[{ accessFlags := 25, nameIndex := 280, descriptorIndex := 82, attributes := #[] }, { accessFlags := 25, nameIndex := 282, descriptorIndex := 82, attributes := #[] }, { accessFlags := 18, nameIndex := 31, descriptorIndex := 32, attributes := #[] }, { accessFlags := 18, nameIndex := 77, descriptorIndex := 78, attributes := #[] }, { accessFlags := 18, nameIndex := 46, descriptorIndex := 47, attributes := #[] }, { accessFlags := 18, nameIndex := 60, descriptorIndex := 61, attributes := #[] }, { accessFlags := 18, nameIndex := 66, descriptorIndex := 6, attributes := #[] }, { accessFlags := 18, nameIndex := 38, descriptorIndex := 39, attributes := #[] }, { accessFlags := 2, nameIndex := 81, descriptorIndex := 82, attributes := #[] }, { accessFlags := 2, nameIndex := 172, descriptorIndex := 173, attributes := #[] }, { accessFlags := 2, nameIndex := 176, descriptorIndex := 173, attributes := #[] }, { accessFlags := 2, nameIndex := 179, descriptorIndex := 173, attributes := #[] }, { accessFlags := 2, nameIndex := 186, descriptorIndex := 187, attributes := #[] }])
  fields := #[{ name := "MAX_NODES", type := .int, accessFlags := 25, slot := 0, constantValue := 0 }, { name := "PORT", type := .int, accessFlags := 25, slot := 1, constantValue := 0 }, { name := "clock", type := (.object "nachbar/sim/VirtualClock"), accessFlags := 18, slot := 0, constantValue := 0 }, { name := "delays", type := (.object "nachbar/sim/Delays"), accessFlags := 18, slot := 1, constantValue := 0 }, { name := "loss", type := .double, accessFlags := 18, slot := 2, constantValue := 0 }, { name := "random", type := (.object "java/util/Random"), accessFlags := 18, slot := 3, constantValue := 0 }, { name := "limits", type := (.object "nachbar/service/StorageLimits"), accessFlags := 18, slot := 4, constantValue := 0 }, { name := "stations", type := (.object "java/util/Map"), accessFlags := 18, slot := 5, constantValue := 0 }, { name := "lastGiven", type := .int, accessFlags := 2, slot := 6, constantValue := 0 }, { name := "datagrams", type := .long, accessFlags := 2, slot := 7, constantValue := 0 }, { name := "bytes", type := .long, accessFlags := 2, slot := 8, constantValue := 0 }, { name := "lost", type := .long, accessFlags := 2, slot := 9, constantValue := 0 }, { name := "watcher", type := (.object "nachbar/sim/VirtualNetwork$Watcher"), accessFlags := 2, slot := 10, constantValue := 0 }]
  methods := #[k2m0]
  instanceTypes := #[(.object "nachbar/sim/VirtualClock"), (.object "nachbar/sim/Delays"), .double, (.object "java/util/Random"), (.object "nachbar/service/StorageLimits"), (.object "java/util/Map"), .int, .long, .long, .long, (.object "nachbar/sim/VirtualNetwork$Watcher")]
  staticTypes := #[.int, .int]
  resolved := Array.replicate 352 none
  statics := none }

def pool3 : Array CpInfo := pool [(1, u "java/lang/Cloneable"), (0, .class_ 1), (0, u "java/lang/Object"), (0, .class_ 3)] 3

/-- java/lang/Cloneable -/
def k3 : Class := { plain "java/lang/Cloneable" (some 0) with
  accessFlags := 1537
  interfaces := #[]
  cf := some (fileOf pool3 2 #[] #[] 1537 4 #[] #[])
  fields := #[]
  methods := #[]
  instanceTypes := #[]
  staticTypes := #[]
  resolved := Array.replicate 8 none
  statics := none }

def pool4 : Array CpInfo := pool [(1, u "java/io/Serializable"), (0, .class_ 1), (0, u "java/lang/Object"), (0, .class_ 3)] 3

/-- java/io/Serializable -/
def k4 : Class := { plain "java/io/Serializable" (some 0) with
  accessFlags := 1537
  interfaces := #[]
  cf := some (fileOf pool4 2 #[] #[] 1537 4 #[] #[])
  fields := #[]
  methods := #[]
  instanceTypes := #[]
  staticTypes := #[]
  resolved := Array.replicate 8 none
  statics := none }

/-- the primitive byte -/
def k5 : Class := { plain "byte" none with kind := .primitive 'B', accessFlags := 0x411 }
/-- [B -/
def k6 : Class := { plain "[B" (some 0) with kind := .array 5 .byte, interfaces := #[3, 4], accessFlags := 1041 }

/-- the primitive int -/
def k7 : Class := { plain "int" none with kind := .primitive 'I', accessFlags := 0x411 }
/-- [I -/
def k8 : Class := { plain "[I" (some 0) with kind := .array 7 .int, interfaces := #[3, 4], accessFlags := 1041 }

def heap : Heap := #[]
def classes : Array Class := #[k0, k1, k2, k3, k4, k5, k6, k7, k8]
def interned : List (Array UInt16 × Addr) := []
def slotsUsed : Nat := 0
def theMethod : MethodId := ⟨1, 1⟩
def args0 : Array Value := #[.long 5, .int 7]
def aboutOver (below : List Frame) : State where
  vm := { classes := classes, interned := interned.toArray }
  heap := heap
  slotsUsed := slotsUsed
  threads := #[{ frames := .invoking theMethod args0 :: below }]
def below0 : List Frame := [.native { method := ⟨0, 0⟩, args := #[] }]
def about1 : State := aboutOver below0
def p0 : Program := .bare "" "" ""
def e0 : Env := launch0.env 0 0 0
theorem w_frames : about1.frames = Frame.invoking theMethod args0 :: below0 := rfl
set_option maxRecDepth 65536 in
theorem w_args : argsFit about1.vm theMethod args0 = true := by decide +kernel
set_option maxRecDepth 65536 in
theorem w_heap : heapFits about1 = true := by decide +kernel
set_option maxRecDepth 65536 in
theorem w_runnable : about1.curStatus? = some .runnable := by decide +kernel
set_option maxRecDepth 65536 in
theorem w_alone : about1.alone = true := by decide +kernel
set_option maxRecDepth 65536 in
theorem w_named : about1.methodNamed? x = some theMethod := by decide +kernel
set_option maxRecDepth 65536 in
theorem w_hears : about1.hears theMethod below0 = true := by decide +kernel
set_option maxRecDepth 65536 in
theorem w_ripe : about1.ripe theMethod args0 below0 = true := by decide +kernel
theorem w_running : about1.status = .running := rfl
set_option maxRecDepth 65536 in
theorem w_room : about1.hasRoom e0.platform room_1 = true :=
  launch0.hasRoom_least _ room_1 (by decide +kernel) (by decide +kernel) (by decide +kernel) (by decide +kernel) (by decide +kernel) (by decide +kernel)
theorem allAtoms_all (ts : List Jvm.Cond) (a : Array Jvm.Value) (st : Jvm.State) : (allAtoms ts).before a st = ts.all (fun c => c.before a st) := by
  induction ts with
  | nil => rfl
  | cons c t ih =>
    show (Jvm.Cond.and c (allAtoms t)).before a st = _
    rw [Jvm.Cond.before_and, ih, List.all_cons]
def words1 : List Jvm.Cond := Jvm.Cond.code x code maxLocals ret :: tables_1
/-- a 'code' word, met by the world's own term for the bytes: nothing is compared byte by byte -/
theorem code_word {y : MethodName} {bytes : ByteArray} {mx : Nat} {rt : Option FieldType} {a : Array Value} {s : State} {m : MethodId} {meth : Method} {c : Code} (h1 : s.methodNamed? y = some m) (h2 : s.vm.method? m = some meth) (h3 : meth.code = some c) (h4 : c.code = bytes)
    (h5 : (c.maxLocals == mx && c.exceptionTable.isEmpty && decide (c.maxStack ≤ mostOperands) && decide (meth.sig.returnType = rt) && !meth.locks && decide (parseMethodDescriptor y.desc = some meth.sig)) = true) : (Jvm.Cond.code y bytes mx rt).before a s = true := by
  simp only [Bool.and_eq_true, beq_iff_eq, Bool.not_eq_true', decide_eq_true_eq] at h5
  obtain ⟨⟨⟨⟨⟨g1, g2⟩, g3⟩, g4⟩, g5⟩, g6⟩ := h5
  simp [Cond.before, Cond.holds, Cond.value, h1, h2, h3, h4, g1, g2, g3, g4, g5, g6]
def isCode : Jvm.Cond → Bool
  | .code _ _ _ _ => true
  | _ => false
theorem all_split {L : List Jvm.Cond} {P : Jvm.Cond → Bool} (h1 : L.all (fun c => isCode c || P c) = true) (h2 : ∀ c ∈ L.filter isCode, P c = true) : L.all P = true := by
  refine List.all_eq_true.mpr fun c hc => ?_
  have h := List.all_eq_true.mp h1 c hc
  rcases Bool.eq_false_or_eq_true (isCode c) with hi | hi
  · exact h2 c (List.mem_filter.mpr ⟨hc, hi⟩)
  · simpa [hi] using h
set_option maxRecDepth 65536 in
theorem w_c0 : (Jvm.Cond.code x code maxLocals ret).before args0 about1 = true := code_word (m := ⟨1, 1⟩) (meth := k1m1) (c := k1c1) (by decide +kernel) rfl rfl rfl (by decide +kernel)
set_option maxRecDepth 65536 in
theorem w_c1 : (Jvm.Cond.code ({ cls := "nachbar/sim/VirtualNetwork", name := "checkLoss", desc := "(D)D" } : Jvm.MethodName) prog_152_method_16_code (2 : Nat) (Option.some Jvm.ClassFile.FieldType.double)).before args0 about1 = true := code_word (m := ⟨2, 0⟩) (meth := k2m0) (c := k2c0) (by decide +kernel) rfl rfl rfl (by decide +kernel)
def codes1 : List Jvm.Cond := [Jvm.Cond.code x code maxLocals ret, Jvm.Cond.code ({ cls := "nachbar/sim/VirtualNetwork", name := "checkLoss", desc := "(D)D" } : Jvm.MethodName) prog_152_method_16_code (2 : Nat) (Option.some Jvm.ClassFile.FieldType.double)]
set_option maxRecDepth 65536 in
theorem codes_eq : words1.filter isCode = codes1 := rfl
theorem w_codes : ∀ c ∈ words1.filter isCode, c.before args0 about1 = true := by
  rw [codes_eq]
  intro c hc
  simp only [codes1, List.mem_cons, List.not_mem_nil, or_false] at hc
  rcases hc with rfl | rfl
  · exact w_c0
  · exact w_c1
set_option maxRecDepth 65536 in
theorem w_t1 : words1.all (fun c => isCode c || c.before args0 about1) = true := by decide +kernel
theorem w_tables : (allAtoms (Jvm.Cond.code x code maxLocals ret :: tables_1)).before args0 about1 = true := by
  rw [allAtoms_all]
  show words1.all (fun c => c.before args0 about1) = true
  refine all_split ?_ w_codes
  rw [w_t1]
set_option maxRecDepth 65536 in
theorem w_case : (Jvm.Cond.and given_1 narrow_1).before args0 about1 = true := by decide +kernel
theorem w_applies : (headSpec (Jvm.Cond.code x code maxLocals ret :: tables_1) room_1).applies x e0.platform about1 = true :=
  (Spec.applies_iff w_frames).mpr ⟨w_running, w_runnable, w_alone, w_named, w_hears, w_ripe, w_room, w_tables⟩
theorem atStart : AtStart classFile x code maxLocals ret World_1 tables_1 room_1 Calls_1 rest_1 Pre_1 launch0 p0 e0 about1 theMethod args0 below0 :=
  ⟨lists_1, trivial, launch0.admits_env _ _ _, launch0.least_env, fairChoices_fair.cas, fairChoices_fair.clock, w_frames, w_args, w_heap, w_applies, trivial, trivial, w_case⟩
end start1
theorem witness_1 : WitnessClaimed_1 := ⟨start1.p0, start1.e0, start1.about1, start1.theMethod, start1.args0, start1.below0, start1.atStart⟩
end Jvm.Pilot.@@N@@
