import JvmDerived
import JvmDerived.Pilot.@@N@@Statement
import JvmDerived.Pilot.@@N@@Code
set_option linter.unusedVariables false
set_option linter.unusedSimpArgs false
namespace Jvm.RoadKit
open Sem ClassFile Op Lib Jvm.Stand Jvm.Free Jvm.LawKit
section New
variable {p : Program} {l : Launch} {e : Env} {R : Room} {s : State} {m : MethodId} {args : Array Value} {below : List Frame} {meth : Method} {c : Code} {T : State} {locs : List Loc} {cells slots : Nat}
theorem retI (X : Stand p l e R s m args below meth c T locs cells slots) (hx : p.tables.exec = Jvm.exec) {pc : Nat} {Ls : Array Slot} {z : Int32} {rest : List Value} (hret : meth.sig.returnType = some .int) (hd : decode c.code pc = .ok (.ireturn, 1)) {fs : List Frame}
    (hl : ∀ (f : JFrame) (acts : List Action), f.method = m → f.locked = none → f.entered = [] → (doReturn e (T.setTop f) acts (some (.int z))).1 = T.setFrames fs) : Steps p.tables e below (T.setTop (mkF m pc Ls (.int z :: rest))) (T.setFrames fs) := by
  have hm' : T.vm.method? m = some meth := X.method'
  have hn : narrow .int (.int z) = .int z := rfl
  show Steps p.tables e below (T.setTop { method := m, pc := pc, locals := Ls, stack := _ :: rest, locked := none }) _
  jvm_step X.here [X.here.top, hx, hd, hm', hret, hn]
  first | (intro acts; rw [hl _ acts rfl rfl rfl]) | rw [hl _ _ rfl rfl rfl]
  exact Steps.refl _
theorem retJ (X : Stand p l e R s m args below meth c T locs cells slots) (hx : p.tables.exec = Jvm.exec) {pc : Nat} {Ls : Array Slot} {z : Int64} {rest : List Value} (hret : meth.sig.returnType = some .long) (hd : decode c.code pc = .ok (.lreturn, 1)) {fs : List Frame}
    (hl : ∀ (f : JFrame) (acts : List Action), f.method = m → f.locked = none → f.entered = [] → (doReturn e (T.setTop f) acts (some (.long z))).1 = T.setFrames fs) : Steps p.tables e below (T.setTop (mkF m pc Ls (.long z :: rest))) (T.setFrames fs) := by
  have hm' : T.vm.method? m = some meth := X.method'
  have hn : narrow .long (.long z) = .long z := rfl
  show Steps p.tables e below (T.setTop { method := m, pc := pc, locals := Ls, stack := _ :: rest, locked := none }) _
  jvm_step X.here [X.here.top, hx, hd, hm', hret, hn]
  first | (intro acts; rw [hl _ acts rfl rfl rfl]) | rw [hl _ _ rfl rfl rfl]
  exact Steps.refl _
end New
end Jvm.RoadKit
namespace Jvm.Pilot.@@N@@
open Jvm Jvm.ClassFile Sem Op Lib Jvm.Free Jvm.Stand Jvm.LawKit Jvm.RoadKit Bundle Jvm.Pilot.@@N@@.Jvm.D
theorem own_fld {args : Array Value} {s : State} {t : Term} {a : Addr} {C n d : String} {k : Int32} (ev : t.eval args s none [] s = some (.ref a)) (h : (Jvm.Cond.eq (Term.field t C n d) (Term.int k)).value args s none s [] = some true) : Fld s s.heap a C n d (.int k) := by
  obtain ⟨x, y, hx, hy, k1, k2⟩ := cmp_v (Or.inl h)
  rw [Term.int_eval] at hy
  cases hy
  obtain ⟨z, rfl⟩ := k2
  obtain rfl : z = k := gotT (Cond.eq_ints hx (Term.int_eval k)) h
  rw [fld_at ev] at hx
  exact Fld.start hx
theorem pd_0 : parseMethodDescriptor "(JJJ)J" = some ⟨[.long, .long, .long], some .long⟩ := by decide +kernel
def own_card (a1 : Addr) (q2 : Int64) (q3 : Int64) (q4 : Int64) (kb : Int32) (kl : Int32) (kr : Int32) : Int64 := if kb = (0 : Int32) then if kl = (0 : Int32) then if kr = (0 : Int32) then (0 : Int64) else ((0 : Int64) + (q3 - q4)) else if kr = (0 : Int32) then ((0 : Int64) + (q2 - q4)) else (((0 : Int64) + (q2 - q4)) + (q3 - q4)) else if kl = (0 : Int32) then if kr = (0 : Int32) then q4 else (q4 + (q3 - q4)) else if kr = (0 : Int32) then (q4 + (q2 - q4)) else ((q4 + (q2 - q4)) + (q3 - q4))
theorem d1_0 : decode prog_109_method_4_code 0 = .ok (.aload_n 0, 1) := by decide +kernel
theorem d1_1 : decode prog_109_method_4_code 1 = .ok (.getfield 42, 3) := by decide +kernel
theorem d1_4 : decode prog_109_method_4_code 4 = .ok (.ifCond .eq 8, 3) := by decide +kernel
theorem d1_7 : decode prog_109_method_4_code 7 = .ok (.lload 5, 2) := by decide +kernel
theorem d1_9 : decode prog_109_method_4_code 9 = .ok (.goto 4, 3) := by decide +kernel
theorem d1_12 : decode prog_109_method_4_code 12 = .ok (.lconst 0, 1) := by decide +kernel
theorem d1_13 : decode prog_109_method_4_code 13 = .ok (.lstore 7, 2) := by decide +kernel
theorem d1_15 : decode prog_109_method_4_code 15 = .ok (.aload_n 0, 1) := by decide +kernel
theorem d1_16 : decode prog_109_method_4_code 16 = .ok (.getfield 35, 3) := by decide +kernel
theorem d1_19 : decode prog_109_method_4_code 19 = .ok (.ifCond .eq 12, 3) := by decide +kernel
theorem d1_22 : decode prog_109_method_4_code 22 = .ok (.lload 7, 2) := by decide +kernel
theorem d1_24 : decode prog_109_method_4_code 24 = .ok (.lload_n 1, 1) := by decide +kernel
theorem d1_25 : decode prog_109_method_4_code 25 = .ok (.lload 5, 2) := by decide +kernel
theorem d1_27 : decode prog_109_method_4_code 27 = .ok (.lsub, 1) := by decide +kernel
theorem d1_28 : decode prog_109_method_4_code 28 = .ok (.ladd, 1) := by decide +kernel
theorem d1_29 : decode prog_109_method_4_code 29 = .ok (.lstore 7, 2) := by decide +kernel
theorem d1_31 : decode prog_109_method_4_code 31 = .ok (.aload_n 0, 1) := by decide +kernel
theorem d1_32 : decode prog_109_method_4_code 32 = .ok (.getfield 39, 3) := by decide +kernel
theorem d1_35 : decode prog_109_method_4_code 35 = .ok (.ifCond .eq 12, 3) := by decide +kernel
theorem d1_38 : decode prog_109_method_4_code 38 = .ok (.lload 7, 2) := by decide +kernel
theorem d1_40 : decode prog_109_method_4_code 40 = .ok (.lload_n 3, 1) := by decide +kernel
theorem d1_41 : decode prog_109_method_4_code 41 = .ok (.lload 5, 2) := by decide +kernel
theorem d1_43 : decode prog_109_method_4_code 43 = .ok (.lsub, 1) := by decide +kernel
theorem d1_44 : decode prog_109_method_4_code 44 = .ok (.ladd, 1) := by decide +kernel
theorem d1_45 : decode prog_109_method_4_code 45 = .ok (.lstore 7, 2) := by decide +kernel
theorem d1_47 : decode prog_109_method_4_code 47 = .ok (.lload 7, 2) := by decide +kernel
theorem d1_49 : decode prog_109_method_4_code 49 = .ok (.lreturn, 1) := by decide +kernel
theorem pn_rm1 : plainName "com/example/bitstrata/bitstrata/SetOperation" = true := by first | (simp [plainName, overriddenIn]; done) | decide +kernel
theorem ef_rm1 (m : MethodId) (x0 : Addr) (x1 : Int64) (x2 : Int64) (x3 : Int64) : entryFrame m #[(.ref x0), (.long x1), (.long x2), (.long x3)] 9 = mkF m 0 #[.val (.ref x0), .val (.long x1), .second, .val (.long x2), .second, .val (.long x3), .second, .unset, .unset] [] := by first | (simp [entryFrame, mkF, argsToLocals, Value.category]; done) | rfl
def Q_rm1 (Z : State) (a1 : Addr) (q2 : Int64) (q3 : Int64) (q4 : Int64) (kb : Int32) (kl : Int32) (kr : Int32) (h0 : Heap) (n0 : Nat) (v : Option Value) (h : Heap) (L : List Loc) : Prop := v = some (.long (own_card a1 q2 q3 q4 kb kl kr)) ∧ Fr n0 L ∧ h = h0
set_option maxRecDepth 65536 in
set_option maxHeartbeats 40000000 in
theorem rm1 (l : Launch) (Z : State) (a0 : Array Value) (hw : ∀ d ∈ tables_1, d.before a0 Z = true) (ws : List Jvm.Cond) (a1 : Addr) (q2 : Int64) (q3 : Int64) (q4 : Int64) (kb : Int32) (kl : Int32) (kr : Int32) (h0 : Heap) (n0 : Nat) (Z0 : n0 ≤ h0.size) (F_kb : Fld Z h0 a1 "com/example/bitstrata/bitstrata/SetOperation" "keepsBoth" "Z" (.int kb)) (F_kl : Fld Z h0 a1 "com/example/bitstrata/bitstrata/SetOperation" "keepsLeftOnly" "Z" (.int kl)) (F_kr : Fld Z h0 a1 "com/example/bitstrata/bitstrata/SetOperation" "keepsRightOnly" "Z" (.int kr)) :
    MetFree l (⟨"com/example/bitstrata/bitstrata/SetOperation", "cardinality", "(JJJ)J"⟩ : MethodName) (head1 (Jvm.Cond.code (⟨"com/example/bitstrata/bitstrata/SetOperation", "cardinality", "(JJJ)J"⟩ : MethodName) prog_109_method_4_code 9 (some .long) :: ws) ({ frames := 0, cells := 0, slots := 0, locals := 0 } : Room)) (fun a U => a = #[(.ref a1), (.long q2), (.long q3), (.long q4)] ∧ Z.Warmed39 U.vm ∧ U.heap = h0) (fun _ _ _ _ _ => True) (fun _ U o U' => ∃ v L, o = .returned v ∧ Q_rm1 Z a1 q2 q3 q4 kb kl kr h0 n0 v U'.heap L ∧ FrameEnd U o U' L ({ frames := 0, cells := 0, slots := 0, locals := 0 } : Room).cells ({ frames := 0, cells := 0, slots := 0, locals := 0 } : Room).slots) := by
  refine MetFree.of_bodySF (plainFor_of_name pn_rm1) hisR ?_
  intro p e s m args below meth c s₁ Bd hml0 hP hK
  obtain ⟨rfl, hZ, hh⟩ := hP
  have hx := Bd.exec
  have hby := Bd.bytes
  have hml : c.maxLocals = 9 := hml0
  have hown : s.vm.findClass "com/example/bitstrata/bitstrata/SetOperation" = some m.cls := findClass_of_methodNamed Bd.named
  have hnm := (name_of_methodNamed Bd.named Bd.method).1
  have X0 : Stand p l e ({ frames := 0, cells := 0, slots := 0, locals := 0 } : Room) s m #[(.ref a1), (.long q2), (.long q3), (.long q4)] below meth c s₁ [] 0 0 := Stand.of_body Bd
  have e0 : s₁.heap = h0 := by rw [← hh, Bd.state]; rfl
  have N0 := Fr.nil n0
  have pre0 : ∀ t, Steps p.tables e below (s₁.setTop (mkF m 0 #[.val (.ref a1), .val (.long q2), .second, .val (.long q3), .second, .val (.long q4), .second, .unset, .unset] [])) t → Steps p.tables e below (s₁.setTop (entryFrame m #[(.ref a1), (.long q2), (.long q3), (.long q4)] 9)) t := fun t k => castTop (ef_rm1 m a1 q2 q3 q4) k
  obtain ⟨T1, X1, e1, st1⟩ := getF X0 hx hZ hown (host := "") (Or.inl (hw _ (List.mem_of_getElem? (i := 9) rfl))) Via.refl e0 F_kb (g := (mkF m 1 #[.val (.ref a1), .val (.long q2), .second, .val (.long q3), .second, .val (.long q4), .second, .unset, .unset] [(.ref a1)])) rfl rfl (hb hby d1_1)
  have pre2 : ∀ t, Steps p.tables e below (T1.setTop (mkF m 4 #[.val (.ref a1), .val (.long q2), .second, .val (.long q3), .second, .val (.long q4), .second, .unset, .unset] [(.int kb)])) t → Steps p.tables e below (s₁.setTop (entryFrame m #[(.ref a1), (.long q2), (.long q3), (.long q4)] 9)) t := by
    intro t k
    refine pre0 t ?_
    show Steps p.tables e below (s₁.setTop (mkF m 0 #[.val (.ref a1), .val (.long q2), .second, .val (.long q3), .second, .val (.long q4), .second, .unset, .unset] [])) _
    refine XS.aloadN X0.here hx rfl (hb hby d1_0) rfl rfl ?_
    show Steps p.tables e below (s₁.setTop (mkF m 1 #[.val (.ref a1), .val (.long q2), .second, .val (.long q3), .second, .val (.long q4), .second, .unset, .unset] [(.ref a1)])) _
    refine st1 _ ?_
    exact k
  by_cases hc4_3 : kb = (0 : Int32)
  · obtain ⟨T4, X4, e4, st4⟩ := getF X1 hx hZ hown (host := "") (Or.inl (hw _ (List.mem_of_getElem? (i := 11) rfl))) Via.refl e1 F_kl (g := (mkF m 16 #[.val (.ref a1), .val (.long q2), .second, .val (.long q3), .second, .val (.long q4), .second, .val (.long (0 : Int64)), .second] [(.ref a1)])) rfl rfl (hb hby d1_16)
    have pre5 : ∀ t, Steps p.tables e below (T4.setTop (mkF m 19 #[.val (.ref a1), .val (.long q2), .second, .val (.long q3), .second, .val (.long q4), .second, .val (.long (0 : Int64)), .second] [(.int kl)])) t → Steps p.tables e below (s₁.setTop (entryFrame m #[(.ref a1), (.long q2), (.long q3), (.long q4)] 9)) t := by
      intro t k
      refine pre2 t ?_
      show Steps p.tables e below (T1.setTop (mkF m 4 #[.val (.ref a1), .val (.long q2), .second, .val (.long q3), .second, .val (.long q4), .second, .unset, .unset] [(.int kb)])) _
      refine XS.ifYes X1.here hx rfl (pc0 := 4) (pc' := 12) rfl (hb hby d1_4) rfl ((if0 _ _).trans (teq hc4_3).1) (by decide) (by decide) ?_
      show Steps p.tables e below (T1.setTop (mkF m 12 #[.val (.ref a1), .val (.long q2), .second, .val (.long q3), .second, .val (.long q4), .second, .unset, .unset] [])) _
      refine XS.lconst X1.here hx rfl (hb hby d1_12) ?_
      show Steps p.tables e below (T1.setTop (mkF m 13 #[.val (.ref a1), .val (.long q2), .second, .val (.long q3), .second, .val (.long q4), .second, .unset, .unset] [(.long (0 : Int64))])) _
      refine XS.lstore X1.here hx rfl (hb hby d1_13) rfl (l' := #[.val (.ref a1), .val (.long q2), .second, .val (.long q3), .second, .val (.long q4), .second, .val (.long (0 : Int64)), .second]) rfl ?_
      show Steps p.tables e below (T1.setTop (mkF m 15 #[.val (.ref a1), .val (.long q2), .second, .val (.long q3), .second, .val (.long q4), .second, .val (.long (0 : Int64)), .second] [])) _
      refine XS.aloadN X1.here hx rfl (hb hby d1_15) rfl rfl ?_
      show Steps p.tables e below (T1.setTop (mkF m 16 #[.val (.ref a1), .val (.long q2), .second, .val (.long q3), .second, .val (.long q4), .second, .val (.long (0 : Int64)), .second] [(.ref a1)])) _
      refine st4 _ ?_
      exact k
    by_cases hc19_6 : kl = (0 : Int32)
    · obtain ⟨T7, X7, e7, st7⟩ := getF X4 hx hZ hown (host := "") (Or.inl (hw _ (List.mem_of_getElem? (i := 13) rfl))) Via.refl e4 F_kr (g := (mkF m 32 #[.val (.ref a1), .val (.long q2), .second, .val (.long q3), .second, .val (.long q4), .second, .val (.long (0 : Int64)), .second] [(.ref a1)])) rfl rfl (hb hby d1_32)
      have pre8 : ∀ t, Steps p.tables e below (T7.setTop (mkF m 35 #[.val (.ref a1), .val (.long q2), .second, .val (.long q3), .second, .val (.long q4), .second, .val (.long (0 : Int64)), .second] [(.int kr)])) t → Steps p.tables e below (s₁.setTop (entryFrame m #[(.ref a1), (.long q2), (.long q3), (.long q4)] 9)) t := by
        intro t k
        refine pre5 t ?_
        show Steps p.tables e below (T4.setTop (mkF m 19 #[.val (.ref a1), .val (.long q2), .second, .val (.long q3), .second, .val (.long q4), .second, .val (.long (0 : Int64)), .second] [(.int kl)])) _
        refine XS.ifYes X4.here hx rfl (pc0 := 19) (pc' := 31) rfl (hb hby d1_19) rfl ((if0 _ _).trans (teq hc19_6).1) (by decide) (by decide) ?_
        show Steps p.tables e below (T4.setTop (mkF m 31 #[.val (.ref a1), .val (.long q2), .second, .val (.long q3), .second, .val (.long q4), .second, .val (.long (0 : Int64)), .second] [])) _
        refine XS.aloadN X4.here hx rfl (hb hby d1_31) rfl rfl ?_
        show Steps p.tables e below (T4.setTop (mkF m 32 #[.val (.ref a1), .val (.long q2), .second, .val (.long q3), .second, .val (.long q4), .second, .val (.long (0 : Int64)), .second] [(.ref a1)])) _
        refine st7 _ ?_
        exact k
      by_cases hc35_9 : kr = (0 : Int32)
      · obtain ⟨fs, hr, hrun, hended, hW, hsame⟩ := X7.leave (v := some (.long (0 : Int64))) (fun h => by rw [Bd.returns] at h; cases h)
        refine ⟨_, _, pre8 _ ?_, hrun, hended, _, _, rfl, ?_, ⟨_, rfl⟩, hW, hsame.mono (by decide) (by decide)⟩
        · show Steps p.tables e below (T7.setTop (mkF m 35 #[.val (.ref a1), .val (.long q2), .second, .val (.long q3), .second, .val (.long q4), .second, .val (.long (0 : Int64)), .second] [(.int kr)])) _
          refine XS.ifYes X7.here hx rfl (pc0 := 35) (pc' := 47) rfl (hb hby d1_35) rfl ((if0 _ _).trans (teq hc35_9).1) (by decide) (by decide) ?_
          show Steps p.tables e below (T7.setTop (mkF m 47 #[.val (.ref a1), .val (.long q2), .second, .val (.long q3), .second, .val (.long q4), .second, .val (.long (0 : Int64)), .second] [])) _
          refine XS.lload X7.here hx rfl (hb hby d1_47) rfl ?_
          show Steps p.tables e below (T7.setTop (mkF m 49 #[.val (.ref a1), .val (.long q2), .second, .val (.long q3), .second, .val (.long q4), .second, .val (.long (0 : Int64)), .second] [(.long (0 : Int64))])) _
          exact retJ X7 hx Bd.returns (hb hby d1_49) hr
        · show Q_rm1 Z a1 q2 q3 q4 kb kl kr h0 n0 _ T7.heap _
          rw [e7]
          exact ⟨by rw [own_card, if_pos hc4_3, if_pos hc19_6, if_pos hc35_9], N0, rfl⟩
      · obtain ⟨fs, hr, hrun, hended, hW, hsame⟩ := X7.leave (v := some (.long ((0 : Int64) + (q3 - q4)))) (fun h => by rw [Bd.returns] at h; cases h)
        refine ⟨_, _, pre8 _ ?_, hrun, hended, _, _, rfl, ?_, ⟨_, rfl⟩, hW, hsame.mono (by decide) (by decide)⟩
        · show Steps p.tables e below (T7.setTop (mkF m 35 #[.val (.ref a1), .val (.long q2), .second, .val (.long q3), .second, .val (.long q4), .second, .val (.long (0 : Int64)), .second] [(.int kr)])) _
          refine XS.ifNo X7.here hx rfl (hb hby d1_35) rfl ((if0 _ _).trans (feq hc35_9).1) ?_
          show Steps p.tables e below (T7.setTop (mkF m 38 #[.val (.ref a1), .val (.long q2), .second, .val (.long q3), .second, .val (.long q4), .second, .val (.long (0 : Int64)), .second] [])) _
          refine XS.lload X7.here hx rfl (hb hby d1_38) rfl ?_
          show Steps p.tables e below (T7.setTop (mkF m 40 #[.val (.ref a1), .val (.long q2), .second, .val (.long q3), .second, .val (.long q4), .second, .val (.long (0 : Int64)), .second] [(.long (0 : Int64))])) _
          refine XS.lloadN X7.here hx rfl (hb hby d1_40) rfl ?_
          show Steps p.tables e below (T7.setTop (mkF m 41 #[.val (.ref a1), .val (.long q2), .second, .val (.long q3), .second, .val (.long q4), .second, .val (.long (0 : Int64)), .second] [(.long q3), (.long (0 : Int64))])) _
          refine XS.lload X7.here hx rfl (hb hby d1_41) rfl ?_
          show Steps p.tables e below (T7.setTop (mkF m 43 #[.val (.ref a1), .val (.long q2), .second, .val (.long q3), .second, .val (.long q4), .second, .val (.long (0 : Int64)), .second] [(.long q4), (.long q3), (.long (0 : Int64))])) _
          refine XS.lsub X7.here hx rfl (hb hby d1_43) rfl ?_
          show Steps p.tables e below (T7.setTop (mkF m 44 #[.val (.ref a1), .val (.long q2), .second, .val (.long q3), .second, .val (.long q4), .second, .val (.long (0 : Int64)), .second] [(.long (q3 - q4)), (.long (0 : Int64))])) _
          refine XS.ladd X7.here hx rfl (hb hby d1_44) rfl ?_
          show Steps p.tables e below (T7.setTop (mkF m 45 #[.val (.ref a1), .val (.long q2), .second, .val (.long q3), .second, .val (.long q4), .second, .val (.long (0 : Int64)), .second] [(.long ((0 : Int64) + (q3 - q4)))])) _
          refine XS.lstore X7.here hx rfl (hb hby d1_45) rfl (l' := #[.val (.ref a1), .val (.long q2), .second, .val (.long q3), .second, .val (.long q4), .second, .val (.long ((0 : Int64) + (q3 - q4))), .second]) rfl ?_
          show Steps p.tables e below (T7.setTop (mkF m 47 #[.val (.ref a1), .val (.long q2), .second, .val (.long q3), .second, .val (.long q4), .second, .val (.long ((0 : Int64) + (q3 - q4))), .second] [])) _
          refine XS.lload X7.here hx rfl (hb hby d1_47) rfl ?_
          show Steps p.tables e below (T7.setTop (mkF m 49 #[.val (.ref a1), .val (.long q2), .second, .val (.long q3), .second, .val (.long q4), .second, .val (.long ((0 : Int64) + (q3 - q4))), .second] [(.long ((0 : Int64) + (q3 - q4)))])) _
          exact retJ X7 hx Bd.returns (hb hby d1_49) hr
        · show Q_rm1 Z a1 q2 q3 q4 kb kl kr h0 n0 _ T7.heap _
          rw [e7]
          exact ⟨by rw [own_card, if_pos hc4_3, if_pos hc19_6, if_neg hc35_9], N0, rfl⟩
    · obtain ⟨T10, X10, e10, st10⟩ := getF X4 hx hZ hown (host := "") (Or.inl (hw _ (List.mem_of_getElem? (i := 13) rfl))) Via.refl e4 F_kr (g := (mkF m 32 #[.val (.ref a1), .val (.long q2), .second, .val (.long q3), .second, .val (.long q4), .second, .val (.long ((0 : Int64) + (q2 - q4))), .second] [(.ref a1)])) rfl rfl (hb hby d1_32)
      have pre11 : ∀ t, Steps p.tables e below (T10.setTop (mkF m 35 #[.val (.ref a1), .val (.long q2), .second, .val (.long q3), .second, .val (.long q4), .second, .val (.long ((0 : Int64) + (q2 - q4))), .second] [(.int kr)])) t → Steps p.tables e below (s₁.setTop (entryFrame m #[(.ref a1), (.long q2), (.long q3), (.long q4)] 9)) t := by
        intro t k
        refine pre5 t ?_
        show Steps p.tables e below (T4.setTop (mkF m 19 #[.val (.ref a1), .val (.long q2), .second, .val (.long q3), .second, .val (.long q4), .second, .val (.long (0 : Int64)), .second] [(.int kl)])) _
        refine XS.ifNo X4.here hx rfl (hb hby d1_19) rfl ((if0 _ _).trans (feq hc19_6).1) ?_
        show Steps p.tables e below (T4.setTop (mkF m 22 #[.val (.ref a1), .val (.long q2), .second, .val (.long q3), .second, .val (.long q4), .second, .val (.long (0 : Int64)), .second] [])) _
        refine XS.lload X4.here hx rfl (hb hby d1_22) rfl ?_
        show Steps p.tables e below (T4.setTop (mkF m 24 #[.val (.ref a1), .val (.long q2), .second, .val (.long q3), .second, .val (.long q4), .second, .val (.long (0 : Int64)), .second] [(.long (0 : Int64))])) _
        refine XS.lloadN X4.here hx rfl (hb hby d1_24) rfl ?_
        show Steps p.tables e below (T4.setTop (mkF m 25 #[.val (.ref a1), .val (.long q2), .second, .val (.long q3), .second, .val (.long q4), .second, .val (.long (0 : Int64)), .second] [(.long q2), (.long (0 : Int64))])) _
        refine XS.lload X4.here hx rfl (hb hby d1_25) rfl ?_
        show Steps p.tables e below (T4.setTop (mkF m 27 #[.val (.ref a1), .val (.long q2), .second, .val (.long q3), .second, .val (.long q4), .second, .val (.long (0 : Int64)), .second] [(.long q4), (.long q2), (.long (0 : Int64))])) _
        refine XS.lsub X4.here hx rfl (hb hby d1_27) rfl ?_
        show Steps p.tables e below (T4.setTop (mkF m 28 #[.val (.ref a1), .val (.long q2), .second, .val (.long q3), .second, .val (.long q4), .second, .val (.long (0 : Int64)), .second] [(.long (q2 - q4)), (.long (0 : Int64))])) _
        refine XS.ladd X4.here hx rfl (hb hby d1_28) rfl ?_
        show Steps p.tables e below (T4.setTop (mkF m 29 #[.val (.ref a1), .val (.long q2), .second, .val (.long q3), .second, .val (.long q4), .second, .val (.long (0 : Int64)), .second] [(.long ((0 : Int64) + (q2 - q4)))])) _
        refine XS.lstore X4.here hx rfl (hb hby d1_29) rfl (l' := #[.val (.ref a1), .val (.long q2), .second, .val (.long q3), .second, .val (.long q4), .second, .val (.long ((0 : Int64) + (q2 - q4))), .second]) rfl ?_
        show Steps p.tables e below (T4.setTop (mkF m 31 #[.val (.ref a1), .val (.long q2), .second, .val (.long q3), .second, .val (.long q4), .second, .val (.long ((0 : Int64) + (q2 - q4))), .second] [])) _
        refine XS.aloadN X4.here hx rfl (hb hby d1_31) rfl rfl ?_
        show Steps p.tables e below (T4.setTop (mkF m 32 #[.val (.ref a1), .val (.long q2), .second, .val (.long q3), .second, .val (.long q4), .second, .val (.long ((0 : Int64) + (q2 - q4))), .second] [(.ref a1)])) _
        refine st10 _ ?_
        exact k
      by_cases hc35_12 : kr = (0 : Int32)
      · obtain ⟨fs, hr, hrun, hended, hW, hsame⟩ := X10.leave (v := some (.long ((0 : Int64) + (q2 - q4)))) (fun h => by rw [Bd.returns] at h; cases h)
        refine ⟨_, _, pre11 _ ?_, hrun, hended, _, _, rfl, ?_, ⟨_, rfl⟩, hW, hsame.mono (by decide) (by decide)⟩
        · show Steps p.tables e below (T10.setTop (mkF m 35 #[.val (.ref a1), .val (.long q2), .second, .val (.long q3), .second, .val (.long q4), .second, .val (.long ((0 : Int64) + (q2 - q4))), .second] [(.int kr)])) _
          refine XS.ifYes X10.here hx rfl (pc0 := 35) (pc' := 47) rfl (hb hby d1_35) rfl ((if0 _ _).trans (teq hc35_12).1) (by decide) (by decide) ?_
          show Steps p.tables e below (T10.setTop (mkF m 47 #[.val (.ref a1), .val (.long q2), .second, .val (.long q3), .second, .val (.long q4), .second, .val (.long ((0 : Int64) + (q2 - q4))), .second] [])) _
          refine XS.lload X10.here hx rfl (hb hby d1_47) rfl ?_
          show Steps p.tables e below (T10.setTop (mkF m 49 #[.val (.ref a1), .val (.long q2), .second, .val (.long q3), .second, .val (.long q4), .second, .val (.long ((0 : Int64) + (q2 - q4))), .second] [(.long ((0 : Int64) + (q2 - q4)))])) _
          exact retJ X10 hx Bd.returns (hb hby d1_49) hr
        · show Q_rm1 Z a1 q2 q3 q4 kb kl kr h0 n0 _ T10.heap _
          rw [e10]
          exact ⟨by rw [own_card, if_pos hc4_3, if_neg hc19_6, if_pos hc35_12], N0, rfl⟩
      · obtain ⟨fs, hr, hrun, hended, hW, hsame⟩ := X10.leave (v := some (.long (((0 : Int64) + (q2 - q4)) + (q3 - q4)))) (fun h => by rw [Bd.returns] at h; cases h)
        refine ⟨_, _, pre11 _ ?_, hrun, hended, _, _, rfl, ?_, ⟨_, rfl⟩, hW, hsame.mono (by decide) (by decide)⟩
        · show Steps p.tables e below (T10.setTop (mkF m 35 #[.val (.ref a1), .val (.long q2), .second, .val (.long q3), .second, .val (.long q4), .second, .val (.long ((0 : Int64) + (q2 - q4))), .second] [(.int kr)])) _
          refine XS.ifNo X10.here hx rfl (hb hby d1_35) rfl ((if0 _ _).trans (feq hc35_12).1) ?_
          show Steps p.tables e below (T10.setTop (mkF m 38 #[.val (.ref a1), .val (.long q2), .second, .val (.long q3), .second, .val (.long q4), .second, .val (.long ((0 : Int64) + (q2 - q4))), .second] [])) _
          refine XS.lload X10.here hx rfl (hb hby d1_38) rfl ?_
          show Steps p.tables e below (T10.setTop (mkF m 40 #[.val (.ref a1), .val (.long q2), .second, .val (.long q3), .second, .val (.long q4), .second, .val (.long ((0 : Int64) + (q2 - q4))), .second] [(.long ((0 : Int64) + (q2 - q4)))])) _
          refine XS.lloadN X10.here hx rfl (hb hby d1_40) rfl ?_
          show Steps p.tables e below (T10.setTop (mkF m 41 #[.val (.ref a1), .val (.long q2), .second, .val (.long q3), .second, .val (.long q4), .second, .val (.long ((0 : Int64) + (q2 - q4))), .second] [(.long q3), (.long ((0 : Int64) + (q2 - q4)))])) _
          refine XS.lload X10.here hx rfl (hb hby d1_41) rfl ?_
          show Steps p.tables e below (T10.setTop (mkF m 43 #[.val (.ref a1), .val (.long q2), .second, .val (.long q3), .second, .val (.long q4), .second, .val (.long ((0 : Int64) + (q2 - q4))), .second] [(.long q4), (.long q3), (.long ((0 : Int64) + (q2 - q4)))])) _
          refine XS.lsub X10.here hx rfl (hb hby d1_43) rfl ?_
          show Steps p.tables e below (T10.setTop (mkF m 44 #[.val (.ref a1), .val (.long q2), .second, .val (.long q3), .second, .val (.long q4), .second, .val (.long ((0 : Int64) + (q2 - q4))), .second] [(.long (q3 - q4)), (.long ((0 : Int64) + (q2 - q4)))])) _
          refine XS.ladd X10.here hx rfl (hb hby d1_44) rfl ?_
          show Steps p.tables e below (T10.setTop (mkF m 45 #[.val (.ref a1), .val (.long q2), .second, .val (.long q3), .second, .val (.long q4), .second, .val (.long ((0 : Int64) + (q2 - q4))), .second] [(.long (((0 : Int64) + (q2 - q4)) + (q3 - q4)))])) _
          refine XS.lstore X10.here hx rfl (hb hby d1_45) rfl (l' := #[.val (.ref a1), .val (.long q2), .second, .val (.long q3), .second, .val (.long q4), .second, .val (.long (((0 : Int64) + (q2 - q4)) + (q3 - q4))), .second]) rfl ?_
          show Steps p.tables e below (T10.setTop (mkF m 47 #[.val (.ref a1), .val (.long q2), .second, .val (.long q3), .second, .val (.long q4), .second, .val (.long (((0 : Int64) + (q2 - q4)) + (q3 - q4))), .second] [])) _
          refine XS.lload X10.here hx rfl (hb hby d1_47) rfl ?_
          show Steps p.tables e below (T10.setTop (mkF m 49 #[.val (.ref a1), .val (.long q2), .second, .val (.long q3), .second, .val (.long q4), .second, .val (.long (((0 : Int64) + (q2 - q4)) + (q3 - q4))), .second] [(.long (((0 : Int64) + (q2 - q4)) + (q3 - q4)))])) _
          exact retJ X10 hx Bd.returns (hb hby d1_49) hr
        · show Q_rm1 Z a1 q2 q3 q4 kb kl kr h0 n0 _ T10.heap _
          rw [e10]
          exact ⟨by rw [own_card, if_pos hc4_3, if_neg hc19_6, if_neg hc35_12], N0, rfl⟩
  · obtain ⟨T13, X13, e13, st13⟩ := getF X1 hx hZ hown (host := "") (Or.inl (hw _ (List.mem_of_getElem? (i := 11) rfl))) Via.refl e1 F_kl (g := (mkF m 16 #[.val (.ref a1), .val (.long q2), .second, .val (.long q3), .second, .val (.long q4), .second, .val (.long q4), .second] [(.ref a1)])) rfl rfl (hb hby d1_16)
    have pre14 : ∀ t, Steps p.tables e below (T13.setTop (mkF m 19 #[.val (.ref a1), .val (.long q2), .second, .val (.long q3), .second, .val (.long q4), .second, .val (.long q4), .second] [(.int kl)])) t → Steps p.tables e below (s₁.setTop (entryFrame m #[(.ref a1), (.long q2), (.long q3), (.long q4)] 9)) t := by
      intro t k
      refine pre2 t ?_
      show Steps p.tables e below (T1.setTop (mkF m 4 #[.val (.ref a1), .val (.long q2), .second, .val (.long q3), .second, .val (.long q4), .second, .unset, .unset] [(.int kb)])) _
      refine XS.ifNo X1.here hx rfl (hb hby d1_4) rfl ((if0 _ _).trans (feq hc4_3).1) ?_
      show Steps p.tables e below (T1.setTop (mkF m 7 #[.val (.ref a1), .val (.long q2), .second, .val (.long q3), .second, .val (.long q4), .second, .unset, .unset] [])) _
      refine XS.lload X1.here hx rfl (hb hby d1_7) rfl ?_
      show Steps p.tables e below (T1.setTop (mkF m 9 #[.val (.ref a1), .val (.long q2), .second, .val (.long q3), .second, .val (.long q4), .second, .unset, .unset] [(.long q4)])) _
      refine XS.goto X1.here hx rfl (pc0 := 9) (pc' := 13) rfl (hb hby d1_9) (by decide) (by decide) ?_
      show Steps p.tables e below (T1.setTop (mkF m 13 #[.val (.ref a1), .val (.long q2), .second, .val (.long q3), .second, .val (.long q4), .second, .unset, .unset] [(.long q4)])) _
      refine XS.lstore X1.here hx rfl (hb hby d1_13) rfl (l' := #[.val (.ref a1), .val (.long q2), .second, .val (.long q3), .second, .val (.long q4), .second, .val (.long q4), .second]) rfl ?_
      show Steps p.tables e below (T1.setTop (mkF m 15 #[.val (.ref a1), .val (.long q2), .second, .val (.long q3), .second, .val (.long q4), .second, .val (.long q4), .second] [])) _
      refine XS.aloadN X1.here hx rfl (hb hby d1_15) rfl rfl ?_
      show Steps p.tables e below (T1.setTop (mkF m 16 #[.val (.ref a1), .val (.long q2), .second, .val (.long q3), .second, .val (.long q4), .second, .val (.long q4), .second] [(.ref a1)])) _
      refine st13 _ ?_
      exact k
    by_cases hc19_15 : kl = (0 : Int32)
    · obtain ⟨T16, X16, e16, st16⟩ := getF X13 hx hZ hown (host := "") (Or.inl (hw _ (List.mem_of_getElem? (i := 13) rfl))) Via.refl e13 F_kr (g := (mkF m 32 #[.val (.ref a1), .val (.long q2), .second, .val (.long q3), .second, .val (.long q4), .second, .val (.long q4), .second] [(.ref a1)])) rfl rfl (hb hby d1_32)
      have pre17 : ∀ t, Steps p.tables e below (T16.setTop (mkF m 35 #[.val (.ref a1), .val (.long q2), .second, .val (.long q3), .second, .val (.long q4), .second, .val (.long q4), .second] [(.int kr)])) t → Steps p.tables e below (s₁.setTop (entryFrame m #[(.ref a1), (.long q2), (.long q3), (.long q4)] 9)) t := by
        intro t k
        refine pre14 t ?_
        show Steps p.tables e below (T13.setTop (mkF m 19 #[.val (.ref a1), .val (.long q2), .second, .val (.long q3), .second, .val (.long q4), .second, .val (.long q4), .second] [(.int kl)])) _
        refine XS.ifYes X13.here hx rfl (pc0 := 19) (pc' := 31) rfl (hb hby d1_19) rfl ((if0 _ _).trans (teq hc19_15).1) (by decide) (by decide) ?_
        show Steps p.tables e below (T13.setTop (mkF m 31 #[.val (.ref a1), .val (.long q2), .second, .val (.long q3), .second, .val (.long q4), .second, .val (.long q4), .second] [])) _
        refine XS.aloadN X13.here hx rfl (hb hby d1_31) rfl rfl ?_
        show Steps p.tables e below (T13.setTop (mkF m 32 #[.val (.ref a1), .val (.long q2), .second, .val (.long q3), .second, .val (.long q4), .second, .val (.long q4), .second] [(.ref a1)])) _
        refine st16 _ ?_
        exact k
      by_cases hc35_18 : kr = (0 : Int32)
      · obtain ⟨fs, hr, hrun, hended, hW, hsame⟩ := X16.leave (v := some (.long q4)) (fun h => by rw [Bd.returns] at h; cases h)
        refine ⟨_, _, pre17 _ ?_, hrun, hended, _, _, rfl, ?_, ⟨_, rfl⟩, hW, hsame.mono (by decide) (by decide)⟩
        · show Steps p.tables e below (T16.setTop (mkF m 35 #[.val (.ref a1), .val (.long q2), .second, .val (.long q3), .second, .val (.long q4), .second, .val (.long q4), .second] [(.int kr)])) _
          refine XS.ifYes X16.here hx rfl (pc0 := 35) (pc' := 47) rfl (hb hby d1_35) rfl ((if0 _ _).trans (teq hc35_18).1) (by decide) (by decide) ?_
          show Steps p.tables e below (T16.setTop (mkF m 47 #[.val (.ref a1), .val (.long q2), .second, .val (.long q3), .second, .val (.long q4), .second, .val (.long q4), .second] [])) _
          refine XS.lload X16.here hx rfl (hb hby d1_47) rfl ?_
          show Steps p.tables e below (T16.setTop (mkF m 49 #[.val (.ref a1), .val (.long q2), .second, .val (.long q3), .second, .val (.long q4), .second, .val (.long q4), .second] [(.long q4)])) _
          exact retJ X16 hx Bd.returns (hb hby d1_49) hr
        · show Q_rm1 Z a1 q2 q3 q4 kb kl kr h0 n0 _ T16.heap _
          rw [e16]
          exact ⟨by rw [own_card, if_neg hc4_3, if_pos hc19_15, if_pos hc35_18], N0, rfl⟩
      · obtain ⟨fs, hr, hrun, hended, hW, hsame⟩ := X16.leave (v := some (.long (q4 + (q3 - q4)))) (fun h => by rw [Bd.returns] at h; cases h)
        refine ⟨_, _, pre17 _ ?_, hrun, hended, _, _, rfl, ?_, ⟨_, rfl⟩, hW, hsame.mono (by decide) (by decide)⟩
        · show Steps p.tables e below (T16.setTop (mkF m 35 #[.val (.ref a1), .val (.long q2), .second, .val (.long q3), .second, .val (.long q4), .second, .val (.long q4), .second] [(.int kr)])) _
          refine XS.ifNo X16.here hx rfl (hb hby d1_35) rfl ((if0 _ _).trans (feq hc35_18).1) ?_
          show Steps p.tables e below (T16.setTop (mkF m 38 #[.val (.ref a1), .val (.long q2), .second, .val (.long q3), .second, .val (.long q4), .second, .val (.long q4), .second] [])) _
          refine XS.lload X16.here hx rfl (hb hby d1_38) rfl ?_
          show Steps p.tables e below (T16.setTop (mkF m 40 #[.val (.ref a1), .val (.long q2), .second, .val (.long q3), .second, .val (.long q4), .second, .val (.long q4), .second] [(.long q4)])) _
          refine XS.lloadN X16.here hx rfl (hb hby d1_40) rfl ?_
          show Steps p.tables e below (T16.setTop (mkF m 41 #[.val (.ref a1), .val (.long q2), .second, .val (.long q3), .second, .val (.long q4), .second, .val (.long q4), .second] [(.long q3), (.long q4)])) _
          refine XS.lload X16.here hx rfl (hb hby d1_41) rfl ?_
          show Steps p.tables e below (T16.setTop (mkF m 43 #[.val (.ref a1), .val (.long q2), .second, .val (.long q3), .second, .val (.long q4), .second, .val (.long q4), .second] [(.long q4), (.long q3), (.long q4)])) _
          refine XS.lsub X16.here hx rfl (hb hby d1_43) rfl ?_
          show Steps p.tables e below (T16.setTop (mkF m 44 #[.val (.ref a1), .val (.long q2), .second, .val (.long q3), .second, .val (.long q4), .second, .val (.long q4), .second] [(.long (q3 - q4)), (.long q4)])) _
          refine XS.ladd X16.here hx rfl (hb hby d1_44) rfl ?_
          show Steps p.tables e below (T16.setTop (mkF m 45 #[.val (.ref a1), .val (.long q2), .second, .val (.long q3), .second, .val (.long q4), .second, .val (.long q4), .second] [(.long (q4 + (q3 - q4)))])) _
          refine XS.lstore X16.here hx rfl (hb hby d1_45) rfl (l' := #[.val (.ref a1), .val (.long q2), .second, .val (.long q3), .second, .val (.long q4), .second, .val (.long (q4 + (q3 - q4))), .second]) rfl ?_
          show Steps p.tables e below (T16.setTop (mkF m 47 #[.val (.ref a1), .val (.long q2), .second, .val (.long q3), .second, .val (.long q4), .second, .val (.long (q4 + (q3 - q4))), .second] [])) _
          refine XS.lload X16.here hx rfl (hb hby d1_47) rfl ?_
          show Steps p.tables e below (T16.setTop (mkF m 49 #[.val (.ref a1), .val (.long q2), .second, .val (.long q3), .second, .val (.long q4), .second, .val (.long (q4 + (q3 - q4))), .second] [(.long (q4 + (q3 - q4)))])) _
          exact retJ X16 hx Bd.returns (hb hby d1_49) hr
        · show Q_rm1 Z a1 q2 q3 q4 kb kl kr h0 n0 _ T16.heap _
          rw [e16]
          exact ⟨by rw [own_card, if_neg hc4_3, if_pos hc19_15, if_neg hc35_18], N0, rfl⟩
    · obtain ⟨T19, X19, e19, st19⟩ := getF X13 hx hZ hown (host := "") (Or.inl (hw _ (List.mem_of_getElem? (i := 13) rfl))) Via.refl e13 F_kr (g := (mkF m 32 #[.val (.ref a1), .val (.long q2), .second, .val (.long q3), .second, .val (.long q4), .second, .val (.long (q4 + (q2 - q4))), .second] [(.ref a1)])) rfl rfl (hb hby d1_32)
      have pre20 : ∀ t, Steps p.tables e below (T19.setTop (mkF m 35 #[.val (.ref a1), .val (.long q2), .second, .val (.long q3), .second, .val (.long q4), .second, .val (.long (q4 + (q2 - q4))), .second] [(.int kr)])) t → Steps p.tables e below (s₁.setTop (entryFrame m #[(.ref a1), (.long q2), (.long q3), (.long q4)] 9)) t := by
        intro t k
        refine pre14 t ?_
        show Steps p.tables e below (T13.setTop (mkF m 19 #[.val (.ref a1), .val (.long q2), .second, .val (.long q3), .second, .val (.long q4), .second, .val (.long q4), .second] [(.int kl)])) _
        refine XS.ifNo X13.here hx rfl (hb hby d1_19) rfl ((if0 _ _).trans (feq hc19_15).1) ?_
        show Steps p.tables e below (T13.setTop (mkF m 22 #[.val (.ref a1), .val (.long q2), .second, .val (.long q3), .second, .val (.long q4), .second, .val (.long q4), .second] [])) _
        refine XS.lload X13.here hx rfl (hb hby d1_22) rfl ?_
        show Steps p.tables e below (T13.setTop (mkF m 24 #[.val (.ref a1), .val (.long q2), .second, .val (.long q3), .second, .val (.long q4), .second, .val (.long q4), .second] [(.long q4)])) _
        refine XS.lloadN X13.here hx rfl (hb hby d1_24) rfl ?_
        show Steps p.tables e below (T13.setTop (mkF m 25 #[.val (.ref a1), .val (.long q2), .second, .val (.long q3), .second, .val (.long q4), .second, .val (.long q4), .second] [(.long q2), (.long q4)])) _
        refine XS.lload X13.here hx rfl (hb hby d1_25) rfl ?_
        show Steps p.tables e below (T13.setTop (mkF m 27 #[.val (.ref a1), .val (.long q2), .second, .val (.long q3), .second, .val (.long q4), .second, .val (.long q4), .second] [(.long q4), (.long q2), (.long q4)])) _
        refine XS.lsub X13.here hx rfl (hb hby d1_27) rfl ?_
        show Steps p.tables e below (T13.setTop (mkF m 28 #[.val (.ref a1), .val (.long q2), .second, .val (.long q3), .second, .val (.long q4), .second, .val (.long q4), .second] [(.long (q2 - q4)), (.long q4)])) _
        refine XS.ladd X13.here hx rfl (hb hby d1_28) rfl ?_
        show Steps p.tables e below (T13.setTop (mkF m 29 #[.val (.ref a1), .val (.long q2), .second, .val (.long q3), .second, .val (.long q4), .second, .val (.long q4), .second] [(.long (q4 + (q2 - q4)))])) _
        refine XS.lstore X13.here hx rfl (hb hby d1_29) rfl (l' := #[.val (.ref a1), .val (.long q2), .second, .val (.long q3), .second, .val (.long q4), .second, .val (.long (q4 + (q2 - q4))), .second]) rfl ?_
        show Steps p.tables e below (T13.setTop (mkF m 31 #[.val (.ref a1), .val (.long q2), .second, .val (.long q3), .second, .val (.long q4), .second, .val (.long (q4 + (q2 - q4))), .second] [])) _
        refine XS.aloadN X13.here hx rfl (hb hby d1_31) rfl rfl ?_
        show Steps p.tables e below (T13.setTop (mkF m 32 #[.val (.ref a1), .val (.long q2), .second, .val (.long q3), .second, .val (.long q4), .second, .val (.long (q4 + (q2 - q4))), .second] [(.ref a1)])) _
        refine st19 _ ?_
        exact k
      by_cases hc35_21 : kr = (0 : Int32)
      · obtain ⟨fs, hr, hrun, hended, hW, hsame⟩ := X19.leave (v := some (.long (q4 + (q2 - q4)))) (fun h => by rw [Bd.returns] at h; cases h)
        refine ⟨_, _, pre20 _ ?_, hrun, hended, _, _, rfl, ?_, ⟨_, rfl⟩, hW, hsame.mono (by decide) (by decide)⟩
        · show Steps p.tables e below (T19.setTop (mkF m 35 #[.val (.ref a1), .val (.long q2), .second, .val (.long q3), .second, .val (.long q4), .second, .val (.long (q4 + (q2 - q4))), .second] [(.int kr)])) _
          refine XS.ifYes X19.here hx rfl (pc0 := 35) (pc' := 47) rfl (hb hby d1_35) rfl ((if0 _ _).trans (teq hc35_21).1) (by decide) (by decide) ?_
          show Steps p.tables e below (T19.setTop (mkF m 47 #[.val (.ref a1), .val (.long q2), .second, .val (.long q3), .second, .val (.long q4), .second, .val (.long (q4 + (q2 - q4))), .second] [])) _
          refine XS.lload X19.here hx rfl (hb hby d1_47) rfl ?_
          show Steps p.tables e below (T19.setTop (mkF m 49 #[.val (.ref a1), .val (.long q2), .second, .val (.long q3), .second, .val (.long q4), .second, .val (.long (q4 + (q2 - q4))), .second] [(.long (q4 + (q2 - q4)))])) _
          exact retJ X19 hx Bd.returns (hb hby d1_49) hr
        · show Q_rm1 Z a1 q2 q3 q4 kb kl kr h0 n0 _ T19.heap _
          rw [e19]
          exact ⟨by rw [own_card, if_neg hc4_3, if_neg hc19_15, if_pos hc35_21], N0, rfl⟩
      · obtain ⟨fs, hr, hrun, hended, hW, hsame⟩ := X19.leave (v := some (.long ((q4 + (q2 - q4)) + (q3 - q4)))) (fun h => by rw [Bd.returns] at h; cases h)
        refine ⟨_, _, pre20 _ ?_, hrun, hended, _, _, rfl, ?_, ⟨_, rfl⟩, hW, hsame.mono (by decide) (by decide)⟩
        · show Steps p.tables e below (T19.setTop (mkF m 35 #[.val (.ref a1), .val (.long q2), .second, .val (.long q3), .second, .val (.long q4), .second, .val (.long (q4 + (q2 - q4))), .second] [(.int kr)])) _
          refine XS.ifNo X19.here hx rfl (hb hby d1_35) rfl ((if0 _ _).trans (feq hc35_21).1) ?_
          show Steps p.tables e below (T19.setTop (mkF m 38 #[.val (.ref a1), .val (.long q2), .second, .val (.long q3), .second, .val (.long q4), .second, .val (.long (q4 + (q2 - q4))), .second] [])) _
          refine XS.lload X19.here hx rfl (hb hby d1_38) rfl ?_
          show Steps p.tables e below (T19.setTop (mkF m 40 #[.val (.ref a1), .val (.long q2), .second, .val (.long q3), .second, .val (.long q4), .second, .val (.long (q4 + (q2 - q4))), .second] [(.long (q4 + (q2 - q4)))])) _
          refine XS.lloadN X19.here hx rfl (hb hby d1_40) rfl ?_
          show Steps p.tables e below (T19.setTop (mkF m 41 #[.val (.ref a1), .val (.long q2), .second, .val (.long q3), .second, .val (.long q4), .second, .val (.long (q4 + (q2 - q4))), .second] [(.long q3), (.long (q4 + (q2 - q4)))])) _
          refine XS.lload X19.here hx rfl (hb hby d1_41) rfl ?_
          show Steps p.tables e below (T19.setTop (mkF m 43 #[.val (.ref a1), .val (.long q2), .second, .val (.long q3), .second, .val (.long q4), .second, .val (.long (q4 + (q2 - q4))), .second] [(.long q4), (.long q3), (.long (q4 + (q2 - q4)))])) _
          refine XS.lsub X19.here hx rfl (hb hby d1_43) rfl ?_
          show Steps p.tables e below (T19.setTop (mkF m 44 #[.val (.ref a1), .val (.long q2), .second, .val (.long q3), .second, .val (.long q4), .second, .val (.long (q4 + (q2 - q4))), .second] [(.long (q3 - q4)), (.long (q4 + (q2 - q4)))])) _
          refine XS.ladd X19.here hx rfl (hb hby d1_44) rfl ?_
          show Steps p.tables e below (T19.setTop (mkF m 45 #[.val (.ref a1), .val (.long q2), .second, .val (.long q3), .second, .val (.long q4), .second, .val (.long (q4 + (q2 - q4))), .second] [(.long ((q4 + (q2 - q4)) + (q3 - q4)))])) _
          refine XS.lstore X19.here hx rfl (hb hby d1_45) rfl (l' := #[.val (.ref a1), .val (.long q2), .second, .val (.long q3), .second, .val (.long q4), .second, .val (.long ((q4 + (q2 - q4)) + (q3 - q4))), .second]) rfl ?_
          show Steps p.tables e below (T19.setTop (mkF m 47 #[.val (.ref a1), .val (.long q2), .second, .val (.long q3), .second, .val (.long q4), .second, .val (.long ((q4 + (q2 - q4)) + (q3 - q4))), .second] [])) _
          refine XS.lload X19.here hx rfl (hb hby d1_47) rfl ?_
          show Steps p.tables e below (T19.setTop (mkF m 49 #[.val (.ref a1), .val (.long q2), .second, .val (.long q3), .second, .val (.long q4), .second, .val (.long ((q4 + (q2 - q4)) + (q3 - q4))), .second] [(.long ((q4 + (q2 - q4)) + (q3 - q4)))])) _
          exact retJ X19 hx Bd.returns (hb hby d1_49) hr
        · show Q_rm1 Z a1 q2 q3 q4 kb kl kr h0 n0 _ T19.heap _
          rw [e19]
          exact ⟨by rw [own_card, if_neg hc4_3, if_neg hc19_15, if_neg hc35_21], N0, rfl⟩
theorem own_sb (b l : Int64) : (b + l) - b = l := by rw [Int64.add_comm, Int64.add_sub_cancel]
theorem own_and (a : Addr) (l r b : Int64) : own_card a l r b (1 : Int32) (0 : Int32) (0 : Int32) = b := rfl
theorem own_or (a : Addr) (b x y : Int64) : own_card a (b + x) (b + y) b (1 : Int32) (1 : Int32) (1 : Int32) = (b + x) + y := by
  show (b + ((b + x) - b)) + ((b + y) - b) = (b + x) + y
  rw [own_sb, own_sb]
theorem own_xor (a : Addr) (b x y : Int64) : own_card a (b + x) (b + y) b (0 : Int32) (1 : Int32) (1 : Int32) = x + y := by
  show ((0 : Int64) + ((b + x) - b)) + ((b + y) - b) = x + y
  rw [own_sb, own_sb, Int64.zero_add]
theorem own_not (a : Addr) (b x r : Int64) : own_card a (b + x) r b (0 : Int32) (1 : Int32) (0 : Int32) = x := by
  show (0 : Int64) + ((b + x) - b) = x
  rw [own_sb, Int64.zero_add]
theorem pn_rm0 : plainName "com/example/bitstrata/bitstrata/SetOperationCardinalityPinLaw" = true := by first | (simp [plainName, overriddenIn]; done) | decide +kernel
theorem ef_rm0 (m : MethodId) (x0 : Int32) (x1 : Int64) (x2 : Int64) (x3 : Int64) : entryFrame m #[(.int x0), (.long x1), (.long x2), (.long x3)] maxLocals = mkF m 0 #[.val (.int x0), .val (.long x1), .second, .val (.long x2), .second, .val (.long x3), .second, .unset, .unset, .unset, .unset, .unset, .unset, .unset, .unset, .unset, .unset, .unset, .unset, .unset, .unset] [] := by first | (simp [entryFrame, mkF, argsToLocals, Value.category, maxLocals]; done) | rfl
def Q_rm0 (Z : State) (p1 : Int32) (q2 : Int64) (q3 : Int64) (q4 : Int64) (w_AND : Addr) (w_AND_NOT : Addr) (w_OR : Addr) (w_XOR : Addr) (h0 : Heap) (n0 : Nat) (v : Option Value) (h : Heap) (L : List Loc) : Prop := v = some (.int 1) ∧ Fr n0 L
set_option maxRecDepth 65536 in
set_option maxHeartbeats 40000000 in
theorem rm0 (l : Launch) (Z : State) (a0 : Array Value) (hw : ∀ d ∈ tables_1, d.before a0 Z = true) (ws : List Jvm.Cond) (p1 : Int32) (q2 : Int64) (q3 : Int64) (q4 : Int64) (w_AND : Addr) (w_AND_NOT : Addr) (w_OR : Addr) (w_XOR : Addr) (h0 : Heap) (n0 : Nat) (Z0 : n0 ≤ h0.size) (S_w_AND : Sta Z h0 "com/example/bitstrata/bitstrata/SetOperation" "AND" "Lcom/example/bitstrata/bitstrata/SetOperation;" (.ref w_AND)) (E_w_AND : Exa Z h0 w_AND "com/example/bitstrata/bitstrata/SetOperation") (F_w_AND_keepsBoth : Fld Z h0 w_AND "com/example/bitstrata/bitstrata/SetOperation" "keepsBoth" "Z" (.int (1 : Int32))) (F_w_AND_keepsLeftOnly : Fld Z h0 w_AND "com/example/bitstrata/bitstrata/SetOperation" "keepsLeftOnly" "Z" (.int (0 : Int32))) (F_w_AND_keepsRightOnly : Fld Z h0 w_AND "com/example/bitstrata/bitstrata/SetOperation" "keepsRightOnly" "Z" (.int (0 : Int32))) (S_w_AND_NOT : Sta Z h0 "com/example/bitstrata/bitstrata/SetOperation" "AND_NOT" "Lcom/example/bitstrata/bitstrata/SetOperation;" (.ref w_AND_NOT)) (E_w_AND_NOT : Exa Z h0 w_AND_NOT "com/example/bitstrata/bitstrata/SetOperation") (F_w_AND_NOT_keepsBoth : Fld Z h0 w_AND_NOT "com/example/bitstrata/bitstrata/SetOperation" "keepsBoth" "Z" (.int (0 : Int32))) (F_w_AND_NOT_keepsLeftOnly : Fld Z h0 w_AND_NOT "com/example/bitstrata/bitstrata/SetOperation" "keepsLeftOnly" "Z" (.int (1 : Int32))) (F_w_AND_NOT_keepsRightOnly : Fld Z h0 w_AND_NOT "com/example/bitstrata/bitstrata/SetOperation" "keepsRightOnly" "Z" (.int (0 : Int32))) (S_w_OR : Sta Z h0 "com/example/bitstrata/bitstrata/SetOperation" "OR" "Lcom/example/bitstrata/bitstrata/SetOperation;" (.ref w_OR)) (E_w_OR : Exa Z h0 w_OR "com/example/bitstrata/bitstrata/SetOperation") (F_w_OR_keepsBoth : Fld Z h0 w_OR "com/example/bitstrata/bitstrata/SetOperation" "keepsBoth" "Z" (.int (1 : Int32))) (F_w_OR_keepsLeftOnly : Fld Z h0 w_OR "com/example/bitstrata/bitstrata/SetOperation" "keepsLeftOnly" "Z" (.int (1 : Int32))) (F_w_OR_keepsRightOnly : Fld Z h0 w_OR "com/example/bitstrata/bitstrata/SetOperation" "keepsRightOnly" "Z" (.int (1 : Int32))) (S_w_XOR : Sta Z h0 "com/example/bitstrata/bitstrata/SetOperation" "XOR" "Lcom/example/bitstrata/bitstrata/SetOperation;" (.ref w_XOR)) (E_w_XOR : Exa Z h0 w_XOR "com/example/bitstrata/bitstrata/SetOperation") (F_w_XOR_keepsBoth : Fld Z h0 w_XOR "com/example/bitstrata/bitstrata/SetOperation" "keepsBoth" "Z" (.int (0 : Int32))) (F_w_XOR_keepsLeftOnly : Fld Z h0 w_XOR "com/example/bitstrata/bitstrata/SetOperation" "keepsLeftOnly" "Z" (.int (1 : Int32))) (F_w_XOR_keepsRightOnly : Fld Z h0 w_XOR "com/example/bitstrata/bitstrata/SetOperation" "keepsRightOnly" "Z" (.int (1 : Int32))) :
    MetFree l x (head1 (Jvm.Cond.code x code maxLocals ret :: ws) room_1) (fun a U => a = #[(.int p1), (.long q2), (.long q3), (.long q4)] ∧ Z.Warmed39 U.vm ∧ U.heap = h0) (fun _ _ _ _ _ => True) (fun _ U o U' => ∃ v L, o = .returned v ∧ Q_rm0 Z p1 q2 q3 q4 w_AND w_AND_NOT w_OR w_XOR h0 n0 v U'.heap L ∧ FrameEnd U o U' L room_1.cells room_1.slots) := by
  refine MetFree.of_bodySF (plainFor_of_name pn_rm0) hisR ?_
  intro p e s m args below meth c s₁ Bd hml0 hP hK
  obtain ⟨rfl, hZ, hh⟩ := hP
  have hx := Bd.exec
  have hby := Bd.bytes
  have hml : c.maxLocals = 21 := hml0
  have hown : s.vm.findClass "com/example/bitstrata/bitstrata/SetOperationCardinalityPinLaw" = some m.cls := findClass_of_methodNamed Bd.named
  have hnm := (name_of_methodNamed Bd.named Bd.method).1
  have X0 : Stand p l e room_1 s m #[(.int p1), (.long q2), (.long q3), (.long q4)] below meth c s₁ [] 0 0 := Stand.of_body Bd
  have e0 : s₁.heap = h0 := by rw [← hh, Bd.state]; rfl
  have N0 := Fr.nil n0
  have pre0 : ∀ t, Steps p.tables e below (s₁.setTop (mkF m 0 #[.val (.int p1), .val (.long q2), .second, .val (.long q3), .second, .val (.long q4), .second, .unset, .unset, .unset, .unset, .unset, .unset, .unset, .unset, .unset, .unset, .unset, .unset, .unset, .unset] [])) t → Steps p.tables e below (s₁.setTop (entryFrame m #[(.int p1), (.long q2), (.long q3), (.long q4)] maxLocals)) t := fun t k => castTop (ef_rm0 m p1 q2 q3 q4) k
  obtain ⟨y1, hy1⟩ : ∃ z : Int64, z = (q2 &&& (2305843009213693951 : Int64)) := ⟨_, rfl⟩
  obtain ⟨y2, hy2⟩ : ∃ z : Int64, z = (q3 &&& (2305843009213693951 : Int64)) := ⟨_, rfl⟩
  obtain ⟨y3, hy3⟩ : ∃ z : Int64, z = (q4 &&& (2305843009213693951 : Int64)) := ⟨_, rfl⟩
  have pre4 : ∀ t, Steps p.tables e below (s₁.setTop (mkF m 43 #[.val (.int p1), .val (.long q2), .second, .val (.long q3), .second, .val (.long q4), .second, .val (.long y1), .second, .val (.long y2), .second, .val (.long y3), .second, .val (.long (y1 + y2)), .second, .val (.long (y1 + y3)), .second, .val (.int (p1 &&& (3 : Int32))), .unset, .unset, .unset] [(.int (p1 &&& (3 : Int32)))])) t → Steps p.tables e below (s₁.setTop (entryFrame m #[(.int p1), (.long q2), (.long q3), (.long q4)] maxLocals)) t := by
    intro t k
    refine pre0 t ?_
    show Steps p.tables e below (s₁.setTop (mkF m 0 #[.val (.int p1), .val (.long q2), .second, .val (.long q3), .second, .val (.long q4), .second, .unset, .unset, .unset, .unset, .unset, .unset, .unset, .unset, .unset, .unset, .unset, .unset, .unset, .unset] [])) _
    refine XS.lloadN X0.here hx rfl (hb hby at_0) rfl ?_
    show Steps p.tables e below (s₁.setTop (mkF m 1 #[.val (.int p1), .val (.long q2), .second, .val (.long q3), .second, .val (.long q4), .second, .unset, .unset, .unset, .unset, .unset, .unset, .unset, .unset, .unset, .unset, .unset, .unset, .unset, .unset] [(.long q2)])) _
    refine X0.ldc2Long hx hown (mvT hZ (hw _ (List.mem_of_getElem? (i := 0) rfl))) (g := (mkF m 1 #[.val (.int p1), .val (.long q2), .second, .val (.long q3), .second, .val (.long q4), .second, .unset, .unset, .unset, .unset, .unset, .unset, .unset, .unset, .unset, .unset, .unset, .unset, .unset, .unset] [(.long q2)])) rfl (hb hby at_1) _ ?_
    show Steps p.tables e below (s₁.setTop (mkF m 4 #[.val (.int p1), .val (.long q2), .second, .val (.long q3), .second, .val (.long q4), .second, .unset, .unset, .unset, .unset, .unset, .unset, .unset, .unset, .unset, .unset, .unset, .unset, .unset, .unset] [(.long (2305843009213693951 : Int64)), (.long q2)])) _
    refine XS.land X0.here hx rfl (hb hby at_4) rfl ?_
    show Steps p.tables e below (s₁.setTop (mkF m 5 #[.val (.int p1), .val (.long q2), .second, .val (.long q3), .second, .val (.long q4), .second, .unset, .unset, .unset, .unset, .unset, .unset, .unset, .unset, .unset, .unset, .unset, .unset, .unset, .unset] [(.long (q2 &&& (2305843009213693951 : Int64)))])) _
    rw [← hy1]
    refine XS.lstore X0.here hx rfl (hb hby at_5) rfl (l' := #[.val (.int p1), .val (.long q2), .second, .val (.long q3), .second, .val (.long q4), .second, .val (.long y1), .second, .unset, .unset, .unset, .unset, .unset, .unset, .unset, .unset, .unset, .unset, .unset, .unset]) rfl ?_
    show Steps p.tables e below (s₁.setTop (mkF m 7 #[.val (.int p1), .val (.long q2), .second, .val (.long q3), .second, .val (.long q4), .second, .val (.long y1), .second, .unset, .unset, .unset, .unset, .unset, .unset, .unset, .unset, .unset, .unset, .unset, .unset] [])) _
    refine XS.lloadN X0.here hx rfl (hb hby at_7) rfl ?_
    show Steps p.tables e below (s₁.setTop (mkF m 8 #[.val (.int p1), .val (.long q2), .second, .val (.long q3), .second, .val (.long q4), .second, .val (.long y1), .second, .unset, .unset, .unset, .unset, .unset, .unset, .unset, .unset, .unset, .unset, .unset, .unset] [(.long q3)])) _
    refine X0.ldc2Long hx hown (mvT hZ (hw _ (List.mem_of_getElem? (i := 0) rfl))) (g := (mkF m 8 #[.val (.int p1), .val (.long q2), .second, .val (.long q3), .second, .val (.long q4), .second, .val (.long y1), .second, .unset, .unset, .unset, .unset, .unset, .unset, .unset, .unset, .unset, .unset, .unset, .unset] [(.long q3)])) rfl (hb hby at_8) _ ?_
    show Steps p.tables e below (s₁.setTop (mkF m 11 #[.val (.int p1), .val (.long q2), .second, .val (.long q3), .second, .val (.long q4), .second, .val (.long y1), .second, .unset, .unset, .unset, .unset, .unset, .unset, .unset, .unset, .unset, .unset, .unset, .unset] [(.long (2305843009213693951 : Int64)), (.long q3)])) _
    refine XS.land X0.here hx rfl (hb hby at_11) rfl ?_
    show Steps p.tables e below (s₁.setTop (mkF m 12 #[.val (.int p1), .val (.long q2), .second, .val (.long q3), .second, .val (.long q4), .second, .val (.long y1), .second, .unset, .unset, .unset, .unset, .unset, .unset, .unset, .unset, .unset, .unset, .unset, .unset] [(.long (q3 &&& (2305843009213693951 : Int64)))])) _
    rw [← hy2]
    refine XS.lstore X0.here hx rfl (hb hby at_12) rfl (l' := #[.val (.int p1), .val (.long q2), .second, .val (.long q3), .second, .val (.long q4), .second, .val (.long y1), .second, .val (.long y2), .second, .unset, .unset, .unset, .unset, .unset, .unset, .unset, .unset, .unset, .unset]) rfl ?_
    show Steps p.tables e below (s₁.setTop (mkF m 14 #[.val (.int p1), .val (.long q2), .second, .val (.long q3), .second, .val (.long q4), .second, .val (.long y1), .second, .val (.long y2), .second, .unset, .unset, .unset, .unset, .unset, .unset, .unset, .unset, .unset, .unset] [])) _
    refine XS.lload X0.here hx rfl (hb hby at_14) rfl ?_
    show Steps p.tables e below (s₁.setTop (mkF m 16 #[.val (.int p1), .val (.long q2), .second, .val (.long q3), .second, .val (.long q4), .second, .val (.long y1), .second, .val (.long y2), .second, .unset, .unset, .unset, .unset, .unset, .unset, .unset, .unset, .unset, .unset] [(.long q4)])) _
    refine X0.ldc2Long hx hown (mvT hZ (hw _ (List.mem_of_getElem? (i := 0) rfl))) (g := (mkF m 16 #[.val (.int p1), .val (.long q2), .second, .val (.long q3), .second, .val (.long q4), .second, .val (.long y1), .second, .val (.long y2), .second, .unset, .unset, .unset, .unset, .unset, .unset, .unset, .unset, .unset, .unset] [(.long q4)])) rfl (hb hby at_16) _ ?_
    show Steps p.tables e below (s₁.setTop (mkF m 19 #[.val (.int p1), .val (.long q2), .second, .val (.long q3), .second, .val (.long q4), .second, .val (.long y1), .second, .val (.long y2), .second, .unset, .unset, .unset, .unset, .unset, .unset, .unset, .unset, .unset, .unset] [(.long (2305843009213693951 : Int64)), (.long q4)])) _
    refine XS.land X0.here hx rfl (hb hby at_19) rfl ?_
    show Steps p.tables e below (s₁.setTop (mkF m 20 #[.val (.int p1), .val (.long q2), .second, .val (.long q3), .second, .val (.long q4), .second, .val (.long y1), .second, .val (.long y2), .second, .unset, .unset, .unset, .unset, .unset, .unset, .unset, .unset, .unset, .unset] [(.long (q4 &&& (2305843009213693951 : Int64)))])) _
    rw [← hy3]
    refine XS.lstore X0.here hx rfl (hb hby at_20) rfl (l' := #[.val (.int p1), .val (.long q2), .second, .val (.long q3), .second, .val (.long q4), .second, .val (.long y1), .second, .val (.long y2), .second, .val (.long y3), .second, .unset, .unset, .unset, .unset, .unset, .unset, .unset, .unset]) rfl ?_
    show Steps p.tables e below (s₁.setTop (mkF m 22 #[.val (.int p1), .val (.long q2), .second, .val (.long q3), .second, .val (.long q4), .second, .val (.long y1), .second, .val (.long y2), .second, .val (.long y3), .second, .unset, .unset, .unset, .unset, .unset, .unset, .unset, .unset] [])) _
    refine XS.lload X0.here hx rfl (hb hby at_22) rfl ?_
    show Steps p.tables e below (s₁.setTop (mkF m 24 #[.val (.int p1), .val (.long q2), .second, .val (.long q3), .second, .val (.long q4), .second, .val (.long y1), .second, .val (.long y2), .second, .val (.long y3), .second, .unset, .unset, .unset, .unset, .unset, .unset, .unset, .unset] [(.long y1)])) _
    refine XS.lload X0.here hx rfl (hb hby at_24) rfl ?_
    show Steps p.tables e below (s₁.setTop (mkF m 26 #[.val (.int p1), .val (.long q2), .second, .val (.long q3), .second, .val (.long q4), .second, .val (.long y1), .second, .val (.long y2), .second, .val (.long y3), .second, .unset, .unset, .unset, .unset, .unset, .unset, .unset, .unset] [(.long y2), (.long y1)])) _
    refine XS.ladd X0.here hx rfl (hb hby at_26) rfl ?_
    show Steps p.tables e below (s₁.setTop (mkF m 27 #[.val (.int p1), .val (.long q2), .second, .val (.long q3), .second, .val (.long q4), .second, .val (.long y1), .second, .val (.long y2), .second, .val (.long y3), .second, .unset, .unset, .unset, .unset, .unset, .unset, .unset, .unset] [(.long (y1 + y2))])) _
    refine XS.lstore X0.here hx rfl (hb hby at_27) rfl (l' := #[.val (.int p1), .val (.long q2), .second, .val (.long q3), .second, .val (.long q4), .second, .val (.long y1), .second, .val (.long y2), .second, .val (.long y3), .second, .val (.long (y1 + y2)), .second, .unset, .unset, .unset, .unset, .unset, .unset]) rfl ?_
    show Steps p.tables e below (s₁.setTop (mkF m 29 #[.val (.int p1), .val (.long q2), .second, .val (.long q3), .second, .val (.long q4), .second, .val (.long y1), .second, .val (.long y2), .second, .val (.long y3), .second, .val (.long (y1 + y2)), .second, .unset, .unset, .unset, .unset, .unset, .unset] [])) _
    refine XS.lload X0.here hx rfl (hb hby at_29) rfl ?_
    show Steps p.tables e below (s₁.setTop (mkF m 31 #[.val (.int p1), .val (.long q2), .second, .val (.long q3), .second, .val (.long q4), .second, .val (.long y1), .second, .val (.long y2), .second, .val (.long y3), .second, .val (.long (y1 + y2)), .second, .unset, .unset, .unset, .unset, .unset, .unset] [(.long y1)])) _
    refine XS.lload X0.here hx rfl (hb hby at_31) rfl ?_
    show Steps p.tables e below (s₁.setTop (mkF m 33 #[.val (.int p1), .val (.long q2), .second, .val (.long q3), .second, .val (.long q4), .second, .val (.long y1), .second, .val (.long y2), .second, .val (.long y3), .second, .val (.long (y1 + y2)), .second, .unset, .unset, .unset, .unset, .unset, .unset] [(.long y3), (.long y1)])) _
    refine XS.ladd X0.here hx rfl (hb hby at_33) rfl ?_
    show Steps p.tables e below (s₁.setTop (mkF m 34 #[.val (.int p1), .val (.long q2), .second, .val (.long q3), .second, .val (.long q4), .second, .val (.long y1), .second, .val (.long y2), .second, .val (.long y3), .second, .val (.long (y1 + y2)), .second, .unset, .unset, .unset, .unset, .unset, .unset] [(.long (y1 + y3))])) _
    refine XS.lstore X0.here hx rfl (hb hby at_34) rfl (l' := #[.val (.int p1), .val (.long q2), .second, .val (.long q3), .second, .val (.long q4), .second, .val (.long y1), .second, .val (.long y2), .second, .val (.long y3), .second, .val (.long (y1 + y2)), .second, .val (.long (y1 + y3)), .second, .unset, .unset, .unset, .unset]) rfl ?_
    show Steps p.tables e below (s₁.setTop (mkF m 36 #[.val (.int p1), .val (.long q2), .second, .val (.long q3), .second, .val (.long q4), .second, .val (.long y1), .second, .val (.long y2), .second, .val (.long y3), .second, .val (.long (y1 + y2)), .second, .val (.long (y1 + y3)), .second, .unset, .unset, .unset, .unset] [])) _
    refine XS.iloadN X0.here hx rfl (hb hby at_36) rfl ?_
    show Steps p.tables e below (s₁.setTop (mkF m 37 #[.val (.int p1), .val (.long q2), .second, .val (.long q3), .second, .val (.long q4), .second, .val (.long y1), .second, .val (.long y2), .second, .val (.long y3), .second, .val (.long (y1 + y2)), .second, .val (.long (y1 + y3)), .second, .unset, .unset, .unset, .unset] [(.int p1)])) _
    refine XS.iconst X0.here hx rfl (hb hby at_37) ?_
    show Steps p.tables e below (s₁.setTop (mkF m 38 #[.val (.int p1), .val (.long q2), .second, .val (.long q3), .second, .val (.long q4), .second, .val (.long y1), .second, .val (.long y2), .second, .val (.long y3), .second, .val (.long (y1 + y2)), .second, .val (.long (y1 + y3)), .second, .unset, .unset, .unset, .unset] [(.int (3 : Int32)), (.int p1)])) _
    refine XS.iand X0.here hx rfl (hb hby at_38) rfl ?_
    show Steps p.tables e below (s₁.setTop (mkF m 39 #[.val (.int p1), .val (.long q2), .second, .val (.long q3), .second, .val (.long q4), .second, .val (.long y1), .second, .val (.long y2), .second, .val (.long y3), .second, .val (.long (y1 + y2)), .second, .val (.long (y1 + y3)), .second, .unset, .unset, .unset, .unset] [(.int (p1 &&& (3 : Int32)))])) _
    refine XS.istore X0.here hx rfl (hb hby at_39) rfl (l' := #[.val (.int p1), .val (.long q2), .second, .val (.long q3), .second, .val (.long q4), .second, .val (.long y1), .second, .val (.long y2), .second, .val (.long y3), .second, .val (.long (y1 + y2)), .second, .val (.long (y1 + y3)), .second, .val (.int (p1 &&& (3 : Int32))), .unset, .unset, .unset]) rfl ?_
    show Steps p.tables e below (s₁.setTop (mkF m 41 #[.val (.int p1), .val (.long q2), .second, .val (.long q3), .second, .val (.long q4), .second, .val (.long y1), .second, .val (.long y2), .second, .val (.long y3), .second, .val (.long (y1 + y2)), .second, .val (.long (y1 + y3)), .second, .val (.int (p1 &&& (3 : Int32))), .unset, .unset, .unset] [])) _
    refine XS.iload X0.here hx rfl (hb hby at_41) rfl ?_
    exact k
  by_cases hc43_5 : (p1 &&& (3 : Int32)) = (0 : Int32)
  · obtain ⟨T6, X6, e6, st6⟩ := getS2 X0 hx hZ hown (host := "") (Or.inl (hw _ (List.mem_of_getElem? (i := 1) rfl))) Via.refl e0 S_w_AND (g := (mkF m 46 #[.val (.int p1), .val (.long q2), .second, .val (.long q3), .second, .val (.long q4), .second, .val (.long y1), .second, .val (.long y2), .second, .val (.long y3), .second, .val (.long (y1 + y2)), .second, .val (.long (y1 + y3)), .second, .val (.int (p1 &&& (3 : Int32))), .unset, .unset, .unset] [])) rfl (hb hby at_46)
    obtain ⟨cq7, kq7, q7a, q7b, q7c⟩ := isOf hZ e6 E_w_AND
    obtain ⟨_, _, ⟨T7, L7, k7, n7⟩, -, X7, ⟨Lc7, hQ7, l7, y7, z7⟩, st7⟩ := X6.virtualBack hx (y := (⟨"com/example/bitstrata/bitstrata/SetOperation", "cardinality", "(JJJ)J"⟩ : MethodName)) (z := (⟨"com/example/bitstrata/bitstrata/SetOperation", "cardinality", "(JJJ)J"⟩ : MethodName)) hown (mvT hZ (hw _ (List.mem_of_getElem? (i := 4) rfl))) (mvT hZ (hw _ (List.mem_of_getElem? (i := 5) rfl))) (notFace_of_selects (args := #[]) (mvT hZ (hw _ (List.mem_of_getElem? (i := 7) rfl)))) (mvT hZ (hw _ (List.mem_of_getElem? (i := 7) rfl))) (mvT hZ (hw _ (List.mem_of_getElem? (i := 6) rfl))) (by decide) (backOf (W := 0) (rm1 l Z a0 hw [] w_AND (y1 + y2) (y1 + y3) y1 (1 : Int32) (0 : Int32) (0 : Int32) h0 n0 Z0 F_w_AND_keepsBoth F_w_AND_keepsLeftOnly F_w_AND_keepsRightOnly) hZ (hw _ (List.mem_of_getElem? (i := 8) rfl)) (hw _ (List.mem_of_getElem? (i := 2) rfl)) (by decide) (by decide)) q7a q7c (g := (mkF m 120 #[.val (.int p1), .val (.long q2), .second, .val (.long q3), .second, .val (.long q4), .second, .val (.long y1), .second, .val (.long y2), .second, .val (.long y3), .second, .val (.long (y1 + y2)), .second, .val (.long (y1 + y3)), .second, .val (.int (p1 &&& (3 : Int32))), .val (.ref w_AND), .val (.long y1), .second] [(.long y1), (.long (y1 + y3)), (.long (y1 + y2)), (.ref w_AND)])) rfl (by rw [hml]; rfl) (Steps.refl _) (argsL := [(.long (y1 + y2)), (.long (y1 + y3)), (.long y1)]) (rest := []) (lenOf pd_0 rfl) rfl (by show 2 * 0 + _ ≤ _; exact Nat.le_of_eq rfl) (hb hby at_120) (fun _ _ => ⟨rfl, e6, (by decide : 0 + 0 ≤ _), (by decide : 0 + 0 ≤ _)⟩)
    dsimp only [Pt.U, Pt.locs, Pt.cells, Pt.slots] at X7 l7 y7 z7 st7 hQ7
    subst l7 y7 z7
    obtain ⟨rfl, N7q, e7⟩ := hQ7
    have N7 := Fr.app N0 N7q
    obtain ⟨fs, hr, hrun, hended, hW, hsame⟩ := X7.leave (v := some (.int (1 : Int32))) (fun h => by rw [Bd.returns] at h; cases h)
    refine ⟨_, _, pre4 _ ?_, hrun, hended, _, _, rfl, ?_, ⟨_, rfl⟩, hW, hsame.mono (by decide) (by decide)⟩
    · show Steps p.tables e below (s₁.setTop (mkF m 43 #[.val (.int p1), .val (.long q2), .second, .val (.long q3), .second, .val (.long q4), .second, .val (.long y1), .second, .val (.long y2), .second, .val (.long y3), .second, .val (.long (y1 + y2)), .second, .val (.long (y1 + y3)), .second, .val (.int (p1 &&& (3 : Int32))), .unset, .unset, .unset] [(.int (p1 &&& (3 : Int32)))])) _
      refine XS.ifNo X0.here hx rfl (hb hby at_43) rfl ((if0 _ _).trans (teq hc43_5).2) ?_
      show Steps p.tables e below (s₁.setTop (mkF m 46 #[.val (.int p1), .val (.long q2), .second, .val (.long q3), .second, .val (.long q4), .second, .val (.long y1), .second, .val (.long y2), .second, .val (.long y3), .second, .val (.long (y1 + y2)), .second, .val (.long (y1 + y3)), .second, .val (.int (p1 &&& (3 : Int32))), .unset, .unset, .unset] [])) _
      refine st6 _ ?_
      show Steps p.tables e below (T6.setTop (mkF m 49 #[.val (.int p1), .val (.long q2), .second, .val (.long q3), .second, .val (.long q4), .second, .val (.long y1), .second, .val (.long y2), .second, .val (.long y3), .second, .val (.long (y1 + y2)), .second, .val (.long (y1 + y3)), .second, .val (.int (p1 &&& (3 : Int32))), .unset, .unset, .unset] [(.ref w_AND)])) _
      refine XS.astore X6.here hx rfl (hb hby at_49) rfl rfl (l' := #[.val (.int p1), .val (.long q2), .second, .val (.long q3), .second, .val (.long q4), .second, .val (.long y1), .second, .val (.long y2), .second, .val (.long y3), .second, .val (.long (y1 + y2)), .second, .val (.long (y1 + y3)), .second, .val (.int (p1 &&& (3 : Int32))), .val (.ref w_AND), .unset, .unset]) rfl ?_
      show Steps p.tables e below (T6.setTop (mkF m 51 #[.val (.int p1), .val (.long q2), .second, .val (.long q3), .second, .val (.long q4), .second, .val (.long y1), .second, .val (.long y2), .second, .val (.long y3), .second, .val (.long (y1 + y2)), .second, .val (.long (y1 + y3)), .second, .val (.int (p1 &&& (3 : Int32))), .val (.ref w_AND), .unset, .unset] [])) _
      refine XS.lload X6.here hx rfl (hb hby at_51) rfl ?_
      show Steps p.tables e below (T6.setTop (mkF m 53 #[.val (.int p1), .val (.long q2), .second, .val (.long q3), .second, .val (.long q4), .second, .val (.long y1), .second, .val (.long y2), .second, .val (.long y3), .second, .val (.long (y1 + y2)), .second, .val (.long (y1 + y3)), .second, .val (.int (p1 &&& (3 : Int32))), .val (.ref w_AND), .unset, .unset] [(.long y1)])) _
      refine XS.lstore X6.here hx rfl (hb hby at_53) rfl (l' := #[.val (.int p1), .val (.long q2), .second, .val (.long q3), .second, .val (.long q4), .second, .val (.long y1), .second, .val (.long y2), .second, .val (.long y3), .second, .val (.long (y1 + y2)), .second, .val (.long (y1 + y3)), .second, .val (.int (p1 &&& (3 : Int32))), .val (.ref w_AND), .val (.long y1), .second]) rfl ?_
      show Steps p.tables e below (T6.setTop (mkF m 55 #[.val (.int p1), .val (.long q2), .second, .val (.long q3), .second, .val (.long q4), .second, .val (.long y1), .second, .val (.long y2), .second, .val (.long y3), .second, .val (.long (y1 + y2)), .second, .val (.long (y1 + y3)), .second, .val (.int (p1 &&& (3 : Int32))), .val (.ref w_AND), .val (.long y1), .second] [])) _
      refine XS.goto X6.here hx rfl (pc0 := 55) (pc' := 112) rfl (hb hby at_55) (by decide) (by decide) ?_
      show Steps p.tables e below (T6.setTop (mkF m 112 #[.val (.int p1), .val (.long q2), .second, .val (.long q3), .second, .val (.long q4), .second, .val (.long y1), .second, .val (.long y2), .second, .val (.long y3), .second, .val (.long (y1 + y2)), .second, .val (.long (y1 + y3)), .second, .val (.int (p1 &&& (3 : Int32))), .val (.ref w_AND), .val (.long y1), .second] [])) _
      refine XS.aload X6.here hx rfl (hb hby at_112) rfl rfl ?_
      show Steps p.tables e below (T6.setTop (mkF m 114 #[.val (.int p1), .val (.long q2), .second, .val (.long q3), .second, .val (.long q4), .second, .val (.long y1), .second, .val (.long y2), .second, .val (.long y3), .second, .val (.long (y1 + y2)), .second, .val (.long (y1 + y3)), .second, .val (.int (p1 &&& (3 : Int32))), .val (.ref w_AND), .val (.long y1), .second] [(.ref w_AND)])) _
      refine XS.lload X6.here hx rfl (hb hby at_114) rfl ?_
      show Steps p.tables e below (T6.setTop (mkF m 116 #[.val (.int p1), .val (.long q2), .second, .val (.long q3), .second, .val (.long q4), .second, .val (.long y1), .second, .val (.long y2), .second, .val (.long y3), .second, .val (.long (y1 + y2)), .second, .val (.long (y1 + y3)), .second, .val (.int (p1 &&& (3 : Int32))), .val (.ref w_AND), .val (.long y1), .second] [(.long (y1 + y2)), (.ref w_AND)])) _
      refine XS.lload X6.here hx rfl (hb hby at_116) rfl ?_
      show Steps p.tables e below (T6.setTop (mkF m 118 #[.val (.int p1), .val (.long q2), .second, .val (.long q3), .second, .val (.long q4), .second, .val (.long y1), .second, .val (.long y2), .second, .val (.long y3), .second, .val (.long (y1 + y2)), .second, .val (.long (y1 + y3)), .second, .val (.int (p1 &&& (3 : Int32))), .val (.ref w_AND), .val (.long y1), .second] [(.long (y1 + y3)), (.long (y1 + y2)), (.ref w_AND)])) _
      refine XS.lload X6.here hx rfl (hb hby at_118) rfl ?_
      show Steps p.tables e below (T6.setTop (mkF m 120 #[.val (.int p1), .val (.long q2), .second, .val (.long q3), .second, .val (.long q4), .second, .val (.long y1), .second, .val (.long y2), .second, .val (.long y3), .second, .val (.long (y1 + y2)), .second, .val (.long (y1 + y3)), .second, .val (.int (p1 &&& (3 : Int32))), .val (.ref w_AND), .val (.long y1), .second] [(.long y1), (.long (y1 + y3)), (.long (y1 + y2)), (.ref w_AND)])) _
      refine st7.trans ?_
      show Steps p.tables e below (T7.setTop (mkF m 123 #[.val (.int p1), .val (.long q2), .second, .val (.long q3), .second, .val (.long q4), .second, .val (.long y1), .second, .val (.long y2), .second, .val (.long y3), .second, .val (.long (y1 + y2)), .second, .val (.long (y1 + y3)), .second, .val (.int (p1 &&& (3 : Int32))), .val (.ref w_AND), .val (.long y1), .second] [(.long (own_card w_AND (y1 + y2) (y1 + y3) y1 (1 : Int32) (0 : Int32) (0 : Int32)))])) _
      refine XS.lload X7.here hx rfl (hb hby at_123) rfl ?_
      show Steps p.tables e below (T7.setTop (mkF m 125 #[.val (.int p1), .val (.long q2), .second, .val (.long q3), .second, .val (.long q4), .second, .val (.long y1), .second, .val (.long y2), .second, .val (.long y3), .second, .val (.long (y1 + y2)), .second, .val (.long (y1 + y3)), .second, .val (.int (p1 &&& (3 : Int32))), .val (.ref w_AND), .val (.long y1), .second] [(.long y1), (.long (own_card w_AND (y1 + y2) (y1 + y3) y1 (1 : Int32) (0 : Int32) (0 : Int32)))])) _
      refine XS.lcmp X7.here hx rfl (hb hby at_125) rfl ?_
      show Steps p.tables e below (T7.setTop (mkF m 126 #[.val (.int p1), .val (.long q2), .second, .val (.long q3), .second, .val (.long q4), .second, .val (.long y1), .second, .val (.long y2), .second, .val (.long y3), .second, .val (.long (y1 + y2)), .second, .val (.long (y1 + y3)), .second, .val (.int (p1 &&& (3 : Int32))), .val (.ref w_AND), .val (.long y1), .second] [(.int (lcmpW (own_card w_AND (y1 + y2) (y1 + y3) y1 (1 : Int32) (0 : Int32) (0 : Int32)) y1))])) _
      refine XS.ifNo X7.here hx rfl (hb hby at_126) rfl ((if0 _ _).trans (teq (((lw_eq _ _).mpr (own_and _ _ _ _)) : ((lcmpW (own_card w_AND (y1 + y2) (y1 + y3) y1 (1 : Int32) (0 : Int32) (0 : Int32)) y1) = (0 : Int32)))).2) ?_
      show Steps p.tables e below (T7.setTop (mkF m 129 #[.val (.int p1), .val (.long q2), .second, .val (.long q3), .second, .val (.long q4), .second, .val (.long y1), .second, .val (.long y2), .second, .val (.long y3), .second, .val (.long (y1 + y2)), .second, .val (.long (y1 + y3)), .second, .val (.int (p1 &&& (3 : Int32))), .val (.ref w_AND), .val (.long y1), .second] [])) _
      refine XS.iconst X7.here hx rfl (hb hby at_129) ?_
      show Steps p.tables e below (T7.setTop (mkF m 130 #[.val (.int p1), .val (.long q2), .second, .val (.long q3), .second, .val (.long q4), .second, .val (.long y1), .second, .val (.long y2), .second, .val (.long y3), .second, .val (.long (y1 + y2)), .second, .val (.long (y1 + y3)), .second, .val (.int (p1 &&& (3 : Int32))), .val (.ref w_AND), .val (.long y1), .second] [(.int (1 : Int32))])) _
      refine XS.goto X7.here hx rfl (pc0 := 130) (pc' := 134) rfl (hb hby at_130) (by decide) (by decide) ?_
      show Steps p.tables e below (T7.setTop (mkF m 134 #[.val (.int p1), .val (.long q2), .second, .val (.long q3), .second, .val (.long q4), .second, .val (.long y1), .second, .val (.long y2), .second, .val (.long y3), .second, .val (.long (y1 + y2)), .second, .val (.long (y1 + y3)), .second, .val (.int (p1 &&& (3 : Int32))), .val (.ref w_AND), .val (.long y1), .second] [(.int (1 : Int32))])) _
      exact retN X7 hx (t := .boolean) Bd.returns (by simp) (hb hby at_134) hr
    · show Q_rm0 Z p1 q2 q3 q4 w_AND w_AND_NOT w_OR w_XOR h0 n0 _ T7.heap _
      rw [e7]
      exact ⟨rfl, N7⟩
  · have pre8 : ∀ t, Steps p.tables e below (s₁.setTop (mkF m 61 #[.val (.int p1), .val (.long q2), .second, .val (.long q3), .second, .val (.long q4), .second, .val (.long y1), .second, .val (.long y2), .second, .val (.long y3), .second, .val (.long (y1 + y2)), .second, .val (.long (y1 + y3)), .second, .val (.int (p1 &&& (3 : Int32))), .unset, .unset, .unset] [(.int (1 : Int32)), (.int (p1 &&& (3 : Int32)))])) t → Steps p.tables e below (s₁.setTop (entryFrame m #[(.int p1), (.long q2), (.long q3), (.long q4)] maxLocals)) t := by
      intro t k
      refine pre4 t ?_
      show Steps p.tables e below (s₁.setTop (mkF m 43 #[.val (.int p1), .val (.long q2), .second, .val (.long q3), .second, .val (.long q4), .second, .val (.long y1), .second, .val (.long y2), .second, .val (.long y3), .second, .val (.long (y1 + y2)), .second, .val (.long (y1 + y3)), .second, .val (.int (p1 &&& (3 : Int32))), .unset, .unset, .unset] [(.int (p1 &&& (3 : Int32)))])) _
      refine XS.ifYes X0.here hx rfl (pc0 := 43) (pc' := 58) rfl (hb hby at_43) rfl ((if0 _ _).trans (feq hc43_5).2) (by decide) (by decide) ?_
      show Steps p.tables e below (s₁.setTop (mkF m 58 #[.val (.int p1), .val (.long q2), .second, .val (.long q3), .second, .val (.long q4), .second, .val (.long y1), .second, .val (.long y2), .second, .val (.long y3), .second, .val (.long (y1 + y2)), .second, .val (.long (y1 + y3)), .second, .val (.int (p1 &&& (3 : Int32))), .unset, .unset, .unset] [])) _
      refine XS.iload X0.here hx rfl (hb hby at_58) rfl ?_
      show Steps p.tables e below (s₁.setTop (mkF m 60 #[.val (.int p1), .val (.long q2), .second, .val (.long q3), .second, .val (.long q4), .second, .val (.long y1), .second, .val (.long y2), .second, .val (.long y3), .second, .val (.long (y1 + y2)), .second, .val (.long (y1 + y3)), .second, .val (.int (p1 &&& (3 : Int32))), .unset, .unset, .unset] [(.int (p1 &&& (3 : Int32)))])) _
      refine XS.iconst X0.here hx rfl (hb hby at_60) ?_
      exact k
    by_cases hc61_9 : (p1 &&& (3 : Int32)) = (1 : Int32)
    · obtain ⟨T10, X10, e10, st10⟩ := getS2 X0 hx hZ hown (host := "") (Or.inl (hw _ (List.mem_of_getElem? (i := 17) rfl))) Via.refl e0 S_w_OR (g := (mkF m 64 #[.val (.int p1), .val (.long q2), .second, .val (.long q3), .second, .val (.long q4), .second, .val (.long y1), .second, .val (.long y2), .second, .val (.long y3), .second, .val (.long (y1 + y2)), .second, .val (.long (y1 + y3)), .second, .val (.int (p1 &&& (3 : Int32))), .unset, .unset, .unset] [])) rfl (hb hby at_64)
      obtain ⟨cq11, kq11, q11a, q11b, q11c⟩ := isOf hZ e10 E_w_OR
      obtain ⟨_, _, ⟨T11, L11, k11, n11⟩, -, X11, ⟨Lc11, hQ11, l11, y11, z11⟩, st11⟩ := X10.virtualBack hx (y := (⟨"com/example/bitstrata/bitstrata/SetOperation", "cardinality", "(JJJ)J"⟩ : MethodName)) (z := (⟨"com/example/bitstrata/bitstrata/SetOperation", "cardinality", "(JJJ)J"⟩ : MethodName)) hown (mvT hZ (hw _ (List.mem_of_getElem? (i := 4) rfl))) (mvT hZ (hw _ (List.mem_of_getElem? (i := 5) rfl))) (notFace_of_selects (args := #[]) (mvT hZ (hw _ (List.mem_of_getElem? (i := 7) rfl)))) (mvT hZ (hw _ (List.mem_of_getElem? (i := 7) rfl))) (mvT hZ (hw _ (List.mem_of_getElem? (i := 6) rfl))) (by decide) (backOf (W := 0) (rm1 l Z a0 hw [] w_OR (y1 + y2) (y1 + y3) y1 (1 : Int32) (1 : Int32) (1 : Int32) h0 n0 Z0 F_w_OR_keepsBoth F_w_OR_keepsLeftOnly F_w_OR_keepsRightOnly) hZ (hw _ (List.mem_of_getElem? (i := 8) rfl)) (hw _ (List.mem_of_getElem? (i := 2) rfl)) (by decide) (by decide)) q11a q11c (g := (mkF m 120 #[.val (.int p1), .val (.long q2), .second, .val (.long q3), .second, .val (.long q4), .second, .val (.long y1), .second, .val (.long y2), .second, .val (.long y3), .second, .val (.long (y1 + y2)), .second, .val (.long (y1 + y3)), .second, .val (.int (p1 &&& (3 : Int32))), .val (.ref w_OR), .val (.long ((y1 + y2) + y3)), .second] [(.long y1), (.long (y1 + y3)), (.long (y1 + y2)), (.ref w_OR)])) rfl (by rw [hml]; rfl) (Steps.refl _) (argsL := [(.long (y1 + y2)), (.long (y1 + y3)), (.long y1)]) (rest := []) (lenOf pd_0 rfl) rfl (by show 2 * 0 + _ ≤ _; exact Nat.le_of_eq rfl) (hb hby at_120) (fun _ _ => ⟨rfl, e10, (by decide : 0 + 0 ≤ _), (by decide : 0 + 0 ≤ _)⟩)
      dsimp only [Pt.U, Pt.locs, Pt.cells, Pt.slots] at X11 l11 y11 z11 st11 hQ11
      subst l11 y11 z11
      obtain ⟨rfl, N11q, e11⟩ := hQ11
      have N11 := Fr.app N0 N11q
      obtain ⟨fs, hr, hrun, hended, hW, hsame⟩ := X11.leave (v := some (.int (1 : Int32))) (fun h => by rw [Bd.returns] at h; cases h)
      refine ⟨_, _, pre8 _ ?_, hrun, hended, _, _, rfl, ?_, ⟨_, rfl⟩, hW, hsame.mono (by decide) (by decide)⟩
      · show Steps p.tables e below (s₁.setTop (mkF m 61 #[.val (.int p1), .val (.long q2), .second, .val (.long q3), .second, .val (.long q4), .second, .val (.long y1), .second, .val (.long y2), .second, .val (.long y3), .second, .val (.long (y1 + y2)), .second, .val (.long (y1 + y3)), .second, .val (.int (p1 &&& (3 : Int32))), .unset, .unset, .unset] [(.int (1 : Int32)), (.int (p1 &&& (3 : Int32)))])) _
        refine XS.icmpNo X0.here hx rfl (hb hby at_61) rfl (teq hc61_9).2 ?_
        show Steps p.tables e below (s₁.setTop (mkF m 64 #[.val (.int p1), .val (.long q2), .second, .val (.long q3), .second, .val (.long q4), .second, .val (.long y1), .second, .val (.long y2), .second, .val (.long y3), .second, .val (.long (y1 + y2)), .second, .val (.long (y1 + y3)), .second, .val (.int (p1 &&& (3 : Int32))), .unset, .unset, .unset] [])) _
        refine st10 _ ?_
        show Steps p.tables e below (T10.setTop (mkF m 67 #[.val (.int p1), .val (.long q2), .second, .val (.long q3), .second, .val (.long q4), .second, .val (.long y1), .second, .val (.long y2), .second, .val (.long y3), .second, .val (.long (y1 + y2)), .second, .val (.long (y1 + y3)), .second, .val (.int (p1 &&& (3 : Int32))), .unset, .unset, .unset] [(.ref w_OR)])) _
        refine XS.astore X10.here hx rfl (hb hby at_67) rfl rfl (l' := #[.val (.int p1), .val (.long q2), .second, .val (.long q3), .second, .val (.long q4), .second, .val (.long y1), .second, .val (.long y2), .second, .val (.long y3), .second, .val (.long (y1 + y2)), .second, .val (.long (y1 + y3)), .second, .val (.int (p1 &&& (3 : Int32))), .val (.ref w_OR), .unset, .unset]) rfl ?_
        show Steps p.tables e below (T10.setTop (mkF m 69 #[.val (.int p1), .val (.long q2), .second, .val (.long q3), .second, .val (.long q4), .second, .val (.long y1), .second, .val (.long y2), .second, .val (.long y3), .second, .val (.long (y1 + y2)), .second, .val (.long (y1 + y3)), .second, .val (.int (p1 &&& (3 : Int32))), .val (.ref w_OR), .unset, .unset] [])) _
        refine XS.lload X10.here hx rfl (hb hby at_69) rfl ?_
        show Steps p.tables e below (T10.setTop (mkF m 71 #[.val (.int p1), .val (.long q2), .second, .val (.long q3), .second, .val (.long q4), .second, .val (.long y1), .second, .val (.long y2), .second, .val (.long y3), .second, .val (.long (y1 + y2)), .second, .val (.long (y1 + y3)), .second, .val (.int (p1 &&& (3 : Int32))), .val (.ref w_OR), .unset, .unset] [(.long y1)])) _
        refine XS.lload X10.here hx rfl (hb hby at_71) rfl ?_
        show Steps p.tables e below (T10.setTop (mkF m 73 #[.val (.int p1), .val (.long q2), .second, .val (.long q3), .second, .val (.long q4), .second, .val (.long y1), .second, .val (.long y2), .second, .val (.long y3), .second, .val (.long (y1 + y2)), .second, .val (.long (y1 + y3)), .second, .val (.int (p1 &&& (3 : Int32))), .val (.ref w_OR), .unset, .unset] [(.long y2), (.long y1)])) _
        refine XS.ladd X10.here hx rfl (hb hby at_73) rfl ?_
        show Steps p.tables e below (T10.setTop (mkF m 74 #[.val (.int p1), .val (.long q2), .second, .val (.long q3), .second, .val (.long q4), .second, .val (.long y1), .second, .val (.long y2), .second, .val (.long y3), .second, .val (.long (y1 + y2)), .second, .val (.long (y1 + y3)), .second, .val (.int (p1 &&& (3 : Int32))), .val (.ref w_OR), .unset, .unset] [(.long (y1 + y2))])) _
        refine XS.lload X10.here hx rfl (hb hby at_74) rfl ?_
        show Steps p.tables e below (T10.setTop (mkF m 76 #[.val (.int p1), .val (.long q2), .second, .val (.long q3), .second, .val (.long q4), .second, .val (.long y1), .second, .val (.long y2), .second, .val (.long y3), .second, .val (.long (y1 + y2)), .second, .val (.long (y1 + y3)), .second, .val (.int (p1 &&& (3 : Int32))), .val (.ref w_OR), .unset, .unset] [(.long y3), (.long (y1 + y2))])) _
        refine XS.ladd X10.here hx rfl (hb hby at_76) rfl ?_
        show Steps p.tables e below (T10.setTop (mkF m 77 #[.val (.int p1), .val (.long q2), .second, .val (.long q3), .second, .val (.long q4), .second, .val (.long y1), .second, .val (.long y2), .second, .val (.long y3), .second, .val (.long (y1 + y2)), .second, .val (.long (y1 + y3)), .second, .val (.int (p1 &&& (3 : Int32))), .val (.ref w_OR), .unset, .unset] [(.long ((y1 + y2) + y3))])) _
        refine XS.lstore X10.here hx rfl (hb hby at_77) rfl (l' := #[.val (.int p1), .val (.long q2), .second, .val (.long q3), .second, .val (.long q4), .second, .val (.long y1), .second, .val (.long y2), .second, .val (.long y3), .second, .val (.long (y1 + y2)), .second, .val (.long (y1 + y3)), .second, .val (.int (p1 &&& (3 : Int32))), .val (.ref w_OR), .val (.long ((y1 + y2) + y3)), .second]) rfl ?_
        show Steps p.tables e below (T10.setTop (mkF m 79 #[.val (.int p1), .val (.long q2), .second, .val (.long q3), .second, .val (.long q4), .second, .val (.long y1), .second, .val (.long y2), .second, .val (.long y3), .second, .val (.long (y1 + y2)), .second, .val (.long (y1 + y3)), .second, .val (.int (p1 &&& (3 : Int32))), .val (.ref w_OR), .val (.long ((y1 + y2) + y3)), .second] [])) _
        refine XS.goto X10.here hx rfl (pc0 := 79) (pc' := 112) rfl (hb hby at_79) (by decide) (by decide) ?_
        show Steps p.tables e below (T10.setTop (mkF m 112 #[.val (.int p1), .val (.long q2), .second, .val (.long q3), .second, .val (.long q4), .second, .val (.long y1), .second, .val (.long y2), .second, .val (.long y3), .second, .val (.long (y1 + y2)), .second, .val (.long (y1 + y3)), .second, .val (.int (p1 &&& (3 : Int32))), .val (.ref w_OR), .val (.long ((y1 + y2) + y3)), .second] [])) _
        refine XS.aload X10.here hx rfl (hb hby at_112) rfl rfl ?_
        show Steps p.tables e below (T10.setTop (mkF m 114 #[.val (.int p1), .val (.long q2), .second, .val (.long q3), .second, .val (.long q4), .second, .val (.long y1), .second, .val (.long y2), .second, .val (.long y3), .second, .val (.long (y1 + y2)), .second, .val (.long (y1 + y3)), .second, .val (.int (p1 &&& (3 : Int32))), .val (.ref w_OR), .val (.long ((y1 + y2) + y3)), .second] [(.ref w_OR)])) _
        refine XS.lload X10.here hx rfl (hb hby at_114) rfl ?_
        show Steps p.tables e below (T10.setTop (mkF m 116 #[.val (.int p1), .val (.long q2), .second, .val (.long q3), .second, .val (.long q4), .second, .val (.long y1), .second, .val (.long y2), .second, .val (.long y3), .second, .val (.long (y1 + y2)), .second, .val (.long (y1 + y3)), .second, .val (.int (p1 &&& (3 : Int32))), .val (.ref w_OR), .val (.long ((y1 + y2) + y3)), .second] [(.long (y1 + y2)), (.ref w_OR)])) _
        refine XS.lload X10.here hx rfl (hb hby at_116) rfl ?_
        show Steps p.tables e below (T10.setTop (mkF m 118 #[.val (.int p1), .val (.long q2), .second, .val (.long q3), .second, .val (.long q4), .second, .val (.long y1), .second, .val (.long y2), .second, .val (.long y3), .second, .val (.long (y1 + y2)), .second, .val (.long (y1 + y3)), .second, .val (.int (p1 &&& (3 : Int32))), .val (.ref w_OR), .val (.long ((y1 + y2) + y3)), .second] [(.long (y1 + y3)), (.long (y1 + y2)), (.ref w_OR)])) _
        refine XS.lload X10.here hx rfl (hb hby at_118) rfl ?_
        show Steps p.tables e below (T10.setTop (mkF m 120 #[.val (.int p1), .val (.long q2), .second, .val (.long q3), .second, .val (.long q4), .second, .val (.long y1), .second, .val (.long y2), .second, .val (.long y3), .second, .val (.long (y1 + y2)), .second, .val (.long (y1 + y3)), .second, .val (.int (p1 &&& (3 : Int32))), .val (.ref w_OR), .val (.long ((y1 + y2) + y3)), .second] [(.long y1), (.long (y1 + y3)), (.long (y1 + y2)), (.ref w_OR)])) _
        refine st11.trans ?_
        show Steps p.tables e below (T11.setTop (mkF m 123 #[.val (.int p1), .val (.long q2), .second, .val (.long q3), .second, .val (.long q4), .second, .val (.long y1), .second, .val (.long y2), .second, .val (.long y3), .second, .val (.long (y1 + y2)), .second, .val (.long (y1 + y3)), .second, .val (.int (p1 &&& (3 : Int32))), .val (.ref w_OR), .val (.long ((y1 + y2) + y3)), .second] [(.long (own_card w_OR (y1 + y2) (y1 + y3) y1 (1 : Int32) (1 : Int32) (1 : Int32)))])) _
        refine XS.lload X11.here hx rfl (hb hby at_123) rfl ?_
        show Steps p.tables e below (T11.setTop (mkF m 125 #[.val (.int p1), .val (.long q2), .second, .val (.long q3), .second, .val (.long q4), .second, .val (.long y1), .second, .val (.long y2), .second, .val (.long y3), .second, .val (.long (y1 + y2)), .second, .val (.long (y1 + y3)), .second, .val (.int (p1 &&& (3 : Int32))), .val (.ref w_OR), .val (.long ((y1 + y2) + y3)), .second] [(.long ((y1 + y2) + y3)), (.long (own_card w_OR (y1 + y2) (y1 + y3) y1 (1 : Int32) (1 : Int32) (1 : Int32)))])) _
        refine XS.lcmp X11.here hx rfl (hb hby at_125) rfl ?_
        show Steps p.tables e below (T11.setTop (mkF m 126 #[.val (.int p1), .val (.long q2), .second, .val (.long q3), .second, .val (.long q4), .second, .val (.long y1), .second, .val (.long y2), .second, .val (.long y3), .second, .val (.long (y1 + y2)), .second, .val (.long (y1 + y3)), .second, .val (.int (p1 &&& (3 : Int32))), .val (.ref w_OR), .val (.long ((y1 + y2) + y3)), .second] [(.int (lcmpW (own_card w_OR (y1 + y2) (y1 + y3) y1 (1 : Int32) (1 : Int32) (1 : Int32)) ((y1 + y2) + y3)))])) _
        refine XS.ifNo X11.here hx rfl (hb hby at_126) rfl ((if0 _ _).trans (teq (((lw_eq _ _).mpr (own_or _ _ _ _)) : ((lcmpW (own_card w_OR (y1 + y2) (y1 + y3) y1 (1 : Int32) (1 : Int32) (1 : Int32)) ((y1 + y2) + y3)) = (0 : Int32)))).2) ?_
        show Steps p.tables e below (T11.setTop (mkF m 129 #[.val (.int p1), .val (.long q2), .second, .val (.long q3), .second, .val (.long q4), .second, .val (.long y1), .second, .val (.long y2), .second, .val (.long y3), .second, .val (.long (y1 + y2)), .second, .val (.long (y1 + y3)), .second, .val (.int (p1 &&& (3 : Int32))), .val (.ref w_OR), .val (.long ((y1 + y2) + y3)), .second] [])) _
        refine XS.iconst X11.here hx rfl (hb hby at_129) ?_
        show Steps p.tables e below (T11.setTop (mkF m 130 #[.val (.int p1), .val (.long q2), .second, .val (.long q3), .second, .val (.long q4), .second, .val (.long y1), .second, .val (.long y2), .second, .val (.long y3), .second, .val (.long (y1 + y2)), .second, .val (.long (y1 + y3)), .second, .val (.int (p1 &&& (3 : Int32))), .val (.ref w_OR), .val (.long ((y1 + y2) + y3)), .second] [(.int (1 : Int32))])) _
        refine XS.goto X11.here hx rfl (pc0 := 130) (pc' := 134) rfl (hb hby at_130) (by decide) (by decide) ?_
        show Steps p.tables e below (T11.setTop (mkF m 134 #[.val (.int p1), .val (.long q2), .second, .val (.long q3), .second, .val (.long q4), .second, .val (.long y1), .second, .val (.long y2), .second, .val (.long y3), .second, .val (.long (y1 + y2)), .second, .val (.long (y1 + y3)), .second, .val (.int (p1 &&& (3 : Int32))), .val (.ref w_OR), .val (.long ((y1 + y2) + y3)), .second] [(.int (1 : Int32))])) _
        exact retN X11 hx (t := .boolean) Bd.returns (by simp) (hb hby at_134) hr
      · show Q_rm0 Z p1 q2 q3 q4 w_AND w_AND_NOT w_OR w_XOR h0 n0 _ T11.heap _
        rw [e11]
        exact ⟨rfl, N11⟩
    · have pre12 : ∀ t, Steps p.tables e below (s₁.setTop (mkF m 85 #[.val (.int p1), .val (.long q2), .second, .val (.long q3), .second, .val (.long q4), .second, .val (.long y1), .second, .val (.long y2), .second, .val (.long y3), .second, .val (.long (y1 + y2)), .second, .val (.long (y1 + y3)), .second, .val (.int (p1 &&& (3 : Int32))), .unset, .unset, .unset] [(.int (2 : Int32)), (.int (p1 &&& (3 : Int32)))])) t → Steps p.tables e below (s₁.setTop (entryFrame m #[(.int p1), (.long q2), (.long q3), (.long q4)] maxLocals)) t := by
        intro t k
        refine pre8 t ?_
        show Steps p.tables e below (s₁.setTop (mkF m 61 #[.val (.int p1), .val (.long q2), .second, .val (.long q3), .second, .val (.long q4), .second, .val (.long y1), .second, .val (.long y2), .second, .val (.long y3), .second, .val (.long (y1 + y2)), .second, .val (.long (y1 + y3)), .second, .val (.int (p1 &&& (3 : Int32))), .unset, .unset, .unset] [(.int (1 : Int32)), (.int (p1 &&& (3 : Int32)))])) _
        refine XS.icmpYes X0.here hx rfl (pc0 := 61) (pc' := 82) rfl (hb hby at_61) rfl (feq hc61_9).2 (by decide) (by decide) ?_
        show Steps p.tables e below (s₁.setTop (mkF m 82 #[.val (.int p1), .val (.long q2), .second, .val (.long q3), .second, .val (.long q4), .second, .val (.long y1), .second, .val (.long y2), .second, .val (.long y3), .second, .val (.long (y1 + y2)), .second, .val (.long (y1 + y3)), .second, .val (.int (p1 &&& (3 : Int32))), .unset, .unset, .unset] [])) _
        refine XS.iload X0.here hx rfl (hb hby at_82) rfl ?_
        show Steps p.tables e below (s₁.setTop (mkF m 84 #[.val (.int p1), .val (.long q2), .second, .val (.long q3), .second, .val (.long q4), .second, .val (.long y1), .second, .val (.long y2), .second, .val (.long y3), .second, .val (.long (y1 + y2)), .second, .val (.long (y1 + y3)), .second, .val (.int (p1 &&& (3 : Int32))), .unset, .unset, .unset] [(.int (p1 &&& (3 : Int32)))])) _
        refine XS.iconst X0.here hx rfl (hb hby at_84) ?_
        exact k
      by_cases hc85_13 : (p1 &&& (3 : Int32)) = (2 : Int32)
      · obtain ⟨T14, X14, e14, st14⟩ := getS2 X0 hx hZ hown (host := "") (Or.inl (hw _ (List.mem_of_getElem? (i := 19) rfl))) Via.refl e0 S_w_XOR (g := (mkF m 88 #[.val (.int p1), .val (.long q2), .second, .val (.long q3), .second, .val (.long q4), .second, .val (.long y1), .second, .val (.long y2), .second, .val (.long y3), .second, .val (.long (y1 + y2)), .second, .val (.long (y1 + y3)), .second, .val (.int (p1 &&& (3 : Int32))), .unset, .unset, .unset] [])) rfl (hb hby at_88)
        obtain ⟨cq15, kq15, q15a, q15b, q15c⟩ := isOf hZ e14 E_w_XOR
        obtain ⟨_, _, ⟨T15, L15, k15, n15⟩, -, X15, ⟨Lc15, hQ15, l15, y15, z15⟩, st15⟩ := X14.virtualBack hx (y := (⟨"com/example/bitstrata/bitstrata/SetOperation", "cardinality", "(JJJ)J"⟩ : MethodName)) (z := (⟨"com/example/bitstrata/bitstrata/SetOperation", "cardinality", "(JJJ)J"⟩ : MethodName)) hown (mvT hZ (hw _ (List.mem_of_getElem? (i := 4) rfl))) (mvT hZ (hw _ (List.mem_of_getElem? (i := 5) rfl))) (notFace_of_selects (args := #[]) (mvT hZ (hw _ (List.mem_of_getElem? (i := 7) rfl)))) (mvT hZ (hw _ (List.mem_of_getElem? (i := 7) rfl))) (mvT hZ (hw _ (List.mem_of_getElem? (i := 6) rfl))) (by decide) (backOf (W := 0) (rm1 l Z a0 hw [] w_XOR (y1 + y2) (y1 + y3) y1 (0 : Int32) (1 : Int32) (1 : Int32) h0 n0 Z0 F_w_XOR_keepsBoth F_w_XOR_keepsLeftOnly F_w_XOR_keepsRightOnly) hZ (hw _ (List.mem_of_getElem? (i := 8) rfl)) (hw _ (List.mem_of_getElem? (i := 2) rfl)) (by decide) (by decide)) q15a q15c (g := (mkF m 120 #[.val (.int p1), .val (.long q2), .second, .val (.long q3), .second, .val (.long q4), .second, .val (.long y1), .second, .val (.long y2), .second, .val (.long y3), .second, .val (.long (y1 + y2)), .second, .val (.long (y1 + y3)), .second, .val (.int (p1 &&& (3 : Int32))), .val (.ref w_XOR), .val (.long (y2 + y3)), .second] [(.long y1), (.long (y1 + y3)), (.long (y1 + y2)), (.ref w_XOR)])) rfl (by rw [hml]; rfl) (Steps.refl _) (argsL := [(.long (y1 + y2)), (.long (y1 + y3)), (.long y1)]) (rest := []) (lenOf pd_0 rfl) rfl (by show 2 * 0 + _ ≤ _; exact Nat.le_of_eq rfl) (hb hby at_120) (fun _ _ => ⟨rfl, e14, (by decide : 0 + 0 ≤ _), (by decide : 0 + 0 ≤ _)⟩)
        dsimp only [Pt.U, Pt.locs, Pt.cells, Pt.slots] at X15 l15 y15 z15 st15 hQ15
        subst l15 y15 z15
        obtain ⟨rfl, N15q, e15⟩ := hQ15
        have N15 := Fr.app N0 N15q
        obtain ⟨fs, hr, hrun, hended, hW, hsame⟩ := X15.leave (v := some (.int (1 : Int32))) (fun h => by rw [Bd.returns] at h; cases h)
        refine ⟨_, _, pre12 _ ?_, hrun, hended, _, _, rfl, ?_, ⟨_, rfl⟩, hW, hsame.mono (by decide) (by decide)⟩
        · show Steps p.tables e below (s₁.setTop (mkF m 85 #[.val (.int p1), .val (.long q2), .second, .val (.long q3), .second, .val (.long q4), .second, .val (.long y1), .second, .val (.long y2), .second, .val (.long y3), .second, .val (.long (y1 + y2)), .second, .val (.long (y1 + y3)), .second, .val (.int (p1 &&& (3 : Int32))), .unset, .unset, .unset] [(.int (2 : Int32)), (.int (p1 &&& (3 : Int32)))])) _
          refine XS.icmpNo X0.here hx rfl (hb hby at_85) rfl (teq hc85_13).2 ?_
          show Steps p.tables e below (s₁.setTop (mkF m 88 #[.val (.int p1), .val (.long q2), .second, .val (.long q3), .second, .val (.long q4), .second, .val (.long y1), .second, .val (.long y2), .second, .val (.long y3), .second, .val (.long (y1 + y2)), .second, .val (.long (y1 + y3)), .second, .val (.int (p1 &&& (3 : Int32))), .unset, .unset, .unset] [])) _
          refine st14 _ ?_
          show Steps p.tables e below (T14.setTop (mkF m 91 #[.val (.int p1), .val (.long q2), .second, .val (.long q3), .second, .val (.long q4), .second, .val (.long y1), .second, .val (.long y2), .second, .val (.long y3), .second, .val (.long (y1 + y2)), .second, .val (.long (y1 + y3)), .second, .val (.int (p1 &&& (3 : Int32))), .unset, .unset, .unset] [(.ref w_XOR)])) _
          refine XS.astore X14.here hx rfl (hb hby at_91) rfl rfl (l' := #[.val (.int p1), .val (.long q2), .second, .val (.long q3), .second, .val (.long q4), .second, .val (.long y1), .second, .val (.long y2), .second, .val (.long y3), .second, .val (.long (y1 + y2)), .second, .val (.long (y1 + y3)), .second, .val (.int (p1 &&& (3 : Int32))), .val (.ref w_XOR), .unset, .unset]) rfl ?_
          show Steps p.tables e below (T14.setTop (mkF m 93 #[.val (.int p1), .val (.long q2), .second, .val (.long q3), .second, .val (.long q4), .second, .val (.long y1), .second, .val (.long y2), .second, .val (.long y3), .second, .val (.long (y1 + y2)), .second, .val (.long (y1 + y3)), .second, .val (.int (p1 &&& (3 : Int32))), .val (.ref w_XOR), .unset, .unset] [])) _
          refine XS.lload X14.here hx rfl (hb hby at_93) rfl ?_
          show Steps p.tables e below (T14.setTop (mkF m 95 #[.val (.int p1), .val (.long q2), .second, .val (.long q3), .second, .val (.long q4), .second, .val (.long y1), .second, .val (.long y2), .second, .val (.long y3), .second, .val (.long (y1 + y2)), .second, .val (.long (y1 + y3)), .second, .val (.int (p1 &&& (3 : Int32))), .val (.ref w_XOR), .unset, .unset] [(.long y2)])) _
          refine XS.lload X14.here hx rfl (hb hby at_95) rfl ?_
          show Steps p.tables e below (T14.setTop (mkF m 97 #[.val (.int p1), .val (.long q2), .second, .val (.long q3), .second, .val (.long q4), .second, .val (.long y1), .second, .val (.long y2), .second, .val (.long y3), .second, .val (.long (y1 + y2)), .second, .val (.long (y1 + y3)), .second, .val (.int (p1 &&& (3 : Int32))), .val (.ref w_XOR), .unset, .unset] [(.long y3), (.long y2)])) _
          refine XS.ladd X14.here hx rfl (hb hby at_97) rfl ?_
          show Steps p.tables e below (T14.setTop (mkF m 98 #[.val (.int p1), .val (.long q2), .second, .val (.long q3), .second, .val (.long q4), .second, .val (.long y1), .second, .val (.long y2), .second, .val (.long y3), .second, .val (.long (y1 + y2)), .second, .val (.long (y1 + y3)), .second, .val (.int (p1 &&& (3 : Int32))), .val (.ref w_XOR), .unset, .unset] [(.long (y2 + y3))])) _
          refine XS.lstore X14.here hx rfl (hb hby at_98) rfl (l' := #[.val (.int p1), .val (.long q2), .second, .val (.long q3), .second, .val (.long q4), .second, .val (.long y1), .second, .val (.long y2), .second, .val (.long y3), .second, .val (.long (y1 + y2)), .second, .val (.long (y1 + y3)), .second, .val (.int (p1 &&& (3 : Int32))), .val (.ref w_XOR), .val (.long (y2 + y3)), .second]) rfl ?_
          show Steps p.tables e below (T14.setTop (mkF m 100 #[.val (.int p1), .val (.long q2), .second, .val (.long q3), .second, .val (.long q4), .second, .val (.long y1), .second, .val (.long y2), .second, .val (.long y3), .second, .val (.long (y1 + y2)), .second, .val (.long (y1 + y3)), .second, .val (.int (p1 &&& (3 : Int32))), .val (.ref w_XOR), .val (.long (y2 + y3)), .second] [])) _
          refine XS.goto X14.here hx rfl (pc0 := 100) (pc' := 112) rfl (hb hby at_100) (by decide) (by decide) ?_
          show Steps p.tables e below (T14.setTop (mkF m 112 #[.val (.int p1), .val (.long q2), .second, .val (.long q3), .second, .val (.long q4), .second, .val (.long y1), .second, .val (.long y2), .second, .val (.long y3), .second, .val (.long (y1 + y2)), .second, .val (.long (y1 + y3)), .second, .val (.int (p1 &&& (3 : Int32))), .val (.ref w_XOR), .val (.long (y2 + y3)), .second] [])) _
          refine XS.aload X14.here hx rfl (hb hby at_112) rfl rfl ?_
          show Steps p.tables e below (T14.setTop (mkF m 114 #[.val (.int p1), .val (.long q2), .second, .val (.long q3), .second, .val (.long q4), .second, .val (.long y1), .second, .val (.long y2), .second, .val (.long y3), .second, .val (.long (y1 + y2)), .second, .val (.long (y1 + y3)), .second, .val (.int (p1 &&& (3 : Int32))), .val (.ref w_XOR), .val (.long (y2 + y3)), .second] [(.ref w_XOR)])) _
          refine XS.lload X14.here hx rfl (hb hby at_114) rfl ?_
          show Steps p.tables e below (T14.setTop (mkF m 116 #[.val (.int p1), .val (.long q2), .second, .val (.long q3), .second, .val (.long q4), .second, .val (.long y1), .second, .val (.long y2), .second, .val (.long y3), .second, .val (.long (y1 + y2)), .second, .val (.long (y1 + y3)), .second, .val (.int (p1 &&& (3 : Int32))), .val (.ref w_XOR), .val (.long (y2 + y3)), .second] [(.long (y1 + y2)), (.ref w_XOR)])) _
          refine XS.lload X14.here hx rfl (hb hby at_116) rfl ?_
          show Steps p.tables e below (T14.setTop (mkF m 118 #[.val (.int p1), .val (.long q2), .second, .val (.long q3), .second, .val (.long q4), .second, .val (.long y1), .second, .val (.long y2), .second, .val (.long y3), .second, .val (.long (y1 + y2)), .second, .val (.long (y1 + y3)), .second, .val (.int (p1 &&& (3 : Int32))), .val (.ref w_XOR), .val (.long (y2 + y3)), .second] [(.long (y1 + y3)), (.long (y1 + y2)), (.ref w_XOR)])) _
          refine XS.lload X14.here hx rfl (hb hby at_118) rfl ?_
          show Steps p.tables e below (T14.setTop (mkF m 120 #[.val (.int p1), .val (.long q2), .second, .val (.long q3), .second, .val (.long q4), .second, .val (.long y1), .second, .val (.long y2), .second, .val (.long y3), .second, .val (.long (y1 + y2)), .second, .val (.long (y1 + y3)), .second, .val (.int (p1 &&& (3 : Int32))), .val (.ref w_XOR), .val (.long (y2 + y3)), .second] [(.long y1), (.long (y1 + y3)), (.long (y1 + y2)), (.ref w_XOR)])) _
          refine st15.trans ?_
          show Steps p.tables e below (T15.setTop (mkF m 123 #[.val (.int p1), .val (.long q2), .second, .val (.long q3), .second, .val (.long q4), .second, .val (.long y1), .second, .val (.long y2), .second, .val (.long y3), .second, .val (.long (y1 + y2)), .second, .val (.long (y1 + y3)), .second, .val (.int (p1 &&& (3 : Int32))), .val (.ref w_XOR), .val (.long (y2 + y3)), .second] [(.long (own_card w_XOR (y1 + y2) (y1 + y3) y1 (0 : Int32) (1 : Int32) (1 : Int32)))])) _
          refine XS.lload X15.here hx rfl (hb hby at_123) rfl ?_
          show Steps p.tables e below (T15.setTop (mkF m 125 #[.val (.int p1), .val (.long q2), .second, .val (.long q3), .second, .val (.long q4), .second, .val (.long y1), .second, .val (.long y2), .second, .val (.long y3), .second, .val (.long (y1 + y2)), .second, .val (.long (y1 + y3)), .second, .val (.int (p1 &&& (3 : Int32))), .val (.ref w_XOR), .val (.long (y2 + y3)), .second] [(.long (y2 + y3)), (.long (own_card w_XOR (y1 + y2) (y1 + y3) y1 (0 : Int32) (1 : Int32) (1 : Int32)))])) _
          refine XS.lcmp X15.here hx rfl (hb hby at_125) rfl ?_
          show Steps p.tables e below (T15.setTop (mkF m 126 #[.val (.int p1), .val (.long q2), .second, .val (.long q3), .second, .val (.long q4), .second, .val (.long y1), .second, .val (.long y2), .second, .val (.long y3), .second, .val (.long (y1 + y2)), .second, .val (.long (y1 + y3)), .second, .val (.int (p1 &&& (3 : Int32))), .val (.ref w_XOR), .val (.long (y2 + y3)), .second] [(.int (lcmpW (own_card w_XOR (y1 + y2) (y1 + y3) y1 (0 : Int32) (1 : Int32) (1 : Int32)) (y2 + y3)))])) _
          refine XS.ifNo X15.here hx rfl (hb hby at_126) rfl ((if0 _ _).trans (teq (((lw_eq _ _).mpr (own_xor _ _ _ _)) : ((lcmpW (own_card w_XOR (y1 + y2) (y1 + y3) y1 (0 : Int32) (1 : Int32) (1 : Int32)) (y2 + y3)) = (0 : Int32)))).2) ?_
          show Steps p.tables e below (T15.setTop (mkF m 129 #[.val (.int p1), .val (.long q2), .second, .val (.long q3), .second, .val (.long q4), .second, .val (.long y1), .second, .val (.long y2), .second, .val (.long y3), .second, .val (.long (y1 + y2)), .second, .val (.long (y1 + y3)), .second, .val (.int (p1 &&& (3 : Int32))), .val (.ref w_XOR), .val (.long (y2 + y3)), .second] [])) _
          refine XS.iconst X15.here hx rfl (hb hby at_129) ?_
          show Steps p.tables e below (T15.setTop (mkF m 130 #[.val (.int p1), .val (.long q2), .second, .val (.long q3), .second, .val (.long q4), .second, .val (.long y1), .second, .val (.long y2), .second, .val (.long y3), .second, .val (.long (y1 + y2)), .second, .val (.long (y1 + y3)), .second, .val (.int (p1 &&& (3 : Int32))), .val (.ref w_XOR), .val (.long (y2 + y3)), .second] [(.int (1 : Int32))])) _
          refine XS.goto X15.here hx rfl (pc0 := 130) (pc' := 134) rfl (hb hby at_130) (by decide) (by decide) ?_
          show Steps p.tables e below (T15.setTop (mkF m 134 #[.val (.int p1), .val (.long q2), .second, .val (.long q3), .second, .val (.long q4), .second, .val (.long y1), .second, .val (.long y2), .second, .val (.long y3), .second, .val (.long (y1 + y2)), .second, .val (.long (y1 + y3)), .second, .val (.int (p1 &&& (3 : Int32))), .val (.ref w_XOR), .val (.long (y2 + y3)), .second] [(.int (1 : Int32))])) _
          exact retN X15 hx (t := .boolean) Bd.returns (by simp) (hb hby at_134) hr
        · show Q_rm0 Z p1 q2 q3 q4 w_AND w_AND_NOT w_OR w_XOR h0 n0 _ T15.heap _
          rw [e15]
          exact ⟨rfl, N15⟩
      · obtain ⟨T16, X16, e16, st16⟩ := getS2 X0 hx hZ hown (host := "") (Or.inl (hw _ (List.mem_of_getElem? (i := 15) rfl))) Via.refl e0 S_w_AND_NOT (g := (mkF m 103 #[.val (.int p1), .val (.long q2), .second, .val (.long q3), .second, .val (.long q4), .second, .val (.long y1), .second, .val (.long y2), .second, .val (.long y3), .second, .val (.long (y1 + y2)), .second, .val (.long (y1 + y3)), .second, .val (.int (p1 &&& (3 : Int32))), .unset, .unset, .unset] [])) rfl (hb hby at_103)
        obtain ⟨cq17, kq17, q17a, q17b, q17c⟩ := isOf hZ e16 E_w_AND_NOT
        obtain ⟨_, _, ⟨T17, L17, k17, n17⟩, -, X17, ⟨Lc17, hQ17, l17, y17, z17⟩, st17⟩ := X16.virtualBack hx (y := (⟨"com/example/bitstrata/bitstrata/SetOperation", "cardinality", "(JJJ)J"⟩ : MethodName)) (z := (⟨"com/example/bitstrata/bitstrata/SetOperation", "cardinality", "(JJJ)J"⟩ : MethodName)) hown (mvT hZ (hw _ (List.mem_of_getElem? (i := 4) rfl))) (mvT hZ (hw _ (List.mem_of_getElem? (i := 5) rfl))) (notFace_of_selects (args := #[]) (mvT hZ (hw _ (List.mem_of_getElem? (i := 7) rfl)))) (mvT hZ (hw _ (List.mem_of_getElem? (i := 7) rfl))) (mvT hZ (hw _ (List.mem_of_getElem? (i := 6) rfl))) (by decide) (backOf (W := 0) (rm1 l Z a0 hw [] w_AND_NOT (y1 + y2) (y1 + y3) y1 (0 : Int32) (1 : Int32) (0 : Int32) h0 n0 Z0 F_w_AND_NOT_keepsBoth F_w_AND_NOT_keepsLeftOnly F_w_AND_NOT_keepsRightOnly) hZ (hw _ (List.mem_of_getElem? (i := 8) rfl)) (hw _ (List.mem_of_getElem? (i := 2) rfl)) (by decide) (by decide)) q17a q17c (g := (mkF m 120 #[.val (.int p1), .val (.long q2), .second, .val (.long q3), .second, .val (.long q4), .second, .val (.long y1), .second, .val (.long y2), .second, .val (.long y3), .second, .val (.long (y1 + y2)), .second, .val (.long (y1 + y3)), .second, .val (.int (p1 &&& (3 : Int32))), .val (.ref w_AND_NOT), .val (.long y2), .second] [(.long y1), (.long (y1 + y3)), (.long (y1 + y2)), (.ref w_AND_NOT)])) rfl (by rw [hml]; rfl) (Steps.refl _) (argsL := [(.long (y1 + y2)), (.long (y1 + y3)), (.long y1)]) (rest := []) (lenOf pd_0 rfl) rfl (by show 2 * 0 + _ ≤ _; exact Nat.le_of_eq rfl) (hb hby at_120) (fun _ _ => ⟨rfl, e16, (by decide : 0 + 0 ≤ _), (by decide : 0 + 0 ≤ _)⟩)
        dsimp only [Pt.U, Pt.locs, Pt.cells, Pt.slots] at X17 l17 y17 z17 st17 hQ17
        subst l17 y17 z17
        obtain ⟨rfl, N17q, e17⟩ := hQ17
        have N17 := Fr.app N0 N17q
        obtain ⟨fs, hr, hrun, hended, hW, hsame⟩ := X17.leave (v := some (.int (1 : Int32))) (fun h => by rw [Bd.returns] at h; cases h)
        refine ⟨_, _, pre12 _ ?_, hrun, hended, _, _, rfl, ?_, ⟨_, rfl⟩, hW, hsame.mono (by decide) (by decide)⟩
        · show Steps p.tables e below (s₁.setTop (mkF m 85 #[.val (.int p1), .val (.long q2), .second, .val (.long q3), .second, .val (.long q4), .second, .val (.long y1), .second, .val (.long y2), .second, .val (.long y3), .second, .val (.long (y1 + y2)), .second, .val (.long (y1 + y3)), .second, .val (.int (p1 &&& (3 : Int32))), .unset, .unset, .unset] [(.int (2 : Int32)), (.int (p1 &&& (3 : Int32)))])) _
          refine XS.icmpYes X0.here hx rfl (pc0 := 85) (pc' := 103) rfl (hb hby at_85) rfl (feq hc85_13).2 (by decide) (by decide) ?_
          show Steps p.tables e below (s₁.setTop (mkF m 103 #[.val (.int p1), .val (.long q2), .second, .val (.long q3), .second, .val (.long q4), .second, .val (.long y1), .second, .val (.long y2), .second, .val (.long y3), .second, .val (.long (y1 + y2)), .second, .val (.long (y1 + y3)), .second, .val (.int (p1 &&& (3 : Int32))), .unset, .unset, .unset] [])) _
          refine st16 _ ?_
          show Steps p.tables e below (T16.setTop (mkF m 106 #[.val (.int p1), .val (.long q2), .second, .val (.long q3), .second, .val (.long q4), .second, .val (.long y1), .second, .val (.long y2), .second, .val (.long y3), .second, .val (.long (y1 + y2)), .second, .val (.long (y1 + y3)), .second, .val (.int (p1 &&& (3 : Int32))), .unset, .unset, .unset] [(.ref w_AND_NOT)])) _
          refine XS.astore X16.here hx rfl (hb hby at_106) rfl rfl (l' := #[.val (.int p1), .val (.long q2), .second, .val (.long q3), .second, .val (.long q4), .second, .val (.long y1), .second, .val (.long y2), .second, .val (.long y3), .second, .val (.long (y1 + y2)), .second, .val (.long (y1 + y3)), .second, .val (.int (p1 &&& (3 : Int32))), .val (.ref w_AND_NOT), .unset, .unset]) rfl ?_
          show Steps p.tables e below (T16.setTop (mkF m 108 #[.val (.int p1), .val (.long q2), .second, .val (.long q3), .second, .val (.long q4), .second, .val (.long y1), .second, .val (.long y2), .second, .val (.long y3), .second, .val (.long (y1 + y2)), .second, .val (.long (y1 + y3)), .second, .val (.int (p1 &&& (3 : Int32))), .val (.ref w_AND_NOT), .unset, .unset] [])) _
          refine XS.lload X16.here hx rfl (hb hby at_108) rfl ?_
          show Steps p.tables e below (T16.setTop (mkF m 110 #[.val (.int p1), .val (.long q2), .second, .val (.long q3), .second, .val (.long q4), .second, .val (.long y1), .second, .val (.long y2), .second, .val (.long y3), .second, .val (.long (y1 + y2)), .second, .val (.long (y1 + y3)), .second, .val (.int (p1 &&& (3 : Int32))), .val (.ref w_AND_NOT), .unset, .unset] [(.long y2)])) _
          refine XS.lstore X16.here hx rfl (hb hby at_110) rfl (l' := #[.val (.int p1), .val (.long q2), .second, .val (.long q3), .second, .val (.long q4), .second, .val (.long y1), .second, .val (.long y2), .second, .val (.long y3), .second, .val (.long (y1 + y2)), .second, .val (.long (y1 + y3)), .second, .val (.int (p1 &&& (3 : Int32))), .val (.ref w_AND_NOT), .val (.long y2), .second]) rfl ?_
          show Steps p.tables e below (T16.setTop (mkF m 112 #[.val (.int p1), .val (.long q2), .second, .val (.long q3), .second, .val (.long q4), .second, .val (.long y1), .second, .val (.long y2), .second, .val (.long y3), .second, .val (.long (y1 + y2)), .second, .val (.long (y1 + y3)), .second, .val (.int (p1 &&& (3 : Int32))), .val (.ref w_AND_NOT), .val (.long y2), .second] [])) _
          refine XS.aload X16.here hx rfl (hb hby at_112) rfl rfl ?_
          show Steps p.tables e below (T16.setTop (mkF m 114 #[.val (.int p1), .val (.long q2), .second, .val (.long q3), .second, .val (.long q4), .second, .val (.long y1), .second, .val (.long y2), .second, .val (.long y3), .second, .val (.long (y1 + y2)), .second, .val (.long (y1 + y3)), .second, .val (.int (p1 &&& (3 : Int32))), .val (.ref w_AND_NOT), .val (.long y2), .second] [(.ref w_AND_NOT)])) _
          refine XS.lload X16.here hx rfl (hb hby at_114) rfl ?_
          show Steps p.tables e below (T16.setTop (mkF m 116 #[.val (.int p1), .val (.long q2), .second, .val (.long q3), .second, .val (.long q4), .second, .val (.long y1), .second, .val (.long y2), .second, .val (.long y3), .second, .val (.long (y1 + y2)), .second, .val (.long (y1 + y3)), .second, .val (.int (p1 &&& (3 : Int32))), .val (.ref w_AND_NOT), .val (.long y2), .second] [(.long (y1 + y2)), (.ref w_AND_NOT)])) _
          refine XS.lload X16.here hx rfl (hb hby at_116) rfl ?_
          show Steps p.tables e below (T16.setTop (mkF m 118 #[.val (.int p1), .val (.long q2), .second, .val (.long q3), .second, .val (.long q4), .second, .val (.long y1), .second, .val (.long y2), .second, .val (.long y3), .second, .val (.long (y1 + y2)), .second, .val (.long (y1 + y3)), .second, .val (.int (p1 &&& (3 : Int32))), .val (.ref w_AND_NOT), .val (.long y2), .second] [(.long (y1 + y3)), (.long (y1 + y2)), (.ref w_AND_NOT)])) _
          refine XS.lload X16.here hx rfl (hb hby at_118) rfl ?_
          show Steps p.tables e below (T16.setTop (mkF m 120 #[.val (.int p1), .val (.long q2), .second, .val (.long q3), .second, .val (.long q4), .second, .val (.long y1), .second, .val (.long y2), .second, .val (.long y3), .second, .val (.long (y1 + y2)), .second, .val (.long (y1 + y3)), .second, .val (.int (p1 &&& (3 : Int32))), .val (.ref w_AND_NOT), .val (.long y2), .second] [(.long y1), (.long (y1 + y3)), (.long (y1 + y2)), (.ref w_AND_NOT)])) _
          refine st17.trans ?_
          show Steps p.tables e below (T17.setTop (mkF m 123 #[.val (.int p1), .val (.long q2), .second, .val (.long q3), .second, .val (.long q4), .second, .val (.long y1), .second, .val (.long y2), .second, .val (.long y3), .second, .val (.long (y1 + y2)), .second, .val (.long (y1 + y3)), .second, .val (.int (p1 &&& (3 : Int32))), .val (.ref w_AND_NOT), .val (.long y2), .second] [(.long (own_card w_AND_NOT (y1 + y2) (y1 + y3) y1 (0 : Int32) (1 : Int32) (0 : Int32)))])) _
          refine XS.lload X17.here hx rfl (hb hby at_123) rfl ?_
          show Steps p.tables e below (T17.setTop (mkF m 125 #[.val (.int p1), .val (.long q2), .second, .val (.long q3), .second, .val (.long q4), .second, .val (.long y1), .second, .val (.long y2), .second, .val (.long y3), .second, .val (.long (y1 + y2)), .second, .val (.long (y1 + y3)), .second, .val (.int (p1 &&& (3 : Int32))), .val (.ref w_AND_NOT), .val (.long y2), .second] [(.long y2), (.long (own_card w_AND_NOT (y1 + y2) (y1 + y3) y1 (0 : Int32) (1 : Int32) (0 : Int32)))])) _
          refine XS.lcmp X17.here hx rfl (hb hby at_125) rfl ?_
          show Steps p.tables e below (T17.setTop (mkF m 126 #[.val (.int p1), .val (.long q2), .second, .val (.long q3), .second, .val (.long q4), .second, .val (.long y1), .second, .val (.long y2), .second, .val (.long y3), .second, .val (.long (y1 + y2)), .second, .val (.long (y1 + y3)), .second, .val (.int (p1 &&& (3 : Int32))), .val (.ref w_AND_NOT), .val (.long y2), .second] [(.int (lcmpW (own_card w_AND_NOT (y1 + y2) (y1 + y3) y1 (0 : Int32) (1 : Int32) (0 : Int32)) y2))])) _
          refine XS.ifNo X17.here hx rfl (hb hby at_126) rfl ((if0 _ _).trans (teq (((lw_eq _ _).mpr (own_not _ _ _ _)) : ((lcmpW (own_card w_AND_NOT (y1 + y2) (y1 + y3) y1 (0 : Int32) (1 : Int32) (0 : Int32)) y2) = (0 : Int32)))).2) ?_
          show Steps p.tables e below (T17.setTop (mkF m 129 #[.val (.int p1), .val (.long q2), .second, .val (.long q3), .second, .val (.long q4), .second, .val (.long y1), .second, .val (.long y2), .second, .val (.long y3), .second, .val (.long (y1 + y2)), .second, .val (.long (y1 + y3)), .second, .val (.int (p1 &&& (3 : Int32))), .val (.ref w_AND_NOT), .val (.long y2), .second] [])) _
          refine XS.iconst X17.here hx rfl (hb hby at_129) ?_
          show Steps p.tables e below (T17.setTop (mkF m 130 #[.val (.int p1), .val (.long q2), .second, .val (.long q3), .second, .val (.long q4), .second, .val (.long y1), .second, .val (.long y2), .second, .val (.long y3), .second, .val (.long (y1 + y2)), .second, .val (.long (y1 + y3)), .second, .val (.int (p1 &&& (3 : Int32))), .val (.ref w_AND_NOT), .val (.long y2), .second] [(.int (1 : Int32))])) _
          refine XS.goto X17.here hx rfl (pc0 := 130) (pc' := 134) rfl (hb hby at_130) (by decide) (by decide) ?_
          show Steps p.tables e below (T17.setTop (mkF m 134 #[.val (.int p1), .val (.long q2), .second, .val (.long q3), .second, .val (.long q4), .second, .val (.long y1), .second, .val (.long y2), .second, .val (.long y3), .second, .val (.long (y1 + y2)), .second, .val (.long (y1 + y3)), .second, .val (.int (p1 &&& (3 : Int32))), .val (.ref w_AND_NOT), .val (.long y2), .second] [(.int (1 : Int32))])) _
          exact retN X17 hx (t := .boolean) Bd.returns (by simp) (hb hby at_134) hr
        · show Q_rm0 Z p1 q2 q3 q4 w_AND w_AND_NOT w_OR w_XOR h0 n0 _ T17.heap _
          rw [e17]
          exact ⟨rfl, N17⟩
set_option maxRecDepth 65536 in
set_option maxHeartbeats 40000000 in
theorem comes_1 {Post : Tables → Env → Array Value → State → Outcome → State → Prop} (hpost : ∀ tb e args s v u, (limb_1_1.after args s (.returned v) u = true ∧ limb_1_2.after args s (.returned v) u = true ∧ True) → FrameEnd s (.returned v) u (Jvm.fieldLocs frame_1_writes args s ++ Jvm.arrayLocs frame_1_arrays args s ++ Jvm.staticLocs frame_1_statics s) 0 0 → Post tb e args s (.returned v) u) :
    ArmFor flags0 classFile x code maxLocals ret World_1 tables_1 room_1 Calls_1 rest_1 Pre_1 Post := by
  intro l hfl _ _ p e ha hc hk s m args below hf hA hF happ hP
  obtain ⟨hcalls, hrest, hpre⟩ := hP
  obtain ⟨-, -, -, hnamed, -, -, -, hat⟩ := (Spec.applies_iff hf).mp happ
  obtain ⟨hg, hn⟩ := and_e (Cond.before_iff.mp (show (Jvm.Cond.and given_1 narrow_1).before args s = true from hpre))
  obtain ⟨g0, gr0⟩ := and_e hg
  obtain ⟨ga0, gr1⟩ := and_e gr0
  obtain ⟨ga1, gr2⟩ := and_e gr1
  obtain ⟨ga2, gr3⟩ := and_e gr2
  obtain ⟨w0, w1, w2, w3, rfl⟩ : ∃ w0 w1 w2 w3 : Value, args = #[w0, w1, w2, w3] := by
    have hs : args.size = 4 := by simpa [Cond.value, given_1] using g0
    obtain ⟨L⟩ := args
    match L, hs with
    | [w0, w1, w2, w3], _ => exact ⟨w0, w1, w2, w3, rfl⟩
  have hw := fun d (hd : d ∈ tables_1) => atoms_spec (ws := Jvm.Cond.code x code maxLocals ret :: tables_1) hat d (List.mem_cons_of_mem _ hd)
  have hfit : Fit s := fun {y c} hc i hi => by
    obtain ⟨ha, rfl⟩ := Array.getElem?_eq_some_iff.mp hc
    have q := List.all_eq_true.mp ((Array.all_eq_true_iff_forall_mem.mp hF) _ (Array.getElem_mem ha)) i (List.mem_range.mpr hi)
    simpa [Array.getElem?_eq_getElem hi] using q
  obtain ⟨i0, ei0⟩ := is_v ga0
  obtain rfl : w0 = (.int i0) := Option.some.inj ei0
  obtain ⟨i1, ei1⟩ := isL_v ga1
  obtain rfl : w1 = (.long i1) := Option.some.inj ei1
  obtain ⟨i2, ei2⟩ := isL_v ga2
  obtain rfl : w2 = (.long i2) := Option.some.inj ei2
  obtain ⟨i3, ei3⟩ := isL_v gr3
  obtain rfl : w3 = (.long i3) := Option.some.inj ei3
  obtain ⟨nl1, nr1⟩ := and_e hn
  obtain ⟨w_AND, ev_w_AND⟩ := exa_v nl1
  have S_w_AND : Sta s s.heap "com/example/bitstrata/bitstrata/SetOperation" "AND" "Lcom/example/bitstrata/bitstrata/SetOperation;" (.ref w_AND) := Sta.start ev_w_AND (Or.inr ⟨(hw _ (List.mem_of_getElem? (i := 2) rfl)), (hw _ (List.mem_of_getElem? (i := 3) rfl))⟩)
  have E_w_AND := Exa.start ev_w_AND nl1
  obtain ⟨nl2, nr2⟩ := and_e nr1
  have F_w_AND_keepsBoth := own_fld ev_w_AND nl2
  obtain ⟨nl3, nr3⟩ := and_e nr2
  have F_w_AND_keepsLeftOnly := own_fld ev_w_AND nl3
  obtain ⟨nl4, nr4⟩ := and_e nr3
  have F_w_AND_keepsRightOnly := own_fld ev_w_AND nl4
  obtain ⟨nl5, nr5⟩ := and_e nr4
  obtain ⟨w_AND_NOT, ev_w_AND_NOT⟩ := exa_v nl5
  have S_w_AND_NOT : Sta s s.heap "com/example/bitstrata/bitstrata/SetOperation" "AND_NOT" "Lcom/example/bitstrata/bitstrata/SetOperation;" (.ref w_AND_NOT) := Sta.start ev_w_AND_NOT (Or.inr ⟨(hw _ (List.mem_of_getElem? (i := 2) rfl)), (hw _ (List.mem_of_getElem? (i := 16) rfl))⟩)
  have E_w_AND_NOT := Exa.start ev_w_AND_NOT nl5
  obtain ⟨nl6, nr6⟩ := and_e nr5
  have F_w_AND_NOT_keepsBoth := own_fld ev_w_AND_NOT nl6
  obtain ⟨nl7, nr7⟩ := and_e nr6
  have F_w_AND_NOT_keepsLeftOnly := own_fld ev_w_AND_NOT nl7
  obtain ⟨nl8, nr8⟩ := and_e nr7
  have F_w_AND_NOT_keepsRightOnly := own_fld ev_w_AND_NOT nl8
  obtain ⟨nl9, nr9⟩ := and_e nr8
  obtain ⟨w_OR, ev_w_OR⟩ := exa_v nl9
  have S_w_OR : Sta s s.heap "com/example/bitstrata/bitstrata/SetOperation" "OR" "Lcom/example/bitstrata/bitstrata/SetOperation;" (.ref w_OR) := Sta.start ev_w_OR (Or.inr ⟨(hw _ (List.mem_of_getElem? (i := 2) rfl)), (hw _ (List.mem_of_getElem? (i := 18) rfl))⟩)
  have E_w_OR := Exa.start ev_w_OR nl9
  obtain ⟨nl10, nr10⟩ := and_e nr9
  have F_w_OR_keepsBoth := own_fld ev_w_OR nl10
  obtain ⟨nl11, nr11⟩ := and_e nr10
  have F_w_OR_keepsLeftOnly := own_fld ev_w_OR nl11
  obtain ⟨nl12, nr12⟩ := and_e nr11
  have F_w_OR_keepsRightOnly := own_fld ev_w_OR nl12
  obtain ⟨nl13, nr13⟩ := and_e nr12
  obtain ⟨w_XOR, ev_w_XOR⟩ := exa_v nl13
  have S_w_XOR : Sta s s.heap "com/example/bitstrata/bitstrata/SetOperation" "XOR" "Lcom/example/bitstrata/bitstrata/SetOperation;" (.ref w_XOR) := Sta.start ev_w_XOR (Or.inr ⟨(hw _ (List.mem_of_getElem? (i := 2) rfl)), (hw _ (List.mem_of_getElem? (i := 20) rfl))⟩)
  have E_w_XOR := Exa.start ev_w_XOR nl13
  obtain ⟨nl14, nr14⟩ := and_e nr13
  have F_w_XOR_keepsBoth := own_fld ev_w_XOR nl14
  obtain ⟨nl15, nr15⟩ := and_e nr14
  have F_w_XOR_keepsLeftOnly := own_fld ev_w_XOR nl15
  have F_w_XOR_keepsRightOnly := own_fld ev_w_XOR nr15
  obtain ⟨n, o, h1, h2, h3, _, L, rfl, ⟨rfl, N⟩, hq⟩ := rm0 l s _ hw tables_1 i0 i1 i2 i3 w_AND w_AND_NOT w_OR w_XOR s.heap s.heap.size (Nat.le_refl _) S_w_AND E_w_AND F_w_AND_keepsBoth F_w_AND_keepsLeftOnly F_w_AND_keepsRightOnly S_w_AND_NOT E_w_AND_NOT F_w_AND_NOT_keepsBoth F_w_AND_NOT_keepsLeftOnly F_w_AND_NOT_keepsRightOnly S_w_OR E_w_OR F_w_OR_keepsBoth F_w_OR_keepsLeftOnly F_w_OR_keepsRightOnly S_w_XOR E_w_XOR F_w_XOR_keepsBoth F_w_XOR_keepsLeftOnly F_w_XOR_keepsRightOnly p e ha hc hk s m _ below hf ((Spec.applies_iff_loose hf).mp happ).1 ⟨rfl, State.Warmed39.refl s, rfl⟩ trivial
  refine ⟨n, _, h1, h2, h3, hpost _ _ _ _ _ _ ⟨Cond.after_iff.mpr rfl, Cond.after_iff.mpr (eq_i res_at (Term.int_eval (1)) rfl), trivial⟩ ⟨hq.1, hq.2.1, (hq.2.2.sift fun y hy => Or.inr (N y hy)).mono (by decide) (by decide)⟩⟩
theorem main_1_1 : Claimed_1_1 := comes_1 fun _ _ _ _ _ _ h hF => ⟨h.1, hF⟩
theorem main_1_2 : Claimed_1_2 := comes_1 fun _ _ _ _ _ _ h hF => ⟨h.2.1, hF⟩
end Jvm.Pilot.@@N@@
namespace Jvm.Pilot.@@N@@
open Jvm Jvm.ClassFile Sem Op Lib Jvm.Free Jvm.Stand Jvm.Pilot.@@N@@.Jvm.D
/-! MADE BY PROGRAM (witnessworld.py) out of the Statement's table words and the real class files: 12 classes; the members and pool entries that the words name. The judged class is class 1, her method 1. -/
namespace start1
open Jvm.ClassFile
def u (s : String) : CpInfo := .utf8 (stringToUtf16 s)
/-- a pool by its gaps: so many unusable entries, then the entry; so many at the end -/
def gap : Nat → List CpInfo → List CpInfo
  | 0, r => r
  | n + 1, r => .unusable :: gap n r
def poolList (es : List (Nat × CpInfo)) (last : Nat) : List CpInfo := es.foldr (fun e r => gap e.1 (e.2 :: r)) (gap last [])
def pool (es : List (Nat × CpInfo)) (last : Nat) : Array CpInfo := ⟨poolList es last⟩
def fileOf (pool : Array CpInfo) (this : Nat) (attrs : Array Attribute := #[]) (ms : Array MethodInfo := #[]) (fl : Nat := 33) (sup : Nat := 0) (ifs : Array Nat := #[]) (fds : Array FieldInfo := #[]) : ClassFile where
  minorVersion := 0
  majorVersion := 65
  constantPool := pool
  accessFlags := fl
  thisClass := this
  superClass := sup
  interfaces := ifs
  fields := fds
  methods := ms
  attributes := attrs
def plain (name : String) (sup : Option ClassId) : Class where
  name := name
  kind := .ordinary
  loader := none
  accessFlags := 33
  super := sup
  interfaces := #[]
  cf := none
  fields := #[]
  methods := #[]
  instanceTypes := #[]
  staticTypes := #[]
  resolved := #[]
  callSites := []
  init := .initialized
  statics := none
  mirror := none

def pool0 : Array CpInfo := pool [(5, u "<init>"), (0, u "()V"), (1, .class_ 10), (1, u "java/lang/Object")] 113

def k0m0 : Method := { name := "<init>", desc := "()V", sig := { parameters := [], returnType := none }, accessFlags := 1, code := none }
/-- java/lang/Object -/
def k0 : Class := { plain "java/lang/Object" none with
  accessFlags := 33
  interfaces := #[]
  cf := some (fileOf pool0 8 #[] #[{ accessFlags := 1, nameIndex := 5, descriptorIndex := 6, attributes := #[] }] 33 0 #[] #[])
  fields := #[]
  methods := #[k0m0]
  instanceTypes := #[]
  staticTypes := #[]
  resolved := Array.replicate 124 none
  statics := none }

def pool1 : Array CpInfo := pool [(2, .class_ 4), (1, u "java/lang/Object"), (0, u "<init>"), (0, u "()V"), (0, .class_ 8), (0, u "com/example/bitstrata/bitstrata/SetOperationCardinalityPinLaw"), (0, .long 2305843009213693951), (1, .fieldref 12 13), (0, .class_ 14), (0, .nameAndType 15 16), (0, u "com/example/bitstrata/bitstrata/SetOperation"), (0, u "AND"), (0, u "Lcom/example/bitstrata/bitstrata/SetOperation;"), (0, .fieldref 12 18), (0, .nameAndType 19 16), (0, u "OR"), (0, .fieldref 12 21), (0, .nameAndType 22 16), (0, u "XOR"), (0, .fieldref 12 24), (0, .nameAndType 25 16), (0, u "AND_NOT"), (0, .methodref 12 27), (0, .nameAndType 28 29), (0, u "cardinality"), (0, u "(JJJ)J"), (0, u "MASK"), (0, u "J"), (3, u "law"), (0, u "(IJJJ)Z")] 3

def k1m0 : Method := { name := "<init>", desc := "()V", sig := { parameters := [], returnType := none }, accessFlags := 1, code := none }
def k1c1 : Code := { maxStack := 7, maxLocals := 21, code := code, exceptionTable := #[], attributes := #[] }
def k1m1 : Method := { name := "law", desc := "(IJJJ)Z", sig := { parameters := [.int, .long, .long, .long], returnType := some .boolean }, accessFlags := 9, code := some k1c1 }
/-- com/example/bitstrata/bitstrata/SetOperationCardinalityPinLaw -/
def k1 : Class := { plain "com/example/bitstrata/bitstrata/SetOperationCardinalityPinLaw" (some 0) with
  accessFlags := 49
  interfaces := #[]
  cf := some (fileOf pool1 7 #[] #[{ accessFlags := 1, nameIndex := 5, descriptorIndex := 6, attributes := #[] }, { accessFlags := 9, nameIndex := 35, descriptorIndex := 36, attributes := #[] }] 49 2 #[] #[{ accessFlags := 26, nameIndex := 30, descriptorIndex := 31, attributes := #[] }])
  fields := #[{ name := "MASK", type := .long, accessFlags := 26, slot := 0, constantValue := 0 }]
  methods := #[k1m0, k1m1]
  instanceTypes := #[]
  staticTypes := #[.long]
  resolved := Array.replicate 40 none
  statics := none }

def pool2 : Array CpInfo := pool [(1, .class_ 2), (0, u "java/lang/constant/Constable"), (0, .class_ 4), (0, u "java/lang/Object")] 6

/-- java/lang/constant/Constable -/
def k2 : Class := { plain "java/lang/constant/Constable" (some 0) with
  accessFlags := 1537
  interfaces := #[]
  cf := some (fileOf pool2 1 #[] #[] 1537 3 #[] #[])
  fields := #[]
  methods := #[]
  instanceTypes := #[]
  staticTypes := #[]
  resolved := Array.replicate 11 none
  statics := none }

def pool3 : Array CpInfo := pool [(1, .class_ 2), (0, u "java/lang/Comparable"), (0, .class_ 4), (0, u "java/lang/Object")] 7

/-- java/lang/Comparable -/
def k3 : Class := { plain "java/lang/Comparable" (some 0) with
  accessFlags := 1537
  interfaces := #[]
  cf := some (fileOf pool3 1 #[] #[] 1537 3 #[] #[])
  fields := #[]
  methods := #[]
  instanceTypes := #[]
  staticTypes := #[]
  resolved := Array.replicate 12 none
  statics := none }

def pool4 : Array CpInfo := pool [(1, .class_ 2), (0, u "java/io/Serializable"), (0, .class_ 4), (0, u "java/lang/Object")] 2

/-- java/io/Serializable -/
def k4 : Class := { plain "java/io/Serializable" (some 0) with
  accessFlags := 1537
  interfaces := #[]
  cf := some (fileOf pool4 1 #[] #[] 1537 3 #[] #[])
  fields := #[]
  methods := #[]
  instanceTypes := #[]
  staticTypes := #[]
  resolved := Array.replicate 7 none
  statics := none }

def pool5 : Array CpInfo := pool [(2, .class_ 4), (1, u "java/lang/Enum"), (0, u "name"), (0, u "Ljava/lang/String;"), (2, u "ordinal"), (0, u "I"), (1, .class_ 14), (1, u "java/lang/Object"), (4, u "hash"), (86, .class_ 108), (1, u "java/lang/Enum$EnumDesc"), (2, .class_ 112), (0, u "java/lang/constant/Constable"), (0, .class_ 114), (0, u "java/lang/Comparable"), (0, .class_ 116), (0, u "java/io/Serializable")] 87

/-- java/lang/Enum -/
def k5 : Class := { plain "java/lang/Enum" (some 0) with
  accessFlags := 1057
  interfaces := #[2, 3, 4]
  cf := some (fileOf pool5 2 #[.nestMembers #[106]] #[] 1057 12 #[111, 113, 115] #[{ accessFlags := 18, nameIndex := 5, descriptorIndex := 6, attributes := #[] }, { accessFlags := 18, nameIndex := 9, descriptorIndex := 10, attributes := #[] }, { accessFlags := 2, nameIndex := 19, descriptorIndex := 10, attributes := #[] }])
  fields := #[{ name := "name", type := (.object "java/lang/String"), accessFlags := 18, slot := 0, constantValue := 0 }, { name := "ordinal", type := .int, accessFlags := 18, slot := 1, constantValue := 0 }, { name := "hash", type := .int, accessFlags := 2, slot := 2, constantValue := 0 }]
  methods := #[]
  instanceTypes := #[(.object "java/lang/String"), .int, .int]
  staticTypes := #[]
  resolved := Array.replicate 204 none
  statics := none }

def pool6 : Array CpInfo := pool [(1, .class_ 2), (0, u "com/example/bitstrata/bitstrata/SetOperation"), (2, u "AND"), (0, u "Lcom/example/bitstrata/bitstrata/SetOperation;"), (2, u "OR"), (2, u "XOR"), (2, u "AND_NOT"), (2, u "$VALUES"), (0, u "[Lcom/example/bitstrata/bitstrata/SetOperation;"), (6, .class_ 28), (1, u "java/lang/Enum"), (6, .fieldref 1 36), (0, .nameAndType 37 38), (0, u "keepsLeftOnly"), (0, u "Z"), (0, .fieldref 1 40), (0, .nameAndType 41 38), (0, u "keepsRightOnly"), (0, .fieldref 1 43), (0, .nameAndType 44 38), (0, u "keepsBoth"), (2, u "keepsSharedOnly"), (2, u "onChunks"), (0, u "Lcom/example/bitstrata/bitstrata/SetOperation$ChunkOperation;"), (2, u "intoWords"), (0, u "Ljava/util/function/BiConsumer;"), (0, .class_ 57), (0, u "com/example/bitstrata/bitstrata/SetOperation$KeyMerge"), (45, .class_ 105), (1, u "com/example/bitstrata/bitstrata/SetOperation$GroupVisitor"), (22, .class_ 129), (0, u "com/example/bitstrata/bitstrata/SetOperation$OperandHeap"), (26, .class_ 158), (1, u "com/example/bitstrata/bitstrata/SetOperation$ChunkOperation"), (6, u "cardinality"), (100, u "FEW_VALUES"), (0, u "I"), (2, u "MOST_VALUES_GATHERED"), (1, u "GATHERED_VALUES"), (1, u "SPAN_PER_KEY_AND_LEVEL"), (12, u "(JJJ)J")] 79

def k6c0 : Code := { maxStack := 6, maxLocals := 9, code := prog_109_method_4_code, exceptionTable := #[], attributes := #[] }
def k6m0 : Method := { name := "cardinality", desc := "(JJJ)J", sig := { parameters := [.long, .long, .long], returnType := some .long }, accessFlags := 0, code := some k6c0 }
/-- com/example/bitstrata/bitstrata/SetOperation -/
def k6 : Class := { plain "com/example/bitstrata/bitstrata/SetOperation" (some 5) with
  accessFlags := 16432
  interfaces := #[]
  cf := some (fileOf pool6 1 #[.nestMembers #[128, 103, 56, 156]] #[{ accessFlags := 0, nameIndex := 165, descriptorIndex := 287, attributes := #[] }] 16432 26 #[] #[{ accessFlags := 16409, nameIndex := 5, descriptorIndex := 6, attributes := #[] }, { accessFlags := 16409, nameIndex := 9, descriptorIndex := 6, attributes := #[] }, { accessFlags := 16409, nameIndex := 12, descriptorIndex := 6, attributes := #[] }, { accessFlags := 16409, nameIndex := 15, descriptorIndex := 6, attributes := #[] }, { accessFlags := 26, nameIndex := 266, descriptorIndex := 267, attributes := #[] }, { accessFlags := 26, nameIndex := 270, descriptorIndex := 267, attributes := #[] }, { accessFlags := 26, nameIndex := 272, descriptorIndex := 267, attributes := #[] }, { accessFlags := 26, nameIndex := 274, descriptorIndex := 267, attributes := #[] }, { accessFlags := 16, nameIndex := 37, descriptorIndex := 38, attributes := #[] }, { accessFlags := 16, nameIndex := 41, descriptorIndex := 38, attributes := #[] }, { accessFlags := 16, nameIndex := 44, descriptorIndex := 38, attributes := #[] }, { accessFlags := 16, nameIndex := 47, descriptorIndex := 38, attributes := #[] }, { accessFlags := 16, nameIndex := 50, descriptorIndex := 51, attributes := #[] }, { accessFlags := 16, nameIndex := 54, descriptorIndex := 55, attributes := #[] }, { accessFlags := 4122, nameIndex := 18, descriptorIndex := 19, attributes := #[] }])
  fields := #[{ name := "AND", type := (.object "com/example/bitstrata/bitstrata/SetOperation"), accessFlags := 16409, slot := 0, constantValue := 0 }, { name := "OR", type := (.object "com/example/bitstrata/bitstrata/SetOperation"), accessFlags := 16409, slot := 1, constantValue := 0 }, { name := "XOR", type := (.object "com/example/bitstrata/bitstrata/SetOperation"), accessFlags := 16409, slot := 2, constantValue := 0 }, { name := "AND_NOT", type := (.object "com/example/bitstrata/bitstrata/SetOperation"), accessFlags := 16409, slot := 3, constantValue := 0 }, { name := "FEW_VALUES", type := .int, accessFlags := 26, slot := 4, constantValue := 0 }, { name := "MOST_VALUES_GATHERED", type := .int, accessFlags := 26, slot := 5, constantValue := 0 }, { name := "GATHERED_VALUES", type := .int, accessFlags := 26, slot := 6, constantValue := 0 }, { name := "SPAN_PER_KEY_AND_LEVEL", type := .int, accessFlags := 26, slot := 7, constantValue := 0 }, { name := "keepsLeftOnly", type := .boolean, accessFlags := 16, slot := 3, constantValue := 0 }, { name := "keepsRightOnly", type := .boolean, accessFlags := 16, slot := 4, constantValue := 0 }, { name := "keepsBoth", type := .boolean, accessFlags := 16, slot := 5, constantValue := 0 }, { name := "keepsSharedOnly", type := .boolean, accessFlags := 16, slot := 6, constantValue := 0 }, { name := "onChunks", type := (.object "com/example/bitstrata/bitstrata/SetOperation$ChunkOperation"), accessFlags := 16, slot := 7, constantValue := 0 }, { name := "intoWords", type := (.object "java/util/function/BiConsumer"), accessFlags := 16, slot := 8, constantValue := 0 }, { name := "$VALUES", type := (.array (.object "com/example/bitstrata/bitstrata/SetOperation")), accessFlags := 4122, slot := 8, constantValue := 0 }]
  methods := #[k6m0]
  instanceTypes := #[(.object "java/lang/String"), .int, .int, .boolean, .boolean, .boolean, .boolean, (.object "com/example/bitstrata/bitstrata/SetOperation$ChunkOperation"), (.object "java/util/function/BiConsumer")]
  staticTypes := #[(.object "com/example/bitstrata/bitstrata/SetOperation"), (.object "com/example/bitstrata/bitstrata/SetOperation"), (.object "com/example/bitstrata/bitstrata/SetOperation"), (.object "com/example/bitstrata/bitstrata/SetOperation"), .int, .int, .int, .int, (.array (.object "com/example/bitstrata/bitstrata/SetOperation"))]
  resolved := Array.replicate 367 none
  statics := some 0 }

def pool7 : Array CpInfo := pool [(1, u "java/lang/Cloneable"), (0, .class_ 1), (0, u "java/lang/Object"), (0, .class_ 3)] 3

/-- java/lang/Cloneable -/
def k7 : Class := { plain "java/lang/Cloneable" (some 0) with
  accessFlags := 1537
  interfaces := #[]
  cf := some (fileOf pool7 2 #[] #[] 1537 4 #[] #[])
  fields := #[]
  methods := #[]
  instanceTypes := #[]
  staticTypes := #[]
  resolved := Array.replicate 8 none
  statics := none }

/-- the primitive byte -/
def k8 : Class := { plain "byte" none with kind := .primitive 'B', accessFlags := 0x411 }
/-- [B -/
def k9 : Class := { plain "[B" (some 0) with kind := .array 8 .byte, interfaces := #[7, 4], accessFlags := 1041 }

/-- the primitive int -/
def k10 : Class := { plain "int" none with kind := .primitive 'I', accessFlags := 0x411 }
/-- [I -/
def k11 : Class := { plain "[I" (some 0) with kind := .array 10 .int, interfaces := #[7, 4], accessFlags := 1041 }

def heap : Heap := #[{ cls := 6, slots := #[.ref 1, .ref 2, .ref 3, .ref 4, .int 0, .int 0, .int 0, .int 0, .null], vm := .statics 6 },
  { cls := 6, slots := #[.null, .int 0, .int 0, .int 0, .int 0, .int 1, .int 0, .null, .null], vm := .none },
  { cls := 6, slots := #[.null, .int 1, .int 0, .int 1, .int 1, .int 1, .int 0, .null, .null], vm := .none },
  { cls := 6, slots := #[.null, .int 2, .int 0, .int 1, .int 1, .int 0, .int 0, .null, .null], vm := .none },
  { cls := 6, slots := #[.null, .int 3, .int 0, .int 1, .int 0, .int 0, .int 0, .null, .null], vm := .none }]
def classes : Array Class := #[k0, k1, k2, k3, k4, k5, k6, k7, k8, k9, k10, k11]
def interned : List (Array UInt16 × Addr) := []
def slotsUsed : Nat := 45
def theMethod : MethodId := ⟨1, 1⟩
def args0 : Array Value := #[.int 5, .long 1, .long 1, .long 1]
def aboutOver (below : List Frame) : State where
  vm := { classes := classes, interned := interned.toArray }
  heap := heap
  slotsUsed := slotsUsed
  threads := #[{ frames := .invoking theMethod args0 :: below }]
def below0 : List Frame := [.native { method := ⟨0, 0⟩, args := #[] }]
def about1 : State := aboutOver below0
def p0 : Program := .bare "" "" ""
def e0 : Env := launch0.env 0 0 0
theorem w_frames : about1.frames = Frame.invoking theMethod args0 :: below0 := rfl
set_option maxRecDepth 65536 in
theorem w_args : argsFit about1.vm theMethod args0 = true := by decide +kernel
set_option maxRecDepth 65536 in
theorem w_heap : heapFits about1 = true := by decide +kernel
set_option maxRecDepth 65536 in
theorem w_runnable : about1.curStatus? = some .runnable := by decide +kernel
set_option maxRecDepth 65536 in
theorem w_alone : about1.alone = true := by decide +kernel
set_option maxRecDepth 65536 in
theorem w_named : about1.methodNamed? x = some theMethod := by decide +kernel
set_option maxRecDepth 65536 in
theorem w_hears : about1.hears theMethod below0 = true := by decide +kernel
set_option maxRecDepth 65536 in
theorem w_ripe : about1.ripe theMethod args0 below0 = true := by decide +kernel
theorem w_running : about1.status = .running := rfl
set_option maxRecDepth 65536 in
theorem w_room : about1.hasRoom e0.platform room_1 = true :=
  launch0.hasRoom_least _ room_1 (by decide +kernel) (by decide +kernel) (by decide +kernel) (by decide +kernel) (by decide +kernel) (by decide +kernel)
theorem allAtoms_all (ts : List Jvm.Cond) (a : Array Jvm.Value) (st : Jvm.State) : (allAtoms ts).before a st = ts.all (fun c => c.before a st) := by
  induction ts with
  | nil => rfl
  | cons c t ih =>
    show (Jvm.Cond.and c (allAtoms t)).before a st = _
    rw [Jvm.Cond.before_and, ih, List.all_cons]
def words1 : List Jvm.Cond := Jvm.Cond.code x code maxLocals ret :: tables_1
/-- a 'code' word, met by the world's own term for the bytes: nothing is compared byte by byte -/
theorem code_word {y : MethodName} {bytes : ByteArray} {mx : Nat} {rt : Option FieldType} {a : Array Value} {s : State} {m : MethodId} {meth : Method} {c : Code} (h1 : s.methodNamed? y = some m) (h2 : s.vm.method? m = some meth) (h3 : meth.code = some c) (h4 : c.code = bytes)
    (h5 : (c.maxLocals == mx && c.exceptionTable.isEmpty && decide (c.maxStack ≤ mostOperands) && decide (meth.sig.returnType = rt) && !meth.locks && decide (parseMethodDescriptor y.desc = some meth.sig)) = true) : (Jvm.Cond.code y bytes mx rt).before a s = true := by
  simp only [Bool.and_eq_true, beq_iff_eq, Bool.not_eq_true', decide_eq_true_eq] at h5
  obtain ⟨⟨⟨⟨⟨g1, g2⟩, g3⟩, g4⟩, g5⟩, g6⟩ := h5
  simp [Cond.before, Cond.holds, Cond.value, h1, h2, h3, h4, g1, g2, g3, g4, g5, g6]
def isCode : Jvm.Cond → Bool
  | .code _ _ _ _ => true
  | _ => false
theorem all_split {L : List Jvm.Cond} {P : Jvm.Cond → Bool} (h1 : L.all (fun c => isCode c || P c) = true) (h2 : ∀ c ∈ L.filter isCode, P c = true) : L.all P = true := by
  refine List.all_eq_true.mpr fun c hc => ?_
  have h := List.all_eq_true.mp h1 c hc
  rcases Bool.eq_false_or_eq_true (isCode c) with hi | hi
  · exact h2 c (List.mem_filter.mpr ⟨hc, hi⟩)
  · simpa [hi] using h
set_option maxRecDepth 65536 in
theorem w_c0 : (Jvm.Cond.code x code maxLocals ret).before args0 about1 = true := code_word (m := ⟨1, 1⟩) (meth := k1m1) (c := k1c1) (by decide +kernel) rfl rfl rfl (by decide +kernel)
set_option maxRecDepth 65536 in
theorem w_c1 : (Jvm.Cond.code ({ cls := "com/example/bitstrata/bitstrata/SetOperation", name := "cardinality", desc := "(JJJ)J" } : Jvm.MethodName) prog_109_method_4_code (9 : Nat) (Option.some Jvm.ClassFile.FieldType.long)).before args0 about1 = true := code_word (m := ⟨6, 0⟩) (meth := k6m0) (c := k6c0) (by decide +kernel) rfl rfl rfl (by decide +kernel)
def codes1 : List Jvm.Cond := [Jvm.Cond.code x code maxLocals ret, Jvm.Cond.code ({ cls := "com/example/bitstrata/bitstrata/SetOperation", name := "cardinality", desc := "(JJJ)J" } : Jvm.MethodName) prog_109_method_4_code (9 : Nat) (Option.some Jvm.ClassFile.FieldType.long)]
set_option maxRecDepth 65536 in
theorem codes_eq : words1.filter isCode = codes1 := rfl
theorem w_codes : ∀ c ∈ words1.filter isCode, c.before args0 about1 = true := by
  rw [codes_eq]
  intro c hc
  simp only [codes1, List.mem_cons, List.not_mem_nil, or_false] at hc
  rcases hc with rfl | rfl
  · exact w_c0
  · exact w_c1
set_option maxRecDepth 65536 in
theorem w_t1 : words1.all (fun c => isCode c || c.before args0 about1) = true := by decide +kernel
theorem w_tables : (allAtoms (Jvm.Cond.code x code maxLocals ret :: tables_1)).before args0 about1 = true := by
  rw [allAtoms_all]
  show words1.all (fun c => c.before args0 about1) = true
  refine all_split ?_ w_codes
  rw [w_t1]
set_option maxRecDepth 65536 in
theorem w_case : (Jvm.Cond.and given_1 narrow_1).before args0 about1 = true := by decide +kernel
theorem w_applies : (headSpec (Jvm.Cond.code x code maxLocals ret :: tables_1) room_1).applies x e0.platform about1 = true :=
  (Spec.applies_iff w_frames).mpr ⟨w_running, w_runnable, w_alone, w_named, w_hears, w_ripe, w_room, w_tables⟩
theorem atStart : AtStart classFile x code maxLocals ret World_1 tables_1 room_1 Calls_1 rest_1 Pre_1 launch0 p0 e0 about1 theMethod args0 below0 :=
  ⟨lists_1, trivial, launch0.admits_env _ _ _, launch0.least_env, fairChoices_fair.cas, fairChoices_fair.clock, w_frames, w_args, w_heap, w_applies, trivial, trivial, w_case⟩
end start1
theorem witness_1 : WitnessClaimed_1 := ⟨start1.p0, start1.e0, start1.about1, start1.theMethod, start1.args0, start1.below0, start1.atStart⟩
end Jvm.Pilot.@@N@@
