import JvmDerived
import JvmDerived.Pilot.@@N@@Statement
import JvmDerived.Pilot.@@N@@Code
set_option linter.unusedVariables false
set_option linter.unusedSimpArgs false
namespace Jvm.RoadKit
open Sem ClassFile Op Lib Jvm.Stand Jvm.Free Jvm.LawKit
section New
variable {p : Program} {l : Launch} {e : Env} {R : Room} {s : State} {m : MethodId} {args : Array Value} {below : List Frame} {meth : Method} {c : Code} {T : State} {locs : List Loc} {cells slots : Nat}
theorem retI (X : Stand p l e R s m args below meth c T locs cells slots) (hx : p.tables.exec = Jvm.exec) {pc : Nat} {Ls : Array Slot} {z : Int32} {rest : List Value} (hret : meth.sig.returnType = some .int) (hd : decode c.code pc = .ok (.ireturn, 1)) {fs : List Frame}
    (hl : ∀ (f : JFrame) (acts : List Action), f.method = m → f.locked = none → f.entered = [] → (doReturn e (T.setTop f) acts (some (.int z))).1 = T.setFrames fs) : Steps p.tables e below (T.setTop (mkF m pc Ls (.int z :: rest))) (T.setFrames fs) := by
  have hm' : T.vm.method? m = some meth := X.method'
  have hn : narrow .int (.int z) = .int z := rfl
  show Steps p.tables e below (T.setTop { method := m, pc := pc, locals := Ls, stack := _ :: rest, locked := none }) _
  jvm_step X.here [X.here.top, hx, hd, hm', hret, hn]
  first | (intro acts; rw [hl _ acts rfl rfl rfl]) | rw [hl _ _ rfl rfl rfl]
  exact Steps.refl _
end New
end Jvm.RoadKit
namespace Jvm.Pilot.@@N@@
open Jvm Jvm.ClassFile Sem Op Lib Jvm.Free Jvm.Stand Jvm.LawKit Jvm.RoadKit Bundle Jvm.Pilot.@@N@@.Jvm.D

def own_pick (p1 : Int32) (wF wU wT wX : Addr) : Addr := if p1 = (0 : Int32) then wF else if p1 = (1 : Int32) then wU else if p1 = (2 : Int32) then wT else wX
theorem d1_0 : decode method_2_code 0 = .ok (.iload_n 0, 1) := by decide +kernel
theorem d1_1 : decode method_2_code 1 = .ok (.ifCond .ne 7, 3) := by decide +kernel
theorem d1_4 : decode method_2_code 4 = .ok (.getstatic 7, 3) := by decide +kernel
theorem d1_7 : decode method_2_code 7 = .ok (.areturn, 1) := by decide +kernel
theorem d1_8 : decode method_2_code 8 = .ok (.iload_n 0, 1) := by decide +kernel
theorem d1_9 : decode method_2_code 9 = .ok (.iconst 1, 1) := by decide +kernel
theorem d1_10 : decode method_2_code 10 = .ok (.if_icmp .ne 7, 3) := by decide +kernel
theorem d1_13 : decode method_2_code 13 = .ok (.getstatic 13, 3) := by decide +kernel
theorem d1_16 : decode method_2_code 16 = .ok (.areturn, 1) := by decide +kernel
theorem d1_17 : decode method_2_code 17 = .ok (.iload_n 0, 1) := by decide +kernel
theorem d1_18 : decode method_2_code 18 = .ok (.iconst 2, 1) := by decide +kernel
theorem d1_19 : decode method_2_code 19 = .ok (.if_icmp .ne 7, 3) := by decide +kernel
theorem d1_22 : decode method_2_code 22 = .ok (.getstatic 16, 3) := by decide +kernel
theorem d1_25 : decode method_2_code 25 = .ok (.areturn, 1) := by decide +kernel
theorem d1_26 : decode method_2_code 26 = .ok (.getstatic 19, 3) := by decide +kernel
theorem d1_29 : decode method_2_code 29 = .ok (.areturn, 1) := by decide +kernel
theorem pn_0 : plainName "com/example/lichen/lichen/model/TruthValueFromDoubledProgramPinLaw" = true := by first | (simp [plainName, overriddenIn]; done) | decide +kernel
theorem ef_rm1 (m : MethodId) (x0 : Int32) : entryFrame m #[(.int x0)] 1 = mkF m 0 #[.val (.int x0)] [] := by first | (simp [entryFrame, mkF, argsToLocals, Value.category]; done) | rfl
def Q_rm1 (Z : State) (p1 : Int32) (wF : Addr) (wU : Addr) (wT : Addr) (wX : Addr) (h0 : Heap) (n0 : Nat) (v : Option Value) (h : Heap) (L : List Loc) : Prop := v = some (.ref (own_pick p1 wF wU wT wX)) ∧ Fr n0 L ∧ h = h0
set_option maxRecDepth 65536 in
set_option maxHeartbeats 40000000 in
theorem rm1 (l : Launch) (Z : State) (a0 : Array Value) (hw : ∀ d ∈ tables_1, d.before a0 Z = true) (ws : List Jvm.Cond) (p1 : Int32) (wF : Addr) (wU : Addr) (wT : Addr) (wX : Addr) (h0 : Heap) (n0 : Nat) (Z0 : n0 ≤ h0.size) (O0 : Old Z n0 h0) (SF : Sta Z Z.heap "com/example/lichen/lichen/model/TruthValue" "FALSE" "Lcom/example/lichen/lichen/model/TruthValue;" (.ref wF)) (SU : Sta Z Z.heap "com/example/lichen/lichen/model/TruthValue" "UNDEFINED" "Lcom/example/lichen/lichen/model/TruthValue;" (.ref wU)) (ST : Sta Z Z.heap "com/example/lichen/lichen/model/TruthValue" "TRUE" "Lcom/example/lichen/lichen/model/TruthValue;" (.ref wT)) (SX : Sta Z Z.heap "com/example/lichen/lichen/model/TruthValue" "INCONSISTENT" "Lcom/example/lichen/lichen/model/TruthValue;" (.ref wX)) :
    MetFree l (⟨"com/example/lichen/lichen/model/TruthValueFromDoubledProgramPinLaw", "pick", "(I)Lcom/example/lichen/lichen/model/TruthValue;"⟩ : MethodName) (head1 (Jvm.Cond.code (⟨"com/example/lichen/lichen/model/TruthValueFromDoubledProgramPinLaw", "pick", "(I)Lcom/example/lichen/lichen/model/TruthValue;"⟩ : MethodName) method_2_code 1 (some (.object "com/example/lichen/lichen/model/TruthValue")) :: ws) ({ frames := 0, cells := 0, slots := 0, locals := 0 } : Room)) (fun a U => a = #[(.int p1)] ∧ Z.Warmed39 U.vm ∧ U.heap = h0) (fun _ _ _ _ _ => True) (fun _ U o U' => ∃ v L, o = .returned v ∧ Q_rm1 Z p1 wF wU wT wX h0 n0 v U'.heap L ∧ FrameEnd U o U' L ({ frames := 0, cells := 0, slots := 0, locals := 0 } : Room).cells ({ frames := 0, cells := 0, slots := 0, locals := 0 } : Room).slots) := by
  refine MetFree.of_bodySF (plainFor_of_name pn_0) hisR ?_
  intro p e s m args below meth c s₁ Bd hml0 hP hK
  obtain ⟨rfl, hZ, hh⟩ := hP
  have hx := Bd.exec
  have hby := Bd.bytes
  have hml : c.maxLocals = 1 := hml0
  have hown : s.vm.findClass "com/example/lichen/lichen/model/TruthValueFromDoubledProgramPinLaw" = some m.cls := findClass_of_methodNamed Bd.named
  have hnm := (name_of_methodNamed Bd.named Bd.method).1
  have X0 : Stand p l e ({ frames := 0, cells := 0, slots := 0, locals := 0 } : Room) s m #[(.int p1)] below meth c s₁ [] 0 0 := Stand.of_body Bd
  have e0 : s₁.heap = h0 := by rw [← hh, Bd.state]; rfl
  have N0 := Fr.nil n0
  have pre0 : ∀ t, Steps p.tables e below (s₁.setTop (mkF m 0 #[.val (.int p1)] [])) t → Steps p.tables e below (s₁.setTop (entryFrame m #[(.int p1)] 1)) t := fun t k => castTop (ef_rm1 m p1) k
  have pre1 : ∀ t, Steps p.tables e below (s₁.setTop (mkF m 1 #[.val (.int p1)] [(.int p1)])) t → Steps p.tables e below (s₁.setTop (entryFrame m #[(.int p1)] 1)) t := by
    intro t k
    refine pre0 t ?_
    refine XS.iloadN X0.here hx rfl (hb hby d1_0) rfl ?_
    show Steps _ _ _ (s₁.setTop (mkF m 1 #[.val (.int p1)] [(.int p1)])) _
    exact k
  by_cases hc2 : p1 = (0 : Int32)
  · obtain ⟨T3, X3, e3, st3⟩ := getS2 X0 hx hZ hown (host := "") (Or.inl (hw _ (List.mem_of_getElem? (i := 6) rfl))) Via.refl e0 (SF.ext O0.2) (g := (mkF m 4 #[.val (.int p1)] [])) rfl (hb hby d1_4)
    have pre4 : ∀ t, Steps p.tables e below (T3.setTop (mkF m 7 #[.val (.int p1)] [(.ref wF)])) t → Steps p.tables e below (s₁.setTop (entryFrame m #[(.int p1)] 1)) t := by
      intro t k
      refine pre1 t ?_
      refine XS.ifNo X0.here hx rfl (hb hby d1_1) rfl ((if0 _ _).trans (teq hc2).2) ?_
      show Steps _ _ _ (s₁.setTop (mkF m 4 #[.val (.int p1)] [])) _
      refine st3 _ ?_
      show Steps _ _ _ (T3.setTop (mkF m 7 #[.val (.int p1)] [(.ref wF)])) _
      exact k
    obtain ⟨fs, hr, hrun, hended, hW, hsame⟩ := X3.leave (v := some (.ref wF)) (fun h => by rw [Bd.returns] at h; cases h)
    refine ⟨_, _, pre4 _ ?_, hrun, hended, _, _, rfl, ?_, ⟨_, rfl⟩, hW, hsame.mono (by decide) (by decide)⟩
    · exact X3.areturnOut hx (w := (.ref wF)) rfl Bd.returns rfl (hb hby d1_7) hr
    · show Q_rm1 Z p1 wF wU wT wX h0 n0 _ T3.heap _
      rw [e3]
      have hv5 : wF = (own_pick p1 wF wU wT wX) := by unfold own_pick; simp only [if_pos hc2]
      exact ⟨(congrArg (fun z => some (Value.ref z)) hv5), N0, rfl⟩
  · have pre6 : ∀ t, Steps p.tables e below (s₁.setTop (mkF m 10 #[.val (.int p1)] [(.int (1 : Int32)), (.int p1)])) t → Steps p.tables e below (s₁.setTop (entryFrame m #[(.int p1)] 1)) t := by
      intro t k
      refine pre1 t ?_
      refine XS.ifYes X0.here hx rfl (pc0 := 1) (pc' := 8) rfl (hb hby d1_1) rfl ((if0 _ _).trans (feq hc2).2) (by decide) (by decide) ?_
      show Steps _ _ _ (s₁.setTop (mkF m 8 #[.val (.int p1)] [])) _
      refine XS.iloadN X0.here hx rfl (hb hby d1_8) rfl ?_
      show Steps _ _ _ (s₁.setTop (mkF m 9 #[.val (.int p1)] [(.int p1)])) _
      refine XS.iconst X0.here hx rfl (hb hby d1_9) ?_
      show Steps _ _ _ (s₁.setTop (mkF m 10 #[.val (.int p1)] [(.int (1 : Int32)), (.int p1)])) _
      exact k
    by_cases hc7 : p1 = (1 : Int32)
    · obtain ⟨T8, X8, e8, st8⟩ := getS2 X0 hx hZ hown (host := "") (Or.inl (hw _ (List.mem_of_getElem? (i := 21) rfl))) Via.refl e0 (SU.ext O0.2) (g := (mkF m 13 #[.val (.int p1)] [])) rfl (hb hby d1_13)
      have pre9 : ∀ t, Steps p.tables e below (T8.setTop (mkF m 16 #[.val (.int p1)] [(.ref wU)])) t → Steps p.tables e below (s₁.setTop (entryFrame m #[(.int p1)] 1)) t := by
        intro t k
        refine pre6 t ?_
        refine XS.icmpNo X0.here hx rfl (hb hby d1_10) rfl (teq hc7).2 ?_
        show Steps _ _ _ (s₁.setTop (mkF m 13 #[.val (.int p1)] [])) _
        refine st8 _ ?_
        show Steps _ _ _ (T8.setTop (mkF m 16 #[.val (.int p1)] [(.ref wU)])) _
        exact k
      obtain ⟨fs, hr, hrun, hended, hW, hsame⟩ := X8.leave (v := some (.ref wU)) (fun h => by rw [Bd.returns] at h; cases h)
      refine ⟨_, _, pre9 _ ?_, hrun, hended, _, _, rfl, ?_, ⟨_, rfl⟩, hW, hsame.mono (by decide) (by decide)⟩
      · exact X8.areturnOut hx (w := (.ref wU)) rfl Bd.returns rfl (hb hby d1_16) hr
      · show Q_rm1 Z p1 wF wU wT wX h0 n0 _ T8.heap _
        rw [e8]
        have hv10 : wU = (own_pick p1 wF wU wT wX) := by unfold own_pick; simp only [if_neg hc2, if_pos hc7]
        exact ⟨(congrArg (fun z => some (Value.ref z)) hv10), N0, rfl⟩
    · have pre11 : ∀ t, Steps p.tables e below (s₁.setTop (mkF m 19 #[.val (.int p1)] [(.int (2 : Int32)), (.int p1)])) t → Steps p.tables e below (s₁.setTop (entryFrame m #[(.int p1)] 1)) t := by
        intro t k
        refine pre6 t ?_
        refine XS.icmpYes X0.here hx rfl (pc0 := 10) (pc' := 17) rfl (hb hby d1_10) rfl (feq hc7).2 (by decide) (by decide) ?_
        show Steps _ _ _ (s₁.setTop (mkF m 17 #[.val (.int p1)] [])) _
        refine XS.iloadN X0.here hx rfl (hb hby d1_17) rfl ?_
        show Steps _ _ _ (s₁.setTop (mkF m 18 #[.val (.int p1)] [(.int p1)])) _
        refine XS.iconst X0.here hx rfl (hb hby d1_18) ?_
        show Steps _ _ _ (s₁.setTop (mkF m 19 #[.val (.int p1)] [(.int (2 : Int32)), (.int p1)])) _
        exact k
      by_cases hc12 : p1 = (2 : Int32)
      · obtain ⟨T13, X13, e13, st13⟩ := getS2 X0 hx hZ hown (host := "") (Or.inl (hw _ (List.mem_of_getElem? (i := 20) rfl))) Via.refl e0 (ST.ext O0.2) (g := (mkF m 22 #[.val (.int p1)] [])) rfl (hb hby d1_22)
        have pre14 : ∀ t, Steps p.tables e below (T13.setTop (mkF m 25 #[.val (.int p1)] [(.ref wT)])) t → Steps p.tables e below (s₁.setTop (entryFrame m #[(.int p1)] 1)) t := by
          intro t k
          refine pre11 t ?_
          refine XS.icmpNo X0.here hx rfl (hb hby d1_19) rfl (teq hc12).2 ?_
          show Steps _ _ _ (s₁.setTop (mkF m 22 #[.val (.int p1)] [])) _
          refine st13 _ ?_
          show Steps _ _ _ (T13.setTop (mkF m 25 #[.val (.int p1)] [(.ref wT)])) _
          exact k
        obtain ⟨fs, hr, hrun, hended, hW, hsame⟩ := X13.leave (v := some (.ref wT)) (fun h => by rw [Bd.returns] at h; cases h)
        refine ⟨_, _, pre14 _ ?_, hrun, hended, _, _, rfl, ?_, ⟨_, rfl⟩, hW, hsame.mono (by decide) (by decide)⟩
        · exact X13.areturnOut hx (w := (.ref wT)) rfl Bd.returns rfl (hb hby d1_25) hr
        · show Q_rm1 Z p1 wF wU wT wX h0 n0 _ T13.heap _
          rw [e13]
          have hv15 : wT = (own_pick p1 wF wU wT wX) := by unfold own_pick; simp only [if_neg hc2, if_neg hc7, if_pos hc12]
          exact ⟨(congrArg (fun z => some (Value.ref z)) hv15), N0, rfl⟩
      · obtain ⟨T16, X16, e16, st16⟩ := getS2 X0 hx hZ hown (host := "") (Or.inl (hw _ (List.mem_of_getElem? (i := 24) rfl))) Via.refl e0 (SX.ext O0.2) (g := (mkF m 26 #[.val (.int p1)] [])) rfl (hb hby d1_26)
        have pre17 : ∀ t, Steps p.tables e below (T16.setTop (mkF m 29 #[.val (.int p1)] [(.ref wX)])) t → Steps p.tables e below (s₁.setTop (entryFrame m #[(.int p1)] 1)) t := by
          intro t k
          refine pre11 t ?_
          refine XS.icmpYes X0.here hx rfl (pc0 := 19) (pc' := 26) rfl (hb hby d1_19) rfl (feq hc12).2 (by decide) (by decide) ?_
          show Steps _ _ _ (s₁.setTop (mkF m 26 #[.val (.int p1)] [])) _
          refine st16 _ ?_
          show Steps _ _ _ (T16.setTop (mkF m 29 #[.val (.int p1)] [(.ref wX)])) _
          exact k
        obtain ⟨fs, hr, hrun, hended, hW, hsame⟩ := X16.leave (v := some (.ref wX)) (fun h => by rw [Bd.returns] at h; cases h)
        refine ⟨_, _, pre17 _ ?_, hrun, hended, _, _, rfl, ?_, ⟨_, rfl⟩, hW, hsame.mono (by decide) (by decide)⟩
        · exact X16.areturnOut hx (w := (.ref wX)) rfl Bd.returns rfl (hb hby d1_29) hr
        · show Q_rm1 Z p1 wF wU wT wX h0 n0 _ T16.heap _
          rw [e16]
          have hv18 : wX = (own_pick p1 wF wU wT wX) := by unfold own_pick; simp only [if_neg hc2, if_neg hc7, if_neg hc12]
          exact ⟨(congrArg (fun z => some (Value.ref z)) hv18), N0, rfl⟩
theorem d3_0 : decode prog_53_method_9_code 0 = .ok (.aload_n 0, 1) := by decide +kernel
theorem d3_1 : decode prog_53_method_9_code 1 = .ok (.getstatic 13, 3) := by decide +kernel
theorem d3_4 : decode prog_53_method_9_code 4 = .ok (.if_acmp .eq 10, 3) := by decide +kernel
theorem d3_7 : decode prog_53_method_9_code 7 = .ok (.aload_n 1, 1) := by decide +kernel
theorem d3_8 : decode prog_53_method_9_code 8 = .ok (.getstatic 13, 3) := by decide +kernel
theorem d3_11 : decode prog_53_method_9_code 11 = .ok (.if_acmp .ne 7, 3) := by decide +kernel
theorem d3_18 : decode prog_53_method_9_code 18 = .ok (.return_, 1) := by decide +kernel
theorem pn_1 : plainName "com/example/lichen/lichen/model/TruthValue" = true := by first | (simp [plainName, overriddenIn]; done) | decide +kernel
theorem ef_rm3 (m : MethodId) (x0 : Addr) (x1 : Addr) : entryFrame m #[(.ref x0), (.ref x1)] 2 = mkF m 0 #[.val (.ref x0), .val (.ref x1)] [] := by first | (simp [entryFrame, mkF, argsToLocals, Value.category]; done) | rfl
def Q_rm3 (Z : State) (a1 : Addr) (a2 : Addr) (wF : Addr) (wU : Addr) (wT : Addr) (wX : Addr) (h0 : Heap) (n0 : Nat) (v : Option Value) (h : Heap) (L : List Loc) : Prop := v = none ∧ Fr n0 L ∧ h = h0
set_option maxRecDepth 65536 in
set_option maxHeartbeats 40000000 in
theorem rm3 (l : Launch) (Z : State) (a0 : Array Value) (hw : ∀ d ∈ tables_1, d.before a0 Z = true) (ws : List Jvm.Cond) (a1 : Addr) (a2 : Addr) (wF : Addr) (wU : Addr) (wT : Addr) (wX : Addr) (h0 : Heap) (n0 : Nat) (Z0 : n0 ≤ h0.size) (O0 : Old Z n0 h0) (SF : Sta Z Z.heap "com/example/lichen/lichen/model/TruthValue" "FALSE" "Lcom/example/lichen/lichen/model/TruthValue;" (.ref wF)) (SU : Sta Z Z.heap "com/example/lichen/lichen/model/TruthValue" "UNDEFINED" "Lcom/example/lichen/lichen/model/TruthValue;" (.ref wU)) (ST : Sta Z Z.heap "com/example/lichen/lichen/model/TruthValue" "TRUE" "Lcom/example/lichen/lichen/model/TruthValue;" (.ref wT)) (SX : Sta Z Z.heap "com/example/lichen/lichen/model/TruthValue" "INCONSISTENT" "Lcom/example/lichen/lichen/model/TruthValue;" (.ref wX)) (n1 : ¬ a1 = wX) (n2 : ¬ a2 = wX) :
    MetFree l (⟨"com/example/lichen/lichen/model/TruthValue", "requireInTruthOrder", "(Lcom/example/lichen/lichen/model/TruthValue;Lcom/example/lichen/lichen/model/TruthValue;)V"⟩ : MethodName) (head1 (Jvm.Cond.code (⟨"com/example/lichen/lichen/model/TruthValue", "requireInTruthOrder", "(Lcom/example/lichen/lichen/model/TruthValue;Lcom/example/lichen/lichen/model/TruthValue;)V"⟩ : MethodName) prog_53_method_9_code 2 none :: ws) ({ frames := 0, cells := 0, slots := 0, locals := 0 } : Room)) (fun a U => a = #[(.ref a1), (.ref a2)] ∧ Z.Warmed39 U.vm ∧ U.heap = h0) (fun _ _ _ _ _ => True) (fun _ U o U' => ∃ v L, o = .returned v ∧ Q_rm3 Z a1 a2 wF wU wT wX h0 n0 v U'.heap L ∧ FrameEnd U o U' L ({ frames := 0, cells := 0, slots := 0, locals := 0 } : Room).cells ({ frames := 0, cells := 0, slots := 0, locals := 0 } : Room).slots) := by
  refine MetFree.of_bodySF (plainFor_of_name pn_1) hisR ?_
  intro p e s m args below meth c s₁ Bd hml0 hP hK
  obtain ⟨rfl, hZ, hh⟩ := hP
  have hx := Bd.exec
  have hby := Bd.bytes
  have hml : c.maxLocals = 2 := hml0
  have hown : s.vm.findClass "com/example/lichen/lichen/model/TruthValue" = some m.cls := findClass_of_methodNamed Bd.named
  have hnm := (name_of_methodNamed Bd.named Bd.method).1
  have X0 : Stand p l e ({ frames := 0, cells := 0, slots := 0, locals := 0 } : Room) s m #[(.ref a1), (.ref a2)] below meth c s₁ [] 0 0 := Stand.of_body Bd
  have e0 : s₁.heap = h0 := by rw [← hh, Bd.state]; rfl
  have N0 := Fr.nil n0
  have pre0 : ∀ t, Steps p.tables e below (s₁.setTop (mkF m 0 #[.val (.ref a1), .val (.ref a2)] [])) t → Steps p.tables e below (s₁.setTop (entryFrame m #[(.ref a1), (.ref a2)] 2)) t := fun t k => castTop (ef_rm3 m a1 a2) k
  obtain ⟨T1, X1, e1, st1⟩ := getS2 X0 hx hZ hown (host := "") (Or.inl (hw _ (List.mem_of_getElem? (i := 15) rfl))) Via.refl e0 (SX.ext O0.2) (g := (mkF m 1 #[.val (.ref a1), .val (.ref a2)] [(.ref a1)])) rfl (hb hby d3_1)
  have hc2 : ¬ (a1 = wX) := n1
  obtain ⟨T3, X3, e3, st3⟩ := getS2 X1 hx hZ hown (host := "") (Or.inl (hw _ (List.mem_of_getElem? (i := 15) rfl))) Via.refl e1 (SX.ext O0.2) (g := (mkF m 8 #[.val (.ref a1), .val (.ref a2)] [(.ref a2)])) rfl (hb hby d3_8)
  have hc4 : ¬ (a2 = wX) := n2
  have pre5 : ∀ t, Steps p.tables e below (T3.setTop (mkF m 18 #[.val (.ref a1), .val (.ref a2)] [])) t → Steps p.tables e below (s₁.setTop (entryFrame m #[(.ref a1), (.ref a2)] 2)) t := by
    intro t k
    refine pre0 t ?_
    refine XS.aloadN X0.here hx rfl (hb hby d3_0) rfl rfl ?_
    show Steps _ _ _ (s₁.setTop (mkF m 1 #[.val (.ref a1), .val (.ref a2)] [(.ref a1)])) _
    refine st1 _ ?_
    show Steps _ _ _ (T1.setTop (mkF m 4 #[.val (.ref a1), .val (.ref a2)] [(.ref wX), (.ref a1)])) _
    refine Jvm.RoadKit.acmp (g := (mkF m 4 #[.val (.ref a1), .val (.ref a2)] [(.ref wX), (.ref a1)])) X1 hx rfl rfl rfl (pc0 := 4) (pc' := 7) (same := false) rfl (hb hby d3_4) rfl (decide_eq_false fun q => hc2 (Value.ref.inj q)) (by decide) (by decide) ?_
    show Steps _ _ _ (T1.setTop (mkF m 7 #[.val (.ref a1), .val (.ref a2)] [])) _
    refine XS.aloadN X1.here hx rfl (hb hby d3_7) rfl rfl ?_
    show Steps _ _ _ (T1.setTop (mkF m 8 #[.val (.ref a1), .val (.ref a2)] [(.ref a2)])) _
    refine st3 _ ?_
    show Steps _ _ _ (T3.setTop (mkF m 11 #[.val (.ref a1), .val (.ref a2)] [(.ref wX), (.ref a2)])) _
    refine Jvm.RoadKit.acmp (g := (mkF m 11 #[.val (.ref a1), .val (.ref a2)] [(.ref wX), (.ref a2)])) X3 hx rfl rfl rfl (pc0 := 11) (pc' := 18) (same := false) rfl (hb hby d3_11) rfl (decide_eq_false fun q => hc4 (Value.ref.inj q)) (by decide) (by decide) ?_
    show Steps _ _ _ (T3.setTop (mkF m 18 #[.val (.ref a1), .val (.ref a2)] [])) _
    exact k
  obtain ⟨fs, hr, hrun, hended, hW, hsame⟩ := X3.leave (v := none) (fun _ => rfl)
  refine ⟨_, _, pre5 _ ?_, hrun, hended, _, _, rfl, ?_, ⟨_, rfl⟩, hW, hsame.mono (by decide) (by decide)⟩
  · exact X3.returnOut hx Bd.returns (hb hby d3_18) hr
  · show Q_rm3 Z a1 a2 wF wU wT wX h0 n0 _ T3.heap _
    rw [e3]
    exact ⟨rfl, N0, rfl⟩
def own_from (a1 a2 wF wU wT wX : Addr) : Addr := if a1 = wT then (if a2 = wF then wX else wT) else if a2 = wF then wF else wU
theorem d2_0 : decode prog_53_method_7_code 0 = .ok (.aload_n 0, 1) := by decide +kernel
theorem d2_1 : decode prog_53_method_7_code 1 = .ok (.aload_n 1, 1) := by decide +kernel
theorem pd_0 : parseMethodDescriptor "(Lcom/example/lichen/lichen/model/TruthValue;Lcom/example/lichen/lichen/model/TruthValue;)V" = some ⟨[(.object "com/example/lichen/lichen/model/TruthValue"), (.object "com/example/lichen/lichen/model/TruthValue")], none⟩ := by decide +kernel
theorem d2_2 : decode prog_53_method_7_code 2 = .ok (.invokestatic 52, 3) := by decide +kernel
theorem d2_5 : decode prog_53_method_7_code 5 = .ok (.aload_n 0, 1) := by decide +kernel
theorem d2_6 : decode prog_53_method_7_code 6 = .ok (.getstatic 10, 3) := by decide +kernel
theorem d2_9 : decode prog_53_method_7_code 9 = .ok (.if_acmp .ne 17, 3) := by decide +kernel
theorem d2_12 : decode prog_53_method_7_code 12 = .ok (.aload_n 1, 1) := by decide +kernel
theorem d2_13 : decode prog_53_method_7_code 13 = .ok (.getstatic 3, 3) := by decide +kernel
theorem d2_16 : decode prog_53_method_7_code 16 = .ok (.if_acmp .ne 10, 3) := by decide +kernel
theorem d2_19 : decode prog_53_method_7_code 19 = .ok (.getstatic 13, 3) := by decide +kernel
theorem d2_22 : decode prog_53_method_7_code 22 = .ok (.astore_n 2, 1) := by decide +kernel
theorem d2_23 : decode prog_53_method_7_code 23 = .ok (.goto 35, 3) := by decide +kernel
theorem d2_58 : decode prog_53_method_7_code 58 = .ok (.aload_n 2, 1) := by decide +kernel
theorem d2_59 : decode prog_53_method_7_code 59 = .ok (.areturn, 1) := by decide +kernel
theorem d2_26 : decode prog_53_method_7_code 26 = .ok (.aload_n 0, 1) := by decide +kernel
theorem d2_27 : decode prog_53_method_7_code 27 = .ok (.getstatic 10, 3) := by decide +kernel
theorem d2_30 : decode prog_53_method_7_code 30 = .ok (.if_acmp .ne 10, 3) := by decide +kernel
theorem d2_33 : decode prog_53_method_7_code 33 = .ok (.getstatic 10, 3) := by decide +kernel
theorem d2_36 : decode prog_53_method_7_code 36 = .ok (.astore_n 2, 1) := by decide +kernel
theorem d2_37 : decode prog_53_method_7_code 37 = .ok (.goto 21, 3) := by decide +kernel
theorem d2_40 : decode prog_53_method_7_code 40 = .ok (.aload_n 1, 1) := by decide +kernel
theorem d2_41 : decode prog_53_method_7_code 41 = .ok (.getstatic 3, 3) := by decide +kernel
theorem d2_44 : decode prog_53_method_7_code 44 = .ok (.if_acmp .ne 10, 3) := by decide +kernel
theorem d2_47 : decode prog_53_method_7_code 47 = .ok (.getstatic 3, 3) := by decide +kernel
theorem d2_50 : decode prog_53_method_7_code 50 = .ok (.astore_n 2, 1) := by decide +kernel
theorem d2_51 : decode prog_53_method_7_code 51 = .ok (.goto 7, 3) := by decide +kernel
theorem d2_54 : decode prog_53_method_7_code 54 = .ok (.getstatic 7, 3) := by decide +kernel
theorem d2_57 : decode prog_53_method_7_code 57 = .ok (.astore_n 2, 1) := by decide +kernel
theorem ef_rm2 (m : MethodId) (x0 : Addr) (x1 : Addr) : entryFrame m #[(.ref x0), (.ref x1)] 3 = mkF m 0 #[.val (.ref x0), .val (.ref x1), .unset] [] := by first | (simp [entryFrame, mkF, argsToLocals, Value.category]; done) | rfl
def Q_rm2 (Z : State) (a1 : Addr) (a2 : Addr) (wF : Addr) (wU : Addr) (wT : Addr) (wX : Addr) (h0 : Heap) (n0 : Nat) (v : Option Value) (h : Heap) (L : List Loc) : Prop := v = some (.ref (own_from a1 a2 wF wU wT wX)) ∧ Fr n0 L ∧ h = h0
set_option maxRecDepth 65536 in
set_option maxHeartbeats 40000000 in
theorem rm2 (l : Launch) (Z : State) (a0 : Array Value) (hw : ∀ d ∈ tables_1, d.before a0 Z = true) (ws : List Jvm.Cond) (a1 : Addr) (a2 : Addr) (wF : Addr) (wU : Addr) (wT : Addr) (wX : Addr) (h0 : Heap) (n0 : Nat) (Z0 : n0 ≤ h0.size) (O0 : Old Z n0 h0) (SF : Sta Z Z.heap "com/example/lichen/lichen/model/TruthValue" "FALSE" "Lcom/example/lichen/lichen/model/TruthValue;" (.ref wF)) (SU : Sta Z Z.heap "com/example/lichen/lichen/model/TruthValue" "UNDEFINED" "Lcom/example/lichen/lichen/model/TruthValue;" (.ref wU)) (ST : Sta Z Z.heap "com/example/lichen/lichen/model/TruthValue" "TRUE" "Lcom/example/lichen/lichen/model/TruthValue;" (.ref wT)) (SX : Sta Z Z.heap "com/example/lichen/lichen/model/TruthValue" "INCONSISTENT" "Lcom/example/lichen/lichen/model/TruthValue;" (.ref wX)) (n1 : ¬ a1 = wX) (n2 : ¬ a2 = wX) :
    MetFree l (⟨"com/example/lichen/lichen/model/TruthValue", "fromDoubledProgram", "(Lcom/example/lichen/lichen/model/TruthValue;Lcom/example/lichen/lichen/model/TruthValue;)Lcom/example/lichen/lichen/model/TruthValue;"⟩ : MethodName) (head1 (Jvm.Cond.code (⟨"com/example/lichen/lichen/model/TruthValue", "fromDoubledProgram", "(Lcom/example/lichen/lichen/model/TruthValue;Lcom/example/lichen/lichen/model/TruthValue;)Lcom/example/lichen/lichen/model/TruthValue;"⟩ : MethodName) prog_53_method_7_code 3 (some (.object "com/example/lichen/lichen/model/TruthValue")) :: ws) ({ frames := 1, cells := 0, slots := 0, locals := 13 } : Room)) (fun a U => a = #[(.ref a1), (.ref a2)] ∧ Z.Warmed39 U.vm ∧ U.heap = h0) (fun _ _ _ _ _ => True) (fun _ U o U' => ∃ v L, o = .returned v ∧ Q_rm2 Z a1 a2 wF wU wT wX h0 n0 v U'.heap L ∧ FrameEnd U o U' L ({ frames := 1, cells := 0, slots := 0, locals := 13 } : Room).cells ({ frames := 1, cells := 0, slots := 0, locals := 13 } : Room).slots) := by
  refine MetFree.of_bodySF (plainFor_of_name pn_1) hisR ?_
  intro p e s m args below meth c s₁ Bd hml0 hP hK
  obtain ⟨rfl, hZ, hh⟩ := hP
  have hx := Bd.exec
  have hby := Bd.bytes
  have hml : c.maxLocals = 3 := hml0
  have hown : s.vm.findClass "com/example/lichen/lichen/model/TruthValue" = some m.cls := findClass_of_methodNamed Bd.named
  have hnm := (name_of_methodNamed Bd.named Bd.method).1
  have X0 : Stand p l e ({ frames := 1, cells := 0, slots := 0, locals := 13 } : Room) s m #[(.ref a1), (.ref a2)] below meth c s₁ [] 0 0 := Stand.of_body Bd
  have e0 : s₁.heap = h0 := by rw [← hh, Bd.state]; rfl
  have N0 := Fr.nil n0
  have pre0 : ∀ t, Steps p.tables e below (s₁.setTop (mkF m 0 #[.val (.ref a1), .val (.ref a2), .unset] [])) t → Steps p.tables e below (s₁.setTop (entryFrame m #[(.ref a1), (.ref a2)] 3)) t := fun t k => castTop (ef_rm2 m a1 a2) k
  obtain ⟨_, _, ⟨T1, L1, k1, n1⟩, -, X1, ⟨Lc1, hQ1, l1, y1, z1⟩, st1⟩ := Jvm.LawKit.callS X0 hx (y := (⟨"com/example/lichen/lichen/model/TruthValue", "requireInTruthOrder", "(Lcom/example/lichen/lichen/model/TruthValue;Lcom/example/lichen/lichen/model/TruthValue;)V"⟩ : MethodName)) hown (mvT hZ (hw _ (List.mem_of_getElem? (i := 12) rfl))) (mvT hZ (hw _ (List.mem_of_getElem? (i := 13) rfl))) (mvT hZ (hw _ (List.mem_of_getElem? (i := 7) rfl))) (mvT hZ (hw _ (List.mem_of_getElem? (i := 14) rfl))) (by decide) (backOf (W := 0) (rm3 l Z a0 hw [] a1 a2 wF wU wT wX h0 n0 Z0 O0 SF SU ST SX n1 n2) hZ (hw _ (List.mem_of_getElem? (i := 14) rfl)) (hw _ (List.mem_of_getElem? (i := 7) rfl)) (by decide) (by decide)) (g := (mkF m 2 #[.val (.ref a1), .val (.ref a2), .unset] [(.ref a2), (.ref a1)])) rfl (by rw [hml]; rfl) (argsL := [(.ref a1), (.ref a2)]) (rest := []) (lenOf pd_0 rfl) rfl (by show 2 * 0 + _ ≤ _; exact Nat.le_of_eq rfl) (hb hby d2_2) (fun _ _ => ⟨rfl, e0, (by decide : 0 + 0 ≤ _), (by decide : 0 + 0 ≤ _)⟩)
  dsimp only [Pt.U, Pt.locs, Pt.cells, Pt.slots] at X1 l1 y1 z1 st1 hQ1
  subst l1 y1 z1
  obtain ⟨rfl, Nq1, q1_0⟩ := hQ1
  have N2 := Fr.app N0 Nq1
  obtain ⟨T3, X3, e3, st3⟩ := getS2 X1 hx hZ hown (host := "") (Or.inl (hw _ (List.mem_of_getElem? (i := 17) rfl))) Via.refl q1_0 (ST.ext O0.2) (g := (mkF m 6 #[.val (.ref a1), .val (.ref a2), .unset] [(.ref a1)])) rfl (hb hby d2_6)
  have pre4 : ∀ t, Steps p.tables e below (T3.setTop (mkF m 9 #[.val (.ref a1), .val (.ref a2), .unset] [(.ref wT), (.ref a1)])) t → Steps p.tables e below (s₁.setTop (entryFrame m #[(.ref a1), (.ref a2)] 3)) t := by
    intro t k
    refine pre0 t ?_
    refine XS.aloadN X0.here hx rfl (hb hby d2_0) rfl rfl ?_
    show Steps _ _ _ (s₁.setTop (mkF m 1 #[.val (.ref a1), .val (.ref a2), .unset] [(.ref a1)])) _
    refine XS.aloadN X0.here hx rfl (hb hby d2_1) rfl rfl ?_
    show Steps _ _ _ (s₁.setTop (mkF m 2 #[.val (.ref a1), .val (.ref a2), .unset] [(.ref a2), (.ref a1)])) _
    refine st1 _ ?_
    show Steps _ _ _ (T1.setTop (mkF m 5 #[.val (.ref a1), .val (.ref a2), .unset] [])) _
    refine XS.aloadN X1.here hx rfl (hb hby d2_5) rfl rfl ?_
    show Steps _ _ _ (T1.setTop (mkF m 6 #[.val (.ref a1), .val (.ref a2), .unset] [(.ref a1)])) _
    refine st3 _ ?_
    show Steps _ _ _ (T3.setTop (mkF m 9 #[.val (.ref a1), .val (.ref a2), .unset] [(.ref wT), (.ref a1)])) _
    exact k
  by_cases hT : a1 = wT
  · obtain ⟨T5, X5, e5, st5⟩ := getS2 X3 hx hZ hown (host := "") (Or.inl (hw _ (List.mem_of_getElem? (i := 19) rfl))) Via.refl e3 (SF.ext O0.2) (g := (mkF m 13 #[.val (.ref a1), .val (.ref a2), .unset] [(.ref a2)])) rfl (hb hby d2_13)
    have pre6 : ∀ t, Steps p.tables e below (T5.setTop (mkF m 16 #[.val (.ref a1), .val (.ref a2), .unset] [(.ref wF), (.ref a2)])) t → Steps p.tables e below (s₁.setTop (entryFrame m #[(.ref a1), (.ref a2)] 3)) t := by
      intro t k
      refine pre4 t ?_
      refine Jvm.RoadKit.acmp (g := (mkF m 9 #[.val (.ref a1), .val (.ref a2), .unset] [(.ref wT), (.ref a1)])) X3 hx rfl rfl rfl (pc0 := 9) (pc' := 12) (same := true) rfl (hb hby d2_9) rfl (decide_eq_true (congrArg Value.ref hT)) (by decide) (by decide) ?_
      show Steps _ _ _ (T3.setTop (mkF m 12 #[.val (.ref a1), .val (.ref a2), .unset] [])) _
      refine XS.aloadN X3.here hx rfl (hb hby d2_12) rfl rfl ?_
      show Steps _ _ _ (T3.setTop (mkF m 13 #[.val (.ref a1), .val (.ref a2), .unset] [(.ref a2)])) _
      refine st5 _ ?_
      show Steps _ _ _ (T5.setTop (mkF m 16 #[.val (.ref a1), .val (.ref a2), .unset] [(.ref wF), (.ref a2)])) _
      exact k
    by_cases hc7 : a2 = wF
    · obtain ⟨T8, X8, e8, st8⟩ := getS2 X5 hx hZ hown (host := "") (Or.inl (hw _ (List.mem_of_getElem? (i := 15) rfl))) Via.refl e5 (SX.ext O0.2) (g := (mkF m 19 #[.val (.ref a1), .val (.ref a2), .unset] [])) rfl (hb hby d2_19)
      have pre9 : ∀ t, Steps p.tables e below (T8.setTop (mkF m 59 #[.val (.ref a1), .val (.ref a2), .val (.ref wX)] [(.ref wX)])) t → Steps p.tables e below (s₁.setTop (entryFrame m #[(.ref a1), (.ref a2)] 3)) t := by
        intro t k
        refine pre6 t ?_
        refine Jvm.RoadKit.acmp (g := (mkF m 16 #[.val (.ref a1), .val (.ref a2), .unset] [(.ref wF), (.ref a2)])) X5 hx rfl rfl rfl (pc0 := 16) (pc' := 19) (same := true) rfl (hb hby d2_16) rfl (decide_eq_true (congrArg Value.ref hc7)) (by decide) (by decide) ?_
        show Steps _ _ _ (T5.setTop (mkF m 19 #[.val (.ref a1), .val (.ref a2), .unset] [])) _
        refine st8 _ ?_
        show Steps _ _ _ (T8.setTop (mkF m 22 #[.val (.ref a1), .val (.ref a2), .unset] [(.ref wX)])) _
        refine XS.astoreN X8.here hx rfl (hb hby d2_22) rfl rfl (l' := #[.val (.ref a1), .val (.ref a2), .val (.ref wX)]) rfl ?_
        show Steps _ _ _ (T8.setTop (mkF m 23 #[.val (.ref a1), .val (.ref a2), .val (.ref wX)] [])) _
        refine XS.goto X8.here hx rfl (pc0 := 23) (pc' := 58) rfl (hb hby d2_23) (by decide) (by decide) ?_
        show Steps _ _ _ (T8.setTop (mkF m 58 #[.val (.ref a1), .val (.ref a2), .val (.ref wX)] [])) _
        refine XS.aloadN X8.here hx rfl (hb hby d2_58) rfl rfl ?_
        show Steps _ _ _ (T8.setTop (mkF m 59 #[.val (.ref a1), .val (.ref a2), .val (.ref wX)] [(.ref wX)])) _
        exact k
      obtain ⟨fs, hr, hrun, hended, hW, hsame⟩ := X8.leave (v := some (.ref wX)) (fun h => by rw [Bd.returns] at h; cases h)
      refine ⟨_, _, pre9 _ ?_, hrun, hended, _, _, rfl, ?_, ⟨_, rfl⟩, hW, hsame.mono (by decide) (by decide)⟩
      · exact X8.areturnOut hx (w := (.ref wX)) rfl Bd.returns rfl (hb hby d2_59) hr
      · show Q_rm2 Z a1 a2 wF wU wT wX h0 n0 _ T8.heap _
        rw [e8]
        have hv10 : wX = (own_from a1 a2 wF wU wT wX) := by unfold own_from; simp only [if_pos hT, if_pos hc7]
        exact ⟨(congrArg (fun z => some (Value.ref z)) hv10), N2, rfl⟩
    · obtain ⟨T11, X11, e11, st11⟩ := getS2 X5 hx hZ hown (host := "") (Or.inl (hw _ (List.mem_of_getElem? (i := 17) rfl))) Via.refl e5 (ST.ext O0.2) (g := (mkF m 27 #[.val (.ref a1), .val (.ref a2), .unset] [(.ref a1)])) rfl (hb hby d2_27)
      have hc12 : a1 = wT := hT
      obtain ⟨T13, X13, e13, st13⟩ := getS2 X11 hx hZ hown (host := "") (Or.inl (hw _ (List.mem_of_getElem? (i := 17) rfl))) Via.refl e11 (ST.ext O0.2) (g := (mkF m 33 #[.val (.ref a1), .val (.ref a2), .unset] [])) rfl (hb hby d2_33)
      have pre14 : ∀ t, Steps p.tables e below (T13.setTop (mkF m 59 #[.val (.ref a1), .val (.ref a2), .val (.ref wT)] [(.ref wT)])) t → Steps p.tables e below (s₁.setTop (entryFrame m #[(.ref a1), (.ref a2)] 3)) t := by
        intro t k
        refine pre6 t ?_
        refine Jvm.RoadKit.acmp (g := (mkF m 16 #[.val (.ref a1), .val (.ref a2), .unset] [(.ref wF), (.ref a2)])) X5 hx rfl rfl rfl (pc0 := 16) (pc' := 26) (same := false) rfl (hb hby d2_16) rfl (decide_eq_false fun q => hc7 (Value.ref.inj q)) (by decide) (by decide) ?_
        show Steps _ _ _ (T5.setTop (mkF m 26 #[.val (.ref a1), .val (.ref a2), .unset] [])) _
        refine XS.aloadN X5.here hx rfl (hb hby d2_26) rfl rfl ?_
        show Steps _ _ _ (T5.setTop (mkF m 27 #[.val (.ref a1), .val (.ref a2), .unset] [(.ref a1)])) _
        refine st11 _ ?_
        show Steps _ _ _ (T11.setTop (mkF m 30 #[.val (.ref a1), .val (.ref a2), .unset] [(.ref wT), (.ref a1)])) _
        refine Jvm.RoadKit.acmp (g := (mkF m 30 #[.val (.ref a1), .val (.ref a2), .unset] [(.ref wT), (.ref a1)])) X11 hx rfl rfl rfl (pc0 := 30) (pc' := 33) (same := true) rfl (hb hby d2_30) rfl (decide_eq_true (congrArg Value.ref hc12)) (by decide) (by decide) ?_
        show Steps _ _ _ (T11.setTop (mkF m 33 #[.val (.ref a1), .val (.ref a2), .unset] [])) _
        refine st13 _ ?_
        show Steps _ _ _ (T13.setTop (mkF m 36 #[.val (.ref a1), .val (.ref a2), .unset] [(.ref wT)])) _
        refine XS.astoreN X13.here hx rfl (hb hby d2_36) rfl rfl (l' := #[.val (.ref a1), .val (.ref a2), .val (.ref wT)]) rfl ?_
        show Steps _ _ _ (T13.setTop (mkF m 37 #[.val (.ref a1), .val (.ref a2), .val (.ref wT)] [])) _
        refine XS.goto X13.here hx rfl (pc0 := 37) (pc' := 58) rfl (hb hby d2_37) (by decide) (by decide) ?_
        show Steps _ _ _ (T13.setTop (mkF m 58 #[.val (.ref a1), .val (.ref a2), .val (.ref wT)] [])) _
        refine XS.aloadN X13.here hx rfl (hb hby d2_58) rfl rfl ?_
        show Steps _ _ _ (T13.setTop (mkF m 59 #[.val (.ref a1), .val (.ref a2), .val (.ref wT)] [(.ref wT)])) _
        exact k
      obtain ⟨fs, hr, hrun, hended, hW, hsame⟩ := X13.leave (v := some (.ref wT)) (fun h => by rw [Bd.returns] at h; cases h)
      refine ⟨_, _, pre14 _ ?_, hrun, hended, _, _, rfl, ?_, ⟨_, rfl⟩, hW, hsame.mono (by decide) (by decide)⟩
      · exact X13.areturnOut hx (w := (.ref wT)) rfl Bd.returns rfl (hb hby d2_59) hr
      · show Q_rm2 Z a1 a2 wF wU wT wX h0 n0 _ T13.heap _
        rw [e13]
        have hv15 : wT = (own_from a1 a2 wF wU wT wX) := by unfold own_from; simp only [if_pos hT, if_neg hc7]
        exact ⟨(congrArg (fun z => some (Value.ref z)) hv15), N2, rfl⟩
  · obtain ⟨T16, X16, e16, st16⟩ := getS2 X3 hx hZ hown (host := "") (Or.inl (hw _ (List.mem_of_getElem? (i := 17) rfl))) Via.refl e3 (ST.ext O0.2) (g := (mkF m 27 #[.val (.ref a1), .val (.ref a2), .unset] [(.ref a1)])) rfl (hb hby d2_27)
    have hc17 : ¬ (a1 = wT) := hT
    obtain ⟨T18, X18, e18, st18⟩ := getS2 X16 hx hZ hown (host := "") (Or.inl (hw _ (List.mem_of_getElem? (i := 19) rfl))) Via.refl e16 (SF.ext O0.2) (g := (mkF m 41 #[.val (.ref a1), .val (.ref a2), .unset] [(.ref a2)])) rfl (hb hby d2_41)
    have pre19 : ∀ t, Steps p.tables e below (T18.setTop (mkF m 44 #[.val (.ref a1), .val (.ref a2), .unset] [(.ref wF), (.ref a2)])) t → Steps p.tables e below (s₁.setTop (entryFrame m #[(.ref a1), (.ref a2)] 3)) t := by
      intro t k
      refine pre4 t ?_
      refine Jvm.RoadKit.acmp (g := (mkF m 9 #[.val (.ref a1), .val (.ref a2), .unset] [(.ref wT), (.ref a1)])) X3 hx rfl rfl rfl (pc0 := 9) (pc' := 26) (same := false) rfl (hb hby d2_9) rfl (decide_eq_false fun q => hT (Value.ref.inj q)) (by decide) (by decide) ?_
      show Steps _ _ _ (T3.setTop (mkF m 26 #[.val (.ref a1), .val (.ref a2), .unset] [])) _
      refine XS.aloadN X3.here hx rfl (hb hby d2_26) rfl rfl ?_
      show Steps _ _ _ (T3.setTop (mkF m 27 #[.val (.ref a1), .val (.ref a2), .unset] [(.ref a1)])) _
      refine st16 _ ?_
      show Steps _ _ _ (T16.setTop (mkF m 30 #[.val (.ref a1), .val (.ref a2), .unset] [(.ref wT), (.ref a1)])) _
      refine Jvm.RoadKit.acmp (g := (mkF m 30 #[.val (.ref a1), .val (.ref a2), .unset] [(.ref wT), (.ref a1)])) X16 hx rfl rfl rfl (pc0 := 30) (pc' := 40) (same := false) rfl (hb hby d2_30) rfl (decide_eq_false fun q => hc17 (Value.ref.inj q)) (by decide) (by decide) ?_
      show Steps _ _ _ (T16.setTop (mkF m 40 #[.val (.ref a1), .val (.ref a2), .unset] [])) _
      refine XS.aloadN X16.here hx rfl (hb hby d2_40) rfl rfl ?_
      show Steps _ _ _ (T16.setTop (mkF m 41 #[.val (.ref a1), .val (.ref a2), .unset] [(.ref a2)])) _
      refine st18 _ ?_
      show Steps _ _ _ (T18.setTop (mkF m 44 #[.val (.ref a1), .val (.ref a2), .unset] [(.ref wF), (.ref a2)])) _
      exact k
    by_cases hc20 : a2 = wF
    · obtain ⟨T21, X21, e21, st21⟩ := getS2 X18 hx hZ hown (host := "") (Or.inl (hw _ (List.mem_of_getElem? (i := 19) rfl))) Via.refl e18 (SF.ext O0.2) (g := (mkF m 47 #[.val (.ref a1), .val (.ref a2), .unset] [])) rfl (hb hby d2_47)
      have pre22 : ∀ t, Steps p.tables e below (T21.setTop (mkF m 59 #[.val (.ref a1), .val (.ref a2), .val (.ref wF)] [(.ref wF)])) t → Steps p.tables e below (s₁.setTop (entryFrame m #[(.ref a1), (.ref a2)] 3)) t := by
        intro t k
        refine pre19 t ?_
        refine Jvm.RoadKit.acmp (g := (mkF m 44 #[.val (.ref a1), .val (.ref a2), .unset] [(.ref wF), (.ref a2)])) X18 hx rfl rfl rfl (pc0 := 44) (pc' := 47) (same := true) rfl (hb hby d2_44) rfl (decide_eq_true (congrArg Value.ref hc20)) (by decide) (by decide) ?_
        show Steps _ _ _ (T18.setTop (mkF m 47 #[.val (.ref a1), .val (.ref a2), .unset] [])) _
        refine st21 _ ?_
        show Steps _ _ _ (T21.setTop (mkF m 50 #[.val (.ref a1), .val (.ref a2), .unset] [(.ref wF)])) _
        refine XS.astoreN X21.here hx rfl (hb hby d2_50) rfl rfl (l' := #[.val (.ref a1), .val (.ref a2), .val (.ref wF)]) rfl ?_
        show Steps _ _ _ (T21.setTop (mkF m 51 #[.val (.ref a1), .val (.ref a2), .val (.ref wF)] [])) _
        refine XS.goto X21.here hx rfl (pc0 := 51) (pc' := 58) rfl (hb hby d2_51) (by decide) (by decide) ?_
        show Steps _ _ _ (T21.setTop (mkF m 58 #[.val (.ref a1), .val (.ref a2), .val (.ref wF)] [])) _
        refine XS.aloadN X21.here hx rfl (hb hby d2_58) rfl rfl ?_
        show Steps _ _ _ (T21.setTop (mkF m 59 #[.val (.ref a1), .val (.ref a2), .val (.ref wF)] [(.ref wF)])) _
        exact k
      obtain ⟨fs, hr, hrun, hended, hW, hsame⟩ := X21.leave (v := some (.ref wF)) (fun h => by rw [Bd.returns] at h; cases h)
      refine ⟨_, _, pre22 _ ?_, hrun, hended, _, _, rfl, ?_, ⟨_, rfl⟩, hW, hsame.mono (by decide) (by decide)⟩
      · exact X21.areturnOut hx (w := (.ref wF)) rfl Bd.returns rfl (hb hby d2_59) hr
      · show Q_rm2 Z a1 a2 wF wU wT wX h0 n0 _ T21.heap _
        rw [e21]
        have hv23 : wF = (own_from a1 a2 wF wU wT wX) := by unfold own_from; simp only [if_neg hT, if_pos hc20]
        exact ⟨(congrArg (fun z => some (Value.ref z)) hv23), N2, rfl⟩
    · obtain ⟨T24, X24, e24, st24⟩ := getS2 X18 hx hZ hown (host := "") (Or.inl (hw _ (List.mem_of_getElem? (i := 23) rfl))) Via.refl e18 (SU.ext O0.2) (g := (mkF m 54 #[.val (.ref a1), .val (.ref a2), .unset] [])) rfl (hb hby d2_54)
      have pre25 : ∀ t, Steps p.tables e below (T24.setTop (mkF m 59 #[.val (.ref a1), .val (.ref a2), .val (.ref wU)] [(.ref wU)])) t → Steps p.tables e below (s₁.setTop (entryFrame m #[(.ref a1), (.ref a2)] 3)) t := by
        intro t k
        refine pre19 t ?_
        refine Jvm.RoadKit.acmp (g := (mkF m 44 #[.val (.ref a1), .val (.ref a2), .unset] [(.ref wF), (.ref a2)])) X18 hx rfl rfl rfl (pc0 := 44) (pc' := 54) (same := false) rfl (hb hby d2_44) rfl (decide_eq_false fun q => hc20 (Value.ref.inj q)) (by decide) (by decide) ?_
        show Steps _ _ _ (T18.setTop (mkF m 54 #[.val (.ref a1), .val (.ref a2), .unset] [])) _
        refine st24 _ ?_
        show Steps _ _ _ (T24.setTop (mkF m 57 #[.val (.ref a1), .val (.ref a2), .unset] [(.ref wU)])) _
        refine XS.astoreN X24.here hx rfl (hb hby d2_57) rfl rfl (l' := #[.val (.ref a1), .val (.ref a2), .val (.ref wU)]) rfl ?_
        show Steps _ _ _ (T24.setTop (mkF m 58 #[.val (.ref a1), .val (.ref a2), .val (.ref wU)] [])) _
        refine XS.aloadN X24.here hx rfl (hb hby d2_58) rfl rfl ?_
        show Steps _ _ _ (T24.setTop (mkF m 59 #[.val (.ref a1), .val (.ref a2), .val (.ref wU)] [(.ref wU)])) _
        exact k
      obtain ⟨fs, hr, hrun, hended, hW, hsame⟩ := X24.leave (v := some (.ref wU)) (fun h => by rw [Bd.returns] at h; cases h)
      refine ⟨_, _, pre25 _ ?_, hrun, hended, _, _, rfl, ?_, ⟨_, rfl⟩, hW, hsame.mono (by decide) (by decide)⟩
      · exact X24.areturnOut hx (w := (.ref wU)) rfl Bd.returns rfl (hb hby d2_59) hr
      · show Q_rm2 Z a1 a2 wF wU wT wX h0 n0 _ T24.heap _
        rw [e24]
        have hv26 : wU = (own_from a1 a2 wF wU wT wX) := by unfold own_from; simp only [if_neg hT, if_neg hc20]
        exact ⟨(congrArg (fun z => some (Value.ref z)) hv26), N2, rfl⟩
def own_r3 (p : Int32) : Int32 := ((p &&& (2147483647 : Int32)) - ((p &&& (2147483647 : Int32)) / (3 : Int32)) * (3 : Int32))
theorem own_r3c (p : Int32) : own_r3 p = 0 ∨ own_r3 p = 1 ∨ own_r3 p = 2 := by
  have m := c_mask p (2147483647 : Int32) 31 (by decide) (by decide)
  have e : (own_r3 p).toInt = ((p &&& (2147483647 : Int32))).toInt % 3 := by
    unfold own_r3
    generalize (p &&& (2147483647 : Int32)) = s at *
    have d := (c_idiv s 3 3 rfl (by decide)).1 (by omega)
    have mu := c_imul (s / 3) 3
    have mr := rng32 (s / 3 * 3)
    have l3 : (3 : Int32).toInt = 3 := rfl
    rw [l3, d] at mu
    have su := c_isub s (s / 3 * 3)
    have sr := rng32 (s - s / 3 * 3)
    have r := rng32 s
    omega
  have t : (own_r3 p).toInt = 0 ∨ (own_r3 p).toInt = 1 ∨ (own_r3 p).toInt = 2 := by omega
  rcases t with t | t | t
  · exact Or.inl (Int32.toInt_inj.mp t)
  · exact Or.inr (Or.inl (Int32.toInt_inj.mp t))
  · exact Or.inr (Or.inr (Int32.toInt_inj.mp t))
def own_tab (a c : Int32) : Int32 := if a = 2 then (if c = 0 then 3 else 2) else (if c = 0 then 0 else 1)
theorem own_law (x y : Int32) (wF wU wT wX : Addr) (h1 : wF ≠ wU) (h2 : wF ≠ wT) (h3 : wF ≠ wX) (h4 : wU ≠ wT) (h5 : wU ≠ wX) (h6 : wT ≠ wX) :
    own_from (own_pick (own_r3 x) wF wU wT wX) (own_pick (own_r3 y) wF wU wT wX) wF wU wT wX = own_pick (own_tab (own_r3 x) (own_r3 y)) wF wU wT wX := by
  have p0 : own_pick 0 wF wU wT wX = wF := rfl
  have p1 : own_pick 1 wF wU wT wX = wU := rfl
  have p2 : own_pick 2 wF wU wT wX = wT := rfl
  have p3 : own_pick 3 wF wU wT wX = wX := rfl
  have k1 := Ne.symm h1
  have k2 := Ne.symm h2
  have k4 := Ne.symm h4
  rcases own_r3c x with e | e | e <;> rcases own_r3c y with e' | e' | e' <;> rw [e, e'] <;> simp only [p0, p1, p2, own_from, h1, h2, h3, h4, h5, h6, k1, k2, k4, if_true, if_false] <;> rfl
theorem own_nX (x : Int32) (wF wU wT wX : Addr) (h3 : wF ≠ wX) (h5 : wU ≠ wX) (h6 : wT ≠ wX) : ¬ own_pick (own_r3 x) wF wU wT wX = wX := by
  rcases own_r3c x with e | e | e <;> rw [e]
  · exact h3
  · exact h5
  · exact h6
theorem own_in (x y : Int32) : ¬ (own_r3 x * 3 + own_r3 y) < 0 ∧ (own_r3 x * 3 + own_r3 y) < 9 := by
  rcases own_r3c x with e | e | e <;> rcases own_r3c y with e' | e' | e' <;> rw [e, e'] <;> decide
theorem own_at (x y : Int32) : ([(.int (0 : Int32)), (.int (1 : Int32)), (.int (1 : Int32)), (.int (0 : Int32)), (.int (1 : Int32)), (.int (1 : Int32)), (.int (3 : Int32)), (.int (2 : Int32)), (.int (2 : Int32))] : List Value).getD (own_r3 x * 3 + own_r3 y).toNatClampNeg (.int (0 : Int32)) = .int (own_tab (own_r3 x) (own_r3 y)) := by
  rcases own_r3c x with e | e | e <;> rcases own_r3c y with e' | e' | e' <;> rw [e, e'] <;> rfl
theorem pd_1 : parseMethodDescriptor "(I)Lcom/example/lichen/lichen/model/TruthValue;" = some ⟨[.int], some (.object "com/example/lichen/lichen/model/TruthValue")⟩ := by decide +kernel
theorem pd_2 : parseMethodDescriptor "(Lcom/example/lichen/lichen/model/TruthValue;Lcom/example/lichen/lichen/model/TruthValue;)Lcom/example/lichen/lichen/model/TruthValue;" = some ⟨[(.object "com/example/lichen/lichen/model/TruthValue"), (.object "com/example/lichen/lichen/model/TruthValue")], some (.object "com/example/lichen/lichen/model/TruthValue")⟩ := by decide +kernel
theorem ef_rm0 (m : MethodId) (x0 : Int32) (x1 : Int32) : entryFrame m #[(.int x0), (.int x1)] maxLocals = mkF m 0 #[.val (.int x0), .val (.int x1), .unset, .unset, .unset, .unset] [] := by first | (simp [entryFrame, mkF, argsToLocals, Value.category, maxLocals]; done) | rfl
def Q_rm0 (Z : State) (p1 : Int32) (p2 : Int32) (wF : Addr) (wU : Addr) (wT : Addr) (wX : Addr) (h0 : Heap) (n0 : Nat) (v : Option Value) (h : Heap) (L : List Loc) : Prop := v = some (.int (1 : Int32)) ∧ Fr n0 L ∧ Keep h0 h []
set_option maxRecDepth 65536 in
set_option maxHeartbeats 40000000 in
theorem rm0 (l : Launch) (Z : State) (a0 : Array Value) (hw : ∀ d ∈ tables_1, d.before a0 Z = true) (ws : List Jvm.Cond) (p1 : Int32) (p2 : Int32) (wF : Addr) (wU : Addr) (wT : Addr) (wX : Addr) (h0 : Heap) (n0 : Nat) (Z0 : n0 ≤ h0.size) (O0 : Old Z n0 h0) (SF : Sta Z Z.heap "com/example/lichen/lichen/model/TruthValue" "FALSE" "Lcom/example/lichen/lichen/model/TruthValue;" (.ref wF)) (SU : Sta Z Z.heap "com/example/lichen/lichen/model/TruthValue" "UNDEFINED" "Lcom/example/lichen/lichen/model/TruthValue;" (.ref wU)) (ST : Sta Z Z.heap "com/example/lichen/lichen/model/TruthValue" "TRUE" "Lcom/example/lichen/lichen/model/TruthValue;" (.ref wT)) (SX : Sta Z Z.heap "com/example/lichen/lichen/model/TruthValue" "INCONSISTENT" "Lcom/example/lichen/lichen/model/TruthValue;" (.ref wX)) (qn1 : wF ≠ wU) (qn2 : wF ≠ wT) (qn3 : wF ≠ wX) (qn4 : wU ≠ wT) (qn5 : wU ≠ wX) (qn6 : wT ≠ wX) :
    MetFree l x (head1 (Jvm.Cond.code x code maxLocals ret :: ws) room_1) (fun a U => a = #[(.int p1), (.int p2)] ∧ Z.Warmed39 U.vm ∧ U.heap = h0) (fun _ _ _ _ _ => True) (fun _ U o U' => ∃ v L, o = .returned v ∧ Q_rm0 Z p1 p2 wF wU wT wX h0 n0 v U'.heap L ∧ FrameEnd U o U' L room_1.cells room_1.slots) := by
  refine MetFree.of_bodySF (plainFor_of_name pn_0) hisR ?_
  intro p e s m args below meth c s₁ Bd hml0 hP hK
  obtain ⟨rfl, hZ, hh⟩ := hP
  have hx := Bd.exec
  have hby := Bd.bytes
  have hml : c.maxLocals = 6 := hml0
  have hown : s.vm.findClass "com/example/lichen/lichen/model/TruthValueFromDoubledProgramPinLaw" = some m.cls := findClass_of_methodNamed Bd.named
  have hnm := (name_of_methodNamed Bd.named Bd.method).1
  have X0 : Stand p l e room_1 s m #[(.int p1), (.int p2)] below meth c s₁ [] 0 0 := Stand.of_body Bd
  have e0 : s₁.heap = h0 := by rw [← hh, Bd.state]; rfl
  have N0 := Fr.nil n0
  have pre0 : ∀ t, Steps p.tables e below (s₁.setTop (mkF m 0 #[.val (.int p1), .val (.int p2), .unset, .unset, .unset, .unset] [])) t → Steps p.tables e below (s₁.setTop (entryFrame m #[(.int p1), (.int p2)] maxLocals)) t := fun t k => castTop (ef_rm0 m p1 p2) k
  obtain ⟨T1, h1, k1, X1, e1, E1, A1, st1⟩ := newP X0 hx hZ (hw _ (List.mem_of_getElem? (i := 1) rfl)) e0 (g := (mkF m 16 #[.val (.int p1), .val (.int p2), .val (.int ((p1 &&& (2147483647 : Int32)) - ((p1 &&& (2147483647 : Int32)) / (3 : Int32)) * (3 : Int32))), .val (.int ((p2 &&& (2147483647 : Int32)) - ((p2 &&& (2147483647 : Int32)) / (3 : Int32)) * (3 : Int32))), .unset, .unset] [(.int (9 : Int32))])) rfl (hb hby at_16) rfl (by decide) (cap := 9) (by decide) (by decide) (by decide) (by decide)
  obtain ⟨b1, g1⟩ : ∃ z, z = h0.size := ⟨_, rfl⟩
  rw [← g1] at A1 st1
  have ge2 : n0 ≤ b1 := Nat.le_trans Z0 (Nat.le_of_eq g1.symm)
  have sz3 : h0.size ≤ b1 := Nat.le_trans (Keep.refl h0 []).1 (Nat.le_of_eq g1.symm)
  have KC4 : Keep h0 h1 [] := (Keep.refl h0 []).ext E1
  have V1 : Arv Z h1 b1 k1 .int (9 : Int32) [(.int (0 : Int32)), (.int (0 : Int32)), (.int (0 : Int32)), (.int (0 : Int32)), (.int (0 : Int32)), (.int (0 : Int32)), (.int (0 : Int32)), (.int (0 : Int32)), (.int (0 : Int32))] (.int (0 : Int32)) := (Arv.new A1 (by decide)).pad (pad_rep [] (.int (0 : Int32)) 9)
  obtain ⟨c5, Arc5, Aqc5, Asc5, Anc5, Ahc5, Agc5⟩ := id V1
  have hin6 : ¬ ((0 : Int32) < 0 ∨ c5.slots.size ≤ ((0 : Int32)).toNatClampNeg) := inb_of Asc5 ⟨by decide, by decide⟩
  obtain ⟨T7, h7, X7, e7, W7, st7⟩ := stI X1 hx hZ e1 Arc5 (j := (0 : Int32)) hin6 (g := (mkF m 21 #[.val (.int p1), .val (.int p2), .val (.int ((p1 &&& (2147483647 : Int32)) - ((p1 &&& (2147483647 : Int32)) / (3 : Int32)) * (3 : Int32))), .val (.int ((p2 &&& (2147483647 : Int32)) - ((p2 &&& (2147483647 : Int32)) / (3 : Int32)) * (3 : Int32))), .unset, .unset] [(.int (0 : Int32)), (.int (0 : Int32)), (.ref b1), (.ref b1)])) rfl rfl (hb hby at_21)
  have KC8 : Keep h0 h7 [] := KC4.wr W7 (Or.inr sz3)
  have V7 : Arv Z h7 b1 k1 .int (9 : Int32) [(.int (0 : Int32)), (.int (0 : Int32)), (.int (0 : Int32)), (.int (0 : Int32)), (.int (0 : Int32)), (.int (0 : Int32)), (.int (0 : Int32)), (.int (0 : Int32)), (.int (0 : Int32))] (.int (0 : Int32)) := Arv.set Arc5 Aqc5 Asc5 Anc5 Ahc5 Agc5 rfl W7 0 rfl (Nat.le_of_ble_eq_true rfl)
  have N9 := Fr.snoc X7 N0 ge2
  obtain ⟨c10, Arc10, Aqc10, Asc10, Anc10, Ahc10, Agc10⟩ := id V7
  have hin11 : ¬ ((1 : Int32) < 0 ∨ c10.slots.size ≤ ((1 : Int32)).toNatClampNeg) := inb_of Asc10 ⟨by decide, by decide⟩
  obtain ⟨T12, h12, X12, e12, W12, st12⟩ := stI X7 hx hZ e7 Arc10 (j := (1 : Int32)) hin11 (g := (mkF m 25 #[.val (.int p1), .val (.int p2), .val (.int ((p1 &&& (2147483647 : Int32)) - ((p1 &&& (2147483647 : Int32)) / (3 : Int32)) * (3 : Int32))), .val (.int ((p2 &&& (2147483647 : Int32)) - ((p2 &&& (2147483647 : Int32)) / (3 : Int32)) * (3 : Int32))), .unset, .unset] [(.int (1 : Int32)), (.int (1 : Int32)), (.ref b1), (.ref b1)])) rfl rfl (hb hby at_25)
  have KC13 : Keep h0 h12 [] := KC8.wr W12 (Or.inr sz3)
  have V12 : Arv Z h12 b1 k1 .int (9 : Int32) [(.int (0 : Int32)), (.int (1 : Int32)), (.int (0 : Int32)), (.int (0 : Int32)), (.int (0 : Int32)), (.int (0 : Int32)), (.int (0 : Int32)), (.int (0 : Int32)), (.int (0 : Int32))] (.int (0 : Int32)) := Arv.set Arc10 Aqc10 Asc10 Anc10 Ahc10 Agc10 rfl W12 1 rfl (Nat.le_of_ble_eq_true rfl)
  have N14 := Fr.snoc X12 N9 ge2
  obtain ⟨c15, Arc15, Aqc15, Asc15, Anc15, Ahc15, Agc15⟩ := id V12
  have hin16 : ¬ ((2 : Int32) < 0 ∨ c15.slots.size ≤ ((2 : Int32)).toNatClampNeg) := inb_of Asc15 ⟨by decide, by decide⟩
  obtain ⟨T17, h17, X17, e17, W17, st17⟩ := stI X12 hx hZ e12 Arc15 (j := (2 : Int32)) hin16 (g := (mkF m 29 #[.val (.int p1), .val (.int p2), .val (.int ((p1 &&& (2147483647 : Int32)) - ((p1 &&& (2147483647 : Int32)) / (3 : Int32)) * (3 : Int32))), .val (.int ((p2 &&& (2147483647 : Int32)) - ((p2 &&& (2147483647 : Int32)) / (3 : Int32)) * (3 : Int32))), .unset, .unset] [(.int (1 : Int32)), (.int (2 : Int32)), (.ref b1), (.ref b1)])) rfl rfl (hb hby at_29)
  have KC18 : Keep h0 h17 [] := KC13.wr W17 (Or.inr sz3)
  have V17 : Arv Z h17 b1 k1 .int (9 : Int32) [(.int (0 : Int32)), (.int (1 : Int32)), (.int (1 : Int32)), (.int (0 : Int32)), (.int (0 : Int32)), (.int (0 : Int32)), (.int (0 : Int32)), (.int (0 : Int32)), (.int (0 : Int32))] (.int (0 : Int32)) := Arv.set Arc15 Aqc15 Asc15 Anc15 Ahc15 Agc15 rfl W17 2 rfl (Nat.le_of_ble_eq_true rfl)
  have N19 := Fr.snoc X17 N14 ge2
  obtain ⟨c20, Arc20, Aqc20, Asc20, Anc20, Ahc20, Agc20⟩ := id V17
  have hin21 : ¬ ((3 : Int32) < 0 ∨ c20.slots.size ≤ ((3 : Int32)).toNatClampNeg) := inb_of Asc20 ⟨by decide, by decide⟩
  obtain ⟨T22, h22, X22, e22, W22, st22⟩ := stI X17 hx hZ e17 Arc20 (j := (3 : Int32)) hin21 (g := (mkF m 33 #[.val (.int p1), .val (.int p2), .val (.int ((p1 &&& (2147483647 : Int32)) - ((p1 &&& (2147483647 : Int32)) / (3 : Int32)) * (3 : Int32))), .val (.int ((p2 &&& (2147483647 : Int32)) - ((p2 &&& (2147483647 : Int32)) / (3 : Int32)) * (3 : Int32))), .unset, .unset] [(.int (0 : Int32)), (.int (3 : Int32)), (.ref b1), (.ref b1)])) rfl rfl (hb hby at_33)
  have KC23 : Keep h0 h22 [] := KC18.wr W22 (Or.inr sz3)
  have V22 : Arv Z h22 b1 k1 .int (9 : Int32) [(.int (0 : Int32)), (.int (1 : Int32)), (.int (1 : Int32)), (.int (0 : Int32)), (.int (0 : Int32)), (.int (0 : Int32)), (.int (0 : Int32)), (.int (0 : Int32)), (.int (0 : Int32))] (.int (0 : Int32)) := Arv.set Arc20 Aqc20 Asc20 Anc20 Ahc20 Agc20 rfl W22 3 rfl (Nat.le_of_ble_eq_true rfl)
  have N24 := Fr.snoc X22 N19 ge2
  have pre25 : ∀ t, Steps p.tables e below (T22.setTop (mkF m 35 #[.val (.int p1), .val (.int p2), .val (.int ((p1 &&& (2147483647 : Int32)) - ((p1 &&& (2147483647 : Int32)) / (3 : Int32)) * (3 : Int32))), .val (.int ((p2 &&& (2147483647 : Int32)) - ((p2 &&& (2147483647 : Int32)) / (3 : Int32)) * (3 : Int32))), .unset, .unset] [(.ref b1), (.ref b1)])) t → Steps p.tables e below (s₁.setTop (entryFrame m #[(.int p1), (.int p2)] maxLocals)) t := by
    intro t k
    refine pre0 t ?_
    refine XS.iloadN X0.here hx rfl (hb hby at_0) rfl ?_
    show Steps _ _ _ (s₁.setTop (mkF m 1 #[.val (.int p1), .val (.int p2), .unset, .unset, .unset, .unset] [(.int p1)])) _
    refine X0.ldcInt hx hown (mvT hZ (hw _ (List.mem_of_getElem? (i := 0) rfl))) (g := (mkF m 1 #[.val (.int p1), .val (.int p2), .unset, .unset, .unset, .unset] [(.int p1)])) rfl (hb hby at_1) _ ?_
    show Steps _ _ _ (s₁.setTop (mkF m 3 #[.val (.int p1), .val (.int p2), .unset, .unset, .unset, .unset] [(.int (2147483647 : Int32)), (.int p1)])) _
    refine XS.iand X0.here hx rfl (hb hby at_3) rfl ?_
    show Steps _ _ _ (s₁.setTop (mkF m 4 #[.val (.int p1), .val (.int p2), .unset, .unset, .unset, .unset] [(.int (p1 &&& (2147483647 : Int32)))])) _
    refine XS.iconst X0.here hx rfl (hb hby at_4) ?_
    show Steps _ _ _ (s₁.setTop (mkF m 5 #[.val (.int p1), .val (.int p2), .unset, .unset, .unset, .unset] [(.int (3 : Int32)), (.int (p1 &&& (2147483647 : Int32)))])) _
    refine XS.irem X0.here hx rfl (hb hby at_5) rfl (by decide) ?_
    show Steps _ _ _ (s₁.setTop (mkF m 6 #[.val (.int p1), .val (.int p2), .unset, .unset, .unset, .unset] [(.int ((p1 &&& (2147483647 : Int32)) - ((p1 &&& (2147483647 : Int32)) / (3 : Int32)) * (3 : Int32)))])) _
    refine XS.istoreN X0.here hx rfl (hb hby at_6) rfl (l' := #[.val (.int p1), .val (.int p2), .val (.int ((p1 &&& (2147483647 : Int32)) - ((p1 &&& (2147483647 : Int32)) / (3 : Int32)) * (3 : Int32))), .unset, .unset, .unset]) rfl ?_
    show Steps _ _ _ (s₁.setTop (mkF m 7 #[.val (.int p1), .val (.int p2), .val (.int ((p1 &&& (2147483647 : Int32)) - ((p1 &&& (2147483647 : Int32)) / (3 : Int32)) * (3 : Int32))), .unset, .unset, .unset] [])) _
    refine XS.iloadN X0.here hx rfl (hb hby at_7) rfl ?_
    show Steps _ _ _ (s₁.setTop (mkF m 8 #[.val (.int p1), .val (.int p2), .val (.int ((p1 &&& (2147483647 : Int32)) - ((p1 &&& (2147483647 : Int32)) / (3 : Int32)) * (3 : Int32))), .unset, .unset, .unset] [(.int p2)])) _
    refine X0.ldcInt hx hown (mvT hZ (hw _ (List.mem_of_getElem? (i := 0) rfl))) (g := (mkF m 8 #[.val (.int p1), .val (.int p2), .val (.int ((p1 &&& (2147483647 : Int32)) - ((p1 &&& (2147483647 : Int32)) / (3 : Int32)) * (3 : Int32))), .unset, .unset, .unset] [(.int p2)])) rfl (hb hby at_8) _ ?_
    show Steps _ _ _ (s₁.setTop (mkF m 10 #[.val (.int p1), .val (.int p2), .val (.int ((p1 &&& (2147483647 : Int32)) - ((p1 &&& (2147483647 : Int32)) / (3 : Int32)) * (3 : Int32))), .unset, .unset, .unset] [(.int (2147483647 : Int32)), (.int p2)])) _
    refine XS.iand X0.here hx rfl (hb hby at_10) rfl ?_
    show Steps _ _ _ (s₁.setTop (mkF m 11 #[.val (.int p1), .val (.int p2), .val (.int ((p1 &&& (2147483647 : Int32)) - ((p1 &&& (2147483647 : Int32)) / (3 : Int32)) * (3 : Int32))), .unset, .unset, .unset] [(.int (p2 &&& (2147483647 : Int32)))])) _
    refine XS.iconst X0.here hx rfl (hb hby at_11) ?_
    show Steps _ _ _ (s₁.setTop (mkF m 12 #[.val (.int p1), .val (.int p2), .val (.int ((p1 &&& (2147483647 : Int32)) - ((p1 &&& (2147483647 : Int32)) / (3 : Int32)) * (3 : Int32))), .unset, .unset, .unset] [(.int (3 : Int32)), (.int (p2 &&& (2147483647 : Int32)))])) _
    refine XS.irem X0.here hx rfl (hb hby at_12) rfl (by decide) ?_
    show Steps _ _ _ (s₁.setTop (mkF m 13 #[.val (.int p1), .val (.int p2), .val (.int ((p1 &&& (2147483647 : Int32)) - ((p1 &&& (2147483647 : Int32)) / (3 : Int32)) * (3 : Int32))), .unset, .unset, .unset] [(.int ((p2 &&& (2147483647 : Int32)) - ((p2 &&& (2147483647 : Int32)) / (3 : Int32)) * (3 : Int32)))])) _
    refine XS.istoreN X0.here hx rfl (hb hby at_13) rfl (l' := #[.val (.int p1), .val (.int p2), .val (.int ((p1 &&& (2147483647 : Int32)) - ((p1 &&& (2147483647 : Int32)) / (3 : Int32)) * (3 : Int32))), .val (.int ((p2 &&& (2147483647 : Int32)) - ((p2 &&& (2147483647 : Int32)) / (3 : Int32)) * (3 : Int32))), .unset, .unset]) rfl ?_
    show Steps _ _ _ (s₁.setTop (mkF m 14 #[.val (.int p1), .val (.int p2), .val (.int ((p1 &&& (2147483647 : Int32)) - ((p1 &&& (2147483647 : Int32)) / (3 : Int32)) * (3 : Int32))), .val (.int ((p2 &&& (2147483647 : Int32)) - ((p2 &&& (2147483647 : Int32)) / (3 : Int32)) * (3 : Int32))), .unset, .unset] [])) _
    refine XS.bipush X0.here hx rfl (hb hby at_14) ?_
    show Steps _ _ _ (s₁.setTop (mkF m 16 #[.val (.int p1), .val (.int p2), .val (.int ((p1 &&& (2147483647 : Int32)) - ((p1 &&& (2147483647 : Int32)) / (3 : Int32)) * (3 : Int32))), .val (.int ((p2 &&& (2147483647 : Int32)) - ((p2 &&& (2147483647 : Int32)) / (3 : Int32)) * (3 : Int32))), .unset, .unset] [(.int (9 : Int32))])) _
    refine st1 _ ?_
    show Steps _ _ _ (T1.setTop (mkF m 18 #[.val (.int p1), .val (.int p2), .val (.int ((p1 &&& (2147483647 : Int32)) - ((p1 &&& (2147483647 : Int32)) / (3 : Int32)) * (3 : Int32))), .val (.int ((p2 &&& (2147483647 : Int32)) - ((p2 &&& (2147483647 : Int32)) / (3 : Int32)) * (3 : Int32))), .unset, .unset] [(.ref b1)])) _
    refine XS.dup X1.here hx rfl (hb hby at_18) rfl rfl ?_
    show Steps _ _ _ (T1.setTop (mkF m 19 #[.val (.int p1), .val (.int p2), .val (.int ((p1 &&& (2147483647 : Int32)) - ((p1 &&& (2147483647 : Int32)) / (3 : Int32)) * (3 : Int32))), .val (.int ((p2 &&& (2147483647 : Int32)) - ((p2 &&& (2147483647 : Int32)) / (3 : Int32)) * (3 : Int32))), .unset, .unset] [(.ref b1), (.ref b1)])) _
    refine XS.iconst X1.here hx rfl (hb hby at_19) ?_
    show Steps _ _ _ (T1.setTop (mkF m 20 #[.val (.int p1), .val (.int p2), .val (.int ((p1 &&& (2147483647 : Int32)) - ((p1 &&& (2147483647 : Int32)) / (3 : Int32)) * (3 : Int32))), .val (.int ((p2 &&& (2147483647 : Int32)) - ((p2 &&& (2147483647 : Int32)) / (3 : Int32)) * (3 : Int32))), .unset, .unset] [(.int (0 : Int32)), (.ref b1), (.ref b1)])) _
    refine XS.iconst X1.here hx rfl (hb hby at_20) ?_
    show Steps _ _ _ (T1.setTop (mkF m 21 #[.val (.int p1), .val (.int p2), .val (.int ((p1 &&& (2147483647 : Int32)) - ((p1 &&& (2147483647 : Int32)) / (3 : Int32)) * (3 : Int32))), .val (.int ((p2 &&& (2147483647 : Int32)) - ((p2 &&& (2147483647 : Int32)) / (3 : Int32)) * (3 : Int32))), .unset, .unset] [(.int (0 : Int32)), (.int (0 : Int32)), (.ref b1), (.ref b1)])) _
    refine st7 _ ?_
    show Steps _ _ _ (T7.setTop (mkF m 22 #[.val (.int p1), .val (.int p2), .val (.int ((p1 &&& (2147483647 : Int32)) - ((p1 &&& (2147483647 : Int32)) / (3 : Int32)) * (3 : Int32))), .val (.int ((p2 &&& (2147483647 : Int32)) - ((p2 &&& (2147483647 : Int32)) / (3 : Int32)) * (3 : Int32))), .unset, .unset] [(.ref b1)])) _
    refine XS.dup X7.here hx rfl (hb hby at_22) rfl rfl ?_
    show Steps _ _ _ (T7.setTop (mkF m 23 #[.val (.int p1), .val (.int p2), .val (.int ((p1 &&& (2147483647 : Int32)) - ((p1 &&& (2147483647 : Int32)) / (3 : Int32)) * (3 : Int32))), .val (.int ((p2 &&& (2147483647 : Int32)) - ((p2 &&& (2147483647 : Int32)) / (3 : Int32)) * (3 : Int32))), .unset, .unset] [(.ref b1), (.ref b1)])) _
    refine XS.iconst X7.here hx rfl (hb hby at_23) ?_
    show Steps _ _ _ (T7.setTop (mkF m 24 #[.val (.int p1), .val (.int p2), .val (.int ((p1 &&& (2147483647 : Int32)) - ((p1 &&& (2147483647 : Int32)) / (3 : Int32)) * (3 : Int32))), .val (.int ((p2 &&& (2147483647 : Int32)) - ((p2 &&& (2147483647 : Int32)) / (3 : Int32)) * (3 : Int32))), .unset, .unset] [(.int (1 : Int32)), (.ref b1), (.ref b1)])) _
    refine XS.iconst X7.here hx rfl (hb hby at_24) ?_
    show Steps _ _ _ (T7.setTop (mkF m 25 #[.val (.int p1), .val (.int p2), .val (.int ((p1 &&& (2147483647 : Int32)) - ((p1 &&& (2147483647 : Int32)) / (3 : Int32)) * (3 : Int32))), .val (.int ((p2 &&& (2147483647 : Int32)) - ((p2 &&& (2147483647 : Int32)) / (3 : Int32)) * (3 : Int32))), .unset, .unset] [(.int (1 : Int32)), (.int (1 : Int32)), (.ref b1), (.ref b1)])) _
    refine st12 _ ?_
    show Steps _ _ _ (T12.setTop (mkF m 26 #[.val (.int p1), .val (.int p2), .val (.int ((p1 &&& (2147483647 : Int32)) - ((p1 &&& (2147483647 : Int32)) / (3 : Int32)) * (3 : Int32))), .val (.int ((p2 &&& (2147483647 : Int32)) - ((p2 &&& (2147483647 : Int32)) / (3 : Int32)) * (3 : Int32))), .unset, .unset] [(.ref b1)])) _
    refine XS.dup X12.here hx rfl (hb hby at_26) rfl rfl ?_
    show Steps _ _ _ (T12.setTop (mkF m 27 #[.val (.int p1), .val (.int p2), .val (.int ((p1 &&& (2147483647 : Int32)) - ((p1 &&& (2147483647 : Int32)) / (3 : Int32)) * (3 : Int32))), .val (.int ((p2 &&& (2147483647 : Int32)) - ((p2 &&& (2147483647 : Int32)) / (3 : Int32)) * (3 : Int32))), .unset, .unset] [(.ref b1), (.ref b1)])) _
    refine XS.iconst X12.here hx rfl (hb hby at_27) ?_
    show Steps _ _ _ (T12.setTop (mkF m 28 #[.val (.int p1), .val (.int p2), .val (.int ((p1 &&& (2147483647 : Int32)) - ((p1 &&& (2147483647 : Int32)) / (3 : Int32)) * (3 : Int32))), .val (.int ((p2 &&& (2147483647 : Int32)) - ((p2 &&& (2147483647 : Int32)) / (3 : Int32)) * (3 : Int32))), .unset, .unset] [(.int (2 : Int32)), (.ref b1), (.ref b1)])) _
    refine XS.iconst X12.here hx rfl (hb hby at_28) ?_
    show Steps _ _ _ (T12.setTop (mkF m 29 #[.val (.int p1), .val (.int p2), .val (.int ((p1 &&& (2147483647 : Int32)) - ((p1 &&& (2147483647 : Int32)) / (3 : Int32)) * (3 : Int32))), .val (.int ((p2 &&& (2147483647 : Int32)) - ((p2 &&& (2147483647 : Int32)) / (3 : Int32)) * (3 : Int32))), .unset, .unset] [(.int (1 : Int32)), (.int (2 : Int32)), (.ref b1), (.ref b1)])) _
    refine st17 _ ?_
    show Steps _ _ _ (T17.setTop (mkF m 30 #[.val (.int p1), .val (.int p2), .val (.int ((p1 &&& (2147483647 : Int32)) - ((p1 &&& (2147483647 : Int32)) / (3 : Int32)) * (3 : Int32))), .val (.int ((p2 &&& (2147483647 : Int32)) - ((p2 &&& (2147483647 : Int32)) / (3 : Int32)) * (3 : Int32))), .unset, .unset] [(.ref b1)])) _
    refine XS.dup X17.here hx rfl (hb hby at_30) rfl rfl ?_
    show Steps _ _ _ (T17.setTop (mkF m 31 #[.val (.int p1), .val (.int p2), .val (.int ((p1 &&& (2147483647 : Int32)) - ((p1 &&& (2147483647 : Int32)) / (3 : Int32)) * (3 : Int32))), .val (.int ((p2 &&& (2147483647 : Int32)) - ((p2 &&& (2147483647 : Int32)) / (3 : Int32)) * (3 : Int32))), .unset, .unset] [(.ref b1), (.ref b1)])) _
    refine XS.iconst X17.here hx rfl (hb hby at_31) ?_
    show Steps _ _ _ (T17.setTop (mkF m 32 #[.val (.int p1), .val (.int p2), .val (.int ((p1 &&& (2147483647 : Int32)) - ((p1 &&& (2147483647 : Int32)) / (3 : Int32)) * (3 : Int32))), .val (.int ((p2 &&& (2147483647 : Int32)) - ((p2 &&& (2147483647 : Int32)) / (3 : Int32)) * (3 : Int32))), .unset, .unset] [(.int (3 : Int32)), (.ref b1), (.ref b1)])) _
    refine XS.iconst X17.here hx rfl (hb hby at_32) ?_
    show Steps _ _ _ (T17.setTop (mkF m 33 #[.val (.int p1), .val (.int p2), .val (.int ((p1 &&& (2147483647 : Int32)) - ((p1 &&& (2147483647 : Int32)) / (3 : Int32)) * (3 : Int32))), .val (.int ((p2 &&& (2147483647 : Int32)) - ((p2 &&& (2147483647 : Int32)) / (3 : Int32)) * (3 : Int32))), .unset, .unset] [(.int (0 : Int32)), (.int (3 : Int32)), (.ref b1), (.ref b1)])) _
    refine st22 _ ?_
    show Steps _ _ _ (T22.setTop (mkF m 34 #[.val (.int p1), .val (.int p2), .val (.int ((p1 &&& (2147483647 : Int32)) - ((p1 &&& (2147483647 : Int32)) / (3 : Int32)) * (3 : Int32))), .val (.int ((p2 &&& (2147483647 : Int32)) - ((p2 &&& (2147483647 : Int32)) / (3 : Int32)) * (3 : Int32))), .unset, .unset] [(.ref b1)])) _
    refine XS.dup X22.here hx rfl (hb hby at_34) rfl rfl ?_
    show Steps _ _ _ (T22.setTop (mkF m 35 #[.val (.int p1), .val (.int p2), .val (.int ((p1 &&& (2147483647 : Int32)) - ((p1 &&& (2147483647 : Int32)) / (3 : Int32)) * (3 : Int32))), .val (.int ((p2 &&& (2147483647 : Int32)) - ((p2 &&& (2147483647 : Int32)) / (3 : Int32)) * (3 : Int32))), .unset, .unset] [(.ref b1), (.ref b1)])) _
    exact k
  obtain ⟨c26, Arc26, Aqc26, Asc26, Anc26, Ahc26, Agc26⟩ := id V22
  have hin27 : ¬ ((4 : Int32) < 0 ∨ c26.slots.size ≤ ((4 : Int32)).toNatClampNeg) := inb_of Asc26 ⟨by decide, by decide⟩
  obtain ⟨T28, h28, X28, e28, W28, st28⟩ := stI X22 hx hZ e22 Arc26 (j := (4 : Int32)) hin27 (g := (mkF m 37 #[.val (.int p1), .val (.int p2), .val (.int ((p1 &&& (2147483647 : Int32)) - ((p1 &&& (2147483647 : Int32)) / (3 : Int32)) * (3 : Int32))), .val (.int ((p2 &&& (2147483647 : Int32)) - ((p2 &&& (2147483647 : Int32)) / (3 : Int32)) * (3 : Int32))), .unset, .unset] [(.int (1 : Int32)), (.int (4 : Int32)), (.ref b1), (.ref b1)])) rfl rfl (hb hby at_37)
  have KC29 : Keep h0 h28 [] := KC23.wr W28 (Or.inr sz3)
  have V28 : Arv Z h28 b1 k1 .int (9 : Int32) [(.int (0 : Int32)), (.int (1 : Int32)), (.int (1 : Int32)), (.int (0 : Int32)), (.int (1 : Int32)), (.int (0 : Int32)), (.int (0 : Int32)), (.int (0 : Int32)), (.int (0 : Int32))] (.int (0 : Int32)) := Arv.set Arc26 Aqc26 Asc26 Anc26 Ahc26 Agc26 rfl W28 4 rfl (Nat.le_of_ble_eq_true rfl)
  have N30 := Fr.snoc X28 N24 ge2
  obtain ⟨c31, Arc31, Aqc31, Asc31, Anc31, Ahc31, Agc31⟩ := id V28
  have hin32 : ¬ ((5 : Int32) < 0 ∨ c31.slots.size ≤ ((5 : Int32)).toNatClampNeg) := inb_of Asc31 ⟨by decide, by decide⟩
  obtain ⟨T33, h33, X33, e33, W33, st33⟩ := stI X28 hx hZ e28 Arc31 (j := (5 : Int32)) hin32 (g := (mkF m 41 #[.val (.int p1), .val (.int p2), .val (.int ((p1 &&& (2147483647 : Int32)) - ((p1 &&& (2147483647 : Int32)) / (3 : Int32)) * (3 : Int32))), .val (.int ((p2 &&& (2147483647 : Int32)) - ((p2 &&& (2147483647 : Int32)) / (3 : Int32)) * (3 : Int32))), .unset, .unset] [(.int (1 : Int32)), (.int (5 : Int32)), (.ref b1), (.ref b1)])) rfl rfl (hb hby at_41)
  have KC34 : Keep h0 h33 [] := KC29.wr W33 (Or.inr sz3)
  have V33 : Arv Z h33 b1 k1 .int (9 : Int32) [(.int (0 : Int32)), (.int (1 : Int32)), (.int (1 : Int32)), (.int (0 : Int32)), (.int (1 : Int32)), (.int (1 : Int32)), (.int (0 : Int32)), (.int (0 : Int32)), (.int (0 : Int32))] (.int (0 : Int32)) := Arv.set Arc31 Aqc31 Asc31 Anc31 Ahc31 Agc31 rfl W33 5 rfl (Nat.le_of_ble_eq_true rfl)
  have N35 := Fr.snoc X33 N30 ge2
  obtain ⟨c36, Arc36, Aqc36, Asc36, Anc36, Ahc36, Agc36⟩ := id V33
  have hin37 : ¬ ((6 : Int32) < 0 ∨ c36.slots.size ≤ ((6 : Int32)).toNatClampNeg) := inb_of Asc36 ⟨by decide, by decide⟩
  obtain ⟨T38, h38, X38, e38, W38, st38⟩ := stI X33 hx hZ e33 Arc36 (j := (6 : Int32)) hin37 (g := (mkF m 46 #[.val (.int p1), .val (.int p2), .val (.int ((p1 &&& (2147483647 : Int32)) - ((p1 &&& (2147483647 : Int32)) / (3 : Int32)) * (3 : Int32))), .val (.int ((p2 &&& (2147483647 : Int32)) - ((p2 &&& (2147483647 : Int32)) / (3 : Int32)) * (3 : Int32))), .unset, .unset] [(.int (3 : Int32)), (.int (6 : Int32)), (.ref b1), (.ref b1)])) rfl rfl (hb hby at_46)
  have KC39 : Keep h0 h38 [] := KC34.wr W38 (Or.inr sz3)
  have V38 : Arv Z h38 b1 k1 .int (9 : Int32) [(.int (0 : Int32)), (.int (1 : Int32)), (.int (1 : Int32)), (.int (0 : Int32)), (.int (1 : Int32)), (.int (1 : Int32)), (.int (3 : Int32)), (.int (0 : Int32)), (.int (0 : Int32))] (.int (0 : Int32)) := Arv.set Arc36 Aqc36 Asc36 Anc36 Ahc36 Agc36 rfl W38 6 rfl (Nat.le_of_ble_eq_true rfl)
  have N40 := Fr.snoc X38 N35 ge2
  obtain ⟨c41, Arc41, Aqc41, Asc41, Anc41, Ahc41, Agc41⟩ := id V38
  have hin42 : ¬ ((7 : Int32) < 0 ∨ c41.slots.size ≤ ((7 : Int32)).toNatClampNeg) := inb_of Asc41 ⟨by decide, by decide⟩
  obtain ⟨T43, h43, X43, e43, W43, st43⟩ := stI X38 hx hZ e38 Arc41 (j := (7 : Int32)) hin42 (g := (mkF m 51 #[.val (.int p1), .val (.int p2), .val (.int ((p1 &&& (2147483647 : Int32)) - ((p1 &&& (2147483647 : Int32)) / (3 : Int32)) * (3 : Int32))), .val (.int ((p2 &&& (2147483647 : Int32)) - ((p2 &&& (2147483647 : Int32)) / (3 : Int32)) * (3 : Int32))), .unset, .unset] [(.int (2 : Int32)), (.int (7 : Int32)), (.ref b1), (.ref b1)])) rfl rfl (hb hby at_51)
  have KC44 : Keep h0 h43 [] := KC39.wr W43 (Or.inr sz3)
  have V43 : Arv Z h43 b1 k1 .int (9 : Int32) [(.int (0 : Int32)), (.int (1 : Int32)), (.int (1 : Int32)), (.int (0 : Int32)), (.int (1 : Int32)), (.int (1 : Int32)), (.int (3 : Int32)), (.int (2 : Int32)), (.int (0 : Int32))] (.int (0 : Int32)) := Arv.set Arc41 Aqc41 Asc41 Anc41 Ahc41 Agc41 rfl W43 7 rfl (Nat.le_of_ble_eq_true rfl)
  have N45 := Fr.snoc X43 N40 ge2
  obtain ⟨c46, Arc46, Aqc46, Asc46, Anc46, Ahc46, Agc46⟩ := id V43
  have hin47 : ¬ ((8 : Int32) < 0 ∨ c46.slots.size ≤ ((8 : Int32)).toNatClampNeg) := inb_of Asc46 ⟨by decide, by decide⟩
  obtain ⟨T48, h48, X48, e48, W48, st48⟩ := stI X43 hx hZ e43 Arc46 (j := (8 : Int32)) hin47 (g := (mkF m 56 #[.val (.int p1), .val (.int p2), .val (.int ((p1 &&& (2147483647 : Int32)) - ((p1 &&& (2147483647 : Int32)) / (3 : Int32)) * (3 : Int32))), .val (.int ((p2 &&& (2147483647 : Int32)) - ((p2 &&& (2147483647 : Int32)) / (3 : Int32)) * (3 : Int32))), .unset, .unset] [(.int (2 : Int32)), (.int (8 : Int32)), (.ref b1), (.ref b1)])) rfl rfl (hb hby at_56)
  have KC49 : Keep h0 h48 [] := KC44.wr W48 (Or.inr sz3)
  have V48 : Arv Z h48 b1 k1 .int (9 : Int32) [(.int (0 : Int32)), (.int (1 : Int32)), (.int (1 : Int32)), (.int (0 : Int32)), (.int (1 : Int32)), (.int (1 : Int32)), (.int (3 : Int32)), (.int (2 : Int32)), (.int (2 : Int32))] (.int (0 : Int32)) := Arv.set Arc46 Aqc46 Asc46 Anc46 Ahc46 Agc46 rfl W48 8 rfl (Nat.le_of_ble_eq_true rfl)
  have N50 := Fr.snoc X48 N45 ge2
  have O51 : Old Z n0 h48 := ((((((((((O0.ext E1).wr W7 ge2).wr W12 ge2).wr W17 ge2).wr W22 ge2).wr W28 ge2).wr W33 ge2).wr W38 ge2).wr W43 ge2).wr W48 ge2)
  obtain ⟨_, _, ⟨T52, L52, k52, n52⟩, -, X52, ⟨Lc52, hQ52, l52, y52, z52⟩, st52⟩ := Jvm.LawKit.callS X48 hx (y := (⟨"com/example/lichen/lichen/model/TruthValueFromDoubledProgramPinLaw", "pick", "(I)Lcom/example/lichen/lichen/model/TruthValue;"⟩ : MethodName)) hown (mvT hZ (hw _ (List.mem_of_getElem? (i := 2) rfl))) (mvT hZ (hw _ (List.mem_of_getElem? (i := 3) rfl))) (mvT hZ (hw _ (List.mem_of_getElem? (i := 4) rfl))) (mvT hZ (hw _ (List.mem_of_getElem? (i := 5) rfl))) (by decide) (backOf (W := 0) (rm1 l Z a0 hw [] ((p1 &&& (2147483647 : Int32)) - ((p1 &&& (2147483647 : Int32)) / (3 : Int32)) * (3 : Int32)) wF wU wT wX h48 n0 (Nat.le_trans Z0 KC49.1) O51 SF SU ST SX) hZ (hw _ (List.mem_of_getElem? (i := 5) rfl)) (hw _ (List.mem_of_getElem? (i := 4) rfl)) (by decide) (by decide)) (g := (mkF m 60 #[.val (.int p1), .val (.int p2), .val (.int ((p1 &&& (2147483647 : Int32)) - ((p1 &&& (2147483647 : Int32)) / (3 : Int32)) * (3 : Int32))), .val (.int ((p2 &&& (2147483647 : Int32)) - ((p2 &&& (2147483647 : Int32)) / (3 : Int32)) * (3 : Int32))), .val (.ref b1), .unset] [(.int ((p1 &&& (2147483647 : Int32)) - ((p1 &&& (2147483647 : Int32)) / (3 : Int32)) * (3 : Int32)))])) rfl (by rw [hml]; rfl) (argsL := [(.int ((p1 &&& (2147483647 : Int32)) - ((p1 &&& (2147483647 : Int32)) / (3 : Int32)) * (3 : Int32)))]) (rest := []) (lenOf pd_1 rfl) rfl (by show 2 * 0 + _ ≤ _; exact Nat.le_of_eq rfl) (hb hby at_60) (fun _ _ => ⟨rfl, e48, (by decide : 1 + 0 ≤ _), (by decide : 9 + 0 ≤ _)⟩)
  dsimp only [Pt.U, Pt.locs, Pt.cells, Pt.slots] at X52 l52 y52 z52 st52 hQ52
  subst l52 y52 z52
  obtain ⟨rfl, Nq52, q52_0⟩ := hQ52
  have N53 := Fr.app N50 Nq52
  obtain ⟨_, _, ⟨T54, L54, k54, n54⟩, -, X54, ⟨Lc54, hQ54, l54, y54, z54⟩, st54⟩ := Jvm.LawKit.callS X52 hx (y := (⟨"com/example/lichen/lichen/model/TruthValueFromDoubledProgramPinLaw", "pick", "(I)Lcom/example/lichen/lichen/model/TruthValue;"⟩ : MethodName)) hown (mvT hZ (hw _ (List.mem_of_getElem? (i := 2) rfl))) (mvT hZ (hw _ (List.mem_of_getElem? (i := 3) rfl))) (mvT hZ (hw _ (List.mem_of_getElem? (i := 4) rfl))) (mvT hZ (hw _ (List.mem_of_getElem? (i := 5) rfl))) (by decide) (backOf (W := 1) (rm1 l Z a0 hw [] ((p2 &&& (2147483647 : Int32)) - ((p2 &&& (2147483647 : Int32)) / (3 : Int32)) * (3 : Int32)) wF wU wT wX h48 n0 (Nat.le_trans Z0 KC49.1) O51 SF SU ST SX) hZ (hw _ (List.mem_of_getElem? (i := 5) rfl)) (hw _ (List.mem_of_getElem? (i := 4) rfl)) (by decide) (by decide)) (g := (mkF m 64 #[.val (.int p1), .val (.int p2), .val (.int ((p1 &&& (2147483647 : Int32)) - ((p1 &&& (2147483647 : Int32)) / (3 : Int32)) * (3 : Int32))), .val (.int ((p2 &&& (2147483647 : Int32)) - ((p2 &&& (2147483647 : Int32)) / (3 : Int32)) * (3 : Int32))), .val (.ref b1), .unset] [(.int ((p2 &&& (2147483647 : Int32)) - ((p2 &&& (2147483647 : Int32)) / (3 : Int32)) * (3 : Int32))), (.ref (own_pick ((p1 &&& (2147483647 : Int32)) - ((p1 &&& (2147483647 : Int32)) / (3 : Int32)) * (3 : Int32)) wF wU wT wX))])) rfl (by rw [hml]; rfl) (argsL := [(.int ((p2 &&& (2147483647 : Int32)) - ((p2 &&& (2147483647 : Int32)) / (3 : Int32)) * (3 : Int32)))]) (rest := [(.ref (own_pick ((p1 &&& (2147483647 : Int32)) - ((p1 &&& (2147483647 : Int32)) / (3 : Int32)) * (3 : Int32)) wF wU wT wX))]) (lenOf pd_1 rfl) rfl (by show 2 * 0 + _ ≤ _; exact Nat.le_of_eq rfl) (hb hby at_64) (fun _ _ => ⟨rfl, q52_0, (by decide : 1 + 0 ≤ _), (by decide : 9 + 0 ≤ _)⟩)
  dsimp only [Pt.U, Pt.locs, Pt.cells, Pt.slots] at X54 l54 y54 z54 st54 hQ54
  subst l54 y54 z54
  obtain ⟨rfl, Nq54, q54_0⟩ := hQ54
  have N55 := Fr.app N53 Nq54
  obtain ⟨_, _, ⟨T56, L56, k56, n56⟩, -, X56, ⟨Lc56, hQ56, l56, y56, z56⟩, st56⟩ := Jvm.LawKit.callS X54 hx (y := (⟨"com/example/lichen/lichen/model/TruthValue", "fromDoubledProgram", "(Lcom/example/lichen/lichen/model/TruthValue;Lcom/example/lichen/lichen/model/TruthValue;)Lcom/example/lichen/lichen/model/TruthValue;"⟩ : MethodName)) hown (mvT hZ (hw _ (List.mem_of_getElem? (i := 9) rfl))) (mvT hZ (hw _ (List.mem_of_getElem? (i := 10) rfl))) (mvT hZ (hw _ (List.mem_of_getElem? (i := 7) rfl))) (mvT hZ (hw _ (List.mem_of_getElem? (i := 11) rfl))) (by decide) (backOf (W := 0) (rm2 l Z a0 hw [] (own_pick ((p1 &&& (2147483647 : Int32)) - ((p1 &&& (2147483647 : Int32)) / (3 : Int32)) * (3 : Int32)) wF wU wT wX) (own_pick ((p2 &&& (2147483647 : Int32)) - ((p2 &&& (2147483647 : Int32)) / (3 : Int32)) * (3 : Int32)) wF wU wT wX) wF wU wT wX h48 n0 (Nat.le_trans Z0 KC49.1) O51 SF SU ST SX (own_nX p1 _ _ _ _ qn3 qn5 qn6) (own_nX p2 _ _ _ _ qn3 qn5 qn6)) hZ (hw _ (List.mem_of_getElem? (i := 11) rfl)) (hw _ (List.mem_of_getElem? (i := 7) rfl)) (by decide) (by decide)) (g := (mkF m 67 #[.val (.int p1), .val (.int p2), .val (.int ((p1 &&& (2147483647 : Int32)) - ((p1 &&& (2147483647 : Int32)) / (3 : Int32)) * (3 : Int32))), .val (.int ((p2 &&& (2147483647 : Int32)) - ((p2 &&& (2147483647 : Int32)) / (3 : Int32)) * (3 : Int32))), .val (.ref b1), .unset] [(.ref (own_pick ((p2 &&& (2147483647 : Int32)) - ((p2 &&& (2147483647 : Int32)) / (3 : Int32)) * (3 : Int32)) wF wU wT wX)), (.ref (own_pick ((p1 &&& (2147483647 : Int32)) - ((p1 &&& (2147483647 : Int32)) / (3 : Int32)) * (3 : Int32)) wF wU wT wX))])) rfl (by rw [hml]; rfl) (argsL := [(.ref (own_pick ((p1 &&& (2147483647 : Int32)) - ((p1 &&& (2147483647 : Int32)) / (3 : Int32)) * (3 : Int32)) wF wU wT wX)), (.ref (own_pick ((p2 &&& (2147483647 : Int32)) - ((p2 &&& (2147483647 : Int32)) / (3 : Int32)) * (3 : Int32)) wF wU wT wX))]) (rest := []) (lenOf pd_2 rfl) rfl (by show 2 * 0 + _ ≤ _; exact Nat.le_of_eq rfl) (hb hby at_67) (fun _ _ => ⟨rfl, q54_0, (by decide : 1 + 0 ≤ _), (by decide : 9 + 0 ≤ _)⟩)
  dsimp only [Pt.U, Pt.locs, Pt.cells, Pt.slots] at X56 l56 y56 z56 st56 hQ56
  subst l56 y56 z56
  obtain ⟨rfl, Nq56, q56_0⟩ := hQ56
  have N57 := Fr.app N55 Nq56
  have pre58 : ∀ t, Steps p.tables e below (T56.setTop (mkF m 79 #[.val (.int p1), .val (.int p2), .val (.int ((p1 &&& (2147483647 : Int32)) - ((p1 &&& (2147483647 : Int32)) / (3 : Int32)) * (3 : Int32))), .val (.int ((p2 &&& (2147483647 : Int32)) - ((p2 &&& (2147483647 : Int32)) / (3 : Int32)) * (3 : Int32))), .val (.ref b1), .val (.ref (own_from (own_pick ((p1 &&& (2147483647 : Int32)) - ((p1 &&& (2147483647 : Int32)) / (3 : Int32)) * (3 : Int32)) wF wU wT wX) (own_pick ((p2 &&& (2147483647 : Int32)) - ((p2 &&& (2147483647 : Int32)) / (3 : Int32)) * (3 : Int32)) wF wU wT wX) wF wU wT wX))] [(.int (((p1 &&& (2147483647 : Int32)) - ((p1 &&& (2147483647 : Int32)) / (3 : Int32)) * (3 : Int32)) * (3 : Int32))), (.ref b1), (.ref (own_from (own_pick ((p1 &&& (2147483647 : Int32)) - ((p1 &&& (2147483647 : Int32)) / (3 : Int32)) * (3 : Int32)) wF wU wT wX) (own_pick ((p2 &&& (2147483647 : Int32)) - ((p2 &&& (2147483647 : Int32)) / (3 : Int32)) * (3 : Int32)) wF wU wT wX) wF wU wT wX))])) t → Steps p.tables e below (s₁.setTop (entryFrame m #[(.int p1), (.int p2)] maxLocals)) t := by
    intro t k
    refine pre25 t ?_
    refine XS.iconst X22.here hx rfl (hb hby at_35) ?_
    show Steps _ _ _ (T22.setTop (mkF m 36 #[.val (.int p1), .val (.int p2), .val (.int ((p1 &&& (2147483647 : Int32)) - ((p1 &&& (2147483647 : Int32)) / (3 : Int32)) * (3 : Int32))), .val (.int ((p2 &&& (2147483647 : Int32)) - ((p2 &&& (2147483647 : Int32)) / (3 : Int32)) * (3 : Int32))), .unset, .unset] [(.int (4 : Int32)), (.ref b1), (.ref b1)])) _
    refine XS.iconst X22.here hx rfl (hb hby at_36) ?_
    show Steps _ _ _ (T22.setTop (mkF m 37 #[.val (.int p1), .val (.int p2), .val (.int ((p1 &&& (2147483647 : Int32)) - ((p1 &&& (2147483647 : Int32)) / (3 : Int32)) * (3 : Int32))), .val (.int ((p2 &&& (2147483647 : Int32)) - ((p2 &&& (2147483647 : Int32)) / (3 : Int32)) * (3 : Int32))), .unset, .unset] [(.int (1 : Int32)), (.int (4 : Int32)), (.ref b1), (.ref b1)])) _
    refine st28 _ ?_
    show Steps _ _ _ (T28.setTop (mkF m 38 #[.val (.int p1), .val (.int p2), .val (.int ((p1 &&& (2147483647 : Int32)) - ((p1 &&& (2147483647 : Int32)) / (3 : Int32)) * (3 : Int32))), .val (.int ((p2 &&& (2147483647 : Int32)) - ((p2 &&& (2147483647 : Int32)) / (3 : Int32)) * (3 : Int32))), .unset, .unset] [(.ref b1)])) _
    refine XS.dup X28.here hx rfl (hb hby at_38) rfl rfl ?_
    show Steps _ _ _ (T28.setTop (mkF m 39 #[.val (.int p1), .val (.int p2), .val (.int ((p1 &&& (2147483647 : Int32)) - ((p1 &&& (2147483647 : Int32)) / (3 : Int32)) * (3 : Int32))), .val (.int ((p2 &&& (2147483647 : Int32)) - ((p2 &&& (2147483647 : Int32)) / (3 : Int32)) * (3 : Int32))), .unset, .unset] [(.ref b1), (.ref b1)])) _
    refine XS.iconst X28.here hx rfl (hb hby at_39) ?_
    show Steps _ _ _ (T28.setTop (mkF m 40 #[.val (.int p1), .val (.int p2), .val (.int ((p1 &&& (2147483647 : Int32)) - ((p1 &&& (2147483647 : Int32)) / (3 : Int32)) * (3 : Int32))), .val (.int ((p2 &&& (2147483647 : Int32)) - ((p2 &&& (2147483647 : Int32)) / (3 : Int32)) * (3 : Int32))), .unset, .unset] [(.int (5 : Int32)), (.ref b1), (.ref b1)])) _
    refine XS.iconst X28.here hx rfl (hb hby at_40) ?_
    show Steps _ _ _ (T28.setTop (mkF m 41 #[.val (.int p1), .val (.int p2), .val (.int ((p1 &&& (2147483647 : Int32)) - ((p1 &&& (2147483647 : Int32)) / (3 : Int32)) * (3 : Int32))), .val (.int ((p2 &&& (2147483647 : Int32)) - ((p2 &&& (2147483647 : Int32)) / (3 : Int32)) * (3 : Int32))), .unset, .unset] [(.int (1 : Int32)), (.int (5 : Int32)), (.ref b1), (.ref b1)])) _
    refine st33 _ ?_
    show Steps _ _ _ (T33.setTop (mkF m 42 #[.val (.int p1), .val (.int p2), .val (.int ((p1 &&& (2147483647 : Int32)) - ((p1 &&& (2147483647 : Int32)) / (3 : Int32)) * (3 : Int32))), .val (.int ((p2 &&& (2147483647 : Int32)) - ((p2 &&& (2147483647 : Int32)) / (3 : Int32)) * (3 : Int32))), .unset, .unset] [(.ref b1)])) _
    refine XS.dup X33.here hx rfl (hb hby at_42) rfl rfl ?_
    show Steps _ _ _ (T33.setTop (mkF m 43 #[.val (.int p1), .val (.int p2), .val (.int ((p1 &&& (2147483647 : Int32)) - ((p1 &&& (2147483647 : Int32)) / (3 : Int32)) * (3 : Int32))), .val (.int ((p2 &&& (2147483647 : Int32)) - ((p2 &&& (2147483647 : Int32)) / (3 : Int32)) * (3 : Int32))), .unset, .unset] [(.ref b1), (.ref b1)])) _
    refine XS.bipush X33.here hx rfl (hb hby at_43) ?_
    show Steps _ _ _ (T33.setTop (mkF m 45 #[.val (.int p1), .val (.int p2), .val (.int ((p1 &&& (2147483647 : Int32)) - ((p1 &&& (2147483647 : Int32)) / (3 : Int32)) * (3 : Int32))), .val (.int ((p2 &&& (2147483647 : Int32)) - ((p2 &&& (2147483647 : Int32)) / (3 : Int32)) * (3 : Int32))), .unset, .unset] [(.int (6 : Int32)), (.ref b1), (.ref b1)])) _
    refine XS.iconst X33.here hx rfl (hb hby at_45) ?_
    show Steps _ _ _ (T33.setTop (mkF m 46 #[.val (.int p1), .val (.int p2), .val (.int ((p1 &&& (2147483647 : Int32)) - ((p1 &&& (2147483647 : Int32)) / (3 : Int32)) * (3 : Int32))), .val (.int ((p2 &&& (2147483647 : Int32)) - ((p2 &&& (2147483647 : Int32)) / (3 : Int32)) * (3 : Int32))), .unset, .unset] [(.int (3 : Int32)), (.int (6 : Int32)), (.ref b1), (.ref b1)])) _
    refine st38 _ ?_
    show Steps _ _ _ (T38.setTop (mkF m 47 #[.val (.int p1), .val (.int p2), .val (.int ((p1 &&& (2147483647 : Int32)) - ((p1 &&& (2147483647 : Int32)) / (3 : Int32)) * (3 : Int32))), .val (.int ((p2 &&& (2147483647 : Int32)) - ((p2 &&& (2147483647 : Int32)) / (3 : Int32)) * (3 : Int32))), .unset, .unset] [(.ref b1)])) _
    refine XS.dup X38.here hx rfl (hb hby at_47) rfl rfl ?_
    show Steps _ _ _ (T38.setTop (mkF m 48 #[.val (.int p1), .val (.int p2), .val (.int ((p1 &&& (2147483647 : Int32)) - ((p1 &&& (2147483647 : Int32)) / (3 : Int32)) * (3 : Int32))), .val (.int ((p2 &&& (2147483647 : Int32)) - ((p2 &&& (2147483647 : Int32)) / (3 : Int32)) * (3 : Int32))), .unset, .unset] [(.ref b1), (.ref b1)])) _
    refine XS.bipush X38.here hx rfl (hb hby at_48) ?_
    show Steps _ _ _ (T38.setTop (mkF m 50 #[.val (.int p1), .val (.int p2), .val (.int ((p1 &&& (2147483647 : Int32)) - ((p1 &&& (2147483647 : Int32)) / (3 : Int32)) * (3 : Int32))), .val (.int ((p2 &&& (2147483647 : Int32)) - ((p2 &&& (2147483647 : Int32)) / (3 : Int32)) * (3 : Int32))), .unset, .unset] [(.int (7 : Int32)), (.ref b1), (.ref b1)])) _
    refine XS.iconst X38.here hx rfl (hb hby at_50) ?_
    show Steps _ _ _ (T38.setTop (mkF m 51 #[.val (.int p1), .val (.int p2), .val (.int ((p1 &&& (2147483647 : Int32)) - ((p1 &&& (2147483647 : Int32)) / (3 : Int32)) * (3 : Int32))), .val (.int ((p2 &&& (2147483647 : Int32)) - ((p2 &&& (2147483647 : Int32)) / (3 : Int32)) * (3 : Int32))), .unset, .unset] [(.int (2 : Int32)), (.int (7 : Int32)), (.ref b1), (.ref b1)])) _
    refine st43 _ ?_
    show Steps _ _ _ (T43.setTop (mkF m 52 #[.val (.int p1), .val (.int p2), .val (.int ((p1 &&& (2147483647 : Int32)) - ((p1 &&& (2147483647 : Int32)) / (3 : Int32)) * (3 : Int32))), .val (.int ((p2 &&& (2147483647 : Int32)) - ((p2 &&& (2147483647 : Int32)) / (3 : Int32)) * (3 : Int32))), .unset, .unset] [(.ref b1)])) _
    refine XS.dup X43.here hx rfl (hb hby at_52) rfl rfl ?_
    show Steps _ _ _ (T43.setTop (mkF m 53 #[.val (.int p1), .val (.int p2), .val (.int ((p1 &&& (2147483647 : Int32)) - ((p1 &&& (2147483647 : Int32)) / (3 : Int32)) * (3 : Int32))), .val (.int ((p2 &&& (2147483647 : Int32)) - ((p2 &&& (2147483647 : Int32)) / (3 : Int32)) * (3 : Int32))), .unset, .unset] [(.ref b1), (.ref b1)])) _
    refine XS.bipush X43.here hx rfl (hb hby at_53) ?_
    show Steps _ _ _ (T43.setTop (mkF m 55 #[.val (.int p1), .val (.int p2), .val (.int ((p1 &&& (2147483647 : Int32)) - ((p1 &&& (2147483647 : Int32)) / (3 : Int32)) * (3 : Int32))), .val (.int ((p2 &&& (2147483647 : Int32)) - ((p2 &&& (2147483647 : Int32)) / (3 : Int32)) * (3 : Int32))), .unset, .unset] [(.int (8 : Int32)), (.ref b1), (.ref b1)])) _
    refine XS.iconst X43.here hx rfl (hb hby at_55) ?_
    show Steps _ _ _ (T43.setTop (mkF m 56 #[.val (.int p1), .val (.int p2), .val (.int ((p1 &&& (2147483647 : Int32)) - ((p1 &&& (2147483647 : Int32)) / (3 : Int32)) * (3 : Int32))), .val (.int ((p2 &&& (2147483647 : Int32)) - ((p2 &&& (2147483647 : Int32)) / (3 : Int32)) * (3 : Int32))), .unset, .unset] [(.int (2 : Int32)), (.int (8 : Int32)), (.ref b1), (.ref b1)])) _
    refine st48 _ ?_
    show Steps _ _ _ (T48.setTop (mkF m 57 #[.val (.int p1), .val (.int p2), .val (.int ((p1 &&& (2147483647 : Int32)) - ((p1 &&& (2147483647 : Int32)) / (3 : Int32)) * (3 : Int32))), .val (.int ((p2 &&& (2147483647 : Int32)) - ((p2 &&& (2147483647 : Int32)) / (3 : Int32)) * (3 : Int32))), .unset, .unset] [(.ref b1)])) _
    refine XS.astore X48.here hx rfl (hb hby at_57) rfl rfl (l' := #[.val (.int p1), .val (.int p2), .val (.int ((p1 &&& (2147483647 : Int32)) - ((p1 &&& (2147483647 : Int32)) / (3 : Int32)) * (3 : Int32))), .val (.int ((p2 &&& (2147483647 : Int32)) - ((p2 &&& (2147483647 : Int32)) / (3 : Int32)) * (3 : Int32))), .val (.ref b1), .unset]) rfl ?_
    show Steps _ _ _ (T48.setTop (mkF m 59 #[.val (.int p1), .val (.int p2), .val (.int ((p1 &&& (2147483647 : Int32)) - ((p1 &&& (2147483647 : Int32)) / (3 : Int32)) * (3 : Int32))), .val (.int ((p2 &&& (2147483647 : Int32)) - ((p2 &&& (2147483647 : Int32)) / (3 : Int32)) * (3 : Int32))), .val (.ref b1), .unset] [])) _
    refine XS.iloadN X48.here hx rfl (hb hby at_59) rfl ?_
    show Steps _ _ _ (T48.setTop (mkF m 60 #[.val (.int p1), .val (.int p2), .val (.int ((p1 &&& (2147483647 : Int32)) - ((p1 &&& (2147483647 : Int32)) / (3 : Int32)) * (3 : Int32))), .val (.int ((p2 &&& (2147483647 : Int32)) - ((p2 &&& (2147483647 : Int32)) / (3 : Int32)) * (3 : Int32))), .val (.ref b1), .unset] [(.int ((p1 &&& (2147483647 : Int32)) - ((p1 &&& (2147483647 : Int32)) / (3 : Int32)) * (3 : Int32)))])) _
    refine st52 _ ?_
    show Steps _ _ _ (T52.setTop (mkF m 63 #[.val (.int p1), .val (.int p2), .val (.int ((p1 &&& (2147483647 : Int32)) - ((p1 &&& (2147483647 : Int32)) / (3 : Int32)) * (3 : Int32))), .val (.int ((p2 &&& (2147483647 : Int32)) - ((p2 &&& (2147483647 : Int32)) / (3 : Int32)) * (3 : Int32))), .val (.ref b1), .unset] [(.ref (own_pick ((p1 &&& (2147483647 : Int32)) - ((p1 &&& (2147483647 : Int32)) / (3 : Int32)) * (3 : Int32)) wF wU wT wX))])) _
    refine XS.iloadN X52.here hx rfl (hb hby at_63) rfl ?_
    show Steps _ _ _ (T52.setTop (mkF m 64 #[.val (.int p1), .val (.int p2), .val (.int ((p1 &&& (2147483647 : Int32)) - ((p1 &&& (2147483647 : Int32)) / (3 : Int32)) * (3 : Int32))), .val (.int ((p2 &&& (2147483647 : Int32)) - ((p2 &&& (2147483647 : Int32)) / (3 : Int32)) * (3 : Int32))), .val (.ref b1), .unset] [(.int ((p2 &&& (2147483647 : Int32)) - ((p2 &&& (2147483647 : Int32)) / (3 : Int32)) * (3 : Int32))), (.ref (own_pick ((p1 &&& (2147483647 : Int32)) - ((p1 &&& (2147483647 : Int32)) / (3 : Int32)) * (3 : Int32)) wF wU wT wX))])) _
    refine st54 _ ?_
    show Steps _ _ _ (T54.setTop (mkF m 67 #[.val (.int p1), .val (.int p2), .val (.int ((p1 &&& (2147483647 : Int32)) - ((p1 &&& (2147483647 : Int32)) / (3 : Int32)) * (3 : Int32))), .val (.int ((p2 &&& (2147483647 : Int32)) - ((p2 &&& (2147483647 : Int32)) / (3 : Int32)) * (3 : Int32))), .val (.ref b1), .unset] [(.ref (own_pick ((p2 &&& (2147483647 : Int32)) - ((p2 &&& (2147483647 : Int32)) / (3 : Int32)) * (3 : Int32)) wF wU wT wX)), (.ref (own_pick ((p1 &&& (2147483647 : Int32)) - ((p1 &&& (2147483647 : Int32)) / (3 : Int32)) * (3 : Int32)) wF wU wT wX))])) _
    refine st56 _ ?_
    show Steps _ _ _ (T56.setTop (mkF m 70 #[.val (.int p1), .val (.int p2), .val (.int ((p1 &&& (2147483647 : Int32)) - ((p1 &&& (2147483647 : Int32)) / (3 : Int32)) * (3 : Int32))), .val (.int ((p2 &&& (2147483647 : Int32)) - ((p2 &&& (2147483647 : Int32)) / (3 : Int32)) * (3 : Int32))), .val (.ref b1), .unset] [(.ref (own_from (own_pick ((p1 &&& (2147483647 : Int32)) - ((p1 &&& (2147483647 : Int32)) / (3 : Int32)) * (3 : Int32)) wF wU wT wX) (own_pick ((p2 &&& (2147483647 : Int32)) - ((p2 &&& (2147483647 : Int32)) / (3 : Int32)) * (3 : Int32)) wF wU wT wX) wF wU wT wX))])) _
    refine XS.astore X56.here hx rfl (hb hby at_70) rfl rfl (l' := #[.val (.int p1), .val (.int p2), .val (.int ((p1 &&& (2147483647 : Int32)) - ((p1 &&& (2147483647 : Int32)) / (3 : Int32)) * (3 : Int32))), .val (.int ((p2 &&& (2147483647 : Int32)) - ((p2 &&& (2147483647 : Int32)) / (3 : Int32)) * (3 : Int32))), .val (.ref b1), .val (.ref (own_from (own_pick ((p1 &&& (2147483647 : Int32)) - ((p1 &&& (2147483647 : Int32)) / (3 : Int32)) * (3 : Int32)) wF wU wT wX) (own_pick ((p2 &&& (2147483647 : Int32)) - ((p2 &&& (2147483647 : Int32)) / (3 : Int32)) * (3 : Int32)) wF wU wT wX) wF wU wT wX))]) rfl ?_
    show Steps _ _ _ (T56.setTop (mkF m 72 #[.val (.int p1), .val (.int p2), .val (.int ((p1 &&& (2147483647 : Int32)) - ((p1 &&& (2147483647 : Int32)) / (3 : Int32)) * (3 : Int32))), .val (.int ((p2 &&& (2147483647 : Int32)) - ((p2 &&& (2147483647 : Int32)) / (3 : Int32)) * (3 : Int32))), .val (.ref b1), .val (.ref (own_from (own_pick ((p1 &&& (2147483647 : Int32)) - ((p1 &&& (2147483647 : Int32)) / (3 : Int32)) * (3 : Int32)) wF wU wT wX) (own_pick ((p2 &&& (2147483647 : Int32)) - ((p2 &&& (2147483647 : Int32)) / (3 : Int32)) * (3 : Int32)) wF wU wT wX) wF wU wT wX))] [])) _
    refine XS.aload X56.here hx rfl (hb hby at_72) rfl rfl ?_
    show Steps _ _ _ (T56.setTop (mkF m 74 #[.val (.int p1), .val (.int p2), .val (.int ((p1 &&& (2147483647 : Int32)) - ((p1 &&& (2147483647 : Int32)) / (3 : Int32)) * (3 : Int32))), .val (.int ((p2 &&& (2147483647 : Int32)) - ((p2 &&& (2147483647 : Int32)) / (3 : Int32)) * (3 : Int32))), .val (.ref b1), .val (.ref (own_from (own_pick ((p1 &&& (2147483647 : Int32)) - ((p1 &&& (2147483647 : Int32)) / (3 : Int32)) * (3 : Int32)) wF wU wT wX) (own_pick ((p2 &&& (2147483647 : Int32)) - ((p2 &&& (2147483647 : Int32)) / (3 : Int32)) * (3 : Int32)) wF wU wT wX) wF wU wT wX))] [(.ref (own_from (own_pick ((p1 &&& (2147483647 : Int32)) - ((p1 &&& (2147483647 : Int32)) / (3 : Int32)) * (3 : Int32)) wF wU wT wX) (own_pick ((p2 &&& (2147483647 : Int32)) - ((p2 &&& (2147483647 : Int32)) / (3 : Int32)) * (3 : Int32)) wF wU wT wX) wF wU wT wX))])) _
    refine XS.aload X56.here hx rfl (hb hby at_74) rfl rfl ?_
    show Steps _ _ _ (T56.setTop (mkF m 76 #[.val (.int p1), .val (.int p2), .val (.int ((p1 &&& (2147483647 : Int32)) - ((p1 &&& (2147483647 : Int32)) / (3 : Int32)) * (3 : Int32))), .val (.int ((p2 &&& (2147483647 : Int32)) - ((p2 &&& (2147483647 : Int32)) / (3 : Int32)) * (3 : Int32))), .val (.ref b1), .val (.ref (own_from (own_pick ((p1 &&& (2147483647 : Int32)) - ((p1 &&& (2147483647 : Int32)) / (3 : Int32)) * (3 : Int32)) wF wU wT wX) (own_pick ((p2 &&& (2147483647 : Int32)) - ((p2 &&& (2147483647 : Int32)) / (3 : Int32)) * (3 : Int32)) wF wU wT wX) wF wU wT wX))] [(.ref b1), (.ref (own_from (own_pick ((p1 &&& (2147483647 : Int32)) - ((p1 &&& (2147483647 : Int32)) / (3 : Int32)) * (3 : Int32)) wF wU wT wX) (own_pick ((p2 &&& (2147483647 : Int32)) - ((p2 &&& (2147483647 : Int32)) / (3 : Int32)) * (3 : Int32)) wF wU wT wX) wF wU wT wX))])) _
    refine XS.iloadN X56.here hx rfl (hb hby at_76) rfl ?_
    show Steps _ _ _ (T56.setTop (mkF m 77 #[.val (.int p1), .val (.int p2), .val (.int ((p1 &&& (2147483647 : Int32)) - ((p1 &&& (2147483647 : Int32)) / (3 : Int32)) * (3 : Int32))), .val (.int ((p2 &&& (2147483647 : Int32)) - ((p2 &&& (2147483647 : Int32)) / (3 : Int32)) * (3 : Int32))), .val (.ref b1), .val (.ref (own_from (own_pick ((p1 &&& (2147483647 : Int32)) - ((p1 &&& (2147483647 : Int32)) / (3 : Int32)) * (3 : Int32)) wF wU wT wX) (own_pick ((p2 &&& (2147483647 : Int32)) - ((p2 &&& (2147483647 : Int32)) / (3 : Int32)) * (3 : Int32)) wF wU wT wX) wF wU wT wX))] [(.int ((p1 &&& (2147483647 : Int32)) - ((p1 &&& (2147483647 : Int32)) / (3 : Int32)) * (3 : Int32))), (.ref b1), (.ref (own_from (own_pick ((p1 &&& (2147483647 : Int32)) - ((p1 &&& (2147483647 : Int32)) / (3 : Int32)) * (3 : Int32)) wF wU wT wX) (own_pick ((p2 &&& (2147483647 : Int32)) - ((p2 &&& (2147483647 : Int32)) / (3 : Int32)) * (3 : Int32)) wF wU wT wX) wF wU wT wX))])) _
    refine XS.iconst X56.here hx rfl (hb hby at_77) ?_
    show Steps _ _ _ (T56.setTop (mkF m 78 #[.val (.int p1), .val (.int p2), .val (.int ((p1 &&& (2147483647 : Int32)) - ((p1 &&& (2147483647 : Int32)) / (3 : Int32)) * (3 : Int32))), .val (.int ((p2 &&& (2147483647 : Int32)) - ((p2 &&& (2147483647 : Int32)) / (3 : Int32)) * (3 : Int32))), .val (.ref b1), .val (.ref (own_from (own_pick ((p1 &&& (2147483647 : Int32)) - ((p1 &&& (2147483647 : Int32)) / (3 : Int32)) * (3 : Int32)) wF wU wT wX) (own_pick ((p2 &&& (2147483647 : Int32)) - ((p2 &&& (2147483647 : Int32)) / (3 : Int32)) * (3 : Int32)) wF wU wT wX) wF wU wT wX))] [(.int (3 : Int32)), (.int ((p1 &&& (2147483647 : Int32)) - ((p1 &&& (2147483647 : Int32)) / (3 : Int32)) * (3 : Int32))), (.ref b1), (.ref (own_from (own_pick ((p1 &&& (2147483647 : Int32)) - ((p1 &&& (2147483647 : Int32)) / (3 : Int32)) * (3 : Int32)) wF wU wT wX) (own_pick ((p2 &&& (2147483647 : Int32)) - ((p2 &&& (2147483647 : Int32)) / (3 : Int32)) * (3 : Int32)) wF wU wT wX) wF wU wT wX))])) _
    refine XS.imul X56.here hx rfl (hb hby at_78) rfl ?_
    show Steps _ _ _ (T56.setTop (mkF m 79 #[.val (.int p1), .val (.int p2), .val (.int ((p1 &&& (2147483647 : Int32)) - ((p1 &&& (2147483647 : Int32)) / (3 : Int32)) * (3 : Int32))), .val (.int ((p2 &&& (2147483647 : Int32)) - ((p2 &&& (2147483647 : Int32)) / (3 : Int32)) * (3 : Int32))), .val (.ref b1), .val (.ref (own_from (own_pick ((p1 &&& (2147483647 : Int32)) - ((p1 &&& (2147483647 : Int32)) / (3 : Int32)) * (3 : Int32)) wF wU wT wX) (own_pick ((p2 &&& (2147483647 : Int32)) - ((p2 &&& (2147483647 : Int32)) / (3 : Int32)) * (3 : Int32)) wF wU wT wX) wF wU wT wX))] [(.int (((p1 &&& (2147483647 : Int32)) - ((p1 &&& (2147483647 : Int32)) / (3 : Int32)) * (3 : Int32)) * (3 : Int32))), (.ref b1), (.ref (own_from (own_pick ((p1 &&& (2147483647 : Int32)) - ((p1 &&& (2147483647 : Int32)) / (3 : Int32)) * (3 : Int32)) wF wU wT wX) (own_pick ((p2 &&& (2147483647 : Int32)) - ((p2 &&& (2147483647 : Int32)) / (3 : Int32)) * (3 : Int32)) wF wU wT wX) wF wU wT wX))])) _
    exact k
  obtain ⟨c59, Arc59, Aqc59, Asc59, Anc59, Ahc59, Agc59⟩ := id V48
  have hin60 : ¬ (((((p1 &&& (2147483647 : Int32)) - ((p1 &&& (2147483647 : Int32)) / (3 : Int32)) * (3 : Int32)) * (3 : Int32)) + ((p2 &&& (2147483647 : Int32)) - ((p2 &&& (2147483647 : Int32)) / (3 : Int32)) * (3 : Int32))) < 0 ∨ c59.slots.size ≤ (((((p1 &&& (2147483647 : Int32)) - ((p1 &&& (2147483647 : Int32)) / (3 : Int32)) * (3 : Int32)) * (3 : Int32)) + ((p2 &&& (2147483647 : Int32)) - ((p2 &&& (2147483647 : Int32)) / (3 : Int32)) * (3 : Int32)))).toNatClampNeg) := inb_of Asc59 (own_in p1 p2)
  have hat61 : c59.slots[(((((p1 &&& (2147483647 : Int32)) - ((p1 &&& (2147483647 : Int32)) / (3 : Int32)) * (3 : Int32)) * (3 : Int32)) + ((p2 &&& (2147483647 : Int32)) - ((p2 &&& (2147483647 : Int32)) / (3 : Int32)) * (3 : Int32)))).toNatClampNeg]? = some (.int (own_tab (own_r3 p1) (own_r3 p2))) := Has.at Ahc59 hin60 (own_at p1 p2)
  obtain ⟨_, _, ⟨T62, L62, k62, n62⟩, -, X62, ⟨Lc62, hQ62, l62, y62, z62⟩, st62⟩ := Jvm.LawKit.callS X56 hx (y := (⟨"com/example/lichen/lichen/model/TruthValueFromDoubledProgramPinLaw", "pick", "(I)Lcom/example/lichen/lichen/model/TruthValue;"⟩ : MethodName)) hown (mvT hZ (hw _ (List.mem_of_getElem? (i := 2) rfl))) (mvT hZ (hw _ (List.mem_of_getElem? (i := 3) rfl))) (mvT hZ (hw _ (List.mem_of_getElem? (i := 4) rfl))) (mvT hZ (hw _ (List.mem_of_getElem? (i := 5) rfl))) (by decide) (backOf (W := 1) (rm1 l Z a0 hw [] (own_tab (own_r3 p1) (own_r3 p2)) wF wU wT wX h48 n0 (Nat.le_trans Z0 KC49.1) O51 SF SU ST SX) hZ (hw _ (List.mem_of_getElem? (i := 5) rfl)) (hw _ (List.mem_of_getElem? (i := 4) rfl)) (by decide) (by decide)) (g := (mkF m 82 #[.val (.int p1), .val (.int p2), .val (.int ((p1 &&& (2147483647 : Int32)) - ((p1 &&& (2147483647 : Int32)) / (3 : Int32)) * (3 : Int32))), .val (.int ((p2 &&& (2147483647 : Int32)) - ((p2 &&& (2147483647 : Int32)) / (3 : Int32)) * (3 : Int32))), .val (.ref b1), .val (.ref (own_from (own_pick ((p1 &&& (2147483647 : Int32)) - ((p1 &&& (2147483647 : Int32)) / (3 : Int32)) * (3 : Int32)) wF wU wT wX) (own_pick ((p2 &&& (2147483647 : Int32)) - ((p2 &&& (2147483647 : Int32)) / (3 : Int32)) * (3 : Int32)) wF wU wT wX) wF wU wT wX))] [(.int (own_tab (own_r3 p1) (own_r3 p2))), (.ref (own_from (own_pick ((p1 &&& (2147483647 : Int32)) - ((p1 &&& (2147483647 : Int32)) / (3 : Int32)) * (3 : Int32)) wF wU wT wX) (own_pick ((p2 &&& (2147483647 : Int32)) - ((p2 &&& (2147483647 : Int32)) / (3 : Int32)) * (3 : Int32)) wF wU wT wX) wF wU wT wX))])) rfl (by rw [hml]; rfl) (argsL := [(.int (own_tab (own_r3 p1) (own_r3 p2)))]) (rest := [(.ref (own_from (own_pick ((p1 &&& (2147483647 : Int32)) - ((p1 &&& (2147483647 : Int32)) / (3 : Int32)) * (3 : Int32)) wF wU wT wX) (own_pick ((p2 &&& (2147483647 : Int32)) - ((p2 &&& (2147483647 : Int32)) / (3 : Int32)) * (3 : Int32)) wF wU wT wX) wF wU wT wX))]) (lenOf pd_1 rfl) rfl (by show 2 * 0 + _ ≤ _; exact Nat.le_of_eq rfl) (hb hby at_82) (fun _ _ => ⟨rfl, q56_0, (by decide : 1 + 0 ≤ _), (by decide : 9 + 0 ≤ _)⟩)
  dsimp only [Pt.U, Pt.locs, Pt.cells, Pt.slots] at X62 l62 y62 z62 st62 hQ62
  subst l62 y62 z62
  obtain ⟨rfl, Nq62, q62_0⟩ := hQ62
  have N63 := Fr.app N57 Nq62
  have hc64 : (own_from (own_pick ((p1 &&& (2147483647 : Int32)) - ((p1 &&& (2147483647 : Int32)) / (3 : Int32)) * (3 : Int32)) wF wU wT wX) (own_pick ((p2 &&& (2147483647 : Int32)) - ((p2 &&& (2147483647 : Int32)) / (3 : Int32)) * (3 : Int32)) wF wU wT wX) wF wU wT wX) = (own_pick (own_tab (own_r3 p1) (own_r3 p2)) wF wU wT wX) := own_law p1 p2 wF wU wT wX qn1 qn2 qn3 qn4 qn5 qn6
  have pre65 : ∀ t, Steps p.tables e below (T62.setTop (mkF m 93 #[.val (.int p1), .val (.int p2), .val (.int ((p1 &&& (2147483647 : Int32)) - ((p1 &&& (2147483647 : Int32)) / (3 : Int32)) * (3 : Int32))), .val (.int ((p2 &&& (2147483647 : Int32)) - ((p2 &&& (2147483647 : Int32)) / (3 : Int32)) * (3 : Int32))), .val (.ref b1), .val (.ref (own_from (own_pick ((p1 &&& (2147483647 : Int32)) - ((p1 &&& (2147483647 : Int32)) / (3 : Int32)) * (3 : Int32)) wF wU wT wX) (own_pick ((p2 &&& (2147483647 : Int32)) - ((p2 &&& (2147483647 : Int32)) / (3 : Int32)) * (3 : Int32)) wF wU wT wX) wF wU wT wX))] [(.int (1 : Int32))])) t → Steps p.tables e below (s₁.setTop (entryFrame m #[(.int p1), (.int p2)] maxLocals)) t := by
    intro t k
    refine pre58 t ?_
    refine XS.iloadN X56.here hx rfl (hb hby at_79) rfl ?_
    show Steps _ _ _ (T56.setTop (mkF m 80 #[.val (.int p1), .val (.int p2), .val (.int ((p1 &&& (2147483647 : Int32)) - ((p1 &&& (2147483647 : Int32)) / (3 : Int32)) * (3 : Int32))), .val (.int ((p2 &&& (2147483647 : Int32)) - ((p2 &&& (2147483647 : Int32)) / (3 : Int32)) * (3 : Int32))), .val (.ref b1), .val (.ref (own_from (own_pick ((p1 &&& (2147483647 : Int32)) - ((p1 &&& (2147483647 : Int32)) / (3 : Int32)) * (3 : Int32)) wF wU wT wX) (own_pick ((p2 &&& (2147483647 : Int32)) - ((p2 &&& (2147483647 : Int32)) / (3 : Int32)) * (3 : Int32)) wF wU wT wX) wF wU wT wX))] [(.int ((p2 &&& (2147483647 : Int32)) - ((p2 &&& (2147483647 : Int32)) / (3 : Int32)) * (3 : Int32))), (.int (((p1 &&& (2147483647 : Int32)) - ((p1 &&& (2147483647 : Int32)) / (3 : Int32)) * (3 : Int32)) * (3 : Int32))), (.ref b1), (.ref (own_from (own_pick ((p1 &&& (2147483647 : Int32)) - ((p1 &&& (2147483647 : Int32)) / (3 : Int32)) * (3 : Int32)) wF wU wT wX) (own_pick ((p2 &&& (2147483647 : Int32)) - ((p2 &&& (2147483647 : Int32)) / (3 : Int32)) * (3 : Int32)) wF wU wT wX) wF wU wT wX))])) _
    refine XS.iadd X56.here hx rfl (hb hby at_80) rfl ?_
    show Steps _ _ _ (T56.setTop (mkF m 81 #[.val (.int p1), .val (.int p2), .val (.int ((p1 &&& (2147483647 : Int32)) - ((p1 &&& (2147483647 : Int32)) / (3 : Int32)) * (3 : Int32))), .val (.int ((p2 &&& (2147483647 : Int32)) - ((p2 &&& (2147483647 : Int32)) / (3 : Int32)) * (3 : Int32))), .val (.ref b1), .val (.ref (own_from (own_pick ((p1 &&& (2147483647 : Int32)) - ((p1 &&& (2147483647 : Int32)) / (3 : Int32)) * (3 : Int32)) wF wU wT wX) (own_pick ((p2 &&& (2147483647 : Int32)) - ((p2 &&& (2147483647 : Int32)) / (3 : Int32)) * (3 : Int32)) wF wU wT wX) wF wU wT wX))] [(.int ((((p1 &&& (2147483647 : Int32)) - ((p1 &&& (2147483647 : Int32)) / (3 : Int32)) * (3 : Int32)) * (3 : Int32)) + ((p2 &&& (2147483647 : Int32)) - ((p2 &&& (2147483647 : Int32)) / (3 : Int32)) * (3 : Int32)))), (.ref b1), (.ref (own_from (own_pick ((p1 &&& (2147483647 : Int32)) - ((p1 &&& (2147483647 : Int32)) / (3 : Int32)) * (3 : Int32)) wF wU wT wX) (own_pick ((p2 &&& (2147483647 : Int32)) - ((p2 &&& (2147483647 : Int32)) / (3 : Int32)) * (3 : Int32)) wF wU wT wX) wF wU wT wX))])) _
    refine X56.iaload hx (j := ((((p1 &&& (2147483647 : Int32)) - ((p1 &&& (2147483647 : Int32)) / (3 : Int32)) * (3 : Int32)) * (3 : Int32)) + ((p2 &&& (2147483647 : Int32)) - ((p2 &&& (2147483647 : Int32)) / (3 : Int32)) * (3 : Int32)))) (v := (.int (own_tab (own_r3 p1) (own_r3 p2)))) (by rw [q56_0]; exact Arc59.1) (State.isArrayOf_alike hZ.alike Arc59.2.1) Arc59.2.2 hin60 hat61 (g := (mkF m 81 #[.val (.int p1), .val (.int p2), .val (.int ((p1 &&& (2147483647 : Int32)) - ((p1 &&& (2147483647 : Int32)) / (3 : Int32)) * (3 : Int32))), .val (.int ((p2 &&& (2147483647 : Int32)) - ((p2 &&& (2147483647 : Int32)) / (3 : Int32)) * (3 : Int32))), .val (.ref b1), .val (.ref (own_from (own_pick ((p1 &&& (2147483647 : Int32)) - ((p1 &&& (2147483647 : Int32)) / (3 : Int32)) * (3 : Int32)) wF wU wT wX) (own_pick ((p2 &&& (2147483647 : Int32)) - ((p2 &&& (2147483647 : Int32)) / (3 : Int32)) * (3 : Int32)) wF wU wT wX) wF wU wT wX))] [(.int ((((p1 &&& (2147483647 : Int32)) - ((p1 &&& (2147483647 : Int32)) / (3 : Int32)) * (3 : Int32)) * (3 : Int32)) + ((p2 &&& (2147483647 : Int32)) - ((p2 &&& (2147483647 : Int32)) / (3 : Int32)) * (3 : Int32)))), (.ref b1), (.ref (own_from (own_pick ((p1 &&& (2147483647 : Int32)) - ((p1 &&& (2147483647 : Int32)) / (3 : Int32)) * (3 : Int32)) wF wU wT wX) (own_pick ((p2 &&& (2147483647 : Int32)) - ((p2 &&& (2147483647 : Int32)) / (3 : Int32)) * (3 : Int32)) wF wU wT wX) wF wU wT wX))])) rfl rfl (hb hby at_81) _ ?_
    show Steps _ _ _ (T56.setTop (mkF m 82 #[.val (.int p1), .val (.int p2), .val (.int ((p1 &&& (2147483647 : Int32)) - ((p1 &&& (2147483647 : Int32)) / (3 : Int32)) * (3 : Int32))), .val (.int ((p2 &&& (2147483647 : Int32)) - ((p2 &&& (2147483647 : Int32)) / (3 : Int32)) * (3 : Int32))), .val (.ref b1), .val (.ref (own_from (own_pick ((p1 &&& (2147483647 : Int32)) - ((p1 &&& (2147483647 : Int32)) / (3 : Int32)) * (3 : Int32)) wF wU wT wX) (own_pick ((p2 &&& (2147483647 : Int32)) - ((p2 &&& (2147483647 : Int32)) / (3 : Int32)) * (3 : Int32)) wF wU wT wX) wF wU wT wX))] [(.int (own_tab (own_r3 p1) (own_r3 p2))), (.ref (own_from (own_pick ((p1 &&& (2147483647 : Int32)) - ((p1 &&& (2147483647 : Int32)) / (3 : Int32)) * (3 : Int32)) wF wU wT wX) (own_pick ((p2 &&& (2147483647 : Int32)) - ((p2 &&& (2147483647 : Int32)) / (3 : Int32)) * (3 : Int32)) wF wU wT wX) wF wU wT wX))])) _
    refine st62 _ ?_
    show Steps _ _ _ (T62.setTop (mkF m 85 #[.val (.int p1), .val (.int p2), .val (.int ((p1 &&& (2147483647 : Int32)) - ((p1 &&& (2147483647 : Int32)) / (3 : Int32)) * (3 : Int32))), .val (.int ((p2 &&& (2147483647 : Int32)) - ((p2 &&& (2147483647 : Int32)) / (3 : Int32)) * (3 : Int32))), .val (.ref b1), .val (.ref (own_from (own_pick ((p1 &&& (2147483647 : Int32)) - ((p1 &&& (2147483647 : Int32)) / (3 : Int32)) * (3 : Int32)) wF wU wT wX) (own_pick ((p2 &&& (2147483647 : Int32)) - ((p2 &&& (2147483647 : Int32)) / (3 : Int32)) * (3 : Int32)) wF wU wT wX) wF wU wT wX))] [(.ref (own_pick (own_tab (own_r3 p1) (own_r3 p2)) wF wU wT wX)), (.ref (own_from (own_pick ((p1 &&& (2147483647 : Int32)) - ((p1 &&& (2147483647 : Int32)) / (3 : Int32)) * (3 : Int32)) wF wU wT wX) (own_pick ((p2 &&& (2147483647 : Int32)) - ((p2 &&& (2147483647 : Int32)) / (3 : Int32)) * (3 : Int32)) wF wU wT wX) wF wU wT wX))])) _
    refine Jvm.RoadKit.acmp (g := (mkF m 85 #[.val (.int p1), .val (.int p2), .val (.int ((p1 &&& (2147483647 : Int32)) - ((p1 &&& (2147483647 : Int32)) / (3 : Int32)) * (3 : Int32))), .val (.int ((p2 &&& (2147483647 : Int32)) - ((p2 &&& (2147483647 : Int32)) / (3 : Int32)) * (3 : Int32))), .val (.ref b1), .val (.ref (own_from (own_pick ((p1 &&& (2147483647 : Int32)) - ((p1 &&& (2147483647 : Int32)) / (3 : Int32)) * (3 : Int32)) wF wU wT wX) (own_pick ((p2 &&& (2147483647 : Int32)) - ((p2 &&& (2147483647 : Int32)) / (3 : Int32)) * (3 : Int32)) wF wU wT wX) wF wU wT wX))] [(.ref (own_pick (own_tab (own_r3 p1) (own_r3 p2)) wF wU wT wX)), (.ref (own_from (own_pick ((p1 &&& (2147483647 : Int32)) - ((p1 &&& (2147483647 : Int32)) / (3 : Int32)) * (3 : Int32)) wF wU wT wX) (own_pick ((p2 &&& (2147483647 : Int32)) - ((p2 &&& (2147483647 : Int32)) / (3 : Int32)) * (3 : Int32)) wF wU wT wX) wF wU wT wX))])) X62 hx rfl rfl rfl (pc0 := 85) (pc' := 88) (same := true) rfl (hb hby at_85) rfl (decide_eq_true (congrArg Value.ref hc64)) (by decide) (by decide) ?_
    show Steps _ _ _ (T62.setTop (mkF m 88 #[.val (.int p1), .val (.int p2), .val (.int ((p1 &&& (2147483647 : Int32)) - ((p1 &&& (2147483647 : Int32)) / (3 : Int32)) * (3 : Int32))), .val (.int ((p2 &&& (2147483647 : Int32)) - ((p2 &&& (2147483647 : Int32)) / (3 : Int32)) * (3 : Int32))), .val (.ref b1), .val (.ref (own_from (own_pick ((p1 &&& (2147483647 : Int32)) - ((p1 &&& (2147483647 : Int32)) / (3 : Int32)) * (3 : Int32)) wF wU wT wX) (own_pick ((p2 &&& (2147483647 : Int32)) - ((p2 &&& (2147483647 : Int32)) / (3 : Int32)) * (3 : Int32)) wF wU wT wX) wF wU wT wX))] [])) _
    refine XS.iconst X62.here hx rfl (hb hby at_88) ?_
    show Steps _ _ _ (T62.setTop (mkF m 89 #[.val (.int p1), .val (.int p2), .val (.int ((p1 &&& (2147483647 : Int32)) - ((p1 &&& (2147483647 : Int32)) / (3 : Int32)) * (3 : Int32))), .val (.int ((p2 &&& (2147483647 : Int32)) - ((p2 &&& (2147483647 : Int32)) / (3 : Int32)) * (3 : Int32))), .val (.ref b1), .val (.ref (own_from (own_pick ((p1 &&& (2147483647 : Int32)) - ((p1 &&& (2147483647 : Int32)) / (3 : Int32)) * (3 : Int32)) wF wU wT wX) (own_pick ((p2 &&& (2147483647 : Int32)) - ((p2 &&& (2147483647 : Int32)) / (3 : Int32)) * (3 : Int32)) wF wU wT wX) wF wU wT wX))] [(.int (1 : Int32))])) _
    refine XS.goto X62.here hx rfl (pc0 := 89) (pc' := 93) rfl (hb hby at_89) (by decide) (by decide) ?_
    show Steps _ _ _ (T62.setTop (mkF m 93 #[.val (.int p1), .val (.int p2), .val (.int ((p1 &&& (2147483647 : Int32)) - ((p1 &&& (2147483647 : Int32)) / (3 : Int32)) * (3 : Int32))), .val (.int ((p2 &&& (2147483647 : Int32)) - ((p2 &&& (2147483647 : Int32)) / (3 : Int32)) * (3 : Int32))), .val (.ref b1), .val (.ref (own_from (own_pick ((p1 &&& (2147483647 : Int32)) - ((p1 &&& (2147483647 : Int32)) / (3 : Int32)) * (3 : Int32)) wF wU wT wX) (own_pick ((p2 &&& (2147483647 : Int32)) - ((p2 &&& (2147483647 : Int32)) / (3 : Int32)) * (3 : Int32)) wF wU wT wX) wF wU wT wX))] [(.int (1 : Int32))])) _
    exact k
  obtain ⟨fs, hr, hrun, hended, hW, hsame⟩ := X62.leave (v := some (.int (1 : Int32))) (fun h => by rw [Bd.returns] at h; cases h)
  refine ⟨_, _, pre65 _ ?_, hrun, hended, _, _, rfl, ?_, ⟨_, rfl⟩, hW, hsame.mono (by decide) (by decide)⟩
  · exact retN X62 hx (t := .boolean) Bd.returns (by simp) (hb hby at_93) hr
  · show Q_rm0 Z p1 p2 wF wU wT wX h0 n0 _ T62.heap _
    rw [q62_0]
    exact ⟨rfl, N63, KC49⟩
theorem own_fieldI {args : Array Value} {s : State} {t : Term} {w : Addr} {C n d : String} {k : Int32} (ev : t.eval args s none [] s = some (.ref w)) (h : (Jvm.Cond.eq (Jvm.Term.field t C n d) (Jvm.Term.int k)).value args s none s [] = some true) : s.fieldOf? w C n d = some (.int k) := by
  obtain ⟨x, y, e1, e2, e3, e4⟩ := cmp_v (Or.inl h)
  rw [fld_at ev] at e1
  rw [Term.int_eval] at e2
  cases e2
  obtain ⟨z, rfl⟩ := e4
  have q := gotT (Cond.eq_ints ((fld_at ev).trans e1) (Term.int_eval k)) h
  rw [e1, q]
set_option maxRecDepth 65536 in
set_option maxHeartbeats 40000000 in
theorem comes_1 {Post : Tables → Env → Array Value → State → Outcome → State → Prop} (hpost : ∀ tb e args s v u, (limb_1_1.after args s (.returned v) u = true ∧ limb_1_2.after args s (.returned v) u = true ∧ True) → FrameEnd s (.returned v) u (Jvm.fieldLocs frame_1_writes args s ++ Jvm.arrayLocs frame_1_arrays args s ++ Jvm.staticLocs frame_1_statics s) 16 128 → Post tb e args s (.returned v) u) :
    ArmFor flags0 classFile x code maxLocals ret World_1 tables_1 room_1 Calls_1 rest_1 Pre_1 Post := by
  intro l hfl _ _ p e ha hc hk s m args below hf hA hF happ hP
  obtain ⟨hcalls, hrest, hpre⟩ := hP
  obtain ⟨-, -, -, hnamed, -, -, -, hat⟩ := (Spec.applies_iff hf).mp happ
  obtain ⟨hg, hn⟩ := and_e (Cond.before_iff.mp (show (Jvm.Cond.and given_1 narrow_1).before args s = true from hpre))
  obtain ⟨g0, r0⟩ := and_e hg
  obtain ⟨g1, r1⟩ := and_e r0
  obtain ⟨w0, w1, rfl⟩ : ∃ w0 w1 : Value, args = #[w0, w1] := by
    have hs : args.size = 2 := by simpa [Cond.value, given_1] using g0
    obtain ⟨L⟩ := args
    match L, hs with
    | [w0, w1], _ => exact ⟨w0, w1, rfl⟩
  have hw := fun d (hd : d ∈ tables_1) => atoms_spec (ws := Jvm.Cond.code x code maxLocals ret :: tables_1) hat d (List.mem_cons_of_mem _ hd)
  have hfit : Fit s := fun {y c} hc i hi => by
    obtain ⟨ha, rfl⟩ := Array.getElem?_eq_some_iff.mp hc
    have q := List.all_eq_true.mp ((Array.all_eq_true_iff_forall_mem.mp hF) _ (Array.getElem_mem ha)) i (List.mem_range.mpr hi)
    simpa [Array.getElem?_eq_getElem hi] using q
  obtain ⟨i0, ei0⟩ := is_v g1
  obtain rfl : w0 = (.int i0) := Option.some.inj ei0
  obtain ⟨i1, ei1⟩ := is_v r1
  obtain rfl : w1 = (.int i1) := Option.some.inj ei1
  obtain ⟨x1, hn⟩ := and_e hn
  obtain ⟨x2, hn⟩ := and_e hn
  obtain ⟨x3, hn⟩ := and_e hn
  obtain ⟨x4, hn⟩ := and_e hn
  obtain ⟨x5, hn⟩ := and_e hn
  obtain ⟨x6, hn⟩ := and_e hn
  obtain ⟨x7, x8⟩ := and_e hn
  obtain ⟨wF, eF⟩ := exa_v x1
  obtain ⟨wX, eX⟩ := exa_v x2
  obtain ⟨wT, eT⟩ := exa_v x5
  obtain ⟨wU, eU⟩ := exa_v x7
  have SF := Sta.start eF (Or.inr ⟨(hw _ (List.mem_of_getElem? (i := 7) rfl)), (hw _ (List.mem_of_getElem? (i := 8) rfl))⟩)
  have SX := Sta.start eX (Or.inr ⟨(hw _ (List.mem_of_getElem? (i := 7) rfl)), (hw _ (List.mem_of_getElem? (i := 16) rfl))⟩)
  have ST := Sta.start eT (Or.inr ⟨(hw _ (List.mem_of_getElem? (i := 7) rfl)), (hw _ (List.mem_of_getElem? (i := 18) rfl))⟩)
  have SU := Sta.start eU (Or.inr ⟨(hw _ (List.mem_of_getElem? (i := 7) rfl)), (hw _ (List.mem_of_getElem? (i := 22) rfl))⟩)
  have oF := own_fieldI eF x3
  have oX := own_fieldI eX x4
  have oT := own_fieldI eT x6
  have oU := own_fieldI eU x8
  have nFU : wF ≠ wU := fun q => by subst q; rw [oF] at oU; exact absurd (Value.int.inj (Option.some.inj oU)) (by decide)
  have nFT : wF ≠ wT := fun q => by subst q; rw [oF] at oT; exact absurd (Value.int.inj (Option.some.inj oT)) (by decide)
  have nFX : wF ≠ wX := fun q => by subst q; rw [oF] at oX; exact absurd (Value.int.inj (Option.some.inj oX)) (by decide)
  have nUT : wU ≠ wT := fun q => by subst q; rw [oU] at oT; exact absurd (Value.int.inj (Option.some.inj oT)) (by decide)
  have nUX : wU ≠ wX := fun q => by subst q; rw [oU] at oX; exact absurd (Value.int.inj (Option.some.inj oX)) (by decide)
  have nTX : wT ≠ wX := fun q => by subst q; rw [oT] at oX; exact absurd (Value.int.inj (Option.some.inj oX)) (by decide)
  obtain ⟨n, o, h1, h2, h3, _, L, rfl, ⟨rfl, N, -⟩, hq⟩ := rm0 l s _ hw tables_1 i0 i1 wF wU wT wX s.heap s.heap.size (Nat.le_refl _) (Old.start s) SF SU ST SX nFU nFT nFX nUT nUX nTX p e ha hc hk s m _ below hf ((Spec.applies_iff_loose hf).mp happ).1 ⟨rfl, State.Warmed39.refl s, rfl⟩ trivial
  refine ⟨n, _, h1, h2, h3, hpost _ _ _ _ _ _ ⟨Cond.after_iff.mpr rfl, Cond.after_iff.mpr (eq_i res_at (Term.int_eval (1)) rfl), trivial⟩ ⟨hq.1, hq.2.1, (hq.2.2.sift fun y hy => Or.inr (N y hy)).mono (by decide) (by decide)⟩⟩
theorem main_1_1 : Claimed_1_1 := comes_1 fun _ _ _ _ _ _ h hF => ⟨h.1, hF⟩
theorem main_1_2 : Claimed_1_2 := comes_1 fun _ _ _ _ _ _ h hF => ⟨h.2.1, hF⟩
end Jvm.Pilot.@@N@@
namespace Jvm.Pilot.@@N@@
open Jvm Jvm.ClassFile Sem Op Lib Jvm.Free Jvm.Stand Jvm.Pilot.@@N@@.Jvm.D
/-! MADE BY PROGRAM (witnessworld.py) out of the Statement's table words and the real class files: 12 classes; the members and pool entries that the words name. The judged class is class 1, her method 2. -/
namespace start1
open Jvm.ClassFile
def u (s : String) : CpInfo := .utf8 (stringToUtf16 s)
/-- a pool by its gaps: so many unusable entries, then the entry; so many at the end -/
def gap : Nat → List CpInfo → List CpInfo
  | 0, r => r
  | n + 1, r => .unusable :: gap n r
def poolList (es : List (Nat × CpInfo)) (last : Nat) : List CpInfo := es.foldr (fun e r => gap e.1 (e.2 :: r)) (gap last [])
def pool (es : List (Nat × CpInfo)) (last : Nat) : Array CpInfo := ⟨poolList es last⟩
def fileOf (pool : Array CpInfo) (this : Nat) (attrs : Array Attribute := #[]) (ms : Array MethodInfo := #[]) (fl : Nat := 33) (sup : Nat := 0) (ifs : Array Nat := #[]) (fds : Array FieldInfo := #[]) : ClassFile where
  minorVersion := 0
  majorVersion := 65
  constantPool := pool
  accessFlags := fl
  thisClass := this
  superClass := sup
  interfaces := ifs
  fields := fds
  methods := ms
  attributes := attrs
def plain (name : String) (sup : Option ClassId) : Class where
  name := name
  kind := .ordinary
  loader := none
  accessFlags := 33
  super := sup
  interfaces := #[]
  cf := none
  fields := #[]
  methods := #[]
  instanceTypes := #[]
  staticTypes := #[]
  resolved := #[]
  callSites := []
  init := .initialized
  statics := none
  mirror := none

def pool0 : Array CpInfo := pool [(5, u "<init>"), (0, u "()V"), (1, .class_ 10), (1, u "java/lang/Object")] 113

def k0m0 : Method := { name := "<init>", desc := "()V", sig := { parameters := [], returnType := none }, accessFlags := 1, code := none }
/-- java/lang/Object -/
def k0 : Class := { plain "java/lang/Object" none with
  accessFlags := 33
  interfaces := #[]
  cf := some (fileOf pool0 8 #[] #[{ accessFlags := 1, nameIndex := 5, descriptorIndex := 6, attributes := #[] }] 33 0 #[] #[])
  fields := #[]
  methods := #[k0m0]
  instanceTypes := #[]
  staticTypes := #[]
  resolved := Array.replicate 124 none
  statics := none }

def pool1 : Array CpInfo := pool [(2, .class_ 4), (1, u "java/lang/Object"), (0, u "<init>"), (0, u "()V"), (0, .fieldref 8 9), (0, .class_ 10), (0, .nameAndType 11 12), (0, u "com/example/lichen/lichen/model/TruthValue"), (0, u "FALSE"), (0, u "Lcom/example/lichen/lichen/model/TruthValue;"), (0, .fieldref 8 14), (0, .nameAndType 15 12), (0, u "UNDEFINED"), (0, .fieldref 8 17), (0, .nameAndType 18 12), (0, u "TRUE"), (0, .fieldref 8 20), (0, .nameAndType 21 12), (0, u "INCONSISTENT"), (0, .integer 2147483647), (0, .methodref 24 25), (0, .class_ 26), (0, .nameAndType 27 28), (0, u "com/example/lichen/lichen/model/TruthValueFromDoubledProgramPinLaw"), (0, u "pick"), (0, u "(I)Lcom/example/lichen/lichen/model/TruthValue;"), (0, .methodref 8 30), (0, .nameAndType 31 32), (0, u "fromDoubledProgram"), (0, u "(Lcom/example/lichen/lichen/model/TruthValue;Lcom/example/lichen/lichen/model/TruthValue;)Lcom/example/lichen/lichen/model/TruthValue;"), (3, u "law"), (0, u "(II)Z")] 4

def k1m0 : Method := { name := "<init>", desc := "()V", sig := { parameters := [], returnType := none }, accessFlags := 2, code := none }
def k1c1 : Code := { maxStack := 2, maxLocals := 1, code := method_2_code, exceptionTable := #[], attributes := #[] }
def k1m1 : Method := { name := "pick", desc := "(I)Lcom/example/lichen/lichen/model/TruthValue;", sig := { parameters := [.int], returnType := some (.object "com/example/lichen/lichen/model/TruthValue") }, accessFlags := 10, code := some k1c1 }
def k1c2 : Code := { maxStack := 4, maxLocals := 6, code := code, exceptionTable := #[], attributes := #[] }
def k1m2 : Method := { name := "law", desc := "(II)Z", sig := { parameters := [.int, .int], returnType := some .boolean }, accessFlags := 9, code := some k1c2 }
/-- com/example/lichen/lichen/model/TruthValueFromDoubledProgramPinLaw -/
def k1 : Class := { plain "com/example/lichen/lichen/model/TruthValueFromDoubledProgramPinLaw" (some 0) with
  accessFlags := 49
  interfaces := #[]
  cf := some (fileOf pool1 24 #[] #[{ accessFlags := 2, nameIndex := 5, descriptorIndex := 6, attributes := #[] }, { accessFlags := 10, nameIndex := 27, descriptorIndex := 28, attributes := #[] }, { accessFlags := 9, nameIndex := 36, descriptorIndex := 37, attributes := #[] }] 49 2 #[] #[])
  fields := #[]
  methods := #[k1m0, k1m1, k1m2]
  instanceTypes := #[]
  staticTypes := #[]
  resolved := Array.replicate 42 none
  statics := none }

def pool2 : Array CpInfo := pool [(1, .class_ 2), (0, u "java/lang/constant/Constable"), (0, .class_ 4), (0, u "java/lang/Object")] 6

/-- java/lang/constant/Constable -/
def k2 : Class := { plain "java/lang/constant/Constable" (some 0) with
  accessFlags := 1537
  interfaces := #[]
  cf := some (fileOf pool2 1 #[] #[] 1537 3 #[] #[])
  fields := #[]
  methods := #[]
  instanceTypes := #[]
  staticTypes := #[]
  resolved := Array.replicate 11 none
  statics := none }

def pool3 : Array CpInfo := pool [(1, .class_ 2), (0, u "java/lang/Comparable"), (0, .class_ 4), (0, u "java/lang/Object")] 7

/-- java/lang/Comparable -/
def k3 : Class := { plain "java/lang/Comparable" (some 0) with
  accessFlags := 1537
  interfaces := #[]
  cf := some (fileOf pool3 1 #[] #[] 1537 3 #[] #[])
  fields := #[]
  methods := #[]
  instanceTypes := #[]
  staticTypes := #[]
  resolved := Array.replicate 12 none
  statics := none }

def pool4 : Array CpInfo := pool [(1, .class_ 2), (0, u "java/io/Serializable"), (0, .class_ 4), (0, u "java/lang/Object")] 2

/-- java/io/Serializable -/
def k4 : Class := { plain "java/io/Serializable" (some 0) with
  accessFlags := 1537
  interfaces := #[]
  cf := some (fileOf pool4 1 #[] #[] 1537 3 #[] #[])
  fields := #[]
  methods := #[]
  instanceTypes := #[]
  staticTypes := #[]
  resolved := Array.replicate 7 none
  statics := none }

def pool5 : Array CpInfo := pool [(2, .class_ 4), (1, u "java/lang/Enum"), (0, u "name"), (0, u "Ljava/lang/String;"), (2, u "ordinal"), (0, u "I"), (1, .class_ 14), (1, u "java/lang/Object"), (4, u "hash"), (86, .class_ 108), (1, u "java/lang/Enum$EnumDesc"), (2, .class_ 112), (0, u "java/lang/constant/Constable"), (0, .class_ 114), (0, u "java/lang/Comparable"), (0, .class_ 116), (0, u "java/io/Serializable")] 87

/-- java/lang/Enum -/
def k5 : Class := { plain "java/lang/Enum" (some 0) with
  accessFlags := 1057
  interfaces := #[2, 3, 4]
  cf := some (fileOf pool5 2 #[.nestMembers #[106]] #[] 1057 12 #[111, 113, 115] #[{ accessFlags := 18, nameIndex := 5, descriptorIndex := 6, attributes := #[] }, { accessFlags := 18, nameIndex := 9, descriptorIndex := 10, attributes := #[] }, { accessFlags := 2, nameIndex := 19, descriptorIndex := 10, attributes := #[] }])
  fields := #[{ name := "name", type := (.object "java/lang/String"), accessFlags := 18, slot := 0, constantValue := 0 }, { name := "ordinal", type := .int, accessFlags := 18, slot := 1, constantValue := 0 }, { name := "hash", type := .int, accessFlags := 2, slot := 2, constantValue := 0 }]
  methods := #[]
  instanceTypes := #[(.object "java/lang/String"), .int, .int]
  staticTypes := #[]
  resolved := Array.replicate 204 none
  statics := none }

def pool6 : Array CpInfo := pool [(1, .class_ 2), (0, u "com/example/lichen/lichen/model/TruthValue"), (0, .fieldref 1 4), (0, .nameAndType 5 6), (0, u "FALSE"), (0, u "Lcom/example/lichen/lichen/model/TruthValue;"), (0, .fieldref 1 8), (0, .nameAndType 9 6), (0, u "UNDEFINED"), (0, .fieldref 1 11), (0, .nameAndType 12 6), (0, u "TRUE"), (0, .fieldref 1 14), (0, .nameAndType 15 6), (0, u "INCONSISTENT"), (2, u "$VALUES"), (0, u "[Lcom/example/lichen/lichen/model/TruthValue;"), (6, .class_ 28), (1, u "java/lang/Enum"), (8, u "word"), (0, u "Ljava/lang/String;"), (13, .methodref 1 53), (0, .nameAndType 54 55), (0, u "requireInTruthOrder"), (0, u "(Lcom/example/lichen/lichen/model/TruthValue;Lcom/example/lichen/lichen/model/TruthValue;)V"), (42, u "fromDoubledProgram"), (0, u "(Lcom/example/lichen/lichen/model/TruthValue;Lcom/example/lichen/lichen/model/TruthValue;)Lcom/example/lichen/lichen/model/TruthValue;")] 7

def k6c0 : Code := { maxStack := 2, maxLocals := 3, code := prog_53_method_7_code, exceptionTable := #[], attributes := #[] }
def k6m0 : Method := { name := "fromDoubledProgram", desc := "(Lcom/example/lichen/lichen/model/TruthValue;Lcom/example/lichen/lichen/model/TruthValue;)Lcom/example/lichen/lichen/model/TruthValue;", sig := { parameters := [(.object "com/example/lichen/lichen/model/TruthValue"), (.object "com/example/lichen/lichen/model/TruthValue")], returnType := some (.object "com/example/lichen/lichen/model/TruthValue") }, accessFlags := 9, code := some k6c0 }
def k6c1 : Code := { maxStack := 2, maxLocals := 2, code := prog_53_method_9_code, exceptionTable := #[], attributes := #[] }
def k6m1 : Method := { name := "requireInTruthOrder", desc := "(Lcom/example/lichen/lichen/model/TruthValue;Lcom/example/lichen/lichen/model/TruthValue;)V", sig := { parameters := [(.object "com/example/lichen/lichen/model/TruthValue"), (.object "com/example/lichen/lichen/model/TruthValue")], returnType := none }, accessFlags := 10, code := some k6c1 }
/-- com/example/lichen/lichen/model/TruthValue -/
def k6 : Class := { plain "com/example/lichen/lichen/model/TruthValue" (some 5) with
  accessFlags := 16433
  interfaces := #[]
  cf := some (fileOf pool6 1 #[] #[{ accessFlags := 9, nameIndex := 98, descriptorIndex := 99, attributes := #[] }, { accessFlags := 10, nameIndex := 54, descriptorIndex := 55, attributes := #[] }] 16433 26 #[] #[{ accessFlags := 16409, nameIndex := 5, descriptorIndex := 6, attributes := #[] }, { accessFlags := 16409, nameIndex := 9, descriptorIndex := 6, attributes := #[] }, { accessFlags := 16409, nameIndex := 12, descriptorIndex := 6, attributes := #[] }, { accessFlags := 16409, nameIndex := 15, descriptorIndex := 6, attributes := #[] }, { accessFlags := 18, nameIndex := 37, descriptorIndex := 38, attributes := #[] }, { accessFlags := 4122, nameIndex := 18, descriptorIndex := 19, attributes := #[] }])
  fields := #[{ name := "FALSE", type := (.object "com/example/lichen/lichen/model/TruthValue"), accessFlags := 16409, slot := 0, constantValue := 0 }, { name := "UNDEFINED", type := (.object "com/example/lichen/lichen/model/TruthValue"), accessFlags := 16409, slot := 1, constantValue := 0 }, { name := "TRUE", type := (.object "com/example/lichen/lichen/model/TruthValue"), accessFlags := 16409, slot := 2, constantValue := 0 }, { name := "INCONSISTENT", type := (.object "com/example/lichen/lichen/model/TruthValue"), accessFlags := 16409, slot := 3, constantValue := 0 }, { name := "word", type := (.object "java/lang/String"), accessFlags := 18, slot := 3, constantValue := 0 }, { name := "$VALUES", type := (.array (.object "com/example/lichen/lichen/model/TruthValue")), accessFlags := 4122, slot := 4, constantValue := 0 }]
  methods := #[k6m0, k6m1]
  instanceTypes := #[(.object "java/lang/String"), .int, .int, (.object "java/lang/String")]
  staticTypes := #[(.object "com/example/lichen/lichen/model/TruthValue"), (.object "com/example/lichen/lichen/model/TruthValue"), (.object "com/example/lichen/lichen/model/TruthValue"), (.object "com/example/lichen/lichen/model/TruthValue"), (.array (.object "com/example/lichen/lichen/model/TruthValue"))]
  resolved := Array.replicate 107 none
  statics := some 0 }

def pool7 : Array CpInfo := pool [(1, u "java/lang/Cloneable"), (0, .class_ 1), (0, u "java/lang/Object"), (0, .class_ 3)] 3

/-- java/lang/Cloneable -/
def k7 : Class := { plain "java/lang/Cloneable" (some 0) with
  accessFlags := 1537
  interfaces := #[]
  cf := some (fileOf pool7 2 #[] #[] 1537 4 #[] #[])
  fields := #[]
  methods := #[]
  instanceTypes := #[]
  staticTypes := #[]
  resolved := Array.replicate 8 none
  statics := none }

/-- the primitive byte -/
def k8 : Class := { plain "byte" none with kind := .primitive 'B', accessFlags := 0x411 }
/-- [B -/
def k9 : Class := { plain "[B" (some 0) with kind := .array 8 .byte, interfaces := #[7, 4], accessFlags := 1041 }

/-- the primitive int -/
def k10 : Class := { plain "int" none with kind := .primitive 'I', accessFlags := 0x411 }
/-- [I -/
def k11 : Class := { plain "[I" (some 0) with kind := .array 10 .int, interfaces := #[7, 4], accessFlags := 1041 }

def heap : Heap := #[{ cls := 6, slots := #[.ref 1, .ref 2, .ref 3, .ref 4, .null], vm := .statics 6 },
  { cls := 6, slots := #[.null, .int 0, .int 0, .null], vm := .none },
  { cls := 6, slots := #[.null, .int 1, .int 0, .null], vm := .none },
  { cls := 6, slots := #[.null, .int 2, .int 0, .null], vm := .none },
  { cls := 6, slots := #[.null, .int 3, .int 0, .null], vm := .none }]
def classes : Array Class := #[k0, k1, k2, k3, k4, k5, k6, k7, k8, k9, k10, k11]
def interned : List (Array UInt16 × Addr) := []
def slotsUsed : Nat := 21
def theMethod : MethodId := ⟨1, 2⟩
def args0 : Array Value := #[.int 5, .int 1]
def aboutOver (below : List Frame) : State where
  vm := { classes := classes, interned := interned.toArray }
  heap := heap
  slotsUsed := slotsUsed
  threads := #[{ frames := .invoking theMethod args0 :: below }]
def below0 : List Frame := [.native { method := ⟨0, 0⟩, args := #[] }]
def about1 : State := aboutOver below0
def p0 : Program := .bare "" "" ""
def e0 : Env := launch0.env 0 0 0
theorem w_frames : about1.frames = Frame.invoking theMethod args0 :: below0 := rfl
set_option maxRecDepth 65536 in
theorem w_args : argsFit about1.vm theMethod args0 = true := by decide +kernel
set_option maxRecDepth 65536 in
theorem w_heap : heapFits about1 = true := by decide +kernel
set_option maxRecDepth 65536 in
theorem w_runnable : about1.curStatus? = some .runnable := by decide +kernel
set_option maxRecDepth 65536 in
theorem w_alone : about1.alone = true := by decide +kernel
set_option maxRecDepth 65536 in
theorem w_named : about1.methodNamed? x = some theMethod := by decide +kernel
set_option maxRecDepth 65536 in
theorem w_hears : about1.hears theMethod below0 = true := by decide +kernel
set_option maxRecDepth 65536 in
theorem w_ripe : about1.ripe theMethod args0 below0 = true := by decide +kernel
theorem w_running : about1.status = .running := rfl
set_option maxRecDepth 65536 in
theorem w_room : about1.hasRoom e0.platform room_1 = true :=
  launch0.hasRoom_least _ room_1 (by decide +kernel) (by decide +kernel) (by decide +kernel) (by decide +kernel) (by decide +kernel) (by decide +kernel)
theorem allAtoms_all (ts : List Jvm.Cond) (a : Array Jvm.Value) (st : Jvm.State) : (allAtoms ts).before a st = ts.all (fun c => c.before a st) := by
  induction ts with
  | nil => rfl
  | cons c t ih =>
    show (Jvm.Cond.and c (allAtoms t)).before a st = _
    rw [Jvm.Cond.before_and, ih, List.all_cons]
def words1 : List Jvm.Cond := Jvm.Cond.code x code maxLocals ret :: tables_1
/-- a 'code' word, met by the world's own term for the bytes: nothing is compared byte by byte -/
theorem code_word {y : MethodName} {bytes : ByteArray} {mx : Nat} {rt : Option FieldType} {a : Array Value} {s : State} {m : MethodId} {meth : Method} {c : Code} (h1 : s.methodNamed? y = some m) (h2 : s.vm.method? m = some meth) (h3 : meth.code = some c) (h4 : c.code = bytes)
    (h5 : (c.maxLocals == mx && c.exceptionTable.isEmpty && decide (c.maxStack ≤ mostOperands) && decide (meth.sig.returnType = rt) && !meth.locks && decide (parseMethodDescriptor y.desc = some meth.sig)) = true) : (Jvm.Cond.code y bytes mx rt).before a s = true := by
  simp only [Bool.and_eq_true, beq_iff_eq, Bool.not_eq_true', decide_eq_true_eq] at h5
  obtain ⟨⟨⟨⟨⟨g1, g2⟩, g3⟩, g4⟩, g5⟩, g6⟩ := h5
  simp [Cond.before, Cond.holds, Cond.value, h1, h2, h3, h4, g1, g2, g3, g4, g5, g6]
def isCode : Jvm.Cond → Bool
  | .code _ _ _ _ => true
  | _ => false
theorem all_split {L : List Jvm.Cond} {P : Jvm.Cond → Bool} (h1 : L.all (fun c => isCode c || P c) = true) (h2 : ∀ c ∈ L.filter isCode, P c = true) : L.all P = true := by
  refine List.all_eq_true.mpr fun c hc => ?_
  have h := List.all_eq_true.mp h1 c hc
  rcases Bool.eq_false_or_eq_true (isCode c) with hi | hi
  · exact h2 c (List.mem_filter.mpr ⟨hc, hi⟩)
  · simpa [hi] using h
set_option maxRecDepth 65536 in
theorem w_c0 : (Jvm.Cond.code x code maxLocals ret).before args0 about1 = true := code_word (m := ⟨1, 2⟩) (meth := k1m2) (c := k1c2) (by decide +kernel) rfl rfl rfl (by decide +kernel)
set_option maxRecDepth 65536 in
theorem w_c1 : (Jvm.Cond.code ({ cls := "com/example/lichen/lichen/model/TruthValueFromDoubledProgramPinLaw", name := "pick", desc := "(I)Lcom/example/lichen/lichen/model/TruthValue;" } : Jvm.MethodName) method_2_code (1 : Nat) (Option.some (Jvm.ClassFile.FieldType.object "com/example/lichen/lichen/model/TruthValue"))).before args0 about1 = true := code_word (m := ⟨1, 1⟩) (meth := k1m1) (c := k1c1) (by decide +kernel) rfl rfl rfl (by decide +kernel)
set_option maxRecDepth 65536 in
theorem w_c2 : (Jvm.Cond.code ({ cls := "com/example/lichen/lichen/model/TruthValue", name := "fromDoubledProgram", desc := "(Lcom/example/lichen/lichen/model/TruthValue;Lcom/example/lichen/lichen/model/TruthValue;)Lcom/example/lichen/lichen/model/TruthValue;" } : Jvm.MethodName) prog_53_method_7_code (3 : Nat) (Option.some (Jvm.ClassFile.FieldType.object "com/example/lichen/lichen/model/TruthValue"))).before args0 about1 = true := code_word (m := ⟨6, 0⟩) (meth := k6m0) (c := k6c0) (by decide +kernel) rfl rfl rfl (by decide +kernel)
set_option maxRecDepth 65536 in
theorem w_c3 : (Jvm.Cond.code ({ cls := "com/example/lichen/lichen/model/TruthValue", name := "requireInTruthOrder", desc := "(Lcom/example/lichen/lichen/model/TruthValue;Lcom/example/lichen/lichen/model/TruthValue;)V" } : Jvm.MethodName) prog_53_method_9_code (2 : Nat) (Option.none : Option Jvm.ClassFile.FieldType)).before args0 about1 = true := code_word (m := ⟨6, 1⟩) (meth := k6m1) (c := k6c1) (by decide +kernel) rfl rfl rfl (by decide +kernel)
def codes1 : List Jvm.Cond := [Jvm.Cond.code x code maxLocals ret, Jvm.Cond.code ({ cls := "com/example/lichen/lichen/model/TruthValueFromDoubledProgramPinLaw", name := "pick", desc := "(I)Lcom/example/lichen/lichen/model/TruthValue;" } : Jvm.MethodName) method_2_code (1 : Nat) (Option.some (Jvm.ClassFile.FieldType.object "com/example/lichen/lichen/model/TruthValue")), Jvm.Cond.code ({ cls := "com/example/lichen/lichen/model/TruthValue", name := "fromDoubledProgram", desc := "(Lcom/example/lichen/lichen/model/TruthValue;Lcom/example/lichen/lichen/model/TruthValue;)Lcom/example/lichen/lichen/model/TruthValue;" } : Jvm.MethodName) prog_53_method_7_code (3 : Nat) (Option.some (Jvm.ClassFile.FieldType.object "com/example/lichen/lichen/model/TruthValue")), Jvm.Cond.code ({ cls := "com/example/lichen/lichen/model/TruthValue", name := "requireInTruthOrder", desc := "(Lcom/example/lichen/lichen/model/TruthValue;Lcom/example/lichen/lichen/model/TruthValue;)V" } : Jvm.MethodName) prog_53_method_9_code (2 : Nat) (Option.none : Option Jvm.ClassFile.FieldType)]
set_option maxRecDepth 65536 in
theorem codes_eq : words1.filter isCode = codes1 := rfl
theorem w_codes : ∀ c ∈ words1.filter isCode, c.before args0 about1 = true := by
  rw [codes_eq]
  intro c hc
  simp only [codes1, List.mem_cons, List.not_mem_nil, or_false] at hc
  rcases hc with rfl | rfl | rfl | rfl
  · exact w_c0
  · exact w_c1
  · exact w_c2
  · exact w_c3
set_option maxRecDepth 65536 in
theorem w_t1 : (words1.take 24).all (fun c => isCode c || c.before args0 about1) = true := by decide +kernel
set_option maxRecDepth 65536 in
theorem w_t2 : (words1.drop 24).all (fun c => isCode c || c.before args0 about1) = true := by decide +kernel
theorem w_tables : (allAtoms (Jvm.Cond.code x code maxLocals ret :: tables_1)).before args0 about1 = true := by
  rw [allAtoms_all]
  show words1.all (fun c => c.before args0 about1) = true
  refine all_split ?_ w_codes
  rw [← List.take_append_drop 24 words1, List.all_append, w_t1, w_t2]
  rfl
set_option maxRecDepth 65536 in
theorem w_case : (Jvm.Cond.and given_1 narrow_1).before args0 about1 = true := by decide +kernel
theorem w_applies : (headSpec (Jvm.Cond.code x code maxLocals ret :: tables_1) room_1).applies x e0.platform about1 = true :=
  (Spec.applies_iff w_frames).mpr ⟨w_running, w_runnable, w_alone, w_named, w_hears, w_ripe, w_room, w_tables⟩
theorem atStart : AtStart classFile x code maxLocals ret World_1 tables_1 room_1 Calls_1 rest_1 Pre_1 launch0 p0 e0 about1 theMethod args0 below0 :=
  ⟨lists_1, trivial, launch0.admits_env _ _ _, launch0.least_env, fairChoices_fair.cas, fairChoices_fair.clock, w_frames, w_args, w_heap, w_applies, trivial, trivial, w_case⟩
end start1
theorem witness_1 : WitnessClaimed_1 := ⟨start1.p0, start1.e0, start1.about1, start1.theMethod, start1.args0, start1.below0, start1.atStart⟩
end Jvm.Pilot.@@N@@
