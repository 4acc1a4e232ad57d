import JvmDerived
import JvmDerived.Pilot.@@N@@Statement
import JvmDerived.Pilot.@@N@@Code
set_option linter.unusedVariables false
set_option linter.unusedSimpArgs false
namespace Jvm.RoadKit
open Sem ClassFile Op Lib Jvm.Stand Jvm.Free Jvm.LawKit
section New
variable {p : Program} {l : Launch} {e : Env} {R : Room} {s : State} {m : MethodId} {args : Array Value} {below : List Frame} {meth : Method} {c : Code} {T : State} {locs : List Loc} {cells slots : Nat}
theorem retI (X : Stand p l e R s m args below meth c T locs cells slots) (hx : p.tables.exec = Jvm.exec) {pc : Nat} {Ls : Array Slot} {z : Int32} {rest : List Value} (hret : meth.sig.returnType = some .int) (hd : decode c.code pc = .ok (.ireturn, 1)) {fs : List Frame}
    (hl : ∀ (f : JFrame) (acts : List Action), f.method = m → f.locked = none → f.entered = [] → (doReturn e (T.setTop f) acts (some (.int z))).1 = T.setFrames fs) : Steps p.tables e below (T.setTop (mkF m pc Ls (.int z :: rest))) (T.setFrames fs) := by
  have hm' : T.vm.method? m = some meth := X.method'
  have hn : narrow .int (.int z) = .int z := rfl
  show Steps p.tables e below (T.setTop { method := m, pc := pc, locals := Ls, stack := _ :: rest, locked := none }) _
  jvm_step X.here [X.here.top, hx, hd, hm', hret, hn]
  first | (intro acts; rw [hl _ acts rfl rfl rfl]) | rw [hl _ _ rfl rfl rfl]
  exact Steps.refl _
end New
end Jvm.RoadKit
namespace Jvm.Pilot.@@N@@
open Jvm Jvm.ClassFile Sem Op Lib Jvm.Free Jvm.Stand Jvm.LawKit Jvm.RoadKit Bundle Jvm.Pilot.@@N@@.Jvm.D

theorem own_nzU {q : Int64} (h : ¬ q < (0 : Int64)) : (((9223372036854775807 : Int64) - q) + (1 : Int64)) ≠ 0 ∨ ((9223372036854775807 : Int64) - q) = (9223372036854775807 : Int64) := by
  by_cases e : ((9223372036854775807 : Int64) - q) = (9223372036854775807 : Int64)
  · exact Or.inr e
  · refine Or.inl fun z => ?_
    have a := c_lsub (9223372036854775807 : Int64) q
    have lm : ((9223372036854775807 : Int64)).toInt = 9223372036854775807 := rfl
    have l0 : (0 : Int64).toInt = 0 := rfl
    have l1 : (1 : Int64).toInt = 1 := rfl
    have r := rng64 q
    have r1 := rng64 ((9223372036854775807 : Int64) - q)
    have b := c_ladd ((9223372036854775807 : Int64) - q) 1
    rw [z] at b
    rw [Int64.lt_iff_toInt_lt] at h
    have e' : ¬ ((9223372036854775807 : Int64) - q).toInt = 9223372036854775807 := fun w => e (Int64.toInt_inj.mp w)
    omega
def own_up (q1 q2 : Int64) : Int64 := if ((9223372036854775807 : Int64) - q1) = (9223372036854775807 : Int64) then (q1 + q2) else (q1 + (q2 - (q2 / (((9223372036854775807 : Int64) - q1) + (1 : Int64))) * (((9223372036854775807 : Int64) - q1) + (1 : Int64))))
theorem d1_0 : decode method_2_code 0 = .ok (.ldc2_w 9, 3) := by decide +kernel
theorem d1_3 : decode method_2_code 3 = .ok (.lload_n 0, 1) := by decide +kernel
theorem d1_4 : decode method_2_code 4 = .ok (.lsub, 1) := by decide +kernel
theorem d1_5 : decode method_2_code 5 = .ok (.lstore 4, 2) := by decide +kernel
theorem d1_7 : decode method_2_code 7 = .ok (.lload 4, 2) := by decide +kernel
theorem d1_9 : decode method_2_code 9 = .ok (.ldc2_w 9, 3) := by decide +kernel
theorem d1_12 : decode method_2_code 12 = .ok (.lcmp, 1) := by decide +kernel
theorem d1_13 : decode method_2_code 13 = .ok (.ifCond .ne 7, 3) := by decide +kernel
theorem d1_16 : decode method_2_code 16 = .ok (.lload_n 0, 1) := by decide +kernel
theorem d1_17 : decode method_2_code 17 = .ok (.lload_n 2, 1) := by decide +kernel
theorem d1_18 : decode method_2_code 18 = .ok (.ladd, 1) := by decide +kernel
theorem d1_19 : decode method_2_code 19 = .ok (.lreturn, 1) := by decide +kernel
theorem d1_20 : decode method_2_code 20 = .ok (.lload_n 0, 1) := by decide +kernel
theorem d1_21 : decode method_2_code 21 = .ok (.lload_n 2, 1) := by decide +kernel
theorem d1_22 : decode method_2_code 22 = .ok (.lload 4, 2) := by decide +kernel
theorem d1_24 : decode method_2_code 24 = .ok (.lconst 1, 1) := by decide +kernel
theorem d1_25 : decode method_2_code 25 = .ok (.ladd, 1) := by decide +kernel
theorem d1_26 : decode method_2_code 26 = .ok (.lrem, 1) := by decide +kernel
theorem d1_27 : decode method_2_code 27 = .ok (.ladd, 1) := by decide +kernel
theorem d1_28 : decode method_2_code 28 = .ok (.lreturn, 1) := by decide +kernel
theorem pn_0 : plainName "com/example/copse/copse/tree/NodeLabelIsAncestorOfPinLaw" = true := by first | (simp [plainName, overriddenIn]; done) | decide +kernel
theorem ef_rm1 (m : MethodId) (x0 : Int64) (x1 : Int64) : entryFrame m #[(.long x0), (.long x1)] 6 = mkF m 0 #[.val (.long x0), .second, .val (.long x1), .second, .unset, .unset] [] := by first | (simp [entryFrame, mkF, argsToLocals, Value.category]; done) | rfl
def Q_rm1 (Z : State) (q1 : Int64) (q2 : Int64) (h0 : Heap) (n0 : Nat) (v : Option Value) (h : Heap) (L : List Loc) : Prop := v = some (.long (own_up q1 q2)) ∧ Fr n0 L ∧ h = h0
set_option maxRecDepth 65536 in
set_option maxHeartbeats 40000000 in
theorem rm1 (l : Launch) (Z : State) (a0 : Array Value) (hw : ∀ d ∈ tables_1, d.before a0 Z = true) (ws : List Jvm.Cond) (q1 : Int64) (q2 : Int64) (h0 : Heap) (n0 : Nat) (Z0 : n0 ≤ h0.size) (hb0 : ¬ q1 < (0 : Int64)) :
    MetFree l (⟨"com/example/copse/copse/tree/NodeLabelIsAncestorOfPinLaw", "upTo", "(JJ)J"⟩ : MethodName) (head1 (Jvm.Cond.code (⟨"com/example/copse/copse/tree/NodeLabelIsAncestorOfPinLaw", "upTo", "(JJ)J"⟩ : MethodName) method_2_code 6 (some .long) :: ws) ({ frames := 0, cells := 0, slots := 0, locals := 0 } : Room)) (fun a U => a = #[(.long q1), (.long q2)] ∧ Z.Warmed39 U.vm ∧ U.heap = h0) (fun _ _ _ _ _ => True) (fun _ U o U' => ∃ v L, o = .returned v ∧ Q_rm1 Z q1 q2 h0 n0 v U'.heap L ∧ FrameEnd U o U' L ({ frames := 0, cells := 0, slots := 0, locals := 0 } : Room).cells ({ frames := 0, cells := 0, slots := 0, locals := 0 } : Room).slots) := by
  refine MetFree.of_bodySF (plainFor_of_name pn_0) hisR ?_
  intro p e s m args below meth c s₁ Bd hml0 hP hK
  obtain ⟨rfl, hZ, hh⟩ := hP
  have hx := Bd.exec
  have hby := Bd.bytes
  have hml : c.maxLocals = 6 := hml0
  have hown : s.vm.findClass "com/example/copse/copse/tree/NodeLabelIsAncestorOfPinLaw" = some m.cls := findClass_of_methodNamed Bd.named
  have hnm := (name_of_methodNamed Bd.named Bd.method).1
  have X0 : Stand p l e ({ frames := 0, cells := 0, slots := 0, locals := 0 } : Room) s m #[(.long q1), (.long q2)] below meth c s₁ [] 0 0 := Stand.of_body Bd
  have e0 : s₁.heap = h0 := by rw [← hh, Bd.state]; rfl
  have N0 := Fr.nil n0
  have pre0 : ∀ t, Steps p.tables e below (s₁.setTop (mkF m 0 #[.val (.long q1), .second, .val (.long q2), .second, .unset, .unset] [])) t → Steps p.tables e below (s₁.setTop (entryFrame m #[(.long q1), (.long q2)] 6)) t := fun t k => castTop (ef_rm1 m q1 q2) k
  have pre1 : ∀ t, Steps p.tables e below (s₁.setTop (mkF m 13 #[.val (.long q1), .second, .val (.long q2), .second, .val (.long ((9223372036854775807 : Int64) - q1)), .second] [(.int (lcmpW ((9223372036854775807 : Int64) - q1) (9223372036854775807 : Int64)))])) t → Steps p.tables e below (s₁.setTop (entryFrame m #[(.long q1), (.long q2)] 6)) t := by
    intro t k
    refine pre0 t ?_
    refine X0.ldc2Long hx hown (mvT hZ (hw _ (List.mem_of_getElem? (i := 0) rfl))) (g := (mkF m 0 #[.val (.long q1), .second, .val (.long q2), .second, .unset, .unset] [])) rfl (hb hby d1_0) _ ?_
    show Steps _ _ _ (s₁.setTop (mkF m 3 #[.val (.long q1), .second, .val (.long q2), .second, .unset, .unset] [(.long (9223372036854775807 : Int64))])) _
    refine XS.lloadN X0.here hx rfl (hb hby d1_3) rfl ?_
    show Steps _ _ _ (s₁.setTop (mkF m 4 #[.val (.long q1), .second, .val (.long q2), .second, .unset, .unset] [(.long q1), (.long (9223372036854775807 : Int64))])) _
    refine XS.lsub X0.here hx rfl (hb hby d1_4) rfl ?_
    show Steps _ _ _ (s₁.setTop (mkF m 5 #[.val (.long q1), .second, .val (.long q2), .second, .unset, .unset] [(.long ((9223372036854775807 : Int64) - q1))])) _
    refine XS.lstore X0.here hx rfl (hb hby d1_5) rfl (l' := #[.val (.long q1), .second, .val (.long q2), .second, .val (.long ((9223372036854775807 : Int64) - q1)), .second]) rfl ?_
    show Steps _ _ _ (s₁.setTop (mkF m 7 #[.val (.long q1), .second, .val (.long q2), .second, .val (.long ((9223372036854775807 : Int64) - q1)), .second] [])) _
    refine XS.lload X0.here hx rfl (hb hby d1_7) rfl ?_
    show Steps _ _ _ (s₁.setTop (mkF m 9 #[.val (.long q1), .second, .val (.long q2), .second, .val (.long ((9223372036854775807 : Int64) - q1)), .second] [(.long ((9223372036854775807 : Int64) - q1))])) _
    refine X0.ldc2Long hx hown (mvT hZ (hw _ (List.mem_of_getElem? (i := 0) rfl))) (g := (mkF m 9 #[.val (.long q1), .second, .val (.long q2), .second, .val (.long ((9223372036854775807 : Int64) - q1)), .second] [(.long ((9223372036854775807 : Int64) - q1))])) rfl (hb hby d1_9) _ ?_
    show Steps _ _ _ (s₁.setTop (mkF m 12 #[.val (.long q1), .second, .val (.long q2), .second, .val (.long ((9223372036854775807 : Int64) - q1)), .second] [(.long (9223372036854775807 : Int64)), (.long ((9223372036854775807 : Int64) - q1))])) _
    refine XS.lcmp X0.here hx rfl (hb hby d1_12) rfl ?_
    show Steps _ _ _ (s₁.setTop (mkF m 13 #[.val (.long q1), .second, .val (.long q2), .second, .val (.long ((9223372036854775807 : Int64) - q1)), .second] [(.int (lcmpW ((9223372036854775807 : Int64) - q1) (9223372036854775807 : Int64)))])) _
    exact k
  by_cases hE : ((9223372036854775807 : Int64) - q1) = (9223372036854775807 : Int64)
  · have pre2 : ∀ t, Steps p.tables e below (s₁.setTop (mkF m 19 #[.val (.long q1), .second, .val (.long q2), .second, .val (.long ((9223372036854775807 : Int64) - q1)), .second] [(.long (q1 + q2))])) t → Steps p.tables e below (s₁.setTop (entryFrame m #[(.long q1), (.long q2)] 6)) t := by
      intro t k
      refine pre1 t ?_
      refine XS.ifNo X0.here hx rfl (hb hby d1_13) rfl ((if0 _ _).trans (teq ((lw_eq _ _).mpr hE)).2) ?_
      show Steps _ _ _ (s₁.setTop (mkF m 16 #[.val (.long q1), .second, .val (.long q2), .second, .val (.long ((9223372036854775807 : Int64) - q1)), .second] [])) _
      refine XS.lloadN X0.here hx rfl (hb hby d1_16) rfl ?_
      show Steps _ _ _ (s₁.setTop (mkF m 17 #[.val (.long q1), .second, .val (.long q2), .second, .val (.long ((9223372036854775807 : Int64) - q1)), .second] [(.long q1)])) _
      refine XS.lloadN X0.here hx rfl (hb hby d1_17) rfl ?_
      show Steps _ _ _ (s₁.setTop (mkF m 18 #[.val (.long q1), .second, .val (.long q2), .second, .val (.long ((9223372036854775807 : Int64) - q1)), .second] [(.long q2), (.long q1)])) _
      refine XS.ladd X0.here hx rfl (hb hby d1_18) rfl ?_
      show Steps _ _ _ (s₁.setTop (mkF m 19 #[.val (.long q1), .second, .val (.long q2), .second, .val (.long ((9223372036854775807 : Int64) - q1)), .second] [(.long (q1 + q2))])) _
      exact k
    obtain ⟨fs, hr, hrun, hended, hW, hsame⟩ := X0.leave (v := some (.long (q1 + q2))) (fun h => by rw [Bd.returns] at h; cases h)
    refine ⟨_, _, pre2 _ ?_, hrun, hended, _, _, rfl, ?_, ⟨_, rfl⟩, hW, hsame.mono (by decide) (by decide)⟩
    · exact X0.lreturnOut hx Bd.returns (hb hby d1_19) hr
    · show Q_rm1 Z q1 q2 h0 n0 _ s₁.heap _
      rw [e0]
      have hv3 : (q1 + q2) = (own_up q1 q2) := by unfold own_up; simp only [if_pos hE]
      exact ⟨(congrArg (fun z => some (Value.long z)) hv3), N0, rfl⟩
  · have pre4 : ∀ t, Steps p.tables e below (s₁.setTop (mkF m 28 #[.val (.long q1), .second, .val (.long q2), .second, .val (.long ((9223372036854775807 : Int64) - q1)), .second] [(.long (q1 + (q2 - (q2 / (((9223372036854775807 : Int64) - q1) + (1 : Int64))) * (((9223372036854775807 : Int64) - q1) + (1 : Int64)))))])) t → Steps p.tables e below (s₁.setTop (entryFrame m #[(.long q1), (.long q2)] 6)) t := by
      intro t k
      refine pre1 t ?_
      refine XS.ifYes X0.here hx rfl (pc0 := 13) (pc' := 20) rfl (hb hby d1_13) rfl ((if0 _ _).trans (feq (fun z => hE ((lw_eq _ _).mp z))).2) (by decide) (by decide) ?_
      show Steps _ _ _ (s₁.setTop (mkF m 20 #[.val (.long q1), .second, .val (.long q2), .second, .val (.long ((9223372036854775807 : Int64) - q1)), .second] [])) _
      refine XS.lloadN X0.here hx rfl (hb hby d1_20) rfl ?_
      show Steps _ _ _ (s₁.setTop (mkF m 21 #[.val (.long q1), .second, .val (.long q2), .second, .val (.long ((9223372036854775807 : Int64) - q1)), .second] [(.long q1)])) _
      refine XS.lloadN X0.here hx rfl (hb hby d1_21) rfl ?_
      show Steps _ _ _ (s₁.setTop (mkF m 22 #[.val (.long q1), .second, .val (.long q2), .second, .val (.long ((9223372036854775807 : Int64) - q1)), .second] [(.long q2), (.long q1)])) _
      refine XS.lload X0.here hx rfl (hb hby d1_22) rfl ?_
      show Steps _ _ _ (s₁.setTop (mkF m 24 #[.val (.long q1), .second, .val (.long q2), .second, .val (.long ((9223372036854775807 : Int64) - q1)), .second] [(.long ((9223372036854775807 : Int64) - q1)), (.long q2), (.long q1)])) _
      refine XS.lconst X0.here hx rfl (hb hby d1_24) ?_
      show Steps _ _ _ (s₁.setTop (mkF m 25 #[.val (.long q1), .second, .val (.long q2), .second, .val (.long ((9223372036854775807 : Int64) - q1)), .second] [(.long (1 : Int64)), (.long ((9223372036854775807 : Int64) - q1)), (.long q2), (.long q1)])) _
      refine XS.ladd X0.here hx rfl (hb hby d1_25) rfl ?_
      show Steps _ _ _ (s₁.setTop (mkF m 26 #[.val (.long q1), .second, .val (.long q2), .second, .val (.long ((9223372036854775807 : Int64) - q1)), .second] [(.long (((9223372036854775807 : Int64) - q1) + (1 : Int64))), (.long q2), (.long q1)])) _
      refine XS.lrem X0.here hx rfl (hb hby d1_26) rfl ((own_nzU hb0).resolve_right hE) ?_
      show Steps _ _ _ (s₁.setTop (mkF m 27 #[.val (.long q1), .second, .val (.long q2), .second, .val (.long ((9223372036854775807 : Int64) - q1)), .second] [(.long (q2 - (q2 / (((9223372036854775807 : Int64) - q1) + (1 : Int64))) * (((9223372036854775807 : Int64) - q1) + (1 : Int64)))), (.long q1)])) _
      refine XS.ladd X0.here hx rfl (hb hby d1_27) rfl ?_
      show Steps _ _ _ (s₁.setTop (mkF m 28 #[.val (.long q1), .second, .val (.long q2), .second, .val (.long ((9223372036854775807 : Int64) - q1)), .second] [(.long (q1 + (q2 - (q2 / (((9223372036854775807 : Int64) - q1) + (1 : Int64))) * (((9223372036854775807 : Int64) - q1) + (1 : Int64)))))])) _
      exact k
    obtain ⟨fs, hr, hrun, hended, hW, hsame⟩ := X0.leave (v := some (.long (q1 + (q2 - (q2 / (((9223372036854775807 : Int64) - q1) + (1 : Int64))) * (((9223372036854775807 : Int64) - q1) + (1 : Int64)))))) (fun h => by rw [Bd.returns] at h; cases h)
    refine ⟨_, _, pre4 _ ?_, hrun, hended, _, _, rfl, ?_, ⟨_, rfl⟩, hW, hsame.mono (by decide) (by decide)⟩
    · exact X0.lreturnOut hx Bd.returns (hb hby d1_28) hr
    · show Q_rm1 Z q1 q2 h0 n0 _ s₁.heap _
      rw [e0]
      have hv5 : (q1 + (q2 - (q2 / (((9223372036854775807 : Int64) - q1) + (1 : Int64))) * (((9223372036854775807 : Int64) - q1) + (1 : Int64)))) = (own_up q1 q2) := by unfold own_up; simp only [if_neg hE]
      exact ⟨(congrArg (fun z => some (Value.long z)) hv5), N0, rfl⟩
theorem d3_0 : decode jdk_30_method_1_code 0 = .ok (.aload_n 0, 1) := by decide +kernel
theorem d3_1 : decode jdk_30_method_1_code 1 = .ok (.invokespecial 1, 3) := by decide +kernel
theorem d3_4 : decode jdk_30_method_1_code 4 = .ok (.return_, 1) := by decide +kernel
theorem pn_1 : plainName "java/lang/Record" = true := by first | (simp [plainName, overriddenIn]; done) | decide +kernel
theorem ef_rm3 (m : MethodId) (x0 : Addr) : entryFrame m #[(.ref x0)] 1 = mkF m 0 #[.val (.ref x0)] [] := by first | (simp [entryFrame, mkF, argsToLocals, Value.category]; done) | rfl
def Q_rm3 (Z : State) (a1 : Addr) (h0 : Heap) (n0 : Nat) (v : Option Value) (h : Heap) (L : List Loc) : Prop := v = none ∧ Fr n0 L ∧ h = h0
set_option maxRecDepth 65536 in
set_option maxHeartbeats 40000000 in
theorem rm3 (l : Launch) (Z : State) (a0 : Array Value) (hw : ∀ d ∈ tables_1, d.before a0 Z = true) (ws : List Jvm.Cond) (a1 : Addr) (h0 : Heap) (n0 : Nat) (Z0 : n0 ≤ h0.size) :
    MetFree l (⟨"java/lang/Record", "<init>", "()V"⟩ : MethodName) (head1 (Jvm.Cond.code (⟨"java/lang/Record", "<init>", "()V"⟩ : MethodName) jdk_30_method_1_code 1 none :: ws) ({ frames := 1, cells := 0, slots := 0, locals := 12 } : Room)) (fun a U => a = #[(.ref a1)] ∧ Z.Warmed39 U.vm ∧ U.heap = h0) (fun _ _ _ _ _ => True) (fun _ U o U' => ∃ v L, o = .returned v ∧ Q_rm3 Z a1 h0 n0 v U'.heap L ∧ FrameEnd U o U' L ({ frames := 1, cells := 0, slots := 0, locals := 12 } : Room).cells ({ frames := 1, cells := 0, slots := 0, locals := 12 } : Room).slots) := by
  refine MetFree.of_bodySF (plainFor_of_name pn_1) hisR ?_
  intro p e s m args below meth c s₁ Bd hml0 hP hK
  obtain ⟨rfl, hZ, hh⟩ := hP
  have hx := Bd.exec
  have hby := Bd.bytes
  have hml : c.maxLocals = 1 := hml0
  have hown : s.vm.findClass "java/lang/Record" = some m.cls := findClass_of_methodNamed Bd.named
  have hnm := (name_of_methodNamed Bd.named Bd.method).1
  have X0 : Stand p l e ({ frames := 1, cells := 0, slots := 0, locals := 12 } : Room) s m #[(.ref a1)] below meth c s₁ [] 0 0 := Stand.of_body Bd
  have e0 : s₁.heap = h0 := by rw [← hh, Bd.state]; rfl
  have N0 := Fr.nil n0
  have pre0 : ∀ t, Steps p.tables e below (s₁.setTop (mkF m 0 #[.val (.ref a1)] [])) t → Steps p.tables e below (s₁.setTop (entryFrame m #[(.ref a1)] 1)) t := fun t k => castTop (ef_rm3 m a1) k
  obtain ⟨T1, X1, e1, st1⟩ := initO X0 hx hZ hown (hw _ (List.mem_of_getElem? (i := 19) rfl)) (hw _ (List.mem_of_getElem? (i := 20) rfl)) (hw _ (List.mem_of_getElem? (i := 21) rfl)) e0 (g := (mkF m 1 #[.val (.ref a1)] [(.ref a1)])) rfl (by rw [hml]; rfl) rfl (hb hby d3_1) (by decide) (W := 0) (by show 2 * 0 + _ ≤ _; exact Nat.le_of_eq rfl) (by decide)
  have pre2 : ∀ t, Steps p.tables e below (T1.setTop (mkF m 4 #[.val (.ref a1)] [])) t → Steps p.tables e below (s₁.setTop (entryFrame m #[(.ref a1)] 1)) t := by
    intro t k
    refine pre0 t ?_
    refine XS.aloadN X0.here hx rfl (hb hby d3_0) rfl rfl ?_
    show Steps _ _ _ (s₁.setTop (mkF m 1 #[.val (.ref a1)] [(.ref a1)])) _
    refine st1 _ ?_
    show Steps _ _ _ (T1.setTop (mkF m 4 #[.val (.ref a1)] [])) _
    exact k
  obtain ⟨fs, hr, hrun, hended, hW, hsame⟩ := X1.leave (v := none) (fun _ => rfl)
  refine ⟨_, _, pre2 _ ?_, hrun, hended, _, _, rfl, ?_, ⟨_, rfl⟩, hW, hsame.mono (by decide) (by decide)⟩
  · exact X1.returnOut hx Bd.returns (hb hby d3_4) hr
  · show Q_rm3 Z a1 h0 n0 _ T1.heap _
    rw [e1]
    exact ⟨rfl, N0, rfl⟩
theorem d2_0 : decode prog_40_method_1_code 0 = .ok (.aload_n 0, 1) := by decide +kernel
theorem pd_0 : parseMethodDescriptor "()V" = some ⟨[], none⟩ := by decide +kernel
theorem d2_1 : decode prog_40_method_1_code 1 = .ok (.invokespecial 1, 3) := by decide +kernel
theorem d2_4 : decode prog_40_method_1_code 4 = .ok (.lload_n 1, 1) := by decide +kernel
theorem d2_5 : decode prog_40_method_1_code 5 = .ok (.lconst 0, 1) := by decide +kernel
theorem d2_6 : decode prog_40_method_1_code 6 = .ok (.lcmp, 1) := by decide +kernel
theorem d2_7 : decode prog_40_method_1_code 7 = .ok (.ifCond .lt 14, 3) := by decide +kernel
theorem d2_10 : decode prog_40_method_1_code 10 = .ok (.lload_n 3, 1) := by decide +kernel
theorem d2_11 : decode prog_40_method_1_code 11 = .ok (.lload_n 1, 1) := by decide +kernel
theorem d2_12 : decode prog_40_method_1_code 12 = .ok (.lcmp, 1) := by decide +kernel
theorem d2_13 : decode prog_40_method_1_code 13 = .ok (.ifCond .lt 8, 3) := by decide +kernel
theorem d2_16 : decode prog_40_method_1_code 16 = .ok (.iload 5, 2) := by decide +kernel
theorem d2_18 : decode prog_40_method_1_code 18 = .ok (.ifCond .ge 20, 3) := by decide +kernel
theorem d2_38 : decode prog_40_method_1_code 38 = .ok (.aload_n 0, 1) := by decide +kernel
theorem d2_39 : decode prog_40_method_1_code 39 = .ok (.lload_n 1, 1) := by decide +kernel
theorem d2_40 : decode prog_40_method_1_code 40 = .ok (.putfield 16, 3) := by decide +kernel
theorem d2_43 : decode prog_40_method_1_code 43 = .ok (.aload_n 0, 1) := by decide +kernel
theorem d2_44 : decode prog_40_method_1_code 44 = .ok (.lload_n 3, 1) := by decide +kernel
theorem d2_45 : decode prog_40_method_1_code 45 = .ok (.putfield 22, 3) := by decide +kernel
theorem d2_48 : decode prog_40_method_1_code 48 = .ok (.aload_n 0, 1) := by decide +kernel
theorem d2_49 : decode prog_40_method_1_code 49 = .ok (.iload 5, 2) := by decide +kernel
theorem d2_51 : decode prog_40_method_1_code 51 = .ok (.putfield 25, 3) := by decide +kernel
theorem d2_54 : decode prog_40_method_1_code 54 = .ok (.return_, 1) := by decide +kernel
theorem pn_2 : plainName "com/example/copse/copse/tree/NodeLabel" = true := by first | (simp [plainName, overriddenIn]; done) | decide +kernel
theorem ef_rm2 (m : MethodId) (x0 : Addr) (x1 : Int64) (x2 : Int64) (x3 : Int32) : entryFrame m #[(.ref x0), (.long x1), (.long x2), (.int x3)] 6 = mkF m 0 #[.val (.ref x0), .val (.long x1), .second, .val (.long x2), .second, .val (.int x3)] [] := by first | (simp [entryFrame, mkF, argsToLocals, Value.category]; done) | rfl
def Q_rm2 (Z : State) (a1 : Addr) (q2 : Int64) (q3 : Int64) (p4 : Int32) (u1 : Int64) (u2 : Int64) (u3 : Int32) (h0 : Heap) (n0 : Nat) (v : Option Value) (h : Heap) (L : List Loc) : Prop := v = none ∧ Fr n0 L ∧ Keep h0 h [a1] ∧ Fld Z h a1 "com/example/copse/copse/tree/NodeLabel" "start" "J" (.long q2) ∧ Fld Z h a1 "com/example/copse/copse/tree/NodeLabel" "end" "J" (.long q3) ∧ Fld Z h a1 "com/example/copse/copse/tree/NodeLabel" "level" "I" (.int p4)
set_option maxRecDepth 65536 in
set_option maxHeartbeats 40000000 in
theorem rm2 (l : Launch) (Z : State) (a0 : Array Value) (hw : ∀ d ∈ tables_1, d.before a0 Z = true) (ws : List Jvm.Cond) (a1 : Addr) (q2 : Int64) (q3 : Int64) (p4 : Int32) (u1 : Int64) (u2 : Int64) (u3 : Int32) (h0 : Heap) (n0 : Nat) (Z0 : n0 ≤ h0.size) (E1 : Exa Z h0 a1 "com/example/copse/copse/tree/NodeLabel") (F0 : Fld Z h0 a1 "com/example/copse/copse/tree/NodeLabel" "start" "J" (.long u1)) (F1 : Fld Z h0 a1 "com/example/copse/copse/tree/NodeLabel" "end" "J" (.long u2)) (F2 : Fld Z h0 a1 "com/example/copse/copse/tree/NodeLabel" "level" "I" (.int u3)) (g1 : n0 ≤ a1) (k1 : ¬ q2 < (0 : Int64)) (k2 : ¬ q3 < q2) (k3 : ¬ p4 < (0 : Int32)) :
    MetFree l (⟨"com/example/copse/copse/tree/NodeLabel", "<init>", "(JJI)V"⟩ : MethodName) (head1 (Jvm.Cond.code (⟨"com/example/copse/copse/tree/NodeLabel", "<init>", "(JJI)V"⟩ : MethodName) prog_40_method_1_code 6 none :: ws) ({ frames := 2, cells := 0, slots := 0, locals := 24 } : Room)) (fun a U => a = #[(.ref a1), (.long q2), (.long q3), (.int p4)] ∧ Z.Warmed39 U.vm ∧ U.heap = h0) (fun _ _ _ _ _ => True) (fun _ U o U' => ∃ v L, o = .returned v ∧ Q_rm2 Z a1 q2 q3 p4 u1 u2 u3 h0 n0 v U'.heap L ∧ FrameEnd U o U' L ({ frames := 2, cells := 0, slots := 0, locals := 24 } : Room).cells ({ frames := 2, cells := 0, slots := 0, locals := 24 } : Room).slots) := by
  refine MetFree.of_bodySF (plainFor_of_name pn_2) hisR ?_
  intro p e s m args below meth c s₁ Bd hml0 hP hK
  obtain ⟨rfl, hZ, hh⟩ := hP
  have hx := Bd.exec
  have hby := Bd.bytes
  have hml : c.maxLocals = 6 := hml0
  have hown : s.vm.findClass "com/example/copse/copse/tree/NodeLabel" = some m.cls := findClass_of_methodNamed Bd.named
  have hnm := (name_of_methodNamed Bd.named Bd.method).1
  have X0 : Stand p l e ({ frames := 2, cells := 0, slots := 0, locals := 24 } : Room) s m #[(.ref a1), (.long q2), (.long q3), (.int p4)] below meth c s₁ [] 0 0 := Stand.of_body Bd
  have e0 : s₁.heap = h0 := by rw [← hh, Bd.state]; rfl
  have N0 := Fr.nil n0
  have pre0 : ∀ t, Steps p.tables e below (s₁.setTop (mkF m 0 #[.val (.ref a1), .val (.long q2), .second, .val (.long q3), .second, .val (.int p4)] [])) t → Steps p.tables e below (s₁.setTop (entryFrame m #[(.ref a1), (.long q2), (.long q3), (.int p4)] 6)) t := fun t k => castTop (ef_rm2 m a1 q2 q3 p4) k
  obtain ⟨_, _, ⟨T1, L1, k1, n1⟩, -, X1, ⟨Lc1, hQ1, l1, y1, z1⟩, st1⟩ := X0.specialBack hx (y := (⟨"java/lang/Record", "<init>", "()V"⟩ : MethodName)) rfl hown (mvT hZ (hw _ (List.mem_of_getElem? (i := 14) rfl))) (mvT hZ (hw _ (List.mem_of_getElem? (i := 15) rfl))) (mvT hZ (hw _ (List.mem_of_getElem? (i := 18) rfl))) (by decide) (backOf (W := 0) (rm3 l Z a0 hw [] a1 h0 n0 Z0) hZ (hw _ (List.mem_of_getElem? (i := 18) rfl)) (hw _ (List.mem_of_getElem? (i := 17) rfl)) (by decide) (by decide)) (g := (mkF m 1 #[.val (.ref a1), .val (.long q2), .second, .val (.long q3), .second, .val (.int p4)] [(.ref a1)])) rfl (by rw [hml]; rfl) (Steps.refl _) (a := a1) (argsL := []) (rest := []) (lenOf pd_0 rfl) rfl (by show 2 * 0 + _ ≤ _; exact Nat.le_of_eq rfl) (hb hby d2_1) (fun _ _ => ⟨rfl, e0, (by decide : 0 + 0 ≤ _), (by decide : 0 + 0 ≤ _)⟩)
  dsimp only [Pt.U, Pt.locs, Pt.cells, Pt.slots] at X1 l1 y1 z1 st1 hQ1
  subst l1 y1 z1
  obtain ⟨rfl, Nq1, q1_0⟩ := hQ1
  have N2 := Fr.app N0 Nq1
  have hc3 : ¬ (q2 < (0 : Int64)) := k1
  have hc4 : ¬ (q3 < q2) := k2
  have hc5 : ¬ (p4 < (0 : Int32)) := k3
  obtain ⟨T6, h6, X6, e6, W6, st6⟩ := putF X1 hx hZ hown (host := "") (Or.inl (hw _ (List.mem_of_getElem? (i := 22) rfl))) Via.refl q1_0 F0 E1 (Or.inr ⟨(hw _ (List.mem_of_getElem? (i := 23) rfl)), rfl, hnm⟩) (hw _ (List.mem_of_getElem? (i := 9) rfl)) (ty := .long) (by decide) rfl rfl (g := (mkF m 40 #[.val (.ref a1), .val (.long q2), .second, .val (.long q3), .second, .val (.int p4)] [(.long q2), (.ref a1)])) rfl rfl (hb hby d2_40)
  have KC7 : Keep h0 h6 [a1] := (Keep.refl h0 [a1]).wr W6 (Or.inl (List.mem_of_getElem? (i := 0) rfl))
  have F8 : Fld Z h6 a1 "com/example/copse/copse/tree/NodeLabel" "start" "J" (.long q2) := F0.same W6
  have N9 := Fr.snoc X6 N2 g1
  have F10 : Exa Z h6 a1 "com/example/copse/copse/tree/NodeLabel" := (E1.wr W6)
  have F11 : Fld Z h6 a1 "com/example/copse/copse/tree/NodeLabel" "end" "J" (.long u2) := (F1.other W6 (Or.inr (slot_ne (Or.inr (hw _ (List.mem_of_getElem? (i := 25) rfl))) (Or.inr (hw _ (List.mem_of_getElem? (i := 23) rfl))) (by decide) (t := .long) (t' := .long) (by decide) (by decide))))
  obtain ⟨T12, h12, X12, e12, W12, st12⟩ := putF X6 hx hZ hown (host := "") (Or.inl (hw _ (List.mem_of_getElem? (i := 24) rfl))) Via.refl e6 F11 F10 (Or.inr ⟨(hw _ (List.mem_of_getElem? (i := 25) rfl)), rfl, hnm⟩) (hw _ (List.mem_of_getElem? (i := 9) rfl)) (ty := .long) (by decide) rfl rfl (g := (mkF m 45 #[.val (.ref a1), .val (.long q2), .second, .val (.long q3), .second, .val (.int p4)] [(.long q3), (.ref a1)])) rfl rfl (hb hby d2_45)
  have KC13 : Keep h0 h12 [a1] := KC7.wr W12 (Or.inl (List.mem_of_getElem? (i := 0) rfl))
  have F14 : Fld Z h12 a1 "com/example/copse/copse/tree/NodeLabel" "end" "J" (.long q3) := F11.same W12
  have N15 := Fr.snoc X12 N9 g1
  have F16 : Exa Z h12 a1 "com/example/copse/copse/tree/NodeLabel" := (F10.wr W12)
  have F17 : Fld Z h12 a1 "com/example/copse/copse/tree/NodeLabel" "level" "I" (.int u3) := ((F2.other W6 (Or.inr (slot_ne (Or.inr (hw _ (List.mem_of_getElem? (i := 27) rfl))) (Or.inr (hw _ (List.mem_of_getElem? (i := 23) rfl))) (by decide) (t := .int) (t' := .long) (by decide) (by decide)))).other W12 (Or.inr (slot_ne (Or.inr (hw _ (List.mem_of_getElem? (i := 27) rfl))) (Or.inr (hw _ (List.mem_of_getElem? (i := 25) rfl))) (by decide) (t := .int) (t' := .long) (by decide) (by decide))))
  obtain ⟨T18, h18, X18, e18, W18, st18⟩ := putF X12 hx hZ hown (host := "") (Or.inl (hw _ (List.mem_of_getElem? (i := 26) rfl))) Via.refl e12 F17 F16 (Or.inr ⟨(hw _ (List.mem_of_getElem? (i := 27) rfl)), rfl, hnm⟩) (hw _ (List.mem_of_getElem? (i := 9) rfl)) (ty := .int) (by decide) rfl rfl (g := (mkF m 51 #[.val (.ref a1), .val (.long q2), .second, .val (.long q3), .second, .val (.int p4)] [(.int p4), (.ref a1)])) rfl rfl (hb hby d2_51)
  have KC19 : Keep h0 h18 [a1] := KC13.wr W18 (Or.inl (List.mem_of_getElem? (i := 0) rfl))
  have F20 : Fld Z h18 a1 "com/example/copse/copse/tree/NodeLabel" "level" "I" (.int p4) := F17.same W18
  have N21 := Fr.snoc X18 N15 g1
  have pre22 : ∀ t, Steps p.tables e below (T18.setTop (mkF m 54 #[.val (.ref a1), .val (.long q2), .second, .val (.long q3), .second, .val (.int p4)] [])) t → Steps p.tables e below (s₁.setTop (entryFrame m #[(.ref a1), (.long q2), (.long q3), (.int p4)] 6)) t := by
    intro t k
    refine pre0 t ?_
    refine XS.aloadN X0.here hx rfl (hb hby d2_0) rfl rfl ?_
    show Steps _ _ _ (s₁.setTop (mkF m 1 #[.val (.ref a1), .val (.long q2), .second, .val (.long q3), .second, .val (.int p4)] [(.ref a1)])) _
    refine st1.trans ?_
    show Steps _ _ _ (T1.setTop (mkF m 4 #[.val (.ref a1), .val (.long q2), .second, .val (.long q3), .second, .val (.int p4)] [])) _
    refine XS.lloadN X1.here hx rfl (hb hby d2_4) rfl ?_
    show Steps _ _ _ (T1.setTop (mkF m 5 #[.val (.ref a1), .val (.long q2), .second, .val (.long q3), .second, .val (.int p4)] [(.long q2)])) _
    refine XS.lconst X1.here hx rfl (hb hby d2_5) ?_
    show Steps _ _ _ (T1.setTop (mkF m 6 #[.val (.ref a1), .val (.long q2), .second, .val (.long q3), .second, .val (.int p4)] [(.long (0 : Int64)), (.long q2)])) _
    refine XS.lcmp X1.here hx rfl (hb hby d2_6) rfl ?_
    show Steps _ _ _ (T1.setTop (mkF m 7 #[.val (.ref a1), .val (.long q2), .second, .val (.long q3), .second, .val (.int p4)] [(.int (lcmpW q2 (0 : Int64)))])) _
    refine XS.ifNo X1.here hx rfl (hb hby d2_7) rfl ((if0 _ _).trans (flt (fun z => hc3 ((lw_lt _ _).mp z))).1) ?_
    show Steps _ _ _ (T1.setTop (mkF m 10 #[.val (.ref a1), .val (.long q2), .second, .val (.long q3), .second, .val (.int p4)] [])) _
    refine XS.lloadN X1.here hx rfl (hb hby d2_10) rfl ?_
    show Steps _ _ _ (T1.setTop (mkF m 11 #[.val (.ref a1), .val (.long q2), .second, .val (.long q3), .second, .val (.int p4)] [(.long q3)])) _
    refine XS.lloadN X1.here hx rfl (hb hby d2_11) rfl ?_
    show Steps _ _ _ (T1.setTop (mkF m 12 #[.val (.ref a1), .val (.long q2), .second, .val (.long q3), .second, .val (.int p4)] [(.long q2), (.long q3)])) _
    refine XS.lcmp X1.here hx rfl (hb hby d2_12) rfl ?_
    show Steps _ _ _ (T1.setTop (mkF m 13 #[.val (.ref a1), .val (.long q2), .second, .val (.long q3), .second, .val (.int p4)] [(.int (lcmpW q3 q2))])) _
    refine XS.ifNo X1.here hx rfl (hb hby d2_13) rfl ((if0 _ _).trans (flt (fun z => hc4 ((lw_lt _ _).mp z))).1) ?_
    show Steps _ _ _ (T1.setTop (mkF m 16 #[.val (.ref a1), .val (.long q2), .second, .val (.long q3), .second, .val (.int p4)] [])) _
    refine XS.iload X1.here hx rfl (hb hby d2_16) rfl ?_
    show Steps _ _ _ (T1.setTop (mkF m 18 #[.val (.ref a1), .val (.long q2), .second, .val (.long q3), .second, .val (.int p4)] [(.int p4)])) _
    refine XS.ifYes X1.here hx rfl (pc0 := 18) (pc' := 38) rfl (hb hby d2_18) rfl ((if0 _ _).trans (flt hc5).2.1) (by decide) (by decide) ?_
    show Steps _ _ _ (T1.setTop (mkF m 38 #[.val (.ref a1), .val (.long q2), .second, .val (.long q3), .second, .val (.int p4)] [])) _
    refine XS.aloadN X1.here hx rfl (hb hby d2_38) rfl rfl ?_
    show Steps _ _ _ (T1.setTop (mkF m 39 #[.val (.ref a1), .val (.long q2), .second, .val (.long q3), .second, .val (.int p4)] [(.ref a1)])) _
    refine XS.lloadN X1.here hx rfl (hb hby d2_39) rfl ?_
    show Steps _ _ _ (T1.setTop (mkF m 40 #[.val (.ref a1), .val (.long q2), .second, .val (.long q3), .second, .val (.int p4)] [(.long q2), (.ref a1)])) _
    refine st6 _ ?_
    show Steps _ _ _ (T6.setTop (mkF m 43 #[.val (.ref a1), .val (.long q2), .second, .val (.long q3), .second, .val (.int p4)] [])) _
    refine XS.aloadN X6.here hx rfl (hb hby d2_43) rfl rfl ?_
    show Steps _ _ _ (T6.setTop (mkF m 44 #[.val (.ref a1), .val (.long q2), .second, .val (.long q3), .second, .val (.int p4)] [(.ref a1)])) _
    refine XS.lloadN X6.here hx rfl (hb hby d2_44) rfl ?_
    show Steps _ _ _ (T6.setTop (mkF m 45 #[.val (.ref a1), .val (.long q2), .second, .val (.long q3), .second, .val (.int p4)] [(.long q3), (.ref a1)])) _
    refine st12 _ ?_
    show Steps _ _ _ (T12.setTop (mkF m 48 #[.val (.ref a1), .val (.long q2), .second, .val (.long q3), .second, .val (.int p4)] [])) _
    refine XS.aloadN X12.here hx rfl (hb hby d2_48) rfl rfl ?_
    show Steps _ _ _ (T12.setTop (mkF m 49 #[.val (.ref a1), .val (.long q2), .second, .val (.long q3), .second, .val (.int p4)] [(.ref a1)])) _
    refine XS.iload X12.here hx rfl (hb hby d2_49) rfl ?_
    show Steps _ _ _ (T12.setTop (mkF m 51 #[.val (.ref a1), .val (.long q2), .second, .val (.long q3), .second, .val (.int p4)] [(.int p4), (.ref a1)])) _
    refine st18 _ ?_
    show Steps _ _ _ (T18.setTop (mkF m 54 #[.val (.ref a1), .val (.long q2), .second, .val (.long q3), .second, .val (.int p4)] [])) _
    exact k
  obtain ⟨fs, hr, hrun, hended, hW, hsame⟩ := X18.leave (v := none) (fun _ => rfl)
  refine ⟨_, _, pre22 _ ?_, hrun, hended, _, _, rfl, ?_, ⟨_, rfl⟩, hW, hsame.mono (by decide) (by decide)⟩
  · exact X18.returnOut hx Bd.returns (hb hby d2_54) hr
  · show Q_rm2 Z a1 q2 q3 p4 u1 u2 u3 h0 n0 _ T18.heap _
    rw [e18]
    have F23 : Fld Z h18 a1 "com/example/copse/copse/tree/NodeLabel" "start" "J" (.long q2) := ((F8.other W12 (Or.inr (slot_ne (Or.inr (hw _ (List.mem_of_getElem? (i := 23) rfl))) (Or.inr (hw _ (List.mem_of_getElem? (i := 25) rfl))) (by decide) (t := .long) (t' := .long) (by decide) (by decide)))).other W18 (Or.inr (slot_ne (Or.inr (hw _ (List.mem_of_getElem? (i := 23) rfl))) (Or.inr (hw _ (List.mem_of_getElem? (i := 27) rfl))) (by decide) (t := .long) (t' := .int) (by decide) (by decide))))
    have F24 : Fld Z h18 a1 "com/example/copse/copse/tree/NodeLabel" "end" "J" (.long q3) := (F14.other W18 (Or.inr (slot_ne (Or.inr (hw _ (List.mem_of_getElem? (i := 25) rfl))) (Or.inr (hw _ (List.mem_of_getElem? (i := 27) rfl))) (by decide) (t := .long) (t' := .int) (by decide) (by decide))))
    exact ⟨rfl, N21, KC19, F23, F24, F20⟩
def own_anc (s1 e1 s2 : Int64) : Int32 := if s1 < s2 then (if e1 < s2 then 0 else 1) else 0
theorem d5_0 : decode prog_40_method_2_code 0 = .ok (.aload_n 0, 1) := by decide +kernel
theorem d5_1 : decode prog_40_method_2_code 1 = .ok (.getfield 16, 3) := by decide +kernel
theorem d5_4 : decode prog_40_method_2_code 4 = .ok (.aload_n 1, 1) := by decide +kernel
theorem d5_5 : decode prog_40_method_2_code 5 = .ok (.getfield 16, 3) := by decide +kernel
theorem d5_8 : decode prog_40_method_2_code 8 = .ok (.lcmp, 1) := by decide +kernel
theorem d5_9 : decode prog_40_method_2_code 9 = .ok (.ifCond .ge 19, 3) := by decide +kernel
theorem d5_12 : decode prog_40_method_2_code 12 = .ok (.aload_n 1, 1) := by decide +kernel
theorem d5_13 : decode prog_40_method_2_code 13 = .ok (.getfield 16, 3) := by decide +kernel
theorem d5_16 : decode prog_40_method_2_code 16 = .ok (.aload_n 0, 1) := by decide +kernel
theorem d5_17 : decode prog_40_method_2_code 17 = .ok (.getfield 22, 3) := by decide +kernel
theorem d5_20 : decode prog_40_method_2_code 20 = .ok (.lcmp, 1) := by decide +kernel
theorem d5_21 : decode prog_40_method_2_code 21 = .ok (.ifCond .gt 7, 3) := by decide +kernel
theorem d5_28 : decode prog_40_method_2_code 28 = .ok (.iconst 0, 1) := by decide +kernel
theorem d5_24 : decode prog_40_method_2_code 24 = .ok (.iconst 1, 1) := by decide +kernel
theorem d5_25 : decode prog_40_method_2_code 25 = .ok (.goto 4, 3) := by decide +kernel
theorem d5_29 : decode prog_40_method_2_code 29 = .ok (.ireturn, 1) := by decide +kernel
theorem ef_rm5 (m : MethodId) (x0 : Addr) (x1 : Addr) : entryFrame m #[(.ref x0), (.ref x1)] 2 = mkF m 0 #[.val (.ref x0), .val (.ref x1)] [] := by first | (simp [entryFrame, mkF, argsToLocals, Value.category]; done) | rfl
def Q_rm5 (Z : State) (a1 : Addr) (a2 : Addr) (va : Int64) (vb : Int64) (vc : Int64) (h0 : Heap) (n0 : Nat) (v : Option Value) (h : Heap) (L : List Loc) : Prop := v = some (.int (own_anc va vb vc)) ∧ Fr n0 L ∧ h = h0
set_option maxRecDepth 65536 in
set_option maxHeartbeats 40000000 in
theorem rm5 (l : Launch) (Z : State) (a0 : Array Value) (hw : ∀ d ∈ tables_1, d.before a0 Z = true) (ws : List Jvm.Cond) (a1 : Addr) (a2 : Addr) (va : Int64) (vb : Int64) (vc : Int64) (h0 : Heap) (n0 : Nat) (Z0 : n0 ≤ h0.size) (F1 : Fld Z h0 a1 "com/example/copse/copse/tree/NodeLabel" "start" "J" (.long va)) (F2 : Fld Z h0 a1 "com/example/copse/copse/tree/NodeLabel" "end" "J" (.long vb)) (F3 : Fld Z h0 a2 "com/example/copse/copse/tree/NodeLabel" "start" "J" (.long vc)) :
    MetFree l (⟨"com/example/copse/copse/tree/NodeLabel", "isAncestorOf", "(Lcom/example/copse/copse/tree/NodeLabel;)Z"⟩ : MethodName) (head1 (Jvm.Cond.code (⟨"com/example/copse/copse/tree/NodeLabel", "isAncestorOf", "(Lcom/example/copse/copse/tree/NodeLabel;)Z"⟩ : MethodName) prog_40_method_2_code 2 (some .boolean) :: ws) ({ frames := 0, cells := 0, slots := 0, locals := 0 } : Room)) (fun a U => a = #[(.ref a1), (.ref a2)] ∧ Z.Warmed39 U.vm ∧ U.heap = h0) (fun _ _ _ _ _ => True) (fun _ U o U' => ∃ v L, o = .returned v ∧ Q_rm5 Z a1 a2 va vb vc h0 n0 v U'.heap L ∧ FrameEnd U o U' L ({ frames := 0, cells := 0, slots := 0, locals := 0 } : Room).cells ({ frames := 0, cells := 0, slots := 0, locals := 0 } : Room).slots) := by
  refine MetFree.of_bodySF (plainFor_of_name pn_2) hisR ?_
  intro p e s m args below meth c s₁ Bd hml0 hP hK
  obtain ⟨rfl, hZ, hh⟩ := hP
  have hx := Bd.exec
  have hby := Bd.bytes
  have hml : c.maxLocals = 2 := hml0
  have hown : s.vm.findClass "com/example/copse/copse/tree/NodeLabel" = some m.cls := findClass_of_methodNamed Bd.named
  have hnm := (name_of_methodNamed Bd.named Bd.method).1
  have X0 : Stand p l e ({ frames := 0, cells := 0, slots := 0, locals := 0 } : Room) s m #[(.ref a1), (.ref a2)] below meth c s₁ [] 0 0 := Stand.of_body Bd
  have e0 : s₁.heap = h0 := by rw [← hh, Bd.state]; rfl
  have N0 := Fr.nil n0
  have pre0 : ∀ t, Steps p.tables e below (s₁.setTop (mkF m 0 #[.val (.ref a1), .val (.ref a2)] [])) t → Steps p.tables e below (s₁.setTop (entryFrame m #[(.ref a1), (.ref a2)] 2)) t := fun t k => castTop (ef_rm5 m a1 a2) k
  obtain ⟨T1, X1, e1, st1⟩ := getF X0 hx hZ hown (host := "") (Or.inl (hw _ (List.mem_of_getElem? (i := 22) rfl))) Via.refl e0 F1 (g := (mkF m 1 #[.val (.ref a1), .val (.ref a2)] [(.ref a1)])) rfl rfl (hb hby d5_1)
  obtain ⟨T2, X2, e2, st2⟩ := getF X1 hx hZ hown (host := "") (Or.inl (hw _ (List.mem_of_getElem? (i := 22) rfl))) Via.refl e1 F3 (g := (mkF m 5 #[.val (.ref a1), .val (.ref a2)] [(.ref a2), (.long va)])) rfl rfl (hb hby d5_5)
  have pre3 : ∀ t, Steps p.tables e below (T2.setTop (mkF m 9 #[.val (.ref a1), .val (.ref a2)] [(.int (lcmpW va vc))])) t → Steps p.tables e below (s₁.setTop (entryFrame m #[(.ref a1), (.ref a2)] 2)) t := by
    intro t k
    refine pre0 t ?_
    refine XS.aloadN X0.here hx rfl (hb hby d5_0) rfl rfl ?_
    show Steps _ _ _ (s₁.setTop (mkF m 1 #[.val (.ref a1), .val (.ref a2)] [(.ref a1)])) _
    refine st1 _ ?_
    show Steps _ _ _ (T1.setTop (mkF m 4 #[.val (.ref a1), .val (.ref a2)] [(.long va)])) _
    refine XS.aloadN X1.here hx rfl (hb hby d5_4) rfl rfl ?_
    show Steps _ _ _ (T1.setTop (mkF m 5 #[.val (.ref a1), .val (.ref a2)] [(.ref a2), (.long va)])) _
    refine st2 _ ?_
    show Steps _ _ _ (T2.setTop (mkF m 8 #[.val (.ref a1), .val (.ref a2)] [(.long vc), (.long va)])) _
    refine XS.lcmp X2.here hx rfl (hb hby d5_8) rfl ?_
    show Steps _ _ _ (T2.setTop (mkF m 9 #[.val (.ref a1), .val (.ref a2)] [(.int (lcmpW va vc))])) _
    exact k
  by_cases hc4 : va < vc
  · obtain ⟨T5, X5, e5, st5⟩ := getF X2 hx hZ hown (host := "") (Or.inl (hw _ (List.mem_of_getElem? (i := 22) rfl))) Via.refl e2 F3 (g := (mkF m 13 #[.val (.ref a1), .val (.ref a2)] [(.ref a2)])) rfl rfl (hb hby d5_13)
    obtain ⟨T6, X6, e6, st6⟩ := getF X5 hx hZ hown (host := "") (Or.inl (hw _ (List.mem_of_getElem? (i := 24) rfl))) Via.refl e5 F2 (g := (mkF m 17 #[.val (.ref a1), .val (.ref a2)] [(.ref a1), (.long vc)])) rfl rfl (hb hby d5_17)
    have pre9 : ∀ t, Steps p.tables e below (T6.setTop (mkF m 29 #[.val (.ref a1), .val (.ref a2)] [(.int (if vb < vc then (0 : Int32) else (1 : Int32)))])) t → Steps p.tables e below (s₁.setTop (entryFrame m #[(.ref a1), (.ref a2)] 2)) t := by
      intro t k
      refine pre3 t ?_
      refine XS.ifNo X2.here hx rfl (hb hby d5_9) rfl ((if0 _ _).trans (tlt ((lw_lt _ _).mpr hc4)).2.1) ?_
      show Steps _ _ _ (T2.setTop (mkF m 12 #[.val (.ref a1), .val (.ref a2)] [])) _
      refine XS.aloadN X2.here hx rfl (hb hby d5_12) rfl rfl ?_
      show Steps _ _ _ (T2.setTop (mkF m 13 #[.val (.ref a1), .val (.ref a2)] [(.ref a2)])) _
      refine st5 _ ?_
      show Steps _ _ _ (T5.setTop (mkF m 16 #[.val (.ref a1), .val (.ref a2)] [(.long vc)])) _
      refine XS.aloadN X5.here hx rfl (hb hby d5_16) rfl rfl ?_
      show Steps _ _ _ (T5.setTop (mkF m 17 #[.val (.ref a1), .val (.ref a2)] [(.ref a1), (.long vc)])) _
      refine st6 _ ?_
      show Steps _ _ _ (T6.setTop (mkF m 20 #[.val (.ref a1), .val (.ref a2)] [(.long vb), (.long vc)])) _
      refine XS.lcmp X6.here hx rfl (hb hby d5_20) rfl ?_
      show Steps _ _ _ (T6.setTop (mkF m 21 #[.val (.ref a1), .val (.ref a2)] [(.int (lcmpW vc vb))])) _
      by_cases hc7 : vb < vc
      · simp only [if_pos hc7] at k
        refine XS.ifYes X6.here hx rfl (pc0 := 21) (pc' := 28) rfl (hb hby d5_21) rfl ((if0 _ _).trans (tlt ((lw_gt _ _).mpr hc7)).2.2.1) (by decide) (by decide) ?_
        show Steps _ _ _ (T6.setTop (mkF m 28 #[.val (.ref a1), .val (.ref a2)] [])) _
        refine XS.iconst X6.here hx rfl (hb hby d5_28) ?_
        show Steps _ _ _ (T6.setTop (mkF m 29 #[.val (.ref a1), .val (.ref a2)] [(.int (0 : Int32))])) _
        exact k
      · simp only [if_neg hc7] at k
        refine XS.ifNo X6.here hx rfl (hb hby d5_21) rfl ((if0 _ _).trans (flt (fun z => hc7 ((lw_gt _ _).mp z))).2.2.1) ?_
        show Steps _ _ _ (T6.setTop (mkF m 24 #[.val (.ref a1), .val (.ref a2)] [])) _
        refine XS.iconst X6.here hx rfl (hb hby d5_24) ?_
        show Steps _ _ _ (T6.setTop (mkF m 25 #[.val (.ref a1), .val (.ref a2)] [(.int (1 : Int32))])) _
        refine XS.goto X6.here hx rfl (pc0 := 25) (pc' := 29) rfl (hb hby d5_25) (by decide) (by decide) ?_
        show Steps _ _ _ (T6.setTop (mkF m 29 #[.val (.ref a1), .val (.ref a2)] [(.int (1 : Int32))])) _
        exact k
    obtain ⟨z8, hz8⟩ : ∃ z : Int32, z = (if vb < vc then (0 : Int32) else (1 : Int32)) := ⟨_, rfl⟩
    rw [← hz8] at pre9
    obtain ⟨fs, hr, hrun, hended, hW, hsame⟩ := X6.leave (v := some (.int (nar .boolean z8))) (fun h => by rw [Bd.returns] at h; cases h)
    refine ⟨_, _, pre9 _ ?_, hrun, hended, _, _, rfl, ?_, ⟨_, rfl⟩, hW, hsame.mono (by decide) (by decide)⟩
    · exact retN X6 hx (t := .boolean) Bd.returns (by simp) (hb hby d5_29) hr
    · show Q_rm5 Z a1 a2 va vb vc h0 n0 _ T6.heap _
      rw [e6]
      have hv10 : (nar .boolean z8) = (own_anc va vb vc) := by unfold own_anc; simp only [if_pos hc4]; subst hz8; split <;> rfl
      exact ⟨(congrArg (fun z => some (Value.int z)) hv10), N0, rfl⟩
  · have pre11 : ∀ t, Steps p.tables e below (T2.setTop (mkF m 29 #[.val (.ref a1), .val (.ref a2)] [(.int (0 : Int32))])) t → Steps p.tables e below (s₁.setTop (entryFrame m #[(.ref a1), (.ref a2)] 2)) t := by
      intro t k
      refine pre3 t ?_
      refine XS.ifYes X2.here hx rfl (pc0 := 9) (pc' := 28) rfl (hb hby d5_9) rfl ((if0 _ _).trans (flt (fun z => hc4 ((lw_lt _ _).mp z))).2.1) (by decide) (by decide) ?_
      show Steps _ _ _ (T2.setTop (mkF m 28 #[.val (.ref a1), .val (.ref a2)] [])) _
      refine XS.iconst X2.here hx rfl (hb hby d5_28) ?_
      show Steps _ _ _ (T2.setTop (mkF m 29 #[.val (.ref a1), .val (.ref a2)] [(.int (0 : Int32))])) _
      exact k
    obtain ⟨fs, hr, hrun, hended, hW, hsame⟩ := X2.leave (v := some (.int (0 : Int32))) (fun h => by rw [Bd.returns] at h; cases h)
    refine ⟨_, _, pre11 _ ?_, hrun, hended, _, _, rfl, ?_, ⟨_, rfl⟩, hW, hsame.mono (by decide) (by decide)⟩
    · exact retN X2 hx (t := .boolean) Bd.returns (by simp) (hb hby d5_29) hr
    · show Q_rm5 Z a1 a2 va vb vc h0 n0 _ T2.heap _
      rw [e2]
      have hv12 : (0 : Int32) = (own_anc va vb vc) := by unfold own_anc; simp only [if_neg hc4]
      exact ⟨(congrArg (fun z => some (Value.int z)) hv12), N0, rfl⟩
theorem own_mx (q : Int64) : 0 ≤ (q &&& (9223372036854775807 : Int64)).toInt := by
  have := c_maskL q (9223372036854775807 : Int64) 63 (by decide) (by decide)
  omega
theorem own_lt0 {q : Int64} (h : 0 ≤ q.toInt) : ¬ q < (0 : Int64) := by
  rw [Int64.lt_iff_toInt_lt]; have l0 : (0 : Int64).toInt = 0 := rfl; omega
theorem own_rem (x y : Int64) (hx : 0 ≤ x.toInt) (hy : 0 < y.toInt) : 0 ≤ (x - (x / y) * y).toInt ∧ (x - (x / y) * y).toInt < y.toInt := by
  have e := (c_lrem x y y.toInt rfl).1 hx
  rw [e]
  exact ⟨Int.emod_nonneg _ (by omega), Int.emod_lt_of_pos _ hy⟩
theorem own_upv (b x : Int64) (hb : 0 ≤ b.toInt) (hx : 0 ≤ x.toInt) : b.toInt ≤ (own_up b x).toInt := by
  have lm : ((9223372036854775807 : Int64)).toInt = 9223372036854775807 := rfl
  have l1 : (1 : Int64).toInt = 1 := rfl
  have a := c_lsub (9223372036854775807 : Int64) b
  have r1 := rng64 ((9223372036854775807 : Int64) - b)
  have r := rng64 b
  have rx := rng64 x
  have e1 : ((9223372036854775807 : Int64) - b).toInt = 9223372036854775807 - b.toInt := by omega
  unfold own_up
  split
  · rename_i h
    have : b.toInt = 0 := by rw [h] at e1; omega
    have s := c_ladd b x
    have rs := rng64 (b + x)
    omega
  · rename_i h
    have e' : ¬ ((9223372036854775807 : Int64) - b).toInt = 9223372036854775807 := fun w => h (Int64.toInt_inj.mp w)
    have p := c_ladd ((9223372036854775807 : Int64) - b) 1
    have rp := rng64 (((9223372036854775807 : Int64) - b) + 1)
    generalize (((9223372036854775807 : Int64) - b) + 1) = y at *
    have m := own_rem x y hx (by omega)
    generalize (x - x / y * y) = w at *
    have s := c_ladd b w
    have rs := rng64 (b + w)
    omega
theorem own_lev (q : Int64) : ¬ ((((q.toUInt64 >>> ((2 : Int32) &&& 0x3f).toInt64.toUInt64).toInt64) &&& (2147483647 : Int64)).toInt32) < (0 : Int32) := by
  have m := c_maskL ((q.toUInt64 >>> ((2 : Int32) &&& 0x3f).toInt64.toUInt64).toInt64) (2147483647 : Int64) 31 (by decide) (by decide)
  have l := c_l2i (((q.toUInt64 >>> ((2 : Int32) &&& 0x3f).toInt64.toUInt64).toInt64) &&& (2147483647 : Int64))
  have r := rng32 ((((q.toUInt64 >>> ((2 : Int32) &&& 0x3f).toInt64.toUInt64).toInt64) &&& (2147483647 : Int64)).toInt32)
  have l0 : (0 : Int32).toInt = 0 := rfl
  rw [Int32.lt_iff_toInt_lt]; omega
theorem own_olev (p : Int32) : ¬ (p &&& (2147483647 : Int32)) < (0 : Int32) := by
  have m := c_mask p (2147483647 : Int32) 31 (by decide) (by decide)
  have l0 : (0 : Int32).toInt = 0 := rfl
  rw [Int32.lt_iff_toInt_lt]; omega
theorem own_nz {d : Int64} (h : (0 : Int64) < d) : d ≠ 0 := fun q => by
  subst q; rw [Int64.lt_iff_toInt_lt] at h; omega
theorem own_nz2 {d : Int64} (h : d < (9223372036854775807 : Int64)) : ((9223372036854775807 : Int64) - d) ≠ 0 := fun q => by
  have a := c_lsub (9223372036854775807 : Int64) d
  rw [q] at a
  have l0 : (0 : Int64).toInt = 0 := rfl
  have lm : ((9223372036854775807 : Int64)).toInt = 9223372036854775807 := rfl
  have r := rng64 d
  rw [Int64.lt_iff_toInt_lt] at h; omega

theorem own_le {a b : Int64} (h : a.toInt ≤ b.toInt) : ¬ b < a := by rw [Int64.lt_iff_toInt_lt]; omega
theorem own_all (vS vE vD vQ : Int64) (vC : Int32) (hS0 : 0 ≤ vS.toInt) (hQ0 : 0 ≤ vQ.toInt) (hSE : vS.toInt ≤ vE.toInt) (hvD : vD = (vE - vS)) :
    0 ≤ ((if vC = (1 : Int32) then (if (0 : Int64) < vD then ((vS + (1 : Int64)) + (vQ - (vQ / vD) * vD)) else (if vS < (9223372036854775807 : Int64) then (vS + (1 : Int64)) else vS)) else (if vC = (2 : Int32) then (if vE < (9223372036854775807 : Int64) then ((vE + (1 : Int64)) + (vQ - (vQ / ((9223372036854775807 : Int64) - vE)) * ((9223372036854775807 : Int64) - vE))) else vS) else (if vC = (3 : Int32) then (if (0 : Int64) < vS then (vQ - (vQ / vS) * vS) else (0 : Int64)) else vS)))).toInt ∧ own_anc vS vE (if vC = (1 : Int32) then (if (0 : Int64) < vD then ((vS + (1 : Int64)) + (vQ - (vQ / vD) * vD)) else (if vS < (9223372036854775807 : Int64) then (vS + (1 : Int64)) else vS)) else (if vC = (2 : Int32) then (if vE < (9223372036854775807 : Int64) then ((vE + (1 : Int64)) + (vQ - (vQ / ((9223372036854775807 : Int64) - vE)) * ((9223372036854775807 : Int64) - vE))) else vS) else (if vC = (3 : Int32) then (if (0 : Int64) < vS then (vQ - (vQ / vS) * vS) else (0 : Int64)) else vS))) = (if vC = (1 : Int32) then (if (0 : Int64) < vD then (1 : Int32) else (0 : Int32)) else (0 : Int32)) := by
  have lm : ((9223372036854775807 : Int64)).toInt = 9223372036854775807 := rfl
  have l0 : (0 : Int64).toInt = 0 := rfl
  have l1 : (1 : Int64).toInt = 1 := rfl
  have rS := rng64 vS
  have rE := rng64 vE
  have rQ := rng64 vQ
  have rD := rng64 vD
  have d := c_lsub vE vS
  rw [← hvD] at d
  have eD : vD.toInt = vE.toInt - vS.toInt := by omega
  have s1 := c_ladd vS 1
  have rs1 := rng64 (vS + 1)
  have e1 := c_ladd vE 1
  have re1 := rng64 (vE + 1)
  have none : ∀ t : Int64, (¬ vS.toInt < t.toInt ∨ vE.toInt < t.toInt) → own_anc vS vE t = 0 := fun t h => by
    unfold own_anc
    rcases h with h | h
    · rw [if_neg (by rw [Int64.lt_iff_toInt_lt]; exact h)]
    · split
      · rw [if_pos (by rw [Int64.lt_iff_toInt_lt]; exact h)]
      · rfl
  by_cases c1 : vC = (1 : Int32)
  · simp only [if_pos c1]
    by_cases c2 : (0 : Int64) < vD
    · simp only [if_pos c2]
      rw [Int64.lt_iff_toInt_lt] at c2
      have m := own_rem vQ vD hQ0 (by omega)
      generalize (vQ - vQ / vD * vD) = w at *
      have a := c_ladd (vS + 1) w
      have ra := rng64 (vS + 1 + w)
      have e : (vS + 1 + w).toInt = vS.toInt + 1 + w.toInt := by omega
      refine ⟨by omega, ?_⟩
      unfold own_anc
      rw [if_pos (by rw [Int64.lt_iff_toInt_lt]; omega), if_neg (by rw [Int64.lt_iff_toInt_lt]; omega)]
    · simp only [if_neg c2]
      rw [Int64.lt_iff_toInt_lt] at c2
      by_cases c3 : vS < (9223372036854775807 : Int64)
      · simp only [if_pos c3]
        rw [Int64.lt_iff_toInt_lt] at c3
        exact ⟨by omega, none _ (by omega)⟩
      · simp only [if_neg c3]
        exact ⟨hS0, none _ (by omega)⟩
  · simp only [if_neg c1]
    by_cases c2 : vC = (2 : Int32)
    · simp only [if_pos c2]
      by_cases c3 : vE < (9223372036854775807 : Int64)
      · simp only [if_pos c3]
        rw [Int64.lt_iff_toInt_lt] at c3
        have f := c_lsub (9223372036854775807 : Int64) vE
        have rf := rng64 ((9223372036854775807 : Int64) - vE)
        generalize ((9223372036854775807 : Int64) - vE) = y at *
        have m := own_rem vQ y hQ0 (by omega)
        generalize (vQ - vQ / y * y) = w at *
        have a := c_ladd (vE + 1) w
        have ra := rng64 (vE + 1 + w)
        exact ⟨by omega, none _ (by omega)⟩
      · simp only [if_neg c3]
        exact ⟨hS0, none _ (by omega)⟩
    · simp only [if_neg c2]
      by_cases c3 : vC = (3 : Int32)
      · simp only [if_pos c3]
        by_cases c4 : (0 : Int64) < vS
        · simp only [if_pos c4]
          rw [Int64.lt_iff_toInt_lt] at c4
          have m := own_rem vQ vS hQ0 (by omega)
          exact ⟨m.1, none _ (by omega)⟩
        · simp only [if_neg c4]
          exact ⟨by omega, none _ (by omega)⟩
      · simp only [if_neg c3]
        exact ⟨hS0, none _ (by omega)⟩
theorem pd_1 : parseMethodDescriptor "(JJ)J" = some ⟨[.long, .long], some .long⟩ := by decide +kernel
theorem pd_2 : parseMethodDescriptor "(JJI)V" = some ⟨[.long, .long, .int], none⟩ := by decide +kernel
theorem pd_3 : parseMethodDescriptor "(Lcom/example/copse/copse/tree/NodeLabel;)Z" = some ⟨[(.object "com/example/copse/copse/tree/NodeLabel")], some .boolean⟩ := by decide +kernel
theorem ef_rm0 (m : MethodId) (x0 : Int64) (x1 : Int64) (x2 : Int64) (x3 : Int64) (x4 : Int64) (x5 : Int32) : entryFrame m #[(.long x0), (.long x1), (.long x2), (.long x3), (.long x4), (.int x5)] maxLocals = mkF m 0 #[.val (.long x0), .second, .val (.long x1), .second, .val (.long x2), .second, .val (.long x3), .second, .val (.long x4), .second, .val (.int x5), .unset, .unset, .unset, .unset, .unset, .unset, .unset, .unset, .unset, .unset, .unset, .unset, .unset, .unset, .unset, .unset, .unset, .unset] [] := by first | (simp [entryFrame, mkF, argsToLocals, Value.category, maxLocals]; done) | rfl
def Q_rm0 (Z : State) (q1 : Int64) (q2 : Int64) (q3 : Int64) (q4 : Int64) (q5 : Int64) (p6 : Int32) (h0 : Heap) (n0 : Nat) (v : Option Value) (h : Heap) (L : List Loc) : Prop := v = some (.int (1 : Int32)) ∧ Fr n0 L ∧ Keep h0 h []
set_option maxRecDepth 65536 in
set_option maxHeartbeats 40000000 in
theorem rm0 (l : Launch) (Z : State) (a0 : Array Value) (hw : ∀ d ∈ tables_1, d.before a0 Z = true) (ws : List Jvm.Cond) (q1 : Int64) (q2 : Int64) (q3 : Int64) (q4 : Int64) (q5 : Int64) (p6 : Int32) (h0 : Heap) (n0 : Nat) (Z0 : n0 ≤ h0.size) :
    MetFree l x (head1 (Jvm.Cond.code x code maxLocals ret :: ws) room_1) (fun a U => a = #[(.long q1), (.long q2), (.long q3), (.long q4), (.long q5), (.int p6)] ∧ Z.Warmed39 U.vm ∧ U.heap = h0) (fun _ _ _ _ _ => True) (fun _ U o U' => ∃ v L, o = .returned v ∧ Q_rm0 Z q1 q2 q3 q4 q5 p6 h0 n0 v U'.heap L ∧ FrameEnd U o U' L room_1.cells room_1.slots) := by
  refine MetFree.of_bodySF (plainFor_of_name pn_0) hisR ?_
  intro p e s m args below meth c s₁ Bd hml0 hP hK
  obtain ⟨rfl, hZ, hh⟩ := hP
  have hx := Bd.exec
  have hby := Bd.bytes
  have hml : c.maxLocals = 29 := hml0
  have hown : s.vm.findClass "com/example/copse/copse/tree/NodeLabelIsAncestorOfPinLaw" = some m.cls := findClass_of_methodNamed Bd.named
  have hnm := (name_of_methodNamed Bd.named Bd.method).1
  have X0 : Stand p l e room_1 s m #[(.long q1), (.long q2), (.long q3), (.long q4), (.long q5), (.int p6)] below meth c s₁ [] 0 0 := Stand.of_body Bd
  have e0 : s₁.heap = h0 := by rw [← hh, Bd.state]; rfl
  have N0 := Fr.nil n0
  have pre0 : ∀ t, Steps p.tables e below (s₁.setTop (mkF m 0 #[.val (.long q1), .second, .val (.long q2), .second, .val (.long q3), .second, .val (.long q4), .second, .val (.long q5), .second, .val (.int p6), .unset, .unset, .unset, .unset, .unset, .unset, .unset, .unset, .unset, .unset, .unset, .unset, .unset, .unset, .unset, .unset, .unset, .unset] [])) t → Steps p.tables e below (s₁.setTop (entryFrame m #[(.long q1), (.long q2), (.long q3), (.long q4), (.long q5), (.int p6)] maxLocals)) t := fun t k => castTop (ef_rm0 m q1 q2 q3 q4 q5 p6) k
  have pre1 : ∀ t, Steps p.tables e below (s₁.setTop (mkF m 7 #[.val (.long q1), .second, .val (.long q2), .second, .val (.long q3), .second, .val (.long q4), .second, .val (.long q5), .second, .val (.int p6), .val (.long (q1 &&& (9223372036854775807 : Int64))), .second, .unset, .unset, .unset, .unset, .unset, .unset, .unset, .unset, .unset, .unset, .unset, .unset, .unset, .unset, .unset, .unset] [])) t → Steps p.tables e below (s₁.setTop (entryFrame m #[(.long q1), (.long q2), (.long q3), (.long q4), (.long q5), (.int p6)] maxLocals)) t := by
    intro t k
    refine pre0 t ?_
    refine XS.lloadN X0.here hx rfl (hb hby at_0) rfl ?_
    show Steps _ _ _ (s₁.setTop (mkF m 1 #[.val (.long q1), .second, .val (.long q2), .second, .val (.long q3), .second, .val (.long q4), .second, .val (.long q5), .second, .val (.int p6), .unset, .unset, .unset, .unset, .unset, .unset, .unset, .unset, .unset, .unset, .unset, .unset, .unset, .unset, .unset, .unset, .unset, .unset] [(.long q1)])) _
    refine X0.ldc2Long hx hown (mvT hZ (hw _ (List.mem_of_getElem? (i := 0) rfl))) (g := (mkF m 1 #[.val (.long q1), .second, .val (.long q2), .second, .val (.long q3), .second, .val (.long q4), .second, .val (.long q5), .second, .val (.int p6), .unset, .unset, .unset, .unset, .unset, .unset, .unset, .unset, .unset, .unset, .unset, .unset, .unset, .unset, .unset, .unset, .unset, .unset] [(.long q1)])) rfl (hb hby at_1) _ ?_
    show Steps _ _ _ (s₁.setTop (mkF m 4 #[.val (.long q1), .second, .val (.long q2), .second, .val (.long q3), .second, .val (.long q4), .second, .val (.long q5), .second, .val (.int p6), .unset, .unset, .unset, .unset, .unset, .unset, .unset, .unset, .unset, .unset, .unset, .unset, .unset, .unset, .unset, .unset, .unset, .unset] [(.long (9223372036854775807 : Int64)), (.long q1)])) _
    refine XS.land X0.here hx rfl (hb hby at_4) rfl ?_
    show Steps _ _ _ (s₁.setTop (mkF m 5 #[.val (.long q1), .second, .val (.long q2), .second, .val (.long q3), .second, .val (.long q4), .second, .val (.long q5), .second, .val (.int p6), .unset, .unset, .unset, .unset, .unset, .unset, .unset, .unset, .unset, .unset, .unset, .unset, .unset, .unset, .unset, .unset, .unset, .unset] [(.long (q1 &&& (9223372036854775807 : Int64)))])) _
    refine XS.lstore X0.here hx rfl (hb hby at_5) rfl (l' := #[.val (.long q1), .second, .val (.long q2), .second, .val (.long q3), .second, .val (.long q4), .second, .val (.long q5), .second, .val (.int p6), .val (.long (q1 &&& (9223372036854775807 : Int64))), .second, .unset, .unset, .unset, .unset, .unset, .unset, .unset, .unset, .unset, .unset, .unset, .unset, .unset, .unset, .unset, .unset]) rfl ?_
    show Steps _ _ _ (s₁.setTop (mkF m 7 #[.val (.long q1), .second, .val (.long q2), .second, .val (.long q3), .second, .val (.long q4), .second, .val (.long q5), .second, .val (.int p6), .val (.long (q1 &&& (9223372036854775807 : Int64))), .second, .unset, .unset, .unset, .unset, .unset, .unset, .unset, .unset, .unset, .unset, .unset, .unset, .unset, .unset, .unset, .unset] [])) _
    exact k
  obtain ⟨vS, hvS⟩ : ∃ z : Int64, z = (q1 &&& (9223372036854775807 : Int64)) := ⟨_, rfl⟩
  rw [← hvS] at pre1
  obtain ⟨_, _, ⟨T2, L2, k2, n2⟩, -, X2, ⟨Lc2, hQ2, l2, y2, z2⟩, st2⟩ := Jvm.LawKit.callS X0 hx (y := (⟨"com/example/copse/copse/tree/NodeLabelIsAncestorOfPinLaw", "upTo", "(JJ)J"⟩ : MethodName)) hown (mvT hZ (hw _ (List.mem_of_getElem? (i := 1) rfl))) (mvT hZ (hw _ (List.mem_of_getElem? (i := 2) rfl))) (mvT hZ (hw _ (List.mem_of_getElem? (i := 3) rfl))) (mvT hZ (hw _ (List.mem_of_getElem? (i := 4) rfl))) (by decide) (backOf (W := 0) (rm1 l Z a0 hw [] vS (q2 &&& (9223372036854775807 : Int64)) h0 n0 Z0 (by rw [hvS]; exact own_lt0 (own_mx _))) hZ (hw _ (List.mem_of_getElem? (i := 4) rfl)) (hw _ (List.mem_of_getElem? (i := 3) rfl)) (by decide) (by decide)) (g := (mkF m 14 #[.val (.long q1), .second, .val (.long q2), .second, .val (.long q3), .second, .val (.long q4), .second, .val (.long q5), .second, .val (.int p6), .val (.long vS), .second, .unset, .unset, .unset, .unset, .unset, .unset, .unset, .unset, .unset, .unset, .unset, .unset, .unset, .unset, .unset, .unset] [(.long (q2 &&& (9223372036854775807 : Int64))), (.long vS)])) rfl (by rw [hml]; rfl) (argsL := [(.long vS), (.long (q2 &&& (9223372036854775807 : Int64)))]) (rest := []) (lenOf pd_1 rfl) rfl (by show 2 * 0 + _ ≤ _; exact Nat.le_of_eq rfl) (hb hby at_14) (fun _ _ => ⟨rfl, e0, (by decide : 0 + 0 ≤ _), (by decide : 0 + 0 ≤ _)⟩)
  dsimp only [Pt.U, Pt.locs, Pt.cells, Pt.slots] at X2 l2 y2 z2 st2 hQ2
  subst l2 y2 z2
  obtain ⟨rfl, Nq2, q2_0⟩ := hQ2
  have N3 := Fr.app N0 Nq2
  have pre4 : ∀ t, Steps p.tables e below (T2.setTop (mkF m 19 #[.val (.long q1), .second, .val (.long q2), .second, .val (.long q3), .second, .val (.long q4), .second, .val (.long q5), .second, .val (.int p6), .val (.long vS), .second, .val (.long (own_up vS (q2 &&& (9223372036854775807 : Int64)))), .second, .unset, .unset, .unset, .unset, .unset, .unset, .unset, .unset, .unset, .unset, .unset, .unset, .unset, .unset] [])) t → Steps p.tables e below (s₁.setTop (entryFrame m #[(.long q1), (.long q2), (.long q3), (.long q4), (.long q5), (.int p6)] maxLocals)) t := by
    intro t k
    refine pre1 t ?_
    refine XS.lload X0.here hx rfl (hb hby at_7) rfl ?_
    show Steps _ _ _ (s₁.setTop (mkF m 9 #[.val (.long q1), .second, .val (.long q2), .second, .val (.long q3), .second, .val (.long q4), .second, .val (.long q5), .second, .val (.int p6), .val (.long vS), .second, .unset, .unset, .unset, .unset, .unset, .unset, .unset, .unset, .unset, .unset, .unset, .unset, .unset, .unset, .unset, .unset] [(.long vS)])) _
    refine XS.lloadN X0.here hx rfl (hb hby at_9) rfl ?_
    show Steps _ _ _ (s₁.setTop (mkF m 10 #[.val (.long q1), .second, .val (.long q2), .second, .val (.long q3), .second, .val (.long q4), .second, .val (.long q5), .second, .val (.int p6), .val (.long vS), .second, .unset, .unset, .unset, .unset, .unset, .unset, .unset, .unset, .unset, .unset, .unset, .unset, .unset, .unset, .unset, .unset] [(.long q2), (.long vS)])) _
    refine X0.ldc2Long hx hown (mvT hZ (hw _ (List.mem_of_getElem? (i := 0) rfl))) (g := (mkF m 10 #[.val (.long q1), .second, .val (.long q2), .second, .val (.long q3), .second, .val (.long q4), .second, .val (.long q5), .second, .val (.int p6), .val (.long vS), .second, .unset, .unset, .unset, .unset, .unset, .unset, .unset, .unset, .unset, .unset, .unset, .unset, .unset, .unset, .unset, .unset] [(.long q2), (.long vS)])) rfl (hb hby at_10) _ ?_
    show Steps _ _ _ (s₁.setTop (mkF m 13 #[.val (.long q1), .second, .val (.long q2), .second, .val (.long q3), .second, .val (.long q4), .second, .val (.long q5), .second, .val (.int p6), .val (.long vS), .second, .unset, .unset, .unset, .unset, .unset, .unset, .unset, .unset, .unset, .unset, .unset, .unset, .unset, .unset, .unset, .unset] [(.long (9223372036854775807 : Int64)), (.long q2), (.long vS)])) _
    refine XS.land X0.here hx rfl (hb hby at_13) rfl ?_
    show Steps _ _ _ (s₁.setTop (mkF m 14 #[.val (.long q1), .second, .val (.long q2), .second, .val (.long q3), .second, .val (.long q4), .second, .val (.long q5), .second, .val (.int p6), .val (.long vS), .second, .unset, .unset, .unset, .unset, .unset, .unset, .unset, .unset, .unset, .unset, .unset, .unset, .unset, .unset, .unset, .unset] [(.long (q2 &&& (9223372036854775807 : Int64))), (.long vS)])) _
    refine st2 _ ?_
    show Steps _ _ _ (T2.setTop (mkF m 17 #[.val (.long q1), .second, .val (.long q2), .second, .val (.long q3), .second, .val (.long q4), .second, .val (.long q5), .second, .val (.int p6), .val (.long vS), .second, .unset, .unset, .unset, .unset, .unset, .unset, .unset, .unset, .unset, .unset, .unset, .unset, .unset, .unset, .unset, .unset] [(.long (own_up vS (q2 &&& (9223372036854775807 : Int64))))])) _
    refine XS.lstore X2.here hx rfl (hb hby at_17) rfl (l' := #[.val (.long q1), .second, .val (.long q2), .second, .val (.long q3), .second, .val (.long q4), .second, .val (.long q5), .second, .val (.int p6), .val (.long vS), .second, .val (.long (own_up vS (q2 &&& (9223372036854775807 : Int64)))), .second, .unset, .unset, .unset, .unset, .unset, .unset, .unset, .unset, .unset, .unset, .unset, .unset, .unset, .unset]) rfl ?_
    show Steps _ _ _ (T2.setTop (mkF m 19 #[.val (.long q1), .second, .val (.long q2), .second, .val (.long q3), .second, .val (.long q4), .second, .val (.long q5), .second, .val (.int p6), .val (.long vS), .second, .val (.long (own_up vS (q2 &&& (9223372036854775807 : Int64)))), .second, .unset, .unset, .unset, .unset, .unset, .unset, .unset, .unset, .unset, .unset, .unset, .unset, .unset, .unset] [])) _
    exact k
  obtain ⟨vE, hvE⟩ : ∃ z : Int64, z = (own_up vS (q2 &&& (9223372036854775807 : Int64))) := ⟨_, rfl⟩
  rw [← hvE] at pre4
  have pre5 : ∀ t, Steps p.tables e below (T2.setTop (mkF m 26 #[.val (.long q1), .second, .val (.long q2), .second, .val (.long q3), .second, .val (.long q4), .second, .val (.long q5), .second, .val (.int p6), .val (.long vS), .second, .val (.long vE), .second, .val (.long (vE - vS)), .second, .unset, .unset, .unset, .unset, .unset, .unset, .unset, .unset, .unset, .unset, .unset, .unset] [])) t → Steps p.tables e below (s₁.setTop (entryFrame m #[(.long q1), (.long q2), (.long q3), (.long q4), (.long q5), (.int p6)] maxLocals)) t := by
    intro t k
    refine pre4 t ?_
    refine XS.lload X2.here hx rfl (hb hby at_19) rfl ?_
    show Steps _ _ _ (T2.setTop (mkF m 21 #[.val (.long q1), .second, .val (.long q2), .second, .val (.long q3), .second, .val (.long q4), .second, .val (.long q5), .second, .val (.int p6), .val (.long vS), .second, .val (.long vE), .second, .unset, .unset, .unset, .unset, .unset, .unset, .unset, .unset, .unset, .unset, .unset, .unset, .unset, .unset] [(.long vE)])) _
    refine XS.lload X2.here hx rfl (hb hby at_21) rfl ?_
    show Steps _ _ _ (T2.setTop (mkF m 23 #[.val (.long q1), .second, .val (.long q2), .second, .val (.long q3), .second, .val (.long q4), .second, .val (.long q5), .second, .val (.int p6), .val (.long vS), .second, .val (.long vE), .second, .unset, .unset, .unset, .unset, .unset, .unset, .unset, .unset, .unset, .unset, .unset, .unset, .unset, .unset] [(.long vS), (.long vE)])) _
    refine XS.lsub X2.here hx rfl (hb hby at_23) rfl ?_
    show Steps _ _ _ (T2.setTop (mkF m 24 #[.val (.long q1), .second, .val (.long q2), .second, .val (.long q3), .second, .val (.long q4), .second, .val (.long q5), .second, .val (.int p6), .val (.long vS), .second, .val (.long vE), .second, .unset, .unset, .unset, .unset, .unset, .unset, .unset, .unset, .unset, .unset, .unset, .unset, .unset, .unset] [(.long (vE - vS))])) _
    refine XS.lstore X2.here hx rfl (hb hby at_24) rfl (l' := #[.val (.long q1), .second, .val (.long q2), .second, .val (.long q3), .second, .val (.long q4), .second, .val (.long q5), .second, .val (.int p6), .val (.long vS), .second, .val (.long vE), .second, .val (.long (vE - vS)), .second, .unset, .unset, .unset, .unset, .unset, .unset, .unset, .unset, .unset, .unset, .unset, .unset]) rfl ?_
    show Steps _ _ _ (T2.setTop (mkF m 26 #[.val (.long q1), .second, .val (.long q2), .second, .val (.long q3), .second, .val (.long q4), .second, .val (.long q5), .second, .val (.int p6), .val (.long vS), .second, .val (.long vE), .second, .val (.long (vE - vS)), .second, .unset, .unset, .unset, .unset, .unset, .unset, .unset, .unset, .unset, .unset, .unset, .unset] [])) _
    exact k
  obtain ⟨vD, hvD⟩ : ∃ z : Int64, z = (vE - vS) := ⟨_, rfl⟩
  rw [← hvD] at pre5
  have pre6 : ∀ t, Steps p.tables e below (T2.setTop (mkF m 35 #[.val (.long q1), .second, .val (.long q2), .second, .val (.long q3), .second, .val (.long q4), .second, .val (.long q5), .second, .val (.int p6), .val (.long vS), .second, .val (.long vE), .second, .val (.long vD), .second, .val (.int ((q3 &&& (3 : Int64)).toInt32)), .unset, .unset, .unset, .unset, .unset, .unset, .unset, .unset, .unset, .unset, .unset] [])) t → Steps p.tables e below (s₁.setTop (entryFrame m #[(.long q1), (.long q2), (.long q3), (.long q4), (.long q5), (.int p6)] maxLocals)) t := by
    intro t k
    refine pre5 t ?_
    refine XS.lload X2.here hx rfl (hb hby at_26) rfl ?_
    show Steps _ _ _ (T2.setTop (mkF m 28 #[.val (.long q1), .second, .val (.long q2), .second, .val (.long q3), .second, .val (.long q4), .second, .val (.long q5), .second, .val (.int p6), .val (.long vS), .second, .val (.long vE), .second, .val (.long vD), .second, .unset, .unset, .unset, .unset, .unset, .unset, .unset, .unset, .unset, .unset, .unset, .unset] [(.long q3)])) _
    refine X2.ldc2Long hx hown (mvT hZ (hw _ (List.mem_of_getElem? (i := 5) rfl))) (g := (mkF m 28 #[.val (.long q1), .second, .val (.long q2), .second, .val (.long q3), .second, .val (.long q4), .second, .val (.long q5), .second, .val (.int p6), .val (.long vS), .second, .val (.long vE), .second, .val (.long vD), .second, .unset, .unset, .unset, .unset, .unset, .unset, .unset, .unset, .unset, .unset, .unset, .unset] [(.long q3)])) rfl (hb hby at_28) _ ?_
    show Steps _ _ _ (T2.setTop (mkF m 31 #[.val (.long q1), .second, .val (.long q2), .second, .val (.long q3), .second, .val (.long q4), .second, .val (.long q5), .second, .val (.int p6), .val (.long vS), .second, .val (.long vE), .second, .val (.long vD), .second, .unset, .unset, .unset, .unset, .unset, .unset, .unset, .unset, .unset, .unset, .unset, .unset] [(.long (3 : Int64)), (.long q3)])) _
    refine XS.land X2.here hx rfl (hb hby at_31) rfl ?_
    show Steps _ _ _ (T2.setTop (mkF m 32 #[.val (.long q1), .second, .val (.long q2), .second, .val (.long q3), .second, .val (.long q4), .second, .val (.long q5), .second, .val (.int p6), .val (.long vS), .second, .val (.long vE), .second, .val (.long vD), .second, .unset, .unset, .unset, .unset, .unset, .unset, .unset, .unset, .unset, .unset, .unset, .unset] [(.long (q3 &&& (3 : Int64)))])) _
    refine XS.l2i X2.here hx rfl (hb hby at_32) rfl ?_
    show Steps _ _ _ (T2.setTop (mkF m 33 #[.val (.long q1), .second, .val (.long q2), .second, .val (.long q3), .second, .val (.long q4), .second, .val (.long q5), .second, .val (.int p6), .val (.long vS), .second, .val (.long vE), .second, .val (.long vD), .second, .unset, .unset, .unset, .unset, .unset, .unset, .unset, .unset, .unset, .unset, .unset, .unset] [(.int ((q3 &&& (3 : Int64)).toInt32))])) _
    refine XS.istore X2.here hx rfl (hb hby at_33) rfl (l' := #[.val (.long q1), .second, .val (.long q2), .second, .val (.long q3), .second, .val (.long q4), .second, .val (.long q5), .second, .val (.int p6), .val (.long vS), .second, .val (.long vE), .second, .val (.long vD), .second, .val (.int ((q3 &&& (3 : Int64)).toInt32)), .unset, .unset, .unset, .unset, .unset, .unset, .unset, .unset, .unset, .unset, .unset]) rfl ?_
    show Steps _ _ _ (T2.setTop (mkF m 35 #[.val (.long q1), .second, .val (.long q2), .second, .val (.long q3), .second, .val (.long q4), .second, .val (.long q5), .second, .val (.int p6), .val (.long vS), .second, .val (.long vE), .second, .val (.long vD), .second, .val (.int ((q3 &&& (3 : Int64)).toInt32)), .unset, .unset, .unset, .unset, .unset, .unset, .unset, .unset, .unset, .unset, .unset] [])) _
    exact k
  obtain ⟨vC, hvC⟩ : ∃ z : Int32, z = ((q3 &&& (3 : Int64)).toInt32) := ⟨_, rfl⟩
  rw [← hvC] at pre6
  have pre7 : ∀ t, Steps p.tables e below (T2.setTop (mkF m 46 #[.val (.long q1), .second, .val (.long q2), .second, .val (.long q3), .second, .val (.long q4), .second, .val (.long q5), .second, .val (.int p6), .val (.long vS), .second, .val (.long vE), .second, .val (.long vD), .second, .val (.int vC), .val (.int ((((q3.toUInt64 >>> ((2 : Int32) &&& 0x3f).toInt64.toUInt64).toInt64) &&& (2147483647 : Int64)).toInt32)), .unset, .unset, .unset, .unset, .unset, .unset, .unset, .unset, .unset, .unset] [])) t → Steps p.tables e below (s₁.setTop (entryFrame m #[(.long q1), (.long q2), (.long q3), (.long q4), (.long q5), (.int p6)] maxLocals)) t := by
    intro t k
    refine pre6 t ?_
    refine XS.lload X2.here hx rfl (hb hby at_35) rfl ?_
    show Steps _ _ _ (T2.setTop (mkF m 37 #[.val (.long q1), .second, .val (.long q2), .second, .val (.long q3), .second, .val (.long q4), .second, .val (.long q5), .second, .val (.int p6), .val (.long vS), .second, .val (.long vE), .second, .val (.long vD), .second, .val (.int vC), .unset, .unset, .unset, .unset, .unset, .unset, .unset, .unset, .unset, .unset, .unset] [(.long q3)])) _
    refine XS.iconst X2.here hx rfl (hb hby at_37) ?_
    show Steps _ _ _ (T2.setTop (mkF m 38 #[.val (.long q1), .second, .val (.long q2), .second, .val (.long q3), .second, .val (.long q4), .second, .val (.long q5), .second, .val (.int p6), .val (.long vS), .second, .val (.long vE), .second, .val (.long vD), .second, .val (.int vC), .unset, .unset, .unset, .unset, .unset, .unset, .unset, .unset, .unset, .unset, .unset] [(.int (2 : Int32)), (.long q3)])) _
    refine XS.lushr X2.here hx rfl (hb hby at_38) rfl ?_
    show Steps _ _ _ (T2.setTop (mkF m 39 #[.val (.long q1), .second, .val (.long q2), .second, .val (.long q3), .second, .val (.long q4), .second, .val (.long q5), .second, .val (.int p6), .val (.long vS), .second, .val (.long vE), .second, .val (.long vD), .second, .val (.int vC), .unset, .unset, .unset, .unset, .unset, .unset, .unset, .unset, .unset, .unset, .unset] [(.long ((q3.toUInt64 >>> ((2 : Int32) &&& 0x3f).toInt64.toUInt64).toInt64))])) _
    refine X2.ldc2Long hx hown (mvT hZ (hw _ (List.mem_of_getElem? (i := 6) rfl))) (g := (mkF m 39 #[.val (.long q1), .second, .val (.long q2), .second, .val (.long q3), .second, .val (.long q4), .second, .val (.long q5), .second, .val (.int p6), .val (.long vS), .second, .val (.long vE), .second, .val (.long vD), .second, .val (.int vC), .unset, .unset, .unset, .unset, .unset, .unset, .unset, .unset, .unset, .unset, .unset] [(.long ((q3.toUInt64 >>> ((2 : Int32) &&& 0x3f).toInt64.toUInt64).toInt64))])) rfl (hb hby at_39) _ ?_
    show Steps _ _ _ (T2.setTop (mkF m 42 #[.val (.long q1), .second, .val (.long q2), .second, .val (.long q3), .second, .val (.long q4), .second, .val (.long q5), .second, .val (.int p6), .val (.long vS), .second, .val (.long vE), .second, .val (.long vD), .second, .val (.int vC), .unset, .unset, .unset, .unset, .unset, .unset, .unset, .unset, .unset, .unset, .unset] [(.long (2147483647 : Int64)), (.long ((q3.toUInt64 >>> ((2 : Int32) &&& 0x3f).toInt64.toUInt64).toInt64))])) _
    refine XS.land X2.here hx rfl (hb hby at_42) rfl ?_
    show Steps _ _ _ (T2.setTop (mkF m 43 #[.val (.long q1), .second, .val (.long q2), .second, .val (.long q3), .second, .val (.long q4), .second, .val (.long q5), .second, .val (.int p6), .val (.long vS), .second, .val (.long vE), .second, .val (.long vD), .second, .val (.int vC), .unset, .unset, .unset, .unset, .unset, .unset, .unset, .unset, .unset, .unset, .unset] [(.long (((q3.toUInt64 >>> ((2 : Int32) &&& 0x3f).toInt64.toUInt64).toInt64) &&& (2147483647 : Int64)))])) _
    refine XS.l2i X2.here hx rfl (hb hby at_43) rfl ?_
    show Steps _ _ _ (T2.setTop (mkF m 44 #[.val (.long q1), .second, .val (.long q2), .second, .val (.long q3), .second, .val (.long q4), .second, .val (.long q5), .second, .val (.int p6), .val (.long vS), .second, .val (.long vE), .second, .val (.long vD), .second, .val (.int vC), .unset, .unset, .unset, .unset, .unset, .unset, .unset, .unset, .unset, .unset, .unset] [(.int ((((q3.toUInt64 >>> ((2 : Int32) &&& 0x3f).toInt64.toUInt64).toInt64) &&& (2147483647 : Int64)).toInt32))])) _
    refine XS.istore X2.here hx rfl (hb hby at_44) rfl (l' := #[.val (.long q1), .second, .val (.long q2), .second, .val (.long q3), .second, .val (.long q4), .second, .val (.long q5), .second, .val (.int p6), .val (.long vS), .second, .val (.long vE), .second, .val (.long vD), .second, .val (.int vC), .val (.int ((((q3.toUInt64 >>> ((2 : Int32) &&& 0x3f).toInt64.toUInt64).toInt64) &&& (2147483647 : Int64)).toInt32)), .unset, .unset, .unset, .unset, .unset, .unset, .unset, .unset, .unset, .unset]) rfl ?_
    show Steps _ _ _ (T2.setTop (mkF m 46 #[.val (.long q1), .second, .val (.long q2), .second, .val (.long q3), .second, .val (.long q4), .second, .val (.long q5), .second, .val (.int p6), .val (.long vS), .second, .val (.long vE), .second, .val (.long vD), .second, .val (.int vC), .val (.int ((((q3.toUInt64 >>> ((2 : Int32) &&& 0x3f).toInt64.toUInt64).toInt64) &&& (2147483647 : Int64)).toInt32)), .unset, .unset, .unset, .unset, .unset, .unset, .unset, .unset, .unset, .unset] [])) _
    exact k
  obtain ⟨vL, hvL⟩ : ∃ z : Int32, z = ((((q3.toUInt64 >>> ((2 : Int32) &&& 0x3f).toInt64.toUInt64).toInt64) &&& (2147483647 : Int64)).toInt32) := ⟨_, rfl⟩
  rw [← hvL] at pre7
  have pre8 : ∀ t, Steps p.tables e below (T2.setTop (mkF m 53 #[.val (.long q1), .second, .val (.long q2), .second, .val (.long q3), .second, .val (.long q4), .second, .val (.long q5), .second, .val (.int p6), .val (.long vS), .second, .val (.long vE), .second, .val (.long vD), .second, .val (.int vC), .val (.int vL), .val (.int (p6 &&& (2147483647 : Int32))), .unset, .unset, .unset, .unset, .unset, .unset, .unset, .unset, .unset] [])) t → Steps p.tables e below (s₁.setTop (entryFrame m #[(.long q1), (.long q2), (.long q3), (.long q4), (.long q5), (.int p6)] maxLocals)) t := by
    intro t k
    refine pre7 t ?_
    refine XS.iload X2.here hx rfl (hb hby at_46) rfl ?_
    show Steps _ _ _ (T2.setTop (mkF m 48 #[.val (.long q1), .second, .val (.long q2), .second, .val (.long q3), .second, .val (.long q4), .second, .val (.long q5), .second, .val (.int p6), .val (.long vS), .second, .val (.long vE), .second, .val (.long vD), .second, .val (.int vC), .val (.int vL), .unset, .unset, .unset, .unset, .unset, .unset, .unset, .unset, .unset, .unset] [(.int p6)])) _
    refine X2.ldcInt hx hown (mvT hZ (hw _ (List.mem_of_getElem? (i := 7) rfl))) (g := (mkF m 48 #[.val (.long q1), .second, .val (.long q2), .second, .val (.long q3), .second, .val (.long q4), .second, .val (.long q5), .second, .val (.int p6), .val (.long vS), .second, .val (.long vE), .second, .val (.long vD), .second, .val (.int vC), .val (.int vL), .unset, .unset, .unset, .unset, .unset, .unset, .unset, .unset, .unset, .unset] [(.int p6)])) rfl (hb hby at_48) _ ?_
    show Steps _ _ _ (T2.setTop (mkF m 50 #[.val (.long q1), .second, .val (.long q2), .second, .val (.long q3), .second, .val (.long q4), .second, .val (.long q5), .second, .val (.int p6), .val (.long vS), .second, .val (.long vE), .second, .val (.long vD), .second, .val (.int vC), .val (.int vL), .unset, .unset, .unset, .unset, .unset, .unset, .unset, .unset, .unset, .unset] [(.int (2147483647 : Int32)), (.int p6)])) _
    refine XS.iand X2.here hx rfl (hb hby at_50) rfl ?_
    show Steps _ _ _ (T2.setTop (mkF m 51 #[.val (.long q1), .second, .val (.long q2), .second, .val (.long q3), .second, .val (.long q4), .second, .val (.long q5), .second, .val (.int p6), .val (.long vS), .second, .val (.long vE), .second, .val (.long vD), .second, .val (.int vC), .val (.int vL), .unset, .unset, .unset, .unset, .unset, .unset, .unset, .unset, .unset, .unset] [(.int (p6 &&& (2147483647 : Int32)))])) _
    refine XS.istore X2.here hx rfl (hb hby at_51) rfl (l' := #[.val (.long q1), .second, .val (.long q2), .second, .val (.long q3), .second, .val (.long q4), .second, .val (.long q5), .second, .val (.int p6), .val (.long vS), .second, .val (.long vE), .second, .val (.long vD), .second, .val (.int vC), .val (.int vL), .val (.int (p6 &&& (2147483647 : Int32))), .unset, .unset, .unset, .unset, .unset, .unset, .unset, .unset, .unset]) rfl ?_
    show Steps _ _ _ (T2.setTop (mkF m 53 #[.val (.long q1), .second, .val (.long q2), .second, .val (.long q3), .second, .val (.long q4), .second, .val (.long q5), .second, .val (.int p6), .val (.long vS), .second, .val (.long vE), .second, .val (.long vD), .second, .val (.int vC), .val (.int vL), .val (.int (p6 &&& (2147483647 : Int32))), .unset, .unset, .unset, .unset, .unset, .unset, .unset, .unset, .unset] [])) _
    exact k
  obtain ⟨vM, hvM⟩ : ∃ z : Int32, z = (p6 &&& (2147483647 : Int32)) := ⟨_, rfl⟩
  rw [← hvM] at pre8
  have pre9 : ∀ t, Steps p.tables e below (T2.setTop (mkF m 61 #[.val (.long q1), .second, .val (.long q2), .second, .val (.long q3), .second, .val (.long q4), .second, .val (.long q5), .second, .val (.int p6), .val (.long vS), .second, .val (.long vE), .second, .val (.long vD), .second, .val (.int vC), .val (.int vL), .val (.int vM), .val (.long (q4 &&& (9223372036854775807 : Int64))), .second, .unset, .unset, .unset, .unset, .unset, .unset, .unset] [])) t → Steps p.tables e below (s₁.setTop (entryFrame m #[(.long q1), (.long q2), (.long q3), (.long q4), (.long q5), (.int p6)] maxLocals)) t := by
    intro t k
    refine pre8 t ?_
    refine XS.lload X2.here hx rfl (hb hby at_53) rfl ?_
    show Steps _ _ _ (T2.setTop (mkF m 55 #[.val (.long q1), .second, .val (.long q2), .second, .val (.long q3), .second, .val (.long q4), .second, .val (.long q5), .second, .val (.int p6), .val (.long vS), .second, .val (.long vE), .second, .val (.long vD), .second, .val (.int vC), .val (.int vL), .val (.int vM), .unset, .unset, .unset, .unset, .unset, .unset, .unset, .unset, .unset] [(.long q4)])) _
    refine X2.ldc2Long hx hown (mvT hZ (hw _ (List.mem_of_getElem? (i := 0) rfl))) (g := (mkF m 55 #[.val (.long q1), .second, .val (.long q2), .second, .val (.long q3), .second, .val (.long q4), .second, .val (.long q5), .second, .val (.int p6), .val (.long vS), .second, .val (.long vE), .second, .val (.long vD), .second, .val (.int vC), .val (.int vL), .val (.int vM), .unset, .unset, .unset, .unset, .unset, .unset, .unset, .unset, .unset] [(.long q4)])) rfl (hb hby at_55) _ ?_
    show Steps _ _ _ (T2.setTop (mkF m 58 #[.val (.long q1), .second, .val (.long q2), .second, .val (.long q3), .second, .val (.long q4), .second, .val (.long q5), .second, .val (.int p6), .val (.long vS), .second, .val (.long vE), .second, .val (.long vD), .second, .val (.int vC), .val (.int vL), .val (.int vM), .unset, .unset, .unset, .unset, .unset, .unset, .unset, .unset, .unset] [(.long (9223372036854775807 : Int64)), (.long q4)])) _
    refine XS.land X2.here hx rfl (hb hby at_58) rfl ?_
    show Steps _ _ _ (T2.setTop (mkF m 59 #[.val (.long q1), .second, .val (.long q2), .second, .val (.long q3), .second, .val (.long q4), .second, .val (.long q5), .second, .val (.int p6), .val (.long vS), .second, .val (.long vE), .second, .val (.long vD), .second, .val (.int vC), .val (.int vL), .val (.int vM), .unset, .unset, .unset, .unset, .unset, .unset, .unset, .unset, .unset] [(.long (q4 &&& (9223372036854775807 : Int64)))])) _
    refine XS.lstore X2.here hx rfl (hb hby at_59) rfl (l' := #[.val (.long q1), .second, .val (.long q2), .second, .val (.long q3), .second, .val (.long q4), .second, .val (.long q5), .second, .val (.int p6), .val (.long vS), .second, .val (.long vE), .second, .val (.long vD), .second, .val (.int vC), .val (.int vL), .val (.int vM), .val (.long (q4 &&& (9223372036854775807 : Int64))), .second, .unset, .unset, .unset, .unset, .unset, .unset, .unset]) rfl ?_
    show Steps _ _ _ (T2.setTop (mkF m 61 #[.val (.long q1), .second, .val (.long q2), .second, .val (.long q3), .second, .val (.long q4), .second, .val (.long q5), .second, .val (.int p6), .val (.long vS), .second, .val (.long vE), .second, .val (.long vD), .second, .val (.int vC), .val (.int vL), .val (.int vM), .val (.long (q4 &&& (9223372036854775807 : Int64))), .second, .unset, .unset, .unset, .unset, .unset, .unset, .unset] [])) _
    exact k
  obtain ⟨vQ, hvQ⟩ : ∃ z : Int64, z = (q4 &&& (9223372036854775807 : Int64)) := ⟨_, rfl⟩
  rw [← hvQ] at pre9
  have pre10 : ∀ t, Steps p.tables e below (T2.setTop (mkF m 64 #[.val (.long q1), .second, .val (.long q2), .second, .val (.long q3), .second, .val (.long q4), .second, .val (.long q5), .second, .val (.int p6), .val (.long vS), .second, .val (.long vE), .second, .val (.long vD), .second, .val (.int vC), .val (.int vL), .val (.int vM), .val (.long vQ), .second, .unset, .unset, .val (.int (0 : Int32)), .unset, .unset, .unset, .unset] [])) t → Steps p.tables e below (s₁.setTop (entryFrame m #[(.long q1), (.long q2), (.long q3), (.long q4), (.long q5), (.int p6)] maxLocals)) t := by
    intro t k
    refine pre9 t ?_
    refine XS.iconst X2.here hx rfl (hb hby at_61) ?_
    show Steps _ _ _ (T2.setTop (mkF m 62 #[.val (.long q1), .second, .val (.long q2), .second, .val (.long q3), .second, .val (.long q4), .second, .val (.long q5), .second, .val (.int p6), .val (.long vS), .second, .val (.long vE), .second, .val (.long vD), .second, .val (.int vC), .val (.int vL), .val (.int vM), .val (.long vQ), .second, .unset, .unset, .unset, .unset, .unset, .unset, .unset] [(.int (0 : Int32))])) _
    refine XS.istore X2.here hx rfl (hb hby at_62) rfl (l' := #[.val (.long q1), .second, .val (.long q2), .second, .val (.long q3), .second, .val (.long q4), .second, .val (.long q5), .second, .val (.int p6), .val (.long vS), .second, .val (.long vE), .second, .val (.long vD), .second, .val (.int vC), .val (.int vL), .val (.int vM), .val (.long vQ), .second, .unset, .unset, .val (.int (0 : Int32)), .unset, .unset, .unset, .unset]) rfl ?_
    show Steps _ _ _ (T2.setTop (mkF m 64 #[.val (.long q1), .second, .val (.long q2), .second, .val (.long q3), .second, .val (.long q4), .second, .val (.long q5), .second, .val (.int p6), .val (.long vS), .second, .val (.long vE), .second, .val (.long vD), .second, .val (.int vC), .val (.int vL), .val (.int vM), .val (.long vQ), .second, .unset, .unset, .val (.int (0 : Int32)), .unset, .unset, .unset, .unset] [])) _
    exact k
  have hS0 : 0 ≤ vS.toInt := by rw [hvS]; exact own_mx _
  have hQ0 : 0 ≤ vQ.toInt := by rw [hvQ]; exact own_mx _
  have hSE : vS.toInt ≤ vE.toInt := by rw [hvE]; exact own_upv _ _ hS0 (own_mx _)
  have pre18 : ∀ t, Steps p.tables e below (T2.setTop (mkF m 194 #[.val (.long q1), .second, .val (.long q2), .second, .val (.long q3), .second, .val (.long q4), .second, .val (.long q5), .second, .val (.int p6), .val (.long vS), .second, .val (.long vE), .second, .val (.long vD), .second, .val (.int vC), .val (.int vL), .val (.int vM), .val (.long vQ), .second, .val (.long (if vC = (1 : Int32) then (if (0 : Int64) < vD then ((vS + (1 : Int64)) + (vQ - (vQ / vD) * vD)) else (if vS < (9223372036854775807 : Int64) then (vS + (1 : Int64)) else vS)) else (if vC = (2 : Int32) then (if vE < (9223372036854775807 : Int64) then ((vE + (1 : Int64)) + (vQ - (vQ / ((9223372036854775807 : Int64) - vE)) * ((9223372036854775807 : Int64) - vE))) else vS) else (if vC = (3 : Int32) then (if (0 : Int64) < vS then (vQ - (vQ / vS) * vS) else (0 : Int64)) else vS)))), .second, .val (.int (if vC = (1 : Int32) then (if (0 : Int64) < vD then (1 : Int32) else (0 : Int32)) else (0 : Int32))), .unset, .unset, .unset, .unset] [])) t → Steps p.tables e below (s₁.setTop (entryFrame m #[(.long q1), (.long q2), (.long q3), (.long q4), (.long q5), (.int p6)] maxLocals)) t := by
    intro t k
    refine pre10 t ?_
    refine XS.iload X2.here hx rfl (hb hby at_64) rfl ?_
    show Steps _ _ _ (T2.setTop (mkF m 66 #[.val (.long q1), .second, .val (.long q2), .second, .val (.long q3), .second, .val (.long q4), .second, .val (.long q5), .second, .val (.int p6), .val (.long vS), .second, .val (.long vE), .second, .val (.long vD), .second, .val (.int vC), .val (.int vL), .val (.int vM), .val (.long vQ), .second, .unset, .unset, .val (.int (0 : Int32)), .unset, .unset, .unset, .unset] [(.int vC)])) _
    refine XS.iconst X2.here hx rfl (hb hby at_66) ?_
    show Steps _ _ _ (T2.setTop (mkF m 67 #[.val (.long q1), .second, .val (.long q2), .second, .val (.long q3), .second, .val (.long q4), .second, .val (.long q5), .second, .val (.int p6), .val (.long vS), .second, .val (.long vE), .second, .val (.long vD), .second, .val (.int vC), .val (.int vL), .val (.int vM), .val (.long vQ), .second, .unset, .unset, .val (.int (0 : Int32)), .unset, .unset, .unset, .unset] [(.int (1 : Int32)), (.int vC)])) _
    by_cases hc11 : vC = (1 : Int32)
    · simp only [if_pos hc11] at k
      refine XS.icmpNo X2.here hx rfl (hb hby at_67) rfl (teq hc11).2 ?_
      show Steps _ _ _ (T2.setTop (mkF m 70 #[.val (.long q1), .second, .val (.long q2), .second, .val (.long q3), .second, .val (.long q4), .second, .val (.long q5), .second, .val (.int p6), .val (.long vS), .second, .val (.long vE), .second, .val (.long vD), .second, .val (.int vC), .val (.int vL), .val (.int vM), .val (.long vQ), .second, .unset, .unset, .val (.int (0 : Int32)), .unset, .unset, .unset, .unset] [])) _
      refine XS.lload X2.here hx rfl (hb hby at_70) rfl ?_
      show Steps _ _ _ (T2.setTop (mkF m 72 #[.val (.long q1), .second, .val (.long q2), .second, .val (.long q3), .second, .val (.long q4), .second, .val (.long q5), .second, .val (.int p6), .val (.long vS), .second, .val (.long vE), .second, .val (.long vD), .second, .val (.int vC), .val (.int vL), .val (.int vM), .val (.long vQ), .second, .unset, .unset, .val (.int (0 : Int32)), .unset, .unset, .unset, .unset] [(.long vD)])) _
      refine XS.lconst X2.here hx rfl (hb hby at_72) ?_
      show Steps _ _ _ (T2.setTop (mkF m 73 #[.val (.long q1), .second, .val (.long q2), .second, .val (.long q3), .second, .val (.long q4), .second, .val (.long q5), .second, .val (.int p6), .val (.long vS), .second, .val (.long vE), .second, .val (.long vD), .second, .val (.int vC), .val (.int vL), .val (.int vM), .val (.long vQ), .second, .unset, .unset, .val (.int (0 : Int32)), .unset, .unset, .unset, .unset] [(.long (0 : Int64)), (.long vD)])) _
      refine XS.lcmp X2.here hx rfl (hb hby at_73) rfl ?_
      show Steps _ _ _ (T2.setTop (mkF m 74 #[.val (.long q1), .second, .val (.long q2), .second, .val (.long q3), .second, .val (.long q4), .second, .val (.long q5), .second, .val (.int p6), .val (.long vS), .second, .val (.long vE), .second, .val (.long vD), .second, .val (.int vC), .val (.int vL), .val (.int vM), .val (.long vQ), .second, .unset, .unset, .val (.int (0 : Int32)), .unset, .unset, .unset, .unset] [(.int (lcmpW vD (0 : Int64)))])) _
      by_cases hc12 : (0 : Int64) < vD
      · simp only [if_pos hc12] at k
        refine XS.ifNo X2.here hx rfl (hb hby at_74) rfl ((if0 _ _).trans (tlt ((lw_gt _ _).mpr hc12)).2.2.2) ?_
        show Steps _ _ _ (T2.setTop (mkF m 77 #[.val (.long q1), .second, .val (.long q2), .second, .val (.long q3), .second, .val (.long q4), .second, .val (.long q5), .second, .val (.int p6), .val (.long vS), .second, .val (.long vE), .second, .val (.long vD), .second, .val (.int vC), .val (.int vL), .val (.int vM), .val (.long vQ), .second, .unset, .unset, .val (.int (0 : Int32)), .unset, .unset, .unset, .unset] [])) _
        refine XS.lload X2.here hx rfl (hb hby at_77) rfl ?_
        show Steps _ _ _ (T2.setTop (mkF m 79 #[.val (.long q1), .second, .val (.long q2), .second, .val (.long q3), .second, .val (.long q4), .second, .val (.long q5), .second, .val (.int p6), .val (.long vS), .second, .val (.long vE), .second, .val (.long vD), .second, .val (.int vC), .val (.int vL), .val (.int vM), .val (.long vQ), .second, .unset, .unset, .val (.int (0 : Int32)), .unset, .unset, .unset, .unset] [(.long vS)])) _
        refine XS.lconst X2.here hx rfl (hb hby at_79) ?_
        show Steps _ _ _ (T2.setTop (mkF m 80 #[.val (.long q1), .second, .val (.long q2), .second, .val (.long q3), .second, .val (.long q4), .second, .val (.long q5), .second, .val (.int p6), .val (.long vS), .second, .val (.long vE), .second, .val (.long vD), .second, .val (.int vC), .val (.int vL), .val (.int vM), .val (.long vQ), .second, .unset, .unset, .val (.int (0 : Int32)), .unset, .unset, .unset, .unset] [(.long (1 : Int64)), (.long vS)])) _
        refine XS.ladd X2.here hx rfl (hb hby at_80) rfl ?_
        show Steps _ _ _ (T2.setTop (mkF m 81 #[.val (.long q1), .second, .val (.long q2), .second, .val (.long q3), .second, .val (.long q4), .second, .val (.long q5), .second, .val (.int p6), .val (.long vS), .second, .val (.long vE), .second, .val (.long vD), .second, .val (.int vC), .val (.int vL), .val (.int vM), .val (.long vQ), .second, .unset, .unset, .val (.int (0 : Int32)), .unset, .unset, .unset, .unset] [(.long (vS + (1 : Int64)))])) _
        refine XS.lload X2.here hx rfl (hb hby at_81) rfl ?_
        show Steps _ _ _ (T2.setTop (mkF m 83 #[.val (.long q1), .second, .val (.long q2), .second, .val (.long q3), .second, .val (.long q4), .second, .val (.long q5), .second, .val (.int p6), .val (.long vS), .second, .val (.long vE), .second, .val (.long vD), .second, .val (.int vC), .val (.int vL), .val (.int vM), .val (.long vQ), .second, .unset, .unset, .val (.int (0 : Int32)), .unset, .unset, .unset, .unset] [(.long vQ), (.long (vS + (1 : Int64)))])) _
        refine XS.lload X2.here hx rfl (hb hby at_83) rfl ?_
        show Steps _ _ _ (T2.setTop (mkF m 85 #[.val (.long q1), .second, .val (.long q2), .second, .val (.long q3), .second, .val (.long q4), .second, .val (.long q5), .second, .val (.int p6), .val (.long vS), .second, .val (.long vE), .second, .val (.long vD), .second, .val (.int vC), .val (.int vL), .val (.int vM), .val (.long vQ), .second, .unset, .unset, .val (.int (0 : Int32)), .unset, .unset, .unset, .unset] [(.long vD), (.long vQ), (.long (vS + (1 : Int64)))])) _
        refine XS.lrem X2.here hx rfl (hb hby at_85) rfl (own_nz (by assumption)) ?_
        show Steps _ _ _ (T2.setTop (mkF m 86 #[.val (.long q1), .second, .val (.long q2), .second, .val (.long q3), .second, .val (.long q4), .second, .val (.long q5), .second, .val (.int p6), .val (.long vS), .second, .val (.long vE), .second, .val (.long vD), .second, .val (.int vC), .val (.int vL), .val (.int vM), .val (.long vQ), .second, .unset, .unset, .val (.int (0 : Int32)), .unset, .unset, .unset, .unset] [(.long (vQ - (vQ / vD) * vD)), (.long (vS + (1 : Int64)))])) _
        refine XS.ladd X2.here hx rfl (hb hby at_86) rfl ?_
        show Steps _ _ _ (T2.setTop (mkF m 87 #[.val (.long q1), .second, .val (.long q2), .second, .val (.long q3), .second, .val (.long q4), .second, .val (.long q5), .second, .val (.int p6), .val (.long vS), .second, .val (.long vE), .second, .val (.long vD), .second, .val (.int vC), .val (.int vL), .val (.int vM), .val (.long vQ), .second, .unset, .unset, .val (.int (0 : Int32)), .unset, .unset, .unset, .unset] [(.long ((vS + (1 : Int64)) + (vQ - (vQ / vD) * vD)))])) _
        refine XS.lstore X2.here hx rfl (hb hby at_87) rfl (l' := #[.val (.long q1), .second, .val (.long q2), .second, .val (.long q3), .second, .val (.long q4), .second, .val (.long q5), .second, .val (.int p6), .val (.long vS), .second, .val (.long vE), .second, .val (.long vD), .second, .val (.int vC), .val (.int vL), .val (.int vM), .val (.long vQ), .second, .val (.long ((vS + (1 : Int64)) + (vQ - (vQ / vD) * vD))), .second, .val (.int (0 : Int32)), .unset, .unset, .unset, .unset]) rfl ?_
        show Steps _ _ _ (T2.setTop (mkF m 89 #[.val (.long q1), .second, .val (.long q2), .second, .val (.long q3), .second, .val (.long q4), .second, .val (.long q5), .second, .val (.int p6), .val (.long vS), .second, .val (.long vE), .second, .val (.long vD), .second, .val (.int vC), .val (.int vL), .val (.int vM), .val (.long vQ), .second, .val (.long ((vS + (1 : Int64)) + (vQ - (vQ / vD) * vD))), .second, .val (.int (0 : Int32)), .unset, .unset, .unset, .unset] [])) _
        refine XS.iconst X2.here hx rfl (hb hby at_89) ?_
        show Steps _ _ _ (T2.setTop (mkF m 90 #[.val (.long q1), .second, .val (.long q2), .second, .val (.long q3), .second, .val (.long q4), .second, .val (.long q5), .second, .val (.int p6), .val (.long vS), .second, .val (.long vE), .second, .val (.long vD), .second, .val (.int vC), .val (.int vL), .val (.int vM), .val (.long vQ), .second, .val (.long ((vS + (1 : Int64)) + (vQ - (vQ / vD) * vD))), .second, .val (.int (0 : Int32)), .unset, .unset, .unset, .unset] [(.int (1 : Int32))])) _
        refine XS.istore X2.here hx rfl (hb hby at_90) rfl (l' := #[.val (.long q1), .second, .val (.long q2), .second, .val (.long q3), .second, .val (.long q4), .second, .val (.long q5), .second, .val (.int p6), .val (.long vS), .second, .val (.long vE), .second, .val (.long vD), .second, .val (.int vC), .val (.int vL), .val (.int vM), .val (.long vQ), .second, .val (.long ((vS + (1 : Int64)) + (vQ - (vQ / vD) * vD))), .second, .val (.int (1 : Int32)), .unset, .unset, .unset, .unset]) rfl ?_
        show Steps _ _ _ (T2.setTop (mkF m 92 #[.val (.long q1), .second, .val (.long q2), .second, .val (.long q3), .second, .val (.long q4), .second, .val (.long q5), .second, .val (.int p6), .val (.long vS), .second, .val (.long vE), .second, .val (.long vD), .second, .val (.int vC), .val (.int vL), .val (.int vM), .val (.long vQ), .second, .val (.long ((vS + (1 : Int64)) + (vQ - (vQ / vD) * vD))), .second, .val (.int (1 : Int32)), .unset, .unset, .unset, .unset] [])) _
        refine XS.goto X2.here hx rfl (pc0 := 92) (pc' := 194) rfl (hb hby at_92) (by decide) (by decide) ?_
        show Steps _ _ _ (T2.setTop (mkF m 194 #[.val (.long q1), .second, .val (.long q2), .second, .val (.long q3), .second, .val (.long q4), .second, .val (.long q5), .second, .val (.int p6), .val (.long vS), .second, .val (.long vE), .second, .val (.long vD), .second, .val (.int vC), .val (.int vL), .val (.int vM), .val (.long vQ), .second, .val (.long ((vS + (1 : Int64)) + (vQ - (vQ / vD) * vD))), .second, .val (.int (1 : Int32)), .unset, .unset, .unset, .unset] [])) _
        exact k
      · simp only [if_neg hc12] at k
        refine XS.ifYes X2.here hx rfl (pc0 := 74) (pc' := 95) rfl (hb hby at_74) rfl ((if0 _ _).trans (flt (fun z => hc12 ((lw_gt _ _).mp z))).2.2.2) (by decide) (by decide) ?_
        show Steps _ _ _ (T2.setTop (mkF m 95 #[.val (.long q1), .second, .val (.long q2), .second, .val (.long q3), .second, .val (.long q4), .second, .val (.long q5), .second, .val (.int p6), .val (.long vS), .second, .val (.long vE), .second, .val (.long vD), .second, .val (.int vC), .val (.int vL), .val (.int vM), .val (.long vQ), .second, .unset, .unset, .val (.int (0 : Int32)), .unset, .unset, .unset, .unset] [])) _
        refine XS.lload X2.here hx rfl (hb hby at_95) rfl ?_
        show Steps _ _ _ (T2.setTop (mkF m 97 #[.val (.long q1), .second, .val (.long q2), .second, .val (.long q3), .second, .val (.long q4), .second, .val (.long q5), .second, .val (.int p6), .val (.long vS), .second, .val (.long vE), .second, .val (.long vD), .second, .val (.int vC), .val (.int vL), .val (.int vM), .val (.long vQ), .second, .unset, .unset, .val (.int (0 : Int32)), .unset, .unset, .unset, .unset] [(.long vS)])) _
        refine X2.ldc2Long hx hown (mvT hZ (hw _ (List.mem_of_getElem? (i := 0) rfl))) (g := (mkF m 97 #[.val (.long q1), .second, .val (.long q2), .second, .val (.long q3), .second, .val (.long q4), .second, .val (.long q5), .second, .val (.int p6), .val (.long vS), .second, .val (.long vE), .second, .val (.long vD), .second, .val (.int vC), .val (.int vL), .val (.int vM), .val (.long vQ), .second, .unset, .unset, .val (.int (0 : Int32)), .unset, .unset, .unset, .unset] [(.long vS)])) rfl (hb hby at_97) _ ?_
        show Steps _ _ _ (T2.setTop (mkF m 100 #[.val (.long q1), .second, .val (.long q2), .second, .val (.long q3), .second, .val (.long q4), .second, .val (.long q5), .second, .val (.int p6), .val (.long vS), .second, .val (.long vE), .second, .val (.long vD), .second, .val (.int vC), .val (.int vL), .val (.int vM), .val (.long vQ), .second, .unset, .unset, .val (.int (0 : Int32)), .unset, .unset, .unset, .unset] [(.long (9223372036854775807 : Int64)), (.long vS)])) _
        refine XS.lcmp X2.here hx rfl (hb hby at_100) rfl ?_
        show Steps _ _ _ (T2.setTop (mkF m 101 #[.val (.long q1), .second, .val (.long q2), .second, .val (.long q3), .second, .val (.long q4), .second, .val (.long q5), .second, .val (.int p6), .val (.long vS), .second, .val (.long vE), .second, .val (.long vD), .second, .val (.int vC), .val (.int vL), .val (.int vM), .val (.long vQ), .second, .unset, .unset, .val (.int (0 : Int32)), .unset, .unset, .unset, .unset] [(.int (lcmpW vS (9223372036854775807 : Int64)))])) _
        by_cases hc13 : vS < (9223372036854775807 : Int64)
        · simp only [if_pos hc13] at k
          refine XS.ifNo X2.here hx rfl (hb hby at_101) rfl ((if0 _ _).trans (tlt ((lw_lt _ _).mpr hc13)).2.1) ?_
          show Steps _ _ _ (T2.setTop (mkF m 104 #[.val (.long q1), .second, .val (.long q2), .second, .val (.long q3), .second, .val (.long q4), .second, .val (.long q5), .second, .val (.int p6), .val (.long vS), .second, .val (.long vE), .second, .val (.long vD), .second, .val (.int vC), .val (.int vL), .val (.int vM), .val (.long vQ), .second, .unset, .unset, .val (.int (0 : Int32)), .unset, .unset, .unset, .unset] [])) _
          refine XS.lload X2.here hx rfl (hb hby at_104) rfl ?_
          show Steps _ _ _ (T2.setTop (mkF m 106 #[.val (.long q1), .second, .val (.long q2), .second, .val (.long q3), .second, .val (.long q4), .second, .val (.long q5), .second, .val (.int p6), .val (.long vS), .second, .val (.long vE), .second, .val (.long vD), .second, .val (.int vC), .val (.int vL), .val (.int vM), .val (.long vQ), .second, .unset, .unset, .val (.int (0 : Int32)), .unset, .unset, .unset, .unset] [(.long vS)])) _
          refine XS.lconst X2.here hx rfl (hb hby at_106) ?_
          show Steps _ _ _ (T2.setTop (mkF m 107 #[.val (.long q1), .second, .val (.long q2), .second, .val (.long q3), .second, .val (.long q4), .second, .val (.long q5), .second, .val (.int p6), .val (.long vS), .second, .val (.long vE), .second, .val (.long vD), .second, .val (.int vC), .val (.int vL), .val (.int vM), .val (.long vQ), .second, .unset, .unset, .val (.int (0 : Int32)), .unset, .unset, .unset, .unset] [(.long (1 : Int64)), (.long vS)])) _
          refine XS.ladd X2.here hx rfl (hb hby at_107) rfl ?_
          show Steps _ _ _ (T2.setTop (mkF m 108 #[.val (.long q1), .second, .val (.long q2), .second, .val (.long q3), .second, .val (.long q4), .second, .val (.long q5), .second, .val (.int p6), .val (.long vS), .second, .val (.long vE), .second, .val (.long vD), .second, .val (.int vC), .val (.int vL), .val (.int vM), .val (.long vQ), .second, .unset, .unset, .val (.int (0 : Int32)), .unset, .unset, .unset, .unset] [(.long (vS + (1 : Int64)))])) _
          refine XS.lstore X2.here hx rfl (hb hby at_108) rfl (l' := #[.val (.long q1), .second, .val (.long q2), .second, .val (.long q3), .second, .val (.long q4), .second, .val (.long q5), .second, .val (.int p6), .val (.long vS), .second, .val (.long vE), .second, .val (.long vD), .second, .val (.int vC), .val (.int vL), .val (.int vM), .val (.long vQ), .second, .val (.long (vS + (1 : Int64))), .second, .val (.int (0 : Int32)), .unset, .unset, .unset, .unset]) rfl ?_
          show Steps _ _ _ (T2.setTop (mkF m 110 #[.val (.long q1), .second, .val (.long q2), .second, .val (.long q3), .second, .val (.long q4), .second, .val (.long q5), .second, .val (.int p6), .val (.long vS), .second, .val (.long vE), .second, .val (.long vD), .second, .val (.int vC), .val (.int vL), .val (.int vM), .val (.long vQ), .second, .val (.long (vS + (1 : Int64))), .second, .val (.int (0 : Int32)), .unset, .unset, .unset, .unset] [])) _
          refine XS.goto X2.here hx rfl (pc0 := 110) (pc' := 194) rfl (hb hby at_110) (by decide) (by decide) ?_
          show Steps _ _ _ (T2.setTop (mkF m 194 #[.val (.long q1), .second, .val (.long q2), .second, .val (.long q3), .second, .val (.long q4), .second, .val (.long q5), .second, .val (.int p6), .val (.long vS), .second, .val (.long vE), .second, .val (.long vD), .second, .val (.int vC), .val (.int vL), .val (.int vM), .val (.long vQ), .second, .val (.long (vS + (1 : Int64))), .second, .val (.int (0 : Int32)), .unset, .unset, .unset, .unset] [])) _
          exact k
        · simp only [if_neg hc13] at k
          refine XS.ifYes X2.here hx rfl (pc0 := 101) (pc' := 113) rfl (hb hby at_101) rfl ((if0 _ _).trans (flt (fun z => hc13 ((lw_lt _ _).mp z))).2.1) (by decide) (by decide) ?_
          show Steps _ _ _ (T2.setTop (mkF m 113 #[.val (.long q1), .second, .val (.long q2), .second, .val (.long q3), .second, .val (.long q4), .second, .val (.long q5), .second, .val (.int p6), .val (.long vS), .second, .val (.long vE), .second, .val (.long vD), .second, .val (.int vC), .val (.int vL), .val (.int vM), .val (.long vQ), .second, .unset, .unset, .val (.int (0 : Int32)), .unset, .unset, .unset, .unset] [])) _
          refine XS.lload X2.here hx rfl (hb hby at_113) rfl ?_
          show Steps _ _ _ (T2.setTop (mkF m 115 #[.val (.long q1), .second, .val (.long q2), .second, .val (.long q3), .second, .val (.long q4), .second, .val (.long q5), .second, .val (.int p6), .val (.long vS), .second, .val (.long vE), .second, .val (.long vD), .second, .val (.int vC), .val (.int vL), .val (.int vM), .val (.long vQ), .second, .unset, .unset, .val (.int (0 : Int32)), .unset, .unset, .unset, .unset] [(.long vS)])) _
          refine XS.lstore X2.here hx rfl (hb hby at_115) rfl (l' := #[.val (.long q1), .second, .val (.long q2), .second, .val (.long q3), .second, .val (.long q4), .second, .val (.long q5), .second, .val (.int p6), .val (.long vS), .second, .val (.long vE), .second, .val (.long vD), .second, .val (.int vC), .val (.int vL), .val (.int vM), .val (.long vQ), .second, .val (.long vS), .second, .val (.int (0 : Int32)), .unset, .unset, .unset, .unset]) rfl ?_
          show Steps _ _ _ (T2.setTop (mkF m 117 #[.val (.long q1), .second, .val (.long q2), .second, .val (.long q3), .second, .val (.long q4), .second, .val (.long q5), .second, .val (.int p6), .val (.long vS), .second, .val (.long vE), .second, .val (.long vD), .second, .val (.int vC), .val (.int vL), .val (.int vM), .val (.long vQ), .second, .val (.long vS), .second, .val (.int (0 : Int32)), .unset, .unset, .unset, .unset] [])) _
          refine XS.goto X2.here hx rfl (pc0 := 117) (pc' := 194) rfl (hb hby at_117) (by decide) (by decide) ?_
          show Steps _ _ _ (T2.setTop (mkF m 194 #[.val (.long q1), .second, .val (.long q2), .second, .val (.long q3), .second, .val (.long q4), .second, .val (.long q5), .second, .val (.int p6), .val (.long vS), .second, .val (.long vE), .second, .val (.long vD), .second, .val (.int vC), .val (.int vL), .val (.int vM), .val (.long vQ), .second, .val (.long vS), .second, .val (.int (0 : Int32)), .unset, .unset, .unset, .unset] [])) _
          exact k
    · simp only [if_neg hc11] at k
      refine XS.icmpYes X2.here hx rfl (pc0 := 67) (pc' := 120) rfl (hb hby at_67) rfl (feq hc11).2 (by decide) (by decide) ?_
      show Steps _ _ _ (T2.setTop (mkF m 120 #[.val (.long q1), .second, .val (.long q2), .second, .val (.long q3), .second, .val (.long q4), .second, .val (.long q5), .second, .val (.int p6), .val (.long vS), .second, .val (.long vE), .second, .val (.long vD), .second, .val (.int vC), .val (.int vL), .val (.int vM), .val (.long vQ), .second, .unset, .unset, .val (.int (0 : Int32)), .unset, .unset, .unset, .unset] [])) _
      refine XS.iload X2.here hx rfl (hb hby at_120) rfl ?_
      show Steps _ _ _ (T2.setTop (mkF m 122 #[.val (.long q1), .second, .val (.long q2), .second, .val (.long q3), .second, .val (.long q4), .second, .val (.long q5), .second, .val (.int p6), .val (.long vS), .second, .val (.long vE), .second, .val (.long vD), .second, .val (.int vC), .val (.int vL), .val (.int vM), .val (.long vQ), .second, .unset, .unset, .val (.int (0 : Int32)), .unset, .unset, .unset, .unset] [(.int vC)])) _
      refine XS.iconst X2.here hx rfl (hb hby at_122) ?_
      show Steps _ _ _ (T2.setTop (mkF m 123 #[.val (.long q1), .second, .val (.long q2), .second, .val (.long q3), .second, .val (.long q4), .second, .val (.long q5), .second, .val (.int p6), .val (.long vS), .second, .val (.long vE), .second, .val (.long vD), .second, .val (.int vC), .val (.int vL), .val (.int vM), .val (.long vQ), .second, .unset, .unset, .val (.int (0 : Int32)), .unset, .unset, .unset, .unset] [(.int (2 : Int32)), (.int vC)])) _
      by_cases hc14 : vC = (2 : Int32)
      · simp only [if_pos hc14] at k
        refine XS.icmpNo X2.here hx rfl (hb hby at_123) rfl (teq hc14).2 ?_
        show Steps _ _ _ (T2.setTop (mkF m 126 #[.val (.long q1), .second, .val (.long q2), .second, .val (.long q3), .second, .val (.long q4), .second, .val (.long q5), .second, .val (.int p6), .val (.long vS), .second, .val (.long vE), .second, .val (.long vD), .second, .val (.int vC), .val (.int vL), .val (.int vM), .val (.long vQ), .second, .unset, .unset, .val (.int (0 : Int32)), .unset, .unset, .unset, .unset] [])) _
        refine XS.lload X2.here hx rfl (hb hby at_126) rfl ?_
        show Steps _ _ _ (T2.setTop (mkF m 128 #[.val (.long q1), .second, .val (.long q2), .second, .val (.long q3), .second, .val (.long q4), .second, .val (.long q5), .second, .val (.int p6), .val (.long vS), .second, .val (.long vE), .second, .val (.long vD), .second, .val (.int vC), .val (.int vL), .val (.int vM), .val (.long vQ), .second, .unset, .unset, .val (.int (0 : Int32)), .unset, .unset, .unset, .unset] [(.long vE)])) _
        refine X2.ldc2Long hx hown (mvT hZ (hw _ (List.mem_of_getElem? (i := 0) rfl))) (g := (mkF m 128 #[.val (.long q1), .second, .val (.long q2), .second, .val (.long q3), .second, .val (.long q4), .second, .val (.long q5), .second, .val (.int p6), .val (.long vS), .second, .val (.long vE), .second, .val (.long vD), .second, .val (.int vC), .val (.int vL), .val (.int vM), .val (.long vQ), .second, .unset, .unset, .val (.int (0 : Int32)), .unset, .unset, .unset, .unset] [(.long vE)])) rfl (hb hby at_128) _ ?_
        show Steps _ _ _ (T2.setTop (mkF m 131 #[.val (.long q1), .second, .val (.long q2), .second, .val (.long q3), .second, .val (.long q4), .second, .val (.long q5), .second, .val (.int p6), .val (.long vS), .second, .val (.long vE), .second, .val (.long vD), .second, .val (.int vC), .val (.int vL), .val (.int vM), .val (.long vQ), .second, .unset, .unset, .val (.int (0 : Int32)), .unset, .unset, .unset, .unset] [(.long (9223372036854775807 : Int64)), (.long vE)])) _
        refine XS.lcmp X2.here hx rfl (hb hby at_131) rfl ?_
        show Steps _ _ _ (T2.setTop (mkF m 132 #[.val (.long q1), .second, .val (.long q2), .second, .val (.long q3), .second, .val (.long q4), .second, .val (.long q5), .second, .val (.int p6), .val (.long vS), .second, .val (.long vE), .second, .val (.long vD), .second, .val (.int vC), .val (.int vL), .val (.int vM), .val (.long vQ), .second, .unset, .unset, .val (.int (0 : Int32)), .unset, .unset, .unset, .unset] [(.int (lcmpW vE (9223372036854775807 : Int64)))])) _
        by_cases hc15 : vE < (9223372036854775807 : Int64)
        · simp only [if_pos hc15] at k
          refine XS.ifNo X2.here hx rfl (hb hby at_132) rfl ((if0 _ _).trans (tlt ((lw_lt _ _).mpr hc15)).2.1) ?_
          show Steps _ _ _ (T2.setTop (mkF m 135 #[.val (.long q1), .second, .val (.long q2), .second, .val (.long q3), .second, .val (.long q4), .second, .val (.long q5), .second, .val (.int p6), .val (.long vS), .second, .val (.long vE), .second, .val (.long vD), .second, .val (.int vC), .val (.int vL), .val (.int vM), .val (.long vQ), .second, .unset, .unset, .val (.int (0 : Int32)), .unset, .unset, .unset, .unset] [])) _
          refine XS.lload X2.here hx rfl (hb hby at_135) rfl ?_
          show Steps _ _ _ (T2.setTop (mkF m 137 #[.val (.long q1), .second, .val (.long q2), .second, .val (.long q3), .second, .val (.long q4), .second, .val (.long q5), .second, .val (.int p6), .val (.long vS), .second, .val (.long vE), .second, .val (.long vD), .second, .val (.int vC), .val (.int vL), .val (.int vM), .val (.long vQ), .second, .unset, .unset, .val (.int (0 : Int32)), .unset, .unset, .unset, .unset] [(.long vE)])) _
          refine XS.lconst X2.here hx rfl (hb hby at_137) ?_
          show Steps _ _ _ (T2.setTop (mkF m 138 #[.val (.long q1), .second, .val (.long q2), .second, .val (.long q3), .second, .val (.long q4), .second, .val (.long q5), .second, .val (.int p6), .val (.long vS), .second, .val (.long vE), .second, .val (.long vD), .second, .val (.int vC), .val (.int vL), .val (.int vM), .val (.long vQ), .second, .unset, .unset, .val (.int (0 : Int32)), .unset, .unset, .unset, .unset] [(.long (1 : Int64)), (.long vE)])) _
          refine XS.ladd X2.here hx rfl (hb hby at_138) rfl ?_
          show Steps _ _ _ (T2.setTop (mkF m 139 #[.val (.long q1), .second, .val (.long q2), .second, .val (.long q3), .second, .val (.long q4), .second, .val (.long q5), .second, .val (.int p6), .val (.long vS), .second, .val (.long vE), .second, .val (.long vD), .second, .val (.int vC), .val (.int vL), .val (.int vM), .val (.long vQ), .second, .unset, .unset, .val (.int (0 : Int32)), .unset, .unset, .unset, .unset] [(.long (vE + (1 : Int64)))])) _
          refine XS.lload X2.here hx rfl (hb hby at_139) rfl ?_
          show Steps _ _ _ (T2.setTop (mkF m 141 #[.val (.long q1), .second, .val (.long q2), .second, .val (.long q3), .second, .val (.long q4), .second, .val (.long q5), .second, .val (.int p6), .val (.long vS), .second, .val (.long vE), .second, .val (.long vD), .second, .val (.int vC), .val (.int vL), .val (.int vM), .val (.long vQ), .second, .unset, .unset, .val (.int (0 : Int32)), .unset, .unset, .unset, .unset] [(.long vQ), (.long (vE + (1 : Int64)))])) _
          refine X2.ldc2Long hx hown (mvT hZ (hw _ (List.mem_of_getElem? (i := 0) rfl))) (g := (mkF m 141 #[.val (.long q1), .second, .val (.long q2), .second, .val (.long q3), .second, .val (.long q4), .second, .val (.long q5), .second, .val (.int p6), .val (.long vS), .second, .val (.long vE), .second, .val (.long vD), .second, .val (.int vC), .val (.int vL), .val (.int vM), .val (.long vQ), .second, .unset, .unset, .val (.int (0 : Int32)), .unset, .unset, .unset, .unset] [(.long vQ), (.long (vE + (1 : Int64)))])) rfl (hb hby at_141) _ ?_
          show Steps _ _ _ (T2.setTop (mkF m 144 #[.val (.long q1), .second, .val (.long q2), .second, .val (.long q3), .second, .val (.long q4), .second, .val (.long q5), .second, .val (.int p6), .val (.long vS), .second, .val (.long vE), .second, .val (.long vD), .second, .val (.int vC), .val (.int vL), .val (.int vM), .val (.long vQ), .second, .unset, .unset, .val (.int (0 : Int32)), .unset, .unset, .unset, .unset] [(.long (9223372036854775807 : Int64)), (.long vQ), (.long (vE + (1 : Int64)))])) _
          refine XS.lload X2.here hx rfl (hb hby at_144) rfl ?_
          show Steps _ _ _ (T2.setTop (mkF m 146 #[.val (.long q1), .second, .val (.long q2), .second, .val (.long q3), .second, .val (.long q4), .second, .val (.long q5), .second, .val (.int p6), .val (.long vS), .second, .val (.long vE), .second, .val (.long vD), .second, .val (.int vC), .val (.int vL), .val (.int vM), .val (.long vQ), .second, .unset, .unset, .val (.int (0 : Int32)), .unset, .unset, .unset, .unset] [(.long vE), (.long (9223372036854775807 : Int64)), (.long vQ), (.long (vE + (1 : Int64)))])) _
          refine XS.lsub X2.here hx rfl (hb hby at_146) rfl ?_
          show Steps _ _ _ (T2.setTop (mkF m 147 #[.val (.long q1), .second, .val (.long q2), .second, .val (.long q3), .second, .val (.long q4), .second, .val (.long q5), .second, .val (.int p6), .val (.long vS), .second, .val (.long vE), .second, .val (.long vD), .second, .val (.int vC), .val (.int vL), .val (.int vM), .val (.long vQ), .second, .unset, .unset, .val (.int (0 : Int32)), .unset, .unset, .unset, .unset] [(.long ((9223372036854775807 : Int64) - vE)), (.long vQ), (.long (vE + (1 : Int64)))])) _
          refine XS.lrem X2.here hx rfl (hb hby at_147) rfl (own_nz2 (by assumption)) ?_
          show Steps _ _ _ (T2.setTop (mkF m 148 #[.val (.long q1), .second, .val (.long q2), .second, .val (.long q3), .second, .val (.long q4), .second, .val (.long q5), .second, .val (.int p6), .val (.long vS), .second, .val (.long vE), .second, .val (.long vD), .second, .val (.int vC), .val (.int vL), .val (.int vM), .val (.long vQ), .second, .unset, .unset, .val (.int (0 : Int32)), .unset, .unset, .unset, .unset] [(.long (vQ - (vQ / ((9223372036854775807 : Int64) - vE)) * ((9223372036854775807 : Int64) - vE))), (.long (vE + (1 : Int64)))])) _
          refine XS.ladd X2.here hx rfl (hb hby at_148) rfl ?_
          show Steps _ _ _ (T2.setTop (mkF m 149 #[.val (.long q1), .second, .val (.long q2), .second, .val (.long q3), .second, .val (.long q4), .second, .val (.long q5), .second, .val (.int p6), .val (.long vS), .second, .val (.long vE), .second, .val (.long vD), .second, .val (.int vC), .val (.int vL), .val (.int vM), .val (.long vQ), .second, .unset, .unset, .val (.int (0 : Int32)), .unset, .unset, .unset, .unset] [(.long ((vE + (1 : Int64)) + (vQ - (vQ / ((9223372036854775807 : Int64) - vE)) * ((9223372036854775807 : Int64) - vE))))])) _
          refine XS.lstore X2.here hx rfl (hb hby at_149) rfl (l' := #[.val (.long q1), .second, .val (.long q2), .second, .val (.long q3), .second, .val (.long q4), .second, .val (.long q5), .second, .val (.int p6), .val (.long vS), .second, .val (.long vE), .second, .val (.long vD), .second, .val (.int vC), .val (.int vL), .val (.int vM), .val (.long vQ), .second, .val (.long ((vE + (1 : Int64)) + (vQ - (vQ / ((9223372036854775807 : Int64) - vE)) * ((9223372036854775807 : Int64) - vE)))), .second, .val (.int (0 : Int32)), .unset, .unset, .unset, .unset]) rfl ?_
          show Steps _ _ _ (T2.setTop (mkF m 151 #[.val (.long q1), .second, .val (.long q2), .second, .val (.long q3), .second, .val (.long q4), .second, .val (.long q5), .second, .val (.int p6), .val (.long vS), .second, .val (.long vE), .second, .val (.long vD), .second, .val (.int vC), .val (.int vL), .val (.int vM), .val (.long vQ), .second, .val (.long ((vE + (1 : Int64)) + (vQ - (vQ / ((9223372036854775807 : Int64) - vE)) * ((9223372036854775807 : Int64) - vE)))), .second, .val (.int (0 : Int32)), .unset, .unset, .unset, .unset] [])) _
          refine XS.goto X2.here hx rfl (pc0 := 151) (pc' := 194) rfl (hb hby at_151) (by decide) (by decide) ?_
          show Steps _ _ _ (T2.setTop (mkF m 194 #[.val (.long q1), .second, .val (.long q2), .second, .val (.long q3), .second, .val (.long q4), .second, .val (.long q5), .second, .val (.int p6), .val (.long vS), .second, .val (.long vE), .second, .val (.long vD), .second, .val (.int vC), .val (.int vL), .val (.int vM), .val (.long vQ), .second, .val (.long ((vE + (1 : Int64)) + (vQ - (vQ / ((9223372036854775807 : Int64) - vE)) * ((9223372036854775807 : Int64) - vE)))), .second, .val (.int (0 : Int32)), .unset, .unset, .unset, .unset] [])) _
          exact k
        · simp only [if_neg hc15] at k
          refine XS.ifYes X2.here hx rfl (pc0 := 132) (pc' := 154) rfl (hb hby at_132) rfl ((if0 _ _).trans (flt (fun z => hc15 ((lw_lt _ _).mp z))).2.1) (by decide) (by decide) ?_
          show Steps _ _ _ (T2.setTop (mkF m 154 #[.val (.long q1), .second, .val (.long q2), .second, .val (.long q3), .second, .val (.long q4), .second, .val (.long q5), .second, .val (.int p6), .val (.long vS), .second, .val (.long vE), .second, .val (.long vD), .second, .val (.int vC), .val (.int vL), .val (.int vM), .val (.long vQ), .second, .unset, .unset, .val (.int (0 : Int32)), .unset, .unset, .unset, .unset] [])) _
          refine XS.lload X2.here hx rfl (hb hby at_154) rfl ?_
          show Steps _ _ _ (T2.setTop (mkF m 156 #[.val (.long q1), .second, .val (.long q2), .second, .val (.long q3), .second, .val (.long q4), .second, .val (.long q5), .second, .val (.int p6), .val (.long vS), .second, .val (.long vE), .second, .val (.long vD), .second, .val (.int vC), .val (.int vL), .val (.int vM), .val (.long vQ), .second, .unset, .unset, .val (.int (0 : Int32)), .unset, .unset, .unset, .unset] [(.long vS)])) _
          refine XS.lstore X2.here hx rfl (hb hby at_156) rfl (l' := #[.val (.long q1), .second, .val (.long q2), .second, .val (.long q3), .second, .val (.long q4), .second, .val (.long q5), .second, .val (.int p6), .val (.long vS), .second, .val (.long vE), .second, .val (.long vD), .second, .val (.int vC), .val (.int vL), .val (.int vM), .val (.long vQ), .second, .val (.long vS), .second, .val (.int (0 : Int32)), .unset, .unset, .unset, .unset]) rfl ?_
          show Steps _ _ _ (T2.setTop (mkF m 158 #[.val (.long q1), .second, .val (.long q2), .second, .val (.long q3), .second, .val (.long q4), .second, .val (.long q5), .second, .val (.int p6), .val (.long vS), .second, .val (.long vE), .second, .val (.long vD), .second, .val (.int vC), .val (.int vL), .val (.int vM), .val (.long vQ), .second, .val (.long vS), .second, .val (.int (0 : Int32)), .unset, .unset, .unset, .unset] [])) _
          refine XS.goto X2.here hx rfl (pc0 := 158) (pc' := 194) rfl (hb hby at_158) (by decide) (by decide) ?_
          show Steps _ _ _ (T2.setTop (mkF m 194 #[.val (.long q1), .second, .val (.long q2), .second, .val (.long q3), .second, .val (.long q4), .second, .val (.long q5), .second, .val (.int p6), .val (.long vS), .second, .val (.long vE), .second, .val (.long vD), .second, .val (.int vC), .val (.int vL), .val (.int vM), .val (.long vQ), .second, .val (.long vS), .second, .val (.int (0 : Int32)), .unset, .unset, .unset, .unset] [])) _
          exact k
      · simp only [if_neg hc14] at k
        refine XS.icmpYes X2.here hx rfl (pc0 := 123) (pc' := 161) rfl (hb hby at_123) rfl (feq hc14).2 (by decide) (by decide) ?_
        show Steps _ _ _ (T2.setTop (mkF m 161 #[.val (.long q1), .second, .val (.long q2), .second, .val (.long q3), .second, .val (.long q4), .second, .val (.long q5), .second, .val (.int p6), .val (.long vS), .second, .val (.long vE), .second, .val (.long vD), .second, .val (.int vC), .val (.int vL), .val (.int vM), .val (.long vQ), .second, .unset, .unset, .val (.int (0 : Int32)), .unset, .unset, .unset, .unset] [])) _
        refine XS.iload X2.here hx rfl (hb hby at_161) rfl ?_
        show Steps _ _ _ (T2.setTop (mkF m 163 #[.val (.long q1), .second, .val (.long q2), .second, .val (.long q3), .second, .val (.long q4), .second, .val (.long q5), .second, .val (.int p6), .val (.long vS), .second, .val (.long vE), .second, .val (.long vD), .second, .val (.int vC), .val (.int vL), .val (.int vM), .val (.long vQ), .second, .unset, .unset, .val (.int (0 : Int32)), .unset, .unset, .unset, .unset] [(.int vC)])) _
        refine XS.iconst X2.here hx rfl (hb hby at_163) ?_
        show Steps _ _ _ (T2.setTop (mkF m 164 #[.val (.long q1), .second, .val (.long q2), .second, .val (.long q3), .second, .val (.long q4), .second, .val (.long q5), .second, .val (.int p6), .val (.long vS), .second, .val (.long vE), .second, .val (.long vD), .second, .val (.int vC), .val (.int vL), .val (.int vM), .val (.long vQ), .second, .unset, .unset, .val (.int (0 : Int32)), .unset, .unset, .unset, .unset] [(.int (3 : Int32)), (.int vC)])) _
        by_cases hc16 : vC = (3 : Int32)
        · simp only [if_pos hc16] at k
          refine XS.icmpNo X2.here hx rfl (hb hby at_164) rfl (teq hc16).2 ?_
          show Steps _ _ _ (T2.setTop (mkF m 167 #[.val (.long q1), .second, .val (.long q2), .second, .val (.long q3), .second, .val (.long q4), .second, .val (.long q5), .second, .val (.int p6), .val (.long vS), .second, .val (.long vE), .second, .val (.long vD), .second, .val (.int vC), .val (.int vL), .val (.int vM), .val (.long vQ), .second, .unset, .unset, .val (.int (0 : Int32)), .unset, .unset, .unset, .unset] [])) _
          refine XS.lload X2.here hx rfl (hb hby at_167) rfl ?_
          show Steps _ _ _ (T2.setTop (mkF m 169 #[.val (.long q1), .second, .val (.long q2), .second, .val (.long q3), .second, .val (.long q4), .second, .val (.long q5), .second, .val (.int p6), .val (.long vS), .second, .val (.long vE), .second, .val (.long vD), .second, .val (.int vC), .val (.int vL), .val (.int vM), .val (.long vQ), .second, .unset, .unset, .val (.int (0 : Int32)), .unset, .unset, .unset, .unset] [(.long vS)])) _
          refine XS.lconst X2.here hx rfl (hb hby at_169) ?_
          show Steps _ _ _ (T2.setTop (mkF m 170 #[.val (.long q1), .second, .val (.long q2), .second, .val (.long q3), .second, .val (.long q4), .second, .val (.long q5), .second, .val (.int p6), .val (.long vS), .second, .val (.long vE), .second, .val (.long vD), .second, .val (.int vC), .val (.int vL), .val (.int vM), .val (.long vQ), .second, .unset, .unset, .val (.int (0 : Int32)), .unset, .unset, .unset, .unset] [(.long (0 : Int64)), (.long vS)])) _
          refine XS.lcmp X2.here hx rfl (hb hby at_170) rfl ?_
          show Steps _ _ _ (T2.setTop (mkF m 171 #[.val (.long q1), .second, .val (.long q2), .second, .val (.long q3), .second, .val (.long q4), .second, .val (.long q5), .second, .val (.int p6), .val (.long vS), .second, .val (.long vE), .second, .val (.long vD), .second, .val (.int vC), .val (.int vL), .val (.int vM), .val (.long vQ), .second, .unset, .unset, .val (.int (0 : Int32)), .unset, .unset, .unset, .unset] [(.int (lcmpW vS (0 : Int64)))])) _
          by_cases hc17 : (0 : Int64) < vS
          · simp only [if_pos hc17] at k
            refine XS.ifNo X2.here hx rfl (hb hby at_171) rfl ((if0 _ _).trans (tlt ((lw_gt _ _).mpr hc17)).2.2.2) ?_
            show Steps _ _ _ (T2.setTop (mkF m 174 #[.val (.long q1), .second, .val (.long q2), .second, .val (.long q3), .second, .val (.long q4), .second, .val (.long q5), .second, .val (.int p6), .val (.long vS), .second, .val (.long vE), .second, .val (.long vD), .second, .val (.int vC), .val (.int vL), .val (.int vM), .val (.long vQ), .second, .unset, .unset, .val (.int (0 : Int32)), .unset, .unset, .unset, .unset] [])) _
            refine XS.lload X2.here hx rfl (hb hby at_174) rfl ?_
            show Steps _ _ _ (T2.setTop (mkF m 176 #[.val (.long q1), .second, .val (.long q2), .second, .val (.long q3), .second, .val (.long q4), .second, .val (.long q5), .second, .val (.int p6), .val (.long vS), .second, .val (.long vE), .second, .val (.long vD), .second, .val (.int vC), .val (.int vL), .val (.int vM), .val (.long vQ), .second, .unset, .unset, .val (.int (0 : Int32)), .unset, .unset, .unset, .unset] [(.long vQ)])) _
            refine XS.lload X2.here hx rfl (hb hby at_176) rfl ?_
            show Steps _ _ _ (T2.setTop (mkF m 178 #[.val (.long q1), .second, .val (.long q2), .second, .val (.long q3), .second, .val (.long q4), .second, .val (.long q5), .second, .val (.int p6), .val (.long vS), .second, .val (.long vE), .second, .val (.long vD), .second, .val (.int vC), .val (.int vL), .val (.int vM), .val (.long vQ), .second, .unset, .unset, .val (.int (0 : Int32)), .unset, .unset, .unset, .unset] [(.long vS), (.long vQ)])) _
            refine XS.lrem X2.here hx rfl (hb hby at_178) rfl (own_nz (by assumption)) ?_
            show Steps _ _ _ (T2.setTop (mkF m 179 #[.val (.long q1), .second, .val (.long q2), .second, .val (.long q3), .second, .val (.long q4), .second, .val (.long q5), .second, .val (.int p6), .val (.long vS), .second, .val (.long vE), .second, .val (.long vD), .second, .val (.int vC), .val (.int vL), .val (.int vM), .val (.long vQ), .second, .unset, .unset, .val (.int (0 : Int32)), .unset, .unset, .unset, .unset] [(.long (vQ - (vQ / vS) * vS))])) _
            refine XS.lstore X2.here hx rfl (hb hby at_179) rfl (l' := #[.val (.long q1), .second, .val (.long q2), .second, .val (.long q3), .second, .val (.long q4), .second, .val (.long q5), .second, .val (.int p6), .val (.long vS), .second, .val (.long vE), .second, .val (.long vD), .second, .val (.int vC), .val (.int vL), .val (.int vM), .val (.long vQ), .second, .val (.long (vQ - (vQ / vS) * vS)), .second, .val (.int (0 : Int32)), .unset, .unset, .unset, .unset]) rfl ?_
            show Steps _ _ _ (T2.setTop (mkF m 181 #[.val (.long q1), .second, .val (.long q2), .second, .val (.long q3), .second, .val (.long q4), .second, .val (.long q5), .second, .val (.int p6), .val (.long vS), .second, .val (.long vE), .second, .val (.long vD), .second, .val (.int vC), .val (.int vL), .val (.int vM), .val (.long vQ), .second, .val (.long (vQ - (vQ / vS) * vS)), .second, .val (.int (0 : Int32)), .unset, .unset, .unset, .unset] [])) _
            refine XS.goto X2.here hx rfl (pc0 := 181) (pc' := 194) rfl (hb hby at_181) (by decide) (by decide) ?_
            show Steps _ _ _ (T2.setTop (mkF m 194 #[.val (.long q1), .second, .val (.long q2), .second, .val (.long q3), .second, .val (.long q4), .second, .val (.long q5), .second, .val (.int p6), .val (.long vS), .second, .val (.long vE), .second, .val (.long vD), .second, .val (.int vC), .val (.int vL), .val (.int vM), .val (.long vQ), .second, .val (.long (vQ - (vQ / vS) * vS)), .second, .val (.int (0 : Int32)), .unset, .unset, .unset, .unset] [])) _
            exact k
          · simp only [if_neg hc17] at k
            refine XS.ifYes X2.here hx rfl (pc0 := 171) (pc' := 184) rfl (hb hby at_171) rfl ((if0 _ _).trans (flt (fun z => hc17 ((lw_gt _ _).mp z))).2.2.2) (by decide) (by decide) ?_
            show Steps _ _ _ (T2.setTop (mkF m 184 #[.val (.long q1), .second, .val (.long q2), .second, .val (.long q3), .second, .val (.long q4), .second, .val (.long q5), .second, .val (.int p6), .val (.long vS), .second, .val (.long vE), .second, .val (.long vD), .second, .val (.int vC), .val (.int vL), .val (.int vM), .val (.long vQ), .second, .unset, .unset, .val (.int (0 : Int32)), .unset, .unset, .unset, .unset] [])) _
            refine XS.lconst X2.here hx rfl (hb hby at_184) ?_
            show Steps _ _ _ (T2.setTop (mkF m 185 #[.val (.long q1), .second, .val (.long q2), .second, .val (.long q3), .second, .val (.long q4), .second, .val (.long q5), .second, .val (.int p6), .val (.long vS), .second, .val (.long vE), .second, .val (.long vD), .second, .val (.int vC), .val (.int vL), .val (.int vM), .val (.long vQ), .second, .unset, .unset, .val (.int (0 : Int32)), .unset, .unset, .unset, .unset] [(.long (0 : Int64))])) _
            refine XS.lstore X2.here hx rfl (hb hby at_185) rfl (l' := #[.val (.long q1), .second, .val (.long q2), .second, .val (.long q3), .second, .val (.long q4), .second, .val (.long q5), .second, .val (.int p6), .val (.long vS), .second, .val (.long vE), .second, .val (.long vD), .second, .val (.int vC), .val (.int vL), .val (.int vM), .val (.long vQ), .second, .val (.long (0 : Int64)), .second, .val (.int (0 : Int32)), .unset, .unset, .unset, .unset]) rfl ?_
            show Steps _ _ _ (T2.setTop (mkF m 187 #[.val (.long q1), .second, .val (.long q2), .second, .val (.long q3), .second, .val (.long q4), .second, .val (.long q5), .second, .val (.int p6), .val (.long vS), .second, .val (.long vE), .second, .val (.long vD), .second, .val (.int vC), .val (.int vL), .val (.int vM), .val (.long vQ), .second, .val (.long (0 : Int64)), .second, .val (.int (0 : Int32)), .unset, .unset, .unset, .unset] [])) _
            refine XS.goto X2.here hx rfl (pc0 := 187) (pc' := 194) rfl (hb hby at_187) (by decide) (by decide) ?_
            show Steps _ _ _ (T2.setTop (mkF m 194 #[.val (.long q1), .second, .val (.long q2), .second, .val (.long q3), .second, .val (.long q4), .second, .val (.long q5), .second, .val (.int p6), .val (.long vS), .second, .val (.long vE), .second, .val (.long vD), .second, .val (.int vC), .val (.int vL), .val (.int vM), .val (.long vQ), .second, .val (.long (0 : Int64)), .second, .val (.int (0 : Int32)), .unset, .unset, .unset, .unset] [])) _
            exact k
        · simp only [if_neg hc16] at k
          refine XS.icmpYes X2.here hx rfl (pc0 := 164) (pc' := 190) rfl (hb hby at_164) rfl (feq hc16).2 (by decide) (by decide) ?_
          show Steps _ _ _ (T2.setTop (mkF m 190 #[.val (.long q1), .second, .val (.long q2), .second, .val (.long q3), .second, .val (.long q4), .second, .val (.long q5), .second, .val (.int p6), .val (.long vS), .second, .val (.long vE), .second, .val (.long vD), .second, .val (.int vC), .val (.int vL), .val (.int vM), .val (.long vQ), .second, .unset, .unset, .val (.int (0 : Int32)), .unset, .unset, .unset, .unset] [])) _
          refine XS.lload X2.here hx rfl (hb hby at_190) rfl ?_
          show Steps _ _ _ (T2.setTop (mkF m 192 #[.val (.long q1), .second, .val (.long q2), .second, .val (.long q3), .second, .val (.long q4), .second, .val (.long q5), .second, .val (.int p6), .val (.long vS), .second, .val (.long vE), .second, .val (.long vD), .second, .val (.int vC), .val (.int vL), .val (.int vM), .val (.long vQ), .second, .unset, .unset, .val (.int (0 : Int32)), .unset, .unset, .unset, .unset] [(.long vS)])) _
          refine XS.lstore X2.here hx rfl (hb hby at_192) rfl (l' := #[.val (.long q1), .second, .val (.long q2), .second, .val (.long q3), .second, .val (.long q4), .second, .val (.long q5), .second, .val (.int p6), .val (.long vS), .second, .val (.long vE), .second, .val (.long vD), .second, .val (.int vC), .val (.int vL), .val (.int vM), .val (.long vQ), .second, .val (.long vS), .second, .val (.int (0 : Int32)), .unset, .unset, .unset, .unset]) rfl ?_
          show Steps _ _ _ (T2.setTop (mkF m 194 #[.val (.long q1), .second, .val (.long q2), .second, .val (.long q3), .second, .val (.long q4), .second, .val (.long q5), .second, .val (.int p6), .val (.long vS), .second, .val (.long vE), .second, .val (.long vD), .second, .val (.int vC), .val (.int vL), .val (.int vM), .val (.long vQ), .second, .val (.long vS), .second, .val (.int (0 : Int32)), .unset, .unset, .unset, .unset] [])) _
          exact k
  obtain ⟨zt, hzt⟩ : ∃ z : Int64, z = (if vC = (1 : Int32) then (if (0 : Int64) < vD then ((vS + (1 : Int64)) + (vQ - (vQ / vD) * vD)) else (if vS < (9223372036854775807 : Int64) then (vS + (1 : Int64)) else vS)) else (if vC = (2 : Int32) then (if vE < (9223372036854775807 : Int64) then ((vE + (1 : Int64)) + (vQ - (vQ / ((9223372036854775807 : Int64) - vE)) * ((9223372036854775807 : Int64) - vE))) else vS) else (if vC = (3 : Int32) then (if (0 : Int64) < vS then (vQ - (vQ / vS) * vS) else (0 : Int64)) else vS))) := ⟨_, rfl⟩
  rw [← hzt] at pre18
  obtain ⟨ze, hze⟩ : ∃ z : Int32, z = (if vC = (1 : Int32) then (if (0 : Int64) < vD then (1 : Int32) else (0 : Int32)) else (0 : Int32)) := ⟨_, rfl⟩
  rw [← hze] at pre18
  have hall := own_all vS vE vD vQ vC hS0 hQ0 hSE hvD
  rw [← hzt, ← hze] at hall
  obtain ⟨_, _, ⟨T19, L19, k19, n19⟩, -, X19, ⟨Lc19, hQ19, l19, y19, z19⟩, st19⟩ := Jvm.LawKit.callS X2 hx (y := (⟨"com/example/copse/copse/tree/NodeLabelIsAncestorOfPinLaw", "upTo", "(JJ)J"⟩ : MethodName)) hown (mvT hZ (hw _ (List.mem_of_getElem? (i := 1) rfl))) (mvT hZ (hw _ (List.mem_of_getElem? (i := 2) rfl))) (mvT hZ (hw _ (List.mem_of_getElem? (i := 3) rfl))) (mvT hZ (hw _ (List.mem_of_getElem? (i := 4) rfl))) (by decide) (backOf (W := 0) (rm1 l Z a0 hw [] zt (q5 &&& (9223372036854775807 : Int64)) h0 n0 Z0 (own_lt0 hall.1)) hZ (hw _ (List.mem_of_getElem? (i := 4) rfl)) (hw _ (List.mem_of_getElem? (i := 3) rfl)) (by decide) (by decide)) (g := (mkF m 202 #[.val (.long q1), .second, .val (.long q2), .second, .val (.long q3), .second, .val (.long q4), .second, .val (.long q5), .second, .val (.int p6), .val (.long vS), .second, .val (.long vE), .second, .val (.long vD), .second, .val (.int vC), .val (.int vL), .val (.int vM), .val (.long vQ), .second, .val (.long zt), .second, .val (.int ze), .unset, .unset, .unset, .unset] [(.long (q5 &&& (9223372036854775807 : Int64))), (.long zt)])) rfl (by rw [hml]; rfl) (argsL := [(.long zt), (.long (q5 &&& (9223372036854775807 : Int64)))]) (rest := []) (lenOf pd_1 rfl) rfl (by show 2 * 0 + _ ≤ _; exact Nat.le_of_eq rfl) (hb hby at_202) (fun _ _ => ⟨rfl, q2_0, (by decide : 0 + 0 ≤ _), (by decide : 0 + 0 ≤ _)⟩)
  dsimp only [Pt.U, Pt.locs, Pt.cells, Pt.slots] at X19 l19 y19 z19 st19 hQ19
  subst l19 y19 z19
  obtain ⟨rfl, Nq19, q19_0⟩ := hQ19
  have N20 := Fr.app N3 Nq19
  have pre21 : ∀ t, Steps p.tables e below (T19.setTop (mkF m 207 #[.val (.long q1), .second, .val (.long q2), .second, .val (.long q3), .second, .val (.long q4), .second, .val (.long q5), .second, .val (.int p6), .val (.long vS), .second, .val (.long vE), .second, .val (.long vD), .second, .val (.int vC), .val (.int vL), .val (.int vM), .val (.long vQ), .second, .val (.long zt), .second, .val (.int ze), .val (.long (own_up zt (q5 &&& (9223372036854775807 : Int64)))), .second, .unset, .unset] [])) t → Steps p.tables e below (s₁.setTop (entryFrame m #[(.long q1), (.long q2), (.long q3), (.long q4), (.long q5), (.int p6)] maxLocals)) t := by
    intro t k
    refine pre18 t ?_
    refine XS.lload X2.here hx rfl (hb hby at_194) rfl ?_
    show Steps _ _ _ (T2.setTop (mkF m 196 #[.val (.long q1), .second, .val (.long q2), .second, .val (.long q3), .second, .val (.long q4), .second, .val (.long q5), .second, .val (.int p6), .val (.long vS), .second, .val (.long vE), .second, .val (.long vD), .second, .val (.int vC), .val (.int vL), .val (.int vM), .val (.long vQ), .second, .val (.long zt), .second, .val (.int ze), .unset, .unset, .unset, .unset] [(.long zt)])) _
    refine XS.lload X2.here hx rfl (hb hby at_196) rfl ?_
    show Steps _ _ _ (T2.setTop (mkF m 198 #[.val (.long q1), .second, .val (.long q2), .second, .val (.long q3), .second, .val (.long q4), .second, .val (.long q5), .second, .val (.int p6), .val (.long vS), .second, .val (.long vE), .second, .val (.long vD), .second, .val (.int vC), .val (.int vL), .val (.int vM), .val (.long vQ), .second, .val (.long zt), .second, .val (.int ze), .unset, .unset, .unset, .unset] [(.long q5), (.long zt)])) _
    refine X2.ldc2Long hx hown (mvT hZ (hw _ (List.mem_of_getElem? (i := 0) rfl))) (g := (mkF m 198 #[.val (.long q1), .second, .val (.long q2), .second, .val (.long q3), .second, .val (.long q4), .second, .val (.long q5), .second, .val (.int p6), .val (.long vS), .second, .val (.long vE), .second, .val (.long vD), .second, .val (.int vC), .val (.int vL), .val (.int vM), .val (.long vQ), .second, .val (.long zt), .second, .val (.int ze), .unset, .unset, .unset, .unset] [(.long q5), (.long zt)])) rfl (hb hby at_198) _ ?_
    show Steps _ _ _ (T2.setTop (mkF m 201 #[.val (.long q1), .second, .val (.long q2), .second, .val (.long q3), .second, .val (.long q4), .second, .val (.long q5), .second, .val (.int p6), .val (.long vS), .second, .val (.long vE), .second, .val (.long vD), .second, .val (.int vC), .val (.int vL), .val (.int vM), .val (.long vQ), .second, .val (.long zt), .second, .val (.int ze), .unset, .unset, .unset, .unset] [(.long (9223372036854775807 : Int64)), (.long q5), (.long zt)])) _
    refine XS.land X2.here hx rfl (hb hby at_201) rfl ?_
    show Steps _ _ _ (T2.setTop (mkF m 202 #[.val (.long q1), .second, .val (.long q2), .second, .val (.long q3), .second, .val (.long q4), .second, .val (.long q5), .second, .val (.int p6), .val (.long vS), .second, .val (.long vE), .second, .val (.long vD), .second, .val (.int vC), .val (.int vL), .val (.int vM), .val (.long vQ), .second, .val (.long zt), .second, .val (.int ze), .unset, .unset, .unset, .unset] [(.long (q5 &&& (9223372036854775807 : Int64))), (.long zt)])) _
    refine st19 _ ?_
    show Steps _ _ _ (T19.setTop (mkF m 205 #[.val (.long q1), .second, .val (.long q2), .second, .val (.long q3), .second, .val (.long q4), .second, .val (.long q5), .second, .val (.int p6), .val (.long vS), .second, .val (.long vE), .second, .val (.long vD), .second, .val (.int vC), .val (.int vL), .val (.int vM), .val (.long vQ), .second, .val (.long zt), .second, .val (.int ze), .unset, .unset, .unset, .unset] [(.long (own_up zt (q5 &&& (9223372036854775807 : Int64))))])) _
    refine XS.lstore X19.here hx rfl (hb hby at_205) rfl (l' := #[.val (.long q1), .second, .val (.long q2), .second, .val (.long q3), .second, .val (.long q4), .second, .val (.long q5), .second, .val (.int p6), .val (.long vS), .second, .val (.long vE), .second, .val (.long vD), .second, .val (.int vC), .val (.int vL), .val (.int vM), .val (.long vQ), .second, .val (.long zt), .second, .val (.int ze), .val (.long (own_up zt (q5 &&& (9223372036854775807 : Int64)))), .second, .unset, .unset]) rfl ?_
    show Steps _ _ _ (T19.setTop (mkF m 207 #[.val (.long q1), .second, .val (.long q2), .second, .val (.long q3), .second, .val (.long q4), .second, .val (.long q5), .second, .val (.int p6), .val (.long vS), .second, .val (.long vE), .second, .val (.long vD), .second, .val (.int vC), .val (.int vL), .val (.int vM), .val (.long vQ), .second, .val (.long zt), .second, .val (.int ze), .val (.long (own_up zt (q5 &&& (9223372036854775807 : Int64)))), .second, .unset, .unset] [])) _
    exact k
  obtain ⟨vF, hvF⟩ : ∃ z : Int64, z = (own_up zt (q5 &&& (9223372036854775807 : Int64))) := ⟨_, rfl⟩
  rw [← hvF] at pre21
  have hTF : zt.toInt ≤ vF.toInt := by rw [hvF]; exact own_upv _ _ hall.1 (own_mx _)
  obtain ⟨T22, h22, X22, e22, E22, A22, D22, -, st22⟩ := newO X19 hx hZ hown (hw _ (List.mem_of_getElem? (i := 8) rfl)) (hw _ (List.mem_of_getElem? (i := 9) rfl)) (hw _ (List.mem_of_getElem? (i := 10) rfl)) q19_0 (g := (mkF m 207 #[.val (.long q1), .second, .val (.long q2), .second, .val (.long q3), .second, .val (.long q4), .second, .val (.long q5), .second, .val (.int p6), .val (.long vS), .second, .val (.long vE), .second, .val (.long vD), .second, .val (.int vC), .val (.int vL), .val (.int vM), .val (.long vQ), .second, .val (.long zt), .second, .val (.int ze), .val (.long vF), .second, .unset, .unset] [])) rfl (hb hby at_207) (by decide) (by decide)
  obtain ⟨b22, g22⟩ : ∃ z, z = h0.size := ⟨_, rfl⟩
  rw [← g22] at A22 D22 st22
  have ge23 : n0 ≤ b22 := Nat.le_trans Z0 (Nat.le_of_eq g22.symm)
  have sz24 : h0.size ≤ b22 := Nat.le_trans (Keep.refl h0 []).1 (Nat.le_of_eq g22.symm)
  have KC25 : Keep h0 h22 [] := (Keep.refl h0 []).ext E22
  have F26 : Fld Z h22 b22 "com/example/copse/copse/tree/NodeLabel" "start" "J" (.long (0 : Int64)) := D22 (Or.inr (hw _ (List.mem_of_getElem? (i := 23) rfl))) (ty := .long) (by decide)
  have F27 : Fld Z h22 b22 "com/example/copse/copse/tree/NodeLabel" "end" "J" (.long (0 : Int64)) := D22 (Or.inr (hw _ (List.mem_of_getElem? (i := 25) rfl))) (ty := .long) (by decide)
  have F28 : Fld Z h22 b22 "com/example/copse/copse/tree/NodeLabel" "level" "I" (.int (0 : Int32)) := D22 (Or.inr (hw _ (List.mem_of_getElem? (i := 27) rfl))) (ty := .int) (by decide)
  obtain ⟨_, _, ⟨T29, L29, k29, n29⟩, -, X29, ⟨Lc29, hQ29, l29, y29, z29⟩, st29⟩ := X22.specialBack hx (y := (⟨"com/example/copse/copse/tree/NodeLabel", "<init>", "(JJI)V"⟩ : MethodName)) rfl hown (mvT hZ (hw _ (List.mem_of_getElem? (i := 11) rfl))) (mvT hZ (hw _ (List.mem_of_getElem? (i := 12) rfl))) (mvT hZ (hw _ (List.mem_of_getElem? (i := 13) rfl))) (by decide) (backOf (W := 1) (rm2 l Z a0 hw [] b22 vS vE vL (0 : Int64) (0 : Int64) (0 : Int32) h22 n0 (Nat.le_trans Z0 KC25.1) A22 F26 F27 F28 ge23 (own_lt0 hS0) (own_le hSE) (by rw [hvL]; exact own_lev _)) hZ (hw _ (List.mem_of_getElem? (i := 13) rfl)) (hw _ (List.mem_of_getElem? (i := 10) rfl)) (by decide) (by decide)) (g := (mkF m 217 #[.val (.long q1), .second, .val (.long q2), .second, .val (.long q3), .second, .val (.long q4), .second, .val (.long q5), .second, .val (.int p6), .val (.long vS), .second, .val (.long vE), .second, .val (.long vD), .second, .val (.int vC), .val (.int vL), .val (.int vM), .val (.long vQ), .second, .val (.long zt), .second, .val (.int ze), .val (.long vF), .second, .unset, .unset] [(.int vL), (.long vE), (.long vS), (.ref b22), (.ref b22)])) rfl (by rw [hml]; rfl) (Steps.refl _) (a := b22) (argsL := [(.long vS), (.long vE), (.int vL)]) (rest := [(.ref b22)]) (lenOf pd_2 rfl) rfl (by show 2 * 0 + _ ≤ _; exact Nat.le_of_eq rfl) (hb hby at_217) (fun _ _ => ⟨rfl, e22, (by decide : 1 + 0 ≤ _), (by decide : 3 + 0 ≤ _)⟩)
  dsimp only [Pt.U, Pt.locs, Pt.cells, Pt.slots] at X29 l29 y29 z29 st29 hQ29
  subst l29 y29 z29
  obtain ⟨rfl, Nq29, q29_0, q29_1, q29_2, q29_3⟩ := hQ29
  have N30 := Fr.app N20 Nq29
  have KC31 : Keep h0 T29.heap [] := KC25.trans q29_0 (allS (Or.inr sz24) all0)
  obtain ⟨T32, h32, X32, e32, E32, A32, D32, -, st32⟩ := newO X29 hx hZ hown (hw _ (List.mem_of_getElem? (i := 8) rfl)) (hw _ (List.mem_of_getElem? (i := 9) rfl)) (hw _ (List.mem_of_getElem? (i := 10) rfl)) rfl (g := (mkF m 222 #[.val (.long q1), .second, .val (.long q2), .second, .val (.long q3), .second, .val (.long q4), .second, .val (.long q5), .second, .val (.int p6), .val (.long vS), .second, .val (.long vE), .second, .val (.long vD), .second, .val (.int vC), .val (.int vL), .val (.int vM), .val (.long vQ), .second, .val (.long zt), .second, .val (.int ze), .val (.long vF), .second, .val (.ref b22), .unset] [])) rfl (hb hby at_222) (by decide) (by decide)
  obtain ⟨b32, g32⟩ : ∃ z, z = T29.heap.size := ⟨_, rfl⟩
  rw [← g32] at A32 D32 st32
  have F33 : Exa Z T29.heap b22 "com/example/copse/copse/tree/NodeLabel" := (A22.keep q29_0)
  have ne34 : b22 ≠ b32 := Nat.ne_of_lt (Nat.lt_of_lt_of_le F33.lt (Nat.le_of_eq g32.symm))
  have ge35 : n0 ≤ b32 := Nat.le_trans (Nat.le_trans Z0 KC31.1) (Nat.le_of_eq g32.symm)
  have sz36 : h0.size ≤ b32 := Nat.le_trans KC31.1 (Nat.le_of_eq g32.symm)
  have KC37 : Keep h0 h32 [] := KC31.ext E32
  have F38 : Fld Z h32 b32 "com/example/copse/copse/tree/NodeLabel" "start" "J" (.long (0 : Int64)) := D32 (Or.inr (hw _ (List.mem_of_getElem? (i := 23) rfl))) (ty := .long) (by decide)
  have F39 : Fld Z h32 b32 "com/example/copse/copse/tree/NodeLabel" "end" "J" (.long (0 : Int64)) := D32 (Or.inr (hw _ (List.mem_of_getElem? (i := 25) rfl))) (ty := .long) (by decide)
  have F40 : Fld Z h32 b32 "com/example/copse/copse/tree/NodeLabel" "level" "I" (.int (0 : Int32)) := D32 (Or.inr (hw _ (List.mem_of_getElem? (i := 27) rfl))) (ty := .int) (by decide)
  obtain ⟨_, _, ⟨T41, L41, k41, n41⟩, -, X41, ⟨Lc41, hQ41, l41, y41, z41⟩, st41⟩ := X32.specialBack hx (y := (⟨"com/example/copse/copse/tree/NodeLabel", "<init>", "(JJI)V"⟩ : MethodName)) rfl hown (mvT hZ (hw _ (List.mem_of_getElem? (i := 11) rfl))) (mvT hZ (hw _ (List.mem_of_getElem? (i := 12) rfl))) (mvT hZ (hw _ (List.mem_of_getElem? (i := 13) rfl))) (by decide) (backOf (W := 1) (rm2 l Z a0 hw [] b32 zt vF vM (0 : Int64) (0 : Int64) (0 : Int32) h32 n0 (Nat.le_trans Z0 KC37.1) A32 F38 F39 F40 ge35 (own_lt0 hall.1) (own_le hTF) (by rw [hvM]; exact own_olev _)) hZ (hw _ (List.mem_of_getElem? (i := 13) rfl)) (hw _ (List.mem_of_getElem? (i := 10) rfl)) (by decide) (by decide)) (g := (mkF m 232 #[.val (.long q1), .second, .val (.long q2), .second, .val (.long q3), .second, .val (.long q4), .second, .val (.long q5), .second, .val (.int p6), .val (.long vS), .second, .val (.long vE), .second, .val (.long vD), .second, .val (.int vC), .val (.int vL), .val (.int vM), .val (.long vQ), .second, .val (.long zt), .second, .val (.int ze), .val (.long vF), .second, .val (.ref b22), .unset] [(.int vM), (.long vF), (.long zt), (.ref b32), (.ref b32)])) rfl (by rw [hml]; rfl) (Steps.refl _) (a := b32) (argsL := [(.long zt), (.long vF), (.int vM)]) (rest := [(.ref b32)]) (lenOf pd_2 rfl) rfl (by show 2 * 0 + _ ≤ _; exact Nat.le_of_eq rfl) (hb hby at_232) (fun _ _ => ⟨rfl, e32, (by decide : 2 + 0 ≤ _), (by decide : 6 + 0 ≤ _)⟩)
  dsimp only [Pt.U, Pt.locs, Pt.cells, Pt.slots] at X41 l41 y41 z41 st41 hQ41
  subst l41 y41 z41
  obtain ⟨rfl, Nq41, q41_0, q41_1, q41_2, q41_3⟩ := hQ41
  have N42 := Fr.app N30 Nq41
  have KC43 : Keep h0 T41.heap [] := KC37.trans q41_0 (allS (Or.inr sz36) all0)
  have F44 : Fld Z T41.heap b22 "com/example/copse/copse/tree/NodeLabel" "start" "J" (.long vS) := ((q29_1.ext E32).keep q41_0 (ninS ne34 nin0))
  have F45 : Fld Z T41.heap b22 "com/example/copse/copse/tree/NodeLabel" "end" "J" (.long vE) := ((q29_2.ext E32).keep q41_0 (ninS ne34 nin0))
  have F47 : Exa Z T41.heap b22 "com/example/copse/copse/tree/NodeLabel" := ((F33.ext E32).keep q41_0)
  obtain ⟨cq46, kq46, q46a, q46b, q46c⟩ := isOf hZ rfl F47
  obtain ⟨_, _, ⟨T46, L46, k46, n46⟩, -, X46, ⟨Lc46, hQ46, l46, y46, z46⟩, st46⟩ := X41.virtualBack hx (y := (⟨"com/example/copse/copse/tree/NodeLabel", "isAncestorOf", "(Lcom/example/copse/copse/tree/NodeLabel;)Z"⟩ : MethodName)) (z := (⟨"com/example/copse/copse/tree/NodeLabel", "isAncestorOf", "(Lcom/example/copse/copse/tree/NodeLabel;)Z"⟩ : MethodName)) hown (mvT hZ (hw _ (List.mem_of_getElem? (i := 28) rfl))) (mvT hZ (hw _ (List.mem_of_getElem? (i := 29) rfl))) (notFace_of_selects (args := #[]) (mvT hZ (hw _ (List.mem_of_getElem? (i := 31) rfl)))) (mvT hZ (hw _ (List.mem_of_getElem? (i := 31) rfl))) (mvT hZ (hw _ (List.mem_of_getElem? (i := 30) rfl))) (by decide) (backOf (W := 0) (rm5 l Z a0 hw [] b22 b32 vS vE zt T41.heap n0 (Nat.le_trans Z0 KC43.1) F44 F45 q41_1) hZ (hw _ (List.mem_of_getElem? (i := 32) rfl)) (hw _ (List.mem_of_getElem? (i := 10) rfl)) (by decide) (by decide)) q46a q46c (g := (mkF m 241 #[.val (.long q1), .second, .val (.long q2), .second, .val (.long q3), .second, .val (.long q4), .second, .val (.long q5), .second, .val (.int p6), .val (.long vS), .second, .val (.long vE), .second, .val (.long vD), .second, .val (.int vC), .val (.int vL), .val (.int vM), .val (.long vQ), .second, .val (.long zt), .second, .val (.int ze), .val (.long vF), .second, .val (.ref b22), .val (.ref b32)] [(.ref b32), (.ref b22)])) rfl (by rw [hml]; rfl) (Steps.refl _) (argsL := [(.ref b32)]) (rest := []) (lenOf pd_3 rfl) rfl (by show 2 * 0 + _ ≤ _; exact Nat.le_of_eq rfl) (hb hby at_241) (fun _ _ => ⟨rfl, rfl, (by decide : 2 + 0 ≤ _), (by decide : 6 + 0 ≤ _)⟩)
  dsimp only [Pt.U, Pt.locs, Pt.cells, Pt.slots] at X46 l46 y46 z46 st46 hQ46
  subst l46 y46 z46
  obtain ⟨rfl, Nq46, q46_0⟩ := hQ46
  have N48 := Fr.app N42 Nq46
  have hc49 : (own_anc vS vE zt) = ze := hall.2
  have pre50 : ∀ t, Steps p.tables e below (T46.setTop (mkF m 254 #[.val (.long q1), .second, .val (.long q2), .second, .val (.long q3), .second, .val (.long q4), .second, .val (.long q5), .second, .val (.int p6), .val (.long vS), .second, .val (.long vE), .second, .val (.long vD), .second, .val (.int vC), .val (.int vL), .val (.int vM), .val (.long vQ), .second, .val (.long zt), .second, .val (.int ze), .val (.long vF), .second, .val (.ref b22), .val (.ref b32)] [(.int (1 : Int32))])) t → Steps p.tables e below (s₁.setTop (entryFrame m #[(.long q1), (.long q2), (.long q3), (.long q4), (.long q5), (.int p6)] maxLocals)) t := by
    intro t k
    refine pre21 t ?_
    refine st22 _ ?_
    show Steps _ _ _ (T22.setTop (mkF m 210 #[.val (.long q1), .second, .val (.long q2), .second, .val (.long q3), .second, .val (.long q4), .second, .val (.long q5), .second, .val (.int p6), .val (.long vS), .second, .val (.long vE), .second, .val (.long vD), .second, .val (.int vC), .val (.int vL), .val (.int vM), .val (.long vQ), .second, .val (.long zt), .second, .val (.int ze), .val (.long vF), .second, .unset, .unset] [(.ref b22)])) _
    refine XS.dup X22.here hx rfl (hb hby at_210) rfl rfl ?_
    show Steps _ _ _ (T22.setTop (mkF m 211 #[.val (.long q1), .second, .val (.long q2), .second, .val (.long q3), .second, .val (.long q4), .second, .val (.long q5), .second, .val (.int p6), .val (.long vS), .second, .val (.long vE), .second, .val (.long vD), .second, .val (.int vC), .val (.int vL), .val (.int vM), .val (.long vQ), .second, .val (.long zt), .second, .val (.int ze), .val (.long vF), .second, .unset, .unset] [(.ref b22), (.ref b22)])) _
    refine XS.lload X22.here hx rfl (hb hby at_211) rfl ?_
    show Steps _ _ _ (T22.setTop (mkF m 213 #[.val (.long q1), .second, .val (.long q2), .second, .val (.long q3), .second, .val (.long q4), .second, .val (.long q5), .second, .val (.int p6), .val (.long vS), .second, .val (.long vE), .second, .val (.long vD), .second, .val (.int vC), .val (.int vL), .val (.int vM), .val (.long vQ), .second, .val (.long zt), .second, .val (.int ze), .val (.long vF), .second, .unset, .unset] [(.long vS), (.ref b22), (.ref b22)])) _
    refine XS.lload X22.here hx rfl (hb hby at_213) rfl ?_
    show Steps _ _ _ (T22.setTop (mkF m 215 #[.val (.long q1), .second, .val (.long q2), .second, .val (.long q3), .second, .val (.long q4), .second, .val (.long q5), .second, .val (.int p6), .val (.long vS), .second, .val (.long vE), .second, .val (.long vD), .second, .val (.int vC), .val (.int vL), .val (.int vM), .val (.long vQ), .second, .val (.long zt), .second, .val (.int ze), .val (.long vF), .second, .unset, .unset] [(.long vE), (.long vS), (.ref b22), (.ref b22)])) _
    refine XS.iload X22.here hx rfl (hb hby at_215) rfl ?_
    show Steps _ _ _ (T22.setTop (mkF m 217 #[.val (.long q1), .second, .val (.long q2), .second, .val (.long q3), .second, .val (.long q4), .second, .val (.long q5), .second, .val (.int p6), .val (.long vS), .second, .val (.long vE), .second, .val (.long vD), .second, .val (.int vC), .val (.int vL), .val (.int vM), .val (.long vQ), .second, .val (.long zt), .second, .val (.int ze), .val (.long vF), .second, .unset, .unset] [(.int vL), (.long vE), (.long vS), (.ref b22), (.ref b22)])) _
    refine st29.trans ?_
    show Steps _ _ _ (T29.setTop (mkF m 220 #[.val (.long q1), .second, .val (.long q2), .second, .val (.long q3), .second, .val (.long q4), .second, .val (.long q5), .second, .val (.int p6), .val (.long vS), .second, .val (.long vE), .second, .val (.long vD), .second, .val (.int vC), .val (.int vL), .val (.int vM), .val (.long vQ), .second, .val (.long zt), .second, .val (.int ze), .val (.long vF), .second, .unset, .unset] [(.ref b22)])) _
    refine XS.astore X29.here hx rfl (hb hby at_220) rfl rfl (l' := #[.val (.long q1), .second, .val (.long q2), .second, .val (.long q3), .second, .val (.long q4), .second, .val (.long q5), .second, .val (.int p6), .val (.long vS), .second, .val (.long vE), .second, .val (.long vD), .second, .val (.int vC), .val (.int vL), .val (.int vM), .val (.long vQ), .second, .val (.long zt), .second, .val (.int ze), .val (.long vF), .second, .val (.ref b22), .unset]) rfl ?_
    show Steps _ _ _ (T29.setTop (mkF m 222 #[.val (.long q1), .second, .val (.long q2), .second, .val (.long q3), .second, .val (.long q4), .second, .val (.long q5), .second, .val (.int p6), .val (.long vS), .second, .val (.long vE), .second, .val (.long vD), .second, .val (.int vC), .val (.int vL), .val (.int vM), .val (.long vQ), .second, .val (.long zt), .second, .val (.int ze), .val (.long vF), .second, .val (.ref b22), .unset] [])) _
    refine st32 _ ?_
    show Steps _ _ _ (T32.setTop (mkF m 225 #[.val (.long q1), .second, .val (.long q2), .second, .val (.long q3), .second, .val (.long q4), .second, .val (.long q5), .second, .val (.int p6), .val (.long vS), .second, .val (.long vE), .second, .val (.long vD), .second, .val (.int vC), .val (.int vL), .val (.int vM), .val (.long vQ), .second, .val (.long zt), .second, .val (.int ze), .val (.long vF), .second, .val (.ref b22), .unset] [(.ref b32)])) _
    refine XS.dup X32.here hx rfl (hb hby at_225) rfl rfl ?_
    show Steps _ _ _ (T32.setTop (mkF m 226 #[.val (.long q1), .second, .val (.long q2), .second, .val (.long q3), .second, .val (.long q4), .second, .val (.long q5), .second, .val (.int p6), .val (.long vS), .second, .val (.long vE), .second, .val (.long vD), .second, .val (.int vC), .val (.int vL), .val (.int vM), .val (.long vQ), .second, .val (.long zt), .second, .val (.int ze), .val (.long vF), .second, .val (.ref b22), .unset] [(.ref b32), (.ref b32)])) _
    refine XS.lload X32.here hx rfl (hb hby at_226) rfl ?_
    show Steps _ _ _ (T32.setTop (mkF m 228 #[.val (.long q1), .second, .val (.long q2), .second, .val (.long q3), .second, .val (.long q4), .second, .val (.long q5), .second, .val (.int p6), .val (.long vS), .second, .val (.long vE), .second, .val (.long vD), .second, .val (.int vC), .val (.int vL), .val (.int vM), .val (.long vQ), .second, .val (.long zt), .second, .val (.int ze), .val (.long vF), .second, .val (.ref b22), .unset] [(.long zt), (.ref b32), (.ref b32)])) _
    refine XS.lload X32.here hx rfl (hb hby at_228) rfl ?_
    show Steps _ _ _ (T32.setTop (mkF m 230 #[.val (.long q1), .second, .val (.long q2), .second, .val (.long q3), .second, .val (.long q4), .second, .val (.long q5), .second, .val (.int p6), .val (.long vS), .second, .val (.long vE), .second, .val (.long vD), .second, .val (.int vC), .val (.int vL), .val (.int vM), .val (.long vQ), .second, .val (.long zt), .second, .val (.int ze), .val (.long vF), .second, .val (.ref b22), .unset] [(.long vF), (.long zt), (.ref b32), (.ref b32)])) _
    refine XS.iload X32.here hx rfl (hb hby at_230) rfl ?_
    show Steps _ _ _ (T32.setTop (mkF m 232 #[.val (.long q1), .second, .val (.long q2), .second, .val (.long q3), .second, .val (.long q4), .second, .val (.long q5), .second, .val (.int p6), .val (.long vS), .second, .val (.long vE), .second, .val (.long vD), .second, .val (.int vC), .val (.int vL), .val (.int vM), .val (.long vQ), .second, .val (.long zt), .second, .val (.int ze), .val (.long vF), .second, .val (.ref b22), .unset] [(.int vM), (.long vF), (.long zt), (.ref b32), (.ref b32)])) _
    refine st41.trans ?_
    show Steps _ _ _ (T41.setTop (mkF m 235 #[.val (.long q1), .second, .val (.long q2), .second, .val (.long q3), .second, .val (.long q4), .second, .val (.long q5), .second, .val (.int p6), .val (.long vS), .second, .val (.long vE), .second, .val (.long vD), .second, .val (.int vC), .val (.int vL), .val (.int vM), .val (.long vQ), .second, .val (.long zt), .second, .val (.int ze), .val (.long vF), .second, .val (.ref b22), .unset] [(.ref b32)])) _
    refine XS.astore X41.here hx rfl (hb hby at_235) rfl rfl (l' := #[.val (.long q1), .second, .val (.long q2), .second, .val (.long q3), .second, .val (.long q4), .second, .val (.long q5), .second, .val (.int p6), .val (.long vS), .second, .val (.long vE), .second, .val (.long vD), .second, .val (.int vC), .val (.int vL), .val (.int vM), .val (.long vQ), .second, .val (.long zt), .second, .val (.int ze), .val (.long vF), .second, .val (.ref b22), .val (.ref b32)]) rfl ?_
    show Steps _ _ _ (T41.setTop (mkF m 237 #[.val (.long q1), .second, .val (.long q2), .second, .val (.long q3), .second, .val (.long q4), .second, .val (.long q5), .second, .val (.int p6), .val (.long vS), .second, .val (.long vE), .second, .val (.long vD), .second, .val (.int vC), .val (.int vL), .val (.int vM), .val (.long vQ), .second, .val (.long zt), .second, .val (.int ze), .val (.long vF), .second, .val (.ref b22), .val (.ref b32)] [])) _
    refine XS.aload X41.here hx rfl (hb hby at_237) rfl rfl ?_
    show Steps _ _ _ (T41.setTop (mkF m 239 #[.val (.long q1), .second, .val (.long q2), .second, .val (.long q3), .second, .val (.long q4), .second, .val (.long q5), .second, .val (.int p6), .val (.long vS), .second, .val (.long vE), .second, .val (.long vD), .second, .val (.int vC), .val (.int vL), .val (.int vM), .val (.long vQ), .second, .val (.long zt), .second, .val (.int ze), .val (.long vF), .second, .val (.ref b22), .val (.ref b32)] [(.ref b22)])) _
    refine XS.aload X41.here hx rfl (hb hby at_239) rfl rfl ?_
    show Steps _ _ _ (T41.setTop (mkF m 241 #[.val (.long q1), .second, .val (.long q2), .second, .val (.long q3), .second, .val (.long q4), .second, .val (.long q5), .second, .val (.int p6), .val (.long vS), .second, .val (.long vE), .second, .val (.long vD), .second, .val (.int vC), .val (.int vL), .val (.int vM), .val (.long vQ), .second, .val (.long zt), .second, .val (.int ze), .val (.long vF), .second, .val (.ref b22), .val (.ref b32)] [(.ref b32), (.ref b22)])) _
    refine st46.trans ?_
    show Steps _ _ _ (T46.setTop (mkF m 244 #[.val (.long q1), .second, .val (.long q2), .second, .val (.long q3), .second, .val (.long q4), .second, .val (.long q5), .second, .val (.int p6), .val (.long vS), .second, .val (.long vE), .second, .val (.long vD), .second, .val (.int vC), .val (.int vL), .val (.int vM), .val (.long vQ), .second, .val (.long zt), .second, .val (.int ze), .val (.long vF), .second, .val (.ref b22), .val (.ref b32)] [(.int (own_anc vS vE zt))])) _
    refine XS.iload X46.here hx rfl (hb hby at_244) rfl ?_
    show Steps _ _ _ (T46.setTop (mkF m 246 #[.val (.long q1), .second, .val (.long q2), .second, .val (.long q3), .second, .val (.long q4), .second, .val (.long q5), .second, .val (.int p6), .val (.long vS), .second, .val (.long vE), .second, .val (.long vD), .second, .val (.int vC), .val (.int vL), .val (.int vM), .val (.long vQ), .second, .val (.long zt), .second, .val (.int ze), .val (.long vF), .second, .val (.ref b22), .val (.ref b32)] [(.int ze), (.int (own_anc vS vE zt))])) _
    refine XS.icmpNo X46.here hx rfl (hb hby at_246) rfl (teq hc49).2 ?_
    show Steps _ _ _ (T46.setTop (mkF m 249 #[.val (.long q1), .second, .val (.long q2), .second, .val (.long q3), .second, .val (.long q4), .second, .val (.long q5), .second, .val (.int p6), .val (.long vS), .second, .val (.long vE), .second, .val (.long vD), .second, .val (.int vC), .val (.int vL), .val (.int vM), .val (.long vQ), .second, .val (.long zt), .second, .val (.int ze), .val (.long vF), .second, .val (.ref b22), .val (.ref b32)] [])) _
    refine XS.iconst X46.here hx rfl (hb hby at_249) ?_
    show Steps _ _ _ (T46.setTop (mkF m 250 #[.val (.long q1), .second, .val (.long q2), .second, .val (.long q3), .second, .val (.long q4), .second, .val (.long q5), .second, .val (.int p6), .val (.long vS), .second, .val (.long vE), .second, .val (.long vD), .second, .val (.int vC), .val (.int vL), .val (.int vM), .val (.long vQ), .second, .val (.long zt), .second, .val (.int ze), .val (.long vF), .second, .val (.ref b22), .val (.ref b32)] [(.int (1 : Int32))])) _
    refine XS.goto X46.here hx rfl (pc0 := 250) (pc' := 254) rfl (hb hby at_250) (by decide) (by decide) ?_
    show Steps _ _ _ (T46.setTop (mkF m 254 #[.val (.long q1), .second, .val (.long q2), .second, .val (.long q3), .second, .val (.long q4), .second, .val (.long q5), .second, .val (.int p6), .val (.long vS), .second, .val (.long vE), .second, .val (.long vD), .second, .val (.int vC), .val (.int vL), .val (.int vM), .val (.long vQ), .second, .val (.long zt), .second, .val (.int ze), .val (.long vF), .second, .val (.ref b22), .val (.ref b32)] [(.int (1 : Int32))])) _
    exact k
  obtain ⟨fs, hr, hrun, hended, hW, hsame⟩ := X46.leave (v := some (.int (1 : Int32))) (fun h => by rw [Bd.returns] at h; cases h)
  refine ⟨_, _, pre50 _ ?_, hrun, hended, _, _, rfl, ?_, ⟨_, rfl⟩, hW, hsame.mono (by decide) (by decide)⟩
  · exact retN X46 hx (t := .boolean) Bd.returns (by simp) (hb hby at_254) hr
  · show Q_rm0 Z q1 q2 q3 q4 q5 p6 h0 n0 _ T46.heap _
    rw [q46_0]
    exact ⟨rfl, N48, KC43⟩
set_option maxRecDepth 65536 in
set_option maxHeartbeats 40000000 in
theorem comes_1 {Post : Tables → Env → Array Value → State → Outcome → State → Prop} (hpost : ∀ tb e args s v u, (limb_1_1.after args s (.returned v) u = true ∧ limb_1_2.after args s (.returned v) u = true ∧ True) → FrameEnd s (.returned v) u (Jvm.fieldLocs frame_1_writes args s ++ Jvm.arrayLocs frame_1_arrays args s ++ Jvm.staticLocs frame_1_statics s) 16 128 → Post tb e args s (.returned v) u) :
    ArmFor flags0 classFile x code maxLocals ret World_1 tables_1 room_1 Calls_1 rest_1 Pre_1 Post := by
  intro l hfl _ _ p e ha hc hk s m args below hf hA hF happ hP
  obtain ⟨hcalls, hrest, hpre⟩ := hP
  obtain ⟨-, -, -, hnamed, -, -, -, hat⟩ := (Spec.applies_iff hf).mp happ
  obtain ⟨hg, hn⟩ := and_e (Cond.before_iff.mp (show (Jvm.Cond.and given_1 narrow_1).before args s = true from hpre))
  obtain ⟨g0, r0⟩ := and_e hg
  obtain ⟨g1, r1⟩ := and_e r0
  obtain ⟨g2, r2⟩ := and_e r1
  obtain ⟨g3, r3⟩ := and_e r2
  obtain ⟨g4, r4⟩ := and_e r3
  obtain ⟨g5, r5⟩ := and_e r4
  obtain ⟨w0, w1, w2, w3, w4, w5, rfl⟩ : ∃ w0 w1 w2 w3 w4 w5 : Value, args = #[w0, w1, w2, w3, w4, w5] := by
    have hs : args.size = 6 := by simpa [Cond.value, given_1] using g0
    obtain ⟨L⟩ := args
    match L, hs with
    | [w0, w1, w2, w3, w4, w5], _ => exact ⟨w0, w1, w2, w3, w4, w5, rfl⟩
  have hw := fun d (hd : d ∈ tables_1) => atoms_spec (ws := Jvm.Cond.code x code maxLocals ret :: tables_1) hat d (List.mem_cons_of_mem _ hd)
  have hfit : Fit s := fun {y c} hc i hi => by
    obtain ⟨ha, rfl⟩ := Array.getElem?_eq_some_iff.mp hc
    have q := List.all_eq_true.mp ((Array.all_eq_true_iff_forall_mem.mp hF) _ (Array.getElem_mem ha)) i (List.mem_range.mpr hi)
    simpa [Array.getElem?_eq_getElem hi] using q
  obtain ⟨i0, ei0⟩ := isL_v g1
  obtain rfl : w0 = (.long i0) := Option.some.inj ei0
  obtain ⟨i1, ei1⟩ := isL_v g2
  obtain rfl : w1 = (.long i1) := Option.some.inj ei1
  obtain ⟨i2, ei2⟩ := isL_v g3
  obtain rfl : w2 = (.long i2) := Option.some.inj ei2
  obtain ⟨i3, ei3⟩ := isL_v g4
  obtain rfl : w3 = (.long i3) := Option.some.inj ei3
  obtain ⟨i4, ei4⟩ := isL_v g5
  obtain rfl : w4 = (.long i4) := Option.some.inj ei4
  obtain ⟨i5, ei5⟩ := is_v r5
  obtain rfl : w5 = (.int i5) := Option.some.inj ei5
  obtain ⟨n, o, h1, h2, h3, _, L, rfl, ⟨rfl, N, -⟩, hq⟩ := rm0 l s _ hw tables_1 i0 i1 i2 i3 i4 i5 s.heap s.heap.size (Nat.le_refl _)  p e ha hc hk s m _ below hf ((Spec.applies_iff_loose hf).mp happ).1 ⟨rfl, State.Warmed39.refl s, rfl⟩ trivial
  refine ⟨n, _, h1, h2, h3, hpost _ _ _ _ _ _ ⟨Cond.after_iff.mpr rfl, Cond.after_iff.mpr (eq_i res_at (Term.int_eval (1)) rfl), trivial⟩ ⟨hq.1, hq.2.1, (hq.2.2.sift fun y hy => Or.inr (N y hy)).mono (by decide) (by decide)⟩⟩
theorem main_1_1 : Claimed_1_1 := comes_1 fun _ _ _ _ _ _ h hF => ⟨h.1, hF⟩
theorem main_1_2 : Claimed_1_2 := comes_1 fun _ _ _ _ _ _ h hF => ⟨h.2.1, hF⟩
end Jvm.Pilot.@@N@@
namespace Jvm.Pilot.@@N@@
open Jvm Jvm.ClassFile Sem Op Lib Jvm.Free Jvm.Stand Jvm.Pilot.@@N@@.Jvm.D
/-! MADE BY PROGRAM (witnessworld.py) out of the Statement's table words and the real class files: 11 classes; the members and pool entries that the words name. The judged class is class 1, her method 2. -/
namespace start1
open Jvm.ClassFile
def u (s : String) : CpInfo := .utf8 (stringToUtf16 s)
/-- a pool by its gaps: so many unusable entries, then the entry; so many at the end -/
def gap : Nat → List CpInfo → List CpInfo
  | 0, r => r
  | n + 1, r => .unusable :: gap n r
def poolList (es : List (Nat × CpInfo)) (last : Nat) : List CpInfo := es.foldr (fun e r => gap e.1 (e.2 :: r)) (gap last [])
def pool (es : List (Nat × CpInfo)) (last : Nat) : Array CpInfo := ⟨poolList es last⟩
def fileOf (pool : Array CpInfo) (this : Nat) (attrs : Array Attribute := #[]) (ms : Array MethodInfo := #[]) (fl : Nat := 33) (sup : Nat := 0) (ifs : Array Nat := #[]) (fds : Array FieldInfo := #[]) : ClassFile where
  minorVersion := 0
  majorVersion := 65
  constantPool := pool
  accessFlags := fl
  thisClass := this
  superClass := sup
  interfaces := ifs
  fields := fds
  methods := ms
  attributes := attrs
def plain (name : String) (sup : Option ClassId) : Class where
  name := name
  kind := .ordinary
  loader := none
  accessFlags := 33
  super := sup
  interfaces := #[]
  cf := none
  fields := #[]
  methods := #[]
  instanceTypes := #[]
  staticTypes := #[]
  resolved := #[]
  callSites := []
  init := .initialized
  statics := none
  mirror := none

def pool0 : Array CpInfo := pool [(5, u "<init>"), (0, u "()V"), (1, .class_ 10), (1, u "java/lang/Object")] 113

def k0c0 : Code := { maxStack := 0, maxLocals := 1, code := object_method_1_code, exceptionTable := #[], attributes := #[] }
def k0m0 : Method := { name := "<init>", desc := "()V", sig := { parameters := [], returnType := none }, accessFlags := 1, code := some k0c0 }
/-- java/lang/Object -/
def k0 : Class := { plain "java/lang/Object" none with
  accessFlags := 33
  interfaces := #[]
  cf := some (fileOf pool0 8 #[] #[{ accessFlags := 1, nameIndex := 5, descriptorIndex := 6, attributes := #[] }] 33 0 #[] #[])
  fields := #[]
  methods := #[k0m0]
  instanceTypes := #[]
  staticTypes := #[]
  resolved := Array.replicate 124 none
  statics := none }

def pool1 : Array CpInfo := pool [(2, .class_ 4), (1, u "java/lang/Object"), (0, u "<init>"), (0, u "()V"), (2, .long 9223372036854775807), (1, .methodref 12 13), (0, .class_ 14), (0, .nameAndType 15 16), (0, u "com/example/copse/copse/tree/NodeLabelIsAncestorOfPinLaw"), (0, u "upTo"), (0, u "(JJ)J"), (0, .long 3), (1, .long 2147483647), (1, .integer 2147483647), (0, .class_ 23), (0, u "com/example/copse/copse/tree/NodeLabel"), (0, .methodref 22 25), (0, .nameAndType 5 26), (0, u "(JJI)V"), (0, .methodref 22 28), (0, .nameAndType 29 30), (0, u "isAncestorOf"), (0, u "(Lcom/example/copse/copse/tree/NodeLabel;)Z"), (3, u "law"), (0, u "(JJJJJI)Z")] 2

def k1m0 : Method := { name := "<init>", desc := "()V", sig := { parameters := [], returnType := none }, accessFlags := 1, code := none }
def k1c1 : Code := { maxStack := 8, maxLocals := 6, code := method_2_code, exceptionTable := #[], attributes := #[] }
def k1m1 : Method := { name := "upTo", desc := "(JJ)J", sig := { parameters := [.long, .long], returnType := some .long }, accessFlags := 10, code := some k1c1 }
def k1c2 : Code := { maxStack := 8, maxLocals := 29, code := code, exceptionTable := #[], attributes := #[] }
def k1m2 : Method := { name := "law", desc := "(JJJJJI)Z", sig := { parameters := [.long, .long, .long, .long, .long, .int], returnType := some .boolean }, accessFlags := 9, code := some k1c2 }
/-- com/example/copse/copse/tree/NodeLabelIsAncestorOfPinLaw -/
def k1 : Class := { plain "com/example/copse/copse/tree/NodeLabelIsAncestorOfPinLaw" (some 0) with
  accessFlags := 49
  interfaces := #[]
  cf := some (fileOf pool1 12 #[] #[{ accessFlags := 1, nameIndex := 5, descriptorIndex := 6, attributes := #[] }, { accessFlags := 10, nameIndex := 15, descriptorIndex := 16, attributes := #[] }, { accessFlags := 9, nameIndex := 34, descriptorIndex := 35, attributes := #[] }] 49 2 #[] #[])
  fields := #[]
  methods := #[k1m0, k1m1, k1m2]
  instanceTypes := #[]
  staticTypes := #[]
  resolved := Array.replicate 38 none
  statics := none }

def pool2 : Array CpInfo := pool [(1, .methodref 2 3), (0, .class_ 4), (0, .nameAndType 5 6), (0, u "java/lang/Object"), (0, u "<init>"), (0, u "()V"), (0, .class_ 8), (0, u "java/lang/Record")] 13

def k2c0 : Code := { maxStack := 1, maxLocals := 1, code := jdk_30_method_1_code, exceptionTable := #[], attributes := #[] }
def k2m0 : Method := { name := "<init>", desc := "()V", sig := { parameters := [], returnType := none }, accessFlags := 4, code := some k2c0 }
/-- java/lang/Record -/
def k2 : Class := { plain "java/lang/Record" (some 0) with
  accessFlags := 1057
  interfaces := #[]
  cf := some (fileOf pool2 7 #[] #[{ accessFlags := 4, nameIndex := 5, descriptorIndex := 6, attributes := #[] }] 1057 2 #[] #[])
  fields := #[]
  methods := #[k2m0]
  instanceTypes := #[]
  staticTypes := #[]
  resolved := Array.replicate 22 none
  statics := none }

def pool3 : Array CpInfo := pool [(1, .class_ 2), (0, u "java/lang/Comparable"), (0, .class_ 4), (0, u "java/lang/Object")] 7

/-- java/lang/Comparable -/
def k3 : Class := { plain "java/lang/Comparable" (some 0) with
  accessFlags := 1537
  interfaces := #[]
  cf := some (fileOf pool3 1 #[] #[] 1537 3 #[] #[])
  fields := #[]
  methods := #[]
  instanceTypes := #[]
  staticTypes := #[]
  resolved := Array.replicate 12 none
  statics := none }

def pool4 : Array CpInfo := pool [(1, .methodref 2 3), (0, .class_ 4), (0, .nameAndType 5 6), (0, u "java/lang/Record"), (0, u "<init>"), (0, u "()V"), (9, .fieldref 17 18), (0, .class_ 19), (0, .nameAndType 20 21), (0, u "com/example/copse/copse/tree/NodeLabel"), (0, u "start"), (0, u "J"), (0, .fieldref 17 23), (0, .nameAndType 24 21), (0, u "end"), (0, .fieldref 17 26), (0, .nameAndType 27 28), (0, u "level"), (0, u "I"), (2, u "isAncestorOf"), (0, u "(Lcom/example/copse/copse/tree/NodeLabel;)Z"), (26, .class_ 60), (0, u "java/lang/Comparable"), (0, u "(JJI)V")] 42

def k4c0 : Code := { maxStack := 7, maxLocals := 6, code := prog_40_method_1_code, exceptionTable := #[], attributes := #[] }
def k4m0 : Method := { name := "<init>", desc := "(JJI)V", sig := { parameters := [.long, .long, .int], returnType := none }, accessFlags := 1, code := some k4c0 }
def k4c1 : Code := { maxStack := 4, maxLocals := 2, code := prog_40_method_2_code, exceptionTable := #[], attributes := #[] }
def k4m1 : Method := { name := "isAncestorOf", desc := "(Lcom/example/copse/copse/tree/NodeLabel;)Z", sig := { parameters := [(.object "com/example/copse/copse/tree/NodeLabel")], returnType := some .boolean }, accessFlags := 1, code := some k4c1 }
/-- com/example/copse/copse/tree/NodeLabel -/
def k4 : Class := { plain "com/example/copse/copse/tree/NodeLabel" (some 2) with
  accessFlags := 49
  interfaces := #[3]
  cf := some (fileOf pool4 17 #[] #[{ accessFlags := 1, nameIndex := 5, descriptorIndex := 61, attributes := #[] }, { accessFlags := 1, nameIndex := 31, descriptorIndex := 32, attributes := #[] }] 49 2 #[59] #[{ accessFlags := 18, nameIndex := 20, descriptorIndex := 21, attributes := #[] }, { accessFlags := 18, nameIndex := 24, descriptorIndex := 21, attributes := #[] }, { accessFlags := 18, nameIndex := 27, descriptorIndex := 28, attributes := #[] }])
  fields := #[{ name := "start", type := .long, accessFlags := 18, slot := 0, constantValue := 0 }, { name := "end", type := .long, accessFlags := 18, slot := 1, constantValue := 0 }, { name := "level", type := .int, accessFlags := 18, slot := 2, constantValue := 0 }]
  methods := #[k4m0, k4m1]
  instanceTypes := #[.long, .long, .int]
  staticTypes := #[]
  resolved := Array.replicate 104 none
  statics := none }

def pool5 : Array CpInfo := pool [(1, u "java/lang/Cloneable"), (0, .class_ 1), (0, u "java/lang/Object"), (0, .class_ 3)] 3

/-- java/lang/Cloneable -/
def k5 : Class := { plain "java/lang/Cloneable" (some 0) with
  accessFlags := 1537
  interfaces := #[]
  cf := some (fileOf pool5 2 #[] #[] 1537 4 #[] #[])
  fields := #[]
  methods := #[]
  instanceTypes := #[]
  staticTypes := #[]
  resolved := Array.replicate 8 none
  statics := none }

def pool6 : Array CpInfo := pool [(1, u "java/io/Serializable"), (0, .class_ 1), (0, u "java/lang/Object"), (0, .class_ 3)] 3

/-- java/io/Serializable -/
def k6 : Class := { plain "java/io/Serializable" (some 0) with
  accessFlags := 1537
  interfaces := #[]
  cf := some (fileOf pool6 2 #[] #[] 1537 4 #[] #[])
  fields := #[]
  methods := #[]
  instanceTypes := #[]
  staticTypes := #[]
  resolved := Array.replicate 8 none
  statics := none }

/-- the primitive byte -/
def k7 : Class := { plain "byte" none with kind := .primitive 'B', accessFlags := 0x411 }
/-- [B -/
def k8 : Class := { plain "[B" (some 0) with kind := .array 7 .byte, interfaces := #[5, 6], accessFlags := 1041 }

/-- the primitive int -/
def k9 : Class := { plain "int" none with kind := .primitive 'I', accessFlags := 0x411 }
/-- [I -/
def k10 : Class := { plain "[I" (some 0) with kind := .array 9 .int, interfaces := #[5, 6], accessFlags := 1041 }

def heap : Heap := #[]
def classes : Array Class := #[k0, k1, k2, k3, k4, k5, k6, k7, k8, k9, k10]
def interned : List (Array UInt16 × Addr) := []
def slotsUsed : Nat := 0
def theMethod : MethodId := ⟨1, 2⟩
def args0 : Array Value := #[.long 5, .long 6, .long 7, .long 8, .long 9, .int 1]
def aboutOver (below : List Frame) : State where
  vm := { classes := classes, interned := interned.toArray }
  heap := heap
  slotsUsed := slotsUsed
  threads := #[{ frames := .invoking theMethod args0 :: below }]
def below0 : List Frame := [.native { method := ⟨0, 0⟩, args := #[] }]
def about1 : State := aboutOver below0
def p0 : Program := .bare "" "" ""
def e0 : Env := launch0.env 0 0 0
theorem w_frames : about1.frames = Frame.invoking theMethod args0 :: below0 := rfl
set_option maxRecDepth 65536 in
theorem w_args : argsFit about1.vm theMethod args0 = true := by decide +kernel
set_option maxRecDepth 65536 in
theorem w_heap : heapFits about1 = true := by decide +kernel
set_option maxRecDepth 65536 in
theorem w_runnable : about1.curStatus? = some .runnable := by decide +kernel
set_option maxRecDepth 65536 in
theorem w_alone : about1.alone = true := by decide +kernel
set_option maxRecDepth 65536 in
theorem w_named : about1.methodNamed? x = some theMethod := by decide +kernel
set_option maxRecDepth 65536 in
theorem w_hears : about1.hears theMethod below0 = true := by decide +kernel
set_option maxRecDepth 65536 in
theorem w_ripe : about1.ripe theMethod args0 below0 = true := by decide +kernel
theorem w_running : about1.status = .running := rfl
set_option maxRecDepth 65536 in
theorem w_room : about1.hasRoom e0.platform room_1 = true :=
  launch0.hasRoom_least _ room_1 (by decide +kernel) (by decide +kernel) (by decide +kernel) (by decide +kernel) (by decide +kernel) (by decide +kernel)
theorem allAtoms_all (ts : List Jvm.Cond) (a : Array Jvm.Value) (st : Jvm.State) : (allAtoms ts).before a st = ts.all (fun c => c.before a st) := by
  induction ts with
  | nil => rfl
  | cons c t ih =>
    show (Jvm.Cond.and c (allAtoms t)).before a st = _
    rw [Jvm.Cond.before_and, ih, List.all_cons]
def words1 : List Jvm.Cond := Jvm.Cond.code x code maxLocals ret :: tables_1
/-- a 'code' word, met by the world's own term for the bytes: nothing is compared byte by byte -/
theorem code_word {y : MethodName} {bytes : ByteArray} {mx : Nat} {rt : Option FieldType} {a : Array Value} {s : State} {m : MethodId} {meth : Method} {c : Code} (h1 : s.methodNamed? y = some m) (h2 : s.vm.method? m = some meth) (h3 : meth.code = some c) (h4 : c.code = bytes)
    (h5 : (c.maxLocals == mx && c.exceptionTable.isEmpty && decide (c.maxStack ≤ mostOperands) && decide (meth.sig.returnType = rt) && !meth.locks && decide (parseMethodDescriptor y.desc = some meth.sig)) = true) : (Jvm.Cond.code y bytes mx rt).before a s = true := by
  simp only [Bool.and_eq_true, beq_iff_eq, Bool.not_eq_true', decide_eq_true_eq] at h5
  obtain ⟨⟨⟨⟨⟨g1, g2⟩, g3⟩, g4⟩, g5⟩, g6⟩ := h5
  simp [Cond.before, Cond.holds, Cond.value, h1, h2, h3, h4, g1, g2, g3, g4, g5, g6]
def isCode : Jvm.Cond → Bool
  | .code _ _ _ _ => true
  | _ => false
theorem all_split {L : List Jvm.Cond} {P : Jvm.Cond → Bool} (h1 : L.all (fun c => isCode c || P c) = true) (h2 : ∀ c ∈ L.filter isCode, P c = true) : L.all P = true := by
  refine List.all_eq_true.mpr fun c hc => ?_
  have h := List.all_eq_true.mp h1 c hc
  rcases Bool.eq_false_or_eq_true (isCode c) with hi | hi
  · exact h2 c (List.mem_filter.mpr ⟨hc, hi⟩)
  · simpa [hi] using h
set_option maxRecDepth 65536 in
theorem w_c0 : (Jvm.Cond.code x code maxLocals ret).before args0 about1 = true := code_word (m := ⟨1, 2⟩) (meth := k1m2) (c := k1c2) (by decide +kernel) rfl rfl rfl (by decide +kernel)
set_option maxRecDepth 65536 in
theorem w_c1 : (Jvm.Cond.code ({ cls := "com/example/copse/copse/tree/NodeLabelIsAncestorOfPinLaw", name := "upTo", desc := "(JJ)J" } : Jvm.MethodName) method_2_code (6 : Nat) (Option.some Jvm.ClassFile.FieldType.long)).before args0 about1 = true := code_word (m := ⟨1, 1⟩) (meth := k1m1) (c := k1c1) (by decide +kernel) rfl rfl rfl (by decide +kernel)
set_option maxRecDepth 65536 in
theorem w_c2 : (Jvm.Cond.code ({ cls := "com/example/copse/copse/tree/NodeLabel", name := "<init>", desc := "(JJI)V" } : Jvm.MethodName) prog_40_method_1_code (6 : Nat) (Option.none : Option Jvm.ClassFile.FieldType)).before args0 about1 = true := code_word (m := ⟨4, 0⟩) (meth := k4m0) (c := k4c0) (by decide +kernel) rfl rfl rfl (by decide +kernel)
set_option maxRecDepth 65536 in
theorem w_c3 : (Jvm.Cond.code ({ cls := "java/lang/Record", name := "<init>", desc := "()V" } : Jvm.MethodName) jdk_30_method_1_code (1 : Nat) (Option.none : Option Jvm.ClassFile.FieldType)).before args0 about1 = true := code_word (m := ⟨2, 0⟩) (meth := k2m0) (c := k2c0) (by decide +kernel) rfl rfl rfl (by decide +kernel)
set_option maxRecDepth 65536 in
theorem w_c4 : (Jvm.Cond.code ({ cls := "java/lang/Object", name := "<init>", desc := "()V" } : Jvm.MethodName) object_method_1_code (1 : Nat) (Option.none : Option Jvm.ClassFile.FieldType)).before args0 about1 = true := code_word (m := ⟨0, 0⟩) (meth := k0m0) (c := k0c0) (by decide +kernel) rfl rfl rfl (by decide +kernel)
set_option maxRecDepth 65536 in
theorem w_c5 : (Jvm.Cond.code ({ cls := "com/example/copse/copse/tree/NodeLabel", name := "isAncestorOf", desc := "(Lcom/example/copse/copse/tree/NodeLabel;)Z" } : Jvm.MethodName) prog_40_method_2_code (2 : Nat) (Option.some Jvm.ClassFile.FieldType.boolean)).before args0 about1 = true := code_word (m := ⟨4, 1⟩) (meth := k4m1) (c := k4c1) (by decide +kernel) rfl rfl rfl (by decide +kernel)
def codes1 : List Jvm.Cond := [Jvm.Cond.code x code maxLocals ret, Jvm.Cond.code ({ cls := "com/example/copse/copse/tree/NodeLabelIsAncestorOfPinLaw", name := "upTo", desc := "(JJ)J" } : Jvm.MethodName) method_2_code (6 : Nat) (Option.some Jvm.ClassFile.FieldType.long), Jvm.Cond.code ({ cls := "com/example/copse/copse/tree/NodeLabel", name := "<init>", desc := "(JJI)V" } : Jvm.MethodName) prog_40_method_1_code (6 : Nat) (Option.none : Option Jvm.ClassFile.FieldType), Jvm.Cond.code ({ cls := "java/lang/Record", name := "<init>", desc := "()V" } : Jvm.MethodName) jdk_30_method_1_code (1 : Nat) (Option.none : Option Jvm.ClassFile.FieldType), Jvm.Cond.code ({ cls := "java/lang/Object", name := "<init>", desc := "()V" } : Jvm.MethodName) object_method_1_code (1 : Nat) (Option.none : Option Jvm.ClassFile.FieldType), Jvm.Cond.code ({ cls := "com/example/copse/copse/tree/NodeLabel", name := "isAncestorOf", desc := "(Lcom/example/copse/copse/tree/NodeLabel;)Z" } : Jvm.MethodName) prog_40_method_2_code (2 : Nat) (Option.some Jvm.ClassFile.FieldType.boolean)]
set_option maxRecDepth 65536 in
theorem codes_eq : words1.filter isCode = codes1 := rfl
theorem w_codes : ∀ c ∈ words1.filter isCode, c.before args0 about1 = true := by
  rw [codes_eq]
  intro c hc
  simp only [codes1, List.mem_cons, List.not_mem_nil, or_false] at hc
  rcases hc with rfl | rfl | rfl | rfl | rfl | rfl
  · exact w_c0
  · exact w_c1
  · exact w_c2
  · exact w_c3
  · exact w_c4
  · exact w_c5
set_option maxRecDepth 65536 in
theorem w_t1 : (words1.take 24).all (fun c => isCode c || c.before args0 about1) = true := by decide +kernel
set_option maxRecDepth 65536 in
theorem w_t2 : (words1.drop 24).all (fun c => isCode c || c.before args0 about1) = true := by decide +kernel
theorem w_tables : (allAtoms (Jvm.Cond.code x code maxLocals ret :: tables_1)).before args0 about1 = true := by
  rw [allAtoms_all]
  show words1.all (fun c => c.before args0 about1) = true
  refine all_split ?_ w_codes
  rw [← List.take_append_drop 24 words1, List.all_append, w_t1, w_t2]
  rfl
set_option maxRecDepth 65536 in
theorem w_case : (Jvm.Cond.and given_1 narrow_1).before args0 about1 = true := by decide +kernel
theorem w_applies : (headSpec (Jvm.Cond.code x code maxLocals ret :: tables_1) room_1).applies x e0.platform about1 = true :=
  (Spec.applies_iff w_frames).mpr ⟨w_running, w_runnable, w_alone, w_named, w_hears, w_ripe, w_room, w_tables⟩
theorem atStart : AtStart classFile x code maxLocals ret World_1 tables_1 room_1 Calls_1 rest_1 Pre_1 launch0 p0 e0 about1 theMethod args0 below0 :=
  ⟨lists_1, trivial, launch0.admits_env _ _ _, launch0.least_env, fairChoices_fair.cas, fairChoices_fair.clock, w_frames, w_args, w_heap, w_applies, trivial, trivial, w_case⟩
end start1
theorem witness_1 : WitnessClaimed_1 := ⟨start1.p0, start1.e0, start1.about1, start1.theMethod, start1.args0, start1.below0, start1.atStart⟩
end Jvm.Pilot.@@N@@
