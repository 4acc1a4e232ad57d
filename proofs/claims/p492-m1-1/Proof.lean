import JvmDerived
import JvmDerived.Pilot.@@N@@Statement
import JvmDerived.Pilot.@@N@@Code
set_option linter.unusedVariables false
set_option linter.unusedSimpArgs false
namespace Jvm.RoadKit
open Sem ClassFile Op Lib Jvm.Stand Jvm.Free Jvm.LawKit
section New
variable {p : Program} {l : Launch} {e : Env} {R : Room} {s : State} {m : MethodId} {args : Array Value} {below : List Frame} {meth : Method} {c : Code} {T : State} {locs : List Loc} {cells slots : Nat}
theorem retI (X : Stand p l e R s m args below meth c T locs cells slots) (hx : p.tables.exec = Jvm.exec) {pc : Nat} {Ls : Array Slot} {z : Int32} {rest : List Value} (hret : meth.sig.returnType = some .int) (hd : decode c.code pc = .ok (.ireturn, 1)) {fs : List Frame}
    (hl : ∀ (f : JFrame) (acts : List Action), f.method = m → f.locked = none → f.entered = [] → (doReturn e (T.setTop f) acts (some (.int z))).1 = T.setFrames fs) : Steps p.tables e below (T.setTop (mkF m pc Ls (.int z :: rest))) (T.setFrames fs) := by
  have hm' : T.vm.method? m = some meth := X.method'
  have hn : narrow .int (.int z) = .int z := rfl
  show Steps p.tables e below (T.setTop { method := m, pc := pc, locals := Ls, stack := _ :: rest, locked := none }) _
  jvm_step X.here [X.here.top, hx, hd, hm', hret, hn]
  first | (intro acts; rw [hl _ acts rfl rfl rfl]) | rw [hl _ _ rfl rfl rfl]
  exact Steps.refl _
end New
end Jvm.RoadKit
namespace Jvm.Pilot.@@N@@
open Jvm Jvm.ClassFile Sem Op Lib Jvm.Free Jvm.Stand Jvm.LawKit Jvm.RoadKit Bundle Jvm.Pilot.@@N@@.Jvm.D

def own_num (p1 : Int32) (wI wD wB : Addr) : Addr := if ((p1 &&& (2147483647 : Int32)) - ((p1 &&& (2147483647 : Int32)) / (3 : Int32)) * (3 : Int32)) = (0 : Int32) then wI else if ((p1 &&& (2147483647 : Int32)) - ((p1 &&& (2147483647 : Int32)) / (3 : Int32)) * (3 : Int32)) = (1 : Int32) then wD else wB
theorem d1_0 : decode method_2_code 0 = .ok (.iload_n 0, 1) := by decide +kernel
theorem d1_1 : decode method_2_code 1 = .ok (.ldc 7, 2) := by decide +kernel
theorem d1_3 : decode method_2_code 3 = .ok (.iand, 1) := by decide +kernel
theorem d1_4 : decode method_2_code 4 = .ok (.iconst 3, 1) := by decide +kernel
theorem d1_5 : decode method_2_code 5 = .ok (.irem, 1) := by decide +kernel
theorem d1_6 : decode method_2_code 6 = .ok (.istore_n 1, 1) := by decide +kernel
theorem d1_7 : decode method_2_code 7 = .ok (.iload_n 1, 1) := by decide +kernel
theorem d1_8 : decode method_2_code 8 = .ok (.ifCond .ne 7, 3) := by decide +kernel
theorem d1_11 : decode method_2_code 11 = .ok (.getstatic 8, 3) := by decide +kernel
theorem d1_14 : decode method_2_code 14 = .ok (.areturn, 1) := by decide +kernel
theorem d1_15 : decode method_2_code 15 = .ok (.iload_n 1, 1) := by decide +kernel
theorem d1_16 : decode method_2_code 16 = .ok (.iconst 1, 1) := by decide +kernel
theorem d1_17 : decode method_2_code 17 = .ok (.if_icmp .ne 7, 3) := by decide +kernel
theorem d1_20 : decode method_2_code 20 = .ok (.getstatic 14, 3) := by decide +kernel
theorem d1_23 : decode method_2_code 23 = .ok (.areturn, 1) := by decide +kernel
theorem d1_24 : decode method_2_code 24 = .ok (.getstatic 17, 3) := by decide +kernel
theorem d1_27 : decode method_2_code 27 = .ok (.areturn, 1) := by decide +kernel
theorem pn_0 : plainName "com/example/copse/copse/query/TypePromotionPinLaw" = true := by first | (simp [plainName, overriddenIn]; done) | decide +kernel
theorem ef_rm1 (m : MethodId) (x0 : Int32) : entryFrame m #[(.int x0)] 2 = mkF m 0 #[.val (.int x0), .unset] [] := by first | (simp [entryFrame, mkF, argsToLocals, Value.category]; done) | rfl
def Q_rm1 (Z : State) (p1 : Int32) (wI : Addr) (wD : Addr) (wB : Addr) (h0 : Heap) (n0 : Nat) (v : Option Value) (h : Heap) (L : List Loc) : Prop := v = some (.ref (own_num p1 wI wD wB)) ∧ Fr n0 L ∧ h = h0
set_option maxRecDepth 65536 in
set_option maxHeartbeats 40000000 in
theorem rm1 (l : Launch) (Z : State) (a0 : Array Value) (hw : ∀ d ∈ tables_1, d.before a0 Z = true) (ws : List Jvm.Cond) (p1 : Int32) (wI : Addr) (wD : Addr) (wB : Addr) (h0 : Heap) (n0 : Nat) (Z0 : n0 ≤ h0.size) (O0 : Old Z n0 h0) (SI : Sta Z Z.heap "com/example/copse/copse/query/AtomicValue$Type" "INTEGER" "Lcom/example/copse/copse/query/AtomicValue$Type;" (.ref wI)) (SD : Sta Z Z.heap "com/example/copse/copse/query/AtomicValue$Type" "DECIMAL" "Lcom/example/copse/copse/query/AtomicValue$Type;" (.ref wD)) (SB : Sta Z Z.heap "com/example/copse/copse/query/AtomicValue$Type" "DOUBLE" "Lcom/example/copse/copse/query/AtomicValue$Type;" (.ref wB)) :
    MetFree l (⟨"com/example/copse/copse/query/TypePromotionPinLaw", "numeric", "(I)Lcom/example/copse/copse/query/AtomicValue$Type;"⟩ : MethodName) (head1 (Jvm.Cond.code (⟨"com/example/copse/copse/query/TypePromotionPinLaw", "numeric", "(I)Lcom/example/copse/copse/query/AtomicValue$Type;"⟩ : MethodName) method_2_code 2 (some (.object "com/example/copse/copse/query/AtomicValue$Type")) :: ws) ({ frames := 0, cells := 0, slots := 0, locals := 0 } : Room)) (fun a U => a = #[(.int p1)] ∧ Z.Warmed39 U.vm ∧ U.heap = h0) (fun _ _ _ _ _ => True) (fun _ U o U' => ∃ v L, o = .returned v ∧ Q_rm1 Z p1 wI wD wB h0 n0 v U'.heap L ∧ FrameEnd U o U' L ({ frames := 0, cells := 0, slots := 0, locals := 0 } : Room).cells ({ frames := 0, cells := 0, slots := 0, locals := 0 } : Room).slots) := by
  refine MetFree.of_bodySF (plainFor_of_name pn_0) hisR ?_
  intro p e s m args below meth c s₁ Bd hml0 hP hK
  obtain ⟨rfl, hZ, hh⟩ := hP
  have hx := Bd.exec
  have hby := Bd.bytes
  have hml : c.maxLocals = 2 := hml0
  have hown : s.vm.findClass "com/example/copse/copse/query/TypePromotionPinLaw" = some m.cls := findClass_of_methodNamed Bd.named
  have hnm := (name_of_methodNamed Bd.named Bd.method).1
  have X0 : Stand p l e ({ frames := 0, cells := 0, slots := 0, locals := 0 } : Room) s m #[(.int p1)] below meth c s₁ [] 0 0 := Stand.of_body Bd
  have e0 : s₁.heap = h0 := by rw [← hh, Bd.state]; rfl
  have N0 := Fr.nil n0
  have pre0 : ∀ t, Steps p.tables e below (s₁.setTop (mkF m 0 #[.val (.int p1), .unset] [])) t → Steps p.tables e below (s₁.setTop (entryFrame m #[(.int p1)] 2)) t := fun t k => castTop (ef_rm1 m p1) k
  have pre1 : ∀ t, Steps p.tables e below (s₁.setTop (mkF m 8 #[.val (.int p1), .val (.int ((p1 &&& (2147483647 : Int32)) - ((p1 &&& (2147483647 : Int32)) / (3 : Int32)) * (3 : Int32)))] [(.int ((p1 &&& (2147483647 : Int32)) - ((p1 &&& (2147483647 : Int32)) / (3 : Int32)) * (3 : Int32)))])) t → Steps p.tables e below (s₁.setTop (entryFrame m #[(.int p1)] 2)) t := by
    intro t k
    refine pre0 t ?_
    refine XS.iloadN X0.here hx rfl (hb hby d1_0) rfl ?_
    show Steps _ _ _ (s₁.setTop (mkF m 1 #[.val (.int p1), .unset] [(.int p1)])) _
    refine X0.ldcInt hx hown (mvT hZ (hw _ (List.mem_of_getElem? (i := 4) rfl))) (g := (mkF m 1 #[.val (.int p1), .unset] [(.int p1)])) rfl (hb hby d1_1) _ ?_
    show Steps _ _ _ (s₁.setTop (mkF m 3 #[.val (.int p1), .unset] [(.int (2147483647 : Int32)), (.int p1)])) _
    refine XS.iand X0.here hx rfl (hb hby d1_3) rfl ?_
    show Steps _ _ _ (s₁.setTop (mkF m 4 #[.val (.int p1), .unset] [(.int (p1 &&& (2147483647 : Int32)))])) _
    refine XS.iconst X0.here hx rfl (hb hby d1_4) ?_
    show Steps _ _ _ (s₁.setTop (mkF m 5 #[.val (.int p1), .unset] [(.int (3 : Int32)), (.int (p1 &&& (2147483647 : Int32)))])) _
    refine XS.irem X0.here hx rfl (hb hby d1_5) rfl (by decide) ?_
    show Steps _ _ _ (s₁.setTop (mkF m 6 #[.val (.int p1), .unset] [(.int ((p1 &&& (2147483647 : Int32)) - ((p1 &&& (2147483647 : Int32)) / (3 : Int32)) * (3 : Int32)))])) _
    refine XS.istoreN X0.here hx rfl (hb hby d1_6) rfl (l' := #[.val (.int p1), .val (.int ((p1 &&& (2147483647 : Int32)) - ((p1 &&& (2147483647 : Int32)) / (3 : Int32)) * (3 : Int32)))]) rfl ?_
    show Steps _ _ _ (s₁.setTop (mkF m 7 #[.val (.int p1), .val (.int ((p1 &&& (2147483647 : Int32)) - ((p1 &&& (2147483647 : Int32)) / (3 : Int32)) * (3 : Int32)))] [])) _
    refine XS.iloadN X0.here hx rfl (hb hby d1_7) rfl ?_
    show Steps _ _ _ (s₁.setTop (mkF m 8 #[.val (.int p1), .val (.int ((p1 &&& (2147483647 : Int32)) - ((p1 &&& (2147483647 : Int32)) / (3 : Int32)) * (3 : Int32)))] [(.int ((p1 &&& (2147483647 : Int32)) - ((p1 &&& (2147483647 : Int32)) / (3 : Int32)) * (3 : Int32)))])) _
    exact k
  by_cases hc2 : ((p1 &&& (2147483647 : Int32)) - ((p1 &&& (2147483647 : Int32)) / (3 : Int32)) * (3 : Int32)) = (0 : Int32)
  · obtain ⟨T3, X3, e3, st3⟩ := getS2 X0 hx hZ hown (host := "") (Or.inl (hw _ (List.mem_of_getElem? (i := 5) rfl))) Via.refl e0 (SI.ext O0.2) (g := (mkF m 11 #[.val (.int p1), .val (.int ((p1 &&& (2147483647 : Int32)) - ((p1 &&& (2147483647 : Int32)) / (3 : Int32)) * (3 : Int32)))] [])) rfl (hb hby d1_11)
    have pre4 : ∀ t, Steps p.tables e below (T3.setTop (mkF m 14 #[.val (.int p1), .val (.int ((p1 &&& (2147483647 : Int32)) - ((p1 &&& (2147483647 : Int32)) / (3 : Int32)) * (3 : Int32)))] [(.ref wI)])) t → Steps p.tables e below (s₁.setTop (entryFrame m #[(.int p1)] 2)) t := by
      intro t k
      refine pre1 t ?_
      refine XS.ifNo X0.here hx rfl (hb hby d1_8) rfl ((if0 _ _).trans (teq hc2).2) ?_
      show Steps _ _ _ (s₁.setTop (mkF m 11 #[.val (.int p1), .val (.int ((p1 &&& (2147483647 : Int32)) - ((p1 &&& (2147483647 : Int32)) / (3 : Int32)) * (3 : Int32)))] [])) _
      refine st3 _ ?_
      show Steps _ _ _ (T3.setTop (mkF m 14 #[.val (.int p1), .val (.int ((p1 &&& (2147483647 : Int32)) - ((p1 &&& (2147483647 : Int32)) / (3 : Int32)) * (3 : Int32)))] [(.ref wI)])) _
      exact k
    obtain ⟨fs, hr, hrun, hended, hW, hsame⟩ := X3.leave (v := some (.ref wI)) (fun h => by rw [Bd.returns] at h; cases h)
    refine ⟨_, _, pre4 _ ?_, hrun, hended, _, _, rfl, ?_, ⟨_, rfl⟩, hW, hsame.mono (by decide) (by decide)⟩
    · exact X3.areturnOut hx (w := (.ref wI)) rfl Bd.returns rfl (hb hby d1_14) hr
    · show Q_rm1 Z p1 wI wD wB h0 n0 _ T3.heap _
      rw [e3]
      have hv5 : wI = (own_num p1 wI wD wB) := by unfold own_num; simp only [if_pos hc2]
      exact ⟨(congrArg (fun z => some (Value.ref z)) hv5), N0, rfl⟩
  · have pre6 : ∀ t, Steps p.tables e below (s₁.setTop (mkF m 17 #[.val (.int p1), .val (.int ((p1 &&& (2147483647 : Int32)) - ((p1 &&& (2147483647 : Int32)) / (3 : Int32)) * (3 : Int32)))] [(.int (1 : Int32)), (.int ((p1 &&& (2147483647 : Int32)) - ((p1 &&& (2147483647 : Int32)) / (3 : Int32)) * (3 : Int32)))])) t → Steps p.tables e below (s₁.setTop (entryFrame m #[(.int p1)] 2)) t := by
      intro t k
      refine pre1 t ?_
      refine XS.ifYes X0.here hx rfl (pc0 := 8) (pc' := 15) rfl (hb hby d1_8) rfl ((if0 _ _).trans (feq hc2).2) (by decide) (by decide) ?_
      show Steps _ _ _ (s₁.setTop (mkF m 15 #[.val (.int p1), .val (.int ((p1 &&& (2147483647 : Int32)) - ((p1 &&& (2147483647 : Int32)) / (3 : Int32)) * (3 : Int32)))] [])) _
      refine XS.iloadN X0.here hx rfl (hb hby d1_15) rfl ?_
      show Steps _ _ _ (s₁.setTop (mkF m 16 #[.val (.int p1), .val (.int ((p1 &&& (2147483647 : Int32)) - ((p1 &&& (2147483647 : Int32)) / (3 : Int32)) * (3 : Int32)))] [(.int ((p1 &&& (2147483647 : Int32)) - ((p1 &&& (2147483647 : Int32)) / (3 : Int32)) * (3 : Int32)))])) _
      refine XS.iconst X0.here hx rfl (hb hby d1_16) ?_
      show Steps _ _ _ (s₁.setTop (mkF m 17 #[.val (.int p1), .val (.int ((p1 &&& (2147483647 : Int32)) - ((p1 &&& (2147483647 : Int32)) / (3 : Int32)) * (3 : Int32)))] [(.int (1 : Int32)), (.int ((p1 &&& (2147483647 : Int32)) - ((p1 &&& (2147483647 : Int32)) / (3 : Int32)) * (3 : Int32)))])) _
      exact k
    by_cases hc7 : ((p1 &&& (2147483647 : Int32)) - ((p1 &&& (2147483647 : Int32)) / (3 : Int32)) * (3 : Int32)) = (1 : Int32)
    · obtain ⟨T8, X8, e8, st8⟩ := getS2 X0 hx hZ hown (host := "") (Or.inl (hw _ (List.mem_of_getElem? (i := 24) rfl))) Via.refl e0 (SD.ext O0.2) (g := (mkF m 20 #[.val (.int p1), .val (.int ((p1 &&& (2147483647 : Int32)) - ((p1 &&& (2147483647 : Int32)) / (3 : Int32)) * (3 : Int32)))] [])) rfl (hb hby d1_20)
      have pre9 : ∀ t, Steps p.tables e below (T8.setTop (mkF m 23 #[.val (.int p1), .val (.int ((p1 &&& (2147483647 : Int32)) - ((p1 &&& (2147483647 : Int32)) / (3 : Int32)) * (3 : Int32)))] [(.ref wD)])) t → Steps p.tables e below (s₁.setTop (entryFrame m #[(.int p1)] 2)) t := by
        intro t k
        refine pre6 t ?_
        refine XS.icmpNo X0.here hx rfl (hb hby d1_17) rfl (teq hc7).2 ?_
        show Steps _ _ _ (s₁.setTop (mkF m 20 #[.val (.int p1), .val (.int ((p1 &&& (2147483647 : Int32)) - ((p1 &&& (2147483647 : Int32)) / (3 : Int32)) * (3 : Int32)))] [])) _
        refine st8 _ ?_
        show Steps _ _ _ (T8.setTop (mkF m 23 #[.val (.int p1), .val (.int ((p1 &&& (2147483647 : Int32)) - ((p1 &&& (2147483647 : Int32)) / (3 : Int32)) * (3 : Int32)))] [(.ref wD)])) _
        exact k
      obtain ⟨fs, hr, hrun, hended, hW, hsame⟩ := X8.leave (v := some (.ref wD)) (fun h => by rw [Bd.returns] at h; cases h)
      refine ⟨_, _, pre9 _ ?_, hrun, hended, _, _, rfl, ?_, ⟨_, rfl⟩, hW, hsame.mono (by decide) (by decide)⟩
      · exact X8.areturnOut hx (w := (.ref wD)) rfl Bd.returns rfl (hb hby d1_23) hr
      · show Q_rm1 Z p1 wI wD wB h0 n0 _ T8.heap _
        rw [e8]
        have hv10 : wD = (own_num p1 wI wD wB) := by unfold own_num; simp only [if_neg hc2, if_pos hc7]
        exact ⟨(congrArg (fun z => some (Value.ref z)) hv10), N0, rfl⟩
    · obtain ⟨T11, X11, e11, st11⟩ := getS2 X0 hx hZ hown (host := "") (Or.inl (hw _ (List.mem_of_getElem? (i := 23) rfl))) Via.refl e0 (SB.ext O0.2) (g := (mkF m 24 #[.val (.int p1), .val (.int ((p1 &&& (2147483647 : Int32)) - ((p1 &&& (2147483647 : Int32)) / (3 : Int32)) * (3 : Int32)))] [])) rfl (hb hby d1_24)
      have pre12 : ∀ t, Steps p.tables e below (T11.setTop (mkF m 27 #[.val (.int p1), .val (.int ((p1 &&& (2147483647 : Int32)) - ((p1 &&& (2147483647 : Int32)) / (3 : Int32)) * (3 : Int32)))] [(.ref wB)])) t → Steps p.tables e below (s₁.setTop (entryFrame m #[(.int p1)] 2)) t := by
        intro t k
        refine pre6 t ?_
        refine XS.icmpYes X0.here hx rfl (pc0 := 17) (pc' := 24) rfl (hb hby d1_17) rfl (feq hc7).2 (by decide) (by decide) ?_
        show Steps _ _ _ (s₁.setTop (mkF m 24 #[.val (.int p1), .val (.int ((p1 &&& (2147483647 : Int32)) - ((p1 &&& (2147483647 : Int32)) / (3 : Int32)) * (3 : Int32)))] [])) _
        refine st11 _ ?_
        show Steps _ _ _ (T11.setTop (mkF m 27 #[.val (.int p1), .val (.int ((p1 &&& (2147483647 : Int32)) - ((p1 &&& (2147483647 : Int32)) / (3 : Int32)) * (3 : Int32)))] [(.ref wB)])) _
        exact k
      obtain ⟨fs, hr, hrun, hended, hW, hsame⟩ := X11.leave (v := some (.ref wB)) (fun h => by rw [Bd.returns] at h; cases h)
      refine ⟨_, _, pre12 _ ?_, hrun, hended, _, _, rfl, ?_, ⟨_, rfl⟩, hW, hsame.mono (by decide) (by decide)⟩
      · exact X11.areturnOut hx (w := (.ref wB)) rfl Bd.returns rfl (hb hby d1_27) hr
      · show Q_rm1 Z p1 wI wD wB h0 n0 _ T11.heap _
        rw [e11]
        have hv13 : wB = (own_num p1 wI wD wB) := by unfold own_num; simp only [if_neg hc2, if_neg hc7]
        exact ⟨(congrArg (fun z => some (Value.ref z)) hv13), N0, rfl⟩
def own_pro (a1 a2 wI wD wB : Addr) : Addr := if a1 = wB then wB else if a2 = wB then wB else if a1 = wD then wD else if a2 = wD then wD else wI
theorem d2_0 : decode prog_10_method_6_code 0 = .ok (.aload_n 0, 1) := by decide +kernel
theorem d2_1 : decode prog_10_method_6_code 1 = .ok (.getstatic 19, 3) := by decide +kernel
theorem d2_4 : decode prog_10_method_6_code 4 = .ok (.if_acmp .eq 10, 3) := by decide +kernel
theorem d2_14 : decode prog_10_method_6_code 14 = .ok (.getstatic 19, 3) := by decide +kernel
theorem d2_17 : decode prog_10_method_6_code 17 = .ok (.astore_n 2, 1) := by decide +kernel
theorem d2_18 : decode prog_10_method_6_code 18 = .ok (.goto 28, 3) := by decide +kernel
theorem d2_46 : decode prog_10_method_6_code 46 = .ok (.aload_n 2, 1) := by decide +kernel
theorem d2_47 : decode prog_10_method_6_code 47 = .ok (.areturn, 1) := by decide +kernel
theorem d2_7 : decode prog_10_method_6_code 7 = .ok (.aload_n 1, 1) := by decide +kernel
theorem d2_8 : decode prog_10_method_6_code 8 = .ok (.getstatic 19, 3) := by decide +kernel
theorem d2_11 : decode prog_10_method_6_code 11 = .ok (.if_acmp .ne 10, 3) := by decide +kernel
theorem d2_21 : decode prog_10_method_6_code 21 = .ok (.aload_n 0, 1) := by decide +kernel
theorem d2_22 : decode prog_10_method_6_code 22 = .ok (.getstatic 16, 3) := by decide +kernel
theorem d2_25 : decode prog_10_method_6_code 25 = .ok (.if_acmp .eq 10, 3) := by decide +kernel
theorem d2_35 : decode prog_10_method_6_code 35 = .ok (.getstatic 16, 3) := by decide +kernel
theorem d2_38 : decode prog_10_method_6_code 38 = .ok (.astore_n 2, 1) := by decide +kernel
theorem d2_39 : decode prog_10_method_6_code 39 = .ok (.goto 7, 3) := by decide +kernel
theorem d2_28 : decode prog_10_method_6_code 28 = .ok (.aload_n 1, 1) := by decide +kernel
theorem d2_29 : decode prog_10_method_6_code 29 = .ok (.getstatic 16, 3) := by decide +kernel
theorem d2_32 : decode prog_10_method_6_code 32 = .ok (.if_acmp .ne 10, 3) := by decide +kernel
theorem d2_42 : decode prog_10_method_6_code 42 = .ok (.getstatic 13, 3) := by decide +kernel
theorem d2_45 : decode prog_10_method_6_code 45 = .ok (.astore_n 2, 1) := by decide +kernel
theorem pn_1 : plainName "com/example/copse/copse/query/AtomicValue$Type" = true := by first | (simp [plainName, overriddenIn]; done) | decide +kernel
theorem ef_rm2 (m : MethodId) (x0 : Addr) (x1 : Addr) : entryFrame m #[(.ref x0), (.ref x1)] 3 = mkF m 0 #[.val (.ref x0), .val (.ref x1), .unset] [] := by first | (simp [entryFrame, mkF, argsToLocals, Value.category]; done) | rfl
def Q_rm2 (Z : State) (a1 : Addr) (a2 : Addr) (wI : Addr) (wD : Addr) (wB : Addr) (h0 : Heap) (n0 : Nat) (v : Option Value) (h : Heap) (L : List Loc) : Prop := v = some (.ref (own_pro a1 a2 wI wD wB)) ∧ Fr n0 L ∧ h = h0
set_option maxRecDepth 65536 in
set_option maxHeartbeats 40000000 in
theorem rm2 (l : Launch) (Z : State) (a0 : Array Value) (hw : ∀ d ∈ tables_1, d.before a0 Z = true) (ws : List Jvm.Cond) (a1 : Addr) (a2 : Addr) (wI : Addr) (wD : Addr) (wB : Addr) (h0 : Heap) (n0 : Nat) (Z0 : n0 ≤ h0.size) (O0 : Old Z n0 h0) (SI : Sta Z Z.heap "com/example/copse/copse/query/AtomicValue$Type" "INTEGER" "Lcom/example/copse/copse/query/AtomicValue$Type;" (.ref wI)) (SD : Sta Z Z.heap "com/example/copse/copse/query/AtomicValue$Type" "DECIMAL" "Lcom/example/copse/copse/query/AtomicValue$Type;" (.ref wD)) (SB : Sta Z Z.heap "com/example/copse/copse/query/AtomicValue$Type" "DOUBLE" "Lcom/example/copse/copse/query/AtomicValue$Type;" (.ref wB)) :
    MetFree l (⟨"com/example/copse/copse/query/AtomicValue$Type", "promotion", "(Lcom/example/copse/copse/query/AtomicValue$Type;Lcom/example/copse/copse/query/AtomicValue$Type;)Lcom/example/copse/copse/query/AtomicValue$Type;"⟩ : MethodName) (head1 (Jvm.Cond.code (⟨"com/example/copse/copse/query/AtomicValue$Type", "promotion", "(Lcom/example/copse/copse/query/AtomicValue$Type;Lcom/example/copse/copse/query/AtomicValue$Type;)Lcom/example/copse/copse/query/AtomicValue$Type;"⟩ : MethodName) prog_10_method_6_code 3 (some (.object "com/example/copse/copse/query/AtomicValue$Type")) :: ws) ({ frames := 0, cells := 0, slots := 0, locals := 0 } : Room)) (fun a U => a = #[(.ref a1), (.ref a2)] ∧ Z.Warmed39 U.vm ∧ U.heap = h0) (fun _ _ _ _ _ => True) (fun _ U o U' => ∃ v L, o = .returned v ∧ Q_rm2 Z a1 a2 wI wD wB h0 n0 v U'.heap L ∧ FrameEnd U o U' L ({ frames := 0, cells := 0, slots := 0, locals := 0 } : Room).cells ({ frames := 0, cells := 0, slots := 0, locals := 0 } : Room).slots) := by
  refine MetFree.of_bodySF (plainFor_of_name pn_1) hisR ?_
  intro p e s m args below meth c s₁ Bd hml0 hP hK
  obtain ⟨rfl, hZ, hh⟩ := hP
  have hx := Bd.exec
  have hby := Bd.bytes
  have hml : c.maxLocals = 3 := hml0
  have hown : s.vm.findClass "com/example/copse/copse/query/AtomicValue$Type" = some m.cls := findClass_of_methodNamed Bd.named
  have hnm := (name_of_methodNamed Bd.named Bd.method).1
  have X0 : Stand p l e ({ frames := 0, cells := 0, slots := 0, locals := 0 } : Room) s m #[(.ref a1), (.ref a2)] below meth c s₁ [] 0 0 := Stand.of_body Bd
  have e0 : s₁.heap = h0 := by rw [← hh, Bd.state]; rfl
  have N0 := Fr.nil n0
  have pre0 : ∀ t, Steps p.tables e below (s₁.setTop (mkF m 0 #[.val (.ref a1), .val (.ref a2), .unset] [])) t → Steps p.tables e below (s₁.setTop (entryFrame m #[(.ref a1), (.ref a2)] 3)) t := fun t k => castTop (ef_rm2 m a1 a2) k
  obtain ⟨T1, X1, e1, st1⟩ := getS2 X0 hx hZ hown (host := "") (Or.inl (hw _ (List.mem_of_getElem? (i := 11) rfl))) Via.refl e0 (SB.ext O0.2) (g := (mkF m 1 #[.val (.ref a1), .val (.ref a2), .unset] [(.ref a1)])) rfl (hb hby d2_1)
  have pre2 : ∀ t, Steps p.tables e below (T1.setTop (mkF m 4 #[.val (.ref a1), .val (.ref a2), .unset] [(.ref wB), (.ref a1)])) t → Steps p.tables e below (s₁.setTop (entryFrame m #[(.ref a1), (.ref a2)] 3)) t := by
    intro t k
    refine pre0 t ?_
    refine XS.aloadN X0.here hx rfl (hb hby d2_0) rfl rfl ?_
    show Steps _ _ _ (s₁.setTop (mkF m 1 #[.val (.ref a1), .val (.ref a2), .unset] [(.ref a1)])) _
    refine st1 _ ?_
    show Steps _ _ _ (T1.setTop (mkF m 4 #[.val (.ref a1), .val (.ref a2), .unset] [(.ref wB), (.ref a1)])) _
    exact k
  by_cases hc3 : a1 = wB
  · obtain ⟨T4, X4, e4, st4⟩ := getS2 X1 hx hZ hown (host := "") (Or.inl (hw _ (List.mem_of_getElem? (i := 11) rfl))) Via.refl e1 (SB.ext O0.2) (g := (mkF m 14 #[.val (.ref a1), .val (.ref a2), .unset] [])) rfl (hb hby d2_14)
    have pre5 : ∀ t, Steps p.tables e below (T4.setTop (mkF m 47 #[.val (.ref a1), .val (.ref a2), .val (.ref wB)] [(.ref wB)])) t → Steps p.tables e below (s₁.setTop (entryFrame m #[(.ref a1), (.ref a2)] 3)) t := by
      intro t k
      refine pre2 t ?_
      refine Jvm.RoadKit.acmp (g := (mkF m 4 #[.val (.ref a1), .val (.ref a2), .unset] [(.ref wB), (.ref a1)])) X1 hx rfl rfl rfl (pc0 := 4) (pc' := 14) (same := true) rfl (hb hby d2_4) rfl (decide_eq_true (congrArg Value.ref hc3)) (by decide) (by decide) ?_
      show Steps _ _ _ (T1.setTop (mkF m 14 #[.val (.ref a1), .val (.ref a2), .unset] [])) _
      refine st4 _ ?_
      show Steps _ _ _ (T4.setTop (mkF m 17 #[.val (.ref a1), .val (.ref a2), .unset] [(.ref wB)])) _
      refine XS.astoreN X4.here hx rfl (hb hby d2_17) rfl rfl (l' := #[.val (.ref a1), .val (.ref a2), .val (.ref wB)]) rfl ?_
      show Steps _ _ _ (T4.setTop (mkF m 18 #[.val (.ref a1), .val (.ref a2), .val (.ref wB)] [])) _
      refine XS.goto X4.here hx rfl (pc0 := 18) (pc' := 46) rfl (hb hby d2_18) (by decide) (by decide) ?_
      show Steps _ _ _ (T4.setTop (mkF m 46 #[.val (.ref a1), .val (.ref a2), .val (.ref wB)] [])) _
      refine XS.aloadN X4.here hx rfl (hb hby d2_46) rfl rfl ?_
      show Steps _ _ _ (T4.setTop (mkF m 47 #[.val (.ref a1), .val (.ref a2), .val (.ref wB)] [(.ref wB)])) _
      exact k
    obtain ⟨fs, hr, hrun, hended, hW, hsame⟩ := X4.leave (v := some (.ref wB)) (fun h => by rw [Bd.returns] at h; cases h)
    refine ⟨_, _, pre5 _ ?_, hrun, hended, _, _, rfl, ?_, ⟨_, rfl⟩, hW, hsame.mono (by decide) (by decide)⟩
    · exact X4.areturnOut hx (w := (.ref wB)) rfl Bd.returns rfl (hb hby d2_47) hr
    · show Q_rm2 Z a1 a2 wI wD wB h0 n0 _ T4.heap _
      rw [e4]
      have hv6 : wB = (own_pro a1 a2 wI wD wB) := by unfold own_pro; simp only [if_pos hc3]
      exact ⟨(congrArg (fun z => some (Value.ref z)) hv6), N0, rfl⟩
  · obtain ⟨T7, X7, e7, st7⟩ := getS2 X1 hx hZ hown (host := "") (Or.inl (hw _ (List.mem_of_getElem? (i := 11) rfl))) Via.refl e1 (SB.ext O0.2) (g := (mkF m 8 #[.val (.ref a1), .val (.ref a2), .unset] [(.ref a2)])) rfl (hb hby d2_8)
    have pre8 : ∀ t, Steps p.tables e below (T7.setTop (mkF m 11 #[.val (.ref a1), .val (.ref a2), .unset] [(.ref wB), (.ref a2)])) t → Steps p.tables e below (s₁.setTop (entryFrame m #[(.ref a1), (.ref a2)] 3)) t := by
      intro t k
      refine pre2 t ?_
      refine Jvm.RoadKit.acmp (g := (mkF m 4 #[.val (.ref a1), .val (.ref a2), .unset] [(.ref wB), (.ref a1)])) X1 hx rfl rfl rfl (pc0 := 4) (pc' := 7) (same := false) rfl (hb hby d2_4) rfl (decide_eq_false fun q => hc3 (Value.ref.inj q)) (by decide) (by decide) ?_
      show Steps _ _ _ (T1.setTop (mkF m 7 #[.val (.ref a1), .val (.ref a2), .unset] [])) _
      refine XS.aloadN X1.here hx rfl (hb hby d2_7) rfl rfl ?_
      show Steps _ _ _ (T1.setTop (mkF m 8 #[.val (.ref a1), .val (.ref a2), .unset] [(.ref a2)])) _
      refine st7 _ ?_
      show Steps _ _ _ (T7.setTop (mkF m 11 #[.val (.ref a1), .val (.ref a2), .unset] [(.ref wB), (.ref a2)])) _
      exact k
    by_cases hc9 : a2 = wB
    · obtain ⟨T10, X10, e10, st10⟩ := getS2 X7 hx hZ hown (host := "") (Or.inl (hw _ (List.mem_of_getElem? (i := 11) rfl))) Via.refl e7 (SB.ext O0.2) (g := (mkF m 14 #[.val (.ref a1), .val (.ref a2), .unset] [])) rfl (hb hby d2_14)
      have pre11 : ∀ t, Steps p.tables e below (T10.setTop (mkF m 47 #[.val (.ref a1), .val (.ref a2), .val (.ref wB)] [(.ref wB)])) t → Steps p.tables e below (s₁.setTop (entryFrame m #[(.ref a1), (.ref a2)] 3)) t := by
        intro t k
        refine pre8 t ?_
        refine Jvm.RoadKit.acmp (g := (mkF m 11 #[.val (.ref a1), .val (.ref a2), .unset] [(.ref wB), (.ref a2)])) X7 hx rfl rfl rfl (pc0 := 11) (pc' := 14) (same := true) rfl (hb hby d2_11) rfl (decide_eq_true (congrArg Value.ref hc9)) (by decide) (by decide) ?_
        show Steps _ _ _ (T7.setTop (mkF m 14 #[.val (.ref a1), .val (.ref a2), .unset] [])) _
        refine st10 _ ?_
        show Steps _ _ _ (T10.setTop (mkF m 17 #[.val (.ref a1), .val (.ref a2), .unset] [(.ref wB)])) _
        refine XS.astoreN X10.here hx rfl (hb hby d2_17) rfl rfl (l' := #[.val (.ref a1), .val (.ref a2), .val (.ref wB)]) rfl ?_
        show Steps _ _ _ (T10.setTop (mkF m 18 #[.val (.ref a1), .val (.ref a2), .val (.ref wB)] [])) _
        refine XS.goto X10.here hx rfl (pc0 := 18) (pc' := 46) rfl (hb hby d2_18) (by decide) (by decide) ?_
        show Steps _ _ _ (T10.setTop (mkF m 46 #[.val (.ref a1), .val (.ref a2), .val (.ref wB)] [])) _
        refine XS.aloadN X10.here hx rfl (hb hby d2_46) rfl rfl ?_
        show Steps _ _ _ (T10.setTop (mkF m 47 #[.val (.ref a1), .val (.ref a2), .val (.ref wB)] [(.ref wB)])) _
        exact k
      obtain ⟨fs, hr, hrun, hended, hW, hsame⟩ := X10.leave (v := some (.ref wB)) (fun h => by rw [Bd.returns] at h; cases h)
      refine ⟨_, _, pre11 _ ?_, hrun, hended, _, _, rfl, ?_, ⟨_, rfl⟩, hW, hsame.mono (by decide) (by decide)⟩
      · exact X10.areturnOut hx (w := (.ref wB)) rfl Bd.returns rfl (hb hby d2_47) hr
      · show Q_rm2 Z a1 a2 wI wD wB h0 n0 _ T10.heap _
        rw [e10]
        have hv12 : wB = (own_pro a1 a2 wI wD wB) := by unfold own_pro; simp only [if_neg hc3, if_pos hc9]
        exact ⟨(congrArg (fun z => some (Value.ref z)) hv12), N0, rfl⟩
    · obtain ⟨T13, X13, e13, st13⟩ := getS2 X7 hx hZ hown (host := "") (Or.inl (hw _ (List.mem_of_getElem? (i := 13) rfl))) Via.refl e7 (SD.ext O0.2) (g := (mkF m 22 #[.val (.ref a1), .val (.ref a2), .unset] [(.ref a1)])) rfl (hb hby d2_22)
      have pre14 : ∀ t, Steps p.tables e below (T13.setTop (mkF m 25 #[.val (.ref a1), .val (.ref a2), .unset] [(.ref wD), (.ref a1)])) t → Steps p.tables e below (s₁.setTop (entryFrame m #[(.ref a1), (.ref a2)] 3)) t := by
        intro t k
        refine pre8 t ?_
        refine Jvm.RoadKit.acmp (g := (mkF m 11 #[.val (.ref a1), .val (.ref a2), .unset] [(.ref wB), (.ref a2)])) X7 hx rfl rfl rfl (pc0 := 11) (pc' := 21) (same := false) rfl (hb hby d2_11) rfl (decide_eq_false fun q => hc9 (Value.ref.inj q)) (by decide) (by decide) ?_
        show Steps _ _ _ (T7.setTop (mkF m 21 #[.val (.ref a1), .val (.ref a2), .unset] [])) _
        refine XS.aloadN X7.here hx rfl (hb hby d2_21) rfl rfl ?_
        show Steps _ _ _ (T7.setTop (mkF m 22 #[.val (.ref a1), .val (.ref a2), .unset] [(.ref a1)])) _
        refine st13 _ ?_
        show Steps _ _ _ (T13.setTop (mkF m 25 #[.val (.ref a1), .val (.ref a2), .unset] [(.ref wD), (.ref a1)])) _
        exact k
      by_cases hc15 : a1 = wD
      · obtain ⟨T16, X16, e16, st16⟩ := getS2 X13 hx hZ hown (host := "") (Or.inl (hw _ (List.mem_of_getElem? (i := 13) rfl))) Via.refl e13 (SD.ext O0.2) (g := (mkF m 35 #[.val (.ref a1), .val (.ref a2), .unset] [])) rfl (hb hby d2_35)
        have pre17 : ∀ t, Steps p.tables e below (T16.setTop (mkF m 47 #[.val (.ref a1), .val (.ref a2), .val (.ref wD)] [(.ref wD)])) t → Steps p.tables e below (s₁.setTop (entryFrame m #[(.ref a1), (.ref a2)] 3)) t := by
          intro t k
          refine pre14 t ?_
          refine Jvm.RoadKit.acmp (g := (mkF m 25 #[.val (.ref a1), .val (.ref a2), .unset] [(.ref wD), (.ref a1)])) X13 hx rfl rfl rfl (pc0 := 25) (pc' := 35) (same := true) rfl (hb hby d2_25) rfl (decide_eq_true (congrArg Value.ref hc15)) (by decide) (by decide) ?_
          show Steps _ _ _ (T13.setTop (mkF m 35 #[.val (.ref a1), .val (.ref a2), .unset] [])) _
          refine st16 _ ?_
          show Steps _ _ _ (T16.setTop (mkF m 38 #[.val (.ref a1), .val (.ref a2), .unset] [(.ref wD)])) _
          refine XS.astoreN X16.here hx rfl (hb hby d2_38) rfl rfl (l' := #[.val (.ref a1), .val (.ref a2), .val (.ref wD)]) rfl ?_
          show Steps _ _ _ (T16.setTop (mkF m 39 #[.val (.ref a1), .val (.ref a2), .val (.ref wD)] [])) _
          refine XS.goto X16.here hx rfl (pc0 := 39) (pc' := 46) rfl (hb hby d2_39) (by decide) (by decide) ?_
          show Steps _ _ _ (T16.setTop (mkF m 46 #[.val (.ref a1), .val (.ref a2), .val (.ref wD)] [])) _
          refine XS.aloadN X16.here hx rfl (hb hby d2_46) rfl rfl ?_
          show Steps _ _ _ (T16.setTop (mkF m 47 #[.val (.ref a1), .val (.ref a2), .val (.ref wD)] [(.ref wD)])) _
          exact k
        obtain ⟨fs, hr, hrun, hended, hW, hsame⟩ := X16.leave (v := some (.ref wD)) (fun h => by rw [Bd.returns] at h; cases h)
        refine ⟨_, _, pre17 _ ?_, hrun, hended, _, _, rfl, ?_, ⟨_, rfl⟩, hW, hsame.mono (by decide) (by decide)⟩
        · exact X16.areturnOut hx (w := (.ref wD)) rfl Bd.returns rfl (hb hby d2_47) hr
        · show Q_rm2 Z a1 a2 wI wD wB h0 n0 _ T16.heap _
          rw [e16]
          have hv18 : wD = (own_pro a1 a2 wI wD wB) := by unfold own_pro; simp only [if_neg hc3, if_neg hc9, if_pos hc15]
          exact ⟨(congrArg (fun z => some (Value.ref z)) hv18), N0, rfl⟩
      · obtain ⟨T19, X19, e19, st19⟩ := getS2 X13 hx hZ hown (host := "") (Or.inl (hw _ (List.mem_of_getElem? (i := 13) rfl))) Via.refl e13 (SD.ext O0.2) (g := (mkF m 29 #[.val (.ref a1), .val (.ref a2), .unset] [(.ref a2)])) rfl (hb hby d2_29)
        have pre20 : ∀ t, Steps p.tables e below (T19.setTop (mkF m 32 #[.val (.ref a1), .val (.ref a2), .unset] [(.ref wD), (.ref a2)])) t → Steps p.tables e below (s₁.setTop (entryFrame m #[(.ref a1), (.ref a2)] 3)) t := by
          intro t k
          refine pre14 t ?_
          refine Jvm.RoadKit.acmp (g := (mkF m 25 #[.val (.ref a1), .val (.ref a2), .unset] [(.ref wD), (.ref a1)])) X13 hx rfl rfl rfl (pc0 := 25) (pc' := 28) (same := false) rfl (hb hby d2_25) rfl (decide_eq_false fun q => hc15 (Value.ref.inj q)) (by decide) (by decide) ?_
          show Steps _ _ _ (T13.setTop (mkF m 28 #[.val (.ref a1), .val (.ref a2), .unset] [])) _
          refine XS.aloadN X13.here hx rfl (hb hby d2_28) rfl rfl ?_
          show Steps _ _ _ (T13.setTop (mkF m 29 #[.val (.ref a1), .val (.ref a2), .unset] [(.ref a2)])) _
          refine st19 _ ?_
          show Steps _ _ _ (T19.setTop (mkF m 32 #[.val (.ref a1), .val (.ref a2), .unset] [(.ref wD), (.ref a2)])) _
          exact k
        by_cases hc21 : a2 = wD
        · obtain ⟨T22, X22, e22, st22⟩ := getS2 X19 hx hZ hown (host := "") (Or.inl (hw _ (List.mem_of_getElem? (i := 13) rfl))) Via.refl e19 (SD.ext O0.2) (g := (mkF m 35 #[.val (.ref a1), .val (.ref a2), .unset] [])) rfl (hb hby d2_35)
          have pre23 : ∀ t, Steps p.tables e below (T22.setTop (mkF m 47 #[.val (.ref a1), .val (.ref a2), .val (.ref wD)] [(.ref wD)])) t → Steps p.tables e below (s₁.setTop (entryFrame m #[(.ref a1), (.ref a2)] 3)) t := by
            intro t k
            refine pre20 t ?_
            refine Jvm.RoadKit.acmp (g := (mkF m 32 #[.val (.ref a1), .val (.ref a2), .unset] [(.ref wD), (.ref a2)])) X19 hx rfl rfl rfl (pc0 := 32) (pc' := 35) (same := true) rfl (hb hby d2_32) rfl (decide_eq_true (congrArg Value.ref hc21)) (by decide) (by decide) ?_
            show Steps _ _ _ (T19.setTop (mkF m 35 #[.val (.ref a1), .val (.ref a2), .unset] [])) _
            refine st22 _ ?_
            show Steps _ _ _ (T22.setTop (mkF m 38 #[.val (.ref a1), .val (.ref a2), .unset] [(.ref wD)])) _
            refine XS.astoreN X22.here hx rfl (hb hby d2_38) rfl rfl (l' := #[.val (.ref a1), .val (.ref a2), .val (.ref wD)]) rfl ?_
            show Steps _ _ _ (T22.setTop (mkF m 39 #[.val (.ref a1), .val (.ref a2), .val (.ref wD)] [])) _
            refine XS.goto X22.here hx rfl (pc0 := 39) (pc' := 46) rfl (hb hby d2_39) (by decide) (by decide) ?_
            show Steps _ _ _ (T22.setTop (mkF m 46 #[.val (.ref a1), .val (.ref a2), .val (.ref wD)] [])) _
            refine XS.aloadN X22.here hx rfl (hb hby d2_46) rfl rfl ?_
            show Steps _ _ _ (T22.setTop (mkF m 47 #[.val (.ref a1), .val (.ref a2), .val (.ref wD)] [(.ref wD)])) _
            exact k
          obtain ⟨fs, hr, hrun, hended, hW, hsame⟩ := X22.leave (v := some (.ref wD)) (fun h => by rw [Bd.returns] at h; cases h)
          refine ⟨_, _, pre23 _ ?_, hrun, hended, _, _, rfl, ?_, ⟨_, rfl⟩, hW, hsame.mono (by decide) (by decide)⟩
          · exact X22.areturnOut hx (w := (.ref wD)) rfl Bd.returns rfl (hb hby d2_47) hr
          · show Q_rm2 Z a1 a2 wI wD wB h0 n0 _ T22.heap _
            rw [e22]
            have hv24 : wD = (own_pro a1 a2 wI wD wB) := by unfold own_pro; simp only [if_neg hc3, if_neg hc9, if_neg hc15, if_pos hc21]
            exact ⟨(congrArg (fun z => some (Value.ref z)) hv24), N0, rfl⟩
        · obtain ⟨T25, X25, e25, st25⟩ := getS2 X19 hx hZ hown (host := "") (Or.inl (hw _ (List.mem_of_getElem? (i := 15) rfl))) Via.refl e19 (SI.ext O0.2) (g := (mkF m 42 #[.val (.ref a1), .val (.ref a2), .unset] [])) rfl (hb hby d2_42)
          have pre26 : ∀ t, Steps p.tables e below (T25.setTop (mkF m 47 #[.val (.ref a1), .val (.ref a2), .val (.ref wI)] [(.ref wI)])) t → Steps p.tables e below (s₁.setTop (entryFrame m #[(.ref a1), (.ref a2)] 3)) t := by
            intro t k
            refine pre20 t ?_
            refine Jvm.RoadKit.acmp (g := (mkF m 32 #[.val (.ref a1), .val (.ref a2), .unset] [(.ref wD), (.ref a2)])) X19 hx rfl rfl rfl (pc0 := 32) (pc' := 42) (same := false) rfl (hb hby d2_32) rfl (decide_eq_false fun q => hc21 (Value.ref.inj q)) (by decide) (by decide) ?_
            show Steps _ _ _ (T19.setTop (mkF m 42 #[.val (.ref a1), .val (.ref a2), .unset] [])) _
            refine st25 _ ?_
            show Steps _ _ _ (T25.setTop (mkF m 45 #[.val (.ref a1), .val (.ref a2), .unset] [(.ref wI)])) _
            refine XS.astoreN X25.here hx rfl (hb hby d2_45) rfl rfl (l' := #[.val (.ref a1), .val (.ref a2), .val (.ref wI)]) rfl ?_
            show Steps _ _ _ (T25.setTop (mkF m 46 #[.val (.ref a1), .val (.ref a2), .val (.ref wI)] [])) _
            refine XS.aloadN X25.here hx rfl (hb hby d2_46) rfl rfl ?_
            show Steps _ _ _ (T25.setTop (mkF m 47 #[.val (.ref a1), .val (.ref a2), .val (.ref wI)] [(.ref wI)])) _
            exact k
          obtain ⟨fs, hr, hrun, hended, hW, hsame⟩ := X25.leave (v := some (.ref wI)) (fun h => by rw [Bd.returns] at h; cases h)
          refine ⟨_, _, pre26 _ ?_, hrun, hended, _, _, rfl, ?_, ⟨_, rfl⟩, hW, hsame.mono (by decide) (by decide)⟩
          · exact X25.areturnOut hx (w := (.ref wI)) rfl Bd.returns rfl (hb hby d2_47) hr
          · show Q_rm2 Z a1 a2 wI wD wB h0 n0 _ T25.heap _
            rw [e25]
            have hv27 : wI = (own_pro a1 a2 wI wD wB) := by unfold own_pro; simp only [if_neg hc3, if_neg hc9, if_neg hc15, if_neg hc21]
            exact ⟨(congrArg (fun z => some (Value.ref z)) hv27), N0, rfl⟩
def own_rank (a1 wI wD : Addr) : Int32 := if a1 = wI then 0 else if a1 = wD then 1 else 2
theorem d3_0 : decode method_3_code 0 = .ok (.aload_n 0, 1) := by decide +kernel
theorem d3_1 : decode method_3_code 1 = .ok (.getstatic 8, 3) := by decide +kernel
theorem d3_4 : decode method_3_code 4 = .ok (.if_acmp .ne 5, 3) := by decide +kernel
theorem d3_7 : decode method_3_code 7 = .ok (.iconst 0, 1) := by decide +kernel
theorem d3_8 : decode method_3_code 8 = .ok (.ireturn, 1) := by decide +kernel
theorem d3_9 : decode method_3_code 9 = .ok (.aload_n 0, 1) := by decide +kernel
theorem d3_10 : decode method_3_code 10 = .ok (.getstatic 14, 3) := by decide +kernel
theorem d3_13 : decode method_3_code 13 = .ok (.if_acmp .ne 5, 3) := by decide +kernel
theorem d3_16 : decode method_3_code 16 = .ok (.iconst 1, 1) := by decide +kernel
theorem d3_17 : decode method_3_code 17 = .ok (.ireturn, 1) := by decide +kernel
theorem d3_18 : decode method_3_code 18 = .ok (.iconst 2, 1) := by decide +kernel
theorem d3_19 : decode method_3_code 19 = .ok (.ireturn, 1) := by decide +kernel
theorem ef_rm3 (m : MethodId) (x0 : Addr) : entryFrame m #[(.ref x0)] 1 = mkF m 0 #[.val (.ref x0)] [] := by first | (simp [entryFrame, mkF, argsToLocals, Value.category]; done) | rfl
def Q_rm3 (Z : State) (a1 : Addr) (wI : Addr) (wD : Addr) (wB : Addr) (h0 : Heap) (n0 : Nat) (v : Option Value) (h : Heap) (L : List Loc) : Prop := v = some (.int (own_rank a1 wI wD)) ∧ Fr n0 L ∧ h = h0
set_option maxRecDepth 65536 in
set_option maxHeartbeats 40000000 in
theorem rm3 (l : Launch) (Z : State) (a0 : Array Value) (hw : ∀ d ∈ tables_1, d.before a0 Z = true) (ws : List Jvm.Cond) (a1 : Addr) (wI : Addr) (wD : Addr) (wB : Addr) (h0 : Heap) (n0 : Nat) (Z0 : n0 ≤ h0.size) (O0 : Old Z n0 h0) (SI : Sta Z Z.heap "com/example/copse/copse/query/AtomicValue$Type" "INTEGER" "Lcom/example/copse/copse/query/AtomicValue$Type;" (.ref wI)) (SD : Sta Z Z.heap "com/example/copse/copse/query/AtomicValue$Type" "DECIMAL" "Lcom/example/copse/copse/query/AtomicValue$Type;" (.ref wD)) (SB : Sta Z Z.heap "com/example/copse/copse/query/AtomicValue$Type" "DOUBLE" "Lcom/example/copse/copse/query/AtomicValue$Type;" (.ref wB)) :
    MetFree l (⟨"com/example/copse/copse/query/TypePromotionPinLaw", "rank", "(Lcom/example/copse/copse/query/AtomicValue$Type;)I"⟩ : MethodName) (head1 (Jvm.Cond.code (⟨"com/example/copse/copse/query/TypePromotionPinLaw", "rank", "(Lcom/example/copse/copse/query/AtomicValue$Type;)I"⟩ : MethodName) method_3_code 1 (some .int) :: ws) ({ frames := 0, cells := 0, slots := 0, locals := 0 } : Room)) (fun a U => a = #[(.ref a1)] ∧ Z.Warmed39 U.vm ∧ U.heap = h0) (fun _ _ _ _ _ => True) (fun _ U o U' => ∃ v L, o = .returned v ∧ Q_rm3 Z a1 wI wD wB h0 n0 v U'.heap L ∧ FrameEnd U o U' L ({ frames := 0, cells := 0, slots := 0, locals := 0 } : Room).cells ({ frames := 0, cells := 0, slots := 0, locals := 0 } : Room).slots) := by
  refine MetFree.of_bodySF (plainFor_of_name pn_0) hisR ?_
  intro p e s m args below meth c s₁ Bd hml0 hP hK
  obtain ⟨rfl, hZ, hh⟩ := hP
  have hx := Bd.exec
  have hby := Bd.bytes
  have hml : c.maxLocals = 1 := hml0
  have hown : s.vm.findClass "com/example/copse/copse/query/TypePromotionPinLaw" = some m.cls := findClass_of_methodNamed Bd.named
  have hnm := (name_of_methodNamed Bd.named Bd.method).1
  have X0 : Stand p l e ({ frames := 0, cells := 0, slots := 0, locals := 0 } : Room) s m #[(.ref a1)] below meth c s₁ [] 0 0 := Stand.of_body Bd
  have e0 : s₁.heap = h0 := by rw [← hh, Bd.state]; rfl
  have N0 := Fr.nil n0
  have pre0 : ∀ t, Steps p.tables e below (s₁.setTop (mkF m 0 #[.val (.ref a1)] [])) t → Steps p.tables e below (s₁.setTop (entryFrame m #[(.ref a1)] 1)) t := fun t k => castTop (ef_rm3 m a1) k
  obtain ⟨T1, X1, e1, st1⟩ := getS2 X0 hx hZ hown (host := "") (Or.inl (hw _ (List.mem_of_getElem? (i := 5) rfl))) Via.refl e0 (SI.ext O0.2) (g := (mkF m 1 #[.val (.ref a1)] [(.ref a1)])) rfl (hb hby d3_1)
  have pre2 : ∀ t, Steps p.tables e below (T1.setTop (mkF m 4 #[.val (.ref a1)] [(.ref wI), (.ref a1)])) t → Steps p.tables e below (s₁.setTop (entryFrame m #[(.ref a1)] 1)) t := by
    intro t k
    refine pre0 t ?_
    refine XS.aloadN X0.here hx rfl (hb hby d3_0) rfl rfl ?_
    show Steps _ _ _ (s₁.setTop (mkF m 1 #[.val (.ref a1)] [(.ref a1)])) _
    refine st1 _ ?_
    show Steps _ _ _ (T1.setTop (mkF m 4 #[.val (.ref a1)] [(.ref wI), (.ref a1)])) _
    exact k
  by_cases hc3 : a1 = wI
  · have pre4 : ∀ t, Steps p.tables e below (T1.setTop (mkF m 8 #[.val (.ref a1)] [(.int (0 : Int32))])) t → Steps p.tables e below (s₁.setTop (entryFrame m #[(.ref a1)] 1)) t := by
      intro t k
      refine pre2 t ?_
      refine Jvm.RoadKit.acmp (g := (mkF m 4 #[.val (.ref a1)] [(.ref wI), (.ref a1)])) X1 hx rfl rfl rfl (pc0 := 4) (pc' := 7) (same := true) rfl (hb hby d3_4) rfl (decide_eq_true (congrArg Value.ref hc3)) (by decide) (by decide) ?_
      show Steps _ _ _ (T1.setTop (mkF m 7 #[.val (.ref a1)] [])) _
      refine XS.iconst X1.here hx rfl (hb hby d3_7) ?_
      show Steps _ _ _ (T1.setTop (mkF m 8 #[.val (.ref a1)] [(.int (0 : Int32))])) _
      exact k
    obtain ⟨fs, hr, hrun, hended, hW, hsame⟩ := X1.leave (v := some (.int (0 : Int32))) (fun h => by rw [Bd.returns] at h; cases h)
    refine ⟨_, _, pre4 _ ?_, hrun, hended, _, _, rfl, ?_, ⟨_, rfl⟩, hW, hsame.mono (by decide) (by decide)⟩
    · exact retI X1 hx Bd.returns (hb hby d3_8) hr
    · show Q_rm3 Z a1 wI wD wB h0 n0 _ T1.heap _
      rw [e1]
      have hv5 : (0 : Int32) = (own_rank a1 wI wD) := by unfold own_rank; simp only [if_pos hc3]
      exact ⟨(congrArg (fun z => some (Value.int z)) hv5), N0, rfl⟩
  · obtain ⟨T6, X6, e6, st6⟩ := getS2 X1 hx hZ hown (host := "") (Or.inl (hw _ (List.mem_of_getElem? (i := 24) rfl))) Via.refl e1 (SD.ext O0.2) (g := (mkF m 10 #[.val (.ref a1)] [(.ref a1)])) rfl (hb hby d3_10)
    have pre7 : ∀ t, Steps p.tables e below (T6.setTop (mkF m 13 #[.val (.ref a1)] [(.ref wD), (.ref a1)])) t → Steps p.tables e below (s₁.setTop (entryFrame m #[(.ref a1)] 1)) t := by
      intro t k
      refine pre2 t ?_
      refine Jvm.RoadKit.acmp (g := (mkF m 4 #[.val (.ref a1)] [(.ref wI), (.ref a1)])) X1 hx rfl rfl rfl (pc0 := 4) (pc' := 9) (same := false) rfl (hb hby d3_4) rfl (decide_eq_false fun q => hc3 (Value.ref.inj q)) (by decide) (by decide) ?_
      show Steps _ _ _ (T1.setTop (mkF m 9 #[.val (.ref a1)] [])) _
      refine XS.aloadN X1.here hx rfl (hb hby d3_9) rfl rfl ?_
      show Steps _ _ _ (T1.setTop (mkF m 10 #[.val (.ref a1)] [(.ref a1)])) _
      refine st6 _ ?_
      show Steps _ _ _ (T6.setTop (mkF m 13 #[.val (.ref a1)] [(.ref wD), (.ref a1)])) _
      exact k
    by_cases hc8 : a1 = wD
    · have pre9 : ∀ t, Steps p.tables e below (T6.setTop (mkF m 17 #[.val (.ref a1)] [(.int (1 : Int32))])) t → Steps p.tables e below (s₁.setTop (entryFrame m #[(.ref a1)] 1)) t := by
        intro t k
        refine pre7 t ?_
        refine Jvm.RoadKit.acmp (g := (mkF m 13 #[.val (.ref a1)] [(.ref wD), (.ref a1)])) X6 hx rfl rfl rfl (pc0 := 13) (pc' := 16) (same := true) rfl (hb hby d3_13) rfl (decide_eq_true (congrArg Value.ref hc8)) (by decide) (by decide) ?_
        show Steps _ _ _ (T6.setTop (mkF m 16 #[.val (.ref a1)] [])) _
        refine XS.iconst X6.here hx rfl (hb hby d3_16) ?_
        show Steps _ _ _ (T6.setTop (mkF m 17 #[.val (.ref a1)] [(.int (1 : Int32))])) _
        exact k
      obtain ⟨fs, hr, hrun, hended, hW, hsame⟩ := X6.leave (v := some (.int (1 : Int32))) (fun h => by rw [Bd.returns] at h; cases h)
      refine ⟨_, _, pre9 _ ?_, hrun, hended, _, _, rfl, ?_, ⟨_, rfl⟩, hW, hsame.mono (by decide) (by decide)⟩
      · exact retI X6 hx Bd.returns (hb hby d3_17) hr
      · show Q_rm3 Z a1 wI wD wB h0 n0 _ T6.heap _
        rw [e6]
        have hv10 : (1 : Int32) = (own_rank a1 wI wD) := by unfold own_rank; simp only [if_neg hc3, if_pos hc8]
        exact ⟨(congrArg (fun z => some (Value.int z)) hv10), N0, rfl⟩
    · have pre11 : ∀ t, Steps p.tables e below (T6.setTop (mkF m 19 #[.val (.ref a1)] [(.int (2 : Int32))])) t → Steps p.tables e below (s₁.setTop (entryFrame m #[(.ref a1)] 1)) t := by
        intro t k
        refine pre7 t ?_
        refine Jvm.RoadKit.acmp (g := (mkF m 13 #[.val (.ref a1)] [(.ref wD), (.ref a1)])) X6 hx rfl rfl rfl (pc0 := 13) (pc' := 18) (same := false) rfl (hb hby d3_13) rfl (decide_eq_false fun q => hc8 (Value.ref.inj q)) (by decide) (by decide) ?_
        show Steps _ _ _ (T6.setTop (mkF m 18 #[.val (.ref a1)] [])) _
        refine XS.iconst X6.here hx rfl (hb hby d3_18) ?_
        show Steps _ _ _ (T6.setTop (mkF m 19 #[.val (.ref a1)] [(.int (2 : Int32))])) _
        exact k
      obtain ⟨fs, hr, hrun, hended, hW, hsame⟩ := X6.leave (v := some (.int (2 : Int32))) (fun h => by rw [Bd.returns] at h; cases h)
      refine ⟨_, _, pre11 _ ?_, hrun, hended, _, _, rfl, ?_, ⟨_, rfl⟩, hW, hsame.mono (by decide) (by decide)⟩
      · exact retI X6 hx Bd.returns (hb hby d3_19) hr
      · show Q_rm3 Z a1 wI wD wB h0 n0 _ T6.heap _
        rw [e6]
        have hv12 : (2 : Int32) = (own_rank a1 wI wD) := by unfold own_rank; simp only [if_neg hc3, if_neg hc8]
        exact ⟨(congrArg (fun z => some (Value.int z)) hv12), N0, rfl⟩
theorem d4_0 : decode jdk_29_method_65_code 0 = .ok (.iload_n 0, 1) := by decide +kernel
theorem d4_1 : decode jdk_29_method_65_code 1 = .ok (.iload_n 1, 1) := by decide +kernel
theorem d4_2 : decode jdk_29_method_65_code 2 = .ok (.if_icmp .lt 7, 3) := by decide +kernel
theorem d4_9 : decode jdk_29_method_65_code 9 = .ok (.iload_n 1, 1) := by decide +kernel
theorem d4_5 : decode jdk_29_method_65_code 5 = .ok (.iload_n 0, 1) := by decide +kernel
theorem d4_6 : decode jdk_29_method_65_code 6 = .ok (.goto 4, 3) := by decide +kernel
theorem d4_10 : decode jdk_29_method_65_code 10 = .ok (.ireturn, 1) := by decide +kernel
def own_max (p1 : Int32) (p2 : Int32) : Int32 := (if p1 < p2 then p2 else p1)
theorem ef_rm4 (m : MethodId) (x0 : Int32) (x1 : Int32) : entryFrame m #[(.int x0), (.int x1)] 2 = mkF m 0 #[.val (.int x0), .val (.int x1)] [] := by first | (simp [entryFrame, mkF, argsToLocals, Value.category]; done) | rfl
def Q_rm4 (Z : State) (p1 : Int32) (p2 : Int32) (h0 : Heap) (n0 : Nat) (v : Option Value) (h : Heap) (L : List Loc) : Prop := v = some (.int (own_max p1 p2)) ∧ Fr n0 L ∧ h = h0
set_option maxRecDepth 65536 in
set_option maxHeartbeats 40000000 in
theorem rm4 (l : Launch) (Z : State) (a0 : Array Value) (hw : ∀ d ∈ tables_1, d.before a0 Z = true) (ws : List Jvm.Cond) (p1 : Int32) (p2 : Int32) (h0 : Heap) (n0 : Nat) (Z0 : n0 ≤ h0.size) :
    MetFree l (⟨"java/lang/Math", "max", "(II)I"⟩ : MethodName) (head1 (Jvm.Cond.code (⟨"java/lang/Math", "max", "(II)I"⟩ : MethodName) jdk_29_method_65_code 2 (some .int) :: ws) ({ frames := 0, cells := 0, slots := 0, locals := 0 } : Room)) (fun a U => a = #[(.int p1), (.int p2)] ∧ Z.Warmed39 U.vm ∧ U.heap = h0) (fun _ _ _ _ _ => True) (fun _ U o U' => ∃ v L, o = .returned v ∧ Q_rm4 Z p1 p2 h0 n0 v U'.heap L ∧ FrameEnd U o U' L ({ frames := 0, cells := 0, slots := 0, locals := 0 } : Room).cells ({ frames := 0, cells := 0, slots := 0, locals := 0 } : Room).slots) := by
  refine MetFree.of_bodySF (Jvm.Free.JP.mathPlain rfl (by decide +kernel)) hisR ?_
  intro p e s m args below meth c s₁ Bd hml0 hP hK
  obtain ⟨rfl, hZ, hh⟩ := hP
  have hx := Bd.exec
  have hby := Bd.bytes
  have hml : c.maxLocals = 2 := hml0
  have hown : s.vm.findClass "java/lang/Math" = some m.cls := findClass_of_methodNamed Bd.named
  have hnm := (name_of_methodNamed Bd.named Bd.method).1
  have X0 : Stand p l e ({ frames := 0, cells := 0, slots := 0, locals := 0 } : Room) s m #[(.int p1), (.int p2)] below meth c s₁ [] 0 0 := Stand.of_body Bd
  have e0 : s₁.heap = h0 := by rw [← hh, Bd.state]; rfl
  have N0 := Fr.nil n0
  have pre0 : ∀ t, Steps p.tables e below (s₁.setTop (mkF m 0 #[.val (.int p1), .val (.int p2)] [])) t → Steps p.tables e below (s₁.setTop (entryFrame m #[(.int p1), (.int p2)] 2)) t := fun t k => castTop (ef_rm4 m p1 p2) k
  have pre3 : ∀ t, Steps p.tables e below (s₁.setTop (mkF m 10 #[.val (.int p1), .val (.int p2)] [(.int (if p1 < p2 then p2 else p1))])) t → Steps p.tables e below (s₁.setTop (entryFrame m #[(.int p1), (.int p2)] 2)) t := by
    intro t k
    refine pre0 t ?_
    refine XS.iloadN X0.here hx rfl (hb hby d4_0) rfl ?_
    show Steps _ _ _ (s₁.setTop (mkF m 1 #[.val (.int p1), .val (.int p2)] [(.int p1)])) _
    refine XS.iloadN X0.here hx rfl (hb hby d4_1) rfl ?_
    show Steps _ _ _ (s₁.setTop (mkF m 2 #[.val (.int p1), .val (.int p2)] [(.int p2), (.int p1)])) _
    by_cases hc1 : p1 < p2
    · simp only [if_pos hc1] at k
      refine XS.icmpYes X0.here hx rfl (pc0 := 2) (pc' := 9) rfl (hb hby d4_2) rfl (tlt hc1).1 (by decide) (by decide) ?_
      show Steps _ _ _ (s₁.setTop (mkF m 9 #[.val (.int p1), .val (.int p2)] [])) _
      refine XS.iloadN X0.here hx rfl (hb hby d4_9) rfl ?_
      show Steps _ _ _ (s₁.setTop (mkF m 10 #[.val (.int p1), .val (.int p2)] [(.int p2)])) _
      exact k
    · simp only [if_neg hc1] at k
      refine XS.icmpNo X0.here hx rfl (hb hby d4_2) rfl (flt hc1).1 ?_
      show Steps _ _ _ (s₁.setTop (mkF m 5 #[.val (.int p1), .val (.int p2)] [])) _
      refine XS.iloadN X0.here hx rfl (hb hby d4_5) rfl ?_
      show Steps _ _ _ (s₁.setTop (mkF m 6 #[.val (.int p1), .val (.int p2)] [(.int p1)])) _
      refine XS.goto X0.here hx rfl (pc0 := 6) (pc' := 10) rfl (hb hby d4_6) (by decide) (by decide) ?_
      show Steps _ _ _ (s₁.setTop (mkF m 10 #[.val (.int p1), .val (.int p2)] [(.int p1)])) _
      exact k
  obtain ⟨z2, hz2⟩ : ∃ z : Int32, z = (if p1 < p2 then p2 else p1) := ⟨_, rfl⟩
  rw [← hz2] at pre3
  obtain ⟨fs, hr, hrun, hended, hW, hsame⟩ := X0.leave (v := some (.int z2)) (fun h => by rw [Bd.returns] at h; cases h)
  refine ⟨_, _, pre3 _ ?_, hrun, hended, _, _, rfl, ?_, ⟨_, rfl⟩, hW, hsame.mono (by decide) (by decide)⟩
  · exact retI X0 hx Bd.returns (hb hby d4_10) hr
  · show Q_rm4 Z p1 p2 h0 n0 _ s₁.heap _
    rw [e0]
    have hvA : z2 = (own_max p1 p2) := by
      subst hz2
      rfl
    have hv4 : z2 = (own_max p1 p2) := hvA
    exact ⟨(congrArg (fun z => some (Value.int z)) hv4), N0, rfl⟩
theorem own_numlit (wI wD wB : Addr) : own_num 0 wI wD wB = wI ∧ own_num 1 wI wD wB = wD ∧ own_num 2 wI wD wB = wB := ⟨rfl, rfl, rfl⟩
theorem own_num3 (a : Int32) (wI wD wB : Addr) : own_num a wI wD wB = wI ∨ own_num a wI wD wB = wD ∨ own_num a wI wD wB = wB := by
  unfold own_num; split
  · exact Or.inl rfl
  · split
    · exact Or.inr (Or.inl rfl)
    · exact Or.inr (Or.inr rfl)
theorem own_law (a b : Int32) (wI wD wB : Addr) (h1 : wI ≠ wD) (h2 : wI ≠ wB) (h3 : wD ≠ wB) :
    own_pro (own_num a wI wD wB) (own_num b wI wD wB) wI wD wB = own_num (own_max (own_rank (own_num a wI wD wB) wI wD) (own_rank (own_num b wI wD wB) wI wD)) wI wD wB := by
  have q := own_numlit wI wD wB
  have rI : own_rank wI wI wD = 0 := by unfold own_rank; rw [if_pos rfl]
  have rD : own_rank wD wI wD = 1 := by unfold own_rank; rw [if_neg (Ne.symm h1), if_pos rfl]
  have rB : own_rank wB wI wD = 2 := by unfold own_rank; rw [if_neg (Ne.symm h2), if_neg (Ne.symm h3)]
  have k1 := Ne.symm h1
  have k2 := Ne.symm h2
  have k3 := Ne.symm h3
  rcases own_num3 a wI wD wB with e | e | e <;> rcases own_num3 b wI wD wB with e' | e' | e' <;> rw [e, e'] <;> simp only [rI, rD, rB] <;> simp only [own_pro, own_max, h1, h2, h3, k1, k2, k3, if_true, if_false] <;> first | exact q.1.symm | exact q.2.1.symm | exact q.2.2.symm
theorem pd_0 : parseMethodDescriptor "(I)Lcom/example/copse/copse/query/AtomicValue$Type;" = some ⟨[.int], some (.object "com/example/copse/copse/query/AtomicValue$Type")⟩ := by decide +kernel
theorem pd_1 : parseMethodDescriptor "(Lcom/example/copse/copse/query/AtomicValue$Type;Lcom/example/copse/copse/query/AtomicValue$Type;)Lcom/example/copse/copse/query/AtomicValue$Type;" = some ⟨[(.object "com/example/copse/copse/query/AtomicValue$Type"), (.object "com/example/copse/copse/query/AtomicValue$Type")], some (.object "com/example/copse/copse/query/AtomicValue$Type")⟩ := by decide +kernel
theorem pd_2 : parseMethodDescriptor "(Lcom/example/copse/copse/query/AtomicValue$Type;)I" = some ⟨[(.object "com/example/copse/copse/query/AtomicValue$Type")], some .int⟩ := by decide +kernel
theorem pd_3 : parseMethodDescriptor "(II)I" = some ⟨[.int, .int], some .int⟩ := by decide +kernel
theorem ef_rm0 (m : MethodId) (x0 : Int32) (x1 : Int32) : entryFrame m #[(.int x0), (.int x1)] maxLocals = mkF m 0 #[.val (.int x0), .val (.int x1), .unset, .unset, .unset, .unset] [] := by first | (simp [entryFrame, mkF, argsToLocals, Value.category, maxLocals]; done) | rfl
def Q_rm0 (Z : State) (p1 : Int32) (p2 : Int32) (wI : Addr) (wD : Addr) (wB : Addr) (h0 : Heap) (n0 : Nat) (v : Option Value) (h : Heap) (L : List Loc) : Prop := v = some (.int (1 : Int32)) ∧ Fr n0 L ∧ h = h0
set_option maxRecDepth 65536 in
set_option maxHeartbeats 40000000 in
theorem rm0 (l : Launch) (Z : State) (a0 : Array Value) (hw : ∀ d ∈ tables_1, d.before a0 Z = true) (ws : List Jvm.Cond) (p1 : Int32) (p2 : Int32) (wI : Addr) (wD : Addr) (wB : Addr) (h0 : Heap) (n0 : Nat) (Z0 : n0 ≤ h0.size) (O0 : Old Z n0 h0) (SI : Sta Z Z.heap "com/example/copse/copse/query/AtomicValue$Type" "INTEGER" "Lcom/example/copse/copse/query/AtomicValue$Type;" (.ref wI)) (SD : Sta Z Z.heap "com/example/copse/copse/query/AtomicValue$Type" "DECIMAL" "Lcom/example/copse/copse/query/AtomicValue$Type;" (.ref wD)) (SB : Sta Z Z.heap "com/example/copse/copse/query/AtomicValue$Type" "DOUBLE" "Lcom/example/copse/copse/query/AtomicValue$Type;" (.ref wB)) (h1 : wI ≠ wD) (h2 : wI ≠ wB) (h3 : wD ≠ wB) :
    MetFree l x (head1 (Jvm.Cond.code x code maxLocals ret :: ws) room_1) (fun a U => a = #[(.int p1), (.int p2)] ∧ Z.Warmed39 U.vm ∧ U.heap = h0) (fun _ _ _ _ _ => True) (fun _ U o U' => ∃ v L, o = .returned v ∧ Q_rm0 Z p1 p2 wI wD wB h0 n0 v U'.heap L ∧ FrameEnd U o U' L room_1.cells room_1.slots) := by
  refine MetFree.of_bodySF (plainFor_of_name pn_0) hisR ?_
  intro p e s m args below meth c s₁ Bd hml0 hP hK
  obtain ⟨rfl, hZ, hh⟩ := hP
  have hx := Bd.exec
  have hby := Bd.bytes
  have hml : c.maxLocals = 6 := hml0
  have hown : s.vm.findClass "com/example/copse/copse/query/TypePromotionPinLaw" = some m.cls := findClass_of_methodNamed Bd.named
  have hnm := (name_of_methodNamed Bd.named Bd.method).1
  have X0 : Stand p l e room_1 s m #[(.int p1), (.int p2)] below meth c s₁ [] 0 0 := Stand.of_body Bd
  have e0 : s₁.heap = h0 := by rw [← hh, Bd.state]; rfl
  have N0 := Fr.nil n0
  have pre0 : ∀ t, Steps p.tables e below (s₁.setTop (mkF m 0 #[.val (.int p1), .val (.int p2), .unset, .unset, .unset, .unset] [])) t → Steps p.tables e below (s₁.setTop (entryFrame m #[(.int p1), (.int p2)] maxLocals)) t := fun t k => castTop (ef_rm0 m p1 p2) k
  obtain ⟨_, _, ⟨T1, L1, k1, n1⟩, -, X1, ⟨Lc1, hQ1, l1, y1, z1⟩, st1⟩ := Jvm.LawKit.callS X0 hx (y := (⟨"com/example/copse/copse/query/TypePromotionPinLaw", "numeric", "(I)Lcom/example/copse/copse/query/AtomicValue$Type;"⟩ : MethodName)) hown (mvT hZ (hw _ (List.mem_of_getElem? (i := 0) rfl))) (mvT hZ (hw _ (List.mem_of_getElem? (i := 1) rfl))) (mvT hZ (hw _ (List.mem_of_getElem? (i := 2) rfl))) (mvT hZ (hw _ (List.mem_of_getElem? (i := 3) rfl))) (by decide) (backOf (W := 0) (rm1 l Z a0 hw [] p1 wI wD wB h0 n0 Z0 O0 SI SD SB) hZ (hw _ (List.mem_of_getElem? (i := 3) rfl)) (hw _ (List.mem_of_getElem? (i := 2) rfl)) (by decide) (by decide)) (g := (mkF m 1 #[.val (.int p1), .val (.int p2), .unset, .unset, .unset, .unset] [(.int p1)])) rfl (by rw [hml]; rfl) (argsL := [(.int p1)]) (rest := []) (lenOf pd_0 rfl) rfl (by show 2 * 0 + _ ≤ _; exact Nat.le_of_eq rfl) (hb hby at_1) (fun _ _ => ⟨rfl, e0, (by decide : 0 + 0 ≤ _), (by decide : 0 + 0 ≤ _)⟩)
  dsimp only [Pt.U, Pt.locs, Pt.cells, Pt.slots] at X1 l1 y1 z1 st1 hQ1
  subst l1 y1 z1
  obtain ⟨rfl, Nq1, q1_0⟩ := hQ1
  have N2 := Fr.app N0 Nq1
  obtain ⟨_, _, ⟨T3, L3, k3, n3⟩, -, X3, ⟨Lc3, hQ3, l3, y3, z3⟩, st3⟩ := Jvm.LawKit.callS X1 hx (y := (⟨"com/example/copse/copse/query/TypePromotionPinLaw", "numeric", "(I)Lcom/example/copse/copse/query/AtomicValue$Type;"⟩ : MethodName)) hown (mvT hZ (hw _ (List.mem_of_getElem? (i := 0) rfl))) (mvT hZ (hw _ (List.mem_of_getElem? (i := 1) rfl))) (mvT hZ (hw _ (List.mem_of_getElem? (i := 2) rfl))) (mvT hZ (hw _ (List.mem_of_getElem? (i := 3) rfl))) (by decide) (backOf (W := 0) (rm1 l Z a0 hw [] p2 wI wD wB h0 n0 Z0 O0 SI SD SB) hZ (hw _ (List.mem_of_getElem? (i := 3) rfl)) (hw _ (List.mem_of_getElem? (i := 2) rfl)) (by decide) (by decide)) (g := (mkF m 6 #[.val (.int p1), .val (.int p2), .val (.ref (own_num p1 wI wD wB)), .unset, .unset, .unset] [(.int p2)])) rfl (by rw [hml]; rfl) (argsL := [(.int p2)]) (rest := []) (lenOf pd_0 rfl) rfl (by show 2 * 0 + _ ≤ _; exact Nat.le_of_eq rfl) (hb hby at_6) (fun _ _ => ⟨rfl, q1_0, (by decide : 0 + 0 ≤ _), (by decide : 0 + 0 ≤ _)⟩)
  dsimp only [Pt.U, Pt.locs, Pt.cells, Pt.slots] at X3 l3 y3 z3 st3 hQ3
  subst l3 y3 z3
  obtain ⟨rfl, Nq3, q3_0⟩ := hQ3
  have N4 := Fr.app N2 Nq3
  obtain ⟨_, _, ⟨T5, L5, k5, n5⟩, -, X5, ⟨Lc5, hQ5, l5, y5, z5⟩, st5⟩ := Jvm.LawKit.callS X3 hx (y := (⟨"com/example/copse/copse/query/AtomicValue$Type", "promotion", "(Lcom/example/copse/copse/query/AtomicValue$Type;Lcom/example/copse/copse/query/AtomicValue$Type;)Lcom/example/copse/copse/query/AtomicValue$Type;"⟩ : MethodName)) hown (mvT hZ (hw _ (List.mem_of_getElem? (i := 8) rfl))) (mvT hZ (hw _ (List.mem_of_getElem? (i := 9) rfl))) (mvT hZ (hw _ (List.mem_of_getElem? (i := 6) rfl))) (mvT hZ (hw _ (List.mem_of_getElem? (i := 10) rfl))) (by decide) (backOf (W := 0) (rm2 l Z a0 hw [] (own_num p1 wI wD wB) (own_num p2 wI wD wB) wI wD wB h0 n0 Z0 O0 SI SD SB) hZ (hw _ (List.mem_of_getElem? (i := 10) rfl)) (hw _ (List.mem_of_getElem? (i := 6) rfl)) (by decide) (by decide)) (g := (mkF m 12 #[.val (.int p1), .val (.int p2), .val (.ref (own_num p1 wI wD wB)), .val (.ref (own_num p2 wI wD wB)), .unset, .unset] [(.ref (own_num p2 wI wD wB)), (.ref (own_num p1 wI wD wB))])) rfl (by rw [hml]; rfl) (argsL := [(.ref (own_num p1 wI wD wB)), (.ref (own_num p2 wI wD wB))]) (rest := []) (lenOf pd_1 rfl) rfl (by show 2 * 0 + _ ≤ _; exact Nat.le_of_eq rfl) (hb hby at_12) (fun _ _ => ⟨rfl, q3_0, (by decide : 0 + 0 ≤ _), (by decide : 0 + 0 ≤ _)⟩)
  dsimp only [Pt.U, Pt.locs, Pt.cells, Pt.slots] at X5 l5 y5 z5 st5 hQ5
  subst l5 y5 z5
  obtain ⟨rfl, Nq5, q5_0⟩ := hQ5
  have N6 := Fr.app N4 Nq5
  obtain ⟨_, _, ⟨T7, L7, k7, n7⟩, -, X7, ⟨Lc7, hQ7, l7, y7, z7⟩, st7⟩ := Jvm.LawKit.callS X5 hx (y := (⟨"com/example/copse/copse/query/TypePromotionPinLaw", "rank", "(Lcom/example/copse/copse/query/AtomicValue$Type;)I"⟩ : MethodName)) hown (mvT hZ (hw _ (List.mem_of_getElem? (i := 16) rfl))) (mvT hZ (hw _ (List.mem_of_getElem? (i := 17) rfl))) (mvT hZ (hw _ (List.mem_of_getElem? (i := 2) rfl))) (mvT hZ (hw _ (List.mem_of_getElem? (i := 18) rfl))) (by decide) (backOf (W := 0) (rm3 l Z a0 hw [] (own_num p1 wI wD wB) wI wD wB h0 n0 Z0 O0 SI SD SB) hZ (hw _ (List.mem_of_getElem? (i := 18) rfl)) (hw _ (List.mem_of_getElem? (i := 2) rfl)) (by decide) (by decide)) (g := (mkF m 18 #[.val (.int p1), .val (.int p2), .val (.ref (own_num p1 wI wD wB)), .val (.ref (own_num p2 wI wD wB)), .val (.ref (own_pro (own_num p1 wI wD wB) (own_num p2 wI wD wB) wI wD wB)), .unset] [(.ref (own_num p1 wI wD wB))])) rfl (by rw [hml]; rfl) (argsL := [(.ref (own_num p1 wI wD wB))]) (rest := []) (lenOf pd_2 rfl) rfl (by show 2 * 0 + _ ≤ _; exact Nat.le_of_eq rfl) (hb hby at_18) (fun _ _ => ⟨rfl, q5_0, (by decide : 0 + 0 ≤ _), (by decide : 0 + 0 ≤ _)⟩)
  dsimp only [Pt.U, Pt.locs, Pt.cells, Pt.slots] at X7 l7 y7 z7 st7 hQ7
  subst l7 y7 z7
  obtain ⟨rfl, Nq7, q7_0⟩ := hQ7
  have N8 := Fr.app N6 Nq7
  obtain ⟨_, _, ⟨T9, L9, k9, n9⟩, -, X9, ⟨Lc9, hQ9, l9, y9, z9⟩, st9⟩ := Jvm.LawKit.callS X7 hx (y := (⟨"com/example/copse/copse/query/TypePromotionPinLaw", "rank", "(Lcom/example/copse/copse/query/AtomicValue$Type;)I"⟩ : MethodName)) hown (mvT hZ (hw _ (List.mem_of_getElem? (i := 16) rfl))) (mvT hZ (hw _ (List.mem_of_getElem? (i := 17) rfl))) (mvT hZ (hw _ (List.mem_of_getElem? (i := 2) rfl))) (mvT hZ (hw _ (List.mem_of_getElem? (i := 18) rfl))) (by decide) (backOf (W := 1) (rm3 l Z a0 hw [] (own_num p2 wI wD wB) wI wD wB h0 n0 Z0 O0 SI SD SB) hZ (hw _ (List.mem_of_getElem? (i := 18) rfl)) (hw _ (List.mem_of_getElem? (i := 2) rfl)) (by decide) (by decide)) (g := (mkF m 22 #[.val (.int p1), .val (.int p2), .val (.ref (own_num p1 wI wD wB)), .val (.ref (own_num p2 wI wD wB)), .val (.ref (own_pro (own_num p1 wI wD wB) (own_num p2 wI wD wB) wI wD wB)), .unset] [(.ref (own_num p2 wI wD wB)), (.int (own_rank (own_num p1 wI wD wB) wI wD))])) rfl (by rw [hml]; rfl) (argsL := [(.ref (own_num p2 wI wD wB))]) (rest := [(.int (own_rank (own_num p1 wI wD wB) wI wD))]) (lenOf pd_2 rfl) rfl (by show 2 * 0 + _ ≤ _; exact Nat.le_of_eq rfl) (hb hby at_22) (fun _ _ => ⟨rfl, q7_0, (by decide : 0 + 0 ≤ _), (by decide : 0 + 0 ≤ _)⟩)
  dsimp only [Pt.U, Pt.locs, Pt.cells, Pt.slots] at X9 l9 y9 z9 st9 hQ9
  subst l9 y9 z9
  obtain ⟨rfl, Nq9, q9_0⟩ := hQ9
  have N10 := Fr.app N8 Nq9
  obtain ⟨_, _, ⟨T11, L11, k11, n11⟩, -, X11, ⟨Lc11, hQ11, l11, y11, z11⟩, st11⟩ := Jvm.LawKit.callS X9 hx (y := (⟨"java/lang/Math", "max", "(II)I"⟩ : MethodName)) hown (mvT hZ (hw _ (List.mem_of_getElem? (i := 19) rfl))) (mvT hZ (hw _ (List.mem_of_getElem? (i := 20) rfl))) (mvT hZ (hw _ (List.mem_of_getElem? (i := 21) rfl))) (mvT hZ (hw _ (List.mem_of_getElem? (i := 22) rfl))) (by decide) (backOf (W := 0) (rm4 l Z a0 hw [] (own_rank (own_num p1 wI wD wB) wI wD) (own_rank (own_num p2 wI wD wB) wI wD) h0 n0 Z0) hZ (hw _ (List.mem_of_getElem? (i := 22) rfl)) (hw _ (List.mem_of_getElem? (i := 21) rfl)) (by decide) (by decide)) (g := (mkF m 25 #[.val (.int p1), .val (.int p2), .val (.ref (own_num p1 wI wD wB)), .val (.ref (own_num p2 wI wD wB)), .val (.ref (own_pro (own_num p1 wI wD wB) (own_num p2 wI wD wB) wI wD wB)), .unset] [(.int (own_rank (own_num p2 wI wD wB) wI wD)), (.int (own_rank (own_num p1 wI wD wB) wI wD))])) rfl (by rw [hml]; rfl) (argsL := [(.int (own_rank (own_num p1 wI wD wB) wI wD)), (.int (own_rank (own_num p2 wI wD wB) wI wD))]) (rest := []) (lenOf pd_3 rfl) rfl (by show 2 * 0 + _ ≤ _; exact Nat.le_of_eq rfl) (hb hby at_25) (fun _ _ => ⟨rfl, q9_0, (by decide : 0 + 0 ≤ _), (by decide : 0 + 0 ≤ _)⟩)
  dsimp only [Pt.U, Pt.locs, Pt.cells, Pt.slots] at X11 l11 y11 z11 st11 hQ11
  subst l11 y11 z11
  obtain ⟨rfl, Nq11, q11_0⟩ := hQ11
  have N12 := Fr.app N10 Nq11
  obtain ⟨_, _, ⟨T13, L13, k13, n13⟩, -, X13, ⟨Lc13, hQ13, l13, y13, z13⟩, st13⟩ := Jvm.LawKit.callS X11 hx (y := (⟨"com/example/copse/copse/query/TypePromotionPinLaw", "numeric", "(I)Lcom/example/copse/copse/query/AtomicValue$Type;"⟩ : MethodName)) hown (mvT hZ (hw _ (List.mem_of_getElem? (i := 0) rfl))) (mvT hZ (hw _ (List.mem_of_getElem? (i := 1) rfl))) (mvT hZ (hw _ (List.mem_of_getElem? (i := 2) rfl))) (mvT hZ (hw _ (List.mem_of_getElem? (i := 3) rfl))) (by decide) (backOf (W := 1) (rm1 l Z a0 hw [] (own_max (own_rank (own_num p1 wI wD wB) wI wD) (own_rank (own_num p2 wI wD wB) wI wD)) wI wD wB h0 n0 Z0 O0 SI SD SB) hZ (hw _ (List.mem_of_getElem? (i := 3) rfl)) (hw _ (List.mem_of_getElem? (i := 2) rfl)) (by decide) (by decide)) (g := (mkF m 34 #[.val (.int p1), .val (.int p2), .val (.ref (own_num p1 wI wD wB)), .val (.ref (own_num p2 wI wD wB)), .val (.ref (own_pro (own_num p1 wI wD wB) (own_num p2 wI wD wB) wI wD wB)), .val (.int (own_max (own_rank (own_num p1 wI wD wB) wI wD) (own_rank (own_num p2 wI wD wB) wI wD)))] [(.int (own_max (own_rank (own_num p1 wI wD wB) wI wD) (own_rank (own_num p2 wI wD wB) wI wD))), (.ref (own_pro (own_num p1 wI wD wB) (own_num p2 wI wD wB) wI wD wB))])) rfl (by rw [hml]; rfl) (argsL := [(.int (own_max (own_rank (own_num p1 wI wD wB) wI wD) (own_rank (own_num p2 wI wD wB) wI wD)))]) (rest := [(.ref (own_pro (own_num p1 wI wD wB) (own_num p2 wI wD wB) wI wD wB))]) (lenOf pd_0 rfl) rfl (by show 2 * 0 + _ ≤ _; exact Nat.le_of_eq rfl) (hb hby at_34) (fun _ _ => ⟨rfl, q11_0, (by decide : 0 + 0 ≤ _), (by decide : 0 + 0 ≤ _)⟩)
  dsimp only [Pt.U, Pt.locs, Pt.cells, Pt.slots] at X13 l13 y13 z13 st13 hQ13
  subst l13 y13 z13
  obtain ⟨rfl, Nq13, q13_0⟩ := hQ13
  have N14 := Fr.app N12 Nq13
  have hc15 : (own_pro (own_num p1 wI wD wB) (own_num p2 wI wD wB) wI wD wB) = (own_num (own_max (own_rank (own_num p1 wI wD wB) wI wD) (own_rank (own_num p2 wI wD wB) wI wD)) wI wD wB) := own_law p1 p2 wI wD wB h1 h2 h3
  have pre16 : ∀ t, Steps p.tables e below (T13.setTop (mkF m 45 #[.val (.int p1), .val (.int p2), .val (.ref (own_num p1 wI wD wB)), .val (.ref (own_num p2 wI wD wB)), .val (.ref (own_pro (own_num p1 wI wD wB) (own_num p2 wI wD wB) wI wD wB)), .val (.int (own_max (own_rank (own_num p1 wI wD wB) wI wD) (own_rank (own_num p2 wI wD wB) wI wD)))] [(.int (1 : Int32))])) t → Steps p.tables e below (s₁.setTop (entryFrame m #[(.int p1), (.int p2)] maxLocals)) t := by
    intro t k
    refine pre0 t ?_
    refine XS.iloadN X0.here hx rfl (hb hby at_0) rfl ?_
    show Steps _ _ _ (s₁.setTop (mkF m 1 #[.val (.int p1), .val (.int p2), .unset, .unset, .unset, .unset] [(.int p1)])) _
    refine st1 _ ?_
    show Steps _ _ _ (T1.setTop (mkF m 4 #[.val (.int p1), .val (.int p2), .unset, .unset, .unset, .unset] [(.ref (own_num p1 wI wD wB))])) _
    refine XS.astoreN X1.here hx rfl (hb hby at_4) rfl rfl (l' := #[.val (.int p1), .val (.int p2), .val (.ref (own_num p1 wI wD wB)), .unset, .unset, .unset]) rfl ?_
    show Steps _ _ _ (T1.setTop (mkF m 5 #[.val (.int p1), .val (.int p2), .val (.ref (own_num p1 wI wD wB)), .unset, .unset, .unset] [])) _
    refine XS.iloadN X1.here hx rfl (hb hby at_5) rfl ?_
    show Steps _ _ _ (T1.setTop (mkF m 6 #[.val (.int p1), .val (.int p2), .val (.ref (own_num p1 wI wD wB)), .unset, .unset, .unset] [(.int p2)])) _
    refine st3 _ ?_
    show Steps _ _ _ (T3.setTop (mkF m 9 #[.val (.int p1), .val (.int p2), .val (.ref (own_num p1 wI wD wB)), .unset, .unset, .unset] [(.ref (own_num p2 wI wD wB))])) _
    refine XS.astoreN X3.here hx rfl (hb hby at_9) rfl rfl (l' := #[.val (.int p1), .val (.int p2), .val (.ref (own_num p1 wI wD wB)), .val (.ref (own_num p2 wI wD wB)), .unset, .unset]) rfl ?_
    show Steps _ _ _ (T3.setTop (mkF m 10 #[.val (.int p1), .val (.int p2), .val (.ref (own_num p1 wI wD wB)), .val (.ref (own_num p2 wI wD wB)), .unset, .unset] [])) _
    refine XS.aloadN X3.here hx rfl (hb hby at_10) rfl rfl ?_
    show Steps _ _ _ (T3.setTop (mkF m 11 #[.val (.int p1), .val (.int p2), .val (.ref (own_num p1 wI wD wB)), .val (.ref (own_num p2 wI wD wB)), .unset, .unset] [(.ref (own_num p1 wI wD wB))])) _
    refine XS.aloadN X3.here hx rfl (hb hby at_11) rfl rfl ?_
    show Steps _ _ _ (T3.setTop (mkF m 12 #[.val (.int p1), .val (.int p2), .val (.ref (own_num p1 wI wD wB)), .val (.ref (own_num p2 wI wD wB)), .unset, .unset] [(.ref (own_num p2 wI wD wB)), (.ref (own_num p1 wI wD wB))])) _
    refine st5 _ ?_
    show Steps _ _ _ (T5.setTop (mkF m 15 #[.val (.int p1), .val (.int p2), .val (.ref (own_num p1 wI wD wB)), .val (.ref (own_num p2 wI wD wB)), .unset, .unset] [(.ref (own_pro (own_num p1 wI wD wB) (own_num p2 wI wD wB) wI wD wB))])) _
    refine XS.astore X5.here hx rfl (hb hby at_15) rfl rfl (l' := #[.val (.int p1), .val (.int p2), .val (.ref (own_num p1 wI wD wB)), .val (.ref (own_num p2 wI wD wB)), .val (.ref (own_pro (own_num p1 wI wD wB) (own_num p2 wI wD wB) wI wD wB)), .unset]) rfl ?_
    show Steps _ _ _ (T5.setTop (mkF m 17 #[.val (.int p1), .val (.int p2), .val (.ref (own_num p1 wI wD wB)), .val (.ref (own_num p2 wI wD wB)), .val (.ref (own_pro (own_num p1 wI wD wB) (own_num p2 wI wD wB) wI wD wB)), .unset] [])) _
    refine XS.aloadN X5.here hx rfl (hb hby at_17) rfl rfl ?_
    show Steps _ _ _ (T5.setTop (mkF m 18 #[.val (.int p1), .val (.int p2), .val (.ref (own_num p1 wI wD wB)), .val (.ref (own_num p2 wI wD wB)), .val (.ref (own_pro (own_num p1 wI wD wB) (own_num p2 wI wD wB) wI wD wB)), .unset] [(.ref (own_num p1 wI wD wB))])) _
    refine st7 _ ?_
    show Steps _ _ _ (T7.setTop (mkF m 21 #[.val (.int p1), .val (.int p2), .val (.ref (own_num p1 wI wD wB)), .val (.ref (own_num p2 wI wD wB)), .val (.ref (own_pro (own_num p1 wI wD wB) (own_num p2 wI wD wB) wI wD wB)), .unset] [(.int (own_rank (own_num p1 wI wD wB) wI wD))])) _
    refine XS.aloadN X7.here hx rfl (hb hby at_21) rfl rfl ?_
    show Steps _ _ _ (T7.setTop (mkF m 22 #[.val (.int p1), .val (.int p2), .val (.ref (own_num p1 wI wD wB)), .val (.ref (own_num p2 wI wD wB)), .val (.ref (own_pro (own_num p1 wI wD wB) (own_num p2 wI wD wB) wI wD wB)), .unset] [(.ref (own_num p2 wI wD wB)), (.int (own_rank (own_num p1 wI wD wB) wI wD))])) _
    refine st9 _ ?_
    show Steps _ _ _ (T9.setTop (mkF m 25 #[.val (.int p1), .val (.int p2), .val (.ref (own_num p1 wI wD wB)), .val (.ref (own_num p2 wI wD wB)), .val (.ref (own_pro (own_num p1 wI wD wB) (own_num p2 wI wD wB) wI wD wB)), .unset] [(.int (own_rank (own_num p2 wI wD wB) wI wD)), (.int (own_rank (own_num p1 wI wD wB) wI wD))])) _
    refine st11 _ ?_
    show Steps _ _ _ (T11.setTop (mkF m 28 #[.val (.int p1), .val (.int p2), .val (.ref (own_num p1 wI wD wB)), .val (.ref (own_num p2 wI wD wB)), .val (.ref (own_pro (own_num p1 wI wD wB) (own_num p2 wI wD wB) wI wD wB)), .unset] [(.int (own_max (own_rank (own_num p1 wI wD wB) wI wD) (own_rank (own_num p2 wI wD wB) wI wD)))])) _
    refine XS.istore X11.here hx rfl (hb hby at_28) rfl (l' := #[.val (.int p1), .val (.int p2), .val (.ref (own_num p1 wI wD wB)), .val (.ref (own_num p2 wI wD wB)), .val (.ref (own_pro (own_num p1 wI wD wB) (own_num p2 wI wD wB) wI wD wB)), .val (.int (own_max (own_rank (own_num p1 wI wD wB) wI wD) (own_rank (own_num p2 wI wD wB) wI wD)))]) rfl ?_
    show Steps _ _ _ (T11.setTop (mkF m 30 #[.val (.int p1), .val (.int p2), .val (.ref (own_num p1 wI wD wB)), .val (.ref (own_num p2 wI wD wB)), .val (.ref (own_pro (own_num p1 wI wD wB) (own_num p2 wI wD wB) wI wD wB)), .val (.int (own_max (own_rank (own_num p1 wI wD wB) wI wD) (own_rank (own_num p2 wI wD wB) wI wD)))] [])) _
    refine XS.aload X11.here hx rfl (hb hby at_30) rfl rfl ?_
    show Steps _ _ _ (T11.setTop (mkF m 32 #[.val (.int p1), .val (.int p2), .val (.ref (own_num p1 wI wD wB)), .val (.ref (own_num p2 wI wD wB)), .val (.ref (own_pro (own_num p1 wI wD wB) (own_num p2 wI wD wB) wI wD wB)), .val (.int (own_max (own_rank (own_num p1 wI wD wB) wI wD) (own_rank (own_num p2 wI wD wB) wI wD)))] [(.ref (own_pro (own_num p1 wI wD wB) (own_num p2 wI wD wB) wI wD wB))])) _
    refine XS.iload X11.here hx rfl (hb hby at_32) rfl ?_
    show Steps _ _ _ (T11.setTop (mkF m 34 #[.val (.int p1), .val (.int p2), .val (.ref (own_num p1 wI wD wB)), .val (.ref (own_num p2 wI wD wB)), .val (.ref (own_pro (own_num p1 wI wD wB) (own_num p2 wI wD wB) wI wD wB)), .val (.int (own_max (own_rank (own_num p1 wI wD wB) wI wD) (own_rank (own_num p2 wI wD wB) wI wD)))] [(.int (own_max (own_rank (own_num p1 wI wD wB) wI wD) (own_rank (own_num p2 wI wD wB) wI wD))), (.ref (own_pro (own_num p1 wI wD wB) (own_num p2 wI wD wB) wI wD wB))])) _
    refine st13 _ ?_
    show Steps _ _ _ (T13.setTop (mkF m 37 #[.val (.int p1), .val (.int p2), .val (.ref (own_num p1 wI wD wB)), .val (.ref (own_num p2 wI wD wB)), .val (.ref (own_pro (own_num p1 wI wD wB) (own_num p2 wI wD wB) wI wD wB)), .val (.int (own_max (own_rank (own_num p1 wI wD wB) wI wD) (own_rank (own_num p2 wI wD wB) wI wD)))] [(.ref (own_num (own_max (own_rank (own_num p1 wI wD wB) wI wD) (own_rank (own_num p2 wI wD wB) wI wD)) wI wD wB)), (.ref (own_pro (own_num p1 wI wD wB) (own_num p2 wI wD wB) wI wD wB))])) _
    refine Jvm.RoadKit.acmp (g := (mkF m 37 #[.val (.int p1), .val (.int p2), .val (.ref (own_num p1 wI wD wB)), .val (.ref (own_num p2 wI wD wB)), .val (.ref (own_pro (own_num p1 wI wD wB) (own_num p2 wI wD wB) wI wD wB)), .val (.int (own_max (own_rank (own_num p1 wI wD wB) wI wD) (own_rank (own_num p2 wI wD wB) wI wD)))] [(.ref (own_num (own_max (own_rank (own_num p1 wI wD wB) wI wD) (own_rank (own_num p2 wI wD wB) wI wD)) wI wD wB)), (.ref (own_pro (own_num p1 wI wD wB) (own_num p2 wI wD wB) wI wD wB))])) X13 hx rfl rfl rfl (pc0 := 37) (pc' := 40) (same := true) rfl (hb hby at_37) rfl (decide_eq_true (congrArg Value.ref hc15)) (by decide) (by decide) ?_
    show Steps _ _ _ (T13.setTop (mkF m 40 #[.val (.int p1), .val (.int p2), .val (.ref (own_num p1 wI wD wB)), .val (.ref (own_num p2 wI wD wB)), .val (.ref (own_pro (own_num p1 wI wD wB) (own_num p2 wI wD wB) wI wD wB)), .val (.int (own_max (own_rank (own_num p1 wI wD wB) wI wD) (own_rank (own_num p2 wI wD wB) wI wD)))] [])) _
    refine XS.iconst X13.here hx rfl (hb hby at_40) ?_
    show Steps _ _ _ (T13.setTop (mkF m 41 #[.val (.int p1), .val (.int p2), .val (.ref (own_num p1 wI wD wB)), .val (.ref (own_num p2 wI wD wB)), .val (.ref (own_pro (own_num p1 wI wD wB) (own_num p2 wI wD wB) wI wD wB)), .val (.int (own_max (own_rank (own_num p1 wI wD wB) wI wD) (own_rank (own_num p2 wI wD wB) wI wD)))] [(.int (1 : Int32))])) _
    refine XS.goto X13.here hx rfl (pc0 := 41) (pc' := 45) rfl (hb hby at_41) (by decide) (by decide) ?_
    show Steps _ _ _ (T13.setTop (mkF m 45 #[.val (.int p1), .val (.int p2), .val (.ref (own_num p1 wI wD wB)), .val (.ref (own_num p2 wI wD wB)), .val (.ref (own_pro (own_num p1 wI wD wB) (own_num p2 wI wD wB) wI wD wB)), .val (.int (own_max (own_rank (own_num p1 wI wD wB) wI wD) (own_rank (own_num p2 wI wD wB) wI wD)))] [(.int (1 : Int32))])) _
    exact k
  obtain ⟨fs, hr, hrun, hended, hW, hsame⟩ := X13.leave (v := some (.int (1 : Int32))) (fun h => by rw [Bd.returns] at h; cases h)
  refine ⟨_, _, pre16 _ ?_, hrun, hended, _, _, rfl, ?_, ⟨_, rfl⟩, hW, hsame.mono (by decide) (by decide)⟩
  · exact retN X13 hx (t := .boolean) Bd.returns (by simp) (hb hby at_45) hr
  · show Q_rm0 Z p1 p2 wI wD wB h0 n0 _ T13.heap _
    rw [q13_0]
    exact ⟨rfl, N14, rfl⟩
theorem own_fieldI {args : Array Value} {s : State} {t : Term} {w : Addr} {C n d : String} {k : Int32} (ev : t.eval args s none [] s = some (.ref w)) (h : (Jvm.Cond.eq (Jvm.Term.field t C n d) (Jvm.Term.int k)).value args s none s [] = some true) : s.fieldOf? w C n d = some (.int k) := by
  obtain ⟨x, y, e1, e2, e3, e4⟩ := cmp_v (Or.inl h)
  rw [fld_at ev] at e1
  rw [Term.int_eval] at e2
  cases e2
  obtain ⟨z, rfl⟩ := e4
  have q := gotT (Cond.eq_ints ((fld_at ev).trans e1) (Term.int_eval k)) h
  rw [e1, q]
set_option maxRecDepth 65536 in
set_option maxHeartbeats 40000000 in
theorem comes_1 {Post : Tables → Env → Array Value → State → Outcome → State → Prop} (hpost : ∀ tb e args s v u, (limb_1_1.after args s (.returned v) u = true ∧ limb_1_2.after args s (.returned v) u = true ∧ True) → FrameEnd s (.returned v) u (Jvm.fieldLocs frame_1_writes args s ++ Jvm.arrayLocs frame_1_arrays args s ++ Jvm.staticLocs frame_1_statics s) 0 0 → Post tb e args s (.returned v) u) :
    ArmFor flags0 classFile x code maxLocals ret World_1 tables_1 room_1 Calls_1 rest_1 Pre_1 Post := by
  intro l hfl _ _ p e ha hc hk s m args below hf hA hF happ hP
  obtain ⟨hcalls, hrest, hpre⟩ := hP
  obtain ⟨-, -, -, hnamed, -, -, -, hat⟩ := (Spec.applies_iff hf).mp happ
  obtain ⟨hg, hn⟩ := and_e (Cond.before_iff.mp (show (Jvm.Cond.and given_1 narrow_1).before args s = true from hpre))
  obtain ⟨g0, r0⟩ := and_e hg
  obtain ⟨g1, r1⟩ := and_e r0
  obtain ⟨w0, w1, rfl⟩ : ∃ w0 w1 : Value, args = #[w0, w1] := by
    have hs : args.size = 2 := by simpa [Cond.value, given_1] using g0
    obtain ⟨L⟩ := args
    match L, hs with
    | [w0, w1], _ => exact ⟨w0, w1, rfl⟩
  have hw := fun d (hd : d ∈ tables_1) => atoms_spec (ws := Jvm.Cond.code x code maxLocals ret :: tables_1) hat d (List.mem_cons_of_mem _ hd)
  have hfit : Fit s := fun {y c} hc i hi => by
    obtain ⟨ha, rfl⟩ := Array.getElem?_eq_some_iff.mp hc
    have q := List.all_eq_true.mp ((Array.all_eq_true_iff_forall_mem.mp hF) _ (Array.getElem_mem ha)) i (List.mem_range.mpr hi)
    simpa [Array.getElem?_eq_getElem hi] using q
  obtain ⟨i0, ei0⟩ := is_v g1
  obtain rfl : w0 = (.int i0) := Option.some.inj ei0
  obtain ⟨i1, ei1⟩ := is_v r1
  obtain rfl : w1 = (.int i1) := Option.some.inj ei1
  obtain ⟨x1, hn⟩ := and_e hn
  obtain ⟨x2, hn⟩ := and_e hn
  obtain ⟨x3, hn⟩ := and_e hn
  obtain ⟨x4, hn⟩ := and_e hn
  obtain ⟨x5, x6⟩ := and_e hn
  obtain ⟨wI, eI⟩ := exa_v x1
  obtain ⟨wB, eB⟩ := exa_v x2
  obtain ⟨wD, eD⟩ := exa_v x5
  have SI := Sta.start eI (Or.inr ⟨(hw _ (List.mem_of_getElem? (i := 6) rfl)), (hw _ (List.mem_of_getElem? (i := 7) rfl))⟩)
  have SB := Sta.start eB (Or.inr ⟨(hw _ (List.mem_of_getElem? (i := 6) rfl)), (hw _ (List.mem_of_getElem? (i := 12) rfl))⟩)
  have SD := Sta.start eD (Or.inr ⟨(hw _ (List.mem_of_getElem? (i := 6) rfl)), (hw _ (List.mem_of_getElem? (i := 14) rfl))⟩)
  have oI := own_fieldI eI x3
  have oB := own_fieldI eB x4
  have oD := own_fieldI eD x6
  have n1 : wI ≠ wD := fun q => by subst q; rw [oI] at oD; exact absurd (Value.int.inj (Option.some.inj oD)) (by decide)
  have n2 : wI ≠ wB := fun q => by subst q; rw [oI] at oB; exact absurd (Value.int.inj (Option.some.inj oB)) (by decide)
  have n3 : wD ≠ wB := fun q => by subst q; rw [oD] at oB; exact absurd (Value.int.inj (Option.some.inj oB)) (by decide)
  obtain ⟨n, o, h1, h2, h3, _, L, rfl, ⟨rfl, N, -⟩, hq⟩ := rm0 l s _ hw tables_1 i0 i1 wI wD wB s.heap s.heap.size (Nat.le_refl _) (Old.start s) SI SD SB n1 n2 n3 p e ha hc hk s m _ below hf ((Spec.applies_iff_loose hf).mp happ).1 ⟨rfl, State.Warmed39.refl s, rfl⟩ trivial
  refine ⟨n, _, h1, h2, h3, hpost _ _ _ _ _ _ ⟨Cond.after_iff.mpr rfl, Cond.after_iff.mpr (eq_i res_at (Term.int_eval (1)) rfl), trivial⟩ ⟨hq.1, hq.2.1, (hq.2.2.sift fun y hy => Or.inr (N y hy)).mono (by decide) (by decide)⟩⟩
theorem main_1_1 : Claimed_1_1 := comes_1 fun _ _ _ _ _ _ h hF => ⟨h.1, hF⟩
theorem main_1_2 : Claimed_1_2 := comes_1 fun _ _ _ _ _ _ h hF => ⟨h.2.1, hF⟩
end Jvm.Pilot.@@N@@
namespace Jvm.Pilot.@@N@@
open Jvm Jvm.ClassFile Sem Op Lib Jvm.Free Jvm.Stand Jvm.Pilot.@@N@@.Jvm.D
/-! MADE BY PROGRAM (witnessworld.py) out of the Statement's table words and the real class files: 13 classes; the members and pool entries that the words name. The judged class is class 1, her method 3. -/
namespace start1
open Jvm.ClassFile
def u (s : String) : CpInfo := .utf8 (stringToUtf16 s)
/-- a pool by its gaps: so many unusable entries, then the entry; so many at the end -/
def gap : Nat → List CpInfo → List CpInfo
  | 0, r => r
  | n + 1, r => .unusable :: gap n r
def poolList (es : List (Nat × CpInfo)) (last : Nat) : List CpInfo := es.foldr (fun e r => gap e.1 (e.2 :: r)) (gap last [])
def pool (es : List (Nat × CpInfo)) (last : Nat) : Array CpInfo := ⟨poolList es last⟩
def fileOf (pool : Array CpInfo) (this : Nat) (attrs : Array Attribute := #[]) (ms : Array MethodInfo := #[]) (fl : Nat := 33) (sup : Nat := 0) (ifs : Array Nat := #[]) (fds : Array FieldInfo := #[]) : ClassFile where
  minorVersion := 0
  majorVersion := 65
  constantPool := pool
  accessFlags := fl
  thisClass := this
  superClass := sup
  interfaces := ifs
  fields := fds
  methods := ms
  attributes := attrs
def plain (name : String) (sup : Option ClassId) : Class where
  name := name
  kind := .ordinary
  loader := none
  accessFlags := 33
  super := sup
  interfaces := #[]
  cf := none
  fields := #[]
  methods := #[]
  instanceTypes := #[]
  staticTypes := #[]
  resolved := #[]
  callSites := []
  init := .initialized
  statics := none
  mirror := none

def pool0 : Array CpInfo := pool [(5, u "<init>"), (0, u "()V"), (1, .class_ 10), (1, u "java/lang/Object")] 113

def k0m0 : Method := { name := "<init>", desc := "()V", sig := { parameters := [], returnType := none }, accessFlags := 1, code := none }
/-- java/lang/Object -/
def k0 : Class := { plain "java/lang/Object" none with
  accessFlags := 33
  interfaces := #[]
  cf := some (fileOf pool0 8 #[] #[{ accessFlags := 1, nameIndex := 5, descriptorIndex := 6, attributes := #[] }] 33 0 #[] #[])
  fields := #[]
  methods := #[k0m0]
  instanceTypes := #[]
  staticTypes := #[]
  resolved := Array.replicate 124 none
  statics := none }

def pool1 : Array CpInfo := pool [(2, .class_ 4), (1, u "java/lang/Object"), (0, u "<init>"), (0, u "()V"), (0, .integer 2147483647), (0, .fieldref 9 10), (0, .class_ 11), (0, .nameAndType 12 13), (0, u "com/example/copse/copse/query/AtomicValue$Type"), (0, u "INTEGER"), (0, u "Lcom/example/copse/copse/query/AtomicValue$Type;"), (0, .fieldref 9 15), (0, .nameAndType 16 13), (0, u "DECIMAL"), (0, .fieldref 9 18), (0, .nameAndType 19 13), (0, u "DOUBLE"), (0, .methodref 21 22), (0, .class_ 23), (0, .nameAndType 24 25), (0, u "com/example/copse/copse/query/TypePromotionPinLaw"), (0, u "numeric"), (0, u "(I)Lcom/example/copse/copse/query/AtomicValue$Type;"), (0, .methodref 9 27), (0, .nameAndType 28 29), (0, u "promotion"), (0, u "(Lcom/example/copse/copse/query/AtomicValue$Type;Lcom/example/copse/copse/query/AtomicValue$Type;)Lcom/example/copse/copse/query/AtomicValue$Type;"), (0, .methodref 21 31), (0, .nameAndType 32 33), (0, u "rank"), (0, u "(Lcom/example/copse/copse/query/AtomicValue$Type;)I"), (0, .methodref 35 36), (0, .class_ 37), (0, .nameAndType 38 39), (0, u "java/lang/Math"), (0, u "max"), (0, u "(II)I"), (3, u "law"), (0, u "(II)Z")] 6

def k1m0 : Method := { name := "<init>", desc := "()V", sig := { parameters := [], returnType := none }, accessFlags := 1, code := none }
def k1c1 : Code := { maxStack := 2, maxLocals := 2, code := method_2_code, exceptionTable := #[], attributes := #[] }
def k1m1 : Method := { name := "numeric", desc := "(I)Lcom/example/copse/copse/query/AtomicValue$Type;", sig := { parameters := [.int], returnType := some (.object "com/example/copse/copse/query/AtomicValue$Type") }, accessFlags := 10, code := some k1c1 }
def k1c2 : Code := { maxStack := 2, maxLocals := 1, code := method_3_code, exceptionTable := #[], attributes := #[] }
def k1m2 : Method := { name := "rank", desc := "(Lcom/example/copse/copse/query/AtomicValue$Type;)I", sig := { parameters := [(.object "com/example/copse/copse/query/AtomicValue$Type")], returnType := some .int }, accessFlags := 10, code := some k1c2 }
def k1c3 : Code := { maxStack := 2, maxLocals := 6, code := code, exceptionTable := #[], attributes := #[] }
def k1m3 : Method := { name := "law", desc := "(II)Z", sig := { parameters := [.int, .int], returnType := some .boolean }, accessFlags := 9, code := some k1c3 }
/-- com/example/copse/copse/query/TypePromotionPinLaw -/
def k1 : Class := { plain "com/example/copse/copse/query/TypePromotionPinLaw" (some 0) with
  accessFlags := 49
  interfaces := #[]
  cf := some (fileOf pool1 21 #[] #[{ accessFlags := 1, nameIndex := 5, descriptorIndex := 6, attributes := #[] }, { accessFlags := 10, nameIndex := 24, descriptorIndex := 25, attributes := #[] }, { accessFlags := 10, nameIndex := 32, descriptorIndex := 33, attributes := #[] }, { accessFlags := 9, nameIndex := 43, descriptorIndex := 44, attributes := #[] }] 49 2 #[] #[])
  fields := #[]
  methods := #[k1m0, k1m1, k1m2, k1m3]
  instanceTypes := #[]
  staticTypes := #[]
  resolved := Array.replicate 51 none
  statics := none }

def pool2 : Array CpInfo := pool [(1, .class_ 2), (0, u "java/lang/constant/Constable"), (0, .class_ 4), (0, u "java/lang/Object")] 6

/-- java/lang/constant/Constable -/
def k2 : Class := { plain "java/lang/constant/Constable" (some 0) with
  accessFlags := 1537
  interfaces := #[]
  cf := some (fileOf pool2 1 #[] #[] 1537 3 #[] #[])
  fields := #[]
  methods := #[]
  instanceTypes := #[]
  staticTypes := #[]
  resolved := Array.replicate 11 none
  statics := none }

def pool3 : Array CpInfo := pool [(1, .class_ 2), (0, u "java/lang/Comparable"), (0, .class_ 4), (0, u "java/lang/Object")] 7

/-- java/lang/Comparable -/
def k3 : Class := { plain "java/lang/Comparable" (some 0) with
  accessFlags := 1537
  interfaces := #[]
  cf := some (fileOf pool3 1 #[] #[] 1537 3 #[] #[])
  fields := #[]
  methods := #[]
  instanceTypes := #[]
  staticTypes := #[]
  resolved := Array.replicate 12 none
  statics := none }

def pool4 : Array CpInfo := pool [(1, .class_ 2), (0, u "java/io/Serializable"), (0, .class_ 4), (0, u "java/lang/Object")] 2

/-- java/io/Serializable -/
def k4 : Class := { plain "java/io/Serializable" (some 0) with
  accessFlags := 1537
  interfaces := #[]
  cf := some (fileOf pool4 1 #[] #[] 1537 3 #[] #[])
  fields := #[]
  methods := #[]
  instanceTypes := #[]
  staticTypes := #[]
  resolved := Array.replicate 7 none
  statics := none }

def pool5 : Array CpInfo := pool [(2, .class_ 4), (1, u "java/lang/Enum"), (0, u "name"), (0, u "Ljava/lang/String;"), (2, u "ordinal"), (0, u "I"), (1, .class_ 14), (1, u "java/lang/Object"), (4, u "hash"), (86, .class_ 108), (1, u "java/lang/Enum$EnumDesc"), (2, .class_ 112), (0, u "java/lang/constant/Constable"), (0, .class_ 114), (0, u "java/lang/Comparable"), (0, .class_ 116), (0, u "java/io/Serializable")] 87

/-- java/lang/Enum -/
def k5 : Class := { plain "java/lang/Enum" (some 0) with
  accessFlags := 1057
  interfaces := #[2, 3, 4]
  cf := some (fileOf pool5 2 #[.nestMembers #[106]] #[] 1057 12 #[111, 113, 115] #[{ accessFlags := 18, nameIndex := 5, descriptorIndex := 6, attributes := #[] }, { accessFlags := 18, nameIndex := 9, descriptorIndex := 10, attributes := #[] }, { accessFlags := 2, nameIndex := 19, descriptorIndex := 10, attributes := #[] }])
  fields := #[{ name := "name", type := (.object "java/lang/String"), accessFlags := 18, slot := 0, constantValue := 0 }, { name := "ordinal", type := .int, accessFlags := 18, slot := 1, constantValue := 0 }, { name := "hash", type := .int, accessFlags := 2, slot := 2, constantValue := 0 }]
  methods := #[]
  instanceTypes := #[(.object "java/lang/String"), .int, .int]
  staticTypes := #[]
  resolved := Array.replicate 204 none
  statics := none }

def pool6 : Array CpInfo := pool [(1, .class_ 2), (0, u "com/example/copse/copse/query/AtomicValue$Type"), (2, u "STRING"), (0, u "Lcom/example/copse/copse/query/AtomicValue$Type;"), (2, u "UNTYPED_ATOMIC"), (2, u "BOOLEAN"), (0, .fieldref 1 14), (0, .nameAndType 15 6), (0, u "INTEGER"), (0, .fieldref 1 17), (0, .nameAndType 18 6), (0, u "DECIMAL"), (0, .fieldref 1 20), (0, .nameAndType 21 6), (0, u "DOUBLE"), (2, u "$VALUES"), (0, u "[Lcom/example/copse/copse/query/AtomicValue$Type;"), (6, .class_ 34), (1, u "java/lang/Enum"), (8, u "qualifiedName"), (0, u "Ljava/lang/String;"), (48, u "promotion"), (0, u "(Lcom/example/copse/copse/query/AtomicValue$Type;Lcom/example/copse/copse/query/AtomicValue$Type;)Lcom/example/copse/copse/query/AtomicValue$Type;"), (8, .class_ 104), (0, u "com/example/copse/copse/query/AtomicValue")] 16

def k6c0 : Code := { maxStack := 2, maxLocals := 3, code := prog_10_method_6_code, exceptionTable := #[], attributes := #[] }
def k6m0 : Method := { name := "promotion", desc := "(Lcom/example/copse/copse/query/AtomicValue$Type;Lcom/example/copse/copse/query/AtomicValue$Type;)Lcom/example/copse/copse/query/AtomicValue$Type;", sig := { parameters := [(.object "com/example/copse/copse/query/AtomicValue$Type"), (.object "com/example/copse/copse/query/AtomicValue$Type")], returnType := some (.object "com/example/copse/copse/query/AtomicValue$Type") }, accessFlags := 8, code := some k6c0 }
/-- com/example/copse/copse/query/AtomicValue$Type -/
def k6 : Class := { plain "com/example/copse/copse/query/AtomicValue$Type" (some 5) with
  accessFlags := 16432
  interfaces := #[]
  cf := some (fileOf pool6 1 #[.nestHost 103] #[{ accessFlags := 8, nameIndex := 93, descriptorIndex := 94, attributes := #[] }] 16432 32 #[] #[{ accessFlags := 16409, nameIndex := 5, descriptorIndex := 6, attributes := #[] }, { accessFlags := 16409, nameIndex := 9, descriptorIndex := 6, attributes := #[] }, { accessFlags := 16409, nameIndex := 12, descriptorIndex := 6, attributes := #[] }, { accessFlags := 16409, nameIndex := 15, descriptorIndex := 6, attributes := #[] }, { accessFlags := 16409, nameIndex := 18, descriptorIndex := 6, attributes := #[] }, { accessFlags := 16409, nameIndex := 21, descriptorIndex := 6, attributes := #[] }, { accessFlags := 18, nameIndex := 43, descriptorIndex := 44, attributes := #[] }, { accessFlags := 4122, nameIndex := 24, descriptorIndex := 25, attributes := #[] }])
  fields := #[{ name := "STRING", type := (.object "com/example/copse/copse/query/AtomicValue$Type"), accessFlags := 16409, slot := 0, constantValue := 0 }, { name := "UNTYPED_ATOMIC", type := (.object "com/example/copse/copse/query/AtomicValue$Type"), accessFlags := 16409, slot := 1, constantValue := 0 }, { name := "BOOLEAN", type := (.object "com/example/copse/copse/query/AtomicValue$Type"), accessFlags := 16409, slot := 2, constantValue := 0 }, { name := "INTEGER", type := (.object "com/example/copse/copse/query/AtomicValue$Type"), accessFlags := 16409, slot := 3, constantValue := 0 }, { name := "DECIMAL", type := (.object "com/example/copse/copse/query/AtomicValue$Type"), accessFlags := 16409, slot := 4, constantValue := 0 }, { name := "DOUBLE", type := (.object "com/example/copse/copse/query/AtomicValue$Type"), accessFlags := 16409, slot := 5, constantValue := 0 }, { name := "qualifiedName", type := (.object "java/lang/String"), accessFlags := 18, slot := 3, constantValue := 0 }, { name := "$VALUES", type := (.array (.object "com/example/copse/copse/query/AtomicValue$Type")), accessFlags := 4122, slot := 6, constantValue := 0 }]
  methods := #[k6m0]
  instanceTypes := #[(.object "java/lang/String"), .int, .int, (.object "java/lang/String")]
  staticTypes := #[(.object "com/example/copse/copse/query/AtomicValue$Type"), (.object "com/example/copse/copse/query/AtomicValue$Type"), (.object "com/example/copse/copse/query/AtomicValue$Type"), (.object "com/example/copse/copse/query/AtomicValue$Type"), (.object "com/example/copse/copse/query/AtomicValue$Type"), (.object "com/example/copse/copse/query/AtomicValue$Type"), (.array (.object "com/example/copse/copse/query/AtomicValue$Type"))]
  resolved := Array.replicate 121 none
  statics := some 0 }

def pool7 : Array CpInfo := pool [(1, .class_ 2), (0, u "java/lang/Math"), (1, .class_ 6), (1, u "java/lang/Object"), (0, u "<init>"), (0, u "()V"), (89, .class_ 100), (1, u "java/lang/Math$RandomNumberGeneratorHolder"), (71, u "negativeZeroFloatBits"), (0, u "J"), (2, u "negativeZeroDoubleBits"), (21, u "max"), (46, u "$assertionsDisabled"), (0, u "Z"), (88, u "(II)I"), (2, u "twoToTheDoubleScaleDown"), (0, u "D"), (4, u "twoToTheDoubleScaleUp"), (9, u "E"), (3, u "PI"), (2, u "TAU"), (2, u "DEGREES_TO_RADIANS"), (0, u "RADIANS_TO_DEGREES")] 94

def k7m0 : Method := { name := "<init>", desc := "()V", sig := { parameters := [], returnType := none }, accessFlags := 2, code := none }
def k7c1 : Code := { maxStack := 2, maxLocals := 2, code := jdk_29_method_65_code, exceptionTable := #[], attributes := #[] }
def k7m1 : Method := { name := "max", desc := "(II)I", sig := { parameters := [.int, .int], returnType := some .int }, accessFlags := 9, code := some k7c1 }
/-- java/lang/Math -/
def k7 : Class := { plain "java/lang/Math" (some 0) with
  accessFlags := 49
  interfaces := #[]
  cf := some (fileOf pool7 1 #[.nestMembers #[98]] #[{ accessFlags := 2, nameIndex := 7, descriptorIndex := 8, attributes := #[] }, { accessFlags := 9, nameIndex := 198, descriptorIndex := 335, attributes := #[] }] 49 4 #[] #[{ accessFlags := 25, nameIndex := 354, descriptorIndex := 339, attributes := #[] }, { accessFlags := 25, nameIndex := 358, descriptorIndex := 339, attributes := #[] }, { accessFlags := 25, nameIndex := 361, descriptorIndex := 339, attributes := #[] }, { accessFlags := 26, nameIndex := 364, descriptorIndex := 339, attributes := #[] }, { accessFlags := 26, nameIndex := 365, descriptorIndex := 339, attributes := #[] }, { accessFlags := 26, nameIndex := 172, descriptorIndex := 173, attributes := #[] }, { accessFlags := 26, nameIndex := 176, descriptorIndex := 173, attributes := #[] }, { accessFlags := 8, nameIndex := 344, descriptorIndex := 339, attributes := #[] }, { accessFlags := 8, nameIndex := 338, descriptorIndex := 339, attributes := #[] }, { accessFlags := 4120, nameIndex := 245, descriptorIndex := 246, attributes := #[] }])
  fields := #[{ name := "E", type := .double, accessFlags := 25, slot := 0, constantValue := 0 }, { name := "PI", type := .double, accessFlags := 25, slot := 1, constantValue := 0 }, { name := "TAU", type := .double, accessFlags := 25, slot := 2, constantValue := 0 }, { name := "DEGREES_TO_RADIANS", type := .double, accessFlags := 26, slot := 3, constantValue := 0 }, { name := "RADIANS_TO_DEGREES", type := .double, accessFlags := 26, slot := 4, constantValue := 0 }, { name := "negativeZeroFloatBits", type := .long, accessFlags := 26, slot := 5, constantValue := 0 }, { name := "negativeZeroDoubleBits", type := .long, accessFlags := 26, slot := 6, constantValue := 0 }, { name := "twoToTheDoubleScaleUp", type := .double, accessFlags := 8, slot := 7, constantValue := 0 }, { name := "twoToTheDoubleScaleDown", type := .double, accessFlags := 8, slot := 8, constantValue := 0 }, { name := "$assertionsDisabled", type := .boolean, accessFlags := 4120, slot := 9, constantValue := 0 }]
  methods := #[k7m0, k7m1]
  instanceTypes := #[]
  staticTypes := #[.double, .double, .double, .double, .double, .long, .long, .double, .double, .boolean]
  resolved := Array.replicate 460 none
  statics := none }

def pool8 : Array CpInfo := pool [(1, u "java/lang/Cloneable"), (0, .class_ 1), (0, u "java/lang/Object"), (0, .class_ 3)] 3

/-- java/lang/Cloneable -/
def k8 : Class := { plain "java/lang/Cloneable" (some 0) with
  accessFlags := 1537
  interfaces := #[]
  cf := some (fileOf pool8 2 #[] #[] 1537 4 #[] #[])
  fields := #[]
  methods := #[]
  instanceTypes := #[]
  staticTypes := #[]
  resolved := Array.replicate 8 none
  statics := none }

/-- the primitive byte -/
def k9 : Class := { plain "byte" none with kind := .primitive 'B', accessFlags := 0x411 }
/-- [B -/
def k10 : Class := { plain "[B" (some 0) with kind := .array 9 .byte, interfaces := #[8, 4], accessFlags := 1041 }

/-- the primitive int -/
def k11 : Class := { plain "int" none with kind := .primitive 'I', accessFlags := 0x411 }
/-- [I -/
def k12 : Class := { plain "[I" (some 0) with kind := .array 11 .int, interfaces := #[8, 4], accessFlags := 1041 }

def heap : Heap := #[{ cls := 6, slots := #[.null, .null, .null, .ref 1, .ref 2, .ref 3, .null], vm := .statics 6 },
  { cls := 6, slots := #[.null, .int 3, .int 0, .null], vm := .none },
  { cls := 6, slots := #[.null, .int 4, .int 0, .null], vm := .none },
  { cls := 6, slots := #[.null, .int 5, .int 0, .null], vm := .none }]
def classes : Array Class := #[k0, k1, k2, k3, k4, k5, k6, k7, k8, k9, k10, k11, k12]
def interned : List (Array UInt16 × Addr) := []
def slotsUsed : Nat := 19
def theMethod : MethodId := ⟨1, 3⟩
def args0 : Array Value := #[.int 5, .int 1]
def aboutOver (below : List Frame) : State where
  vm := { classes := classes, interned := interned.toArray }
  heap := heap
  slotsUsed := slotsUsed
  threads := #[{ frames := .invoking theMethod args0 :: below }]
def below0 : List Frame := [.native { method := ⟨0, 0⟩, args := #[] }]
def about1 : State := aboutOver below0
def p0 : Program := .bare "" "" ""
def e0 : Env := launch0.env 0 0 0
theorem w_frames : about1.frames = Frame.invoking theMethod args0 :: below0 := rfl
set_option maxRecDepth 65536 in
theorem w_args : argsFit about1.vm theMethod args0 = true := by decide +kernel
set_option maxRecDepth 65536 in
theorem w_heap : heapFits about1 = true := by decide +kernel
set_option maxRecDepth 65536 in
theorem w_runnable : about1.curStatus? = some .runnable := by decide +kernel
set_option maxRecDepth 65536 in
theorem w_alone : about1.alone = true := by decide +kernel
set_option maxRecDepth 65536 in
theorem w_named : about1.methodNamed? x = some theMethod := by decide +kernel
set_option maxRecDepth 65536 in
theorem w_hears : about1.hears theMethod below0 = true := by decide +kernel
set_option maxRecDepth 65536 in
theorem w_ripe : about1.ripe theMethod args0 below0 = true := by decide +kernel
theorem w_running : about1.status = .running := rfl
set_option maxRecDepth 65536 in
theorem w_room : about1.hasRoom e0.platform room_1 = true :=
  launch0.hasRoom_least _ room_1 (by decide +kernel) (by decide +kernel) (by decide +kernel) (by decide +kernel) (by decide +kernel) (by decide +kernel)
theorem allAtoms_all (ts : List Jvm.Cond) (a : Array Jvm.Value) (st : Jvm.State) : (allAtoms ts).before a st = ts.all (fun c => c.before a st) := by
  induction ts with
  | nil => rfl
  | cons c t ih =>
    show (Jvm.Cond.and c (allAtoms t)).before a st = _
    rw [Jvm.Cond.before_and, ih, List.all_cons]
def words1 : List Jvm.Cond := Jvm.Cond.code x code maxLocals ret :: tables_1
/-- a 'code' word, met by the world's own term for the bytes: nothing is compared byte by byte -/
theorem code_word {y : MethodName} {bytes : ByteArray} {mx : Nat} {rt : Option FieldType} {a : Array Value} {s : State} {m : MethodId} {meth : Method} {c : Code} (h1 : s.methodNamed? y = some m) (h2 : s.vm.method? m = some meth) (h3 : meth.code = some c) (h4 : c.code = bytes)
    (h5 : (c.maxLocals == mx && c.exceptionTable.isEmpty && decide (c.maxStack ≤ mostOperands) && decide (meth.sig.returnType = rt) && !meth.locks && decide (parseMethodDescriptor y.desc = some meth.sig)) = true) : (Jvm.Cond.code y bytes mx rt).before a s = true := by
  simp only [Bool.and_eq_true, beq_iff_eq, Bool.not_eq_true', decide_eq_true_eq] at h5
  obtain ⟨⟨⟨⟨⟨g1, g2⟩, g3⟩, g4⟩, g5⟩, g6⟩ := h5
  simp [Cond.before, Cond.holds, Cond.value, h1, h2, h3, h4, g1, g2, g3, g4, g5, g6]
def isCode : Jvm.Cond → Bool
  | .code _ _ _ _ => true
  | _ => false
theorem all_split {L : List Jvm.Cond} {P : Jvm.Cond → Bool} (h1 : L.all (fun c => isCode c || P c) = true) (h2 : ∀ c ∈ L.filter isCode, P c = true) : L.all P = true := by
  refine List.all_eq_true.mpr fun c hc => ?_
  have h := List.all_eq_true.mp h1 c hc
  rcases Bool.eq_false_or_eq_true (isCode c) with hi | hi
  · exact h2 c (List.mem_filter.mpr ⟨hc, hi⟩)
  · simpa [hi] using h
set_option maxRecDepth 65536 in
theorem w_c0 : (Jvm.Cond.code x code maxLocals ret).before args0 about1 = true := code_word (m := ⟨1, 3⟩) (meth := k1m3) (c := k1c3) (by decide +kernel) rfl rfl rfl (by decide +kernel)
set_option maxRecDepth 65536 in
theorem w_c1 : (Jvm.Cond.code ({ cls := "com/example/copse/copse/query/TypePromotionPinLaw", name := "numeric", desc := "(I)Lcom/example/copse/copse/query/AtomicValue$Type;" } : Jvm.MethodName) method_2_code (2 : Nat) (Option.some (Jvm.ClassFile.FieldType.object "com/example/copse/copse/query/AtomicValue$Type"))).before args0 about1 = true := code_word (m := ⟨1, 1⟩) (meth := k1m1) (c := k1c1) (by decide +kernel) rfl rfl rfl (by decide +kernel)
set_option maxRecDepth 65536 in
theorem w_c2 : (Jvm.Cond.code ({ cls := "com/example/copse/copse/query/AtomicValue$Type", name := "promotion", desc := "(Lcom/example/copse/copse/query/AtomicValue$Type;Lcom/example/copse/copse/query/AtomicValue$Type;)Lcom/example/copse/copse/query/AtomicValue$Type;" } : Jvm.MethodName) prog_10_method_6_code (3 : Nat) (Option.some (Jvm.ClassFile.FieldType.object "com/example/copse/copse/query/AtomicValue$Type"))).before args0 about1 = true := code_word (m := ⟨6, 0⟩) (meth := k6m0) (c := k6c0) (by decide +kernel) rfl rfl rfl (by decide +kernel)
set_option maxRecDepth 65536 in
theorem w_c3 : (Jvm.Cond.code ({ cls := "com/example/copse/copse/query/TypePromotionPinLaw", name := "rank", desc := "(Lcom/example/copse/copse/query/AtomicValue$Type;)I" } : Jvm.MethodName) method_3_code (1 : Nat) (Option.some Jvm.ClassFile.FieldType.int)).before args0 about1 = true := code_word (m := ⟨1, 2⟩) (meth := k1m2) (c := k1c2) (by decide +kernel) rfl rfl rfl (by decide +kernel)
set_option maxRecDepth 65536 in
theorem w_c4 : (Jvm.Cond.code ({ cls := "java/lang/Math", name := "max", desc := "(II)I" } : Jvm.MethodName) jdk_29_method_65_code (2 : Nat) (Option.some Jvm.ClassFile.FieldType.int)).before args0 about1 = true := code_word (m := ⟨7, 1⟩) (meth := k7m1) (c := k7c1) (by decide +kernel) rfl rfl rfl (by decide +kernel)
def codes1 : List Jvm.Cond := [Jvm.Cond.code x code maxLocals ret, Jvm.Cond.code ({ cls := "com/example/copse/copse/query/TypePromotionPinLaw", name := "numeric", desc := "(I)Lcom/example/copse/copse/query/AtomicValue$Type;" } : Jvm.MethodName) method_2_code (2 : Nat) (Option.some (Jvm.ClassFile.FieldType.object "com/example/copse/copse/query/AtomicValue$Type")), Jvm.Cond.code ({ cls := "com/example/copse/copse/query/AtomicValue$Type", name := "promotion", desc := "(Lcom/example/copse/copse/query/AtomicValue$Type;Lcom/example/copse/copse/query/AtomicValue$Type;)Lcom/example/copse/copse/query/AtomicValue$Type;" } : Jvm.MethodName) prog_10_method_6_code (3 : Nat) (Option.some (Jvm.ClassFile.FieldType.object "com/example/copse/copse/query/AtomicValue$Type")), Jvm.Cond.code ({ cls := "com/example/copse/copse/query/TypePromotionPinLaw", name := "rank", desc := "(Lcom/example/copse/copse/query/AtomicValue$Type;)I" } : Jvm.MethodName) method_3_code (1 : Nat) (Option.some Jvm.ClassFile.FieldType.int), Jvm.Cond.code ({ cls := "java/lang/Math", name := "max", desc := "(II)I" } : Jvm.MethodName) jdk_29_method_65_code (2 : Nat) (Option.some Jvm.ClassFile.FieldType.int)]
set_option maxRecDepth 65536 in
theorem codes_eq : words1.filter isCode = codes1 := rfl
theorem w_codes : ∀ c ∈ words1.filter isCode, c.before args0 about1 = true := by
  rw [codes_eq]
  intro c hc
  simp only [codes1, List.mem_cons, List.not_mem_nil, or_false] at hc
  rcases hc with rfl | rfl | rfl | rfl | rfl
  · exact w_c0
  · exact w_c1
  · exact w_c2
  · exact w_c3
  · exact w_c4
set_option maxRecDepth 65536 in
theorem w_t1 : (words1.take 24).all (fun c => isCode c || c.before args0 about1) = true := by decide +kernel
set_option maxRecDepth 65536 in
theorem w_t2 : (words1.drop 24).all (fun c => isCode c || c.before args0 about1) = true := by decide +kernel
theorem w_tables : (allAtoms (Jvm.Cond.code x code maxLocals ret :: tables_1)).before args0 about1 = true := by
  rw [allAtoms_all]
  show words1.all (fun c => c.before args0 about1) = true
  refine all_split ?_ w_codes
  rw [← List.take_append_drop 24 words1, List.all_append, w_t1, w_t2]
  rfl
set_option maxRecDepth 65536 in
theorem w_case : (Jvm.Cond.and given_1 narrow_1).before args0 about1 = true := by decide +kernel
theorem w_applies : (headSpec (Jvm.Cond.code x code maxLocals ret :: tables_1) room_1).applies x e0.platform about1 = true :=
  (Spec.applies_iff w_frames).mpr ⟨w_running, w_runnable, w_alone, w_named, w_hears, w_ripe, w_room, w_tables⟩
theorem atStart : AtStart classFile x code maxLocals ret World_1 tables_1 room_1 Calls_1 rest_1 Pre_1 launch0 p0 e0 about1 theMethod args0 below0 :=
  ⟨lists_1, trivial, launch0.admits_env _ _ _, launch0.least_env, fairChoices_fair.cas, fairChoices_fair.clock, w_frames, w_args, w_heap, w_applies, trivial, trivial, w_case⟩
end start1
theorem witness_1 : WitnessClaimed_1 := ⟨start1.p0, start1.e0, start1.about1, start1.theMethod, start1.args0, start1.below0, start1.atStart⟩
end Jvm.Pilot.@@N@@
