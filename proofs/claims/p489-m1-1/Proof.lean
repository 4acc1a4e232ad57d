import JvmDerived
import JvmDerived.Pilot.@@N@@Statement
import JvmDerived.Pilot.@@N@@Code
set_option linter.unusedVariables false
set_option linter.unusedSimpArgs false
namespace Jvm.RoadKit
open Sem ClassFile Op Lib Jvm.Stand Jvm.Free Jvm.LawKit
section New
variable {p : Program} {l : Launch} {e : Env} {R : Room} {s : State} {m : MethodId} {args : Array Value} {below : List Frame} {meth : Method} {c : Code} {T : State} {locs : List Loc} {cells slots : Nat}
theorem retI (X : Stand p l e R s m args below meth c T locs cells slots) (hx : p.tables.exec = Jvm.exec) {pc : Nat} {Ls : Array Slot} {z : Int32} {rest : List Value} (hret : meth.sig.returnType = some .int) (hd : decode c.code pc = .ok (.ireturn, 1)) {fs : List Frame}
    (hl : ∀ (f : JFrame) (acts : List Action), f.method = m → f.locked = none → f.entered = [] → (doReturn e (T.setTop f) acts (some (.int z))).1 = T.setFrames fs) : Steps p.tables e below (T.setTop (mkF m pc Ls (.int z :: rest))) (T.setFrames fs) := by
  have hm' : T.vm.method? m = some meth := X.method'
  have hn : narrow .int (.int z) = .int z := rfl
  show Steps p.tables e below (T.setTop { method := m, pc := pc, locals := Ls, stack := _ :: rest, locked := none }) _
  jvm_step X.here [X.here.top, hx, hd, hm', hret, hn]
  first | (intro acts; rw [hl _ acts rfl rfl rfl]) | rw [hl _ _ rfl rfl rfl]
  exact Steps.refl _
end New
end Jvm.RoadKit
namespace Jvm.Pilot.@@N@@
open Jvm Jvm.ClassFile Sem Op Lib Jvm.Free Jvm.Stand Jvm.LawKit Jvm.RoadKit Bundle Jvm.Pilot.@@N@@.Jvm.D

theorem own_nar01 {z : Int32} (h : z = 0 ∨ z = 1) : nar .boolean z = z := by rcases h with rfl | rfl <;> rfl
theorem d1_0 : decode prog_45_method_5_code 0 = .ok (.iload_n 0, 1) := by decide +kernel
theorem d1_1 : decode prog_45_method_5_code 1 = .ok (.bipush 97, 2) := by decide +kernel
theorem d1_3 : decode prog_45_method_5_code 3 = .ok (.if_icmp .lt 9, 3) := by decide +kernel
theorem d1_12 : decode prog_45_method_5_code 12 = .ok (.iload_n 0, 1) := by decide +kernel
theorem d1_13 : decode prog_45_method_5_code 13 = .ok (.bipush 65, 2) := by decide +kernel
theorem d1_15 : decode prog_45_method_5_code 15 = .ok (.if_icmp .lt 9, 3) := by decide +kernel
theorem d1_24 : decode prog_45_method_5_code 24 = .ok (.iload_n 0, 1) := by decide +kernel
theorem d1_25 : decode prog_45_method_5_code 25 = .ok (.bipush 48, 2) := by decide +kernel
theorem d1_27 : decode prog_45_method_5_code 27 = .ok (.if_icmp .lt 9, 3) := by decide +kernel
theorem d1_36 : decode prog_45_method_5_code 36 = .ok (.iload_n 0, 1) := by decide +kernel
theorem d1_37 : decode prog_45_method_5_code 37 = .ok (.bipush 95, 2) := by decide +kernel
theorem d1_39 : decode prog_45_method_5_code 39 = .ok (.if_icmp .ne 7, 3) := by decide +kernel
theorem d1_42 : decode prog_45_method_5_code 42 = .ok (.iconst 1, 1) := by decide +kernel
theorem d1_43 : decode prog_45_method_5_code 43 = .ok (.goto 4, 3) := by decide +kernel
theorem d1_46 : decode prog_45_method_5_code 46 = .ok (.iconst 0, 1) := by decide +kernel
theorem d1_30 : decode prog_45_method_5_code 30 = .ok (.iload_n 0, 1) := by decide +kernel
theorem d1_31 : decode prog_45_method_5_code 31 = .ok (.bipush 57, 2) := by decide +kernel
theorem d1_33 : decode prog_45_method_5_code 33 = .ok (.if_icmp .le 9, 3) := by decide +kernel
theorem d1_18 : decode prog_45_method_5_code 18 = .ok (.iload_n 0, 1) := by decide +kernel
theorem d1_19 : decode prog_45_method_5_code 19 = .ok (.bipush 90, 2) := by decide +kernel
theorem d1_21 : decode prog_45_method_5_code 21 = .ok (.if_icmp .le 21, 3) := by decide +kernel
theorem d1_6 : decode prog_45_method_5_code 6 = .ok (.iload_n 0, 1) := by decide +kernel
theorem d1_7 : decode prog_45_method_5_code 7 = .ok (.bipush 122, 2) := by decide +kernel
theorem d1_9 : decode prog_45_method_5_code 9 = .ok (.if_icmp .le 33, 3) := by decide +kernel
theorem d1_47 : decode prog_45_method_5_code 47 = .ok (.ireturn, 1) := by decide +kernel
theorem pn_0 : plainName "com/example/lichen/lichen/model/Name" = true := by first | (simp [plainName, overriddenIn]; done) | decide +kernel
def own_part (p1 : Int32) : Int32 := (if p1 < (97 : Int32) then (if p1 < (65 : Int32) then (if p1 < (48 : Int32) then (if p1 = (95 : Int32) then (1 : Int32) else (0 : Int32)) else (if (57 : Int32) < p1 then (if p1 = (95 : Int32) then (1 : Int32) else (0 : Int32)) else (1 : Int32))) else (if (90 : Int32) < p1 then (if p1 < (48 : Int32) then (if p1 = (95 : Int32) then (1 : Int32) else (0 : Int32)) else (if (57 : Int32) < p1 then (if p1 = (95 : Int32) then (1 : Int32) else (0 : Int32)) else (1 : Int32))) else (1 : Int32))) else (if (122 : Int32) < p1 then (if p1 < (65 : Int32) then (if p1 < (48 : Int32) then (if p1 = (95 : Int32) then (1 : Int32) else (0 : Int32)) else (if (57 : Int32) < p1 then (if p1 = (95 : Int32) then (1 : Int32) else (0 : Int32)) else (1 : Int32))) else (if (90 : Int32) < p1 then (if p1 < (48 : Int32) then (if p1 = (95 : Int32) then (1 : Int32) else (0 : Int32)) else (if (57 : Int32) < p1 then (if p1 = (95 : Int32) then (1 : Int32) else (0 : Int32)) else (1 : Int32))) else (1 : Int32))) else (1 : Int32)))
theorem ef_rm1 (m : MethodId) (x0 : Int32) : entryFrame m #[(.int x0)] 1 = mkF m 0 #[.val (.int x0)] [] := by first | (simp [entryFrame, mkF, argsToLocals, Value.category]; done) | rfl
def Q_rm1 (Z : State) (p1 : Int32) (h0 : Heap) (n0 : Nat) (v : Option Value) (h : Heap) (L : List Loc) : Prop := v = some (.int (own_part p1)) ∧ Fr n0 L ∧ h = h0
set_option maxRecDepth 65536 in
set_option maxHeartbeats 40000000 in
theorem rm1 (l : Launch) (Z : State) (a0 : Array Value) (hw : ∀ d ∈ tables_1, d.before a0 Z = true) (ws : List Jvm.Cond) (p1 : Int32) (h0 : Heap) (n0 : Nat) (Z0 : n0 ≤ h0.size) :
    MetFree l (⟨"com/example/lichen/lichen/model/Name", "isIdentifierPart", "(I)Z"⟩ : MethodName) (head1 (Jvm.Cond.code (⟨"com/example/lichen/lichen/model/Name", "isIdentifierPart", "(I)Z"⟩ : MethodName) prog_45_method_5_code 1 (some .boolean) :: ws) ({ frames := 0, cells := 0, slots := 0, locals := 0 } : Room)) (fun a U => a = #[(.int p1)] ∧ Z.Warmed39 U.vm ∧ U.heap = h0) (fun _ _ _ _ _ => True) (fun _ U o U' => ∃ v L, o = .returned v ∧ Q_rm1 Z p1 h0 n0 v U'.heap L ∧ FrameEnd U o U' L ({ frames := 0, cells := 0, slots := 0, locals := 0 } : Room).cells ({ frames := 0, cells := 0, slots := 0, locals := 0 } : Room).slots) := by
  refine MetFree.of_bodySF (plainFor_of_name pn_0) hisR ?_
  intro p e s m args below meth c s₁ Bd hml0 hP hK
  obtain ⟨rfl, hZ, hh⟩ := hP
  have hx := Bd.exec
  have hby := Bd.bytes
  have hml : c.maxLocals = 1 := hml0
  have hown : s.vm.findClass "com/example/lichen/lichen/model/Name" = some m.cls := findClass_of_methodNamed Bd.named
  have hnm := (name_of_methodNamed Bd.named Bd.method).1
  have X0 : Stand p l e ({ frames := 0, cells := 0, slots := 0, locals := 0 } : Room) s m #[(.int p1)] below meth c s₁ [] 0 0 := Stand.of_body Bd
  have e0 : s₁.heap = h0 := by rw [← hh, Bd.state]; rfl
  have N0 := Fr.nil n0
  have pre0 : ∀ t, Steps p.tables e below (s₁.setTop (mkF m 0 #[.val (.int p1)] [])) t → Steps p.tables e below (s₁.setTop (entryFrame m #[(.int p1)] 1)) t := fun t k => castTop (ef_rm1 m p1) k
  have pre24 : ∀ t, Steps p.tables e below (s₁.setTop (mkF m 47 #[.val (.int p1)] [(.int (if p1 < (97 : Int32) then (if p1 < (65 : Int32) then (if p1 < (48 : Int32) then (if p1 = (95 : Int32) then (1 : Int32) else (0 : Int32)) else (if (57 : Int32) < p1 then (if p1 = (95 : Int32) then (1 : Int32) else (0 : Int32)) else (1 : Int32))) else (if (90 : Int32) < p1 then (if p1 < (48 : Int32) then (if p1 = (95 : Int32) then (1 : Int32) else (0 : Int32)) else (if (57 : Int32) < p1 then (if p1 = (95 : Int32) then (1 : Int32) else (0 : Int32)) else (1 : Int32))) else (1 : Int32))) else (if (122 : Int32) < p1 then (if p1 < (65 : Int32) then (if p1 < (48 : Int32) then (if p1 = (95 : Int32) then (1 : Int32) else (0 : Int32)) else (if (57 : Int32) < p1 then (if p1 = (95 : Int32) then (1 : Int32) else (0 : Int32)) else (1 : Int32))) else (if (90 : Int32) < p1 then (if p1 < (48 : Int32) then (if p1 = (95 : Int32) then (1 : Int32) else (0 : Int32)) else (if (57 : Int32) < p1 then (if p1 = (95 : Int32) then (1 : Int32) else (0 : Int32)) else (1 : Int32))) else (1 : Int32))) else (1 : Int32))))])) t → Steps p.tables e below (s₁.setTop (entryFrame m #[(.int p1)] 1)) t := by
    intro t k
    refine pre0 t ?_
    refine XS.iloadN X0.here hx rfl (hb hby d1_0) rfl ?_
    show Steps _ _ _ (s₁.setTop (mkF m 1 #[.val (.int p1)] [(.int p1)])) _
    refine XS.bipush X0.here hx rfl (hb hby d1_1) ?_
    show Steps _ _ _ (s₁.setTop (mkF m 3 #[.val (.int p1)] [(.int (97 : Int32)), (.int p1)])) _
    by_cases hc1 : p1 < (97 : Int32)
    · simp only [if_pos hc1] at k
      refine XS.icmpYes X0.here hx rfl (pc0 := 3) (pc' := 12) rfl (hb hby d1_3) rfl (tlt hc1).1 (by decide) (by decide) ?_
      show Steps _ _ _ (s₁.setTop (mkF m 12 #[.val (.int p1)] [])) _
      refine XS.iloadN X0.here hx rfl (hb hby d1_12) rfl ?_
      show Steps _ _ _ (s₁.setTop (mkF m 13 #[.val (.int p1)] [(.int p1)])) _
      refine XS.bipush X0.here hx rfl (hb hby d1_13) ?_
      show Steps _ _ _ (s₁.setTop (mkF m 15 #[.val (.int p1)] [(.int (65 : Int32)), (.int p1)])) _
      by_cases hc2 : p1 < (65 : Int32)
      · simp only [if_pos hc2] at k
        refine XS.icmpYes X0.here hx rfl (pc0 := 15) (pc' := 24) rfl (hb hby d1_15) rfl (tlt hc2).1 (by decide) (by decide) ?_
        show Steps _ _ _ (s₁.setTop (mkF m 24 #[.val (.int p1)] [])) _
        refine XS.iloadN X0.here hx rfl (hb hby d1_24) rfl ?_
        show Steps _ _ _ (s₁.setTop (mkF m 25 #[.val (.int p1)] [(.int p1)])) _
        refine XS.bipush X0.here hx rfl (hb hby d1_25) ?_
        show Steps _ _ _ (s₁.setTop (mkF m 27 #[.val (.int p1)] [(.int (48 : Int32)), (.int p1)])) _
        by_cases hc3 : p1 < (48 : Int32)
        · simp only [if_pos hc3] at k
          refine XS.icmpYes X0.here hx rfl (pc0 := 27) (pc' := 36) rfl (hb hby d1_27) rfl (tlt hc3).1 (by decide) (by decide) ?_
          show Steps _ _ _ (s₁.setTop (mkF m 36 #[.val (.int p1)] [])) _
          refine XS.iloadN X0.here hx rfl (hb hby d1_36) rfl ?_
          show Steps _ _ _ (s₁.setTop (mkF m 37 #[.val (.int p1)] [(.int p1)])) _
          refine XS.bipush X0.here hx rfl (hb hby d1_37) ?_
          show Steps _ _ _ (s₁.setTop (mkF m 39 #[.val (.int p1)] [(.int (95 : Int32)), (.int p1)])) _
          by_cases hc4 : p1 = (95 : Int32)
          · simp only [if_pos hc4] at k
            refine XS.icmpNo X0.here hx rfl (hb hby d1_39) rfl (teq hc4).2 ?_
            show Steps _ _ _ (s₁.setTop (mkF m 42 #[.val (.int p1)] [])) _
            refine XS.iconst X0.here hx rfl (hb hby d1_42) ?_
            show Steps _ _ _ (s₁.setTop (mkF m 43 #[.val (.int p1)] [(.int (1 : Int32))])) _
            refine XS.goto X0.here hx rfl (pc0 := 43) (pc' := 47) rfl (hb hby d1_43) (by decide) (by decide) ?_
            show Steps _ _ _ (s₁.setTop (mkF m 47 #[.val (.int p1)] [(.int (1 : Int32))])) _
            exact k
          · simp only [if_neg hc4] at k
            refine XS.icmpYes X0.here hx rfl (pc0 := 39) (pc' := 46) rfl (hb hby d1_39) rfl (feq hc4).2 (by decide) (by decide) ?_
            show Steps _ _ _ (s₁.setTop (mkF m 46 #[.val (.int p1)] [])) _
            refine XS.iconst X0.here hx rfl (hb hby d1_46) ?_
            show Steps _ _ _ (s₁.setTop (mkF m 47 #[.val (.int p1)] [(.int (0 : Int32))])) _
            exact k
        · simp only [if_neg hc3] at k
          refine XS.icmpNo X0.here hx rfl (hb hby d1_27) rfl (flt hc3).1 ?_
          show Steps _ _ _ (s₁.setTop (mkF m 30 #[.val (.int p1)] [])) _
          refine XS.iloadN X0.here hx rfl (hb hby d1_30) rfl ?_
          show Steps _ _ _ (s₁.setTop (mkF m 31 #[.val (.int p1)] [(.int p1)])) _
          refine XS.bipush X0.here hx rfl (hb hby d1_31) ?_
          show Steps _ _ _ (s₁.setTop (mkF m 33 #[.val (.int p1)] [(.int (57 : Int32)), (.int p1)])) _
          by_cases hc5 : (57 : Int32) < p1
          · simp only [if_pos hc5] at k
            refine XS.icmpNo X0.here hx rfl (hb hby d1_33) rfl (tlt hc5).2.2.2 ?_
            show Steps _ _ _ (s₁.setTop (mkF m 36 #[.val (.int p1)] [])) _
            refine XS.iloadN X0.here hx rfl (hb hby d1_36) rfl ?_
            show Steps _ _ _ (s₁.setTop (mkF m 37 #[.val (.int p1)] [(.int p1)])) _
            refine XS.bipush X0.here hx rfl (hb hby d1_37) ?_
            show Steps _ _ _ (s₁.setTop (mkF m 39 #[.val (.int p1)] [(.int (95 : Int32)), (.int p1)])) _
            by_cases hc6 : p1 = (95 : Int32)
            · simp only [if_pos hc6] at k
              refine XS.icmpNo X0.here hx rfl (hb hby d1_39) rfl (teq hc6).2 ?_
              show Steps _ _ _ (s₁.setTop (mkF m 42 #[.val (.int p1)] [])) _
              refine XS.iconst X0.here hx rfl (hb hby d1_42) ?_
              show Steps _ _ _ (s₁.setTop (mkF m 43 #[.val (.int p1)] [(.int (1 : Int32))])) _
              refine XS.goto X0.here hx rfl (pc0 := 43) (pc' := 47) rfl (hb hby d1_43) (by decide) (by decide) ?_
              show Steps _ _ _ (s₁.setTop (mkF m 47 #[.val (.int p1)] [(.int (1 : Int32))])) _
              exact k
            · simp only [if_neg hc6] at k
              refine XS.icmpYes X0.here hx rfl (pc0 := 39) (pc' := 46) rfl (hb hby d1_39) rfl (feq hc6).2 (by decide) (by decide) ?_
              show Steps _ _ _ (s₁.setTop (mkF m 46 #[.val (.int p1)] [])) _
              refine XS.iconst X0.here hx rfl (hb hby d1_46) ?_
              show Steps _ _ _ (s₁.setTop (mkF m 47 #[.val (.int p1)] [(.int (0 : Int32))])) _
              exact k
          · simp only [if_neg hc5] at k
            refine XS.icmpYes X0.here hx rfl (pc0 := 33) (pc' := 42) rfl (hb hby d1_33) rfl (flt hc5).2.2.2 (by decide) (by decide) ?_
            show Steps _ _ _ (s₁.setTop (mkF m 42 #[.val (.int p1)] [])) _
            refine XS.iconst X0.here hx rfl (hb hby d1_42) ?_
            show Steps _ _ _ (s₁.setTop (mkF m 43 #[.val (.int p1)] [(.int (1 : Int32))])) _
            refine XS.goto X0.here hx rfl (pc0 := 43) (pc' := 47) rfl (hb hby d1_43) (by decide) (by decide) ?_
            show Steps _ _ _ (s₁.setTop (mkF m 47 #[.val (.int p1)] [(.int (1 : Int32))])) _
            exact k
      · simp only [if_neg hc2] at k
        refine XS.icmpNo X0.here hx rfl (hb hby d1_15) rfl (flt hc2).1 ?_
        show Steps _ _ _ (s₁.setTop (mkF m 18 #[.val (.int p1)] [])) _
        refine XS.iloadN X0.here hx rfl (hb hby d1_18) rfl ?_
        show Steps _ _ _ (s₁.setTop (mkF m 19 #[.val (.int p1)] [(.int p1)])) _
        refine XS.bipush X0.here hx rfl (hb hby d1_19) ?_
        show Steps _ _ _ (s₁.setTop (mkF m 21 #[.val (.int p1)] [(.int (90 : Int32)), (.int p1)])) _
        by_cases hc7 : (90 : Int32) < p1
        · simp only [if_pos hc7] at k
          refine XS.icmpNo X0.here hx rfl (hb hby d1_21) rfl (tlt hc7).2.2.2 ?_
          show Steps _ _ _ (s₁.setTop (mkF m 24 #[.val (.int p1)] [])) _
          refine XS.iloadN X0.here hx rfl (hb hby d1_24) rfl ?_
          show Steps _ _ _ (s₁.setTop (mkF m 25 #[.val (.int p1)] [(.int p1)])) _
          refine XS.bipush X0.here hx rfl (hb hby d1_25) ?_
          show Steps _ _ _ (s₁.setTop (mkF m 27 #[.val (.int p1)] [(.int (48 : Int32)), (.int p1)])) _
          by_cases hc8 : p1 < (48 : Int32)
          · simp only [if_pos hc8] at k
            refine XS.icmpYes X0.here hx rfl (pc0 := 27) (pc' := 36) rfl (hb hby d1_27) rfl (tlt hc8).1 (by decide) (by decide) ?_
            show Steps _ _ _ (s₁.setTop (mkF m 36 #[.val (.int p1)] [])) _
            refine XS.iloadN X0.here hx rfl (hb hby d1_36) rfl ?_
            show Steps _ _ _ (s₁.setTop (mkF m 37 #[.val (.int p1)] [(.int p1)])) _
            refine XS.bipush X0.here hx rfl (hb hby d1_37) ?_
            show Steps _ _ _ (s₁.setTop (mkF m 39 #[.val (.int p1)] [(.int (95 : Int32)), (.int p1)])) _
            by_cases hc9 : p1 = (95 : Int32)
            · simp only [if_pos hc9] at k
              refine XS.icmpNo X0.here hx rfl (hb hby d1_39) rfl (teq hc9).2 ?_
              show Steps _ _ _ (s₁.setTop (mkF m 42 #[.val (.int p1)] [])) _
              refine XS.iconst X0.here hx rfl (hb hby d1_42) ?_
              show Steps _ _ _ (s₁.setTop (mkF m 43 #[.val (.int p1)] [(.int (1 : Int32))])) _
              refine XS.goto X0.here hx rfl (pc0 := 43) (pc' := 47) rfl (hb hby d1_43) (by decide) (by decide) ?_
              show Steps _ _ _ (s₁.setTop (mkF m 47 #[.val (.int p1)] [(.int (1 : Int32))])) _
              exact k
            · simp only [if_neg hc9] at k
              refine XS.icmpYes X0.here hx rfl (pc0 := 39) (pc' := 46) rfl (hb hby d1_39) rfl (feq hc9).2 (by decide) (by decide) ?_
              show Steps _ _ _ (s₁.setTop (mkF m 46 #[.val (.int p1)] [])) _
              refine XS.iconst X0.here hx rfl (hb hby d1_46) ?_
              show Steps _ _ _ (s₁.setTop (mkF m 47 #[.val (.int p1)] [(.int (0 : Int32))])) _
              exact k
          · simp only [if_neg hc8] at k
            refine XS.icmpNo X0.here hx rfl (hb hby d1_27) rfl (flt hc8).1 ?_
            show Steps _ _ _ (s₁.setTop (mkF m 30 #[.val (.int p1)] [])) _
            refine XS.iloadN X0.here hx rfl (hb hby d1_30) rfl ?_
            show Steps _ _ _ (s₁.setTop (mkF m 31 #[.val (.int p1)] [(.int p1)])) _
            refine XS.bipush X0.here hx rfl (hb hby d1_31) ?_
            show Steps _ _ _ (s₁.setTop (mkF m 33 #[.val (.int p1)] [(.int (57 : Int32)), (.int p1)])) _
            by_cases hc10 : (57 : Int32) < p1
            · simp only [if_pos hc10] at k
              refine XS.icmpNo X0.here hx rfl (hb hby d1_33) rfl (tlt hc10).2.2.2 ?_
              show Steps _ _ _ (s₁.setTop (mkF m 36 #[.val (.int p1)] [])) _
              refine XS.iloadN X0.here hx rfl (hb hby d1_36) rfl ?_
              show Steps _ _ _ (s₁.setTop (mkF m 37 #[.val (.int p1)] [(.int p1)])) _
              refine XS.bipush X0.here hx rfl (hb hby d1_37) ?_
              show Steps _ _ _ (s₁.setTop (mkF m 39 #[.val (.int p1)] [(.int (95 : Int32)), (.int p1)])) _
              by_cases hc11 : p1 = (95 : Int32)
              · simp only [if_pos hc11] at k
                refine XS.icmpNo X0.here hx rfl (hb hby d1_39) rfl (teq hc11).2 ?_
                show Steps _ _ _ (s₁.setTop (mkF m 42 #[.val (.int p1)] [])) _
                refine XS.iconst X0.here hx rfl (hb hby d1_42) ?_
                show Steps _ _ _ (s₁.setTop (mkF m 43 #[.val (.int p1)] [(.int (1 : Int32))])) _
                refine XS.goto X0.here hx rfl (pc0 := 43) (pc' := 47) rfl (hb hby d1_43) (by decide) (by decide) ?_
                show Steps _ _ _ (s₁.setTop (mkF m 47 #[.val (.int p1)] [(.int (1 : Int32))])) _
                exact k
              · simp only [if_neg hc11] at k
                refine XS.icmpYes X0.here hx rfl (pc0 := 39) (pc' := 46) rfl (hb hby d1_39) rfl (feq hc11).2 (by decide) (by decide) ?_
                show Steps _ _ _ (s₁.setTop (mkF m 46 #[.val (.int p1)] [])) _
                refine XS.iconst X0.here hx rfl (hb hby d1_46) ?_
                show Steps _ _ _ (s₁.setTop (mkF m 47 #[.val (.int p1)] [(.int (0 : Int32))])) _
                exact k
            · simp only [if_neg hc10] at k
              refine XS.icmpYes X0.here hx rfl (pc0 := 33) (pc' := 42) rfl (hb hby d1_33) rfl (flt hc10).2.2.2 (by decide) (by decide) ?_
              show Steps _ _ _ (s₁.setTop (mkF m 42 #[.val (.int p1)] [])) _
              refine XS.iconst X0.here hx rfl (hb hby d1_42) ?_
              show Steps _ _ _ (s₁.setTop (mkF m 43 #[.val (.int p1)] [(.int (1 : Int32))])) _
              refine XS.goto X0.here hx rfl (pc0 := 43) (pc' := 47) rfl (hb hby d1_43) (by decide) (by decide) ?_
              show Steps _ _ _ (s₁.setTop (mkF m 47 #[.val (.int p1)] [(.int (1 : Int32))])) _
              exact k
        · simp only [if_neg hc7] at k
          refine XS.icmpYes X0.here hx rfl (pc0 := 21) (pc' := 42) rfl (hb hby d1_21) rfl (flt hc7).2.2.2 (by decide) (by decide) ?_
          show Steps _ _ _ (s₁.setTop (mkF m 42 #[.val (.int p1)] [])) _
          refine XS.iconst X0.here hx rfl (hb hby d1_42) ?_
          show Steps _ _ _ (s₁.setTop (mkF m 43 #[.val (.int p1)] [(.int (1 : Int32))])) _
          refine XS.goto X0.here hx rfl (pc0 := 43) (pc' := 47) rfl (hb hby d1_43) (by decide) (by decide) ?_
          show Steps _ _ _ (s₁.setTop (mkF m 47 #[.val (.int p1)] [(.int (1 : Int32))])) _
          exact k
    · simp only [if_neg hc1] at k
      refine XS.icmpNo X0.here hx rfl (hb hby d1_3) rfl (flt hc1).1 ?_
      show Steps _ _ _ (s₁.setTop (mkF m 6 #[.val (.int p1)] [])) _
      refine XS.iloadN X0.here hx rfl (hb hby d1_6) rfl ?_
      show Steps _ _ _ (s₁.setTop (mkF m 7 #[.val (.int p1)] [(.int p1)])) _
      refine XS.bipush X0.here hx rfl (hb hby d1_7) ?_
      show Steps _ _ _ (s₁.setTop (mkF m 9 #[.val (.int p1)] [(.int (122 : Int32)), (.int p1)])) _
      by_cases hc12 : (122 : Int32) < p1
      · simp only [if_pos hc12] at k
        refine XS.icmpNo X0.here hx rfl (hb hby d1_9) rfl (tlt hc12).2.2.2 ?_
        show Steps _ _ _ (s₁.setTop (mkF m 12 #[.val (.int p1)] [])) _
        refine XS.iloadN X0.here hx rfl (hb hby d1_12) rfl ?_
        show Steps _ _ _ (s₁.setTop (mkF m 13 #[.val (.int p1)] [(.int p1)])) _
        refine XS.bipush X0.here hx rfl (hb hby d1_13) ?_
        show Steps _ _ _ (s₁.setTop (mkF m 15 #[.val (.int p1)] [(.int (65 : Int32)), (.int p1)])) _
        by_cases hc13 : p1 < (65 : Int32)
        · simp only [if_pos hc13] at k
          refine XS.icmpYes X0.here hx rfl (pc0 := 15) (pc' := 24) rfl (hb hby d1_15) rfl (tlt hc13).1 (by decide) (by decide) ?_
          show Steps _ _ _ (s₁.setTop (mkF m 24 #[.val (.int p1)] [])) _
          refine XS.iloadN X0.here hx rfl (hb hby d1_24) rfl ?_
          show Steps _ _ _ (s₁.setTop (mkF m 25 #[.val (.int p1)] [(.int p1)])) _
          refine XS.bipush X0.here hx rfl (hb hby d1_25) ?_
          show Steps _ _ _ (s₁.setTop (mkF m 27 #[.val (.int p1)] [(.int (48 : Int32)), (.int p1)])) _
          by_cases hc14 : p1 < (48 : Int32)
          · simp only [if_pos hc14] at k
            refine XS.icmpYes X0.here hx rfl (pc0 := 27) (pc' := 36) rfl (hb hby d1_27) rfl (tlt hc14).1 (by decide) (by decide) ?_
            show Steps _ _ _ (s₁.setTop (mkF m 36 #[.val (.int p1)] [])) _
            refine XS.iloadN X0.here hx rfl (hb hby d1_36) rfl ?_
            show Steps _ _ _ (s₁.setTop (mkF m 37 #[.val (.int p1)] [(.int p1)])) _
            refine XS.bipush X0.here hx rfl (hb hby d1_37) ?_
            show Steps _ _ _ (s₁.setTop (mkF m 39 #[.val (.int p1)] [(.int (95 : Int32)), (.int p1)])) _
            by_cases hc15 : p1 = (95 : Int32)
            · simp only [if_pos hc15] at k
              refine XS.icmpNo X0.here hx rfl (hb hby d1_39) rfl (teq hc15).2 ?_
              show Steps _ _ _ (s₁.setTop (mkF m 42 #[.val (.int p1)] [])) _
              refine XS.iconst X0.here hx rfl (hb hby d1_42) ?_
              show Steps _ _ _ (s₁.setTop (mkF m 43 #[.val (.int p1)] [(.int (1 : Int32))])) _
              refine XS.goto X0.here hx rfl (pc0 := 43) (pc' := 47) rfl (hb hby d1_43) (by decide) (by decide) ?_
              show Steps _ _ _ (s₁.setTop (mkF m 47 #[.val (.int p1)] [(.int (1 : Int32))])) _
              exact k
            · simp only [if_neg hc15] at k
              refine XS.icmpYes X0.here hx rfl (pc0 := 39) (pc' := 46) rfl (hb hby d1_39) rfl (feq hc15).2 (by decide) (by decide) ?_
              show Steps _ _ _ (s₁.setTop (mkF m 46 #[.val (.int p1)] [])) _
              refine XS.iconst X0.here hx rfl (hb hby d1_46) ?_
              show Steps _ _ _ (s₁.setTop (mkF m 47 #[.val (.int p1)] [(.int (0 : Int32))])) _
              exact k
          · simp only [if_neg hc14] at k
            refine XS.icmpNo X0.here hx rfl (hb hby d1_27) rfl (flt hc14).1 ?_
            show Steps _ _ _ (s₁.setTop (mkF m 30 #[.val (.int p1)] [])) _
            refine XS.iloadN X0.here hx rfl (hb hby d1_30) rfl ?_
            show Steps _ _ _ (s₁.setTop (mkF m 31 #[.val (.int p1)] [(.int p1)])) _
            refine XS.bipush X0.here hx rfl (hb hby d1_31) ?_
            show Steps _ _ _ (s₁.setTop (mkF m 33 #[.val (.int p1)] [(.int (57 : Int32)), (.int p1)])) _
            by_cases hc16 : (57 : Int32) < p1
            · simp only [if_pos hc16] at k
              refine XS.icmpNo X0.here hx rfl (hb hby d1_33) rfl (tlt hc16).2.2.2 ?_
              show Steps _ _ _ (s₁.setTop (mkF m 36 #[.val (.int p1)] [])) _
              refine XS.iloadN X0.here hx rfl (hb hby d1_36) rfl ?_
              show Steps _ _ _ (s₁.setTop (mkF m 37 #[.val (.int p1)] [(.int p1)])) _
              refine XS.bipush X0.here hx rfl (hb hby d1_37) ?_
              show Steps _ _ _ (s₁.setTop (mkF m 39 #[.val (.int p1)] [(.int (95 : Int32)), (.int p1)])) _
              by_cases hc17 : p1 = (95 : Int32)
              · simp only [if_pos hc17] at k
                refine XS.icmpNo X0.here hx rfl (hb hby d1_39) rfl (teq hc17).2 ?_
                show Steps _ _ _ (s₁.setTop (mkF m 42 #[.val (.int p1)] [])) _
                refine XS.iconst X0.here hx rfl (hb hby d1_42) ?_
                show Steps _ _ _ (s₁.setTop (mkF m 43 #[.val (.int p1)] [(.int (1 : Int32))])) _
                refine XS.goto X0.here hx rfl (pc0 := 43) (pc' := 47) rfl (hb hby d1_43) (by decide) (by decide) ?_
                show Steps _ _ _ (s₁.setTop (mkF m 47 #[.val (.int p1)] [(.int (1 : Int32))])) _
                exact k
              · simp only [if_neg hc17] at k
                refine XS.icmpYes X0.here hx rfl (pc0 := 39) (pc' := 46) rfl (hb hby d1_39) rfl (feq hc17).2 (by decide) (by decide) ?_
                show Steps _ _ _ (s₁.setTop (mkF m 46 #[.val (.int p1)] [])) _
                refine XS.iconst X0.here hx rfl (hb hby d1_46) ?_
                show Steps _ _ _ (s₁.setTop (mkF m 47 #[.val (.int p1)] [(.int (0 : Int32))])) _
                exact k
            · simp only [if_neg hc16] at k
              refine XS.icmpYes X0.here hx rfl (pc0 := 33) (pc' := 42) rfl (hb hby d1_33) rfl (flt hc16).2.2.2 (by decide) (by decide) ?_
              show Steps _ _ _ (s₁.setTop (mkF m 42 #[.val (.int p1)] [])) _
              refine XS.iconst X0.here hx rfl (hb hby d1_42) ?_
              show Steps _ _ _ (s₁.setTop (mkF m 43 #[.val (.int p1)] [(.int (1 : Int32))])) _
              refine XS.goto X0.here hx rfl (pc0 := 43) (pc' := 47) rfl (hb hby d1_43) (by decide) (by decide) ?_
              show Steps _ _ _ (s₁.setTop (mkF m 47 #[.val (.int p1)] [(.int (1 : Int32))])) _
              exact k
        · simp only [if_neg hc13] at k
          refine XS.icmpNo X0.here hx rfl (hb hby d1_15) rfl (flt hc13).1 ?_
          show Steps _ _ _ (s₁.setTop (mkF m 18 #[.val (.int p1)] [])) _
          refine XS.iloadN X0.here hx rfl (hb hby d1_18) rfl ?_
          show Steps _ _ _ (s₁.setTop (mkF m 19 #[.val (.int p1)] [(.int p1)])) _
          refine XS.bipush X0.here hx rfl (hb hby d1_19) ?_
          show Steps _ _ _ (s₁.setTop (mkF m 21 #[.val (.int p1)] [(.int (90 : Int32)), (.int p1)])) _
          by_cases hc18 : (90 : Int32) < p1
          · simp only [if_pos hc18] at k
            refine XS.icmpNo X0.here hx rfl (hb hby d1_21) rfl (tlt hc18).2.2.2 ?_
            show Steps _ _ _ (s₁.setTop (mkF m 24 #[.val (.int p1)] [])) _
            refine XS.iloadN X0.here hx rfl (hb hby d1_24) rfl ?_
            show Steps _ _ _ (s₁.setTop (mkF m 25 #[.val (.int p1)] [(.int p1)])) _
            refine XS.bipush X0.here hx rfl (hb hby d1_25) ?_
            show Steps _ _ _ (s₁.setTop (mkF m 27 #[.val (.int p1)] [(.int (48 : Int32)), (.int p1)])) _
            by_cases hc19 : p1 < (48 : Int32)
            · simp only [if_pos hc19] at k
              refine XS.icmpYes X0.here hx rfl (pc0 := 27) (pc' := 36) rfl (hb hby d1_27) rfl (tlt hc19).1 (by decide) (by decide) ?_
              show Steps _ _ _ (s₁.setTop (mkF m 36 #[.val (.int p1)] [])) _
              refine XS.iloadN X0.here hx rfl (hb hby d1_36) rfl ?_
              show Steps _ _ _ (s₁.setTop (mkF m 37 #[.val (.int p1)] [(.int p1)])) _
              refine XS.bipush X0.here hx rfl (hb hby d1_37) ?_
              show Steps _ _ _ (s₁.setTop (mkF m 39 #[.val (.int p1)] [(.int (95 : Int32)), (.int p1)])) _
              by_cases hc20 : p1 = (95 : Int32)
              · simp only [if_pos hc20] at k
                refine XS.icmpNo X0.here hx rfl (hb hby d1_39) rfl (teq hc20).2 ?_
                show Steps _ _ _ (s₁.setTop (mkF m 42 #[.val (.int p1)] [])) _
                refine XS.iconst X0.here hx rfl (hb hby d1_42) ?_
                show Steps _ _ _ (s₁.setTop (mkF m 43 #[.val (.int p1)] [(.int (1 : Int32))])) _
                refine XS.goto X0.here hx rfl (pc0 := 43) (pc' := 47) rfl (hb hby d1_43) (by decide) (by decide) ?_
                show Steps _ _ _ (s₁.setTop (mkF m 47 #[.val (.int p1)] [(.int (1 : Int32))])) _
                exact k
              · simp only [if_neg hc20] at k
                refine XS.icmpYes X0.here hx rfl (pc0 := 39) (pc' := 46) rfl (hb hby d1_39) rfl (feq hc20).2 (by decide) (by decide) ?_
                show Steps _ _ _ (s₁.setTop (mkF m 46 #[.val (.int p1)] [])) _
                refine XS.iconst X0.here hx rfl (hb hby d1_46) ?_
                show Steps _ _ _ (s₁.setTop (mkF m 47 #[.val (.int p1)] [(.int (0 : Int32))])) _
                exact k
            · simp only [if_neg hc19] at k
              refine XS.icmpNo X0.here hx rfl (hb hby d1_27) rfl (flt hc19).1 ?_
              show Steps _ _ _ (s₁.setTop (mkF m 30 #[.val (.int p1)] [])) _
              refine XS.iloadN X0.here hx rfl (hb hby d1_30) rfl ?_
              show Steps _ _ _ (s₁.setTop (mkF m 31 #[.val (.int p1)] [(.int p1)])) _
              refine XS.bipush X0.here hx rfl (hb hby d1_31) ?_
              show Steps _ _ _ (s₁.setTop (mkF m 33 #[.val (.int p1)] [(.int (57 : Int32)), (.int p1)])) _
              by_cases hc21 : (57 : Int32) < p1
              · simp only [if_pos hc21] at k
                refine XS.icmpNo X0.here hx rfl (hb hby d1_33) rfl (tlt hc21).2.2.2 ?_
                show Steps _ _ _ (s₁.setTop (mkF m 36 #[.val (.int p1)] [])) _
                refine XS.iloadN X0.here hx rfl (hb hby d1_36) rfl ?_
                show Steps _ _ _ (s₁.setTop (mkF m 37 #[.val (.int p1)] [(.int p1)])) _
                refine XS.bipush X0.here hx rfl (hb hby d1_37) ?_
                show Steps _ _ _ (s₁.setTop (mkF m 39 #[.val (.int p1)] [(.int (95 : Int32)), (.int p1)])) _
                by_cases hc22 : p1 = (95 : Int32)
                · simp only [if_pos hc22] at k
                  refine XS.icmpNo X0.here hx rfl (hb hby d1_39) rfl (teq hc22).2 ?_
                  show Steps _ _ _ (s₁.setTop (mkF m 42 #[.val (.int p1)] [])) _
                  refine XS.iconst X0.here hx rfl (hb hby d1_42) ?_
                  show Steps _ _ _ (s₁.setTop (mkF m 43 #[.val (.int p1)] [(.int (1 : Int32))])) _
                  refine XS.goto X0.here hx rfl (pc0 := 43) (pc' := 47) rfl (hb hby d1_43) (by decide) (by decide) ?_
                  show Steps _ _ _ (s₁.setTop (mkF m 47 #[.val (.int p1)] [(.int (1 : Int32))])) _
                  exact k
                · simp only [if_neg hc22] at k
                  refine XS.icmpYes X0.here hx rfl (pc0 := 39) (pc' := 46) rfl (hb hby d1_39) rfl (feq hc22).2 (by decide) (by decide) ?_
                  show Steps _ _ _ (s₁.setTop (mkF m 46 #[.val (.int p1)] [])) _
                  refine XS.iconst X0.here hx rfl (hb hby d1_46) ?_
                  show Steps _ _ _ (s₁.setTop (mkF m 47 #[.val (.int p1)] [(.int (0 : Int32))])) _
                  exact k
              · simp only [if_neg hc21] at k
                refine XS.icmpYes X0.here hx rfl (pc0 := 33) (pc' := 42) rfl (hb hby d1_33) rfl (flt hc21).2.2.2 (by decide) (by decide) ?_
                show Steps _ _ _ (s₁.setTop (mkF m 42 #[.val (.int p1)] [])) _
                refine XS.iconst X0.here hx rfl (hb hby d1_42) ?_
                show Steps _ _ _ (s₁.setTop (mkF m 43 #[.val (.int p1)] [(.int (1 : Int32))])) _
                refine XS.goto X0.here hx rfl (pc0 := 43) (pc' := 47) rfl (hb hby d1_43) (by decide) (by decide) ?_
                show Steps _ _ _ (s₁.setTop (mkF m 47 #[.val (.int p1)] [(.int (1 : Int32))])) _
                exact k
          · simp only [if_neg hc18] at k
            refine XS.icmpYes X0.here hx rfl (pc0 := 21) (pc' := 42) rfl (hb hby d1_21) rfl (flt hc18).2.2.2 (by decide) (by decide) ?_
            show Steps _ _ _ (s₁.setTop (mkF m 42 #[.val (.int p1)] [])) _
            refine XS.iconst X0.here hx rfl (hb hby d1_42) ?_
            show Steps _ _ _ (s₁.setTop (mkF m 43 #[.val (.int p1)] [(.int (1 : Int32))])) _
            refine XS.goto X0.here hx rfl (pc0 := 43) (pc' := 47) rfl (hb hby d1_43) (by decide) (by decide) ?_
            show Steps _ _ _ (s₁.setTop (mkF m 47 #[.val (.int p1)] [(.int (1 : Int32))])) _
            exact k
      · simp only [if_neg hc12] at k
        refine XS.icmpYes X0.here hx rfl (pc0 := 9) (pc' := 42) rfl (hb hby d1_9) rfl (flt hc12).2.2.2 (by decide) (by decide) ?_
        show Steps _ _ _ (s₁.setTop (mkF m 42 #[.val (.int p1)] [])) _
        refine XS.iconst X0.here hx rfl (hb hby d1_42) ?_
        show Steps _ _ _ (s₁.setTop (mkF m 43 #[.val (.int p1)] [(.int (1 : Int32))])) _
        refine XS.goto X0.here hx rfl (pc0 := 43) (pc' := 47) rfl (hb hby d1_43) (by decide) (by decide) ?_
        show Steps _ _ _ (s₁.setTop (mkF m 47 #[.val (.int p1)] [(.int (1 : Int32))])) _
        exact k
  obtain ⟨z23, hz23⟩ : ∃ z : Int32, z = (if p1 < (97 : Int32) then (if p1 < (65 : Int32) then (if p1 < (48 : Int32) then (if p1 = (95 : Int32) then (1 : Int32) else (0 : Int32)) else (if (57 : Int32) < p1 then (if p1 = (95 : Int32) then (1 : Int32) else (0 : Int32)) else (1 : Int32))) else (if (90 : Int32) < p1 then (if p1 < (48 : Int32) then (if p1 = (95 : Int32) then (1 : Int32) else (0 : Int32)) else (if (57 : Int32) < p1 then (if p1 = (95 : Int32) then (1 : Int32) else (0 : Int32)) else (1 : Int32))) else (1 : Int32))) else (if (122 : Int32) < p1 then (if p1 < (65 : Int32) then (if p1 < (48 : Int32) then (if p1 = (95 : Int32) then (1 : Int32) else (0 : Int32)) else (if (57 : Int32) < p1 then (if p1 = (95 : Int32) then (1 : Int32) else (0 : Int32)) else (1 : Int32))) else (if (90 : Int32) < p1 then (if p1 < (48 : Int32) then (if p1 = (95 : Int32) then (1 : Int32) else (0 : Int32)) else (if (57 : Int32) < p1 then (if p1 = (95 : Int32) then (1 : Int32) else (0 : Int32)) else (1 : Int32))) else (1 : Int32))) else (1 : Int32))) := ⟨_, rfl⟩
  rw [← hz23] at pre24
  obtain ⟨fs, hr, hrun, hended, hW, hsame⟩ := X0.leave (v := some (.int (nar .boolean z23))) (fun h => by rw [Bd.returns] at h; cases h)
  refine ⟨_, _, pre24 _ ?_, hrun, hended, _, _, rfl, ?_, ⟨_, rfl⟩, hW, hsame.mono (by decide) (by decide)⟩
  · exact retN X0 hx (t := .boolean) Bd.returns (by simp) (hb hby d1_47) hr
  · show Q_rm1 Z p1 h0 n0 _ s₁.heap _
    rw [e0]
    have h01 : z23 = 0 ∨ z23 = 1 := by rw [hz23]; (repeat' split) <;> simp
    have hvA : (nar .boolean z23) = (own_part p1) := by
      rw [show nar .boolean z23 = z23 from own_nar01 h01]
      subst hz23
      rfl
    have hv25 : (nar .boolean z23) = (own_part p1) := hvA
    exact ⟨(by rw [hv25]), N0, rfl⟩
theorem d2_0 : decode method_2_code 0 = .ok (.iload_n 0, 1) := by decide +kernel
theorem d2_1 : decode method_2_code 1 = .ok (.bipush 32, 2) := by decide +kernel
theorem d2_3 : decode method_2_code 3 = .ok (.ior, 1) := by decide +kernel
theorem d2_4 : decode method_2_code 4 = .ok (.istore_n 1, 1) := by decide +kernel
theorem d2_5 : decode method_2_code 5 = .ok (.iload_n 1, 1) := by decide +kernel
theorem d2_6 : decode method_2_code 6 = .ok (.bipush 97, 2) := by decide +kernel
theorem d2_8 : decode method_2_code 8 = .ok (.if_icmp .lt 13, 3) := by decide +kernel
theorem d2_21 : decode method_2_code 21 = .ok (.iconst 0, 1) := by decide +kernel
theorem d2_11 : decode method_2_code 11 = .ok (.iload_n 1, 1) := by decide +kernel
theorem d2_12 : decode method_2_code 12 = .ok (.bipush 122, 2) := by decide +kernel
theorem d2_14 : decode method_2_code 14 = .ok (.if_icmp .gt 7, 3) := by decide +kernel
theorem d2_17 : decode method_2_code 17 = .ok (.iconst 1, 1) := by decide +kernel
theorem d2_18 : decode method_2_code 18 = .ok (.goto 4, 3) := by decide +kernel
theorem d2_22 : decode method_2_code 22 = .ok (.istore_n 2, 1) := by decide +kernel
theorem d2_23 : decode method_2_code 23 = .ok (.iload_n 0, 1) := by decide +kernel
theorem d2_24 : decode method_2_code 24 = .ok (.iconst 4, 1) := by decide +kernel
theorem d2_25 : decode method_2_code 25 = .ok (.iushr, 1) := by decide +kernel
theorem d2_26 : decode method_2_code 26 = .ok (.iconst 3, 1) := by decide +kernel
theorem d2_27 : decode method_2_code 27 = .ok (.if_icmp .ne 16, 3) := by decide +kernel
theorem d2_30 : decode method_2_code 30 = .ok (.iload_n 0, 1) := by decide +kernel
theorem d2_31 : decode method_2_code 31 = .ok (.bipush 15, 2) := by decide +kernel
theorem d2_33 : decode method_2_code 33 = .ok (.iand, 1) := by decide +kernel
theorem d2_34 : decode method_2_code 34 = .ok (.bipush 10, 2) := by decide +kernel
theorem d2_36 : decode method_2_code 36 = .ok (.if_icmp .ge 7, 3) := by decide +kernel
theorem d2_39 : decode method_2_code 39 = .ok (.iconst 1, 1) := by decide +kernel
theorem d2_40 : decode method_2_code 40 = .ok (.goto 4, 3) := by decide +kernel
theorem d2_43 : decode method_2_code 43 = .ok (.iconst 0, 1) := by decide +kernel
theorem d2_44 : decode method_2_code 44 = .ok (.istore_n 3, 1) := by decide +kernel
theorem d2_45 : decode method_2_code 45 = .ok (.iload_n 0, 1) := by decide +kernel
theorem d2_46 : decode method_2_code 46 = .ok (.bipush 95, 2) := by decide +kernel
theorem d2_48 : decode method_2_code 48 = .ok (.if_icmp .ne 7, 3) := by decide +kernel
theorem d2_51 : decode method_2_code 51 = .ok (.iconst 1, 1) := by decide +kernel
theorem d2_52 : decode method_2_code 52 = .ok (.goto 4, 3) := by decide +kernel
theorem d2_55 : decode method_2_code 55 = .ok (.iconst 0, 1) := by decide +kernel
theorem d2_56 : decode method_2_code 56 = .ok (.istore 4, 2) := by decide +kernel
theorem d2_58 : decode method_2_code 58 = .ok (.iload_n 2, 1) := by decide +kernel
theorem d2_59 : decode method_2_code 59 = .ok (.ifCond .ne 12, 3) := by decide +kernel
theorem d2_62 : decode method_2_code 62 = .ok (.iload_n 3, 1) := by decide +kernel
theorem d2_63 : decode method_2_code 63 = .ok (.ifCond .ne 8, 3) := by decide +kernel
theorem d2_66 : decode method_2_code 66 = .ok (.iload 4, 2) := by decide +kernel
theorem d2_68 : decode method_2_code 68 = .ok (.ifCond .eq 7, 3) := by decide +kernel
theorem d2_75 : decode method_2_code 75 = .ok (.iconst 0, 1) := by decide +kernel
theorem d2_71 : decode method_2_code 71 = .ok (.iconst 1, 1) := by decide +kernel
theorem d2_72 : decode method_2_code 72 = .ok (.goto 4, 3) := by decide +kernel
theorem d2_76 : decode method_2_code 76 = .ok (.ireturn, 1) := by decide +kernel
theorem pn_1 : plainName "com/example/lichen/lichen/model/NameIsIdentifierPartPinLaw" = true := by first | (simp [plainName, overriddenIn]; done) | decide +kernel
def own_ref (p1 : Int32) : Int32 := (if (if (p1 ||| (32 : Int32)) < (97 : Int32) then (0 : Int32) else (if (122 : Int32) < (p1 ||| (32 : Int32)) then (0 : Int32) else (1 : Int32))) = (0 : Int32) then (if (if ((p1.toUInt32 >>> ((4 : Int32) &&& 31).toUInt32).toInt32) = (3 : Int32) then (if (p1 &&& (15 : Int32)) < (10 : Int32) then (1 : Int32) else (0 : Int32)) else (0 : Int32)) = (0 : Int32) then (if (if p1 = (95 : Int32) then (1 : Int32) else (0 : Int32)) = (0 : Int32) then (0 : Int32) else (1 : Int32)) else (1 : Int32)) else (1 : Int32))
theorem ef_rm2 (m : MethodId) (x0 : Int32) : entryFrame m #[(.int x0)] 5 = mkF m 0 #[.val (.int x0), .unset, .unset, .unset, .unset] [] := by first | (simp [entryFrame, mkF, argsToLocals, Value.category]; done) | rfl
def Q_rm2 (Z : State) (p1 : Int32) (h0 : Heap) (n0 : Nat) (v : Option Value) (h : Heap) (L : List Loc) : Prop := v = some (.int (own_ref p1)) ∧ Fr n0 L ∧ h = h0
set_option maxRecDepth 65536 in
set_option maxHeartbeats 40000000 in
theorem rm2 (l : Launch) (Z : State) (a0 : Array Value) (hw : ∀ d ∈ tables_1, d.before a0 Z = true) (ws : List Jvm.Cond) (p1 : Int32) (h0 : Heap) (n0 : Nat) (Z0 : n0 ≤ h0.size) :
    MetFree l (⟨"com/example/lichen/lichen/model/NameIsIdentifierPartPinLaw", "reference", "(I)Z"⟩ : MethodName) (head1 (Jvm.Cond.code (⟨"com/example/lichen/lichen/model/NameIsIdentifierPartPinLaw", "reference", "(I)Z"⟩ : MethodName) method_2_code 5 (some .boolean) :: ws) ({ frames := 0, cells := 0, slots := 0, locals := 0 } : Room)) (fun a U => a = #[(.int p1)] ∧ Z.Warmed39 U.vm ∧ U.heap = h0) (fun _ _ _ _ _ => True) (fun _ U o U' => ∃ v L, o = .returned v ∧ Q_rm2 Z p1 h0 n0 v U'.heap L ∧ FrameEnd U o U' L ({ frames := 0, cells := 0, slots := 0, locals := 0 } : Room).cells ({ frames := 0, cells := 0, slots := 0, locals := 0 } : Room).slots) := by
  refine MetFree.of_bodySF (plainFor_of_name pn_1) hisR ?_
  intro p e s m args below meth c s₁ Bd hml0 hP hK
  obtain ⟨rfl, hZ, hh⟩ := hP
  have hx := Bd.exec
  have hby := Bd.bytes
  have hml : c.maxLocals = 5 := hml0
  have hown : s.vm.findClass "com/example/lichen/lichen/model/NameIsIdentifierPartPinLaw" = some m.cls := findClass_of_methodNamed Bd.named
  have hnm := (name_of_methodNamed Bd.named Bd.method).1
  have X0 : Stand p l e ({ frames := 0, cells := 0, slots := 0, locals := 0 } : Room) s m #[(.int p1)] below meth c s₁ [] 0 0 := Stand.of_body Bd
  have e0 : s₁.heap = h0 := by rw [← hh, Bd.state]; rfl
  have N0 := Fr.nil n0
  have pre0 : ∀ t, Steps p.tables e below (s₁.setTop (mkF m 0 #[.val (.int p1), .unset, .unset, .unset, .unset] [])) t → Steps p.tables e below (s₁.setTop (entryFrame m #[(.int p1)] 5)) t := fun t k => castTop (ef_rm2 m p1) k
  have pre4 : ∀ t, Steps p.tables e below (s₁.setTop (mkF m 22 #[.val (.int p1), .val (.int (p1 ||| (32 : Int32))), .unset, .unset, .unset] [(.int (if (p1 ||| (32 : Int32)) < (97 : Int32) then (0 : Int32) else (if (122 : Int32) < (p1 ||| (32 : Int32)) then (0 : Int32) else (1 : Int32))))])) t → Steps p.tables e below (s₁.setTop (entryFrame m #[(.int p1)] 5)) t := by
    intro t k
    refine pre0 t ?_
    refine XS.iloadN X0.here hx rfl (hb hby d2_0) rfl ?_
    show Steps _ _ _ (s₁.setTop (mkF m 1 #[.val (.int p1), .unset, .unset, .unset, .unset] [(.int p1)])) _
    refine XS.bipush X0.here hx rfl (hb hby d2_1) ?_
    show Steps _ _ _ (s₁.setTop (mkF m 3 #[.val (.int p1), .unset, .unset, .unset, .unset] [(.int (32 : Int32)), (.int p1)])) _
    refine XS.ior X0.here hx rfl (hb hby d2_3) rfl ?_
    show Steps _ _ _ (s₁.setTop (mkF m 4 #[.val (.int p1), .unset, .unset, .unset, .unset] [(.int (p1 ||| (32 : Int32)))])) _
    refine XS.istoreN X0.here hx rfl (hb hby d2_4) rfl (l' := #[.val (.int p1), .val (.int (p1 ||| (32 : Int32))), .unset, .unset, .unset]) rfl ?_
    show Steps _ _ _ (s₁.setTop (mkF m 5 #[.val (.int p1), .val (.int (p1 ||| (32 : Int32))), .unset, .unset, .unset] [])) _
    refine XS.iloadN X0.here hx rfl (hb hby d2_5) rfl ?_
    show Steps _ _ _ (s₁.setTop (mkF m 6 #[.val (.int p1), .val (.int (p1 ||| (32 : Int32))), .unset, .unset, .unset] [(.int (p1 ||| (32 : Int32)))])) _
    refine XS.bipush X0.here hx rfl (hb hby d2_6) ?_
    show Steps _ _ _ (s₁.setTop (mkF m 8 #[.val (.int p1), .val (.int (p1 ||| (32 : Int32))), .unset, .unset, .unset] [(.int (97 : Int32)), (.int (p1 ||| (32 : Int32)))])) _
    by_cases hc1 : (p1 ||| (32 : Int32)) < (97 : Int32)
    · simp only [if_pos hc1] at k
      refine XS.icmpYes X0.here hx rfl (pc0 := 8) (pc' := 21) rfl (hb hby d2_8) rfl (tlt hc1).1 (by decide) (by decide) ?_
      show Steps _ _ _ (s₁.setTop (mkF m 21 #[.val (.int p1), .val (.int (p1 ||| (32 : Int32))), .unset, .unset, .unset] [])) _
      refine XS.iconst X0.here hx rfl (hb hby d2_21) ?_
      show Steps _ _ _ (s₁.setTop (mkF m 22 #[.val (.int p1), .val (.int (p1 ||| (32 : Int32))), .unset, .unset, .unset] [(.int (0 : Int32))])) _
      exact k
    · simp only [if_neg hc1] at k
      refine XS.icmpNo X0.here hx rfl (hb hby d2_8) rfl (flt hc1).1 ?_
      show Steps _ _ _ (s₁.setTop (mkF m 11 #[.val (.int p1), .val (.int (p1 ||| (32 : Int32))), .unset, .unset, .unset] [])) _
      refine XS.iloadN X0.here hx rfl (hb hby d2_11) rfl ?_
      show Steps _ _ _ (s₁.setTop (mkF m 12 #[.val (.int p1), .val (.int (p1 ||| (32 : Int32))), .unset, .unset, .unset] [(.int (p1 ||| (32 : Int32)))])) _
      refine XS.bipush X0.here hx rfl (hb hby d2_12) ?_
      show Steps _ _ _ (s₁.setTop (mkF m 14 #[.val (.int p1), .val (.int (p1 ||| (32 : Int32))), .unset, .unset, .unset] [(.int (122 : Int32)), (.int (p1 ||| (32 : Int32)))])) _
      by_cases hc2 : (122 : Int32) < (p1 ||| (32 : Int32))
      · simp only [if_pos hc2] at k
        refine XS.icmpYes X0.here hx rfl (pc0 := 14) (pc' := 21) rfl (hb hby d2_14) rfl (tlt hc2).2.2.1 (by decide) (by decide) ?_
        show Steps _ _ _ (s₁.setTop (mkF m 21 #[.val (.int p1), .val (.int (p1 ||| (32 : Int32))), .unset, .unset, .unset] [])) _
        refine XS.iconst X0.here hx rfl (hb hby d2_21) ?_
        show Steps _ _ _ (s₁.setTop (mkF m 22 #[.val (.int p1), .val (.int (p1 ||| (32 : Int32))), .unset, .unset, .unset] [(.int (0 : Int32))])) _
        exact k
      · simp only [if_neg hc2] at k
        refine XS.icmpNo X0.here hx rfl (hb hby d2_14) rfl (flt hc2).2.2.1 ?_
        show Steps _ _ _ (s₁.setTop (mkF m 17 #[.val (.int p1), .val (.int (p1 ||| (32 : Int32))), .unset, .unset, .unset] [])) _
        refine XS.iconst X0.here hx rfl (hb hby d2_17) ?_
        show Steps _ _ _ (s₁.setTop (mkF m 18 #[.val (.int p1), .val (.int (p1 ||| (32 : Int32))), .unset, .unset, .unset] [(.int (1 : Int32))])) _
        refine XS.goto X0.here hx rfl (pc0 := 18) (pc' := 22) rfl (hb hby d2_18) (by decide) (by decide) ?_
        show Steps _ _ _ (s₁.setTop (mkF m 22 #[.val (.int p1), .val (.int (p1 ||| (32 : Int32))), .unset, .unset, .unset] [(.int (1 : Int32))])) _
        exact k
  obtain ⟨z3, hz3⟩ : ∃ z : Int32, z = (if (p1 ||| (32 : Int32)) < (97 : Int32) then (0 : Int32) else (if (122 : Int32) < (p1 ||| (32 : Int32)) then (0 : Int32) else (1 : Int32))) := ⟨_, rfl⟩
  rw [← hz3] at pre4
  have pre8 : ∀ t, Steps p.tables e below (s₁.setTop (mkF m 44 #[.val (.int p1), .val (.int (p1 ||| (32 : Int32))), .val (.int z3), .unset, .unset] [(.int (if ((p1.toUInt32 >>> ((4 : Int32) &&& 31).toUInt32).toInt32) = (3 : Int32) then (if (p1 &&& (15 : Int32)) < (10 : Int32) then (1 : Int32) else (0 : Int32)) else (0 : Int32)))])) t → Steps p.tables e below (s₁.setTop (entryFrame m #[(.int p1)] 5)) t := by
    intro t k
    refine pre4 t ?_
    refine XS.istoreN X0.here hx rfl (hb hby d2_22) rfl (l' := #[.val (.int p1), .val (.int (p1 ||| (32 : Int32))), .val (.int z3), .unset, .unset]) rfl ?_
    show Steps _ _ _ (s₁.setTop (mkF m 23 #[.val (.int p1), .val (.int (p1 ||| (32 : Int32))), .val (.int z3), .unset, .unset] [])) _
    refine XS.iloadN X0.here hx rfl (hb hby d2_23) rfl ?_
    show Steps _ _ _ (s₁.setTop (mkF m 24 #[.val (.int p1), .val (.int (p1 ||| (32 : Int32))), .val (.int z3), .unset, .unset] [(.int p1)])) _
    refine XS.iconst X0.here hx rfl (hb hby d2_24) ?_
    show Steps _ _ _ (s₁.setTop (mkF m 25 #[.val (.int p1), .val (.int (p1 ||| (32 : Int32))), .val (.int z3), .unset, .unset] [(.int (4 : Int32)), (.int p1)])) _
    refine XS.iushr X0.here hx rfl (hb hby d2_25) rfl ?_
    show Steps _ _ _ (s₁.setTop (mkF m 26 #[.val (.int p1), .val (.int (p1 ||| (32 : Int32))), .val (.int z3), .unset, .unset] [(.int ((p1.toUInt32 >>> ((4 : Int32) &&& 31).toUInt32).toInt32))])) _
    refine XS.iconst X0.here hx rfl (hb hby d2_26) ?_
    show Steps _ _ _ (s₁.setTop (mkF m 27 #[.val (.int p1), .val (.int (p1 ||| (32 : Int32))), .val (.int z3), .unset, .unset] [(.int (3 : Int32)), (.int ((p1.toUInt32 >>> ((4 : Int32) &&& 31).toUInt32).toInt32))])) _
    by_cases hc5 : ((p1.toUInt32 >>> ((4 : Int32) &&& 31).toUInt32).toInt32) = (3 : Int32)
    · simp only [if_pos hc5] at k
      refine XS.icmpNo X0.here hx rfl (hb hby d2_27) rfl (teq hc5).2 ?_
      show Steps _ _ _ (s₁.setTop (mkF m 30 #[.val (.int p1), .val (.int (p1 ||| (32 : Int32))), .val (.int z3), .unset, .unset] [])) _
      refine XS.iloadN X0.here hx rfl (hb hby d2_30) rfl ?_
      show Steps _ _ _ (s₁.setTop (mkF m 31 #[.val (.int p1), .val (.int (p1 ||| (32 : Int32))), .val (.int z3), .unset, .unset] [(.int p1)])) _
      refine XS.bipush X0.here hx rfl (hb hby d2_31) ?_
      show Steps _ _ _ (s₁.setTop (mkF m 33 #[.val (.int p1), .val (.int (p1 ||| (32 : Int32))), .val (.int z3), .unset, .unset] [(.int (15 : Int32)), (.int p1)])) _
      refine XS.iand X0.here hx rfl (hb hby d2_33) rfl ?_
      show Steps _ _ _ (s₁.setTop (mkF m 34 #[.val (.int p1), .val (.int (p1 ||| (32 : Int32))), .val (.int z3), .unset, .unset] [(.int (p1 &&& (15 : Int32)))])) _
      refine XS.bipush X0.here hx rfl (hb hby d2_34) ?_
      show Steps _ _ _ (s₁.setTop (mkF m 36 #[.val (.int p1), .val (.int (p1 ||| (32 : Int32))), .val (.int z3), .unset, .unset] [(.int (10 : Int32)), (.int (p1 &&& (15 : Int32)))])) _
      by_cases hc6 : (p1 &&& (15 : Int32)) < (10 : Int32)
      · simp only [if_pos hc6] at k
        refine XS.icmpNo X0.here hx rfl (hb hby d2_36) rfl (tlt hc6).2.1 ?_
        show Steps _ _ _ (s₁.setTop (mkF m 39 #[.val (.int p1), .val (.int (p1 ||| (32 : Int32))), .val (.int z3), .unset, .unset] [])) _
        refine XS.iconst X0.here hx rfl (hb hby d2_39) ?_
        show Steps _ _ _ (s₁.setTop (mkF m 40 #[.val (.int p1), .val (.int (p1 ||| (32 : Int32))), .val (.int z3), .unset, .unset] [(.int (1 : Int32))])) _
        refine XS.goto X0.here hx rfl (pc0 := 40) (pc' := 44) rfl (hb hby d2_40) (by decide) (by decide) ?_
        show Steps _ _ _ (s₁.setTop (mkF m 44 #[.val (.int p1), .val (.int (p1 ||| (32 : Int32))), .val (.int z3), .unset, .unset] [(.int (1 : Int32))])) _
        exact k
      · simp only [if_neg hc6] at k
        refine XS.icmpYes X0.here hx rfl (pc0 := 36) (pc' := 43) rfl (hb hby d2_36) rfl (flt hc6).2.1 (by decide) (by decide) ?_
        show Steps _ _ _ (s₁.setTop (mkF m 43 #[.val (.int p1), .val (.int (p1 ||| (32 : Int32))), .val (.int z3), .unset, .unset] [])) _
        refine XS.iconst X0.here hx rfl (hb hby d2_43) ?_
        show Steps _ _ _ (s₁.setTop (mkF m 44 #[.val (.int p1), .val (.int (p1 ||| (32 : Int32))), .val (.int z3), .unset, .unset] [(.int (0 : Int32))])) _
        exact k
    · simp only [if_neg hc5] at k
      refine XS.icmpYes X0.here hx rfl (pc0 := 27) (pc' := 43) rfl (hb hby d2_27) rfl (feq hc5).2 (by decide) (by decide) ?_
      show Steps _ _ _ (s₁.setTop (mkF m 43 #[.val (.int p1), .val (.int (p1 ||| (32 : Int32))), .val (.int z3), .unset, .unset] [])) _
      refine XS.iconst X0.here hx rfl (hb hby d2_43) ?_
      show Steps _ _ _ (s₁.setTop (mkF m 44 #[.val (.int p1), .val (.int (p1 ||| (32 : Int32))), .val (.int z3), .unset, .unset] [(.int (0 : Int32))])) _
      exact k
  obtain ⟨z7, hz7⟩ : ∃ z : Int32, z = (if ((p1.toUInt32 >>> ((4 : Int32) &&& 31).toUInt32).toInt32) = (3 : Int32) then (if (p1 &&& (15 : Int32)) < (10 : Int32) then (1 : Int32) else (0 : Int32)) else (0 : Int32)) := ⟨_, rfl⟩
  rw [← hz7] at pre8
  have pre11 : ∀ t, Steps p.tables e below (s₁.setTop (mkF m 56 #[.val (.int p1), .val (.int (p1 ||| (32 : Int32))), .val (.int z3), .val (.int z7), .unset] [(.int (if p1 = (95 : Int32) then (1 : Int32) else (0 : Int32)))])) t → Steps p.tables e below (s₁.setTop (entryFrame m #[(.int p1)] 5)) t := by
    intro t k
    refine pre8 t ?_
    refine XS.istoreN X0.here hx rfl (hb hby d2_44) rfl (l' := #[.val (.int p1), .val (.int (p1 ||| (32 : Int32))), .val (.int z3), .val (.int z7), .unset]) rfl ?_
    show Steps _ _ _ (s₁.setTop (mkF m 45 #[.val (.int p1), .val (.int (p1 ||| (32 : Int32))), .val (.int z3), .val (.int z7), .unset] [])) _
    refine XS.iloadN X0.here hx rfl (hb hby d2_45) rfl ?_
    show Steps _ _ _ (s₁.setTop (mkF m 46 #[.val (.int p1), .val (.int (p1 ||| (32 : Int32))), .val (.int z3), .val (.int z7), .unset] [(.int p1)])) _
    refine XS.bipush X0.here hx rfl (hb hby d2_46) ?_
    show Steps _ _ _ (s₁.setTop (mkF m 48 #[.val (.int p1), .val (.int (p1 ||| (32 : Int32))), .val (.int z3), .val (.int z7), .unset] [(.int (95 : Int32)), (.int p1)])) _
    by_cases hc9 : p1 = (95 : Int32)
    · simp only [if_pos hc9] at k
      refine XS.icmpNo X0.here hx rfl (hb hby d2_48) rfl (teq hc9).2 ?_
      show Steps _ _ _ (s₁.setTop (mkF m 51 #[.val (.int p1), .val (.int (p1 ||| (32 : Int32))), .val (.int z3), .val (.int z7), .unset] [])) _
      refine XS.iconst X0.here hx rfl (hb hby d2_51) ?_
      show Steps _ _ _ (s₁.setTop (mkF m 52 #[.val (.int p1), .val (.int (p1 ||| (32 : Int32))), .val (.int z3), .val (.int z7), .unset] [(.int (1 : Int32))])) _
      refine XS.goto X0.here hx rfl (pc0 := 52) (pc' := 56) rfl (hb hby d2_52) (by decide) (by decide) ?_
      show Steps _ _ _ (s₁.setTop (mkF m 56 #[.val (.int p1), .val (.int (p1 ||| (32 : Int32))), .val (.int z3), .val (.int z7), .unset] [(.int (1 : Int32))])) _
      exact k
    · simp only [if_neg hc9] at k
      refine XS.icmpYes X0.here hx rfl (pc0 := 48) (pc' := 55) rfl (hb hby d2_48) rfl (feq hc9).2 (by decide) (by decide) ?_
      show Steps _ _ _ (s₁.setTop (mkF m 55 #[.val (.int p1), .val (.int (p1 ||| (32 : Int32))), .val (.int z3), .val (.int z7), .unset] [])) _
      refine XS.iconst X0.here hx rfl (hb hby d2_55) ?_
      show Steps _ _ _ (s₁.setTop (mkF m 56 #[.val (.int p1), .val (.int (p1 ||| (32 : Int32))), .val (.int z3), .val (.int z7), .unset] [(.int (0 : Int32))])) _
      exact k
  obtain ⟨z10, hz10⟩ : ∃ z : Int32, z = (if p1 = (95 : Int32) then (1 : Int32) else (0 : Int32)) := ⟨_, rfl⟩
  rw [← hz10] at pre11
  have pre16 : ∀ t, Steps p.tables e below (s₁.setTop (mkF m 76 #[.val (.int p1), .val (.int (p1 ||| (32 : Int32))), .val (.int z3), .val (.int z7), .val (.int z10)] [(.int (if z3 = (0 : Int32) then (if z7 = (0 : Int32) then (if z10 = (0 : Int32) then (0 : Int32) else (1 : Int32)) else (1 : Int32)) else (1 : Int32)))])) t → Steps p.tables e below (s₁.setTop (entryFrame m #[(.int p1)] 5)) t := by
    intro t k
    refine pre11 t ?_
    refine XS.istore X0.here hx rfl (hb hby d2_56) rfl (l' := #[.val (.int p1), .val (.int (p1 ||| (32 : Int32))), .val (.int z3), .val (.int z7), .val (.int z10)]) rfl ?_
    show Steps _ _ _ (s₁.setTop (mkF m 58 #[.val (.int p1), .val (.int (p1 ||| (32 : Int32))), .val (.int z3), .val (.int z7), .val (.int z10)] [])) _
    refine XS.iloadN X0.here hx rfl (hb hby d2_58) rfl ?_
    show Steps _ _ _ (s₁.setTop (mkF m 59 #[.val (.int p1), .val (.int (p1 ||| (32 : Int32))), .val (.int z3), .val (.int z7), .val (.int z10)] [(.int z3)])) _
    by_cases hc12 : z3 = (0 : Int32)
    · simp only [if_pos hc12] at k
      refine XS.ifNo X0.here hx rfl (hb hby d2_59) rfl ((if0 _ _).trans (teq hc12).2) ?_
      show Steps _ _ _ (s₁.setTop (mkF m 62 #[.val (.int p1), .val (.int (p1 ||| (32 : Int32))), .val (.int z3), .val (.int z7), .val (.int z10)] [])) _
      refine XS.iloadN X0.here hx rfl (hb hby d2_62) rfl ?_
      show Steps _ _ _ (s₁.setTop (mkF m 63 #[.val (.int p1), .val (.int (p1 ||| (32 : Int32))), .val (.int z3), .val (.int z7), .val (.int z10)] [(.int z7)])) _
      by_cases hc13 : z7 = (0 : Int32)
      · simp only [if_pos hc13] at k
        refine XS.ifNo X0.here hx rfl (hb hby d2_63) rfl ((if0 _ _).trans (teq hc13).2) ?_
        show Steps _ _ _ (s₁.setTop (mkF m 66 #[.val (.int p1), .val (.int (p1 ||| (32 : Int32))), .val (.int z3), .val (.int z7), .val (.int z10)] [])) _
        refine XS.iload X0.here hx rfl (hb hby d2_66) rfl ?_
        show Steps _ _ _ (s₁.setTop (mkF m 68 #[.val (.int p1), .val (.int (p1 ||| (32 : Int32))), .val (.int z3), .val (.int z7), .val (.int z10)] [(.int z10)])) _
        by_cases hc14 : z10 = (0 : Int32)
        · simp only [if_pos hc14] at k
          refine XS.ifYes X0.here hx rfl (pc0 := 68) (pc' := 75) rfl (hb hby d2_68) rfl ((if0 _ _).trans (teq hc14).1) (by decide) (by decide) ?_
          show Steps _ _ _ (s₁.setTop (mkF m 75 #[.val (.int p1), .val (.int (p1 ||| (32 : Int32))), .val (.int z3), .val (.int z7), .val (.int z10)] [])) _
          refine XS.iconst X0.here hx rfl (hb hby d2_75) ?_
          show Steps _ _ _ (s₁.setTop (mkF m 76 #[.val (.int p1), .val (.int (p1 ||| (32 : Int32))), .val (.int z3), .val (.int z7), .val (.int z10)] [(.int (0 : Int32))])) _
          exact k
        · simp only [if_neg hc14] at k
          refine XS.ifNo X0.here hx rfl (hb hby d2_68) rfl ((if0 _ _).trans (feq hc14).1) ?_
          show Steps _ _ _ (s₁.setTop (mkF m 71 #[.val (.int p1), .val (.int (p1 ||| (32 : Int32))), .val (.int z3), .val (.int z7), .val (.int z10)] [])) _
          refine XS.iconst X0.here hx rfl (hb hby d2_71) ?_
          show Steps _ _ _ (s₁.setTop (mkF m 72 #[.val (.int p1), .val (.int (p1 ||| (32 : Int32))), .val (.int z3), .val (.int z7), .val (.int z10)] [(.int (1 : Int32))])) _
          refine XS.goto X0.here hx rfl (pc0 := 72) (pc' := 76) rfl (hb hby d2_72) (by decide) (by decide) ?_
          show Steps _ _ _ (s₁.setTop (mkF m 76 #[.val (.int p1), .val (.int (p1 ||| (32 : Int32))), .val (.int z3), .val (.int z7), .val (.int z10)] [(.int (1 : Int32))])) _
          exact k
      · simp only [if_neg hc13] at k
        refine XS.ifYes X0.here hx rfl (pc0 := 63) (pc' := 71) rfl (hb hby d2_63) rfl ((if0 _ _).trans (feq hc13).2) (by decide) (by decide) ?_
        show Steps _ _ _ (s₁.setTop (mkF m 71 #[.val (.int p1), .val (.int (p1 ||| (32 : Int32))), .val (.int z3), .val (.int z7), .val (.int z10)] [])) _
        refine XS.iconst X0.here hx rfl (hb hby d2_71) ?_
        show Steps _ _ _ (s₁.setTop (mkF m 72 #[.val (.int p1), .val (.int (p1 ||| (32 : Int32))), .val (.int z3), .val (.int z7), .val (.int z10)] [(.int (1 : Int32))])) _
        refine XS.goto X0.here hx rfl (pc0 := 72) (pc' := 76) rfl (hb hby d2_72) (by decide) (by decide) ?_
        show Steps _ _ _ (s₁.setTop (mkF m 76 #[.val (.int p1), .val (.int (p1 ||| (32 : Int32))), .val (.int z3), .val (.int z7), .val (.int z10)] [(.int (1 : Int32))])) _
        exact k
    · simp only [if_neg hc12] at k
      refine XS.ifYes X0.here hx rfl (pc0 := 59) (pc' := 71) rfl (hb hby d2_59) rfl ((if0 _ _).trans (feq hc12).2) (by decide) (by decide) ?_
      show Steps _ _ _ (s₁.setTop (mkF m 71 #[.val (.int p1), .val (.int (p1 ||| (32 : Int32))), .val (.int z3), .val (.int z7), .val (.int z10)] [])) _
      refine XS.iconst X0.here hx rfl (hb hby d2_71) ?_
      show Steps _ _ _ (s₁.setTop (mkF m 72 #[.val (.int p1), .val (.int (p1 ||| (32 : Int32))), .val (.int z3), .val (.int z7), .val (.int z10)] [(.int (1 : Int32))])) _
      refine XS.goto X0.here hx rfl (pc0 := 72) (pc' := 76) rfl (hb hby d2_72) (by decide) (by decide) ?_
      show Steps _ _ _ (s₁.setTop (mkF m 76 #[.val (.int p1), .val (.int (p1 ||| (32 : Int32))), .val (.int z3), .val (.int z7), .val (.int z10)] [(.int (1 : Int32))])) _
      exact k
  obtain ⟨z15, hz15⟩ : ∃ z : Int32, z = (if z3 = (0 : Int32) then (if z7 = (0 : Int32) then (if z10 = (0 : Int32) then (0 : Int32) else (1 : Int32)) else (1 : Int32)) else (1 : Int32)) := ⟨_, rfl⟩
  rw [← hz15] at pre16
  obtain ⟨fs, hr, hrun, hended, hW, hsame⟩ := X0.leave (v := some (.int (nar .boolean z15))) (fun h => by rw [Bd.returns] at h; cases h)
  refine ⟨_, _, pre16 _ ?_, hrun, hended, _, _, rfl, ?_, ⟨_, rfl⟩, hW, hsame.mono (by decide) (by decide)⟩
  · exact retN X0 hx (t := .boolean) Bd.returns (by simp) (hb hby d2_76) hr
  · show Q_rm2 Z p1 h0 n0 _ s₁.heap _
    rw [e0]
    have h01 : z15 = 0 ∨ z15 = 1 := by rw [hz15]; (repeat' split) <;> simp
    have hvA : (nar .boolean z15) = (own_ref p1) := by
      rw [show nar .boolean z15 = z15 from own_nar01 h01]
      subst hz15
      subst hz10
      subst hz7
      subst hz3
      rfl
    have hv17 : (nar .boolean z15) = (own_ref p1) := hvA
    exact ⟨(by rw [hv17]), N0, rfl⟩
theorem own_small : ∀ k : Fin 128, own_part (Int32.ofInt (k.1 : Int)) = own_ref (Int32.ofInt (k.1 : Int)) := by decide +kernel
theorem own_law (c : Int32) : own_part c = own_ref c := by
  by_cases h : 0 ≤ c.toInt ∧ c.toInt < 128
  · have q := own_small ⟨c.toInt.toNat, by omega⟩
    have e : Int32.ofInt ((c.toInt.toNat : Nat) : Int) = c := by rw [Int.toNat_of_nonneg h.1]; exact Int32.ofInt_toInt c
    rw [e] at q; exact q
  · have l32 : (32 : Int32).toInt = 32 := rfl
    have l97 : (97 : Int32).toInt = 97 := rfl
    have l122 : (122 : Int32).toInt = 122 := rfl
    have l90 : (90 : Int32).toInt = 90 := rfl
    have l65 : (65 : Int32).toInt = 65 := rfl
    have l48 : (48 : Int32).toInt = 48 := rfl
    have l57 : (57 : Int32).toInt = 57 := rfl
    have l95 : (95 : Int32).toInt = 95 := rfl
    have l3 : (3 : Int32).toInt = 3 := rfl
    have n95 : ¬ c = 95 := fun q => by subst q; omega
    have u := c_iushr c 4 4 (by decide) (by decide)
    have n3 : ¬ ((c.toUInt32 >>> ((4 : Int32) &&& 31).toUInt32).toInt32) = (3 : Int32) := fun q => by rw [q] at u; have := rng32 c; omega
    have o1 := c_orS c 32
    have o2 := c_or0 c 32
    have ho : (c ||| (32 : Int32)) < (97 : Int32) ∨ (122 : Int32) < (c ||| (32 : Int32)) := by
      simp only [Int32.lt_iff_toInt_lt]
      by_cases hn : c.toInt < 0
      · have := o1.2.1 hn; omega
      · have := o2 (by omega) (by omega); omega
    have e1 : own_part c = 0 := by
      unfold own_part
      by_cases hn : c.toInt < 0
      · have a1 : c < 97 := by rw [Int32.lt_iff_toInt_lt]; omega
        have a2 : c < 65 := by rw [Int32.lt_iff_toInt_lt]; omega
        have a3 : c < 48 := by rw [Int32.lt_iff_toInt_lt]; omega
        simp only [if_pos a1, if_pos a2, if_pos a3, if_neg n95]
      · have a1 : ¬ c < 97 := by rw [Int32.lt_iff_toInt_lt]; omega
        have a2 : ¬ c < 65 := by rw [Int32.lt_iff_toInt_lt]; omega
        have a3 : ¬ c < 48 := by rw [Int32.lt_iff_toInt_lt]; omega
        have b1 : 122 < c := by rw [Int32.lt_iff_toInt_lt]; omega
        have b2 : 90 < c := by rw [Int32.lt_iff_toInt_lt]; omega
        have b3 : 57 < c := by rw [Int32.lt_iff_toInt_lt]; omega
        simp only [if_neg a1, if_neg a2, if_neg a3, if_pos b1, if_pos b2, if_pos b3, if_neg n95]
    have e2 : own_ref c = 0 := by
      unfold own_ref
      rcases ho with ho | ho
      · simp only [if_pos ho, if_neg n3, if_neg n95, if_true]
      · simp only [if_pos ho, if_neg n3, if_neg n95, ite_self, if_true]
    rw [e1, e2]
theorem pd_0 : parseMethodDescriptor "(I)Z" = some ⟨[.int], some .boolean⟩ := by decide +kernel
theorem ef_rm0 (m : MethodId) (x0 : Int32) (x1 : Int32) : entryFrame m #[(.int x0), (.int x1)] maxLocals = mkF m 0 #[.val (.int x0), .val (.int x1), .unset] [] := by first | (simp [entryFrame, mkF, argsToLocals, Value.category, maxLocals]; done) | rfl
def Q_rm0 (Z : State) (p1 : Int32) (p2 : Int32) (h0 : Heap) (n0 : Nat) (v : Option Value) (h : Heap) (L : List Loc) : Prop := v = some (.int (1 : Int32)) ∧ Fr n0 L ∧ h = h0
set_option maxRecDepth 65536 in
set_option maxHeartbeats 40000000 in
theorem rm0 (l : Launch) (Z : State) (a0 : Array Value) (hw : ∀ d ∈ tables_1, d.before a0 Z = true) (ws : List Jvm.Cond) (p1 : Int32) (p2 : Int32) (h0 : Heap) (n0 : Nat) (Z0 : n0 ≤ h0.size) :
    MetFree l x (head1 (Jvm.Cond.code x code maxLocals ret :: ws) room_1) (fun a U => a = #[(.int p1), (.int p2)] ∧ Z.Warmed39 U.vm ∧ U.heap = h0) (fun _ _ _ _ _ => True) (fun _ U o U' => ∃ v L, o = .returned v ∧ Q_rm0 Z p1 p2 h0 n0 v U'.heap L ∧ FrameEnd U o U' L room_1.cells room_1.slots) := by
  refine MetFree.of_bodySF (plainFor_of_name pn_1) hisR ?_
  intro p e s m args below meth c s₁ Bd hml0 hP hK
  obtain ⟨rfl, hZ, hh⟩ := hP
  have hx := Bd.exec
  have hby := Bd.bytes
  have hml : c.maxLocals = 3 := hml0
  have hown : s.vm.findClass "com/example/lichen/lichen/model/NameIsIdentifierPartPinLaw" = some m.cls := findClass_of_methodNamed Bd.named
  have hnm := (name_of_methodNamed Bd.named Bd.method).1
  have X0 : Stand p l e room_1 s m #[(.int p1), (.int p2)] below meth c s₁ [] 0 0 := Stand.of_body Bd
  have e0 : s₁.heap = h0 := by rw [← hh, Bd.state]; rfl
  have N0 := Fr.nil n0
  have pre0 : ∀ t, Steps p.tables e below (s₁.setTop (mkF m 0 #[.val (.int p1), .val (.int p2), .unset] [])) t → Steps p.tables e below (s₁.setTop (entryFrame m #[(.int p1), (.int p2)] maxLocals)) t := fun t k => castTop (ef_rm0 m p1 p2) k
  have pre3 : ∀ t, Steps p.tables e below (s₁.setTop (mkF m 17 #[.val (.int p1), .val (.int p2), .val (.int (if (p2 &&& (1 : Int32)) = (0 : Int32) then (p1 &&& (255 : Int32)) else p1))] [])) t → Steps p.tables e below (s₁.setTop (entryFrame m #[(.int p1), (.int p2)] maxLocals)) t := by
    intro t k
    refine pre0 t ?_
    refine XS.iloadN X0.here hx rfl (hb hby at_0) rfl ?_
    show Steps _ _ _ (s₁.setTop (mkF m 1 #[.val (.int p1), .val (.int p2), .unset] [(.int p2)])) _
    refine XS.iconst X0.here hx rfl (hb hby at_1) ?_
    show Steps _ _ _ (s₁.setTop (mkF m 2 #[.val (.int p1), .val (.int p2), .unset] [(.int (1 : Int32)), (.int p2)])) _
    refine XS.iand X0.here hx rfl (hb hby at_2) rfl ?_
    show Steps _ _ _ (s₁.setTop (mkF m 3 #[.val (.int p1), .val (.int p2), .unset] [(.int (p2 &&& (1 : Int32)))])) _
    by_cases hc1 : (p2 &&& (1 : Int32)) = (0 : Int32)
    · simp only [if_pos hc1] at k
      refine XS.ifYes X0.here hx rfl (pc0 := 3) (pc' := 11) rfl (hb hby at_3) rfl ((if0 _ _).trans (teq hc1).1) (by decide) (by decide) ?_
      show Steps _ _ _ (s₁.setTop (mkF m 11 #[.val (.int p1), .val (.int p2), .unset] [])) _
      refine XS.iloadN X0.here hx rfl (hb hby at_11) rfl ?_
      show Steps _ _ _ (s₁.setTop (mkF m 12 #[.val (.int p1), .val (.int p2), .unset] [(.int p1)])) _
      refine XS.sipush X0.here hx rfl (hb hby at_12) ?_
      show Steps _ _ _ (s₁.setTop (mkF m 15 #[.val (.int p1), .val (.int p2), .unset] [(.int (255 : Int32)), (.int p1)])) _
      refine XS.iand X0.here hx rfl (hb hby at_15) rfl ?_
      show Steps _ _ _ (s₁.setTop (mkF m 16 #[.val (.int p1), .val (.int p2), .unset] [(.int (p1 &&& (255 : Int32)))])) _
      refine XS.istoreN X0.here hx rfl (hb hby at_16) rfl (l' := #[.val (.int p1), .val (.int p2), .val (.int (p1 &&& (255 : Int32)))]) rfl ?_
      show Steps _ _ _ (s₁.setTop (mkF m 17 #[.val (.int p1), .val (.int p2), .val (.int (p1 &&& (255 : Int32)))] [])) _
      exact k
    · simp only [if_neg hc1] at k
      refine XS.ifNo X0.here hx rfl (hb hby at_3) rfl ((if0 _ _).trans (feq hc1).1) ?_
      show Steps _ _ _ (s₁.setTop (mkF m 6 #[.val (.int p1), .val (.int p2), .unset] [])) _
      refine XS.iloadN X0.here hx rfl (hb hby at_6) rfl ?_
      show Steps _ _ _ (s₁.setTop (mkF m 7 #[.val (.int p1), .val (.int p2), .unset] [(.int p1)])) _
      refine XS.istoreN X0.here hx rfl (hb hby at_7) rfl (l' := #[.val (.int p1), .val (.int p2), .val (.int p1)]) rfl ?_
      show Steps _ _ _ (s₁.setTop (mkF m 8 #[.val (.int p1), .val (.int p2), .val (.int p1)] [])) _
      refine XS.goto X0.here hx rfl (pc0 := 8) (pc' := 17) rfl (hb hby at_8) (by decide) (by decide) ?_
      show Steps _ _ _ (s₁.setTop (mkF m 17 #[.val (.int p1), .val (.int p2), .val (.int p1)] [])) _
      exact k
  obtain ⟨z2, hz2⟩ : ∃ z : Int32, z = (if (p2 &&& (1 : Int32)) = (0 : Int32) then (p1 &&& (255 : Int32)) else p1) := ⟨_, rfl⟩
  rw [← hz2] at pre3
  obtain ⟨_, _, ⟨T4, L4, k4, n4⟩, -, X4, ⟨Lc4, hQ4, l4, y4, z4⟩, st4⟩ := Jvm.LawKit.callS X0 hx (y := (⟨"com/example/lichen/lichen/model/Name", "isIdentifierPart", "(I)Z"⟩ : MethodName)) hown (mvT hZ (hw _ (List.mem_of_getElem? (i := 0) rfl))) (mvT hZ (hw _ (List.mem_of_getElem? (i := 1) rfl))) (mvT hZ (hw _ (List.mem_of_getElem? (i := 2) rfl))) (mvT hZ (hw _ (List.mem_of_getElem? (i := 3) rfl))) (by decide) (backOf (W := 0) (rm1 l Z a0 hw [] z2 h0 n0 Z0) hZ (hw _ (List.mem_of_getElem? (i := 3) rfl)) (hw _ (List.mem_of_getElem? (i := 2) rfl)) (by decide) (by decide)) (g := (mkF m 18 #[.val (.int p1), .val (.int p2), .val (.int z2)] [(.int z2)])) rfl (by rw [hml]; rfl) (argsL := [(.int z2)]) (rest := []) (lenOf pd_0 rfl) rfl (by show 2 * 0 + _ ≤ _; exact Nat.le_of_eq rfl) (hb hby at_18) (fun _ _ => ⟨rfl, e0, (by decide : 0 + 0 ≤ _), (by decide : 0 + 0 ≤ _)⟩)
  dsimp only [Pt.U, Pt.locs, Pt.cells, Pt.slots] at X4 l4 y4 z4 st4 hQ4
  subst l4 y4 z4
  obtain ⟨rfl, Nq4, q4_0⟩ := hQ4
  have N5 := Fr.app N0 Nq4
  obtain ⟨_, _, ⟨T6, L6, k6, n6⟩, -, X6, ⟨Lc6, hQ6, l6, y6, z6⟩, st6⟩ := Jvm.LawKit.callS X4 hx (y := (⟨"com/example/lichen/lichen/model/NameIsIdentifierPartPinLaw", "reference", "(I)Z"⟩ : MethodName)) hown (mvT hZ (hw _ (List.mem_of_getElem? (i := 4) rfl))) (mvT hZ (hw _ (List.mem_of_getElem? (i := 5) rfl))) (mvT hZ (hw _ (List.mem_of_getElem? (i := 6) rfl))) (mvT hZ (hw _ (List.mem_of_getElem? (i := 7) rfl))) (by decide) (backOf (W := 1) (rm2 l Z a0 hw [] z2 h0 n0 Z0) hZ (hw _ (List.mem_of_getElem? (i := 7) rfl)) (hw _ (List.mem_of_getElem? (i := 6) rfl)) (by decide) (by decide)) (g := (mkF m 22 #[.val (.int p1), .val (.int p2), .val (.int z2)] [(.int z2), (.int (own_part z2))])) rfl (by rw [hml]; rfl) (argsL := [(.int z2)]) (rest := [(.int (own_part z2))]) (lenOf pd_0 rfl) rfl (by show 2 * 0 + _ ≤ _; exact Nat.le_of_eq rfl) (hb hby at_22) (fun _ _ => ⟨rfl, q4_0, (by decide : 0 + 0 ≤ _), (by decide : 0 + 0 ≤ _)⟩)
  dsimp only [Pt.U, Pt.locs, Pt.cells, Pt.slots] at X6 l6 y6 z6 st6 hQ6
  subst l6 y6 z6
  obtain ⟨rfl, Nq6, q6_0⟩ := hQ6
  have N7 := Fr.app N5 Nq6
  have hc8 : (own_part z2) = (own_ref z2) := own_law _
  have pre9 : ∀ t, Steps p.tables e below (T6.setTop (mkF m 33 #[.val (.int p1), .val (.int p2), .val (.int z2)] [(.int (1 : Int32))])) t → Steps p.tables e below (s₁.setTop (entryFrame m #[(.int p1), (.int p2)] maxLocals)) t := by
    intro t k
    refine pre3 t ?_
    refine XS.iloadN X0.here hx rfl (hb hby at_17) rfl ?_
    show Steps _ _ _ (s₁.setTop (mkF m 18 #[.val (.int p1), .val (.int p2), .val (.int z2)] [(.int z2)])) _
    refine st4 _ ?_
    show Steps _ _ _ (T4.setTop (mkF m 21 #[.val (.int p1), .val (.int p2), .val (.int z2)] [(.int (own_part z2))])) _
    refine XS.iloadN X4.here hx rfl (hb hby at_21) rfl ?_
    show Steps _ _ _ (T4.setTop (mkF m 22 #[.val (.int p1), .val (.int p2), .val (.int z2)] [(.int z2), (.int (own_part z2))])) _
    refine st6 _ ?_
    show Steps _ _ _ (T6.setTop (mkF m 25 #[.val (.int p1), .val (.int p2), .val (.int z2)] [(.int (own_ref z2)), (.int (own_part z2))])) _
    refine XS.icmpNo X6.here hx rfl (hb hby at_25) rfl (teq hc8).2 ?_
    show Steps _ _ _ (T6.setTop (mkF m 28 #[.val (.int p1), .val (.int p2), .val (.int z2)] [])) _
    refine XS.iconst X6.here hx rfl (hb hby at_28) ?_
    show Steps _ _ _ (T6.setTop (mkF m 29 #[.val (.int p1), .val (.int p2), .val (.int z2)] [(.int (1 : Int32))])) _
    refine XS.goto X6.here hx rfl (pc0 := 29) (pc' := 33) rfl (hb hby at_29) (by decide) (by decide) ?_
    show Steps _ _ _ (T6.setTop (mkF m 33 #[.val (.int p1), .val (.int p2), .val (.int z2)] [(.int (1 : Int32))])) _
    exact k
  obtain ⟨fs, hr, hrun, hended, hW, hsame⟩ := X6.leave (v := some (.int (1 : Int32))) (fun h => by rw [Bd.returns] at h; cases h)
  refine ⟨_, _, pre9 _ ?_, hrun, hended, _, _, rfl, ?_, ⟨_, rfl⟩, hW, hsame.mono (by decide) (by decide)⟩
  · exact retN X6 hx (t := .boolean) Bd.returns (by simp) (hb hby at_33) hr
  · show Q_rm0 Z p1 p2 h0 n0 _ T6.heap _
    rw [q6_0]
    exact ⟨rfl, N7, rfl⟩
set_option maxRecDepth 65536 in
set_option maxHeartbeats 40000000 in
theorem comes_1 {Post : Tables → Env → Array Value → State → Outcome → State → Prop} (hpost : ∀ tb e args s v u, (limb_1_1.after args s (.returned v) u = true ∧ limb_1_2.after args s (.returned v) u = true ∧ True) → FrameEnd s (.returned v) u (Jvm.fieldLocs frame_1_writes args s ++ Jvm.arrayLocs frame_1_arrays args s ++ Jvm.staticLocs frame_1_statics s) 0 0 → Post tb e args s (.returned v) u) :
    ArmFor flags0 classFile x code maxLocals ret World_1 tables_1 room_1 Calls_1 rest_1 Pre_1 Post := by
  intro l hfl _ _ p e ha hc hk s m args below hf hA hF happ hP
  obtain ⟨hcalls, hrest, hpre⟩ := hP
  obtain ⟨-, -, -, hnamed, -, -, -, hat⟩ := (Spec.applies_iff hf).mp happ
  obtain ⟨hg, hn⟩ := and_e (Cond.before_iff.mp (show (Jvm.Cond.and given_1 narrow_1).before args s = true from hpre))
  obtain ⟨g0, r0⟩ := and_e hg
  obtain ⟨g1, r1⟩ := and_e r0
  obtain ⟨w0, w1, rfl⟩ : ∃ w0 w1 : Value, args = #[w0, w1] := by
    have hs : args.size = 2 := by simpa [Cond.value, given_1] using g0
    obtain ⟨L⟩ := args
    match L, hs with
    | [w0, w1], _ => exact ⟨w0, w1, rfl⟩
  have hw := fun d (hd : d ∈ tables_1) => atoms_spec (ws := Jvm.Cond.code x code maxLocals ret :: tables_1) hat d (List.mem_cons_of_mem _ hd)
  have hfit : Fit s := fun {y c} hc i hi => by
    obtain ⟨ha, rfl⟩ := Array.getElem?_eq_some_iff.mp hc
    have q := List.all_eq_true.mp ((Array.all_eq_true_iff_forall_mem.mp hF) _ (Array.getElem_mem ha)) i (List.mem_range.mpr hi)
    simpa [Array.getElem?_eq_getElem hi] using q
  obtain ⟨i0, ei0⟩ := is_v g1
  obtain rfl : w0 = (.int i0) := Option.some.inj ei0
  obtain ⟨i1, ei1⟩ := is_v r1
  obtain rfl : w1 = (.int i1) := Option.some.inj ei1
  obtain ⟨n, o, h1, h2, h3, _, L, rfl, ⟨rfl, N, -⟩, hq⟩ := rm0 l s _ hw tables_1 i0 i1 s.heap s.heap.size (Nat.le_refl _)  p e ha hc hk s m _ below hf ((Spec.applies_iff_loose hf).mp happ).1 ⟨rfl, State.Warmed39.refl s, rfl⟩ trivial
  refine ⟨n, _, h1, h2, h3, hpost _ _ _ _ _ _ ⟨Cond.after_iff.mpr rfl, Cond.after_iff.mpr (eq_i res_at (Term.int_eval (1)) rfl), trivial⟩ ⟨hq.1, hq.2.1, (hq.2.2.sift fun y hy => Or.inr (N y hy)).mono (by decide) (by decide)⟩⟩
theorem main_1_1 : Claimed_1_1 := comes_1 fun _ _ _ _ _ _ h hF => ⟨h.1, hF⟩
theorem main_1_2 : Claimed_1_2 := comes_1 fun _ _ _ _ _ _ h hF => ⟨h.2.1, hF⟩
end Jvm.Pilot.@@N@@
namespace Jvm.Pilot.@@N@@
open Jvm Jvm.ClassFile Sem Op Lib Jvm.Free Jvm.Stand Jvm.Pilot.@@N@@.Jvm.D
/-! MADE BY PROGRAM (witnessworld.py) out of the Statement's table words and the real class files: 11 classes; the members and pool entries that the words name. The judged class is class 1, her method 2. -/
namespace start1
open Jvm.ClassFile
def u (s : String) : CpInfo := .utf8 (stringToUtf16 s)
/-- a pool by its gaps: so many unusable entries, then the entry; so many at the end -/
def gap : Nat → List CpInfo → List CpInfo
  | 0, r => r
  | n + 1, r => .unusable :: gap n r
def poolList (es : List (Nat × CpInfo)) (last : Nat) : List CpInfo := es.foldr (fun e r => gap e.1 (e.2 :: r)) (gap last [])
def pool (es : List (Nat × CpInfo)) (last : Nat) : Array CpInfo := ⟨poolList es last⟩
def fileOf (pool : Array CpInfo) (this : Nat) (attrs : Array Attribute := #[]) (ms : Array MethodInfo := #[]) (fl : Nat := 33) (sup : Nat := 0) (ifs : Array Nat := #[]) (fds : Array FieldInfo := #[]) : ClassFile where
  minorVersion := 0
  majorVersion := 65
  constantPool := pool
  accessFlags := fl
  thisClass := this
  superClass := sup
  interfaces := ifs
  fields := fds
  methods := ms
  attributes := attrs
def plain (name : String) (sup : Option ClassId) : Class where
  name := name
  kind := .ordinary
  loader := none
  accessFlags := 33
  super := sup
  interfaces := #[]
  cf := none
  fields := #[]
  methods := #[]
  instanceTypes := #[]
  staticTypes := #[]
  resolved := #[]
  callSites := []
  init := .initialized
  statics := none
  mirror := none

def pool0 : Array CpInfo := pool [(5, u "<init>"), (0, u "()V"), (1, .class_ 10), (1, u "java/lang/Object")] 113

def k0m0 : Method := { name := "<init>", desc := "()V", sig := { parameters := [], returnType := none }, accessFlags := 1, code := none }
/-- java/lang/Object -/
def k0 : Class := { plain "java/lang/Object" none with
  accessFlags := 33
  interfaces := #[]
  cf := some (fileOf pool0 8 #[] #[{ accessFlags := 1, nameIndex := 5, descriptorIndex := 6, attributes := #[] }] 33 0 #[] #[])
  fields := #[]
  methods := #[k0m0]
  instanceTypes := #[]
  staticTypes := #[]
  resolved := Array.replicate 124 none
  statics := none }

def pool1 : Array CpInfo := pool [(2, .class_ 4), (1, u "java/lang/Object"), (0, u "<init>"), (0, u "()V"), (0, .methodref 8 9), (0, .class_ 10), (0, .nameAndType 11 12), (0, u "com/example/lichen/lichen/model/Name"), (0, u "isIdentifierPart"), (0, u "(I)Z"), (0, .methodref 14 15), (0, .class_ 16), (0, .nameAndType 17 12), (0, u "com/example/lichen/lichen/model/NameIsIdentifierPartPinLaw"), (0, u "reference"), (3, u "law"), (0, u "(II)Z")] 2

def k1m0 : Method := { name := "<init>", desc := "()V", sig := { parameters := [], returnType := none }, accessFlags := 2, code := none }
def k1c1 : Code := { maxStack := 2, maxLocals := 5, code := method_2_code, exceptionTable := #[], attributes := #[] }
def k1m1 : Method := { name := "reference", desc := "(I)Z", sig := { parameters := [.int], returnType := some .boolean }, accessFlags := 10, code := some k1c1 }
def k1c2 : Code := { maxStack := 2, maxLocals := 3, code := code, exceptionTable := #[], attributes := #[] }
def k1m2 : Method := { name := "law", desc := "(II)Z", sig := { parameters := [.int, .int], returnType := some .boolean }, accessFlags := 9, code := some k1c2 }
/-- com/example/lichen/lichen/model/NameIsIdentifierPartPinLaw -/
def k1 : Class := { plain "com/example/lichen/lichen/model/NameIsIdentifierPartPinLaw" (some 0) with
  accessFlags := 49
  interfaces := #[]
  cf := some (fileOf pool1 14 #[] #[{ accessFlags := 2, nameIndex := 5, descriptorIndex := 6, attributes := #[] }, { accessFlags := 10, nameIndex := 17, descriptorIndex := 12, attributes := #[] }, { accessFlags := 9, nameIndex := 21, descriptorIndex := 22, attributes := #[] }] 49 2 #[] #[])
  fields := #[]
  methods := #[k1m0, k1m1, k1m2]
  instanceTypes := #[]
  staticTypes := #[]
  resolved := Array.replicate 25 none
  statics := none }

def pool2 : Array CpInfo := pool [(1, .class_ 2), (0, u "com/example/lichen/lichen/model/Term"), (0, .class_ 4), (0, u "java/lang/Object")] 7

/-- com/example/lichen/lichen/model/Term -/
def k2 : Class := { plain "com/example/lichen/lichen/model/Term" (some 0) with
  accessFlags := 1537
  interfaces := #[]
  cf := some (fileOf pool2 1 #[] #[] 1537 3 #[] #[])
  fields := #[]
  methods := #[]
  instanceTypes := #[]
  staticTypes := #[]
  resolved := Array.replicate 12 none
  statics := none }

def pool3 : Array CpInfo := pool [(1, .class_ 2), (0, u "com/example/lichen/lichen/model/Constant"), (0, .class_ 4), (0, u "java/lang/Object"), (0, .class_ 6), (0, u "com/example/lichen/lichen/model/Term")] 11

/-- com/example/lichen/lichen/model/Constant -/
def k3 : Class := { plain "com/example/lichen/lichen/model/Constant" (some 0) with
  accessFlags := 1537
  interfaces := #[2]
  cf := some (fileOf pool3 1 #[] #[] 1537 3 #[5] #[])
  fields := #[]
  methods := #[]
  instanceTypes := #[]
  staticTypes := #[]
  resolved := Array.replicate 18 none
  statics := none }

def pool4 : Array CpInfo := pool [(2, .class_ 4), (1, u "java/lang/Object"), (3, u "text"), (9, .class_ 20), (1, u "com/example/lichen/lichen/model/Name"), (0, u "Ljava/lang/String;"), (2, u "iri"), (0, u "Z"), (71, u "(I)Z"), (2, u "isIdentifierPart"), (0, .class_ 102), (0, u "com/example/lichen/lichen/model/Constant"), (0, u "NOT")] 9

def k4c0 : Code := { maxStack := 2, maxLocals := 1, code := prog_45_method_5_code, exceptionTable := #[], attributes := #[] }
def k4m0 : Method := { name := "isIdentifierPart", desc := "(I)Z", sig := { parameters := [.int], returnType := some .boolean }, accessFlags := 9, code := some k4c0 }
/-- com/example/lichen/lichen/model/Name -/
def k4 : Class := { plain "com/example/lichen/lichen/model/Name" (some 0) with
  accessFlags := 49
  interfaces := #[3]
  cf := some (fileOf pool4 18 #[] #[{ accessFlags := 9, nameIndex := 100, descriptorIndex := 97, attributes := #[] }] 49 2 #[101] #[{ accessFlags := 25, nameIndex := 103, descriptorIndex := 21, attributes := #[] }, { accessFlags := 18, nameIndex := 8, descriptorIndex := 21, attributes := #[] }, { accessFlags := 18, nameIndex := 24, descriptorIndex := 25, attributes := #[] }])
  fields := #[{ name := "NOT", type := (.object "java/lang/String"), accessFlags := 25, slot := 0, constantValue := 0 }, { name := "text", type := (.object "java/lang/String"), accessFlags := 18, slot := 0, constantValue := 0 }, { name := "iri", type := .boolean, accessFlags := 18, slot := 1, constantValue := 0 }]
  methods := #[k4m0]
  instanceTypes := #[(.object "java/lang/String"), .boolean]
  staticTypes := #[(.object "java/lang/String")]
  resolved := Array.replicate 113 none
  statics := none }

def pool5 : Array CpInfo := pool [(1, u "java/lang/Cloneable"), (0, .class_ 1), (0, u "java/lang/Object"), (0, .class_ 3)] 3

/-- java/lang/Cloneable -/
def k5 : Class := { plain "java/lang/Cloneable" (some 0) with
  accessFlags := 1537
  interfaces := #[]
  cf := some (fileOf pool5 2 #[] #[] 1537 4 #[] #[])
  fields := #[]
  methods := #[]
  instanceTypes := #[]
  staticTypes := #[]
  resolved := Array.replicate 8 none
  statics := none }

def pool6 : Array CpInfo := pool [(1, u "java/io/Serializable"), (0, .class_ 1), (0, u "java/lang/Object"), (0, .class_ 3)] 3

/-- java/io/Serializable -/
def k6 : Class := { plain "java/io/Serializable" (some 0) with
  accessFlags := 1537
  interfaces := #[]
  cf := some (fileOf pool6 2 #[] #[] 1537 4 #[] #[])
  fields := #[]
  methods := #[]
  instanceTypes := #[]
  staticTypes := #[]
  resolved := Array.replicate 8 none
  statics := none }

/-- the primitive byte -/
def k7 : Class := { plain "byte" none with kind := .primitive 'B', accessFlags := 0x411 }
/-- [B -/
def k8 : Class := { plain "[B" (some 0) with kind := .array 7 .byte, interfaces := #[5, 6], accessFlags := 1041 }

/-- the primitive int -/
def k9 : Class := { plain "int" none with kind := .primitive 'I', accessFlags := 0x411 }
/-- [I -/
def k10 : Class := { plain "[I" (some 0) with kind := .array 9 .int, interfaces := #[5, 6], accessFlags := 1041 }

def heap : Heap := #[]
def classes : Array Class := #[k0, k1, k2, k3, k4, k5, k6, k7, k8, k9, k10]
def interned : List (Array UInt16 × Addr) := []
def slotsUsed : Nat := 0
def theMethod : MethodId := ⟨1, 2⟩
def args0 : Array Value := #[.int 5, .int 1]
def aboutOver (below : List Frame) : State where
  vm := { classes := classes, interned := interned.toArray }
  heap := heap
  slotsUsed := slotsUsed
  threads := #[{ frames := .invoking theMethod args0 :: below }]
def below0 : List Frame := [.native { method := ⟨0, 0⟩, args := #[] }]
def about1 : State := aboutOver below0
def p0 : Program := .bare "" "" ""
def e0 : Env := launch0.env 0 0 0
theorem w_frames : about1.frames = Frame.invoking theMethod args0 :: below0 := rfl
set_option maxRecDepth 65536 in
theorem w_args : argsFit about1.vm theMethod args0 = true := by decide +kernel
set_option maxRecDepth 65536 in
theorem w_heap : heapFits about1 = true := by decide +kernel
set_option maxRecDepth 65536 in
theorem w_runnable : about1.curStatus? = some .runnable := by decide +kernel
set_option maxRecDepth 65536 in
theorem w_alone : about1.alone = true := by decide +kernel
set_option maxRecDepth 65536 in
theorem w_named : about1.methodNamed? x = some theMethod := by decide +kernel
set_option maxRecDepth 65536 in
theorem w_hears : about1.hears theMethod below0 = true := by decide +kernel
set_option maxRecDepth 65536 in
theorem w_ripe : about1.ripe theMethod args0 below0 = true := by decide +kernel
theorem w_running : about1.status = .running := rfl
set_option maxRecDepth 65536 in
theorem w_room : about1.hasRoom e0.platform room_1 = true :=
  launch0.hasRoom_least _ room_1 (by decide +kernel) (by decide +kernel) (by decide +kernel) (by decide +kernel) (by decide +kernel) (by decide +kernel)
theorem allAtoms_all (ts : List Jvm.Cond) (a : Array Jvm.Value) (st : Jvm.State) : (allAtoms ts).before a st = ts.all (fun c => c.before a st) := by
  induction ts with
  | nil => rfl
  | cons c t ih =>
    show (Jvm.Cond.and c (allAtoms t)).before a st = _
    rw [Jvm.Cond.before_and, ih, List.all_cons]
def words1 : List Jvm.Cond := Jvm.Cond.code x code maxLocals ret :: tables_1
/-- a 'code' word, met by the world's own term for the bytes: nothing is compared byte by byte -/
theorem code_word {y : MethodName} {bytes : ByteArray} {mx : Nat} {rt : Option FieldType} {a : Array Value} {s : State} {m : MethodId} {meth : Method} {c : Code} (h1 : s.methodNamed? y = some m) (h2 : s.vm.method? m = some meth) (h3 : meth.code = some c) (h4 : c.code = bytes)
    (h5 : (c.maxLocals == mx && c.exceptionTable.isEmpty && decide (c.maxStack ≤ mostOperands) && decide (meth.sig.returnType = rt) && !meth.locks && decide (parseMethodDescriptor y.desc = some meth.sig)) = true) : (Jvm.Cond.code y bytes mx rt).before a s = true := by
  simp only [Bool.and_eq_true, beq_iff_eq, Bool.not_eq_true', decide_eq_true_eq] at h5
  obtain ⟨⟨⟨⟨⟨g1, g2⟩, g3⟩, g4⟩, g5⟩, g6⟩ := h5
  simp [Cond.before, Cond.holds, Cond.value, h1, h2, h3, h4, g1, g2, g3, g4, g5, g6]
def isCode : Jvm.Cond → Bool
  | .code _ _ _ _ => true
  | _ => false
theorem all_split {L : List Jvm.Cond} {P : Jvm.Cond → Bool} (h1 : L.all (fun c => isCode c || P c) = true) (h2 : ∀ c ∈ L.filter isCode, P c = true) : L.all P = true := by
  refine List.all_eq_true.mpr fun c hc => ?_
  have h := List.all_eq_true.mp h1 c hc
  rcases Bool.eq_false_or_eq_true (isCode c) with hi | hi
  · exact h2 c (List.mem_filter.mpr ⟨hc, hi⟩)
  · simpa [hi] using h
set_option maxRecDepth 65536 in
theorem w_c0 : (Jvm.Cond.code x code maxLocals ret).before args0 about1 = true := code_word (m := ⟨1, 2⟩) (meth := k1m2) (c := k1c2) (by decide +kernel) rfl rfl rfl (by decide +kernel)
set_option maxRecDepth 65536 in
theorem w_c1 : (Jvm.Cond.code ({ cls := "com/example/lichen/lichen/model/Name", name := "isIdentifierPart", desc := "(I)Z" } : Jvm.MethodName) prog_45_method_5_code (1 : Nat) (Option.some Jvm.ClassFile.FieldType.boolean)).before args0 about1 = true := code_word (m := ⟨4, 0⟩) (meth := k4m0) (c := k4c0) (by decide +kernel) rfl rfl rfl (by decide +kernel)
set_option maxRecDepth 65536 in
theorem w_c2 : (Jvm.Cond.code ({ cls := "com/example/lichen/lichen/model/NameIsIdentifierPartPinLaw", name := "reference", desc := "(I)Z" } : Jvm.MethodName) method_2_code (5 : Nat) (Option.some Jvm.ClassFile.FieldType.boolean)).before args0 about1 = true := code_word (m := ⟨1, 1⟩) (meth := k1m1) (c := k1c1) (by decide +kernel) rfl rfl rfl (by decide +kernel)
def codes1 : List Jvm.Cond := [Jvm.Cond.code x code maxLocals ret, Jvm.Cond.code ({ cls := "com/example/lichen/lichen/model/Name", name := "isIdentifierPart", desc := "(I)Z" } : Jvm.MethodName) prog_45_method_5_code (1 : Nat) (Option.some Jvm.ClassFile.FieldType.boolean), Jvm.Cond.code ({ cls := "com/example/lichen/lichen/model/NameIsIdentifierPartPinLaw", name := "reference", desc := "(I)Z" } : Jvm.MethodName) method_2_code (5 : Nat) (Option.some Jvm.ClassFile.FieldType.boolean)]
set_option maxRecDepth 65536 in
theorem codes_eq : words1.filter isCode = codes1 := rfl
theorem w_codes : ∀ c ∈ words1.filter isCode, c.before args0 about1 = true := by
  rw [codes_eq]
  intro c hc
  simp only [codes1, List.mem_cons, List.not_mem_nil, or_false] at hc
  rcases hc with rfl | rfl | rfl
  · exact w_c0
  · exact w_c1
  · exact w_c2
set_option maxRecDepth 65536 in
theorem w_t1 : words1.all (fun c => isCode c || c.before args0 about1) = true := by decide +kernel
theorem w_tables : (allAtoms (Jvm.Cond.code x code maxLocals ret :: tables_1)).before args0 about1 = true := by
  rw [allAtoms_all]
  show words1.all (fun c => c.before args0 about1) = true
  refine all_split ?_ w_codes
  rw [w_t1]
set_option maxRecDepth 65536 in
theorem w_case : (Jvm.Cond.and given_1 narrow_1).before args0 about1 = true := by decide +kernel
theorem w_applies : (headSpec (Jvm.Cond.code x code maxLocals ret :: tables_1) room_1).applies x e0.platform about1 = true :=
  (Spec.applies_iff w_frames).mpr ⟨w_running, w_runnable, w_alone, w_named, w_hears, w_ripe, w_room, w_tables⟩
theorem atStart : AtStart classFile x code maxLocals ret World_1 tables_1 room_1 Calls_1 rest_1 Pre_1 launch0 p0 e0 about1 theMethod args0 below0 :=
  ⟨lists_1, trivial, launch0.admits_env _ _ _, launch0.least_env, fairChoices_fair.cas, fairChoices_fair.clock, w_frames, w_args, w_heap, w_applies, trivial, trivial, w_case⟩
end start1
theorem witness_1 : WitnessClaimed_1 := ⟨start1.p0, start1.e0, start1.about1, start1.theMethod, start1.args0, start1.below0, start1.atStart⟩
end Jvm.Pilot.@@N@@
