import JvmDerived
import JvmDerived.Pilot.@@N@@Statement
import JvmDerived.Pilot.@@N@@Code
set_option linter.unusedVariables false
set_option linter.unusedSimpArgs false
namespace Jvm.RoadKit
open Sem ClassFile Op Lib Jvm.Stand Jvm.Free Jvm.LawKit
section New
variable {p : Program} {l : Launch} {e : Env} {R : Room} {s : State} {m : MethodId} {args : Array Value} {below : List Frame} {meth : Method} {c : Code} {T : State} {locs : List Loc} {cells slots : Nat}
theorem retI (X : Stand p l e R s m args below meth c T locs cells slots) (hx : p.tables.exec = Jvm.exec) {pc : Nat} {Ls : Array Slot} {z : Int32} {rest : List Value} (hret : meth.sig.returnType = some .int) (hd : decode c.code pc = .ok (.ireturn, 1)) {fs : List Frame}
    (hl : ∀ (f : JFrame) (acts : List Action), f.method = m → f.locked = none → f.entered = [] → (doReturn e (T.setTop f) acts (some (.int z))).1 = T.setFrames fs) : Steps p.tables e below (T.setTop (mkF m pc Ls (.int z :: rest))) (T.setFrames fs) := by
  have hm' : T.vm.method? m = some meth := X.method'
  have hn : narrow .int (.int z) = .int z := rfl
  show Steps p.tables e below (T.setTop { method := m, pc := pc, locals := Ls, stack := _ :: rest, locked := none }) _
  jvm_step X.here [X.here.top, hx, hd, hm', hret, hn]
  first | (intro acts; rw [hl _ acts rfl rfl rfl]) | rw [hl _ _ rfl rfl rfl]
  exact Steps.refl _
end New
end Jvm.RoadKit
namespace Jvm.Pilot.@@N@@
open Jvm Jvm.ClassFile Sem Op Lib Jvm.Free Jvm.Stand Jvm.LawKit Jvm.RoadKit Bundle Jvm.Pilot.@@N@@.Jvm.D

theorem d1_0 : decode prog_110_method_2_code 0 = .ok (.iload_n 0, 1) := by decide +kernel
theorem d1_1 : decode prog_110_method_2_code 1 = .ok (.iconst 1, 1) := by decide +kernel
theorem d1_2 : decode prog_110_method_2_code 2 = .ok (.isub, 1) := by decide +kernel
theorem d1_3 : decode prog_110_method_2_code 3 = .ok (.sipush 4096, 3) := by decide +kernel
theorem d1_6 : decode prog_110_method_2_code 6 = .ok (.idiv, 1) := by decide +kernel
theorem d1_7 : decode prog_110_method_2_code 7 = .ok (.sipush 4096, 3) := by decide +kernel
theorem d1_10 : decode prog_110_method_2_code 10 = .ok (.imul, 1) := by decide +kernel
theorem d1_11 : decode prog_110_method_2_code 11 = .ok (.iconst 1, 1) := by decide +kernel
theorem d1_12 : decode prog_110_method_2_code 12 = .ok (.iadd, 1) := by decide +kernel
theorem d1_13 : decode prog_110_method_2_code 13 = .ok (.ireturn, 1) := by decide +kernel
theorem pn_0 : plainName "com/example/netsettle/netsettle/serve/ReportGroup" = true := by first | (simp [plainName, overriddenIn]; done) | decide +kernel
def own_first (p1 : Int32) : Int32 := ((((p1 - (1 : Int32)) / (4096 : Int32)) * (4096 : Int32)) + (1 : Int32))
theorem ef_rm1 (m : MethodId) (x0 : Int32) : entryFrame m #[(.int x0)] 1 = mkF m 0 #[.val (.int x0)] [] := by first | (simp [entryFrame, mkF, argsToLocals, Value.category]; done) | rfl
def Q_rm1 (Z : State) (p1 : Int32) (h0 : Heap) (n0 : Nat) (v : Option Value) (h : Heap) (L : List Loc) : Prop := v = some (.int (own_first p1)) ∧ Fr n0 L ∧ h = h0
set_option maxRecDepth 65536 in
set_option maxHeartbeats 40000000 in
theorem rm1 (l : Launch) (Z : State) (a0 : Array Value) (hw : ∀ d ∈ tables_1, d.before a0 Z = true) (ws : List Jvm.Cond) (p1 : Int32) (h0 : Heap) (n0 : Nat) (Z0 : n0 ≤ h0.size) :
    MetFree l (⟨"com/example/netsettle/netsettle/serve/ReportGroup", "first", "(I)I"⟩ : MethodName) (head1 (Jvm.Cond.code (⟨"com/example/netsettle/netsettle/serve/ReportGroup", "first", "(I)I"⟩ : MethodName) prog_110_method_2_code 1 (some .int) :: ws) ({ frames := 0, cells := 0, slots := 0, locals := 0 } : Room)) (fun a U => a = #[(.int p1)] ∧ Z.Warmed39 U.vm ∧ U.heap = h0) (fun _ _ _ _ _ => True) (fun _ U o U' => ∃ v L, o = .returned v ∧ Q_rm1 Z p1 h0 n0 v U'.heap L ∧ FrameEnd U o U' L ({ frames := 0, cells := 0, slots := 0, locals := 0 } : Room).cells ({ frames := 0, cells := 0, slots := 0, locals := 0 } : Room).slots) := by
  refine MetFree.of_bodySF (plainFor_of_name pn_0) hisR ?_
  intro p e s m args below meth c s₁ Bd hml0 hP hK
  obtain ⟨rfl, hZ, hh⟩ := hP
  have hx := Bd.exec
  have hby := Bd.bytes
  have hml : c.maxLocals = 1 := hml0
  have hown : s.vm.findClass "com/example/netsettle/netsettle/serve/ReportGroup" = some m.cls := findClass_of_methodNamed Bd.named
  have hnm := (name_of_methodNamed Bd.named Bd.method).1
  have X0 : Stand p l e ({ frames := 0, cells := 0, slots := 0, locals := 0 } : Room) s m #[(.int p1)] below meth c s₁ [] 0 0 := Stand.of_body Bd
  have e0 : s₁.heap = h0 := by rw [← hh, Bd.state]; rfl
  have N0 := Fr.nil n0
  have pre0 : ∀ t, Steps p.tables e below (s₁.setTop (mkF m 0 #[.val (.int p1)] [])) t → Steps p.tables e below (s₁.setTop (entryFrame m #[(.int p1)] 1)) t := fun t k => castTop (ef_rm1 m p1) k
  have pre1 : ∀ t, Steps p.tables e below (s₁.setTop (mkF m 13 #[.val (.int p1)] [(.int ((((p1 - (1 : Int32)) / (4096 : Int32)) * (4096 : Int32)) + (1 : Int32)))])) t → Steps p.tables e below (s₁.setTop (entryFrame m #[(.int p1)] 1)) t := by
    intro t k
    refine pre0 t ?_
    refine XS.iloadN X0.here hx rfl (hb hby d1_0) rfl ?_
    show Steps _ _ _ (s₁.setTop (mkF m 1 #[.val (.int p1)] [(.int p1)])) _
    refine XS.iconst X0.here hx rfl (hb hby d1_1) ?_
    show Steps _ _ _ (s₁.setTop (mkF m 2 #[.val (.int p1)] [(.int (1 : Int32)), (.int p1)])) _
    refine XS.isub X0.here hx rfl (hb hby d1_2) rfl ?_
    show Steps _ _ _ (s₁.setTop (mkF m 3 #[.val (.int p1)] [(.int (p1 - (1 : Int32)))])) _
    refine XS.sipush X0.here hx rfl (hb hby d1_3) ?_
    show Steps _ _ _ (s₁.setTop (mkF m 6 #[.val (.int p1)] [(.int (4096 : Int32)), (.int (p1 - (1 : Int32)))])) _
    refine XS.idiv X0.here hx rfl (hb hby d1_6) rfl (by decide) ?_
    show Steps _ _ _ (s₁.setTop (mkF m 7 #[.val (.int p1)] [(.int ((p1 - (1 : Int32)) / (4096 : Int32)))])) _
    refine XS.sipush X0.here hx rfl (hb hby d1_7) ?_
    show Steps _ _ _ (s₁.setTop (mkF m 10 #[.val (.int p1)] [(.int (4096 : Int32)), (.int ((p1 - (1 : Int32)) / (4096 : Int32)))])) _
    refine XS.imul X0.here hx rfl (hb hby d1_10) rfl ?_
    show Steps _ _ _ (s₁.setTop (mkF m 11 #[.val (.int p1)] [(.int (((p1 - (1 : Int32)) / (4096 : Int32)) * (4096 : Int32)))])) _
    refine XS.iconst X0.here hx rfl (hb hby d1_11) ?_
    show Steps _ _ _ (s₁.setTop (mkF m 12 #[.val (.int p1)] [(.int (1 : Int32)), (.int (((p1 - (1 : Int32)) / (4096 : Int32)) * (4096 : Int32)))])) _
    refine XS.iadd X0.here hx rfl (hb hby d1_12) rfl ?_
    show Steps _ _ _ (s₁.setTop (mkF m 13 #[.val (.int p1)] [(.int ((((p1 - (1 : Int32)) / (4096 : Int32)) * (4096 : Int32)) + (1 : Int32)))])) _
    exact k
  obtain ⟨fs, hr, hrun, hended, hW, hsame⟩ := X0.leave (v := some (.int ((((p1 - (1 : Int32)) / (4096 : Int32)) * (4096 : Int32)) + (1 : Int32)))) (fun h => by rw [Bd.returns] at h; cases h)
  refine ⟨_, _, pre1 _ ?_, hrun, hended, _, _, rfl, ?_, ⟨_, rfl⟩, hW, hsame.mono (by decide) (by decide)⟩
  · exact retI X0 hx Bd.returns (hb hby d1_13) hr
  · show Q_rm1 Z p1 h0 n0 _ s₁.heap _
    rw [e0]
    have hvA : ((((p1 - (1 : Int32)) / (4096 : Int32)) * (4096 : Int32)) + (1 : Int32)) = (own_first p1) := by
      rfl
    have hv2 : ((((p1 - (1 : Int32)) / (4096 : Int32)) * (4096 : Int32)) + (1 : Int32)) = (own_first p1) := hvA
    exact ⟨(by rw [hv2]), N0, rfl⟩
theorem own_laws (x : Int32) (h : ¬ (x &&& (2147483647 : Int32)) = 0) :
    (own_first (x &&& (2147483647 : Int32))).toInt = ((x &&& (2147483647 : Int32)).toInt - 1) / 4096 * 4096 + 1 ∧ 1 ≤ (x &&& (2147483647 : Int32)).toInt := by
  have m := c_mask x (2147483647 : Int32) 31 (by decide) (by decide)
  generalize (x &&& (2147483647 : Int32)) = s at *
  have r := rng32 s
  have l1 : (1 : Int32).toInt = 1 := rfl
  have l4 : (4096 : Int32).toInt = 4096 := rfl
  have s0 : ¬ s.toInt = 0 := fun q => h (Int32.toInt_inj.mp (by rw [q]; rfl))
  have s1 : 1 ≤ s.toInt := by omega
  refine ⟨?_, s1⟩
  unfold own_first
  have a := c_isub s 1
  have ar := rng32 (s - 1)
  have e1 : (s - 1).toInt = s.toInt - 1 := by omega
  have d := (c_idiv (s - 1) 4096 4096 rfl (by decide)).1 (by omega)
  have mu := c_imul ((s - 1) / 4096) 4096
  have mr := rng32 (((s - 1) / 4096) * 4096)
  rw [l4] at mu
  have e2 : (((s - 1) / 4096) * 4096).toInt = (s.toInt - 1) / 4096 * 4096 := by rw [d, e1] at mu; omega
  have ad := c_iadd (((s - 1) / 4096) * 4096) 1
  have adr := rng32 (((s - 1) / 4096) * 4096 + 1)
  omega
theorem own_1 (x : Int32) (h : ¬ (x &&& (2147483647 : Int32)) = 0) : ¬ own_first (x &&& (2147483647 : Int32)) < 1 := by
  obtain ⟨e, q⟩ := own_laws x h
  have l1 : (1 : Int32).toInt = 1 := rfl
  rw [Int32.lt_iff_toInt_lt]; omega
theorem own_2 (x : Int32) (h : ¬ (x &&& (2147483647 : Int32)) = 0) : ¬ (x &&& (2147483647 : Int32)) < own_first (x &&& (2147483647 : Int32)) := by
  obtain ⟨e, q⟩ := own_laws x h
  rw [Int32.lt_iff_toInt_lt]; omega
theorem own_3 (x : Int32) (h : ¬ (x &&& (2147483647 : Int32)) = 0) : ¬ (4095 : Int32) < (x &&& (2147483647 : Int32)) - own_first (x &&& (2147483647 : Int32)) := by
  obtain ⟨e, q⟩ := own_laws x h
  have l : (4095 : Int32).toInt = 4095 := rfl
  have s := c_isub (x &&& (2147483647 : Int32)) (own_first (x &&& (2147483647 : Int32)))
  have r := rng32 ((x &&& (2147483647 : Int32)) - own_first (x &&& (2147483647 : Int32)))
  have r2 := rng32 (x &&& (2147483647 : Int32))
  rw [Int32.lt_iff_toInt_lt]; omega
theorem own_4 (x : Int32) (h : ¬ (x &&& (2147483647 : Int32)) = 0) : ((own_first (x &&& (2147483647 : Int32)) - 1) - ((own_first (x &&& (2147483647 : Int32)) - 1) / 4096) * 4096) = (0 : Int32) := by
  obtain ⟨e, q⟩ := own_laws x h
  have l1 : (1 : Int32).toInt = 1 := rfl
  have l4 : (4096 : Int32).toInt = 4096 := rfl
  have s := c_isub (own_first (x &&& (2147483647 : Int32))) 1
  have r := rng32 (own_first (x &&& (2147483647 : Int32)) - 1)
  have r2 := rng32 (x &&& (2147483647 : Int32))
  have e1 : (own_first (x &&& (2147483647 : Int32)) - 1).toInt = ((x &&& (2147483647 : Int32)).toInt - 1) / 4096 * 4096 := by omega
  generalize (own_first (x &&& (2147483647 : Int32)) - 1) = f at *
  have d := (c_idiv f 4096 4096 rfl (by decide)).1 (by omega)
  have mu := c_imul (f / 4096) 4096
  have mr := rng32 ((f / 4096) * 4096)
  rw [l4, d] at mu
  have su := c_isub f ((f / 4096) * 4096)
  have sr := rng32 (f - (f / 4096) * 4096)
  apply Int32.toInt_inj.mp
  show _ = (0 : Int)
  omega
theorem pd_0 : parseMethodDescriptor "(I)I" = some ⟨[.int], some .int⟩ := by decide +kernel
theorem pn_1 : plainName "com/example/netsettle/netsettle/serve/ReportGroupFirstPinLaw" = true := by first | (simp [plainName, overriddenIn]; done) | decide +kernel
theorem ef_rm0 (m : MethodId) (x0 : Int32) : entryFrame m #[(.int x0)] maxLocals = mkF m 0 #[.val (.int x0), .unset, .unset, .unset, .unset, .unset, .unset] [] := by first | (simp [entryFrame, mkF, argsToLocals, Value.category, maxLocals]; done) | rfl
def Q_rm0 (Z : State) (p1 : Int32) (h0 : Heap) (n0 : Nat) (v : Option Value) (h : Heap) (L : List Loc) : Prop := v = some (.int (1 : Int32)) ∧ Fr n0 L ∧ h = h0
set_option maxRecDepth 65536 in
set_option maxHeartbeats 40000000 in
theorem rm0 (l : Launch) (Z : State) (a0 : Array Value) (hw : ∀ d ∈ tables_1, d.before a0 Z = true) (ws : List Jvm.Cond) (p1 : Int32) (h0 : Heap) (n0 : Nat) (Z0 : n0 ≤ h0.size) :
    MetFree l x (head1 (Jvm.Cond.code x code maxLocals ret :: ws) room_1) (fun a U => a = #[(.int p1)] ∧ Z.Warmed39 U.vm ∧ U.heap = h0) (fun _ _ _ _ _ => True) (fun _ U o U' => ∃ v L, o = .returned v ∧ Q_rm0 Z p1 h0 n0 v U'.heap L ∧ FrameEnd U o U' L room_1.cells room_1.slots) := by
  refine MetFree.of_bodySF (plainFor_of_name pn_1) hisR ?_
  intro p e s m args below meth c s₁ Bd hml0 hP hK
  obtain ⟨rfl, hZ, hh⟩ := hP
  have hx := Bd.exec
  have hby := Bd.bytes
  have hml : c.maxLocals = 7 := hml0
  have hown : s.vm.findClass "com/example/netsettle/netsettle/serve/ReportGroupFirstPinLaw" = some m.cls := findClass_of_methodNamed Bd.named
  have hnm := (name_of_methodNamed Bd.named Bd.method).1
  have X0 : Stand p l e room_1 s m #[(.int p1)] below meth c s₁ [] 0 0 := Stand.of_body Bd
  have e0 : s₁.heap = h0 := by rw [← hh, Bd.state]; rfl
  have N0 := Fr.nil n0
  have pre0 : ∀ t, Steps p.tables e below (s₁.setTop (mkF m 0 #[.val (.int p1), .unset, .unset, .unset, .unset, .unset, .unset] [])) t → Steps p.tables e below (s₁.setTop (entryFrame m #[(.int p1)] maxLocals)) t := fun t k => castTop (ef_rm0 m p1) k
  have pre1 : ∀ t, Steps p.tables e below (s₁.setTop (mkF m 6 #[.val (.int p1), .val (.int (p1 &&& (2147483647 : Int32))), .unset, .unset, .unset, .unset, .unset] [(.int (p1 &&& (2147483647 : Int32)))])) t → Steps p.tables e below (s₁.setTop (entryFrame m #[(.int p1)] maxLocals)) t := by
    intro t k
    refine pre0 t ?_
    refine XS.iloadN X0.here hx rfl (hb hby at_0) rfl ?_
    show Steps _ _ _ (s₁.setTop (mkF m 1 #[.val (.int p1), .unset, .unset, .unset, .unset, .unset, .unset] [(.int p1)])) _
    refine X0.ldcInt hx hown (mvT hZ (hw _ (List.mem_of_getElem? (i := 0) rfl))) (g := (mkF m 1 #[.val (.int p1), .unset, .unset, .unset, .unset, .unset, .unset] [(.int p1)])) rfl (hb hby at_1) _ ?_
    show Steps _ _ _ (s₁.setTop (mkF m 3 #[.val (.int p1), .unset, .unset, .unset, .unset, .unset, .unset] [(.int (2147483647 : Int32)), (.int p1)])) _
    refine XS.iand X0.here hx rfl (hb hby at_3) rfl ?_
    show Steps _ _ _ (s₁.setTop (mkF m 4 #[.val (.int p1), .unset, .unset, .unset, .unset, .unset, .unset] [(.int (p1 &&& (2147483647 : Int32)))])) _
    refine XS.istoreN X0.here hx rfl (hb hby at_4) rfl (l' := #[.val (.int p1), .val (.int (p1 &&& (2147483647 : Int32))), .unset, .unset, .unset, .unset, .unset]) rfl ?_
    show Steps _ _ _ (s₁.setTop (mkF m 5 #[.val (.int p1), .val (.int (p1 &&& (2147483647 : Int32))), .unset, .unset, .unset, .unset, .unset] [])) _
    refine XS.iloadN X0.here hx rfl (hb hby at_5) rfl ?_
    show Steps _ _ _ (s₁.setTop (mkF m 6 #[.val (.int p1), .val (.int (p1 &&& (2147483647 : Int32))), .unset, .unset, .unset, .unset, .unset] [(.int (p1 &&& (2147483647 : Int32)))])) _
    exact k
  by_cases hc2 : (p1 &&& (2147483647 : Int32)) = (0 : Int32)
  · have pre3 : ∀ t, Steps p.tables e below (s₁.setTop (mkF m 10 #[.val (.int p1), .val (.int (p1 &&& (2147483647 : Int32))), .unset, .unset, .unset, .unset, .unset] [(.int (1 : Int32))])) t → Steps p.tables e below (s₁.setTop (entryFrame m #[(.int p1)] maxLocals)) t := by
      intro t k
      refine pre1 t ?_
      refine XS.ifNo X0.here hx rfl (hb hby at_6) rfl ((if0 _ _).trans (teq hc2).2) ?_
      show Steps _ _ _ (s₁.setTop (mkF m 9 #[.val (.int p1), .val (.int (p1 &&& (2147483647 : Int32))), .unset, .unset, .unset, .unset, .unset] [])) _
      refine XS.iconst X0.here hx rfl (hb hby at_9) ?_
      show Steps _ _ _ (s₁.setTop (mkF m 10 #[.val (.int p1), .val (.int (p1 &&& (2147483647 : Int32))), .unset, .unset, .unset, .unset, .unset] [(.int (1 : Int32))])) _
      exact k
    obtain ⟨fs, hr, hrun, hended, hW, hsame⟩ := X0.leave (v := some (.int (1 : Int32))) (fun h => by rw [Bd.returns] at h; cases h)
    refine ⟨_, _, pre3 _ ?_, hrun, hended, _, _, rfl, ?_, ⟨_, rfl⟩, hW, hsame.mono (by decide) (by decide)⟩
    · exact retN X0 hx (t := .boolean) Bd.returns (by simp) (hb hby at_10) hr
    · show Q_rm0 Z p1 h0 n0 _ s₁.heap _
      rw [e0]
      exact ⟨rfl, N0, rfl⟩
  · obtain ⟨_, _, ⟨T4, L4, k4, n4⟩, -, X4, ⟨Lc4, hQ4, l4, y4, z4⟩, st4⟩ := Jvm.LawKit.callS X0 hx (y := (⟨"com/example/netsettle/netsettle/serve/ReportGroup", "first", "(I)I"⟩ : MethodName)) hown (mvT hZ (hw _ (List.mem_of_getElem? (i := 1) rfl))) (mvT hZ (hw _ (List.mem_of_getElem? (i := 2) rfl))) (mvT hZ (hw _ (List.mem_of_getElem? (i := 3) rfl))) (mvT hZ (hw _ (List.mem_of_getElem? (i := 4) rfl))) (by decide) (backOf (W := 0) (rm1 l Z a0 hw [] (p1 &&& (2147483647 : Int32)) h0 n0 Z0) hZ (hw _ (List.mem_of_getElem? (i := 4) rfl)) (hw _ (List.mem_of_getElem? (i := 3) rfl)) (by decide) (by decide)) (g := (mkF m 12 #[.val (.int p1), .val (.int (p1 &&& (2147483647 : Int32))), .unset, .unset, .unset, .unset, .unset] [(.int (p1 &&& (2147483647 : Int32)))])) rfl (by rw [hml]; rfl) (argsL := [(.int (p1 &&& (2147483647 : Int32)))]) (rest := []) (lenOf pd_0 rfl) rfl (by show 2 * 0 + _ ≤ _; exact Nat.le_of_eq rfl) (hb hby at_12) (fun _ _ => ⟨rfl, e0, (by decide : 0 + 0 ≤ _), (by decide : 0 + 0 ≤ _)⟩)
    dsimp only [Pt.U, Pt.locs, Pt.cells, Pt.slots] at X4 l4 y4 z4 st4 hQ4
    subst l4 y4 z4
    obtain ⟨rfl, Nq4, q4_0⟩ := hQ4
    have N5 := Fr.app N0 Nq4
    have hc6 : ¬ ((own_first (p1 &&& (2147483647 : Int32))) < (1 : Int32)) := own_1 _ hc2
    have hc7 : ¬ ((p1 &&& (2147483647 : Int32)) < (own_first (p1 &&& (2147483647 : Int32)))) := own_2 _ hc2
    have hc8 : ¬ ((4095 : Int32) < ((p1 &&& (2147483647 : Int32)) - (own_first (p1 &&& (2147483647 : Int32))))) := own_3 _ hc2
    have pre9 : ∀ t, Steps p.tables e below (T4.setTop (mkF m 69 #[.val (.int p1), .val (.int (p1 &&& (2147483647 : Int32))), .val (.int (own_first (p1 &&& (2147483647 : Int32)))), .val (.int (1 : Int32)), .val (.int (1 : Int32)), .val (.int (1 : Int32)), .unset] [(.int (own_first (p1 &&& (2147483647 : Int32))))])) t → Steps p.tables e below (s₁.setTop (entryFrame m #[(.int p1)] maxLocals)) t := by
      intro t k
      refine pre1 t ?_
      refine XS.ifYes X0.here hx rfl (pc0 := 6) (pc' := 11) rfl (hb hby at_6) rfl ((if0 _ _).trans (feq hc2).2) (by decide) (by decide) ?_
      show Steps _ _ _ (s₁.setTop (mkF m 11 #[.val (.int p1), .val (.int (p1 &&& (2147483647 : Int32))), .unset, .unset, .unset, .unset, .unset] [])) _
      refine XS.iloadN X0.here hx rfl (hb hby at_11) rfl ?_
      show Steps _ _ _ (s₁.setTop (mkF m 12 #[.val (.int p1), .val (.int (p1 &&& (2147483647 : Int32))), .unset, .unset, .unset, .unset, .unset] [(.int (p1 &&& (2147483647 : Int32)))])) _
      refine st4 _ ?_
      show Steps _ _ _ (T4.setTop (mkF m 15 #[.val (.int p1), .val (.int (p1 &&& (2147483647 : Int32))), .unset, .unset, .unset, .unset, .unset] [(.int (own_first (p1 &&& (2147483647 : Int32))))])) _
      refine XS.istoreN X4.here hx rfl (hb hby at_15) rfl (l' := #[.val (.int p1), .val (.int (p1 &&& (2147483647 : Int32))), .val (.int (own_first (p1 &&& (2147483647 : Int32)))), .unset, .unset, .unset, .unset]) rfl ?_
      show Steps _ _ _ (T4.setTop (mkF m 16 #[.val (.int p1), .val (.int (p1 &&& (2147483647 : Int32))), .val (.int (own_first (p1 &&& (2147483647 : Int32)))), .unset, .unset, .unset, .unset] [])) _
      refine XS.iloadN X4.here hx rfl (hb hby at_16) rfl ?_
      show Steps _ _ _ (T4.setTop (mkF m 17 #[.val (.int p1), .val (.int (p1 &&& (2147483647 : Int32))), .val (.int (own_first (p1 &&& (2147483647 : Int32)))), .unset, .unset, .unset, .unset] [(.int (own_first (p1 &&& (2147483647 : Int32))))])) _
      refine XS.iconst X4.here hx rfl (hb hby at_17) ?_
      show Steps _ _ _ (T4.setTop (mkF m 18 #[.val (.int p1), .val (.int (p1 &&& (2147483647 : Int32))), .val (.int (own_first (p1 &&& (2147483647 : Int32)))), .unset, .unset, .unset, .unset] [(.int (1 : Int32)), (.int (own_first (p1 &&& (2147483647 : Int32))))])) _
      refine XS.icmpNo X4.here hx rfl (hb hby at_18) rfl (flt hc6).1 ?_
      show Steps _ _ _ (T4.setTop (mkF m 21 #[.val (.int p1), .val (.int (p1 &&& (2147483647 : Int32))), .val (.int (own_first (p1 &&& (2147483647 : Int32)))), .unset, .unset, .unset, .unset] [])) _
      refine XS.iconst X4.here hx rfl (hb hby at_21) ?_
      show Steps _ _ _ (T4.setTop (mkF m 22 #[.val (.int p1), .val (.int (p1 &&& (2147483647 : Int32))), .val (.int (own_first (p1 &&& (2147483647 : Int32)))), .unset, .unset, .unset, .unset] [(.int (1 : Int32))])) _
      refine XS.goto X4.here hx rfl (pc0 := 22) (pc' := 26) rfl (hb hby at_22) (by decide) (by decide) ?_
      show Steps _ _ _ (T4.setTop (mkF m 26 #[.val (.int p1), .val (.int (p1 &&& (2147483647 : Int32))), .val (.int (own_first (p1 &&& (2147483647 : Int32)))), .unset, .unset, .unset, .unset] [(.int (1 : Int32))])) _
      refine XS.istoreN X4.here hx rfl (hb hby at_26) rfl (l' := #[.val (.int p1), .val (.int (p1 &&& (2147483647 : Int32))), .val (.int (own_first (p1 &&& (2147483647 : Int32)))), .val (.int (1 : Int32)), .unset, .unset, .unset]) rfl ?_
      show Steps _ _ _ (T4.setTop (mkF m 27 #[.val (.int p1), .val (.int (p1 &&& (2147483647 : Int32))), .val (.int (own_first (p1 &&& (2147483647 : Int32)))), .val (.int (1 : Int32)), .unset, .unset, .unset] [])) _
      refine XS.iloadN X4.here hx rfl (hb hby at_27) rfl ?_
      show Steps _ _ _ (T4.setTop (mkF m 28 #[.val (.int p1), .val (.int (p1 &&& (2147483647 : Int32))), .val (.int (own_first (p1 &&& (2147483647 : Int32)))), .val (.int (1 : Int32)), .unset, .unset, .unset] [(.int (own_first (p1 &&& (2147483647 : Int32))))])) _
      refine XS.iloadN X4.here hx rfl (hb hby at_28) rfl ?_
      show Steps _ _ _ (T4.setTop (mkF m 29 #[.val (.int p1), .val (.int (p1 &&& (2147483647 : Int32))), .val (.int (own_first (p1 &&& (2147483647 : Int32)))), .val (.int (1 : Int32)), .unset, .unset, .unset] [(.int (p1 &&& (2147483647 : Int32))), (.int (own_first (p1 &&& (2147483647 : Int32))))])) _
      refine XS.icmpNo X4.here hx rfl (hb hby at_29) rfl (flt hc7).2.2.1 ?_
      show Steps _ _ _ (T4.setTop (mkF m 32 #[.val (.int p1), .val (.int (p1 &&& (2147483647 : Int32))), .val (.int (own_first (p1 &&& (2147483647 : Int32)))), .val (.int (1 : Int32)), .unset, .unset, .unset] [])) _
      refine XS.iconst X4.here hx rfl (hb hby at_32) ?_
      show Steps _ _ _ (T4.setTop (mkF m 33 #[.val (.int p1), .val (.int (p1 &&& (2147483647 : Int32))), .val (.int (own_first (p1 &&& (2147483647 : Int32)))), .val (.int (1 : Int32)), .unset, .unset, .unset] [(.int (1 : Int32))])) _
      refine XS.goto X4.here hx rfl (pc0 := 33) (pc' := 37) rfl (hb hby at_33) (by decide) (by decide) ?_
      show Steps _ _ _ (T4.setTop (mkF m 37 #[.val (.int p1), .val (.int (p1 &&& (2147483647 : Int32))), .val (.int (own_first (p1 &&& (2147483647 : Int32)))), .val (.int (1 : Int32)), .unset, .unset, .unset] [(.int (1 : Int32))])) _
      refine XS.istore X4.here hx rfl (hb hby at_37) rfl (l' := #[.val (.int p1), .val (.int (p1 &&& (2147483647 : Int32))), .val (.int (own_first (p1 &&& (2147483647 : Int32)))), .val (.int (1 : Int32)), .val (.int (1 : Int32)), .unset, .unset]) rfl ?_
      show Steps _ _ _ (T4.setTop (mkF m 39 #[.val (.int p1), .val (.int (p1 &&& (2147483647 : Int32))), .val (.int (own_first (p1 &&& (2147483647 : Int32)))), .val (.int (1 : Int32)), .val (.int (1 : Int32)), .unset, .unset] [])) _
      refine XS.iloadN X4.here hx rfl (hb hby at_39) rfl ?_
      show Steps _ _ _ (T4.setTop (mkF m 40 #[.val (.int p1), .val (.int (p1 &&& (2147483647 : Int32))), .val (.int (own_first (p1 &&& (2147483647 : Int32)))), .val (.int (1 : Int32)), .val (.int (1 : Int32)), .unset, .unset] [(.int (1 : Int32))])) _
      refine XS.ifNo X4.here hx rfl (hb hby at_40) rfl ((if0 _ _).trans (feq (by decide)).1) ?_
      show Steps _ _ _ (T4.setTop (mkF m 43 #[.val (.int p1), .val (.int (p1 &&& (2147483647 : Int32))), .val (.int (own_first (p1 &&& (2147483647 : Int32)))), .val (.int (1 : Int32)), .val (.int (1 : Int32)), .unset, .unset] [])) _
      refine XS.iload X4.here hx rfl (hb hby at_43) rfl ?_
      show Steps _ _ _ (T4.setTop (mkF m 45 #[.val (.int p1), .val (.int (p1 &&& (2147483647 : Int32))), .val (.int (own_first (p1 &&& (2147483647 : Int32)))), .val (.int (1 : Int32)), .val (.int (1 : Int32)), .unset, .unset] [(.int (1 : Int32))])) _
      refine XS.ifNo X4.here hx rfl (hb hby at_45) rfl ((if0 _ _).trans (feq (by decide)).1) ?_
      show Steps _ _ _ (T4.setTop (mkF m 48 #[.val (.int p1), .val (.int (p1 &&& (2147483647 : Int32))), .val (.int (own_first (p1 &&& (2147483647 : Int32)))), .val (.int (1 : Int32)), .val (.int (1 : Int32)), .unset, .unset] [])) _
      refine XS.iloadN X4.here hx rfl (hb hby at_48) rfl ?_
      show Steps _ _ _ (T4.setTop (mkF m 49 #[.val (.int p1), .val (.int (p1 &&& (2147483647 : Int32))), .val (.int (own_first (p1 &&& (2147483647 : Int32)))), .val (.int (1 : Int32)), .val (.int (1 : Int32)), .unset, .unset] [(.int (p1 &&& (2147483647 : Int32)))])) _
      refine XS.iloadN X4.here hx rfl (hb hby at_49) rfl ?_
      show Steps _ _ _ (T4.setTop (mkF m 50 #[.val (.int p1), .val (.int (p1 &&& (2147483647 : Int32))), .val (.int (own_first (p1 &&& (2147483647 : Int32)))), .val (.int (1 : Int32)), .val (.int (1 : Int32)), .unset, .unset] [(.int (own_first (p1 &&& (2147483647 : Int32)))), (.int (p1 &&& (2147483647 : Int32)))])) _
      refine XS.isub X4.here hx rfl (hb hby at_50) rfl ?_
      show Steps _ _ _ (T4.setTop (mkF m 51 #[.val (.int p1), .val (.int (p1 &&& (2147483647 : Int32))), .val (.int (own_first (p1 &&& (2147483647 : Int32)))), .val (.int (1 : Int32)), .val (.int (1 : Int32)), .unset, .unset] [(.int ((p1 &&& (2147483647 : Int32)) - (own_first (p1 &&& (2147483647 : Int32)))))])) _
      refine XS.sipush X4.here hx rfl (hb hby at_51) ?_
      show Steps _ _ _ (T4.setTop (mkF m 54 #[.val (.int p1), .val (.int (p1 &&& (2147483647 : Int32))), .val (.int (own_first (p1 &&& (2147483647 : Int32)))), .val (.int (1 : Int32)), .val (.int (1 : Int32)), .unset, .unset] [(.int (4095 : Int32)), (.int ((p1 &&& (2147483647 : Int32)) - (own_first (p1 &&& (2147483647 : Int32)))))])) _
      refine XS.icmpNo X4.here hx rfl (hb hby at_54) rfl (flt hc8).2.2.1 ?_
      show Steps _ _ _ (T4.setTop (mkF m 57 #[.val (.int p1), .val (.int (p1 &&& (2147483647 : Int32))), .val (.int (own_first (p1 &&& (2147483647 : Int32)))), .val (.int (1 : Int32)), .val (.int (1 : Int32)), .unset, .unset] [])) _
      refine XS.iconst X4.here hx rfl (hb hby at_57) ?_
      show Steps _ _ _ (T4.setTop (mkF m 58 #[.val (.int p1), .val (.int (p1 &&& (2147483647 : Int32))), .val (.int (own_first (p1 &&& (2147483647 : Int32)))), .val (.int (1 : Int32)), .val (.int (1 : Int32)), .unset, .unset] [(.int (1 : Int32))])) _
      refine XS.goto X4.here hx rfl (pc0 := 58) (pc' := 62) rfl (hb hby at_58) (by decide) (by decide) ?_
      show Steps _ _ _ (T4.setTop (mkF m 62 #[.val (.int p1), .val (.int (p1 &&& (2147483647 : Int32))), .val (.int (own_first (p1 &&& (2147483647 : Int32)))), .val (.int (1 : Int32)), .val (.int (1 : Int32)), .unset, .unset] [(.int (1 : Int32))])) _
      refine XS.istore X4.here hx rfl (hb hby at_62) rfl (l' := #[.val (.int p1), .val (.int (p1 &&& (2147483647 : Int32))), .val (.int (own_first (p1 &&& (2147483647 : Int32)))), .val (.int (1 : Int32)), .val (.int (1 : Int32)), .val (.int (1 : Int32)), .unset]) rfl ?_
      show Steps _ _ _ (T4.setTop (mkF m 64 #[.val (.int p1), .val (.int (p1 &&& (2147483647 : Int32))), .val (.int (own_first (p1 &&& (2147483647 : Int32)))), .val (.int (1 : Int32)), .val (.int (1 : Int32)), .val (.int (1 : Int32)), .unset] [])) _
      refine XS.iloadN X4.here hx rfl (hb hby at_64) rfl ?_
      show Steps _ _ _ (T4.setTop (mkF m 65 #[.val (.int p1), .val (.int (p1 &&& (2147483647 : Int32))), .val (.int (own_first (p1 &&& (2147483647 : Int32)))), .val (.int (1 : Int32)), .val (.int (1 : Int32)), .val (.int (1 : Int32)), .unset] [(.int (1 : Int32))])) _
      refine XS.ifNo X4.here hx rfl (hb hby at_65) rfl ((if0 _ _).trans (feq (by decide)).1) ?_
      show Steps _ _ _ (T4.setTop (mkF m 68 #[.val (.int p1), .val (.int (p1 &&& (2147483647 : Int32))), .val (.int (own_first (p1 &&& (2147483647 : Int32)))), .val (.int (1 : Int32)), .val (.int (1 : Int32)), .val (.int (1 : Int32)), .unset] [])) _
      refine XS.iloadN X4.here hx rfl (hb hby at_68) rfl ?_
      show Steps _ _ _ (T4.setTop (mkF m 69 #[.val (.int p1), .val (.int (p1 &&& (2147483647 : Int32))), .val (.int (own_first (p1 &&& (2147483647 : Int32)))), .val (.int (1 : Int32)), .val (.int (1 : Int32)), .val (.int (1 : Int32)), .unset] [(.int (own_first (p1 &&& (2147483647 : Int32))))])) _
      exact k
    have hc10 : (((own_first (p1 &&& (2147483647 : Int32))) - (1 : Int32)) - (((own_first (p1 &&& (2147483647 : Int32))) - (1 : Int32)) / (4096 : Int32)) * (4096 : Int32)) = (0 : Int32) := own_4 _ hc2
    have pre11 : ∀ t, Steps p.tables e below (T4.setTop (mkF m 109 #[.val (.int p1), .val (.int (p1 &&& (2147483647 : Int32))), .val (.int (own_first (p1 &&& (2147483647 : Int32)))), .val (.int (1 : Int32)), .val (.int (1 : Int32)), .val (.int (1 : Int32)), .val (.int (1 : Int32))] [(.int (1 : Int32))])) t → Steps p.tables e below (s₁.setTop (entryFrame m #[(.int p1)] maxLocals)) t := by
      intro t k
      refine pre9 t ?_
      refine XS.iconst X4.here hx rfl (hb hby at_69) ?_
      show Steps _ _ _ (T4.setTop (mkF m 70 #[.val (.int p1), .val (.int (p1 &&& (2147483647 : Int32))), .val (.int (own_first (p1 &&& (2147483647 : Int32)))), .val (.int (1 : Int32)), .val (.int (1 : Int32)), .val (.int (1 : Int32)), .unset] [(.int (1 : Int32)), (.int (own_first (p1 &&& (2147483647 : Int32))))])) _
      refine XS.isub X4.here hx rfl (hb hby at_70) rfl ?_
      show Steps _ _ _ (T4.setTop (mkF m 71 #[.val (.int p1), .val (.int (p1 &&& (2147483647 : Int32))), .val (.int (own_first (p1 &&& (2147483647 : Int32)))), .val (.int (1 : Int32)), .val (.int (1 : Int32)), .val (.int (1 : Int32)), .unset] [(.int ((own_first (p1 &&& (2147483647 : Int32))) - (1 : Int32)))])) _
      refine XS.sipush X4.here hx rfl (hb hby at_71) ?_
      show Steps _ _ _ (T4.setTop (mkF m 74 #[.val (.int p1), .val (.int (p1 &&& (2147483647 : Int32))), .val (.int (own_first (p1 &&& (2147483647 : Int32)))), .val (.int (1 : Int32)), .val (.int (1 : Int32)), .val (.int (1 : Int32)), .unset] [(.int (4096 : Int32)), (.int ((own_first (p1 &&& (2147483647 : Int32))) - (1 : Int32)))])) _
      refine XS.irem X4.here hx rfl (hb hby at_74) rfl (by decide) ?_
      show Steps _ _ _ (T4.setTop (mkF m 75 #[.val (.int p1), .val (.int (p1 &&& (2147483647 : Int32))), .val (.int (own_first (p1 &&& (2147483647 : Int32)))), .val (.int (1 : Int32)), .val (.int (1 : Int32)), .val (.int (1 : Int32)), .unset] [(.int (((own_first (p1 &&& (2147483647 : Int32))) - (1 : Int32)) - (((own_first (p1 &&& (2147483647 : Int32))) - (1 : Int32)) / (4096 : Int32)) * (4096 : Int32)))])) _
      refine XS.ifNo X4.here hx rfl (hb hby at_75) rfl ((if0 _ _).trans (teq hc10).2) ?_
      show Steps _ _ _ (T4.setTop (mkF m 78 #[.val (.int p1), .val (.int (p1 &&& (2147483647 : Int32))), .val (.int (own_first (p1 &&& (2147483647 : Int32)))), .val (.int (1 : Int32)), .val (.int (1 : Int32)), .val (.int (1 : Int32)), .unset] [])) _
      refine XS.iconst X4.here hx rfl (hb hby at_78) ?_
      show Steps _ _ _ (T4.setTop (mkF m 79 #[.val (.int p1), .val (.int (p1 &&& (2147483647 : Int32))), .val (.int (own_first (p1 &&& (2147483647 : Int32)))), .val (.int (1 : Int32)), .val (.int (1 : Int32)), .val (.int (1 : Int32)), .unset] [(.int (1 : Int32))])) _
      refine XS.goto X4.here hx rfl (pc0 := 79) (pc' := 83) rfl (hb hby at_79) (by decide) (by decide) ?_
      show Steps _ _ _ (T4.setTop (mkF m 83 #[.val (.int p1), .val (.int (p1 &&& (2147483647 : Int32))), .val (.int (own_first (p1 &&& (2147483647 : Int32)))), .val (.int (1 : Int32)), .val (.int (1 : Int32)), .val (.int (1 : Int32)), .unset] [(.int (1 : Int32))])) _
      refine XS.istore X4.here hx rfl (hb hby at_83) rfl (l' := #[.val (.int p1), .val (.int (p1 &&& (2147483647 : Int32))), .val (.int (own_first (p1 &&& (2147483647 : Int32)))), .val (.int (1 : Int32)), .val (.int (1 : Int32)), .val (.int (1 : Int32)), .val (.int (1 : Int32))]) rfl ?_
      show Steps _ _ _ (T4.setTop (mkF m 85 #[.val (.int p1), .val (.int (p1 &&& (2147483647 : Int32))), .val (.int (own_first (p1 &&& (2147483647 : Int32)))), .val (.int (1 : Int32)), .val (.int (1 : Int32)), .val (.int (1 : Int32)), .val (.int (1 : Int32))] [])) _
      refine XS.iloadN X4.here hx rfl (hb hby at_85) rfl ?_
      show Steps _ _ _ (T4.setTop (mkF m 86 #[.val (.int p1), .val (.int (p1 &&& (2147483647 : Int32))), .val (.int (own_first (p1 &&& (2147483647 : Int32)))), .val (.int (1 : Int32)), .val (.int (1 : Int32)), .val (.int (1 : Int32)), .val (.int (1 : Int32))] [(.int (1 : Int32))])) _
      refine XS.ifNo X4.here hx rfl (hb hby at_86) rfl ((if0 _ _).trans (feq (by decide)).1) ?_
      show Steps _ _ _ (T4.setTop (mkF m 89 #[.val (.int p1), .val (.int (p1 &&& (2147483647 : Int32))), .val (.int (own_first (p1 &&& (2147483647 : Int32)))), .val (.int (1 : Int32)), .val (.int (1 : Int32)), .val (.int (1 : Int32)), .val (.int (1 : Int32))] [])) _
      refine XS.iload X4.here hx rfl (hb hby at_89) rfl ?_
      show Steps _ _ _ (T4.setTop (mkF m 91 #[.val (.int p1), .val (.int (p1 &&& (2147483647 : Int32))), .val (.int (own_first (p1 &&& (2147483647 : Int32)))), .val (.int (1 : Int32)), .val (.int (1 : Int32)), .val (.int (1 : Int32)), .val (.int (1 : Int32))] [(.int (1 : Int32))])) _
      refine XS.ifNo X4.here hx rfl (hb hby at_91) rfl ((if0 _ _).trans (feq (by decide)).1) ?_
      show Steps _ _ _ (T4.setTop (mkF m 94 #[.val (.int p1), .val (.int (p1 &&& (2147483647 : Int32))), .val (.int (own_first (p1 &&& (2147483647 : Int32)))), .val (.int (1 : Int32)), .val (.int (1 : Int32)), .val (.int (1 : Int32)), .val (.int (1 : Int32))] [])) _
      refine XS.iload X4.here hx rfl (hb hby at_94) rfl ?_
      show Steps _ _ _ (T4.setTop (mkF m 96 #[.val (.int p1), .val (.int (p1 &&& (2147483647 : Int32))), .val (.int (own_first (p1 &&& (2147483647 : Int32)))), .val (.int (1 : Int32)), .val (.int (1 : Int32)), .val (.int (1 : Int32)), .val (.int (1 : Int32))] [(.int (1 : Int32))])) _
      refine XS.ifNo X4.here hx rfl (hb hby at_96) rfl ((if0 _ _).trans (feq (by decide)).1) ?_
      show Steps _ _ _ (T4.setTop (mkF m 99 #[.val (.int p1), .val (.int (p1 &&& (2147483647 : Int32))), .val (.int (own_first (p1 &&& (2147483647 : Int32)))), .val (.int (1 : Int32)), .val (.int (1 : Int32)), .val (.int (1 : Int32)), .val (.int (1 : Int32))] [])) _
      refine XS.iload X4.here hx rfl (hb hby at_99) rfl ?_
      show Steps _ _ _ (T4.setTop (mkF m 101 #[.val (.int p1), .val (.int (p1 &&& (2147483647 : Int32))), .val (.int (own_first (p1 &&& (2147483647 : Int32)))), .val (.int (1 : Int32)), .val (.int (1 : Int32)), .val (.int (1 : Int32)), .val (.int (1 : Int32))] [(.int (1 : Int32))])) _
      refine XS.ifNo X4.here hx rfl (hb hby at_101) rfl ((if0 _ _).trans (feq (by decide)).1) ?_
      show Steps _ _ _ (T4.setTop (mkF m 104 #[.val (.int p1), .val (.int (p1 &&& (2147483647 : Int32))), .val (.int (own_first (p1 &&& (2147483647 : Int32)))), .val (.int (1 : Int32)), .val (.int (1 : Int32)), .val (.int (1 : Int32)), .val (.int (1 : Int32))] [])) _
      refine XS.iconst X4.here hx rfl (hb hby at_104) ?_
      show Steps _ _ _ (T4.setTop (mkF m 105 #[.val (.int p1), .val (.int (p1 &&& (2147483647 : Int32))), .val (.int (own_first (p1 &&& (2147483647 : Int32)))), .val (.int (1 : Int32)), .val (.int (1 : Int32)), .val (.int (1 : Int32)), .val (.int (1 : Int32))] [(.int (1 : Int32))])) _
      refine XS.goto X4.here hx rfl (pc0 := 105) (pc' := 109) rfl (hb hby at_105) (by decide) (by decide) ?_
      show Steps _ _ _ (T4.setTop (mkF m 109 #[.val (.int p1), .val (.int (p1 &&& (2147483647 : Int32))), .val (.int (own_first (p1 &&& (2147483647 : Int32)))), .val (.int (1 : Int32)), .val (.int (1 : Int32)), .val (.int (1 : Int32)), .val (.int (1 : Int32))] [(.int (1 : Int32))])) _
      exact k
    obtain ⟨fs, hr, hrun, hended, hW, hsame⟩ := X4.leave (v := some (.int (1 : Int32))) (fun h => by rw [Bd.returns] at h; cases h)
    refine ⟨_, _, pre11 _ ?_, hrun, hended, _, _, rfl, ?_, ⟨_, rfl⟩, hW, hsame.mono (by decide) (by decide)⟩
    · exact retN X4 hx (t := .boolean) Bd.returns (by simp) (hb hby at_109) hr
    · show Q_rm0 Z p1 h0 n0 _ T4.heap _
      rw [q4_0]
      exact ⟨rfl, N5, rfl⟩
set_option maxRecDepth 65536 in
set_option maxHeartbeats 40000000 in
theorem comes_1 {Post : Tables → Env → Array Value → State → Outcome → State → Prop} (hpost : ∀ tb e args s v u, (limb_1_1.after args s (.returned v) u = true ∧ limb_1_2.after args s (.returned v) u = true ∧ True) → FrameEnd s (.returned v) u (Jvm.fieldLocs frame_1_writes args s ++ Jvm.arrayLocs frame_1_arrays args s ++ Jvm.staticLocs frame_1_statics s) 0 0 → Post tb e args s (.returned v) u) :
    ArmFor flags0 classFile x code maxLocals ret World_1 tables_1 room_1 Calls_1 rest_1 Pre_1 Post := by
  intro l hfl _ _ p e ha hc hk s m args below hf hA hF happ hP
  obtain ⟨hcalls, hrest, hpre⟩ := hP
  obtain ⟨-, -, -, hnamed, -, -, -, hat⟩ := (Spec.applies_iff hf).mp happ
  obtain ⟨hg, hn⟩ := and_e (Cond.before_iff.mp (show (Jvm.Cond.and given_1 narrow_1).before args s = true from hpre))
  obtain ⟨g0, r0⟩ := and_e hg
  obtain ⟨w0, rfl⟩ : ∃ w0 : Value, args = #[w0] := by
    have hs : args.size = 1 := by simpa [Cond.value, given_1] using g0
    obtain ⟨L⟩ := args
    match L, hs with
    | [w0], _ => exact ⟨w0, rfl⟩
  have hw := fun d (hd : d ∈ tables_1) => atoms_spec (ws := Jvm.Cond.code x code maxLocals ret :: tables_1) hat d (List.mem_cons_of_mem _ hd)
  have hfit : Fit s := fun {y c} hc i hi => by
    obtain ⟨ha, rfl⟩ := Array.getElem?_eq_some_iff.mp hc
    have q := List.all_eq_true.mp ((Array.all_eq_true_iff_forall_mem.mp hF) _ (Array.getElem_mem ha)) i (List.mem_range.mpr hi)
    simpa [Array.getElem?_eq_getElem hi] using q
  obtain ⟨i0, ei0⟩ := is_v r0
  obtain rfl : w0 = (.int i0) := Option.some.inj ei0
  obtain ⟨n, o, h1, h2, h3, _, L, rfl, ⟨rfl, N, -⟩, hq⟩ := rm0 l s _ hw tables_1 i0 s.heap s.heap.size (Nat.le_refl _)  p e ha hc hk s m _ below hf ((Spec.applies_iff_loose hf).mp happ).1 ⟨rfl, State.Warmed39.refl s, rfl⟩ trivial
  refine ⟨n, _, h1, h2, h3, hpost _ _ _ _ _ _ ⟨Cond.after_iff.mpr rfl, Cond.after_iff.mpr (eq_i res_at (Term.int_eval (1)) rfl), trivial⟩ ⟨hq.1, hq.2.1, (hq.2.2.sift fun y hy => Or.inr (N y hy)).mono (by decide) (by decide)⟩⟩
theorem main_1_1 : Claimed_1_1 := comes_1 fun _ _ _ _ _ _ h hF => ⟨h.1, hF⟩
theorem main_1_2 : Claimed_1_2 := comes_1 fun _ _ _ _ _ _ h hF => ⟨h.2.1, hF⟩
end Jvm.Pilot.@@N@@
namespace Jvm.Pilot.@@N@@
open Jvm Jvm.ClassFile Sem Op Lib Jvm.Free Jvm.Stand Jvm.Pilot.@@N@@.Jvm.D
/-! MADE BY PROGRAM (witnessworld.py) out of the Statement's table words and the real class files: 11 classes; the members and pool entries that the words name. The judged class is class 1, her method 1. -/
namespace start1
open Jvm.ClassFile
def u (s : String) : CpInfo := .utf8 (stringToUtf16 s)
/-- a pool by its gaps: so many unusable entries, then the entry; so many at the end -/
def gap : Nat → List CpInfo → List CpInfo
  | 0, r => r
  | n + 1, r => .unusable :: gap n r
def poolList (es : List (Nat × CpInfo)) (last : Nat) : List CpInfo := es.foldr (fun e r => gap e.1 (e.2 :: r)) (gap last [])
def pool (es : List (Nat × CpInfo)) (last : Nat) : Array CpInfo := ⟨poolList es last⟩
def fileOf (pool : Array CpInfo) (this : Nat) (attrs : Array Attribute := #[]) (ms : Array MethodInfo := #[]) (fl : Nat := 33) (sup : Nat := 0) (ifs : Array Nat := #[]) (fds : Array FieldInfo := #[]) : ClassFile where
  minorVersion := 0
  majorVersion := 65
  constantPool := pool
  accessFlags := fl
  thisClass := this
  superClass := sup
  interfaces := ifs
  fields := fds
  methods := ms
  attributes := attrs
def plain (name : String) (sup : Option ClassId) : Class where
  name := name
  kind := .ordinary
  loader := none
  accessFlags := 33
  super := sup
  interfaces := #[]
  cf := none
  fields := #[]
  methods := #[]
  instanceTypes := #[]
  staticTypes := #[]
  resolved := #[]
  callSites := []
  init := .initialized
  statics := none
  mirror := none

def pool0 : Array CpInfo := pool [(5, u "<init>"), (0, u "()V"), (1, .class_ 10), (1, u "java/lang/Object")] 113

def k0m0 : Method := { name := "<init>", desc := "()V", sig := { parameters := [], returnType := none }, accessFlags := 1, code := none }
/-- java/lang/Object -/
def k0 : Class := { plain "java/lang/Object" none with
  accessFlags := 33
  interfaces := #[]
  cf := some (fileOf pool0 8 #[] #[{ accessFlags := 1, nameIndex := 5, descriptorIndex := 6, attributes := #[] }] 33 0 #[] #[])
  fields := #[]
  methods := #[k0m0]
  instanceTypes := #[]
  staticTypes := #[]
  resolved := Array.replicate 124 none
  statics := none }

def pool1 : Array CpInfo := pool [(2, .class_ 4), (1, u "java/lang/Object"), (0, u "<init>"), (0, u "()V"), (0, .integer 2147483647), (0, .methodref 9 10), (0, .class_ 11), (0, .nameAndType 12 13), (0, u "com/example/netsettle/netsettle/serve/ReportGroup"), (0, u "first"), (0, u "(I)I"), (0, .class_ 15), (0, u "com/example/netsettle/netsettle/serve/ReportGroupFirstPinLaw"), (2, u "law"), (0, u "(I)Z")] 3

def k1m0 : Method := { name := "<init>", desc := "()V", sig := { parameters := [], returnType := none }, accessFlags := 2, code := none }
def k1c1 : Code := { maxStack := 2, maxLocals := 7, code := code, exceptionTable := #[], attributes := #[] }
def k1m1 : Method := { name := "law", desc := "(I)Z", sig := { parameters := [.int], returnType := some .boolean }, accessFlags := 9, code := some k1c1 }
/-- com/example/netsettle/netsettle/serve/ReportGroupFirstPinLaw -/
def k1 : Class := { plain "com/example/netsettle/netsettle/serve/ReportGroupFirstPinLaw" (some 0) with
  accessFlags := 49
  interfaces := #[]
  cf := some (fileOf pool1 14 #[] #[{ accessFlags := 2, nameIndex := 5, descriptorIndex := 6, attributes := #[] }, { accessFlags := 9, nameIndex := 18, descriptorIndex := 19, attributes := #[] }] 49 2 #[] #[])
  fields := #[]
  methods := #[k1m0, k1m1]
  instanceTypes := #[]
  staticTypes := #[]
  resolved := Array.replicate 23 none
  statics := none }

def pool2 : Array CpInfo := pool [(1, .class_ 2), (0, u "java/lang/AutoCloseable"), (0, .class_ 4), (0, u "java/lang/Object")] 7

/-- java/lang/AutoCloseable -/
def k2 : Class := { plain "java/lang/AutoCloseable" (some 0) with
  accessFlags := 1537
  interfaces := #[]
  cf := some (fileOf pool2 1 #[] #[] 1537 3 #[] #[])
  fields := #[]
  methods := #[]
  instanceTypes := #[]
  staticTypes := #[]
  resolved := Array.replicate 12 none
  statics := none }

def pool3 : Array CpInfo := pool [(1, .class_ 2), (0, u "java/io/Closeable"), (0, .class_ 4), (0, u "java/lang/Object"), (0, .class_ 6), (0, u "java/lang/AutoCloseable")] 7

/-- java/io/Closeable -/
def k3 : Class := { plain "java/io/Closeable" (some 0) with
  accessFlags := 1537
  interfaces := #[2]
  cf := some (fileOf pool3 1 #[] #[] 1537 3 #[5] #[])
  fields := #[]
  methods := #[]
  instanceTypes := #[]
  staticTypes := #[]
  resolved := Array.replicate 14 none
  statics := none }

def pool4 : Array CpInfo := pool [(2, .class_ 4), (1, u "java/lang/Object"), (2, .class_ 8), (0, u "com/example/netsettle/netsettle/serve/ReportGroup"), (9, u "unwritten"), (0, u "Ljava/nio/ByteBuffer;"), (2, u "channel"), (0, u "Ljava/nio/channels/FileChannel;"), (2, u "entries"), (0, u "Ljava/util/List;"), (14, .class_ 43), (0, u "com/example/netsettle/netsettle/serve/ReportGroup$Entry"), (6, u "written"), (0, u "J"), (106, u "ZEROS"), (0, u "[B"), (49, .class_ 210), (0, u "com/example/netsettle/netsettle/serve/ReportGroup$Header"), (5, u "SHARED"), (28, u "SHARED_CHECKSUM"), (8, u "MAGIC"), (2, u "VERSION"), (18, u "ENTRY"), (0, u "Ljava/util/regex/Pattern;"), (53, .class_ 332), (0, u "java/io/Closeable"), (0, u "SPAN"), (0, u "I"), (2, u "BLOCK"), (1, u "NAME"), (1, u "NAME_BYTES"), (1, u "MODE"), (0, u "OWNER"), (1, u "IDS"), (1, u "SIZE"), (1, u "MODIFIED"), (1, u "NUMBER_BYTES"), (1, u "CHECKSUM"), (1, u "CHECKSUM_BYTES"), (0, u "TYPE"), (1, u "MAGIC_AT"), (1, u "VERSION_AT"), (1, u "REGULAR_FILE"), (0, u "B"), (1, u "READABLE"), (1, u "UNWRITTEN_BYTES"), (6, u "first"), (0, u "(I)I")] 33

def k4c0 : Code := { maxStack := 2, maxLocals := 1, code := prog_110_method_2_code, exceptionTable := #[], attributes := #[] }
def k4m0 : Method := { name := "first", desc := "(I)I", sig := { parameters := [.int], returnType := some .int }, accessFlags := 8, code := some k4c0 }
/-- com/example/netsettle/netsettle/serve/ReportGroup -/
def k4 : Class := { plain "com/example/netsettle/netsettle/serve/ReportGroup" (some 0) with
  accessFlags := 48
  interfaces := #[3]
  cf := some (fileOf pool4 7 #[.nestMembers #[209, 42]] #[{ accessFlags := 8, nameIndex := 375, descriptorIndex := 376, attributes := #[] }] 48 2 #[331] #[{ accessFlags := 24, nameIndex := 333, descriptorIndex := 334, attributes := #[] }, { accessFlags := 26, nameIndex := 337, descriptorIndex := 334, attributes := #[] }, { accessFlags := 26, nameIndex := 158, descriptorIndex := 159, attributes := #[] }, { accessFlags := 26, nameIndex := 254, descriptorIndex := 159, attributes := #[] }, { accessFlags := 26, nameIndex := 257, descriptorIndex := 159, attributes := #[] }, { accessFlags := 26, nameIndex := 339, descriptorIndex := 334, attributes := #[] }, { accessFlags := 26, nameIndex := 341, descriptorIndex := 334, attributes := #[] }, { accessFlags := 26, nameIndex := 343, descriptorIndex := 334, attributes := #[] }, { accessFlags := 26, nameIndex := 344, descriptorIndex := 334, attributes := #[] }, { accessFlags := 26, nameIndex := 346, descriptorIndex := 334, attributes := #[] }, { accessFlags := 26, nameIndex := 348, descriptorIndex := 334, attributes := #[] }, { accessFlags := 26, nameIndex := 350, descriptorIndex := 334, attributes := #[] }, { accessFlags := 26, nameIndex := 352, descriptorIndex := 334, attributes := #[] }, { accessFlags := 26, nameIndex := 354, descriptorIndex := 334, attributes := #[] }, { accessFlags := 26, nameIndex := 356, descriptorIndex := 334, attributes := #[] }, { accessFlags := 26, nameIndex := 357, descriptorIndex := 334, attributes := #[] }, { accessFlags := 26, nameIndex := 359, descriptorIndex := 334, attributes := #[] }, { accessFlags := 26, nameIndex := 361, descriptorIndex := 334, attributes := #[] }, { accessFlags := 26, nameIndex := 363, descriptorIndex := 364, attributes := #[] }, { accessFlags := 26, nameIndex := 366, descriptorIndex := 334, attributes := #[] }, { accessFlags := 26, nameIndex := 368, descriptorIndex := 334, attributes := #[] }, { accessFlags := 26, nameIndex := 216, descriptorIndex := 159, attributes := #[] }, { accessFlags := 26, nameIndex := 245, descriptorIndex := 51, attributes := #[] }, { accessFlags := 26, nameIndex := 276, descriptorIndex := 277, attributes := #[] }, { accessFlags := 18, nameIndex := 22, descriptorIndex := 23, attributes := #[] }, { accessFlags := 18, nameIndex := 26, descriptorIndex := 27, attributes := #[] }, { accessFlags := 2, nameIndex := 18, descriptorIndex := 19, attributes := #[] }, { accessFlags := 2, nameIndex := 50, descriptorIndex := 51, attributes := #[] }])
  fields := #[{ name := "SPAN", type := .int, accessFlags := 24, slot := 0, constantValue := 0 }, { name := "BLOCK", type := .int, accessFlags := 26, slot := 1, constantValue := 0 }, { name := "ZEROS", type := (.array .byte), accessFlags := 26, slot := 2, constantValue := 0 }, { name := "MAGIC", type := (.array .byte), accessFlags := 26, slot := 3, constantValue := 0 }, { name := "VERSION", type := (.array .byte), accessFlags := 26, slot := 4, constantValue := 0 }, { name := "NAME", type := .int, accessFlags := 26, slot := 5, constantValue := 0 }, { name := "NAME_BYTES", type := .int, accessFlags := 26, slot := 6, constantValue := 0 }, { name := "MODE", type := .int, accessFlags := 26, slot := 7, constantValue := 0 }, { name := "OWNER", type := .int, accessFlags := 26, slot := 8, constantValue := 0 }, { name := "IDS", type := .int, accessFlags := 26, slot := 9, constantValue := 0 }, { name := "SIZE", type := .int, accessFlags := 26, slot := 10, constantValue := 0 }, { name := "MODIFIED", type := .int, accessFlags := 26, slot := 11, constantValue := 0 }, { name := "NUMBER_BYTES", type := .int, accessFlags := 26, slot := 12, constantValue := 0 }, { name := "CHECKSUM", type := .int, accessFlags := 26, slot := 13, constantValue := 0 }, { name := "CHECKSUM_BYTES", type := .int, accessFlags := 26, slot := 14, constantValue := 0 }, { name := "TYPE", type := .int, accessFlags := 26, slot := 15, constantValue := 0 }, { name := "MAGIC_AT", type := .int, accessFlags := 26, slot := 16, constantValue := 0 }, { name := "VERSION_AT", type := .int, accessFlags := 26, slot := 17, constantValue := 0 }, { name := "REGULAR_FILE", type := .byte, accessFlags := 26, slot := 18, constantValue := 0 }, { name := "READABLE", type := .int, accessFlags := 26, slot := 19, constantValue := 0 }, { name := "UNWRITTEN_BYTES", type := .int, accessFlags := 26, slot := 20, constantValue := 0 }, { name := "SHARED", type := (.array .byte), accessFlags := 26, slot := 21, constantValue := 0 }, { name := "SHARED_CHECKSUM", type := .long, accessFlags := 26, slot := 22, constantValue := 0 }, { name := "ENTRY", type := (.object "java/util/regex/Pattern"), accessFlags := 26, slot := 23, constantValue := 0 }, { name := "channel", type := (.object "java/nio/channels/FileChannel"), accessFlags := 18, slot := 0, constantValue := 0 }, { name := "entries", type := (.object "java/util/List"), accessFlags := 18, slot := 1, constantValue := 0 }, { name := "unwritten", type := (.object "java/nio/ByteBuffer"), accessFlags := 2, slot := 2, constantValue := 0 }, { name := "written", type := .long, accessFlags := 2, slot := 3, constantValue := 0 }]
  methods := #[k4m0]
  instanceTypes := #[(.object "java/nio/channels/FileChannel"), (.object "java/util/List"), (.object "java/nio/ByteBuffer"), .long]
  staticTypes := #[.int, .int, (.array .byte), (.array .byte), (.array .byte), .int, .int, .int, .int, .int, .int, .int, .int, .int, .int, .int, .int, .int, .byte, .int, .int, (.array .byte), .long, (.object "java/util/regex/Pattern")]
  resolved := Array.replicate 410 none
  statics := none }

def pool5 : Array CpInfo := pool [(1, u "java/lang/Cloneable"), (0, .class_ 1), (0, u "java/lang/Object"), (0, .class_ 3)] 3

/-- java/lang/Cloneable -/
def k5 : Class := { plain "java/lang/Cloneable" (some 0) with
  accessFlags := 1537
  interfaces := #[]
  cf := some (fileOf pool5 2 #[] #[] 1537 4 #[] #[])
  fields := #[]
  methods := #[]
  instanceTypes := #[]
  staticTypes := #[]
  resolved := Array.replicate 8 none
  statics := none }

def pool6 : Array CpInfo := pool [(1, u "java/io/Serializable"), (0, .class_ 1), (0, u "java/lang/Object"), (0, .class_ 3)] 3

/-- java/io/Serializable -/
def k6 : Class := { plain "java/io/Serializable" (some 0) with
  accessFlags := 1537
  interfaces := #[]
  cf := some (fileOf pool6 2 #[] #[] 1537 4 #[] #[])
  fields := #[]
  methods := #[]
  instanceTypes := #[]
  staticTypes := #[]
  resolved := Array.replicate 8 none
  statics := none }

/-- the primitive byte -/
def k7 : Class := { plain "byte" none with kind := .primitive 'B', accessFlags := 0x411 }
/-- [B -/
def k8 : Class := { plain "[B" (some 0) with kind := .array 7 .byte, interfaces := #[5, 6], accessFlags := 1041 }

/-- the primitive int -/
def k9 : Class := { plain "int" none with kind := .primitive 'I', accessFlags := 0x411 }
/-- [I -/
def k10 : Class := { plain "[I" (some 0) with kind := .array 9 .int, interfaces := #[5, 6], accessFlags := 1041 }

def heap : Heap := #[]
def classes : Array Class := #[k0, k1, k2, k3, k4, k5, k6, k7, k8, k9, k10]
def interned : List (Array UInt16 × Addr) := []
def slotsUsed : Nat := 0
def theMethod : MethodId := ⟨1, 1⟩
def args0 : Array Value := #[.int 5]
def aboutOver (below : List Frame) : State where
  vm := { classes := classes, interned := interned.toArray }
  heap := heap
  slotsUsed := slotsUsed
  threads := #[{ frames := .invoking theMethod args0 :: below }]
def below0 : List Frame := [.native { method := ⟨0, 0⟩, args := #[] }]
def about1 : State := aboutOver below0
def p0 : Program := .bare "" "" ""
def e0 : Env := launch0.env 0 0 0
theorem w_frames : about1.frames = Frame.invoking theMethod args0 :: below0 := rfl
set_option maxRecDepth 65536 in
theorem w_args : argsFit about1.vm theMethod args0 = true := by decide +kernel
set_option maxRecDepth 65536 in
theorem w_heap : heapFits about1 = true := by decide +kernel
set_option maxRecDepth 65536 in
theorem w_runnable : about1.curStatus? = some .runnable := by decide +kernel
set_option maxRecDepth 65536 in
theorem w_alone : about1.alone = true := by decide +kernel
set_option maxRecDepth 65536 in
theorem w_named : about1.methodNamed? x = some theMethod := by decide +kernel
set_option maxRecDepth 65536 in
theorem w_hears : about1.hears theMethod below0 = true := by decide +kernel
set_option maxRecDepth 65536 in
theorem w_ripe : about1.ripe theMethod args0 below0 = true := by decide +kernel
theorem w_running : about1.status = .running := rfl
set_option maxRecDepth 65536 in
theorem w_room : about1.hasRoom e0.platform room_1 = true :=
  launch0.hasRoom_least _ room_1 (by decide +kernel) (by decide +kernel) (by decide +kernel) (by decide +kernel) (by decide +kernel) (by decide +kernel)
theorem allAtoms_all (ts : List Jvm.Cond) (a : Array Jvm.Value) (st : Jvm.State) : (allAtoms ts).before a st = ts.all (fun c => c.before a st) := by
  induction ts with
  | nil => rfl
  | cons c t ih =>
    show (Jvm.Cond.and c (allAtoms t)).before a st = _
    rw [Jvm.Cond.before_and, ih, List.all_cons]
def words1 : List Jvm.Cond := Jvm.Cond.code x code maxLocals ret :: tables_1
/-- a 'code' word, met by the world's own term for the bytes: nothing is compared byte by byte -/
theorem code_word {y : MethodName} {bytes : ByteArray} {mx : Nat} {rt : Option FieldType} {a : Array Value} {s : State} {m : MethodId} {meth : Method} {c : Code} (h1 : s.methodNamed? y = some m) (h2 : s.vm.method? m = some meth) (h3 : meth.code = some c) (h4 : c.code = bytes)
    (h5 : (c.maxLocals == mx && c.exceptionTable.isEmpty && decide (c.maxStack ≤ mostOperands) && decide (meth.sig.returnType = rt) && !meth.locks && decide (parseMethodDescriptor y.desc = some meth.sig)) = true) : (Jvm.Cond.code y bytes mx rt).before a s = true := by
  simp only [Bool.and_eq_true, beq_iff_eq, Bool.not_eq_true', decide_eq_true_eq] at h5
  obtain ⟨⟨⟨⟨⟨g1, g2⟩, g3⟩, g4⟩, g5⟩, g6⟩ := h5
  simp [Cond.before, Cond.holds, Cond.value, h1, h2, h3, h4, g1, g2, g3, g4, g5, g6]
def isCode : Jvm.Cond → Bool
  | .code _ _ _ _ => true
  | _ => false
theorem all_split {L : List Jvm.Cond} {P : Jvm.Cond → Bool} (h1 : L.all (fun c => isCode c || P c) = true) (h2 : ∀ c ∈ L.filter isCode, P c = true) : L.all P = true := by
  refine List.all_eq_true.mpr fun c hc => ?_
  have h := List.all_eq_true.mp h1 c hc
  rcases Bool.eq_false_or_eq_true (isCode c) with hi | hi
  · exact h2 c (List.mem_filter.mpr ⟨hc, hi⟩)
  · simpa [hi] using h
set_option maxRecDepth 65536 in
theorem w_c0 : (Jvm.Cond.code x code maxLocals ret).before args0 about1 = true := code_word (m := ⟨1, 1⟩) (meth := k1m1) (c := k1c1) (by decide +kernel) rfl rfl rfl (by decide +kernel)
set_option maxRecDepth 65536 in
theorem w_c1 : (Jvm.Cond.code ({ cls := "com/example/netsettle/netsettle/serve/ReportGroup", name := "first", desc := "(I)I" } : Jvm.MethodName) prog_110_method_2_code (1 : Nat) (Option.some Jvm.ClassFile.FieldType.int)).before args0 about1 = true := code_word (m := ⟨4, 0⟩) (meth := k4m0) (c := k4c0) (by decide +kernel) rfl rfl rfl (by decide +kernel)
def codes1 : List Jvm.Cond := [Jvm.Cond.code x code maxLocals ret, Jvm.Cond.code ({ cls := "com/example/netsettle/netsettle/serve/ReportGroup", name := "first", desc := "(I)I" } : Jvm.MethodName) prog_110_method_2_code (1 : Nat) (Option.some Jvm.ClassFile.FieldType.int)]
set_option maxRecDepth 65536 in
theorem codes_eq : words1.filter isCode = codes1 := rfl
theorem w_codes : ∀ c ∈ words1.filter isCode, c.before args0 about1 = true := by
  rw [codes_eq]
  intro c hc
  simp only [codes1, List.mem_cons, List.not_mem_nil, or_false] at hc
  rcases hc with rfl | rfl
  · exact w_c0
  · exact w_c1
set_option maxRecDepth 65536 in
theorem w_t1 : words1.all (fun c => isCode c || c.before args0 about1) = true := by decide +kernel
theorem w_tables : (allAtoms (Jvm.Cond.code x code maxLocals ret :: tables_1)).before args0 about1 = true := by
  rw [allAtoms_all]
  show words1.all (fun c => c.before args0 about1) = true
  refine all_split ?_ w_codes
  rw [w_t1]
set_option maxRecDepth 65536 in
theorem w_case : (Jvm.Cond.and given_1 narrow_1).before args0 about1 = true := by decide +kernel
theorem w_applies : (headSpec (Jvm.Cond.code x code maxLocals ret :: tables_1) room_1).applies x e0.platform about1 = true :=
  (Spec.applies_iff w_frames).mpr ⟨w_running, w_runnable, w_alone, w_named, w_hears, w_ripe, w_room, w_tables⟩
theorem atStart : AtStart classFile x code maxLocals ret World_1 tables_1 room_1 Calls_1 rest_1 Pre_1 launch0 p0 e0 about1 theMethod args0 below0 :=
  ⟨lists_1, trivial, launch0.admits_env _ _ _, launch0.least_env, fairChoices_fair.cas, fairChoices_fair.clock, w_frames, w_args, w_heap, w_applies, trivial, trivial, w_case⟩
end start1
theorem witness_1 : WitnessClaimed_1 := ⟨start1.p0, start1.e0, start1.about1, start1.theMethod, start1.args0, start1.below0, start1.atStart⟩
end Jvm.Pilot.@@N@@
