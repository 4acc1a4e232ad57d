import JvmDerived
import JvmDerived.Pilot.@@N@@Statement
import JvmDerived.Pilot.@@N@@Code
set_option linter.unusedVariables false
set_option linter.unusedSimpArgs false
namespace Jvm.RoadKit
open Sem ClassFile Op Lib Jvm.Stand Jvm.Free Jvm.LawKit
section New
variable {p : Program} {l : Launch} {e : Env} {R : Room} {s : State} {m : MethodId} {args : Array Value} {below : List Frame} {meth : Method} {c : Code} {T : State} {locs : List Loc} {cells slots : Nat}
theorem retI (X : Stand p l e R s m args below meth c T locs cells slots) (hx : p.tables.exec = Jvm.exec) {pc : Nat} {Ls : Array Slot} {z : Int32} {rest : List Value} (hret : meth.sig.returnType = some .int) (hd : decode c.code pc = .ok (.ireturn, 1)) {fs : List Frame}
    (hl : ∀ (f : JFrame) (acts : List Action), f.method = m → f.locked = none → f.entered = [] → (doReturn e (T.setTop f) acts (some (.int z))).1 = T.setFrames fs) : Steps p.tables e below (T.setTop (mkF m pc Ls (.int z :: rest))) (T.setFrames fs) := by
  have hm' : T.vm.method? m = some meth := X.method'
  have hn : narrow .int (.int z) = .int z := rfl
  show Steps p.tables e below (T.setTop { method := m, pc := pc, locals := Ls, stack := _ :: rest, locked := none }) _
  jvm_step X.here [X.here.top, hx, hd, hm', hret, hn]
  first | (intro acts; rw [hl _ acts rfl rfl rfl]) | rw [hl _ _ rfl rfl rfl]
  exact Steps.refl _
end New
end Jvm.RoadKit
namespace Jvm.Pilot.@@N@@
open Jvm Jvm.ClassFile Sem Op Lib Jvm.Free Jvm.Stand Jvm.LawKit Jvm.RoadKit Bundle Jvm.Pilot.@@N@@.Jvm.D

theorem d2_0 : decode prog_16_method_32_code 0 = .ok (.aload_n 0, 1) := by decide +kernel
theorem d2_1 : decode prog_16_method_32_code 1 = .ok (.iload_n 1, 1) := by decide +kernel
theorem d2_2 : decode prog_16_method_32_code 2 = .ok (.baload, 1) := by decide +kernel
theorem d2_3 : decode prog_16_method_32_code 3 = .ok (.sipush 255, 3) := by decide +kernel
theorem d2_6 : decode prog_16_method_32_code 6 = .ok (.iand, 1) := by decide +kernel
theorem d2_7 : decode prog_16_method_32_code 7 = .ok (.aload_n 0, 1) := by decide +kernel
theorem d2_8 : decode prog_16_method_32_code 8 = .ok (.iload_n 1, 1) := by decide +kernel
theorem d2_9 : decode prog_16_method_32_code 9 = .ok (.iconst 1, 1) := by decide +kernel
theorem d2_10 : decode prog_16_method_32_code 10 = .ok (.iadd, 1) := by decide +kernel
theorem d2_11 : decode prog_16_method_32_code 11 = .ok (.baload, 1) := by decide +kernel
theorem d2_12 : decode prog_16_method_32_code 12 = .ok (.sipush 255, 3) := by decide +kernel
theorem d2_15 : decode prog_16_method_32_code 15 = .ok (.iand, 1) := by decide +kernel
theorem d2_16 : decode prog_16_method_32_code 16 = .ok (.bipush 8, 2) := by decide +kernel
theorem d2_18 : decode prog_16_method_32_code 18 = .ok (.ishl, 1) := by decide +kernel
theorem d2_19 : decode prog_16_method_32_code 19 = .ok (.ior, 1) := by decide +kernel
theorem d2_20 : decode prog_16_method_32_code 20 = .ok (.ireturn, 1) := by decide +kernel
theorem pn_0 : plainName "com/example/blockflate/blockflate/Layout" = true := by first | (simp [plainName, overriddenIn]; done) | decide +kernel
theorem ef_rm2 (m : MethodId) (x0 : Addr) (x1 : Int32) : entryFrame m #[(.ref x0), (.int x1)] 2 = mkF m 0 #[.val (.ref x0), .val (.int x1)] [] := by first | (simp [entryFrame, mkF, argsToLocals, Value.category]; done) | rfl
def Q_rm2 (Z : State) (a1 : Addr) (p2 : Int32) (k : ClassId) (z : Int32) (vs : List Value) (dv : Value) (x0 : Int32) (x1 : Int32) (h0 : Heap) (n0 : Nat) (v : Option Value) (h : Heap) (L : List Loc) : Prop := v = some (.int ((x0 &&& (255 : Int32)) ||| ((x1 &&& (255 : Int32)) <<< ((8 : Int32) &&& 31)))) ∧ Fr n0 L ∧ h = h0
set_option maxRecDepth 65536 in
set_option maxHeartbeats 40000000 in
theorem rm2 (l : Launch) (Z : State) (a0 : Array Value) (hw : ∀ d ∈ tables_1, d.before a0 Z = true) (ws : List Jvm.Cond) (a1 : Addr) (p2 : Int32) (k : ClassId) (z : Int32) (vs : List Value) (dv : Value) (x0 : Int32) (x1 : Int32) (h0 : Heap) (n0 : Nat) (Z0 : n0 ≤ h0.size) (V1 : Arv Z h0 a1 k .byte z vs dv) (hin0 : ¬ p2 < 0 ∧ p2 < z) (hat0 : vs.getD (p2).toNatClampNeg dv = (.int x0)) (hin1 : ¬ (p2 + (1 : Int32)) < 0 ∧ (p2 + (1 : Int32)) < z) (hat1 : vs.getD ((p2 + (1 : Int32))).toNatClampNeg dv = (.int x1)) :
    MetFree l (⟨"com/example/blockflate/blockflate/Layout", "getUnsignedShort", "([BI)I"⟩ : MethodName) (head1 (Jvm.Cond.code (⟨"com/example/blockflate/blockflate/Layout", "getUnsignedShort", "([BI)I"⟩ : MethodName) prog_16_method_32_code 2 (some .int) :: ws) ({ frames := 0, cells := 0, slots := 0, locals := 0 } : Room)) (fun a U => a = #[(.ref a1), (.int p2)] ∧ Z.Warmed39 U.vm ∧ U.heap = h0) (fun _ _ _ _ _ => True) (fun _ U o U' => ∃ v L, o = .returned v ∧ Q_rm2 Z a1 p2 k z vs dv x0 x1 h0 n0 v U'.heap L ∧ FrameEnd U o U' L ({ frames := 0, cells := 0, slots := 0, locals := 0 } : Room).cells ({ frames := 0, cells := 0, slots := 0, locals := 0 } : Room).slots) := by
  refine MetFree.of_bodySF (plainFor_of_name pn_0) hisR ?_
  intro p e s m args below meth c s₁ Bd hml0 hP hK
  obtain ⟨rfl, hZ, hh⟩ := hP
  have hx := Bd.exec
  have hby := Bd.bytes
  have hml : c.maxLocals = 2 := hml0
  have hown : s.vm.findClass "com/example/blockflate/blockflate/Layout" = some m.cls := findClass_of_methodNamed Bd.named
  have hnm := (name_of_methodNamed Bd.named Bd.method).1
  have X0 : Stand p l e ({ frames := 0, cells := 0, slots := 0, locals := 0 } : Room) s m #[(.ref a1), (.int p2)] below meth c s₁ [] 0 0 := Stand.of_body Bd
  have e0 : s₁.heap = h0 := by rw [← hh, Bd.state]; rfl
  have N0 := Fr.nil n0
  have pre0 : ∀ t, Steps p.tables e below (s₁.setTop (mkF m 0 #[.val (.ref a1), .val (.int p2)] [])) t → Steps p.tables e below (s₁.setTop (entryFrame m #[(.ref a1), (.int p2)] 2)) t := fun t k => castTop (ef_rm2 m a1 p2) k
  obtain ⟨c1, Arc1, Aqc1, Asc1, Anc1, Ahc1, Agc1⟩ := id V1
  have hin2 : ¬ (p2 < 0 ∨ c1.slots.size ≤ (p2).toNatClampNeg) := inb_of Asc1 hin0
  have hat3 : c1.slots[(p2).toNatClampNeg]? = some (.int x0) := Has.at Ahc1 hin2 hat0
  obtain ⟨c4, Arc4, Aqc4, Asc4, Anc4, Ahc4, Agc4⟩ := id V1
  have hin5 : ¬ ((p2 + (1 : Int32)) < 0 ∨ c4.slots.size ≤ ((p2 + (1 : Int32))).toNatClampNeg) := inb_of Asc4 hin1
  have hat6 : c4.slots[((p2 + (1 : Int32))).toNatClampNeg]? = some (.int x1) := Has.at Ahc4 hin5 hat1
  have pre7 : ∀ t, Steps p.tables e below (s₁.setTop (mkF m 20 #[.val (.ref a1), .val (.int p2)] [(.int ((x0 &&& (255 : Int32)) ||| ((x1 &&& (255 : Int32)) <<< ((8 : Int32) &&& 31))))])) t → Steps p.tables e below (s₁.setTop (entryFrame m #[(.ref a1), (.int p2)] 2)) t := by
    intro t k
    refine pre0 t ?_
    refine XS.aloadN X0.here hx rfl (hb hby d2_0) rfl rfl ?_
    show Steps _ _ _ (s₁.setTop (mkF m 1 #[.val (.ref a1), .val (.int p2)] [(.ref a1)])) _
    refine XS.iloadN X0.here hx rfl (hb hby d2_1) rfl ?_
    show Steps _ _ _ (s₁.setTop (mkF m 2 #[.val (.ref a1), .val (.int p2)] [(.int p2), (.ref a1)])) _
    refine X0.baloadBytes hx (j := p2) (v := (.int x0)) (by rw [e0]; exact Arc1.1) (State.isArrayOf_alike hZ.alike Arc1.2.1) Arc1.2.2 hin2 hat3 (g := (mkF m 2 #[.val (.ref a1), .val (.int p2)] [(.int p2), (.ref a1)])) rfl rfl (hb hby d2_2) _ ?_
    show Steps _ _ _ (s₁.setTop (mkF m 3 #[.val (.ref a1), .val (.int p2)] [(.int x0)])) _
    refine XS.sipush X0.here hx rfl (hb hby d2_3) ?_
    show Steps _ _ _ (s₁.setTop (mkF m 6 #[.val (.ref a1), .val (.int p2)] [(.int (255 : Int32)), (.int x0)])) _
    refine XS.iand X0.here hx rfl (hb hby d2_6) rfl ?_
    show Steps _ _ _ (s₁.setTop (mkF m 7 #[.val (.ref a1), .val (.int p2)] [(.int (x0 &&& (255 : Int32)))])) _
    refine XS.aloadN X0.here hx rfl (hb hby d2_7) rfl rfl ?_
    show Steps _ _ _ (s₁.setTop (mkF m 8 #[.val (.ref a1), .val (.int p2)] [(.ref a1), (.int (x0 &&& (255 : Int32)))])) _
    refine XS.iloadN X0.here hx rfl (hb hby d2_8) rfl ?_
    show Steps _ _ _ (s₁.setTop (mkF m 9 #[.val (.ref a1), .val (.int p2)] [(.int p2), (.ref a1), (.int (x0 &&& (255 : Int32)))])) _
    refine XS.iconst X0.here hx rfl (hb hby d2_9) ?_
    show Steps _ _ _ (s₁.setTop (mkF m 10 #[.val (.ref a1), .val (.int p2)] [(.int (1 : Int32)), (.int p2), (.ref a1), (.int (x0 &&& (255 : Int32)))])) _
    refine XS.iadd X0.here hx rfl (hb hby d2_10) rfl ?_
    show Steps _ _ _ (s₁.setTop (mkF m 11 #[.val (.ref a1), .val (.int p2)] [(.int (p2 + (1 : Int32))), (.ref a1), (.int (x0 &&& (255 : Int32)))])) _
    refine X0.baloadBytes hx (j := (p2 + (1 : Int32))) (v := (.int x1)) (by rw [e0]; exact Arc4.1) (State.isArrayOf_alike hZ.alike Arc4.2.1) Arc4.2.2 hin5 hat6 (g := (mkF m 11 #[.val (.ref a1), .val (.int p2)] [(.int (p2 + (1 : Int32))), (.ref a1), (.int (x0 &&& (255 : Int32)))])) rfl rfl (hb hby d2_11) _ ?_
    show Steps _ _ _ (s₁.setTop (mkF m 12 #[.val (.ref a1), .val (.int p2)] [(.int x1), (.int (x0 &&& (255 : Int32)))])) _
    refine XS.sipush X0.here hx rfl (hb hby d2_12) ?_
    show Steps _ _ _ (s₁.setTop (mkF m 15 #[.val (.ref a1), .val (.int p2)] [(.int (255 : Int32)), (.int x1), (.int (x0 &&& (255 : Int32)))])) _
    refine XS.iand X0.here hx rfl (hb hby d2_15) rfl ?_
    show Steps _ _ _ (s₁.setTop (mkF m 16 #[.val (.ref a1), .val (.int p2)] [(.int (x1 &&& (255 : Int32))), (.int (x0 &&& (255 : Int32)))])) _
    refine XS.bipush X0.here hx rfl (hb hby d2_16) ?_
    show Steps _ _ _ (s₁.setTop (mkF m 18 #[.val (.ref a1), .val (.int p2)] [(.int (8 : Int32)), (.int (x1 &&& (255 : Int32))), (.int (x0 &&& (255 : Int32)))])) _
    refine XS.ishl X0.here hx rfl (hb hby d2_18) rfl ?_
    show Steps _ _ _ (s₁.setTop (mkF m 19 #[.val (.ref a1), .val (.int p2)] [(.int ((x1 &&& (255 : Int32)) <<< ((8 : Int32) &&& 31))), (.int (x0 &&& (255 : Int32)))])) _
    refine XS.ior X0.here hx rfl (hb hby d2_19) rfl ?_
    show Steps _ _ _ (s₁.setTop (mkF m 20 #[.val (.ref a1), .val (.int p2)] [(.int ((x0 &&& (255 : Int32)) ||| ((x1 &&& (255 : Int32)) <<< ((8 : Int32) &&& 31))))])) _
    exact k
  obtain ⟨fs, hr, hrun, hended, hW, hsame⟩ := X0.leave (v := some (.int ((x0 &&& (255 : Int32)) ||| ((x1 &&& (255 : Int32)) <<< ((8 : Int32) &&& 31))))) (fun h => by rw [Bd.returns] at h; cases h)
  refine ⟨_, _, pre7 _ ?_, hrun, hended, _, _, rfl, ?_, ⟨_, rfl⟩, hW, hsame.mono (by decide) (by decide)⟩
  · exact retI X0 hx Bd.returns (hb hby d2_20) hr
  · show Q_rm2 Z a1 p2 k z vs dv x0 x1 h0 n0 _ s₁.heap _
    rw [e0]
    exact ⟨rfl, N0, rfl⟩
def own_sh (x0 x1 : Int32) : Int32 := ((x0 &&& (255 : Int32)) ||| ((x1 &&& (255 : Int32)) <<< ((8 : Int32) &&& 31)))
def own_int (x0 x1 x2 x3 : Int32) : Int64 := ((own_sh x0 x1).toInt64) ||| (((own_sh x2 x3).toInt64) <<< ((16 : Int32) &&& 0x3f).toInt64)
theorem d1_0 : decode prog_16_method_33_code 0 = .ok (.aload_n 0, 1) := by decide +kernel
theorem d1_1 : decode prog_16_method_33_code 1 = .ok (.iload_n 1, 1) := by decide +kernel
theorem pd_0 : parseMethodDescriptor "([BI)I" = some ⟨[(.array .byte), .int], some .int⟩ := by decide +kernel
theorem d1_2 : decode prog_16_method_33_code 2 = .ok (.invokestatic 180, 3) := by decide +kernel
theorem d1_5 : decode prog_16_method_33_code 5 = .ok (.i2l, 1) := by decide +kernel
theorem d1_6 : decode prog_16_method_33_code 6 = .ok (.aload_n 0, 1) := by decide +kernel
theorem d1_7 : decode prog_16_method_33_code 7 = .ok (.iload_n 1, 1) := by decide +kernel
theorem d1_8 : decode prog_16_method_33_code 8 = .ok (.iconst 2, 1) := by decide +kernel
theorem d1_9 : decode prog_16_method_33_code 9 = .ok (.iadd, 1) := by decide +kernel
theorem d1_10 : decode prog_16_method_33_code 10 = .ok (.invokestatic 180, 3) := by decide +kernel
theorem d1_13 : decode prog_16_method_33_code 13 = .ok (.i2l, 1) := by decide +kernel
theorem d1_14 : decode prog_16_method_33_code 14 = .ok (.bipush 16, 2) := by decide +kernel
theorem d1_16 : decode prog_16_method_33_code 16 = .ok (.lshl, 1) := by decide +kernel
theorem d1_17 : decode prog_16_method_33_code 17 = .ok (.lor, 1) := by decide +kernel
theorem d1_18 : decode prog_16_method_33_code 18 = .ok (.lreturn, 1) := by decide +kernel
theorem ef_rm1 (m : MethodId) (x0 : Addr) (x1 : Int32) : entryFrame m #[(.ref x0), (.int x1)] 2 = mkF m 0 #[.val (.ref x0), .val (.int x1)] [] := by first | (simp [entryFrame, mkF, argsToLocals, Value.category]; done) | rfl
def Q_rm1 (Z : State) (a1 : Addr) (p2 : Int32) (k : ClassId) (z : Int32) (vs : List Value) (dv : Value) (x0 : Int32) (x1 : Int32) (x2 : Int32) (x3 : Int32) (h0 : Heap) (n0 : Nat) (v : Option Value) (h : Heap) (L : List Loc) : Prop := v = some (.long (own_int x0 x1 x2 x3)) ∧ Fr n0 L ∧ h = h0
set_option maxRecDepth 65536 in
set_option maxHeartbeats 40000000 in
theorem rm1 (l : Launch) (Z : State) (a0 : Array Value) (hw : ∀ d ∈ tables_1, d.before a0 Z = true) (ws : List Jvm.Cond) (a1 : Addr) (p2 : Int32) (k : ClassId) (z : Int32) (vs : List Value) (dv : Value) (x0 : Int32) (x1 : Int32) (x2 : Int32) (x3 : Int32) (h0 : Heap) (n0 : Nat) (Z0 : n0 ≤ h0.size) (V1 : Arv Z h0 a1 k .byte z vs dv) (hin0 : ¬ p2 < 0 ∧ p2 < z) (hat0 : vs.getD (p2).toNatClampNeg dv = (.int x0)) (hin1 : ¬ (p2 + (1 : Int32)) < 0 ∧ (p2 + (1 : Int32)) < z) (hat1 : vs.getD ((p2 + (1 : Int32))).toNatClampNeg dv = (.int x1)) (hin2 : ¬ (p2 + (2 : Int32)) < 0 ∧ (p2 + (2 : Int32)) < z) (hat2 : vs.getD ((p2 + (2 : Int32))).toNatClampNeg dv = (.int x2)) (hin3 : ¬ ((p2 + (2 : Int32)) + (1 : Int32)) < 0 ∧ ((p2 + (2 : Int32)) + (1 : Int32)) < z) (hat3 : vs.getD (((p2 + (2 : Int32)) + (1 : Int32))).toNatClampNeg dv = (.int x3)) :
    MetFree l (⟨"com/example/blockflate/blockflate/Layout", "getUnsignedInt", "([BI)J"⟩ : MethodName) (head1 (Jvm.Cond.code (⟨"com/example/blockflate/blockflate/Layout", "getUnsignedInt", "([BI)J"⟩ : MethodName) prog_16_method_33_code 2 (some .long) :: ws) ({ frames := 1, cells := 0, slots := 0, locals := 15 } : Room)) (fun a U => a = #[(.ref a1), (.int p2)] ∧ Z.Warmed39 U.vm ∧ U.heap = h0) (fun _ _ _ _ _ => True) (fun _ U o U' => ∃ v L, o = .returned v ∧ Q_rm1 Z a1 p2 k z vs dv x0 x1 x2 x3 h0 n0 v U'.heap L ∧ FrameEnd U o U' L ({ frames := 1, cells := 0, slots := 0, locals := 15 } : Room).cells ({ frames := 1, cells := 0, slots := 0, locals := 15 } : Room).slots) := by
  refine MetFree.of_bodySF (plainFor_of_name pn_0) hisR ?_
  intro p e s m args below meth c s₁ Bd hml0 hP hK
  obtain ⟨rfl, hZ, hh⟩ := hP
  have hx := Bd.exec
  have hby := Bd.bytes
  have hml : c.maxLocals = 2 := hml0
  have hown : s.vm.findClass "com/example/blockflate/blockflate/Layout" = some m.cls := findClass_of_methodNamed Bd.named
  have hnm := (name_of_methodNamed Bd.named Bd.method).1
  have X0 : Stand p l e ({ frames := 1, cells := 0, slots := 0, locals := 15 } : Room) s m #[(.ref a1), (.int p2)] below meth c s₁ [] 0 0 := Stand.of_body Bd
  have e0 : s₁.heap = h0 := by rw [← hh, Bd.state]; rfl
  have N0 := Fr.nil n0
  have pre0 : ∀ t, Steps p.tables e below (s₁.setTop (mkF m 0 #[.val (.ref a1), .val (.int p2)] [])) t → Steps p.tables e below (s₁.setTop (entryFrame m #[(.ref a1), (.int p2)] 2)) t := fun t k => castTop (ef_rm1 m a1 p2) k
  obtain ⟨_, _, ⟨T1, L1, k1, n1⟩, -, X1, ⟨Lc1, hQ1, l1, y1, z1⟩, st1⟩ := Jvm.LawKit.callS X0 hx (y := (⟨"com/example/blockflate/blockflate/Layout", "getUnsignedShort", "([BI)I"⟩ : MethodName)) hown (mvT hZ (hw _ (List.mem_of_getElem? (i := 7) rfl))) (mvT hZ (hw _ (List.mem_of_getElem? (i := 8) rfl))) (mvT hZ (hw _ (List.mem_of_getElem? (i := 5) rfl))) (mvT hZ (hw _ (List.mem_of_getElem? (i := 9) rfl))) (by decide) (backOf (W := 0) (rm2 l Z a0 hw [] a1 p2 k z vs dv x0 x1 h0 n0 Z0 V1 hin0 hat0 hin1 hat1) hZ (hw _ (List.mem_of_getElem? (i := 9) rfl)) (hw _ (List.mem_of_getElem? (i := 5) rfl)) (by decide) (by decide)) (g := (mkF m 2 #[.val (.ref a1), .val (.int p2)] [(.int p2), (.ref a1)])) rfl (by rw [hml]; rfl) (argsL := [(.ref a1), (.int p2)]) (rest := []) (lenOf pd_0 rfl) rfl (by show 2 * 0 + _ ≤ _; exact Nat.le_of_eq rfl) (hb hby d1_2) (fun _ _ => ⟨rfl, e0, (by decide : 0 + 0 ≤ _), (by decide : 0 + 0 ≤ _)⟩)
  dsimp only [Pt.U, Pt.locs, Pt.cells, Pt.slots] at X1 l1 y1 z1 st1 hQ1
  subst l1 y1 z1
  obtain ⟨rfl, Nq1, q1_0⟩ := hQ1
  have N2 := Fr.app N0 Nq1
  obtain ⟨_, _, ⟨T3, L3, k3, n3⟩, -, X3, ⟨Lc3, hQ3, l3, y3, z3⟩, st3⟩ := Jvm.LawKit.callS X1 hx (y := (⟨"com/example/blockflate/blockflate/Layout", "getUnsignedShort", "([BI)I"⟩ : MethodName)) hown (mvT hZ (hw _ (List.mem_of_getElem? (i := 7) rfl))) (mvT hZ (hw _ (List.mem_of_getElem? (i := 8) rfl))) (mvT hZ (hw _ (List.mem_of_getElem? (i := 5) rfl))) (mvT hZ (hw _ (List.mem_of_getElem? (i := 9) rfl))) (by decide) (backOf (W := 2) (rm2 l Z a0 hw [] a1 (p2 + (2 : Int32)) k z vs dv x2 x3 h0 n0 Z0 V1 hin2 hat2 hin3 hat3) hZ (hw _ (List.mem_of_getElem? (i := 9) rfl)) (hw _ (List.mem_of_getElem? (i := 5) rfl)) (by decide) (by decide)) (g := (mkF m 10 #[.val (.ref a1), .val (.int p2)] [(.int (p2 + (2 : Int32))), (.ref a1), (.long (((x0 &&& (255 : Int32)) ||| ((x1 &&& (255 : Int32)) <<< ((8 : Int32) &&& 31))).toInt64))])) rfl (by rw [hml]; rfl) (argsL := [(.ref a1), (.int (p2 + (2 : Int32)))]) (rest := [(.long (((x0 &&& (255 : Int32)) ||| ((x1 &&& (255 : Int32)) <<< ((8 : Int32) &&& 31))).toInt64))]) (lenOf pd_0 rfl) rfl (by show 2 * 0 + _ ≤ _; exact Nat.le_of_eq rfl) (hb hby d1_10) (fun _ _ => ⟨rfl, q1_0, (by decide : 0 + 0 ≤ _), (by decide : 0 + 0 ≤ _)⟩)
  dsimp only [Pt.U, Pt.locs, Pt.cells, Pt.slots] at X3 l3 y3 z3 st3 hQ3
  subst l3 y3 z3
  obtain ⟨rfl, Nq3, q3_0⟩ := hQ3
  have N4 := Fr.app N2 Nq3
  have pre5 : ∀ t, Steps p.tables e below (T3.setTop (mkF m 18 #[.val (.ref a1), .val (.int p2)] [(.long ((((x0 &&& (255 : Int32)) ||| ((x1 &&& (255 : Int32)) <<< ((8 : Int32) &&& 31))).toInt64) ||| ((((x2 &&& (255 : Int32)) ||| ((x3 &&& (255 : Int32)) <<< ((8 : Int32) &&& 31))).toInt64) <<< ((16 : Int32) &&& 0x3f).toInt64)))])) t → Steps p.tables e below (s₁.setTop (entryFrame m #[(.ref a1), (.int p2)] 2)) t := by
    intro t k
    refine pre0 t ?_
    refine XS.aloadN X0.here hx rfl (hb hby d1_0) rfl rfl ?_
    show Steps _ _ _ (s₁.setTop (mkF m 1 #[.val (.ref a1), .val (.int p2)] [(.ref a1)])) _
    refine XS.iloadN X0.here hx rfl (hb hby d1_1) rfl ?_
    show Steps _ _ _ (s₁.setTop (mkF m 2 #[.val (.ref a1), .val (.int p2)] [(.int p2), (.ref a1)])) _
    refine st1 _ ?_
    show Steps _ _ _ (T1.setTop (mkF m 5 #[.val (.ref a1), .val (.int p2)] [(.int ((x0 &&& (255 : Int32)) ||| ((x1 &&& (255 : Int32)) <<< ((8 : Int32) &&& 31))))])) _
    refine XS.i2l X1.here hx rfl (hb hby d1_5) rfl ?_
    show Steps _ _ _ (T1.setTop (mkF m 6 #[.val (.ref a1), .val (.int p2)] [(.long (((x0 &&& (255 : Int32)) ||| ((x1 &&& (255 : Int32)) <<< ((8 : Int32) &&& 31))).toInt64))])) _
    refine XS.aloadN X1.here hx rfl (hb hby d1_6) rfl rfl ?_
    show Steps _ _ _ (T1.setTop (mkF m 7 #[.val (.ref a1), .val (.int p2)] [(.ref a1), (.long (((x0 &&& (255 : Int32)) ||| ((x1 &&& (255 : Int32)) <<< ((8 : Int32) &&& 31))).toInt64))])) _
    refine XS.iloadN X1.here hx rfl (hb hby d1_7) rfl ?_
    show Steps _ _ _ (T1.setTop (mkF m 8 #[.val (.ref a1), .val (.int p2)] [(.int p2), (.ref a1), (.long (((x0 &&& (255 : Int32)) ||| ((x1 &&& (255 : Int32)) <<< ((8 : Int32) &&& 31))).toInt64))])) _
    refine XS.iconst X1.here hx rfl (hb hby d1_8) ?_
    show Steps _ _ _ (T1.setTop (mkF m 9 #[.val (.ref a1), .val (.int p2)] [(.int (2 : Int32)), (.int p2), (.ref a1), (.long (((x0 &&& (255 : Int32)) ||| ((x1 &&& (255 : Int32)) <<< ((8 : Int32) &&& 31))).toInt64))])) _
    refine XS.iadd X1.here hx rfl (hb hby d1_9) rfl ?_
    show Steps _ _ _ (T1.setTop (mkF m 10 #[.val (.ref a1), .val (.int p2)] [(.int (p2 + (2 : Int32))), (.ref a1), (.long (((x0 &&& (255 : Int32)) ||| ((x1 &&& (255 : Int32)) <<< ((8 : Int32) &&& 31))).toInt64))])) _
    refine st3 _ ?_
    show Steps _ _ _ (T3.setTop (mkF m 13 #[.val (.ref a1), .val (.int p2)] [(.int ((x2 &&& (255 : Int32)) ||| ((x3 &&& (255 : Int32)) <<< ((8 : Int32) &&& 31)))), (.long (((x0 &&& (255 : Int32)) ||| ((x1 &&& (255 : Int32)) <<< ((8 : Int32) &&& 31))).toInt64))])) _
    refine XS.i2l X3.here hx rfl (hb hby d1_13) rfl ?_
    show Steps _ _ _ (T3.setTop (mkF m 14 #[.val (.ref a1), .val (.int p2)] [(.long (((x2 &&& (255 : Int32)) ||| ((x3 &&& (255 : Int32)) <<< ((8 : Int32) &&& 31))).toInt64)), (.long (((x0 &&& (255 : Int32)) ||| ((x1 &&& (255 : Int32)) <<< ((8 : Int32) &&& 31))).toInt64))])) _
    refine XS.bipush X3.here hx rfl (hb hby d1_14) ?_
    show Steps _ _ _ (T3.setTop (mkF m 16 #[.val (.ref a1), .val (.int p2)] [(.int (16 : Int32)), (.long (((x2 &&& (255 : Int32)) ||| ((x3 &&& (255 : Int32)) <<< ((8 : Int32) &&& 31))).toInt64)), (.long (((x0 &&& (255 : Int32)) ||| ((x1 &&& (255 : Int32)) <<< ((8 : Int32) &&& 31))).toInt64))])) _
    refine XS.lshl X3.here hx rfl (hb hby d1_16) rfl ?_
    show Steps _ _ _ (T3.setTop (mkF m 17 #[.val (.ref a1), .val (.int p2)] [(.long ((((x2 &&& (255 : Int32)) ||| ((x3 &&& (255 : Int32)) <<< ((8 : Int32) &&& 31))).toInt64) <<< ((16 : Int32) &&& 0x3f).toInt64)), (.long (((x0 &&& (255 : Int32)) ||| ((x1 &&& (255 : Int32)) <<< ((8 : Int32) &&& 31))).toInt64))])) _
    refine XS.lor X3.here hx rfl (hb hby d1_17) rfl ?_
    show Steps _ _ _ (T3.setTop (mkF m 18 #[.val (.ref a1), .val (.int p2)] [(.long ((((x0 &&& (255 : Int32)) ||| ((x1 &&& (255 : Int32)) <<< ((8 : Int32) &&& 31))).toInt64) ||| ((((x2 &&& (255 : Int32)) ||| ((x3 &&& (255 : Int32)) <<< ((8 : Int32) &&& 31))).toInt64) <<< ((16 : Int32) &&& 0x3f).toInt64)))])) _
    exact k
  obtain ⟨fs, hr, hrun, hended, hW, hsame⟩ := X3.leave (v := some (.long ((((x0 &&& (255 : Int32)) ||| ((x1 &&& (255 : Int32)) <<< ((8 : Int32) &&& 31))).toInt64) ||| ((((x2 &&& (255 : Int32)) ||| ((x3 &&& (255 : Int32)) <<< ((8 : Int32) &&& 31))).toInt64) <<< ((16 : Int32) &&& 0x3f).toInt64)))) (fun h => by rw [Bd.returns] at h; cases h)
  refine ⟨_, _, pre5 _ ?_, hrun, hended, _, _, rfl, ?_, ⟨_, rfl⟩, hW, hsame.mono (by decide) (by decide)⟩
  · exact X3.lreturnOut hx Bd.returns (hb hby d1_18) hr
  · show Q_rm1 Z a1 p2 k z vs dv x0 x1 x2 x3 h0 n0 _ T3.heap _
    rw [q3_0]
    have hv6 : ((((x0 &&& (255 : Int32)) ||| ((x1 &&& (255 : Int32)) <<< ((8 : Int32) &&& 31))).toInt64) ||| ((((x2 &&& (255 : Int32)) ||| ((x3 &&& (255 : Int32)) <<< ((8 : Int32) &&& 31))).toInt64) <<< ((16 : Int32) &&& 0x3f).toInt64)) = (own_int x0 x1 x2 x3) := rfl
    exact ⟨(congrArg (fun z => some (Value.long z)) hv6), N4, rfl⟩
def own_pos (p2 : Int32) : Int32 := ((p2 &&& (2147483647 : Int32)) - ((p2 &&& (2147483647 : Int32)) / (5 : Int32)) * (5 : Int32))
theorem own_posc (p : Int32) : own_pos p = 0 ∨ own_pos p = 1 ∨ own_pos p = 2 ∨ own_pos p = 3 ∨ own_pos p = 4 := by
  have m := c_mask p (2147483647 : Int32) 31 (by decide) (by decide)
  have e : (own_pos p).toInt = (p &&& (2147483647 : Int32)).toInt % 5 := by
    unfold own_pos
    generalize (p &&& (2147483647 : Int32)) = s at *
    have d := (c_idiv s 5 5 rfl (by decide)).1 (by omega)
    have mu := c_imul (s / 5) 5
    have mr := rng32 (s / 5 * 5)
    have l5 : (5 : Int32).toInt = 5 := rfl
    rw [l5, d] at mu
    have su := c_isub s (s / 5 * 5)
    have sr := rng32 (s - s / 5 * 5)
    have r := rng32 s
    omega
  have t : (own_pos p).toInt = 0 ∨ (own_pos p).toInt = 1 ∨ (own_pos p).toInt = 2 ∨ (own_pos p).toInt = 3 ∨ (own_pos p).toInt = 4 := by omega
  rcases t with t | t | t | t | t
  · exact Or.inl (Int32.toInt_inj.mp t)
  · exact Or.inr (Or.inl (Int32.toInt_inj.mp t))
  · exact Or.inr (Or.inr (Or.inl (Int32.toInt_inj.mp t)))
  · exact Or.inr (Or.inr (Or.inr (Or.inl (Int32.toInt_inj.mp t))))
  · exact Or.inr (Or.inr (Or.inr (Or.inr (Int32.toInt_inj.mp t))))
def own_vs (q1 : Int64) : List Value := [(.int ((q1.toInt32).toInt8.toInt32).toInt8.toInt32), (.int ((((q1.toUInt64 >>> ((8 : Int32) &&& 0x3f).toInt64.toUInt64).toInt64).toInt32).toInt8.toInt32).toInt8.toInt32), (.int ((((q1.toUInt64 >>> ((16 : Int32) &&& 0x3f).toInt64.toUInt64).toInt64).toInt32).toInt8.toInt32).toInt8.toInt32), (.int ((((q1.toUInt64 >>> ((24 : Int32) &&& 0x3f).toInt64.toUInt64).toInt64).toInt32).toInt8.toInt32).toInt8.toInt32), (.int ((((q1.toUInt64 >>> ((32 : Int32) &&& 0x3f).toInt64.toUInt64).toInt64).toInt32).toInt8.toInt32).toInt8.toInt32), (.int ((((q1.toUInt64 >>> ((40 : Int32) &&& 0x3f).toInt64.toUInt64).toInt64).toInt32).toInt8.toInt32).toInt8.toInt32), (.int ((((q1.toUInt64 >>> ((48 : Int32) &&& 0x3f).toInt64.toUInt64).toInt64).toInt32).toInt8.toInt32).toInt8.toInt32), (.int ((((q1.toUInt64 >>> ((56 : Int32) &&& 0x3f).toInt64.toUInt64).toInt64).toInt32).toInt8.toInt32).toInt8.toInt32)]
def own_b (q1 : Int64) (j : Int32) : Int32 := match (own_vs q1).getD j.toNatClampNeg (.int 0) with
  | .int x => x
  | _ => 0
theorem own_at (q1 : Int64) (j : Int32) (h : j = 0 ∨ j = 1 ∨ j = 2 ∨ j = 3 ∨ j = 4 ∨ j = 5 ∨ j = 6 ∨ j = 7) : (¬ j < 0 ∧ j < 8) ∧ (own_vs q1).getD j.toNatClampNeg (.int (0 : Int32)) = .int (own_b q1 j) := by
  rcases h with rfl | rfl | rfl | rfl | rfl | rfl | rfl | rfl <;> exact ⟨⟨by decide, by decide⟩, rfl⟩
theorem own_j0 (p : Int32) : own_pos p = 0 ∨ own_pos p = 1 ∨ own_pos p = 2 ∨ own_pos p = 3 ∨ own_pos p = 4 ∨ own_pos p = 5 ∨ own_pos p = 6 ∨ own_pos p = 7 := by
  rcases own_posc p with e | e | e | e | e <;> rw [e] <;> decide
theorem own_j1 (p : Int32) : own_pos p + 1 = 0 ∨ own_pos p + 1 = 1 ∨ own_pos p + 1 = 2 ∨ own_pos p + 1 = 3 ∨ own_pos p + 1 = 4 ∨ own_pos p + 1 = 5 ∨ own_pos p + 1 = 6 ∨ own_pos p + 1 = 7 := by
  rcases own_posc p with e | e | e | e | e <;> rw [e] <;> decide
theorem own_j2 (p : Int32) : own_pos p + 2 = 0 ∨ own_pos p + 2 = 1 ∨ own_pos p + 2 = 2 ∨ own_pos p + 2 = 3 ∨ own_pos p + 2 = 4 ∨ own_pos p + 2 = 5 ∨ own_pos p + 2 = 6 ∨ own_pos p + 2 = 7 := by
  rcases own_posc p with e | e | e | e | e <;> rw [e] <;> decide
theorem own_j3 (p : Int32) : own_pos p + 2 + 1 = 0 ∨ own_pos p + 2 + 1 = 1 ∨ own_pos p + 2 + 1 = 2 ∨ own_pos p + 2 + 1 = 3 ∨ own_pos p + 2 + 1 = 4 ∨ own_pos p + 2 + 1 = 5 ∨ own_pos p + 2 + 1 = 6 ∨ own_pos p + 2 + 1 = 7 := by
  rcases own_posc p with e | e | e | e | e <;> rw [e] <;> decide
/-! the plain law -/
theorem own_byte (x : Int32) : (x.toInt8.toInt32 &&& (255 : Int32)).toInt = x.toInt % 256 := by
  have m := c_mask x.toInt8.toInt32 (255 : Int32) 8 (by decide) (by decide)
  have b := c_i2b x
  omega
theorem own_b0 (q : Int64) : ((q.toInt32).toInt8.toInt32 &&& (255 : Int32)).toInt = q.toInt % 18446744073709551616 % 256 := by
  have := own_byte q.toInt32; have := c_l2i q; omega
theorem own_bk (q : Int64) (c : Int32) (k : Nat) (hk : c.toBitVec.toNat % 64 = k) (h0 : 0 < k) : (((((q.toUInt64 >>> (c &&& 0x3f).toInt64.toUInt64).toInt64).toInt32).toInt8.toInt32) &&& (255 : Int32)).toInt = q.toInt % 18446744073709551616 / (2 ^ k : Nat) % 256 := by
  have a := own_byte ((q.toUInt64 >>> (c &&& 0x3f).toInt64.toUInt64).toInt64).toInt32
  have b := c_l2i ((q.toUInt64 >>> (c &&& 0x3f).toInt64.toUInt64).toInt64)
  have d := c_lushr q c k hk h0
  rw [a]; omega
theorem own_shv (x0 x1 : Int32) (a b : Int) (h0 : (x0 &&& (255 : Int32)).toInt = a) (h1 : (x1 &&& (255 : Int32)).toInt = b) (ra : 0 ≤ a ∧ a < 256) (rb : 0 ≤ b ∧ b < 256) : (own_sh x0 x1).toInt = a + 256 * b := by
  unfold own_sh
  have s := c_ishl (x1 &&& (255 : Int32)) (8 : Int32) 8 (by decide)
  have sr := rng32 ((x1 &&& (255 : Int32)) <<< ((8 : Int32) &&& 31))
  have e : ((x1 &&& (255 : Int32)) <<< ((8 : Int32) &&& 31)).toInt = 256 * b := by rw [h1] at s; simp only [Nat.reducePow] at s; omega
  have o := c_or' (x0 &&& (255 : Int32)) ((x1 &&& (255 : Int32)) <<< ((8 : Int32) &&& 31)) 8 (by decide) 256 (by decide) (by omega) (by omega) (by omega)
  have r := rng32 ((x0 &&& (255 : Int32)) ||| ((x1 &&& (255 : Int32)) <<< ((8 : Int32) &&& 31)))
  omega
theorem own_intv (x0 x1 x2 x3 : Int32) (a b c d : Int) (h0 : (x0 &&& (255 : Int32)).toInt = a) (h1 : (x1 &&& (255 : Int32)).toInt = b) (h2 : (x2 &&& (255 : Int32)).toInt = c) (h3 : (x3 &&& (255 : Int32)).toInt = d)
    (ra : 0 ≤ a ∧ a < 256) (rb : 0 ≤ b ∧ b < 256) (rc : 0 ≤ c ∧ c < 256) (rd : 0 ≤ d ∧ d < 256) : (own_int x0 x1 x2 x3).toInt = a + 256 * b + 65536 * c + 16777216 * d := by
  unfold own_int
  have p := own_shv x0 x1 a b h0 h1 ra rb
  have q := own_shv x2 x3 c d h2 h3 rc rd
  have p' := c_i2l (own_sh x0 x1)
  have q' := c_i2l (own_sh x2 x3)
  generalize (own_sh x0 x1).toInt64 = X at *
  generalize (own_sh x2 x3).toInt64 = Y at *
  have s := c_lshl Y (16 : Int32) 16 (by decide)
  have sr := rng64 (Y <<< ((16 : Int32) &&& 0x3f).toInt64)
  simp only [Nat.reducePow] at s
  have e : (Y <<< ((16 : Int32) &&& 0x3f).toInt64).toInt = 65536 * (c + 256 * d) := by omega
  have o := c_orL' X (Y <<< ((16 : Int32) &&& 0x3f).toInt64) 16 (by decide) 65536 (by decide) (by omega) (by omega) (by omega)
  have r := rng64 (X ||| (Y <<< ((16 : Int32) &&& 0x3f).toInt64))
  omega

theorem own_bv0 (q1 : Int64) : (own_b q1 0 &&& (255 : Int32)).toInt = q1.toInt % 18446744073709551616 % 256 := by
  show (((q1.toInt32).toInt8.toInt32).toInt8.toInt32 &&& (255 : Int32)).toInt = _
  rw [own_byte]
  have b := c_i2b (q1.toInt32)
  have l := c_l2i q1
  omega
theorem own_bv1 (q1 : Int64) : (own_b q1 1 &&& (255 : Int32)).toInt = q1.toInt % 18446744073709551616 / 256 % 256 := by
  show (((((q1.toUInt64 >>> ((8 : Int32) &&& 0x3f).toInt64.toUInt64).toInt64).toInt32).toInt8.toInt32).toInt8.toInt32 &&& (255 : Int32)).toInt = _
  rw [own_byte]
  have b := c_i2b (((q1.toUInt64 >>> ((8 : Int32) &&& 0x3f).toInt64.toUInt64).toInt64).toInt32)
  have l := c_l2i ((q1.toUInt64 >>> ((8 : Int32) &&& 0x3f).toInt64.toUInt64).toInt64)
  have d := c_lushr q1 (8 : Int32) 8 (by decide) (by decide)
  simp only [Nat.reducePow] at d
  omega
theorem own_bv2 (q1 : Int64) : (own_b q1 2 &&& (255 : Int32)).toInt = q1.toInt % 18446744073709551616 / 65536 % 256 := by
  show (((((q1.toUInt64 >>> ((16 : Int32) &&& 0x3f).toInt64.toUInt64).toInt64).toInt32).toInt8.toInt32).toInt8.toInt32 &&& (255 : Int32)).toInt = _
  rw [own_byte]
  have b := c_i2b (((q1.toUInt64 >>> ((16 : Int32) &&& 0x3f).toInt64.toUInt64).toInt64).toInt32)
  have l := c_l2i ((q1.toUInt64 >>> ((16 : Int32) &&& 0x3f).toInt64.toUInt64).toInt64)
  have d := c_lushr q1 (16 : Int32) 16 (by decide) (by decide)
  simp only [Nat.reducePow] at d
  omega
theorem own_bv3 (q1 : Int64) : (own_b q1 3 &&& (255 : Int32)).toInt = q1.toInt % 18446744073709551616 / 16777216 % 256 := by
  show (((((q1.toUInt64 >>> ((24 : Int32) &&& 0x3f).toInt64.toUInt64).toInt64).toInt32).toInt8.toInt32).toInt8.toInt32 &&& (255 : Int32)).toInt = _
  rw [own_byte]
  have b := c_i2b (((q1.toUInt64 >>> ((24 : Int32) &&& 0x3f).toInt64.toUInt64).toInt64).toInt32)
  have l := c_l2i ((q1.toUInt64 >>> ((24 : Int32) &&& 0x3f).toInt64.toUInt64).toInt64)
  have d := c_lushr q1 (24 : Int32) 24 (by decide) (by decide)
  simp only [Nat.reducePow] at d
  omega
theorem own_bv4 (q1 : Int64) : (own_b q1 4 &&& (255 : Int32)).toInt = q1.toInt % 18446744073709551616 / 4294967296 % 256 := by
  show (((((q1.toUInt64 >>> ((32 : Int32) &&& 0x3f).toInt64.toUInt64).toInt64).toInt32).toInt8.toInt32).toInt8.toInt32 &&& (255 : Int32)).toInt = _
  rw [own_byte]
  have b := c_i2b (((q1.toUInt64 >>> ((32 : Int32) &&& 0x3f).toInt64.toUInt64).toInt64).toInt32)
  have l := c_l2i ((q1.toUInt64 >>> ((32 : Int32) &&& 0x3f).toInt64.toUInt64).toInt64)
  have d := c_lushr q1 (32 : Int32) 32 (by decide) (by decide)
  simp only [Nat.reducePow] at d
  omega
theorem own_bv5 (q1 : Int64) : (own_b q1 5 &&& (255 : Int32)).toInt = q1.toInt % 18446744073709551616 / 1099511627776 % 256 := by
  show (((((q1.toUInt64 >>> ((40 : Int32) &&& 0x3f).toInt64.toUInt64).toInt64).toInt32).toInt8.toInt32).toInt8.toInt32 &&& (255 : Int32)).toInt = _
  rw [own_byte]
  have b := c_i2b (((q1.toUInt64 >>> ((40 : Int32) &&& 0x3f).toInt64.toUInt64).toInt64).toInt32)
  have l := c_l2i ((q1.toUInt64 >>> ((40 : Int32) &&& 0x3f).toInt64.toUInt64).toInt64)
  have d := c_lushr q1 (40 : Int32) 40 (by decide) (by decide)
  simp only [Nat.reducePow] at d
  omega
theorem own_bv6 (q1 : Int64) : (own_b q1 6 &&& (255 : Int32)).toInt = q1.toInt % 18446744073709551616 / 281474976710656 % 256 := by
  show (((((q1.toUInt64 >>> ((48 : Int32) &&& 0x3f).toInt64.toUInt64).toInt64).toInt32).toInt8.toInt32).toInt8.toInt32 &&& (255 : Int32)).toInt = _
  rw [own_byte]
  have b := c_i2b (((q1.toUInt64 >>> ((48 : Int32) &&& 0x3f).toInt64.toUInt64).toInt64).toInt32)
  have l := c_l2i ((q1.toUInt64 >>> ((48 : Int32) &&& 0x3f).toInt64.toUInt64).toInt64)
  have d := c_lushr q1 (48 : Int32) 48 (by decide) (by decide)
  simp only [Nat.reducePow] at d
  omega
theorem own_bv7 (q1 : Int64) : (own_b q1 7 &&& (255 : Int32)).toInt = q1.toInt % 18446744073709551616 / 72057594037927936 % 256 := by
  show (((((q1.toUInt64 >>> ((56 : Int32) &&& 0x3f).toInt64.toUInt64).toInt64).toInt32).toInt8.toInt32).toInt8.toInt32 &&& (255 : Int32)).toInt = _
  rw [own_byte]
  have b := c_i2b (((q1.toUInt64 >>> ((56 : Int32) &&& 0x3f).toInt64.toUInt64).toInt64).toInt32)
  have l := c_l2i ((q1.toUInt64 >>> ((56 : Int32) &&& 0x3f).toInt64.toUInt64).toInt64)
  have d := c_lushr q1 (56 : Int32) 56 (by decide) (by decide)
  simp only [Nat.reducePow] at d
  omega
theorem own_z (q1 : Int64) : ((q1.toUInt64 >>> (((8 : Int32) * 0) &&& 0x3f).toInt64.toUInt64).toInt64) = q1 := by
  have : (((8 : Int32) * 0) &&& 0x3f).toInt64.toUInt64 = 0 := by decide
  rw [this]; simp
set_option maxHeartbeats 4000000 in
theorem own_law (q1 : Int64) (p : Int32) : own_int (own_b q1 (own_pos p)) (own_b q1 (own_pos p + 1)) (own_b q1 (own_pos p + 2)) (own_b q1 (own_pos p + 2 + 1)) = (((q1.toUInt64 >>> (((8 : Int32) * own_pos p) &&& 0x3f).toInt64.toUInt64).toInt64) &&& (4294967295 : Int64)) := by
  rcases own_posc p with e | e | e | e | e <;> rw [e]
  · rw [show ((0 : Int32) + 1) = 1 from by decide, show ((0 : Int32) + 2) = 2 from by decide, show ((2 : Int32) + 1) = 3 from by decide]
    have e := own_intv _ _ _ _ _ _ _ _ (own_bv0 q1) (own_bv1 q1) (own_bv2 q1) (own_bv3 q1) (by omega) (by omega) (by omega) (by omega)
    have m := c_maskL ((q1.toUInt64 >>> (((8 : Int32) * 0) &&& 0x3f).toInt64.toUInt64).toInt64) (4294967295 : Int64) 32 (by decide) (by decide)
    have d : ((q1.toUInt64 >>> (((8 : Int32) * 0) &&& 0x3f).toInt64.toUInt64).toInt64) = q1 := own_z q1
    apply Int64.toInt_inj.mp
    rw [e, m]
    have r := rng64 q1
    simp only [Nat.reducePow]
    rw [d]
    omega
  · rw [show ((1 : Int32) + 1) = 2 from by decide, show ((1 : Int32) + 2) = 3 from by decide, show ((3 : Int32) + 1) = 4 from by decide]
    have e := own_intv _ _ _ _ _ _ _ _ (own_bv1 q1) (own_bv2 q1) (own_bv3 q1) (own_bv4 q1) (by omega) (by omega) (by omega) (by omega)
    have m := c_maskL ((q1.toUInt64 >>> (((8 : Int32) * 1) &&& 0x3f).toInt64.toUInt64).toInt64) (4294967295 : Int64) 32 (by decide) (by decide)
    have d := c_lushr q1 ((8 : Int32) * 1) 8 (by decide) (by decide)
    simp only [Nat.reducePow] at d
    apply Int64.toInt_inj.mp
    rw [e, m]
    have r := rng64 q1
    simp only [Nat.reducePow]
    rw [d]
    omega
  · rw [show ((2 : Int32) + 1) = 3 from by decide, show ((2 : Int32) + 2) = 4 from by decide, show ((4 : Int32) + 1) = 5 from by decide]
    have e := own_intv _ _ _ _ _ _ _ _ (own_bv2 q1) (own_bv3 q1) (own_bv4 q1) (own_bv5 q1) (by omega) (by omega) (by omega) (by omega)
    have m := c_maskL ((q1.toUInt64 >>> (((8 : Int32) * 2) &&& 0x3f).toInt64.toUInt64).toInt64) (4294967295 : Int64) 32 (by decide) (by decide)
    have d := c_lushr q1 ((8 : Int32) * 2) 16 (by decide) (by decide)
    simp only [Nat.reducePow] at d
    apply Int64.toInt_inj.mp
    rw [e, m]
    have r := rng64 q1
    simp only [Nat.reducePow]
    rw [d]
    omega
  · rw [show ((3 : Int32) + 1) = 4 from by decide, show ((3 : Int32) + 2) = 5 from by decide, show ((5 : Int32) + 1) = 6 from by decide]
    have e := own_intv _ _ _ _ _ _ _ _ (own_bv3 q1) (own_bv4 q1) (own_bv5 q1) (own_bv6 q1) (by omega) (by omega) (by omega) (by omega)
    have m := c_maskL ((q1.toUInt64 >>> (((8 : Int32) * 3) &&& 0x3f).toInt64.toUInt64).toInt64) (4294967295 : Int64) 32 (by decide) (by decide)
    have d := c_lushr q1 ((8 : Int32) * 3) 24 (by decide) (by decide)
    simp only [Nat.reducePow] at d
    apply Int64.toInt_inj.mp
    rw [e, m]
    have r := rng64 q1
    simp only [Nat.reducePow]
    rw [d]
    omega
  · rw [show ((4 : Int32) + 1) = 5 from by decide, show ((4 : Int32) + 2) = 6 from by decide, show ((6 : Int32) + 1) = 7 from by decide]
    have e := own_intv _ _ _ _ _ _ _ _ (own_bv4 q1) (own_bv5 q1) (own_bv6 q1) (own_bv7 q1) (by omega) (by omega) (by omega) (by omega)
    have m := c_maskL ((q1.toUInt64 >>> (((8 : Int32) * 4) &&& 0x3f).toInt64.toUInt64).toInt64) (4294967295 : Int64) 32 (by decide) (by decide)
    have d := c_lushr q1 ((8 : Int32) * 4) 32 (by decide) (by decide)
    simp only [Nat.reducePow] at d
    apply Int64.toInt_inj.mp
    rw [e, m]
    have r := rng64 q1
    simp only [Nat.reducePow]
    rw [d]
    omega
theorem pd_1 : parseMethodDescriptor "([BI)J" = some ⟨[(.array .byte), .int], some .long⟩ := by decide +kernel
theorem pn_1 : plainName "com/example/blockflate/blockflate/LayoutGetUnsignedIntPinLaw" = true := by first | (simp [plainName, overriddenIn]; done) | decide +kernel
theorem ef_rm0 (m : MethodId) (x0 : Int64) (x1 : Int32) : entryFrame m #[(.long x0), (.int x1)] maxLocals = mkF m 0 #[.val (.long x0), .second, .val (.int x1), .unset, .unset, .unset, .unset, .unset, .unset] [] := by first | (simp [entryFrame, mkF, argsToLocals, Value.category, maxLocals]; done) | rfl
def Q_rm0 (Z : State) (q1 : Int64) (p2 : Int32) (h0 : Heap) (n0 : Nat) (v : Option Value) (h : Heap) (L : List Loc) : Prop := v = some (.int (1 : Int32)) ∧ Fr n0 L ∧ Keep h0 h []
set_option maxRecDepth 65536 in
set_option maxHeartbeats 40000000 in
theorem rm0 (l : Launch) (Z : State) (a0 : Array Value) (hw : ∀ d ∈ tables_1, d.before a0 Z = true) (ws : List Jvm.Cond) (q1 : Int64) (p2 : Int32) (h0 : Heap) (n0 : Nat) (Z0 : n0 ≤ h0.size) :
    MetFree l x (head1 (Jvm.Cond.code x code maxLocals ret :: ws) room_1) (fun a U => a = #[(.long q1), (.int p2)] ∧ Z.Warmed39 U.vm ∧ U.heap = h0) (fun _ _ _ _ _ => True) (fun _ U o U' => ∃ v L, o = .returned v ∧ Q_rm0 Z q1 p2 h0 n0 v U'.heap L ∧ FrameEnd U o U' L room_1.cells room_1.slots) := by
  refine MetFree.of_bodySF (plainFor_of_name pn_1) hisR ?_
  intro p e s m args below meth c s₁ Bd hml0 hP hK
  obtain ⟨rfl, hZ, hh⟩ := hP
  have hx := Bd.exec
  have hby := Bd.bytes
  have hml : c.maxLocals = 9 := hml0
  have hown : s.vm.findClass "com/example/blockflate/blockflate/LayoutGetUnsignedIntPinLaw" = some m.cls := findClass_of_methodNamed Bd.named
  have hnm := (name_of_methodNamed Bd.named Bd.method).1
  have X0 : Stand p l e room_1 s m #[(.long q1), (.int p2)] below meth c s₁ [] 0 0 := Stand.of_body Bd
  have e0 : s₁.heap = h0 := by rw [← hh, Bd.state]; rfl
  have N0 := Fr.nil n0
  have pre0 : ∀ t, Steps p.tables e below (s₁.setTop (mkF m 0 #[.val (.long q1), .second, .val (.int p2), .unset, .unset, .unset, .unset, .unset, .unset] [])) t → Steps p.tables e below (s₁.setTop (entryFrame m #[(.long q1), (.int p2)] maxLocals)) t := fun t k => castTop (ef_rm0 m q1 p2) k
  obtain ⟨T1, h1, k1, X1, e1, E1, A1, st1⟩ := newP X0 hx hZ (hw _ (List.mem_of_getElem? (i := 0) rfl)) e0 (g := (mkF m 2 #[.val (.long q1), .second, .val (.int p2), .unset, .unset, .unset, .unset, .unset, .unset] [(.int (8 : Int32))])) rfl (hb hby at_2) rfl (by decide) (cap := 8) (by decide) (by decide) (by decide) (by decide)
  obtain ⟨b1, g1⟩ : ∃ z, z = h0.size := ⟨_, rfl⟩
  rw [← g1] at A1 st1
  have ge2 : n0 ≤ b1 := Nat.le_trans Z0 (Nat.le_of_eq g1.symm)
  have sz3 : h0.size ≤ b1 := Nat.le_trans (Keep.refl h0 []).1 (Nat.le_of_eq g1.symm)
  have KC4 : Keep h0 h1 [] := (Keep.refl h0 []).ext E1
  have V1 : Arv Z h1 b1 k1 .byte (8 : Int32) [(.int (0 : Int32)), (.int (0 : Int32)), (.int (0 : Int32)), (.int (0 : Int32)), (.int (0 : Int32)), (.int (0 : Int32)), (.int (0 : Int32)), (.int (0 : Int32))] (.int (0 : Int32)) := (Arv.new A1 (by decide)).pad (pad_rep [] (.int (0 : Int32)) 8)
  obtain ⟨c5, Arc5, Aqc5, Asc5, Anc5, Ahc5, Agc5⟩ := id V1
  have hin6 : ¬ ((0 : Int32) < 0 ∨ c5.slots.size ≤ ((0 : Int32)).toNatClampNeg) := inb_of Asc5 ⟨by decide, by decide⟩
  obtain ⟨T7, h7, X7, e7, W7, st7⟩ := stB X1 hx hZ e1 Arc5 (j := (0 : Int32)) hin6 (g := (mkF m 10 #[.val (.long q1), .second, .val (.int p2), .val (.ref b1), .unset, .unset, .unset, .unset, .unset] [(.int ((q1.toInt32).toInt8.toInt32)), (.int (0 : Int32)), (.ref b1)])) rfl rfl (hb hby at_10)
  have KC8 : Keep h0 h7 [] := KC4.wr W7 (Or.inr sz3)
  have V7 : Arv Z h7 b1 k1 .byte (8 : Int32) [(.int ((q1.toInt32).toInt8.toInt32).toInt8.toInt32), (.int (0 : Int32)), (.int (0 : Int32)), (.int (0 : Int32)), (.int (0 : Int32)), (.int (0 : Int32)), (.int (0 : Int32)), (.int (0 : Int32))] (.int (0 : Int32)) := Arv.set Arc5 Aqc5 Asc5 Anc5 Ahc5 Agc5 (fits_nar_byte _) W7 0 rfl (Nat.le_of_ble_eq_true rfl)
  have N9 := Fr.snoc X7 N0 ge2
  obtain ⟨c10, Arc10, Aqc10, Asc10, Anc10, Ahc10, Agc10⟩ := id V7
  have hin11 : ¬ ((1 : Int32) < 0 ∨ c10.slots.size ≤ ((1 : Int32)).toNatClampNeg) := inb_of Asc10 ⟨by decide, by decide⟩
  obtain ⟨T12, h12, X12, e12, W12, st12⟩ := stB X7 hx hZ e7 Arc10 (j := (1 : Int32)) hin11 (g := (mkF m 19 #[.val (.long q1), .second, .val (.int p2), .val (.ref b1), .unset, .unset, .unset, .unset, .unset] [(.int ((((q1.toUInt64 >>> ((8 : Int32) &&& 0x3f).toInt64.toUInt64).toInt64).toInt32).toInt8.toInt32)), (.int (1 : Int32)), (.ref b1)])) rfl rfl (hb hby at_19)
  have KC13 : Keep h0 h12 [] := KC8.wr W12 (Or.inr sz3)
  have V12 : Arv Z h12 b1 k1 .byte (8 : Int32) [(.int ((q1.toInt32).toInt8.toInt32).toInt8.toInt32), (.int ((((q1.toUInt64 >>> ((8 : Int32) &&& 0x3f).toInt64.toUInt64).toInt64).toInt32).toInt8.toInt32).toInt8.toInt32), (.int (0 : Int32)), (.int (0 : Int32)), (.int (0 : Int32)), (.int (0 : Int32)), (.int (0 : Int32)), (.int (0 : Int32))] (.int (0 : Int32)) := Arv.set Arc10 Aqc10 Asc10 Anc10 Ahc10 Agc10 (fits_nar_byte _) W12 1 rfl (Nat.le_of_ble_eq_true rfl)
  have N14 := Fr.snoc X12 N9 ge2
  obtain ⟨c15, Arc15, Aqc15, Asc15, Anc15, Ahc15, Agc15⟩ := id V12
  have hin16 : ¬ ((2 : Int32) < 0 ∨ c15.slots.size ≤ ((2 : Int32)).toNatClampNeg) := inb_of Asc15 ⟨by decide, by decide⟩
  obtain ⟨T17, h17, X17, e17, W17, st17⟩ := stB X12 hx hZ e12 Arc15 (j := (2 : Int32)) hin16 (g := (mkF m 28 #[.val (.long q1), .second, .val (.int p2), .val (.ref b1), .unset, .unset, .unset, .unset, .unset] [(.int ((((q1.toUInt64 >>> ((16 : Int32) &&& 0x3f).toInt64.toUInt64).toInt64).toInt32).toInt8.toInt32)), (.int (2 : Int32)), (.ref b1)])) rfl rfl (hb hby at_28)
  have KC18 : Keep h0 h17 [] := KC13.wr W17 (Or.inr sz3)
  have V17 : Arv Z h17 b1 k1 .byte (8 : Int32) [(.int ((q1.toInt32).toInt8.toInt32).toInt8.toInt32), (.int ((((q1.toUInt64 >>> ((8 : Int32) &&& 0x3f).toInt64.toUInt64).toInt64).toInt32).toInt8.toInt32).toInt8.toInt32), (.int ((((q1.toUInt64 >>> ((16 : Int32) &&& 0x3f).toInt64.toUInt64).toInt64).toInt32).toInt8.toInt32).toInt8.toInt32), (.int (0 : Int32)), (.int (0 : Int32)), (.int (0 : Int32)), (.int (0 : Int32)), (.int (0 : Int32))] (.int (0 : Int32)) := Arv.set Arc15 Aqc15 Asc15 Anc15 Ahc15 Agc15 (fits_nar_byte _) W17 2 rfl (Nat.le_of_ble_eq_true rfl)
  have N19 := Fr.snoc X17 N14 ge2
  have pre20 : ∀ t, Steps p.tables e below (T17.setTop (mkF m 36 #[.val (.long q1), .second, .val (.int p2), .val (.ref b1), .unset, .unset, .unset, .unset, .unset] [(.int (((q1.toUInt64 >>> ((24 : Int32) &&& 0x3f).toInt64.toUInt64).toInt64).toInt32)), (.int (3 : Int32)), (.ref b1)])) t → Steps p.tables e below (s₁.setTop (entryFrame m #[(.long q1), (.int p2)] maxLocals)) t := by
    intro t k
    refine pre0 t ?_
    refine XS.bipush X0.here hx rfl (hb hby at_0) ?_
    show Steps _ _ _ (s₁.setTop (mkF m 2 #[.val (.long q1), .second, .val (.int p2), .unset, .unset, .unset, .unset, .unset, .unset] [(.int (8 : Int32))])) _
    refine st1 _ ?_
    show Steps _ _ _ (T1.setTop (mkF m 4 #[.val (.long q1), .second, .val (.int p2), .unset, .unset, .unset, .unset, .unset, .unset] [(.ref b1)])) _
    refine XS.astoreN X1.here hx rfl (hb hby at_4) rfl rfl (l' := #[.val (.long q1), .second, .val (.int p2), .val (.ref b1), .unset, .unset, .unset, .unset, .unset]) rfl ?_
    show Steps _ _ _ (T1.setTop (mkF m 5 #[.val (.long q1), .second, .val (.int p2), .val (.ref b1), .unset, .unset, .unset, .unset, .unset] [])) _
    refine XS.aloadN X1.here hx rfl (hb hby at_5) rfl rfl ?_
    show Steps _ _ _ (T1.setTop (mkF m 6 #[.val (.long q1), .second, .val (.int p2), .val (.ref b1), .unset, .unset, .unset, .unset, .unset] [(.ref b1)])) _
    refine XS.iconst X1.here hx rfl (hb hby at_6) ?_
    show Steps _ _ _ (T1.setTop (mkF m 7 #[.val (.long q1), .second, .val (.int p2), .val (.ref b1), .unset, .unset, .unset, .unset, .unset] [(.int (0 : Int32)), (.ref b1)])) _
    refine XS.lloadN X1.here hx rfl (hb hby at_7) rfl ?_
    show Steps _ _ _ (T1.setTop (mkF m 8 #[.val (.long q1), .second, .val (.int p2), .val (.ref b1), .unset, .unset, .unset, .unset, .unset] [(.long q1), (.int (0 : Int32)), (.ref b1)])) _
    refine XS.l2i X1.here hx rfl (hb hby at_8) rfl ?_
    show Steps _ _ _ (T1.setTop (mkF m 9 #[.val (.long q1), .second, .val (.int p2), .val (.ref b1), .unset, .unset, .unset, .unset, .unset] [(.int (q1.toInt32)), (.int (0 : Int32)), (.ref b1)])) _
    refine XS.i2b X1.here hx rfl (hb hby at_9) rfl ?_
    show Steps _ _ _ (T1.setTop (mkF m 10 #[.val (.long q1), .second, .val (.int p2), .val (.ref b1), .unset, .unset, .unset, .unset, .unset] [(.int ((q1.toInt32).toInt8.toInt32)), (.int (0 : Int32)), (.ref b1)])) _
    refine st7 _ ?_
    show Steps _ _ _ (T7.setTop (mkF m 11 #[.val (.long q1), .second, .val (.int p2), .val (.ref b1), .unset, .unset, .unset, .unset, .unset] [])) _
    refine XS.aloadN X7.here hx rfl (hb hby at_11) rfl rfl ?_
    show Steps _ _ _ (T7.setTop (mkF m 12 #[.val (.long q1), .second, .val (.int p2), .val (.ref b1), .unset, .unset, .unset, .unset, .unset] [(.ref b1)])) _
    refine XS.iconst X7.here hx rfl (hb hby at_12) ?_
    show Steps _ _ _ (T7.setTop (mkF m 13 #[.val (.long q1), .second, .val (.int p2), .val (.ref b1), .unset, .unset, .unset, .unset, .unset] [(.int (1 : Int32)), (.ref b1)])) _
    refine XS.lloadN X7.here hx rfl (hb hby at_13) rfl ?_
    show Steps _ _ _ (T7.setTop (mkF m 14 #[.val (.long q1), .second, .val (.int p2), .val (.ref b1), .unset, .unset, .unset, .unset, .unset] [(.long q1), (.int (1 : Int32)), (.ref b1)])) _
    refine XS.bipush X7.here hx rfl (hb hby at_14) ?_
    show Steps _ _ _ (T7.setTop (mkF m 16 #[.val (.long q1), .second, .val (.int p2), .val (.ref b1), .unset, .unset, .unset, .unset, .unset] [(.int (8 : Int32)), (.long q1), (.int (1 : Int32)), (.ref b1)])) _
    refine XS.lushr X7.here hx rfl (hb hby at_16) rfl ?_
    show Steps _ _ _ (T7.setTop (mkF m 17 #[.val (.long q1), .second, .val (.int p2), .val (.ref b1), .unset, .unset, .unset, .unset, .unset] [(.long ((q1.toUInt64 >>> ((8 : Int32) &&& 0x3f).toInt64.toUInt64).toInt64)), (.int (1 : Int32)), (.ref b1)])) _
    refine XS.l2i X7.here hx rfl (hb hby at_17) rfl ?_
    show Steps _ _ _ (T7.setTop (mkF m 18 #[.val (.long q1), .second, .val (.int p2), .val (.ref b1), .unset, .unset, .unset, .unset, .unset] [(.int (((q1.toUInt64 >>> ((8 : Int32) &&& 0x3f).toInt64.toUInt64).toInt64).toInt32)), (.int (1 : Int32)), (.ref b1)])) _
    refine XS.i2b X7.here hx rfl (hb hby at_18) rfl ?_
    show Steps _ _ _ (T7.setTop (mkF m 19 #[.val (.long q1), .second, .val (.int p2), .val (.ref b1), .unset, .unset, .unset, .unset, .unset] [(.int ((((q1.toUInt64 >>> ((8 : Int32) &&& 0x3f).toInt64.toUInt64).toInt64).toInt32).toInt8.toInt32)), (.int (1 : Int32)), (.ref b1)])) _
    refine st12 _ ?_
    show Steps _ _ _ (T12.setTop (mkF m 20 #[.val (.long q1), .second, .val (.int p2), .val (.ref b1), .unset, .unset, .unset, .unset, .unset] [])) _
    refine XS.aloadN X12.here hx rfl (hb hby at_20) rfl rfl ?_
    show Steps _ _ _ (T12.setTop (mkF m 21 #[.val (.long q1), .second, .val (.int p2), .val (.ref b1), .unset, .unset, .unset, .unset, .unset] [(.ref b1)])) _
    refine XS.iconst X12.here hx rfl (hb hby at_21) ?_
    show Steps _ _ _ (T12.setTop (mkF m 22 #[.val (.long q1), .second, .val (.int p2), .val (.ref b1), .unset, .unset, .unset, .unset, .unset] [(.int (2 : Int32)), (.ref b1)])) _
    refine XS.lloadN X12.here hx rfl (hb hby at_22) rfl ?_
    show Steps _ _ _ (T12.setTop (mkF m 23 #[.val (.long q1), .second, .val (.int p2), .val (.ref b1), .unset, .unset, .unset, .unset, .unset] [(.long q1), (.int (2 : Int32)), (.ref b1)])) _
    refine XS.bipush X12.here hx rfl (hb hby at_23) ?_
    show Steps _ _ _ (T12.setTop (mkF m 25 #[.val (.long q1), .second, .val (.int p2), .val (.ref b1), .unset, .unset, .unset, .unset, .unset] [(.int (16 : Int32)), (.long q1), (.int (2 : Int32)), (.ref b1)])) _
    refine XS.lushr X12.here hx rfl (hb hby at_25) rfl ?_
    show Steps _ _ _ (T12.setTop (mkF m 26 #[.val (.long q1), .second, .val (.int p2), .val (.ref b1), .unset, .unset, .unset, .unset, .unset] [(.long ((q1.toUInt64 >>> ((16 : Int32) &&& 0x3f).toInt64.toUInt64).toInt64)), (.int (2 : Int32)), (.ref b1)])) _
    refine XS.l2i X12.here hx rfl (hb hby at_26) rfl ?_
    show Steps _ _ _ (T12.setTop (mkF m 27 #[.val (.long q1), .second, .val (.int p2), .val (.ref b1), .unset, .unset, .unset, .unset, .unset] [(.int (((q1.toUInt64 >>> ((16 : Int32) &&& 0x3f).toInt64.toUInt64).toInt64).toInt32)), (.int (2 : Int32)), (.ref b1)])) _
    refine XS.i2b X12.here hx rfl (hb hby at_27) rfl ?_
    show Steps _ _ _ (T12.setTop (mkF m 28 #[.val (.long q1), .second, .val (.int p2), .val (.ref b1), .unset, .unset, .unset, .unset, .unset] [(.int ((((q1.toUInt64 >>> ((16 : Int32) &&& 0x3f).toInt64.toUInt64).toInt64).toInt32).toInt8.toInt32)), (.int (2 : Int32)), (.ref b1)])) _
    refine st17 _ ?_
    show Steps _ _ _ (T17.setTop (mkF m 29 #[.val (.long q1), .second, .val (.int p2), .val (.ref b1), .unset, .unset, .unset, .unset, .unset] [])) _
    refine XS.aloadN X17.here hx rfl (hb hby at_29) rfl rfl ?_
    show Steps _ _ _ (T17.setTop (mkF m 30 #[.val (.long q1), .second, .val (.int p2), .val (.ref b1), .unset, .unset, .unset, .unset, .unset] [(.ref b1)])) _
    refine XS.iconst X17.here hx rfl (hb hby at_30) ?_
    show Steps _ _ _ (T17.setTop (mkF m 31 #[.val (.long q1), .second, .val (.int p2), .val (.ref b1), .unset, .unset, .unset, .unset, .unset] [(.int (3 : Int32)), (.ref b1)])) _
    refine XS.lloadN X17.here hx rfl (hb hby at_31) rfl ?_
    show Steps _ _ _ (T17.setTop (mkF m 32 #[.val (.long q1), .second, .val (.int p2), .val (.ref b1), .unset, .unset, .unset, .unset, .unset] [(.long q1), (.int (3 : Int32)), (.ref b1)])) _
    refine XS.bipush X17.here hx rfl (hb hby at_32) ?_
    show Steps _ _ _ (T17.setTop (mkF m 34 #[.val (.long q1), .second, .val (.int p2), .val (.ref b1), .unset, .unset, .unset, .unset, .unset] [(.int (24 : Int32)), (.long q1), (.int (3 : Int32)), (.ref b1)])) _
    refine XS.lushr X17.here hx rfl (hb hby at_34) rfl ?_
    show Steps _ _ _ (T17.setTop (mkF m 35 #[.val (.long q1), .second, .val (.int p2), .val (.ref b1), .unset, .unset, .unset, .unset, .unset] [(.long ((q1.toUInt64 >>> ((24 : Int32) &&& 0x3f).toInt64.toUInt64).toInt64)), (.int (3 : Int32)), (.ref b1)])) _
    refine XS.l2i X17.here hx rfl (hb hby at_35) rfl ?_
    show Steps _ _ _ (T17.setTop (mkF m 36 #[.val (.long q1), .second, .val (.int p2), .val (.ref b1), .unset, .unset, .unset, .unset, .unset] [(.int (((q1.toUInt64 >>> ((24 : Int32) &&& 0x3f).toInt64.toUInt64).toInt64).toInt32)), (.int (3 : Int32)), (.ref b1)])) _
    exact k
  obtain ⟨c21, Arc21, Aqc21, Asc21, Anc21, Ahc21, Agc21⟩ := id V17
  have hin22 : ¬ ((3 : Int32) < 0 ∨ c21.slots.size ≤ ((3 : Int32)).toNatClampNeg) := inb_of Asc21 ⟨by decide, by decide⟩
  obtain ⟨T23, h23, X23, e23, W23, st23⟩ := stB X17 hx hZ e17 Arc21 (j := (3 : Int32)) hin22 (g := (mkF m 37 #[.val (.long q1), .second, .val (.int p2), .val (.ref b1), .unset, .unset, .unset, .unset, .unset] [(.int ((((q1.toUInt64 >>> ((24 : Int32) &&& 0x3f).toInt64.toUInt64).toInt64).toInt32).toInt8.toInt32)), (.int (3 : Int32)), (.ref b1)])) rfl rfl (hb hby at_37)
  have KC24 : Keep h0 h23 [] := KC18.wr W23 (Or.inr sz3)
  have V23 : Arv Z h23 b1 k1 .byte (8 : Int32) [(.int ((q1.toInt32).toInt8.toInt32).toInt8.toInt32), (.int ((((q1.toUInt64 >>> ((8 : Int32) &&& 0x3f).toInt64.toUInt64).toInt64).toInt32).toInt8.toInt32).toInt8.toInt32), (.int ((((q1.toUInt64 >>> ((16 : Int32) &&& 0x3f).toInt64.toUInt64).toInt64).toInt32).toInt8.toInt32).toInt8.toInt32), (.int ((((q1.toUInt64 >>> ((24 : Int32) &&& 0x3f).toInt64.toUInt64).toInt64).toInt32).toInt8.toInt32).toInt8.toInt32), (.int (0 : Int32)), (.int (0 : Int32)), (.int (0 : Int32)), (.int (0 : Int32))] (.int (0 : Int32)) := Arv.set Arc21 Aqc21 Asc21 Anc21 Ahc21 Agc21 (fits_nar_byte _) W23 3 rfl (Nat.le_of_ble_eq_true rfl)
  have N25 := Fr.snoc X23 N19 ge2
  obtain ⟨c26, Arc26, Aqc26, Asc26, Anc26, Ahc26, Agc26⟩ := id V23
  have hin27 : ¬ ((4 : Int32) < 0 ∨ c26.slots.size ≤ ((4 : Int32)).toNatClampNeg) := inb_of Asc26 ⟨by decide, by decide⟩
  obtain ⟨T28, h28, X28, e28, W28, st28⟩ := stB X23 hx hZ e23 Arc26 (j := (4 : Int32)) hin27 (g := (mkF m 46 #[.val (.long q1), .second, .val (.int p2), .val (.ref b1), .unset, .unset, .unset, .unset, .unset] [(.int ((((q1.toUInt64 >>> ((32 : Int32) &&& 0x3f).toInt64.toUInt64).toInt64).toInt32).toInt8.toInt32)), (.int (4 : Int32)), (.ref b1)])) rfl rfl (hb hby at_46)
  have KC29 : Keep h0 h28 [] := KC24.wr W28 (Or.inr sz3)
  have V28 : Arv Z h28 b1 k1 .byte (8 : Int32) [(.int ((q1.toInt32).toInt8.toInt32).toInt8.toInt32), (.int ((((q1.toUInt64 >>> ((8 : Int32) &&& 0x3f).toInt64.toUInt64).toInt64).toInt32).toInt8.toInt32).toInt8.toInt32), (.int ((((q1.toUInt64 >>> ((16 : Int32) &&& 0x3f).toInt64.toUInt64).toInt64).toInt32).toInt8.toInt32).toInt8.toInt32), (.int ((((q1.toUInt64 >>> ((24 : Int32) &&& 0x3f).toInt64.toUInt64).toInt64).toInt32).toInt8.toInt32).toInt8.toInt32), (.int ((((q1.toUInt64 >>> ((32 : Int32) &&& 0x3f).toInt64.toUInt64).toInt64).toInt32).toInt8.toInt32).toInt8.toInt32), (.int (0 : Int32)), (.int (0 : Int32)), (.int (0 : Int32))] (.int (0 : Int32)) := Arv.set Arc26 Aqc26 Asc26 Anc26 Ahc26 Agc26 (fits_nar_byte _) W28 4 rfl (Nat.le_of_ble_eq_true rfl)
  have N30 := Fr.snoc X28 N25 ge2
  obtain ⟨c31, Arc31, Aqc31, Asc31, Anc31, Ahc31, Agc31⟩ := id V28
  have hin32 : ¬ ((5 : Int32) < 0 ∨ c31.slots.size ≤ ((5 : Int32)).toNatClampNeg) := inb_of Asc31 ⟨by decide, by decide⟩
  obtain ⟨T33, h33, X33, e33, W33, st33⟩ := stB X28 hx hZ e28 Arc31 (j := (5 : Int32)) hin32 (g := (mkF m 55 #[.val (.long q1), .second, .val (.int p2), .val (.ref b1), .unset, .unset, .unset, .unset, .unset] [(.int ((((q1.toUInt64 >>> ((40 : Int32) &&& 0x3f).toInt64.toUInt64).toInt64).toInt32).toInt8.toInt32)), (.int (5 : Int32)), (.ref b1)])) rfl rfl (hb hby at_55)
  have KC34 : Keep h0 h33 [] := KC29.wr W33 (Or.inr sz3)
  have V33 : Arv Z h33 b1 k1 .byte (8 : Int32) [(.int ((q1.toInt32).toInt8.toInt32).toInt8.toInt32), (.int ((((q1.toUInt64 >>> ((8 : Int32) &&& 0x3f).toInt64.toUInt64).toInt64).toInt32).toInt8.toInt32).toInt8.toInt32), (.int ((((q1.toUInt64 >>> ((16 : Int32) &&& 0x3f).toInt64.toUInt64).toInt64).toInt32).toInt8.toInt32).toInt8.toInt32), (.int ((((q1.toUInt64 >>> ((24 : Int32) &&& 0x3f).toInt64.toUInt64).toInt64).toInt32).toInt8.toInt32).toInt8.toInt32), (.int ((((q1.toUInt64 >>> ((32 : Int32) &&& 0x3f).toInt64.toUInt64).toInt64).toInt32).toInt8.toInt32).toInt8.toInt32), (.int ((((q1.toUInt64 >>> ((40 : Int32) &&& 0x3f).toInt64.toUInt64).toInt64).toInt32).toInt8.toInt32).toInt8.toInt32), (.int (0 : Int32)), (.int (0 : Int32))] (.int (0 : Int32)) := Arv.set Arc31 Aqc31 Asc31 Anc31 Ahc31 Agc31 (fits_nar_byte _) W33 5 rfl (Nat.le_of_ble_eq_true rfl)
  have N35 := Fr.snoc X33 N30 ge2
  obtain ⟨c36, Arc36, Aqc36, Asc36, Anc36, Ahc36, Agc36⟩ := id V33
  have hin37 : ¬ ((6 : Int32) < 0 ∨ c36.slots.size ≤ ((6 : Int32)).toNatClampNeg) := inb_of Asc36 ⟨by decide, by decide⟩
  obtain ⟨T38, h38, X38, e38, W38, st38⟩ := stB X33 hx hZ e33 Arc36 (j := (6 : Int32)) hin37 (g := (mkF m 65 #[.val (.long q1), .second, .val (.int p2), .val (.ref b1), .unset, .unset, .unset, .unset, .unset] [(.int ((((q1.toUInt64 >>> ((48 : Int32) &&& 0x3f).toInt64.toUInt64).toInt64).toInt32).toInt8.toInt32)), (.int (6 : Int32)), (.ref b1)])) rfl rfl (hb hby at_65)
  have KC39 : Keep h0 h38 [] := KC34.wr W38 (Or.inr sz3)
  have V38 : Arv Z h38 b1 k1 .byte (8 : Int32) [(.int ((q1.toInt32).toInt8.toInt32).toInt8.toInt32), (.int ((((q1.toUInt64 >>> ((8 : Int32) &&& 0x3f).toInt64.toUInt64).toInt64).toInt32).toInt8.toInt32).toInt8.toInt32), (.int ((((q1.toUInt64 >>> ((16 : Int32) &&& 0x3f).toInt64.toUInt64).toInt64).toInt32).toInt8.toInt32).toInt8.toInt32), (.int ((((q1.toUInt64 >>> ((24 : Int32) &&& 0x3f).toInt64.toUInt64).toInt64).toInt32).toInt8.toInt32).toInt8.toInt32), (.int ((((q1.toUInt64 >>> ((32 : Int32) &&& 0x3f).toInt64.toUInt64).toInt64).toInt32).toInt8.toInt32).toInt8.toInt32), (.int ((((q1.toUInt64 >>> ((40 : Int32) &&& 0x3f).toInt64.toUInt64).toInt64).toInt32).toInt8.toInt32).toInt8.toInt32), (.int ((((q1.toUInt64 >>> ((48 : Int32) &&& 0x3f).toInt64.toUInt64).toInt64).toInt32).toInt8.toInt32).toInt8.toInt32), (.int (0 : Int32))] (.int (0 : Int32)) := Arv.set Arc36 Aqc36 Asc36 Anc36 Ahc36 Agc36 (fits_nar_byte _) W38 6 rfl (Nat.le_of_ble_eq_true rfl)
  have N40 := Fr.snoc X38 N35 ge2
  have pre41 : ∀ t, Steps p.tables e below (T38.setTop (mkF m 73 #[.val (.long q1), .second, .val (.int p2), .val (.ref b1), .unset, .unset, .unset, .unset, .unset] [(.long ((q1.toUInt64 >>> ((56 : Int32) &&& 0x3f).toInt64.toUInt64).toInt64)), (.int (7 : Int32)), (.ref b1)])) t → Steps p.tables e below (s₁.setTop (entryFrame m #[(.long q1), (.int p2)] maxLocals)) t := by
    intro t k
    refine pre20 t ?_
    refine XS.i2b X17.here hx rfl (hb hby at_36) rfl ?_
    show Steps _ _ _ (T17.setTop (mkF m 37 #[.val (.long q1), .second, .val (.int p2), .val (.ref b1), .unset, .unset, .unset, .unset, .unset] [(.int ((((q1.toUInt64 >>> ((24 : Int32) &&& 0x3f).toInt64.toUInt64).toInt64).toInt32).toInt8.toInt32)), (.int (3 : Int32)), (.ref b1)])) _
    refine st23 _ ?_
    show Steps _ _ _ (T23.setTop (mkF m 38 #[.val (.long q1), .second, .val (.int p2), .val (.ref b1), .unset, .unset, .unset, .unset, .unset] [])) _
    refine XS.aloadN X23.here hx rfl (hb hby at_38) rfl rfl ?_
    show Steps _ _ _ (T23.setTop (mkF m 39 #[.val (.long q1), .second, .val (.int p2), .val (.ref b1), .unset, .unset, .unset, .unset, .unset] [(.ref b1)])) _
    refine XS.iconst X23.here hx rfl (hb hby at_39) ?_
    show Steps _ _ _ (T23.setTop (mkF m 40 #[.val (.long q1), .second, .val (.int p2), .val (.ref b1), .unset, .unset, .unset, .unset, .unset] [(.int (4 : Int32)), (.ref b1)])) _
    refine XS.lloadN X23.here hx rfl (hb hby at_40) rfl ?_
    show Steps _ _ _ (T23.setTop (mkF m 41 #[.val (.long q1), .second, .val (.int p2), .val (.ref b1), .unset, .unset, .unset, .unset, .unset] [(.long q1), (.int (4 : Int32)), (.ref b1)])) _
    refine XS.bipush X23.here hx rfl (hb hby at_41) ?_
    show Steps _ _ _ (T23.setTop (mkF m 43 #[.val (.long q1), .second, .val (.int p2), .val (.ref b1), .unset, .unset, .unset, .unset, .unset] [(.int (32 : Int32)), (.long q1), (.int (4 : Int32)), (.ref b1)])) _
    refine XS.lushr X23.here hx rfl (hb hby at_43) rfl ?_
    show Steps _ _ _ (T23.setTop (mkF m 44 #[.val (.long q1), .second, .val (.int p2), .val (.ref b1), .unset, .unset, .unset, .unset, .unset] [(.long ((q1.toUInt64 >>> ((32 : Int32) &&& 0x3f).toInt64.toUInt64).toInt64)), (.int (4 : Int32)), (.ref b1)])) _
    refine XS.l2i X23.here hx rfl (hb hby at_44) rfl ?_
    show Steps _ _ _ (T23.setTop (mkF m 45 #[.val (.long q1), .second, .val (.int p2), .val (.ref b1), .unset, .unset, .unset, .unset, .unset] [(.int (((q1.toUInt64 >>> ((32 : Int32) &&& 0x3f).toInt64.toUInt64).toInt64).toInt32)), (.int (4 : Int32)), (.ref b1)])) _
    refine XS.i2b X23.here hx rfl (hb hby at_45) rfl ?_
    show Steps _ _ _ (T23.setTop (mkF m 46 #[.val (.long q1), .second, .val (.int p2), .val (.ref b1), .unset, .unset, .unset, .unset, .unset] [(.int ((((q1.toUInt64 >>> ((32 : Int32) &&& 0x3f).toInt64.toUInt64).toInt64).toInt32).toInt8.toInt32)), (.int (4 : Int32)), (.ref b1)])) _
    refine st28 _ ?_
    show Steps _ _ _ (T28.setTop (mkF m 47 #[.val (.long q1), .second, .val (.int p2), .val (.ref b1), .unset, .unset, .unset, .unset, .unset] [])) _
    refine XS.aloadN X28.here hx rfl (hb hby at_47) rfl rfl ?_
    show Steps _ _ _ (T28.setTop (mkF m 48 #[.val (.long q1), .second, .val (.int p2), .val (.ref b1), .unset, .unset, .unset, .unset, .unset] [(.ref b1)])) _
    refine XS.iconst X28.here hx rfl (hb hby at_48) ?_
    show Steps _ _ _ (T28.setTop (mkF m 49 #[.val (.long q1), .second, .val (.int p2), .val (.ref b1), .unset, .unset, .unset, .unset, .unset] [(.int (5 : Int32)), (.ref b1)])) _
    refine XS.lloadN X28.here hx rfl (hb hby at_49) rfl ?_
    show Steps _ _ _ (T28.setTop (mkF m 50 #[.val (.long q1), .second, .val (.int p2), .val (.ref b1), .unset, .unset, .unset, .unset, .unset] [(.long q1), (.int (5 : Int32)), (.ref b1)])) _
    refine XS.bipush X28.here hx rfl (hb hby at_50) ?_
    show Steps _ _ _ (T28.setTop (mkF m 52 #[.val (.long q1), .second, .val (.int p2), .val (.ref b1), .unset, .unset, .unset, .unset, .unset] [(.int (40 : Int32)), (.long q1), (.int (5 : Int32)), (.ref b1)])) _
    refine XS.lushr X28.here hx rfl (hb hby at_52) rfl ?_
    show Steps _ _ _ (T28.setTop (mkF m 53 #[.val (.long q1), .second, .val (.int p2), .val (.ref b1), .unset, .unset, .unset, .unset, .unset] [(.long ((q1.toUInt64 >>> ((40 : Int32) &&& 0x3f).toInt64.toUInt64).toInt64)), (.int (5 : Int32)), (.ref b1)])) _
    refine XS.l2i X28.here hx rfl (hb hby at_53) rfl ?_
    show Steps _ _ _ (T28.setTop (mkF m 54 #[.val (.long q1), .second, .val (.int p2), .val (.ref b1), .unset, .unset, .unset, .unset, .unset] [(.int (((q1.toUInt64 >>> ((40 : Int32) &&& 0x3f).toInt64.toUInt64).toInt64).toInt32)), (.int (5 : Int32)), (.ref b1)])) _
    refine XS.i2b X28.here hx rfl (hb hby at_54) rfl ?_
    show Steps _ _ _ (T28.setTop (mkF m 55 #[.val (.long q1), .second, .val (.int p2), .val (.ref b1), .unset, .unset, .unset, .unset, .unset] [(.int ((((q1.toUInt64 >>> ((40 : Int32) &&& 0x3f).toInt64.toUInt64).toInt64).toInt32).toInt8.toInt32)), (.int (5 : Int32)), (.ref b1)])) _
    refine st33 _ ?_
    show Steps _ _ _ (T33.setTop (mkF m 56 #[.val (.long q1), .second, .val (.int p2), .val (.ref b1), .unset, .unset, .unset, .unset, .unset] [])) _
    refine XS.aloadN X33.here hx rfl (hb hby at_56) rfl rfl ?_
    show Steps _ _ _ (T33.setTop (mkF m 57 #[.val (.long q1), .second, .val (.int p2), .val (.ref b1), .unset, .unset, .unset, .unset, .unset] [(.ref b1)])) _
    refine XS.bipush X33.here hx rfl (hb hby at_57) ?_
    show Steps _ _ _ (T33.setTop (mkF m 59 #[.val (.long q1), .second, .val (.int p2), .val (.ref b1), .unset, .unset, .unset, .unset, .unset] [(.int (6 : Int32)), (.ref b1)])) _
    refine XS.lloadN X33.here hx rfl (hb hby at_59) rfl ?_
    show Steps _ _ _ (T33.setTop (mkF m 60 #[.val (.long q1), .second, .val (.int p2), .val (.ref b1), .unset, .unset, .unset, .unset, .unset] [(.long q1), (.int (6 : Int32)), (.ref b1)])) _
    refine XS.bipush X33.here hx rfl (hb hby at_60) ?_
    show Steps _ _ _ (T33.setTop (mkF m 62 #[.val (.long q1), .second, .val (.int p2), .val (.ref b1), .unset, .unset, .unset, .unset, .unset] [(.int (48 : Int32)), (.long q1), (.int (6 : Int32)), (.ref b1)])) _
    refine XS.lushr X33.here hx rfl (hb hby at_62) rfl ?_
    show Steps _ _ _ (T33.setTop (mkF m 63 #[.val (.long q1), .second, .val (.int p2), .val (.ref b1), .unset, .unset, .unset, .unset, .unset] [(.long ((q1.toUInt64 >>> ((48 : Int32) &&& 0x3f).toInt64.toUInt64).toInt64)), (.int (6 : Int32)), (.ref b1)])) _
    refine XS.l2i X33.here hx rfl (hb hby at_63) rfl ?_
    show Steps _ _ _ (T33.setTop (mkF m 64 #[.val (.long q1), .second, .val (.int p2), .val (.ref b1), .unset, .unset, .unset, .unset, .unset] [(.int (((q1.toUInt64 >>> ((48 : Int32) &&& 0x3f).toInt64.toUInt64).toInt64).toInt32)), (.int (6 : Int32)), (.ref b1)])) _
    refine XS.i2b X33.here hx rfl (hb hby at_64) rfl ?_
    show Steps _ _ _ (T33.setTop (mkF m 65 #[.val (.long q1), .second, .val (.int p2), .val (.ref b1), .unset, .unset, .unset, .unset, .unset] [(.int ((((q1.toUInt64 >>> ((48 : Int32) &&& 0x3f).toInt64.toUInt64).toInt64).toInt32).toInt8.toInt32)), (.int (6 : Int32)), (.ref b1)])) _
    refine st38 _ ?_
    show Steps _ _ _ (T38.setTop (mkF m 66 #[.val (.long q1), .second, .val (.int p2), .val (.ref b1), .unset, .unset, .unset, .unset, .unset] [])) _
    refine XS.aloadN X38.here hx rfl (hb hby at_66) rfl rfl ?_
    show Steps _ _ _ (T38.setTop (mkF m 67 #[.val (.long q1), .second, .val (.int p2), .val (.ref b1), .unset, .unset, .unset, .unset, .unset] [(.ref b1)])) _
    refine XS.bipush X38.here hx rfl (hb hby at_67) ?_
    show Steps _ _ _ (T38.setTop (mkF m 69 #[.val (.long q1), .second, .val (.int p2), .val (.ref b1), .unset, .unset, .unset, .unset, .unset] [(.int (7 : Int32)), (.ref b1)])) _
    refine XS.lloadN X38.here hx rfl (hb hby at_69) rfl ?_
    show Steps _ _ _ (T38.setTop (mkF m 70 #[.val (.long q1), .second, .val (.int p2), .val (.ref b1), .unset, .unset, .unset, .unset, .unset] [(.long q1), (.int (7 : Int32)), (.ref b1)])) _
    refine XS.bipush X38.here hx rfl (hb hby at_70) ?_
    show Steps _ _ _ (T38.setTop (mkF m 72 #[.val (.long q1), .second, .val (.int p2), .val (.ref b1), .unset, .unset, .unset, .unset, .unset] [(.int (56 : Int32)), (.long q1), (.int (7 : Int32)), (.ref b1)])) _
    refine XS.lushr X38.here hx rfl (hb hby at_72) rfl ?_
    show Steps _ _ _ (T38.setTop (mkF m 73 #[.val (.long q1), .second, .val (.int p2), .val (.ref b1), .unset, .unset, .unset, .unset, .unset] [(.long ((q1.toUInt64 >>> ((56 : Int32) &&& 0x3f).toInt64.toUInt64).toInt64)), (.int (7 : Int32)), (.ref b1)])) _
    exact k
  obtain ⟨c42, Arc42, Aqc42, Asc42, Anc42, Ahc42, Agc42⟩ := id V38
  have hin43 : ¬ ((7 : Int32) < 0 ∨ c42.slots.size ≤ ((7 : Int32)).toNatClampNeg) := inb_of Asc42 ⟨by decide, by decide⟩
  obtain ⟨T44, h44, X44, e44, W44, st44⟩ := stB X38 hx hZ e38 Arc42 (j := (7 : Int32)) hin43 (g := (mkF m 75 #[.val (.long q1), .second, .val (.int p2), .val (.ref b1), .unset, .unset, .unset, .unset, .unset] [(.int ((((q1.toUInt64 >>> ((56 : Int32) &&& 0x3f).toInt64.toUInt64).toInt64).toInt32).toInt8.toInt32)), (.int (7 : Int32)), (.ref b1)])) rfl rfl (hb hby at_75)
  have KC45 : Keep h0 h44 [] := KC39.wr W44 (Or.inr sz3)
  have V44 : Arv Z h44 b1 k1 .byte (8 : Int32) [(.int ((q1.toInt32).toInt8.toInt32).toInt8.toInt32), (.int ((((q1.toUInt64 >>> ((8 : Int32) &&& 0x3f).toInt64.toUInt64).toInt64).toInt32).toInt8.toInt32).toInt8.toInt32), (.int ((((q1.toUInt64 >>> ((16 : Int32) &&& 0x3f).toInt64.toUInt64).toInt64).toInt32).toInt8.toInt32).toInt8.toInt32), (.int ((((q1.toUInt64 >>> ((24 : Int32) &&& 0x3f).toInt64.toUInt64).toInt64).toInt32).toInt8.toInt32).toInt8.toInt32), (.int ((((q1.toUInt64 >>> ((32 : Int32) &&& 0x3f).toInt64.toUInt64).toInt64).toInt32).toInt8.toInt32).toInt8.toInt32), (.int ((((q1.toUInt64 >>> ((40 : Int32) &&& 0x3f).toInt64.toUInt64).toInt64).toInt32).toInt8.toInt32).toInt8.toInt32), (.int ((((q1.toUInt64 >>> ((48 : Int32) &&& 0x3f).toInt64.toUInt64).toInt64).toInt32).toInt8.toInt32).toInt8.toInt32), (.int ((((q1.toUInt64 >>> ((56 : Int32) &&& 0x3f).toInt64.toUInt64).toInt64).toInt32).toInt8.toInt32).toInt8.toInt32)] (.int (0 : Int32)) := Arv.set Arc42 Aqc42 Asc42 Anc42 Ahc42 Agc42 (fits_nar_byte _) W44 7 rfl (Nat.le_of_ble_eq_true rfl)
  have N46 := Fr.snoc X44 N40 ge2
  obtain ⟨_, _, ⟨T47, L47, k47, n47⟩, -, X47, ⟨Lc47, hQ47, l47, y47, z47⟩, st47⟩ := Jvm.LawKit.callS X44 hx (y := (⟨"com/example/blockflate/blockflate/Layout", "getUnsignedInt", "([BI)J"⟩ : MethodName)) hown (mvT hZ (hw _ (List.mem_of_getElem? (i := 3) rfl))) (mvT hZ (hw _ (List.mem_of_getElem? (i := 4) rfl))) (mvT hZ (hw _ (List.mem_of_getElem? (i := 5) rfl))) (mvT hZ (hw _ (List.mem_of_getElem? (i := 6) rfl))) (by decide) (backOf (W := 0) (rm1 l Z a0 hw [] b1 ((p2 &&& (2147483647 : Int32)) - ((p2 &&& (2147483647 : Int32)) / (5 : Int32)) * (5 : Int32)) k1 (8 : Int32) [(.int ((q1.toInt32).toInt8.toInt32).toInt8.toInt32), (.int ((((q1.toUInt64 >>> ((8 : Int32) &&& 0x3f).toInt64.toUInt64).toInt64).toInt32).toInt8.toInt32).toInt8.toInt32), (.int ((((q1.toUInt64 >>> ((16 : Int32) &&& 0x3f).toInt64.toUInt64).toInt64).toInt32).toInt8.toInt32).toInt8.toInt32), (.int ((((q1.toUInt64 >>> ((24 : Int32) &&& 0x3f).toInt64.toUInt64).toInt64).toInt32).toInt8.toInt32).toInt8.toInt32), (.int ((((q1.toUInt64 >>> ((32 : Int32) &&& 0x3f).toInt64.toUInt64).toInt64).toInt32).toInt8.toInt32).toInt8.toInt32), (.int ((((q1.toUInt64 >>> ((40 : Int32) &&& 0x3f).toInt64.toUInt64).toInt64).toInt32).toInt8.toInt32).toInt8.toInt32), (.int ((((q1.toUInt64 >>> ((48 : Int32) &&& 0x3f).toInt64.toUInt64).toInt64).toInt32).toInt8.toInt32).toInt8.toInt32), (.int ((((q1.toUInt64 >>> ((56 : Int32) &&& 0x3f).toInt64.toUInt64).toInt64).toInt32).toInt8.toInt32).toInt8.toInt32)] (.int (0 : Int32)) (own_b q1 (own_pos p2)) (own_b q1 (own_pos p2 + 1)) (own_b q1 (own_pos p2 + 2)) (own_b q1 (own_pos p2 + 2 + 1)) h44 n0 (Nat.le_trans Z0 KC45.1) V44 (own_at q1 _ (own_j0 p2)).1 (own_at q1 _ (own_j0 p2)).2 (own_at q1 _ (own_j1 p2)).1 (own_at q1 _ (own_j1 p2)).2 (own_at q1 _ (own_j2 p2)).1 (own_at q1 _ (own_j2 p2)).2 (own_at q1 _ (own_j3 p2)).1 (own_at q1 _ (own_j3 p2)).2) hZ (hw _ (List.mem_of_getElem? (i := 6) rfl)) (hw _ (List.mem_of_getElem? (i := 5) rfl)) (by decide) (by decide)) (g := (mkF m 100 #[.val (.long q1), .second, .val (.int p2), .val (.ref b1), .val (.int ((p2 &&& (2147483647 : Int32)) - ((p2 &&& (2147483647 : Int32)) / (5 : Int32)) * (5 : Int32))), .val (.long (((q1.toUInt64 >>> (((8 : Int32) * ((p2 &&& (2147483647 : Int32)) - ((p2 &&& (2147483647 : Int32)) / (5 : Int32)) * (5 : Int32))) &&& 0x3f).toInt64.toUInt64).toInt64) &&& (4294967295 : Int64))), .second, .unset, .unset] [(.int ((p2 &&& (2147483647 : Int32)) - ((p2 &&& (2147483647 : Int32)) / (5 : Int32)) * (5 : Int32))), (.ref b1)])) rfl (by rw [hml]; rfl) (argsL := [(.ref b1), (.int ((p2 &&& (2147483647 : Int32)) - ((p2 &&& (2147483647 : Int32)) / (5 : Int32)) * (5 : Int32)))]) (rest := []) (lenOf pd_1 rfl) rfl (by show 2 * 0 + _ ≤ _; exact Nat.le_of_eq rfl) (hb hby at_100) (fun _ _ => ⟨rfl, e44, (by decide : 1 + 0 ≤ _), (by decide : 8 + 0 ≤ _)⟩)
  dsimp only [Pt.U, Pt.locs, Pt.cells, Pt.slots] at X47 l47 y47 z47 st47 hQ47
  subst l47 y47 z47
  obtain ⟨rfl, Nq47, q47_0⟩ := hQ47
  have N48 := Fr.app N46 Nq47
  have hc49 : (own_int (own_b q1 (own_pos p2)) (own_b q1 (own_pos p2 + 1)) (own_b q1 (own_pos p2 + 2)) (own_b q1 (own_pos p2 + 2 + 1))) = (((q1.toUInt64 >>> (((8 : Int32) * ((p2 &&& (2147483647 : Int32)) - ((p2 &&& (2147483647 : Int32)) / (5 : Int32)) * (5 : Int32))) &&& 0x3f).toInt64.toUInt64).toInt64) &&& (4294967295 : Int64)) := own_law q1 p2
  have pre50 : ∀ t, Steps p.tables e below (T47.setTop (mkF m 118 #[.val (.long q1), .second, .val (.int p2), .val (.ref b1), .val (.int ((p2 &&& (2147483647 : Int32)) - ((p2 &&& (2147483647 : Int32)) / (5 : Int32)) * (5 : Int32))), .val (.long (((q1.toUInt64 >>> (((8 : Int32) * ((p2 &&& (2147483647 : Int32)) - ((p2 &&& (2147483647 : Int32)) / (5 : Int32)) * (5 : Int32))) &&& 0x3f).toInt64.toUInt64).toInt64) &&& (4294967295 : Int64))), .second, .val (.long (own_int (own_b q1 (own_pos p2)) (own_b q1 (own_pos p2 + 1)) (own_b q1 (own_pos p2 + 2)) (own_b q1 (own_pos p2 + 2 + 1)))), .second] [(.int (1 : Int32))])) t → Steps p.tables e below (s₁.setTop (entryFrame m #[(.long q1), (.int p2)] maxLocals)) t := by
    intro t k
    refine pre41 t ?_
    refine XS.l2i X38.here hx rfl (hb hby at_73) rfl ?_
    show Steps _ _ _ (T38.setTop (mkF m 74 #[.val (.long q1), .second, .val (.int p2), .val (.ref b1), .unset, .unset, .unset, .unset, .unset] [(.int (((q1.toUInt64 >>> ((56 : Int32) &&& 0x3f).toInt64.toUInt64).toInt64).toInt32)), (.int (7 : Int32)), (.ref b1)])) _
    refine XS.i2b X38.here hx rfl (hb hby at_74) rfl ?_
    show Steps _ _ _ (T38.setTop (mkF m 75 #[.val (.long q1), .second, .val (.int p2), .val (.ref b1), .unset, .unset, .unset, .unset, .unset] [(.int ((((q1.toUInt64 >>> ((56 : Int32) &&& 0x3f).toInt64.toUInt64).toInt64).toInt32).toInt8.toInt32)), (.int (7 : Int32)), (.ref b1)])) _
    refine st44 _ ?_
    show Steps _ _ _ (T44.setTop (mkF m 76 #[.val (.long q1), .second, .val (.int p2), .val (.ref b1), .unset, .unset, .unset, .unset, .unset] [])) _
    refine XS.iloadN X44.here hx rfl (hb hby at_76) rfl ?_
    show Steps _ _ _ (T44.setTop (mkF m 77 #[.val (.long q1), .second, .val (.int p2), .val (.ref b1), .unset, .unset, .unset, .unset, .unset] [(.int p2)])) _
    refine X44.ldcInt hx hown (mvT hZ (hw _ (List.mem_of_getElem? (i := 1) rfl))) (g := (mkF m 77 #[.val (.long q1), .second, .val (.int p2), .val (.ref b1), .unset, .unset, .unset, .unset, .unset] [(.int p2)])) rfl (hb hby at_77) _ ?_
    show Steps _ _ _ (T44.setTop (mkF m 79 #[.val (.long q1), .second, .val (.int p2), .val (.ref b1), .unset, .unset, .unset, .unset, .unset] [(.int (2147483647 : Int32)), (.int p2)])) _
    refine XS.iand X44.here hx rfl (hb hby at_79) rfl ?_
    show Steps _ _ _ (T44.setTop (mkF m 80 #[.val (.long q1), .second, .val (.int p2), .val (.ref b1), .unset, .unset, .unset, .unset, .unset] [(.int (p2 &&& (2147483647 : Int32)))])) _
    refine XS.iconst X44.here hx rfl (hb hby at_80) ?_
    show Steps _ _ _ (T44.setTop (mkF m 81 #[.val (.long q1), .second, .val (.int p2), .val (.ref b1), .unset, .unset, .unset, .unset, .unset] [(.int (5 : Int32)), (.int (p2 &&& (2147483647 : Int32)))])) _
    refine XS.irem X44.here hx rfl (hb hby at_81) rfl (by decide) ?_
    show Steps _ _ _ (T44.setTop (mkF m 82 #[.val (.long q1), .second, .val (.int p2), .val (.ref b1), .unset, .unset, .unset, .unset, .unset] [(.int ((p2 &&& (2147483647 : Int32)) - ((p2 &&& (2147483647 : Int32)) / (5 : Int32)) * (5 : Int32)))])) _
    refine XS.istore X44.here hx rfl (hb hby at_82) rfl (l' := #[.val (.long q1), .second, .val (.int p2), .val (.ref b1), .val (.int ((p2 &&& (2147483647 : Int32)) - ((p2 &&& (2147483647 : Int32)) / (5 : Int32)) * (5 : Int32))), .unset, .unset, .unset, .unset]) rfl ?_
    show Steps _ _ _ (T44.setTop (mkF m 84 #[.val (.long q1), .second, .val (.int p2), .val (.ref b1), .val (.int ((p2 &&& (2147483647 : Int32)) - ((p2 &&& (2147483647 : Int32)) / (5 : Int32)) * (5 : Int32))), .unset, .unset, .unset, .unset] [])) _
    refine XS.lloadN X44.here hx rfl (hb hby at_84) rfl ?_
    show Steps _ _ _ (T44.setTop (mkF m 85 #[.val (.long q1), .second, .val (.int p2), .val (.ref b1), .val (.int ((p2 &&& (2147483647 : Int32)) - ((p2 &&& (2147483647 : Int32)) / (5 : Int32)) * (5 : Int32))), .unset, .unset, .unset, .unset] [(.long q1)])) _
    refine XS.bipush X44.here hx rfl (hb hby at_85) ?_
    show Steps _ _ _ (T44.setTop (mkF m 87 #[.val (.long q1), .second, .val (.int p2), .val (.ref b1), .val (.int ((p2 &&& (2147483647 : Int32)) - ((p2 &&& (2147483647 : Int32)) / (5 : Int32)) * (5 : Int32))), .unset, .unset, .unset, .unset] [(.int (8 : Int32)), (.long q1)])) _
    refine XS.iload X44.here hx rfl (hb hby at_87) rfl ?_
    show Steps _ _ _ (T44.setTop (mkF m 89 #[.val (.long q1), .second, .val (.int p2), .val (.ref b1), .val (.int ((p2 &&& (2147483647 : Int32)) - ((p2 &&& (2147483647 : Int32)) / (5 : Int32)) * (5 : Int32))), .unset, .unset, .unset, .unset] [(.int ((p2 &&& (2147483647 : Int32)) - ((p2 &&& (2147483647 : Int32)) / (5 : Int32)) * (5 : Int32))), (.int (8 : Int32)), (.long q1)])) _
    refine XS.imul X44.here hx rfl (hb hby at_89) rfl ?_
    show Steps _ _ _ (T44.setTop (mkF m 90 #[.val (.long q1), .second, .val (.int p2), .val (.ref b1), .val (.int ((p2 &&& (2147483647 : Int32)) - ((p2 &&& (2147483647 : Int32)) / (5 : Int32)) * (5 : Int32))), .unset, .unset, .unset, .unset] [(.int ((8 : Int32) * ((p2 &&& (2147483647 : Int32)) - ((p2 &&& (2147483647 : Int32)) / (5 : Int32)) * (5 : Int32)))), (.long q1)])) _
    refine XS.lushr X44.here hx rfl (hb hby at_90) rfl ?_
    show Steps _ _ _ (T44.setTop (mkF m 91 #[.val (.long q1), .second, .val (.int p2), .val (.ref b1), .val (.int ((p2 &&& (2147483647 : Int32)) - ((p2 &&& (2147483647 : Int32)) / (5 : Int32)) * (5 : Int32))), .unset, .unset, .unset, .unset] [(.long ((q1.toUInt64 >>> (((8 : Int32) * ((p2 &&& (2147483647 : Int32)) - ((p2 &&& (2147483647 : Int32)) / (5 : Int32)) * (5 : Int32))) &&& 0x3f).toInt64.toUInt64).toInt64))])) _
    refine X44.ldc2Long hx hown (mvT hZ (hw _ (List.mem_of_getElem? (i := 2) rfl))) (g := (mkF m 91 #[.val (.long q1), .second, .val (.int p2), .val (.ref b1), .val (.int ((p2 &&& (2147483647 : Int32)) - ((p2 &&& (2147483647 : Int32)) / (5 : Int32)) * (5 : Int32))), .unset, .unset, .unset, .unset] [(.long ((q1.toUInt64 >>> (((8 : Int32) * ((p2 &&& (2147483647 : Int32)) - ((p2 &&& (2147483647 : Int32)) / (5 : Int32)) * (5 : Int32))) &&& 0x3f).toInt64.toUInt64).toInt64))])) rfl (hb hby at_91) _ ?_
    show Steps _ _ _ (T44.setTop (mkF m 94 #[.val (.long q1), .second, .val (.int p2), .val (.ref b1), .val (.int ((p2 &&& (2147483647 : Int32)) - ((p2 &&& (2147483647 : Int32)) / (5 : Int32)) * (5 : Int32))), .unset, .unset, .unset, .unset] [(.long (4294967295 : Int64)), (.long ((q1.toUInt64 >>> (((8 : Int32) * ((p2 &&& (2147483647 : Int32)) - ((p2 &&& (2147483647 : Int32)) / (5 : Int32)) * (5 : Int32))) &&& 0x3f).toInt64.toUInt64).toInt64))])) _
    refine XS.land X44.here hx rfl (hb hby at_94) rfl ?_
    show Steps _ _ _ (T44.setTop (mkF m 95 #[.val (.long q1), .second, .val (.int p2), .val (.ref b1), .val (.int ((p2 &&& (2147483647 : Int32)) - ((p2 &&& (2147483647 : Int32)) / (5 : Int32)) * (5 : Int32))), .unset, .unset, .unset, .unset] [(.long (((q1.toUInt64 >>> (((8 : Int32) * ((p2 &&& (2147483647 : Int32)) - ((p2 &&& (2147483647 : Int32)) / (5 : Int32)) * (5 : Int32))) &&& 0x3f).toInt64.toUInt64).toInt64) &&& (4294967295 : Int64)))])) _
    refine XS.lstore X44.here hx rfl (hb hby at_95) rfl (l' := #[.val (.long q1), .second, .val (.int p2), .val (.ref b1), .val (.int ((p2 &&& (2147483647 : Int32)) - ((p2 &&& (2147483647 : Int32)) / (5 : Int32)) * (5 : Int32))), .val (.long (((q1.toUInt64 >>> (((8 : Int32) * ((p2 &&& (2147483647 : Int32)) - ((p2 &&& (2147483647 : Int32)) / (5 : Int32)) * (5 : Int32))) &&& 0x3f).toInt64.toUInt64).toInt64) &&& (4294967295 : Int64))), .second, .unset, .unset]) rfl ?_
    show Steps _ _ _ (T44.setTop (mkF m 97 #[.val (.long q1), .second, .val (.int p2), .val (.ref b1), .val (.int ((p2 &&& (2147483647 : Int32)) - ((p2 &&& (2147483647 : Int32)) / (5 : Int32)) * (5 : Int32))), .val (.long (((q1.toUInt64 >>> (((8 : Int32) * ((p2 &&& (2147483647 : Int32)) - ((p2 &&& (2147483647 : Int32)) / (5 : Int32)) * (5 : Int32))) &&& 0x3f).toInt64.toUInt64).toInt64) &&& (4294967295 : Int64))), .second, .unset, .unset] [])) _
    refine XS.aloadN X44.here hx rfl (hb hby at_97) rfl rfl ?_
    show Steps _ _ _ (T44.setTop (mkF m 98 #[.val (.long q1), .second, .val (.int p2), .val (.ref b1), .val (.int ((p2 &&& (2147483647 : Int32)) - ((p2 &&& (2147483647 : Int32)) / (5 : Int32)) * (5 : Int32))), .val (.long (((q1.toUInt64 >>> (((8 : Int32) * ((p2 &&& (2147483647 : Int32)) - ((p2 &&& (2147483647 : Int32)) / (5 : Int32)) * (5 : Int32))) &&& 0x3f).toInt64.toUInt64).toInt64) &&& (4294967295 : Int64))), .second, .unset, .unset] [(.ref b1)])) _
    refine XS.iload X44.here hx rfl (hb hby at_98) rfl ?_
    show Steps _ _ _ (T44.setTop (mkF m 100 #[.val (.long q1), .second, .val (.int p2), .val (.ref b1), .val (.int ((p2 &&& (2147483647 : Int32)) - ((p2 &&& (2147483647 : Int32)) / (5 : Int32)) * (5 : Int32))), .val (.long (((q1.toUInt64 >>> (((8 : Int32) * ((p2 &&& (2147483647 : Int32)) - ((p2 &&& (2147483647 : Int32)) / (5 : Int32)) * (5 : Int32))) &&& 0x3f).toInt64.toUInt64).toInt64) &&& (4294967295 : Int64))), .second, .unset, .unset] [(.int ((p2 &&& (2147483647 : Int32)) - ((p2 &&& (2147483647 : Int32)) / (5 : Int32)) * (5 : Int32))), (.ref b1)])) _
    refine st47 _ ?_
    show Steps _ _ _ (T47.setTop (mkF m 103 #[.val (.long q1), .second, .val (.int p2), .val (.ref b1), .val (.int ((p2 &&& (2147483647 : Int32)) - ((p2 &&& (2147483647 : Int32)) / (5 : Int32)) * (5 : Int32))), .val (.long (((q1.toUInt64 >>> (((8 : Int32) * ((p2 &&& (2147483647 : Int32)) - ((p2 &&& (2147483647 : Int32)) / (5 : Int32)) * (5 : Int32))) &&& 0x3f).toInt64.toUInt64).toInt64) &&& (4294967295 : Int64))), .second, .unset, .unset] [(.long (own_int (own_b q1 (own_pos p2)) (own_b q1 (own_pos p2 + 1)) (own_b q1 (own_pos p2 + 2)) (own_b q1 (own_pos p2 + 2 + 1))))])) _
    refine XS.lstore X47.here hx rfl (hb hby at_103) rfl (l' := #[.val (.long q1), .second, .val (.int p2), .val (.ref b1), .val (.int ((p2 &&& (2147483647 : Int32)) - ((p2 &&& (2147483647 : Int32)) / (5 : Int32)) * (5 : Int32))), .val (.long (((q1.toUInt64 >>> (((8 : Int32) * ((p2 &&& (2147483647 : Int32)) - ((p2 &&& (2147483647 : Int32)) / (5 : Int32)) * (5 : Int32))) &&& 0x3f).toInt64.toUInt64).toInt64) &&& (4294967295 : Int64))), .second, .val (.long (own_int (own_b q1 (own_pos p2)) (own_b q1 (own_pos p2 + 1)) (own_b q1 (own_pos p2 + 2)) (own_b q1 (own_pos p2 + 2 + 1)))), .second]) rfl ?_
    show Steps _ _ _ (T47.setTop (mkF m 105 #[.val (.long q1), .second, .val (.int p2), .val (.ref b1), .val (.int ((p2 &&& (2147483647 : Int32)) - ((p2 &&& (2147483647 : Int32)) / (5 : Int32)) * (5 : Int32))), .val (.long (((q1.toUInt64 >>> (((8 : Int32) * ((p2 &&& (2147483647 : Int32)) - ((p2 &&& (2147483647 : Int32)) / (5 : Int32)) * (5 : Int32))) &&& 0x3f).toInt64.toUInt64).toInt64) &&& (4294967295 : Int64))), .second, .val (.long (own_int (own_b q1 (own_pos p2)) (own_b q1 (own_pos p2 + 1)) (own_b q1 (own_pos p2 + 2)) (own_b q1 (own_pos p2 + 2 + 1)))), .second] [])) _
    refine XS.lload X47.here hx rfl (hb hby at_105) rfl ?_
    show Steps _ _ _ (T47.setTop (mkF m 107 #[.val (.long q1), .second, .val (.int p2), .val (.ref b1), .val (.int ((p2 &&& (2147483647 : Int32)) - ((p2 &&& (2147483647 : Int32)) / (5 : Int32)) * (5 : Int32))), .val (.long (((q1.toUInt64 >>> (((8 : Int32) * ((p2 &&& (2147483647 : Int32)) - ((p2 &&& (2147483647 : Int32)) / (5 : Int32)) * (5 : Int32))) &&& 0x3f).toInt64.toUInt64).toInt64) &&& (4294967295 : Int64))), .second, .val (.long (own_int (own_b q1 (own_pos p2)) (own_b q1 (own_pos p2 + 1)) (own_b q1 (own_pos p2 + 2)) (own_b q1 (own_pos p2 + 2 + 1)))), .second] [(.long (own_int (own_b q1 (own_pos p2)) (own_b q1 (own_pos p2 + 1)) (own_b q1 (own_pos p2 + 2)) (own_b q1 (own_pos p2 + 2 + 1))))])) _
    refine XS.lload X47.here hx rfl (hb hby at_107) rfl ?_
    show Steps _ _ _ (T47.setTop (mkF m 109 #[.val (.long q1), .second, .val (.int p2), .val (.ref b1), .val (.int ((p2 &&& (2147483647 : Int32)) - ((p2 &&& (2147483647 : Int32)) / (5 : Int32)) * (5 : Int32))), .val (.long (((q1.toUInt64 >>> (((8 : Int32) * ((p2 &&& (2147483647 : Int32)) - ((p2 &&& (2147483647 : Int32)) / (5 : Int32)) * (5 : Int32))) &&& 0x3f).toInt64.toUInt64).toInt64) &&& (4294967295 : Int64))), .second, .val (.long (own_int (own_b q1 (own_pos p2)) (own_b q1 (own_pos p2 + 1)) (own_b q1 (own_pos p2 + 2)) (own_b q1 (own_pos p2 + 2 + 1)))), .second] [(.long (((q1.toUInt64 >>> (((8 : Int32) * ((p2 &&& (2147483647 : Int32)) - ((p2 &&& (2147483647 : Int32)) / (5 : Int32)) * (5 : Int32))) &&& 0x3f).toInt64.toUInt64).toInt64) &&& (4294967295 : Int64))), (.long (own_int (own_b q1 (own_pos p2)) (own_b q1 (own_pos p2 + 1)) (own_b q1 (own_pos p2 + 2)) (own_b q1 (own_pos p2 + 2 + 1))))])) _
    refine XS.lcmp X47.here hx rfl (hb hby at_109) rfl ?_
    show Steps _ _ _ (T47.setTop (mkF m 110 #[.val (.long q1), .second, .val (.int p2), .val (.ref b1), .val (.int ((p2 &&& (2147483647 : Int32)) - ((p2 &&& (2147483647 : Int32)) / (5 : Int32)) * (5 : Int32))), .val (.long (((q1.toUInt64 >>> (((8 : Int32) * ((p2 &&& (2147483647 : Int32)) - ((p2 &&& (2147483647 : Int32)) / (5 : Int32)) * (5 : Int32))) &&& 0x3f).toInt64.toUInt64).toInt64) &&& (4294967295 : Int64))), .second, .val (.long (own_int (own_b q1 (own_pos p2)) (own_b q1 (own_pos p2 + 1)) (own_b q1 (own_pos p2 + 2)) (own_b q1 (own_pos p2 + 2 + 1)))), .second] [(.int (lcmpW (own_int (own_b q1 (own_pos p2)) (own_b q1 (own_pos p2 + 1)) (own_b q1 (own_pos p2 + 2)) (own_b q1 (own_pos p2 + 2 + 1))) (((q1.toUInt64 >>> (((8 : Int32) * ((p2 &&& (2147483647 : Int32)) - ((p2 &&& (2147483647 : Int32)) / (5 : Int32)) * (5 : Int32))) &&& 0x3f).toInt64.toUInt64).toInt64) &&& (4294967295 : Int64))))])) _
    refine XS.ifNo X47.here hx rfl (hb hby at_110) rfl ((if0 _ _).trans (teq ((lw_eq _ _).mpr hc49)).2) ?_
    show Steps _ _ _ (T47.setTop (mkF m 113 #[.val (.long q1), .second, .val (.int p2), .val (.ref b1), .val (.int ((p2 &&& (2147483647 : Int32)) - ((p2 &&& (2147483647 : Int32)) / (5 : Int32)) * (5 : Int32))), .val (.long (((q1.toUInt64 >>> (((8 : Int32) * ((p2 &&& (2147483647 : Int32)) - ((p2 &&& (2147483647 : Int32)) / (5 : Int32)) * (5 : Int32))) &&& 0x3f).toInt64.toUInt64).toInt64) &&& (4294967295 : Int64))), .second, .val (.long (own_int (own_b q1 (own_pos p2)) (own_b q1 (own_pos p2 + 1)) (own_b q1 (own_pos p2 + 2)) (own_b q1 (own_pos p2 + 2 + 1)))), .second] [])) _
    refine XS.iconst X47.here hx rfl (hb hby at_113) ?_
    show Steps _ _ _ (T47.setTop (mkF m 114 #[.val (.long q1), .second, .val (.int p2), .val (.ref b1), .val (.int ((p2 &&& (2147483647 : Int32)) - ((p2 &&& (2147483647 : Int32)) / (5 : Int32)) * (5 : Int32))), .val (.long (((q1.toUInt64 >>> (((8 : Int32) * ((p2 &&& (2147483647 : Int32)) - ((p2 &&& (2147483647 : Int32)) / (5 : Int32)) * (5 : Int32))) &&& 0x3f).toInt64.toUInt64).toInt64) &&& (4294967295 : Int64))), .second, .val (.long (own_int (own_b q1 (own_pos p2)) (own_b q1 (own_pos p2 + 1)) (own_b q1 (own_pos p2 + 2)) (own_b q1 (own_pos p2 + 2 + 1)))), .second] [(.int (1 : Int32))])) _
    refine XS.goto X47.here hx rfl (pc0 := 114) (pc' := 118) rfl (hb hby at_114) (by decide) (by decide) ?_
    show Steps _ _ _ (T47.setTop (mkF m 118 #[.val (.long q1), .second, .val (.int p2), .val (.ref b1), .val (.int ((p2 &&& (2147483647 : Int32)) - ((p2 &&& (2147483647 : Int32)) / (5 : Int32)) * (5 : Int32))), .val (.long (((q1.toUInt64 >>> (((8 : Int32) * ((p2 &&& (2147483647 : Int32)) - ((p2 &&& (2147483647 : Int32)) / (5 : Int32)) * (5 : Int32))) &&& 0x3f).toInt64.toUInt64).toInt64) &&& (4294967295 : Int64))), .second, .val (.long (own_int (own_b q1 (own_pos p2)) (own_b q1 (own_pos p2 + 1)) (own_b q1 (own_pos p2 + 2)) (own_b q1 (own_pos p2 + 2 + 1)))), .second] [(.int (1 : Int32))])) _
    exact k
  obtain ⟨fs, hr, hrun, hended, hW, hsame⟩ := X47.leave (v := some (.int (1 : Int32))) (fun h => by rw [Bd.returns] at h; cases h)
  refine ⟨_, _, pre50 _ ?_, hrun, hended, _, _, rfl, ?_, ⟨_, rfl⟩, hW, hsame.mono (by decide) (by decide)⟩
  · exact retN X47 hx (t := .boolean) Bd.returns (by simp) (hb hby at_118) hr
  · show Q_rm0 Z q1 p2 h0 n0 _ T47.heap _
    rw [q47_0]
    exact ⟨rfl, N48, KC45⟩
set_option maxRecDepth 65536 in
set_option maxHeartbeats 40000000 in
theorem comes_1 {Post : Tables → Env → Array Value → State → Outcome → State → Prop} (hpost : ∀ tb e args s v u, (limb_1_1.after args s (.returned v) u = true ∧ limb_1_2.after args s (.returned v) u = true ∧ True) → FrameEnd s (.returned v) u (Jvm.fieldLocs frame_1_writes args s ++ Jvm.arrayLocs frame_1_arrays args s ++ Jvm.staticLocs frame_1_statics s) 16 128 → Post tb e args s (.returned v) u) :
    ArmFor flags0 classFile x code maxLocals ret World_1 tables_1 room_1 Calls_1 rest_1 Pre_1 Post := by
  intro l hfl _ _ p e ha hc hk s m args below hf hA hF happ hP
  obtain ⟨hcalls, hrest, hpre⟩ := hP
  obtain ⟨-, -, -, hnamed, -, -, -, hat⟩ := (Spec.applies_iff hf).mp happ
  obtain ⟨hg, hn⟩ := and_e (Cond.before_iff.mp (show (Jvm.Cond.and given_1 narrow_1).before args s = true from hpre))
  obtain ⟨g0, r0⟩ := and_e hg
  obtain ⟨g1, r1⟩ := and_e r0
  obtain ⟨w0, w1, rfl⟩ : ∃ w0 w1 : Value, args = #[w0, w1] := by
    have hs : args.size = 2 := by simpa [Cond.value, given_1] using g0
    obtain ⟨L⟩ := args
    match L, hs with
    | [w0, w1], _ => exact ⟨w0, w1, rfl⟩
  have hw := fun d (hd : d ∈ tables_1) => atoms_spec (ws := Jvm.Cond.code x code maxLocals ret :: tables_1) hat d (List.mem_cons_of_mem _ hd)
  have hfit : Fit s := fun {y c} hc i hi => by
    obtain ⟨ha, rfl⟩ := Array.getElem?_eq_some_iff.mp hc
    have q := List.all_eq_true.mp ((Array.all_eq_true_iff_forall_mem.mp hF) _ (Array.getElem_mem ha)) i (List.mem_range.mpr hi)
    simpa [Array.getElem?_eq_getElem hi] using q
  obtain ⟨i0, ei0⟩ := isL_v g1
  obtain rfl : w0 = (.long i0) := Option.some.inj ei0
  obtain ⟨i1, ei1⟩ := is_v r1
  obtain rfl : w1 = (.int i1) := Option.some.inj ei1
  obtain ⟨n, o, h1, h2, h3, _, L, rfl, ⟨rfl, N, -⟩, hq⟩ := rm0 l s _ hw tables_1 i0 i1 s.heap s.heap.size (Nat.le_refl _)  p e ha hc hk s m _ below hf ((Spec.applies_iff_loose hf).mp happ).1 ⟨rfl, State.Warmed39.refl s, rfl⟩ trivial
  refine ⟨n, _, h1, h2, h3, hpost _ _ _ _ _ _ ⟨Cond.after_iff.mpr rfl, Cond.after_iff.mpr (eq_i res_at (Term.int_eval (1)) rfl), trivial⟩ ⟨hq.1, hq.2.1, (hq.2.2.sift fun y hy => Or.inr (N y hy)).mono (by decide) (by decide)⟩⟩
theorem main_1_1 : Claimed_1_1 := comes_1 fun _ _ _ _ _ _ h hF => ⟨h.1, hF⟩
theorem main_1_2 : Claimed_1_2 := comes_1 fun _ _ _ _ _ _ h hF => ⟨h.2.1, hF⟩
end Jvm.Pilot.@@N@@
namespace Jvm.Pilot.@@N@@
open Jvm Jvm.ClassFile Sem Op Lib Jvm.Free Jvm.Stand Jvm.Pilot.@@N@@.Jvm.D
/-! MADE BY PROGRAM (witnessworld.py) out of the Statement's table words and the real class files: 9 classes; the members and pool entries that the words name. The judged class is class 1, her method 1. -/
namespace start1
open Jvm.ClassFile
def u (s : String) : CpInfo := .utf8 (stringToUtf16 s)
/-- a pool by its gaps: so many unusable entries, then the entry; so many at the end -/
def gap : Nat → List CpInfo → List CpInfo
  | 0, r => r
  | n + 1, r => .unusable :: gap n r
def poolList (es : List (Nat × CpInfo)) (last : Nat) : List CpInfo := es.foldr (fun e r => gap e.1 (e.2 :: r)) (gap last [])
def pool (es : List (Nat × CpInfo)) (last : Nat) : Array CpInfo := ⟨poolList es last⟩
def fileOf (pool : Array CpInfo) (this : Nat) (attrs : Array Attribute := #[]) (ms : Array MethodInfo := #[]) (fl : Nat := 33) (sup : Nat := 0) (ifs : Array Nat := #[]) (fds : Array FieldInfo := #[]) : ClassFile where
  minorVersion := 0
  majorVersion := 65
  constantPool := pool
  accessFlags := fl
  thisClass := this
  superClass := sup
  interfaces := ifs
  fields := fds
  methods := ms
  attributes := attrs
def plain (name : String) (sup : Option ClassId) : Class where
  name := name
  kind := .ordinary
  loader := none
  accessFlags := 33
  super := sup
  interfaces := #[]
  cf := none
  fields := #[]
  methods := #[]
  instanceTypes := #[]
  staticTypes := #[]
  resolved := #[]
  callSites := []
  init := .initialized
  statics := none
  mirror := none

def pool0 : Array CpInfo := pool [(5, u "<init>"), (0, u "()V"), (1, .class_ 10), (1, u "java/lang/Object")] 113

def k0m0 : Method := { name := "<init>", desc := "()V", sig := { parameters := [], returnType := none }, accessFlags := 1, code := none }
/-- java/lang/Object -/
def k0 : Class := { plain "java/lang/Object" none with
  accessFlags := 33
  interfaces := #[]
  cf := some (fileOf pool0 8 #[] #[{ accessFlags := 1, nameIndex := 5, descriptorIndex := 6, attributes := #[] }] 33 0 #[] #[])
  fields := #[]
  methods := #[k0m0]
  instanceTypes := #[]
  staticTypes := #[]
  resolved := Array.replicate 124 none
  statics := none }

def pool1 : Array CpInfo := pool [(2, .class_ 4), (1, u "java/lang/Object"), (0, u "<init>"), (0, u "()V"), (0, .integer 2147483647), (0, .long 4294967295), (1, .methodref 11 12), (0, .class_ 13), (0, .nameAndType 14 15), (0, u "com/example/blockflate/blockflate/Layout"), (0, u "getUnsignedInt"), (0, u "([BI)J"), (0, .class_ 17), (0, u "com/example/blockflate/blockflate/LayoutGetUnsignedIntPinLaw"), (2, u "law"), (0, u "(JI)Z")] 5

def k1m0 : Method := { name := "<init>", desc := "()V", sig := { parameters := [], returnType := none }, accessFlags := 1, code := none }
def k1c1 : Code := { maxStack := 5, maxLocals := 9, code := code, exceptionTable := #[], attributes := #[] }
def k1m1 : Method := { name := "law", desc := "(JI)Z", sig := { parameters := [.long, .int], returnType := some .boolean }, accessFlags := 9, code := some k1c1 }
/-- com/example/blockflate/blockflate/LayoutGetUnsignedIntPinLaw -/
def k1 : Class := { plain "com/example/blockflate/blockflate/LayoutGetUnsignedIntPinLaw" (some 0) with
  accessFlags := 49
  interfaces := #[]
  cf := some (fileOf pool1 16 #[] #[{ accessFlags := 1, nameIndex := 5, descriptorIndex := 6, attributes := #[] }, { accessFlags := 9, nameIndex := 20, descriptorIndex := 21, attributes := #[] }] 49 2 #[] #[])
  fields := #[]
  methods := #[k1m0, k1m1]
  instanceTypes := #[]
  staticTypes := #[]
  resolved := Array.replicate 27 none
  statics := none }

def pool2 : Array CpInfo := pool [(1, .class_ 2), (0, u "com/example/blockflate/blockflate/Layout"), (1, .class_ 6), (1, u "java/lang/Object"), (0, u "<init>"), (0, u "()V"), (52, u "DATA_HEADER_LENGTH"), (0, u "I"), (9, u "EXTRA_START"), (48, .class_ 122), (0, u "com/example/blockflate/blockflate/Layout$IndexPart"), (22, u "EMPTY_BODY"), (0, u "[B"), (25, u "([BI)I"), (7, .methodref 1 181), (0, .nameAndType 182 172), (0, u "getUnsignedShort"), (27, .class_ 211), (0, u "com/example/blockflate/blockflate/Layout$Lengths"), (2, u "getUnsignedInt"), (0, u "([BI)J"), (22, u "MIN_BODY_LENGTH"), (29, u "TAIL_LENGTH"), (21, u "MIN_INDEX_LENGTH"), (39, u "SMALLEST_DATA_HEADER_LENGTH"), (1, .class_ 333), (0, u "com/example/blockflate/blockflate/Layout$Entry"), (33, u "HEADER_START"), (6, u "MAX_DATA_HEADER_LENGTH"), (0, u "VERSION"), (2, u "LENGTHS_ID"), (0, u "Ljava/lang/String;"), (0, u "ENTRIES_ID"), (0, u "END_ID"), (0, u "KEY_ID"), (0, u "LINE_ID"), (0, u "SUBFIELD_HEADER"), (1, u "LENGTHS_SIZE"), (1, u "LINE_SIZE"), (1, u "END_SIZE"), (1, u "MAX_EXTRA_LENGTH"), (0, u "ENTRY_SIZE"), (1, u "MAX_KEY_LENGTH"), (1, u "KEY_LENGTH_SIZE"), (0, u "NO_KEY"), (0, u "TRAILER_LENGTH"), (0, u "MAX_BLOCK_SIZE"), (1, u "INDEX_ROOM"), (0, u "ENTRIES_PER_INDEX_MEMBER")] 68

def k2m0 : Method := { name := "<init>", desc := "()V", sig := { parameters := [], returnType := none }, accessFlags := 2, code := none }
def k2c1 : Code := { maxStack := 4, maxLocals := 2, code := prog_16_method_32_code, exceptionTable := #[], attributes := #[] }
def k2m1 : Method := { name := "getUnsignedShort", desc := "([BI)I", sig := { parameters := [(.array .byte), .int], returnType := some .int }, accessFlags := 10, code := some k2c1 }
def k2c2 : Code := { maxStack := 5, maxLocals := 2, code := prog_16_method_33_code, exceptionTable := #[], attributes := #[] }
def k2m2 : Method := { name := "getUnsignedInt", desc := "([BI)J", sig := { parameters := [(.array .byte), .int], returnType := some .long }, accessFlags := 8, code := some k2c2 }
/-- com/example/blockflate/blockflate/Layout -/
def k2 : Class := { plain "com/example/blockflate/blockflate/Layout" (some 0) with
  accessFlags := 48
  interfaces := #[]
  cf := some (fileOf pool2 1 #[.nestMembers #[121, 332, 210]] #[{ accessFlags := 2, nameIndex := 7, descriptorIndex := 8, attributes := #[] }, { accessFlags := 10, nameIndex := 182, descriptorIndex := 172, attributes := #[] }, { accessFlags := 8, nameIndex := 214, descriptorIndex := 215, attributes := #[] }] 48 4 #[] #[{ accessFlags := 24, nameIndex := 375, descriptorIndex := 62, attributes := #[] }, { accessFlags := 26, nameIndex := 367, descriptorIndex := 146, attributes := #[] }, { accessFlags := 26, nameIndex := 72, descriptorIndex := 62, attributes := #[] }, { accessFlags := 26, nameIndex := 378, descriptorIndex := 379, attributes := #[] }, { accessFlags := 26, nameIndex := 380, descriptorIndex := 379, attributes := #[] }, { accessFlags := 26, nameIndex := 381, descriptorIndex := 379, attributes := #[] }, { accessFlags := 26, nameIndex := 382, descriptorIndex := 379, attributes := #[] }, { accessFlags := 26, nameIndex := 383, descriptorIndex := 379, attributes := #[] }, { accessFlags := 26, nameIndex := 384, descriptorIndex := 62, attributes := #[] }, { accessFlags := 26, nameIndex := 386, descriptorIndex := 62, attributes := #[] }, { accessFlags := 26, nameIndex := 388, descriptorIndex := 62, attributes := #[] }, { accessFlags := 26, nameIndex := 390, descriptorIndex := 62, attributes := #[] }, { accessFlags := 26, nameIndex := 392, descriptorIndex := 62, attributes := #[] }, { accessFlags := 24, nameIndex := 393, descriptorIndex := 62, attributes := #[] }, { accessFlags := 24, nameIndex := 395, descriptorIndex := 62, attributes := #[] }, { accessFlags := 26, nameIndex := 397, descriptorIndex := 62, attributes := #[] }, { accessFlags := 26, nameIndex := 398, descriptorIndex := 62, attributes := #[] }, { accessFlags := 26, nameIndex := 330, descriptorIndex := 62, attributes := #[] }, { accessFlags := 26, nameIndex := 61, descriptorIndex := 62, attributes := #[] }, { accessFlags := 24, nameIndex := 374, descriptorIndex := 62, attributes := #[] }, { accessFlags := 26, nameIndex := 145, descriptorIndex := 146, attributes := #[] }, { accessFlags := 24, nameIndex := 399, descriptorIndex := 62, attributes := #[] }, { accessFlags := 26, nameIndex := 238, descriptorIndex := 62, attributes := #[] }, { accessFlags := 24, nameIndex := 400, descriptorIndex := 62, attributes := #[] }, { accessFlags := 24, nameIndex := 268, descriptorIndex := 62, attributes := #[] }, { accessFlags := 26, nameIndex := 402, descriptorIndex := 62, attributes := #[] }, { accessFlags := 24, nameIndex := 403, descriptorIndex := 62, attributes := #[] }, { accessFlags := 26, nameIndex := 290, descriptorIndex := 62, attributes := #[] }])
  fields := #[{ name := "VERSION", type := .int, accessFlags := 24, slot := 0, constantValue := 0 }, { name := "HEADER_START", type := (.array .byte), accessFlags := 26, slot := 1, constantValue := 0 }, { name := "EXTRA_START", type := .int, accessFlags := 26, slot := 2, constantValue := 0 }, { name := "LENGTHS_ID", type := (.object "java/lang/String"), accessFlags := 26, slot := 3, constantValue := 0 }, { name := "ENTRIES_ID", type := (.object "java/lang/String"), accessFlags := 26, slot := 4, constantValue := 0 }, { name := "END_ID", type := (.object "java/lang/String"), accessFlags := 26, slot := 5, constantValue := 0 }, { name := "KEY_ID", type := (.object "java/lang/String"), accessFlags := 26, slot := 6, constantValue := 0 }, { name := "LINE_ID", type := (.object "java/lang/String"), accessFlags := 26, slot := 7, constantValue := 0 }, { name := "SUBFIELD_HEADER", type := .int, accessFlags := 26, slot := 8, constantValue := 0 }, { name := "LENGTHS_SIZE", type := .int, accessFlags := 26, slot := 9, constantValue := 0 }, { name := "LINE_SIZE", type := .int, accessFlags := 26, slot := 10, constantValue := 0 }, { name := "END_SIZE", type := .int, accessFlags := 26, slot := 11, constantValue := 0 }, { name := "MAX_EXTRA_LENGTH", type := .int, accessFlags := 26, slot := 12, constantValue := 0 }, { name := "ENTRY_SIZE", type := .int, accessFlags := 24, slot := 13, constantValue := 0 }, { name := "MAX_KEY_LENGTH", type := .int, accessFlags := 24, slot := 14, constantValue := 0 }, { name := "KEY_LENGTH_SIZE", type := .int, accessFlags := 26, slot := 15, constantValue := 0 }, { name := "NO_KEY", type := .int, accessFlags := 26, slot := 16, constantValue := 0 }, { name := "SMALLEST_DATA_HEADER_LENGTH", type := .int, accessFlags := 26, slot := 17, constantValue := 0 }, { name := "DATA_HEADER_LENGTH", type := .int, accessFlags := 26, slot := 18, constantValue := 0 }, { name := "MAX_DATA_HEADER_LENGTH", type := .int, accessFlags := 24, slot := 19, constantValue := 0 }, { name := "EMPTY_BODY", type := (.array .byte), accessFlags := 26, slot := 20, constantValue := 0 }, { name := "TRAILER_LENGTH", type := .int, accessFlags := 24, slot := 21, constantValue := 0 }, { name := "MIN_BODY_LENGTH", type := .int, accessFlags := 26, slot := 22, constantValue := 0 }, { name := "MAX_BLOCK_SIZE", type := .int, accessFlags := 24, slot := 23, constantValue := 0 }, { name := "TAIL_LENGTH", type := .int, accessFlags := 24, slot := 24, constantValue := 0 }, { name := "INDEX_ROOM", type := .int, accessFlags := 26, slot := 25, constantValue := 0 }, { name := "ENTRIES_PER_INDEX_MEMBER", type := .int, accessFlags := 24, slot := 26, constantValue := 0 }, { name := "MIN_INDEX_LENGTH", type := .int, accessFlags := 26, slot := 27, constantValue := 0 }]
  methods := #[k2m0, k2m1, k2m2]
  instanceTypes := #[]
  staticTypes := #[.int, (.array .byte), .int, (.object "java/lang/String"), (.object "java/lang/String"), (.object "java/lang/String"), (.object "java/lang/String"), (.object "java/lang/String"), .int, .int, .int, .int, .int, .int, .int, .int, .int, .int, .int, .int, (.array .byte), .int, .int, .int, .int, .int, .int, .int]
  resolved := Array.replicate 472 none
  statics := none }

def pool3 : Array CpInfo := pool [(1, u "java/lang/Cloneable"), (0, .class_ 1), (0, u "java/lang/Object"), (0, .class_ 3)] 3

/-- java/lang/Cloneable -/
def k3 : Class := { plain "java/lang/Cloneable" (some 0) with
  accessFlags := 1537
  interfaces := #[]
  cf := some (fileOf pool3 2 #[] #[] 1537 4 #[] #[])
  fields := #[]
  methods := #[]
  instanceTypes := #[]
  staticTypes := #[]
  resolved := Array.replicate 8 none
  statics := none }

def pool4 : Array CpInfo := pool [(1, u "java/io/Serializable"), (0, .class_ 1), (0, u "java/lang/Object"), (0, .class_ 3)] 3

/-- java/io/Serializable -/
def k4 : Class := { plain "java/io/Serializable" (some 0) with
  accessFlags := 1537
  interfaces := #[]
  cf := some (fileOf pool4 2 #[] #[] 1537 4 #[] #[])
  fields := #[]
  methods := #[]
  instanceTypes := #[]
  staticTypes := #[]
  resolved := Array.replicate 8 none
  statics := none }

/-- the primitive byte -/
def k5 : Class := { plain "byte" none with kind := .primitive 'B', accessFlags := 0x411 }
/-- [B -/
def k6 : Class := { plain "[B" (some 0) with kind := .array 5 .byte, interfaces := #[3, 4], accessFlags := 1041 }

/-- the primitive int -/
def k7 : Class := { plain "int" none with kind := .primitive 'I', accessFlags := 0x411 }
/-- [I -/
def k8 : Class := { plain "[I" (some 0) with kind := .array 7 .int, interfaces := #[3, 4], accessFlags := 1041 }

def heap : Heap := #[]
def classes : Array Class := #[k0, k1, k2, k3, k4, k5, k6, k7, k8]
def interned : List (Array UInt16 × Addr) := []
def slotsUsed : Nat := 0
def theMethod : MethodId := ⟨1, 1⟩
def args0 : Array Value := #[.long 5, .int 1]
def aboutOver (below : List Frame) : State where
  vm := { classes := classes, interned := interned.toArray }
  heap := heap
  slotsUsed := slotsUsed
  threads := #[{ frames := .invoking theMethod args0 :: below }]
def below0 : List Frame := [.native { method := ⟨0, 0⟩, args := #[] }]
def about1 : State := aboutOver below0
def p0 : Program := .bare "" "" ""
def e0 : Env := launch0.env 0 0 0
theorem w_frames : about1.frames = Frame.invoking theMethod args0 :: below0 := rfl
set_option maxRecDepth 65536 in
theorem w_args : argsFit about1.vm theMethod args0 = true := by decide +kernel
set_option maxRecDepth 65536 in
theorem w_heap : heapFits about1 = true := by decide +kernel
set_option maxRecDepth 65536 in
theorem w_runnable : about1.curStatus? = some .runnable := by decide +kernel
set_option maxRecDepth 65536 in
theorem w_alone : about1.alone = true := by decide +kernel
set_option maxRecDepth 65536 in
theorem w_named : about1.methodNamed? x = some theMethod := by decide +kernel
set_option maxRecDepth 65536 in
theorem w_hears : about1.hears theMethod below0 = true := by decide +kernel
set_option maxRecDepth 65536 in
theorem w_ripe : about1.ripe theMethod args0 below0 = true := by decide +kernel
theorem w_running : about1.status = .running := rfl
set_option maxRecDepth 65536 in
theorem w_room : about1.hasRoom e0.platform room_1 = true :=
  launch0.hasRoom_least _ room_1 (by decide +kernel) (by decide +kernel) (by decide +kernel) (by decide +kernel) (by decide +kernel) (by decide +kernel)
theorem allAtoms_all (ts : List Jvm.Cond) (a : Array Jvm.Value) (st : Jvm.State) : (allAtoms ts).before a st = ts.all (fun c => c.before a st) := by
  induction ts with
  | nil => rfl
  | cons c t ih =>
    show (Jvm.Cond.and c (allAtoms t)).before a st = _
    rw [Jvm.Cond.before_and, ih, List.all_cons]
def words1 : List Jvm.Cond := Jvm.Cond.code x code maxLocals ret :: tables_1
/-- a 'code' word, met by the world's own term for the bytes: nothing is compared byte by byte -/
theorem code_word {y : MethodName} {bytes : ByteArray} {mx : Nat} {rt : Option FieldType} {a : Array Value} {s : State} {m : MethodId} {meth : Method} {c : Code} (h1 : s.methodNamed? y = some m) (h2 : s.vm.method? m = some meth) (h3 : meth.code = some c) (h4 : c.code = bytes)
    (h5 : (c.maxLocals == mx && c.exceptionTable.isEmpty && decide (c.maxStack ≤ mostOperands) && decide (meth.sig.returnType = rt) && !meth.locks && decide (parseMethodDescriptor y.desc = some meth.sig)) = true) : (Jvm.Cond.code y bytes mx rt).before a s = true := by
  simp only [Bool.and_eq_true, beq_iff_eq, Bool.not_eq_true', decide_eq_true_eq] at h5
  obtain ⟨⟨⟨⟨⟨g1, g2⟩, g3⟩, g4⟩, g5⟩, g6⟩ := h5
  simp [Cond.before, Cond.holds, Cond.value, h1, h2, h3, h4, g1, g2, g3, g4, g5, g6]
def isCode : Jvm.Cond → Bool
  | .code _ _ _ _ => true
  | _ => false
theorem all_split {L : List Jvm.Cond} {P : Jvm.Cond → Bool} (h1 : L.all (fun c => isCode c || P c) = true) (h2 : ∀ c ∈ L.filter isCode, P c = true) : L.all P = true := by
  refine List.all_eq_true.mpr fun c hc => ?_
  have h := List.all_eq_true.mp h1 c hc
  rcases Bool.eq_false_or_eq_true (isCode c) with hi | hi
  · exact h2 c (List.mem_filter.mpr ⟨hc, hi⟩)
  · simpa [hi] using h
set_option maxRecDepth 65536 in
theorem w_c0 : (Jvm.Cond.code x code maxLocals ret).before args0 about1 = true := code_word (m := ⟨1, 1⟩) (meth := k1m1) (c := k1c1) (by decide +kernel) rfl rfl rfl (by decide +kernel)
set_option maxRecDepth 65536 in
theorem w_c1 : (Jvm.Cond.code ({ cls := "com/example/blockflate/blockflate/Layout", name := "getUnsignedInt", desc := "([BI)J" } : Jvm.MethodName) prog_16_method_33_code (2 : Nat) (Option.some Jvm.ClassFile.FieldType.long)).before args0 about1 = true := code_word (m := ⟨2, 2⟩) (meth := k2m2) (c := k2c2) (by decide +kernel) rfl rfl rfl (by decide +kernel)
set_option maxRecDepth 65536 in
theorem w_c2 : (Jvm.Cond.code ({ cls := "com/example/blockflate/blockflate/Layout", name := "getUnsignedShort", desc := "([BI)I" } : Jvm.MethodName) prog_16_method_32_code (2 : Nat) (Option.some Jvm.ClassFile.FieldType.int)).before args0 about1 = true := code_word (m := ⟨2, 1⟩) (meth := k2m1) (c := k2c1) (by decide +kernel) rfl rfl rfl (by decide +kernel)
def codes1 : List Jvm.Cond := [Jvm.Cond.code x code maxLocals ret, Jvm.Cond.code ({ cls := "com/example/blockflate/blockflate/Layout", name := "getUnsignedInt", desc := "([BI)J" } : Jvm.MethodName) prog_16_method_33_code (2 : Nat) (Option.some Jvm.ClassFile.FieldType.long), Jvm.Cond.code ({ cls := "com/example/blockflate/blockflate/Layout", name := "getUnsignedShort", desc := "([BI)I" } : Jvm.MethodName) prog_16_method_32_code (2 : Nat) (Option.some Jvm.ClassFile.FieldType.int)]
set_option maxRecDepth 65536 in
theorem codes_eq : words1.filter isCode = codes1 := rfl
theorem w_codes : ∀ c ∈ words1.filter isCode, c.before args0 about1 = true := by
  rw [codes_eq]
  intro c hc
  simp only [codes1, List.mem_cons, List.not_mem_nil, or_false] at hc
  rcases hc with rfl | rfl | rfl
  · exact w_c0
  · exact w_c1
  · exact w_c2
set_option maxRecDepth 65536 in
theorem w_t1 : words1.all (fun c => isCode c || c.before args0 about1) = true := by decide +kernel
theorem w_tables : (allAtoms (Jvm.Cond.code x code maxLocals ret :: tables_1)).before args0 about1 = true := by
  rw [allAtoms_all]
  show words1.all (fun c => c.before args0 about1) = true
  refine all_split ?_ w_codes
  rw [w_t1]
set_option maxRecDepth 65536 in
theorem w_case : (Jvm.Cond.and given_1 narrow_1).before args0 about1 = true := by decide +kernel
theorem w_applies : (headSpec (Jvm.Cond.code x code maxLocals ret :: tables_1) room_1).applies x e0.platform about1 = true :=
  (Spec.applies_iff w_frames).mpr ⟨w_running, w_runnable, w_alone, w_named, w_hears, w_ripe, w_room, w_tables⟩
theorem atStart : AtStart classFile x code maxLocals ret World_1 tables_1 room_1 Calls_1 rest_1 Pre_1 launch0 p0 e0 about1 theMethod args0 below0 :=
  ⟨lists_1, trivial, launch0.admits_env _ _ _, launch0.least_env, fairChoices_fair.cas, fairChoices_fair.clock, w_frames, w_args, w_heap, w_applies, trivial, trivial, w_case⟩
end start1
theorem witness_1 : WitnessClaimed_1 := ⟨start1.p0, start1.e0, start1.about1, start1.theMethod, start1.args0, start1.below0, start1.atStart⟩
end Jvm.Pilot.@@N@@
