import JvmDerived
import JvmDerived.Pilot.@@N@@Statement
import JvmDerived.Pilot.@@N@@Code
set_option linter.unusedVariables false
set_option linter.unusedSimpArgs false
namespace Jvm.RoadKit
open Sem ClassFile Op Lib Jvm.Stand Jvm.Free Jvm.LawKit
section New
variable {p : Program} {l : Launch} {e : Env} {R : Room} {s : State} {m : MethodId} {args : Array Value} {below : List Frame} {meth : Method} {c : Code} {T : State} {locs : List Loc} {cells slots : Nat}
theorem retI (X : Stand p l e R s m args below meth c T locs cells slots) (hx : p.tables.exec = Jvm.exec) {pc : Nat} {Ls : Array Slot} {z : Int32} {rest : List Value} (hret : meth.sig.returnType = some .int) (hd : decode c.code pc = .ok (.ireturn, 1)) {fs : List Frame}
    (hl : ∀ (f : JFrame) (acts : List Action), f.method = m → f.locked = none → f.entered = [] → (doReturn e (T.setTop f) acts (some (.int z))).1 = T.setFrames fs) : Steps p.tables e below (T.setTop (mkF m pc Ls (.int z :: rest))) (T.setFrames fs) := by
  have hm' : T.vm.method? m = some meth := X.method'
  have hn : narrow .int (.int z) = .int z := rfl
  show Steps p.tables e below (T.setTop { method := m, pc := pc, locals := Ls, stack := _ :: rest, locked := none }) _
  jvm_step X.here [X.here.top, hx, hd, hm', hret, hn]
  first | (intro acts; rw [hl _ acts rfl rfl rfl]) | rw [hl _ _ rfl rfl rfl]
  exact Steps.refl _
end New
end Jvm.RoadKit
namespace Jvm.Pilot.@@N@@
open Jvm Jvm.ClassFile Sem Op Lib Jvm.Free Jvm.Stand Jvm.LawKit Jvm.RoadKit Bundle Jvm.Pilot.@@N@@.Jvm.D

theorem d1_0 : decode prog_16_method_6_code 0 = .ok (.iconst 2, 1) := by decide +kernel
theorem d1_1 : decode prog_16_method_6_code 1 = .ok (.aload_n 0, 1) := by decide +kernel
theorem d1_2 : decode prog_16_method_6_code 2 = .ok (.ifnonnull 7, 3) := by decide +kernel
theorem d1_5 : decode prog_16_method_6_code 5 = .ok (.iconst 0, 1) := by decide +kernel
theorem d1_6 : decode prog_16_method_6_code 6 = .ok (.goto 5, 3) := by decide +kernel
theorem d1_11 : decode prog_16_method_6_code 11 = .ok (.iadd, 1) := by decide +kernel
theorem d1_12 : decode prog_16_method_6_code 12 = .ok (.ireturn, 1) := by decide +kernel
theorem pn_0 : plainName "com/example/blockflate/blockflate/Layout" = true := by first | (simp [plainName, overriddenIn]; done) | decide +kernel
theorem ef_rm_kelN (m : MethodId) : entryFrame m #[.null] 1 = mkF m 0 #[.val .null] [] := by first | (simp [entryFrame, mkF, argsToLocals, Value.category]; done) | rfl
def Q_rm_kelN (Z : State) (h0 : Heap) (n0 : Nat) (v : Option Value) (h : Heap) (L : List Loc) : Prop := v = some (.int (2 : Int32)) ∧ Fr n0 L ∧ h = h0
set_option maxRecDepth 65536 in
set_option maxHeartbeats 40000000 in
theorem rm_kelN (l : Launch) (Z : State) (a0 : Array Value) (hw : ∀ d ∈ tables_1, d.before a0 Z = true) (ws : List Jvm.Cond) (h0 : Heap) (n0 : Nat) (Z0 : n0 ≤ h0.size) :
    MetFree l (⟨"com/example/blockflate/blockflate/Layout", "keyEntryLength", "([B)I"⟩ : MethodName) (head1 (Jvm.Cond.code (⟨"com/example/blockflate/blockflate/Layout", "keyEntryLength", "([B)I"⟩ : MethodName) prog_16_method_6_code 1 (some .int) :: ws) ({ frames := 0, cells := 0, slots := 0, locals := 0 } : Room)) (fun a U => a = #[.null] ∧ Z.Warmed39 U.vm ∧ U.heap = h0) (fun _ _ _ _ _ => True) (fun _ U o U' => ∃ v L, o = .returned v ∧ Q_rm_kelN Z h0 n0 v U'.heap L ∧ FrameEnd U o U' L ({ frames := 0, cells := 0, slots := 0, locals := 0 } : Room).cells ({ frames := 0, cells := 0, slots := 0, locals := 0 } : Room).slots) := by
  refine MetFree.of_bodySF (plainFor_of_name pn_0) hisR ?_
  intro p e s m args below meth c s₁ Bd hml0 hP hK
  obtain ⟨rfl, hZ, hh⟩ := hP
  have hx := Bd.exec
  have hby := Bd.bytes
  have hml : c.maxLocals = 1 := hml0
  have hown : s.vm.findClass "com/example/blockflate/blockflate/Layout" = some m.cls := findClass_of_methodNamed Bd.named
  have hnm := (name_of_methodNamed Bd.named Bd.method).1
  have X0 : Stand p l e ({ frames := 0, cells := 0, slots := 0, locals := 0 } : Room) s m #[.null] below meth c s₁ [] 0 0 := Stand.of_body Bd
  have e0 : s₁.heap = h0 := by rw [← hh, Bd.state]; rfl
  have N0 := Fr.nil n0
  have pre0 : ∀ t, Steps p.tables e below (s₁.setTop (mkF m 0 #[.val .null] [])) t → Steps p.tables e below (s₁.setTop (entryFrame m #[.null] 1)) t := fun t k => castTop (ef_rm_kelN m) k
  have pre1 : ∀ t, Steps p.tables e below (s₁.setTop (mkF m 12 #[.val .null] [(.int (2 : Int32))])) t → Steps p.tables e below (s₁.setTop (entryFrame m #[.null] 1)) t := by
    intro t k
    refine pre0 t ?_
    refine XS.iconst X0.here hx rfl (hb hby d1_0) ?_
    show Steps _ _ _ (s₁.setTop (mkF m 1 #[.val .null] [(.int (2 : Int32))])) _
    refine XS.aloadN X0.here hx rfl (hb hby d1_1) rfl rfl ?_
    show Steps _ _ _ (s₁.setTop (mkF m 2 #[.val .null] [.null, (.int (2 : Int32))])) _
    refine XS.ifnonnullNo X0.here hx rfl (hb hby d1_2) rfl ?_
    show Steps _ _ _ (s₁.setTop (mkF m 5 #[.val .null] [(.int (2 : Int32))])) _
    refine XS.iconst X0.here hx rfl (hb hby d1_5) ?_
    show Steps _ _ _ (s₁.setTop (mkF m 6 #[.val .null] [(.int (0 : Int32)), (.int (2 : Int32))])) _
    refine XS.goto X0.here hx rfl (pc0 := 6) (pc' := 11) rfl (hb hby d1_6) (by decide) (by decide) ?_
    show Steps _ _ _ (s₁.setTop (mkF m 11 #[.val .null] [(.int (0 : Int32)), (.int (2 : Int32))])) _
    refine XS.iadd X0.here hx rfl (hb hby d1_11) rfl ?_
    show Steps _ _ _ (s₁.setTop (mkF m 12 #[.val .null] [(.int (2 : Int32))])) _
    exact k
  obtain ⟨fs, hr, hrun, hended, hW, hsame⟩ := X0.leave (v := some (.int (2 : Int32))) (fun h => by rw [Bd.returns] at h; cases h)
  refine ⟨_, _, pre1 _ ?_, hrun, hended, _, _, rfl, ?_, ⟨_, rfl⟩, hW, hsame.mono (by decide) (by decide)⟩
  · exact retI X0 hx Bd.returns (hb hby d1_12) hr
  · show Q_rm_kelN Z h0 n0 _ s₁.heap _
    rw [e0]
    exact ⟨rfl, N0, rfl⟩
theorem d1_9 : decode prog_16_method_6_code 9 = .ok (.aload_n 0, 1) := by decide +kernel
theorem d1_10 : decode prog_16_method_6_code 10 = .ok (.arraylength, 1) := by decide +kernel
theorem ef_rm_kelY (m : MethodId) (x0 : Addr) : entryFrame m #[(.ref x0)] 1 = mkF m 0 #[.val (.ref x0)] [] := by first | (simp [entryFrame, mkF, argsToLocals, Value.category]; done) | rfl
def Q_rm_kelY (Z : State) (a1 : Addr) (k : ClassId) (z : Int32) (vs : List Value) (dv : Value) (h0 : Heap) (n0 : Nat) (v : Option Value) (h : Heap) (L : List Loc) : Prop := v = some (.int ((2 : Int32) + z)) ∧ Fr n0 L ∧ h = h0
set_option maxRecDepth 65536 in
set_option maxHeartbeats 40000000 in
theorem rm_kelY (l : Launch) (Z : State) (a0 : Array Value) (hw : ∀ d ∈ tables_1, d.before a0 Z = true) (ws : List Jvm.Cond) (a1 : Addr) (k : ClassId) (z : Int32) (vs : List Value) (dv : Value) (h0 : Heap) (n0 : Nat) (Z0 : n0 ≤ h0.size) (V1 : Arv Z h0 a1 k .byte z vs dv) :
    MetFree l (⟨"com/example/blockflate/blockflate/Layout", "keyEntryLength", "([B)I"⟩ : MethodName) (head1 (Jvm.Cond.code (⟨"com/example/blockflate/blockflate/Layout", "keyEntryLength", "([B)I"⟩ : MethodName) prog_16_method_6_code 1 (some .int) :: ws) ({ frames := 0, cells := 0, slots := 0, locals := 0 } : Room)) (fun a U => a = #[(.ref a1)] ∧ Z.Warmed39 U.vm ∧ U.heap = h0) (fun _ _ _ _ _ => True) (fun _ U o U' => ∃ v L, o = .returned v ∧ Q_rm_kelY Z a1 k z vs dv h0 n0 v U'.heap L ∧ FrameEnd U o U' L ({ frames := 0, cells := 0, slots := 0, locals := 0 } : Room).cells ({ frames := 0, cells := 0, slots := 0, locals := 0 } : Room).slots) := by
  refine MetFree.of_bodySF (plainFor_of_name pn_0) hisR ?_
  intro p e s m args below meth c s₁ Bd hml0 hP hK
  obtain ⟨rfl, hZ, hh⟩ := hP
  have hx := Bd.exec
  have hby := Bd.bytes
  have hml : c.maxLocals = 1 := hml0
  have hown : s.vm.findClass "com/example/blockflate/blockflate/Layout" = some m.cls := findClass_of_methodNamed Bd.named
  have hnm := (name_of_methodNamed Bd.named Bd.method).1
  have X0 : Stand p l e ({ frames := 0, cells := 0, slots := 0, locals := 0 } : Room) s m #[(.ref a1)] below meth c s₁ [] 0 0 := Stand.of_body Bd
  have e0 : s₁.heap = h0 := by rw [← hh, Bd.state]; rfl
  have N0 := Fr.nil n0
  have pre0 : ∀ t, Steps p.tables e below (s₁.setTop (mkF m 0 #[.val (.ref a1)] [])) t → Steps p.tables e below (s₁.setTop (entryFrame m #[(.ref a1)] 1)) t := fun t k => castTop (ef_rm_kelY m a1) k
  obtain ⟨c1, Arc1, Aqc1, Asc1, Anc1, Ahc1, Agc1⟩ := id V1
  have pre2 : ∀ t, Steps p.tables e below (s₁.setTop (mkF m 12 #[.val (.ref a1)] [(.int ((2 : Int32) + z))])) t → Steps p.tables e below (s₁.setTop (entryFrame m #[(.ref a1)] 1)) t := by
    intro t k
    refine pre0 t ?_
    refine XS.iconst X0.here hx rfl (hb hby d1_0) ?_
    show Steps _ _ _ (s₁.setTop (mkF m 1 #[.val (.ref a1)] [(.int (2 : Int32))])) _
    refine XS.aloadN X0.here hx rfl (hb hby d1_1) rfl rfl ?_
    show Steps _ _ _ (s₁.setTop (mkF m 2 #[.val (.ref a1)] [(.ref a1), (.int (2 : Int32))])) _
    refine XS.ifnonnullYes X0.here hx rfl (pc0 := 2) (pc' := 9) rfl (hb hby d1_2) rfl (by decide) (by decide) ?_
    show Steps _ _ _ (s₁.setTop (mkF m 9 #[.val (.ref a1)] [(.int (2 : Int32))])) _
    refine XS.aloadN X0.here hx rfl (hb hby d1_9) rfl rfl ?_
    show Steps _ _ _ (s₁.setTop (mkF m 10 #[.val (.ref a1)] [(.ref a1), (.int (2 : Int32))])) _
    refine X0.arraylength hx (by rw [e0]; exact Arc1.1) (State.isArrayOf_alike hZ.alike Arc1.2.1) (g := (mkF m 10 #[.val (.ref a1)] [(.ref a1), (.int (2 : Int32))])) rfl rfl (hb hby d1_10) _ ?_
    rw [len_of Asc1 Anc1]
    show Steps _ _ _ (s₁.setTop (mkF m 11 #[.val (.ref a1)] [(.int z), (.int (2 : Int32))])) _
    refine XS.iadd X0.here hx rfl (hb hby d1_11) rfl ?_
    show Steps _ _ _ (s₁.setTop (mkF m 12 #[.val (.ref a1)] [(.int ((2 : Int32) + z))])) _
    exact k
  obtain ⟨fs, hr, hrun, hended, hW, hsame⟩ := X0.leave (v := some (.int ((2 : Int32) + z))) (fun h => by rw [Bd.returns] at h; cases h)
  refine ⟨_, _, pre2 _ ?_, hrun, hended, _, _, rfl, ?_, ⟨_, rfl⟩, hW, hsame.mono (by decide) (by decide)⟩
  · exact retI X0 hx Bd.returns (hb hby d1_12) hr
  · show Q_rm_kelY Z a1 k z vs dv h0 n0 _ s₁.heap _
    rw [e0]
    exact ⟨rfl, N0, rfl⟩
theorem d3_0 : decode prog_16_method_29_code 0 = .ok (.aload_n 0, 1) := by decide +kernel
theorem d3_1 : decode prog_16_method_29_code 1 = .ok (.iload_n 1, 1) := by decide +kernel
theorem d3_2 : decode prog_16_method_29_code 2 = .ok (.iload_n 2, 1) := by decide +kernel
theorem d3_3 : decode prog_16_method_29_code 3 = .ok (.i2b, 1) := by decide +kernel
theorem d3_4 : decode prog_16_method_29_code 4 = .ok (.bastore, 1) := by decide +kernel
theorem d3_5 : decode prog_16_method_29_code 5 = .ok (.aload_n 0, 1) := by decide +kernel
theorem d3_6 : decode prog_16_method_29_code 6 = .ok (.iload_n 1, 1) := by decide +kernel
theorem d3_7 : decode prog_16_method_29_code 7 = .ok (.iconst 1, 1) := by decide +kernel
theorem d3_8 : decode prog_16_method_29_code 8 = .ok (.iadd, 1) := by decide +kernel
theorem d3_9 : decode prog_16_method_29_code 9 = .ok (.iload_n 2, 1) := by decide +kernel
theorem d3_10 : decode prog_16_method_29_code 10 = .ok (.bipush 8, 2) := by decide +kernel
theorem d3_12 : decode prog_16_method_29_code 12 = .ok (.iushr, 1) := by decide +kernel
theorem d3_13 : decode prog_16_method_29_code 13 = .ok (.i2b, 1) := by decide +kernel
theorem d3_14 : decode prog_16_method_29_code 14 = .ok (.bastore, 1) := by decide +kernel
theorem d3_15 : decode prog_16_method_29_code 15 = .ok (.iload_n 1, 1) := by decide +kernel
theorem d3_16 : decode prog_16_method_29_code 16 = .ok (.iconst 2, 1) := by decide +kernel
theorem d3_17 : decode prog_16_method_29_code 17 = .ok (.iadd, 1) := by decide +kernel
theorem d3_18 : decode prog_16_method_29_code 18 = .ok (.ireturn, 1) := by decide +kernel
theorem ef_rm3 (m : MethodId) (x0 : Addr) (x1 : Int32) (x2 : Int32) : entryFrame m #[(.ref x0), (.int x1), (.int x2)] 3 = mkF m 0 #[.val (.ref x0), .val (.int x1), .val (.int x2)] [] := by first | (simp [entryFrame, mkF, argsToLocals, Value.category]; done) | rfl
def Q_rm3 (Z : State) (a1 : Addr) (p2 : Int32) (p3 : Int32) (k : ClassId) (z : Int32) (vs : List Value) (dv : Value) (h0 : Heap) (n0 : Nat) (v : Option Value) (h : Heap) (L : List Loc) : Prop := v = some (.int (p2 + (2 : Int32))) ∧ Fr n0 L ∧ Keep h0 h [a1] ∧ Arv Z h a1 k .byte z ((vs.set p2.toNatClampNeg (.int (p3.toInt8.toInt32).toInt8.toInt32)).set (p2 + (1 : Int32)).toNatClampNeg (.int (((p3.toUInt32 >>> ((8 : Int32) &&& 31).toUInt32).toInt32).toInt8.toInt32).toInt8.toInt32)) dv
set_option maxRecDepth 65536 in
set_option maxHeartbeats 40000000 in
theorem rm3 (l : Launch) (Z : State) (a0 : Array Value) (hw : ∀ d ∈ tables_1, d.before a0 Z = true) (ws : List Jvm.Cond) (a1 : Addr) (p2 : Int32) (p3 : Int32) (k : ClassId) (z : Int32) (vs : List Value) (dv : Value) (h0 : Heap) (n0 : Nat) (Z0 : n0 ≤ h0.size) (V1 : Arv Z h0 a1 k .byte z vs dv) (g1 : n0 ≤ a1) (hi0 : ¬ p2 < 0 ∧ p2 < z) (hi1 : ¬ (p2 + (1 : Int32)) < 0 ∧ (p2 + (1 : Int32)) < z) (hl0 : p2.toNatClampNeg < vs.length) (hl1 : (p2 + (1 : Int32)).toNatClampNeg < vs.length) :
    MetFree l (⟨"com/example/blockflate/blockflate/Layout", "putShort", "([BII)I"⟩ : MethodName) (head1 (Jvm.Cond.code (⟨"com/example/blockflate/blockflate/Layout", "putShort", "([BII)I"⟩ : MethodName) prog_16_method_29_code 3 (some .int) :: ws) ({ frames := 0, cells := 0, slots := 0, locals := 0 } : Room)) (fun a U => a = #[(.ref a1), (.int p2), (.int p3)] ∧ Z.Warmed39 U.vm ∧ U.heap = h0) (fun _ _ _ _ _ => True) (fun _ U o U' => ∃ v L, o = .returned v ∧ Q_rm3 Z a1 p2 p3 k z vs dv h0 n0 v U'.heap L ∧ FrameEnd U o U' L ({ frames := 0, cells := 0, slots := 0, locals := 0 } : Room).cells ({ frames := 0, cells := 0, slots := 0, locals := 0 } : Room).slots) := by
  refine MetFree.of_bodySF (plainFor_of_name pn_0) hisR ?_
  intro p e s m args below meth c s₁ Bd hml0 hP hK
  obtain ⟨rfl, hZ, hh⟩ := hP
  have hx := Bd.exec
  have hby := Bd.bytes
  have hml : c.maxLocals = 3 := hml0
  have hown : s.vm.findClass "com/example/blockflate/blockflate/Layout" = some m.cls := findClass_of_methodNamed Bd.named
  have hnm := (name_of_methodNamed Bd.named Bd.method).1
  have X0 : Stand p l e ({ frames := 0, cells := 0, slots := 0, locals := 0 } : Room) s m #[(.ref a1), (.int p2), (.int p3)] below meth c s₁ [] 0 0 := Stand.of_body Bd
  have e0 : s₁.heap = h0 := by rw [← hh, Bd.state]; rfl
  have N0 := Fr.nil n0
  have pre0 : ∀ t, Steps p.tables e below (s₁.setTop (mkF m 0 #[.val (.ref a1), .val (.int p2), .val (.int p3)] [])) t → Steps p.tables e below (s₁.setTop (entryFrame m #[(.ref a1), (.int p2), (.int p3)] 3)) t := fun t k => castTop (ef_rm3 m a1 p2 p3) k
  obtain ⟨c1, Arc1, Aqc1, Asc1, Anc1, Ahc1, Agc1⟩ := id V1
  have hin2 : ¬ (p2 < 0 ∨ c1.slots.size ≤ (p2).toNatClampNeg) := inb_of Asc1 hi0
  obtain ⟨T3, h3, X3, e3, W3, st3⟩ := stB X0 hx hZ e0 Arc1 (j := p2) hin2 (g := (mkF m 4 #[.val (.ref a1), .val (.int p2), .val (.int p3)] [(.int (p3.toInt8.toInt32)), (.int p2), (.ref a1)])) rfl rfl (hb hby d3_4)
  have KC4 : Keep h0 h3 [a1] := (Keep.refl h0 [a1]).wr W3 (Or.inl (List.mem_of_getElem? (i := 0) rfl))
  have V3 : Arv Z h3 a1 k .byte z (vs.set (p2).toNatClampNeg (.int (p3.toInt8.toInt32).toInt8.toInt32)) dv := Arv.set Arc1 Aqc1 Asc1 Anc1 Ahc1 Agc1 (fits_nar_byte _) W3 (p2).toNatClampNeg rfl hl0
  have N5 := Fr.snoc X3 N0 g1
  obtain ⟨c6, Arc6, Aqc6, Asc6, Anc6, Ahc6, Agc6⟩ := id V3
  have hin7 : ¬ ((p2 + (1 : Int32)) < 0 ∨ c6.slots.size ≤ ((p2 + (1 : Int32))).toNatClampNeg) := inb_of Asc6 hi1
  obtain ⟨T8, h8, X8, e8, W8, st8⟩ := stB X3 hx hZ e3 Arc6 (j := (p2 + (1 : Int32))) hin7 (g := (mkF m 14 #[.val (.ref a1), .val (.int p2), .val (.int p3)] [(.int (((p3.toUInt32 >>> ((8 : Int32) &&& 31).toUInt32).toInt32).toInt8.toInt32)), (.int (p2 + (1 : Int32))), (.ref a1)])) rfl rfl (hb hby d3_14)
  have KC9 : Keep h0 h8 [a1] := KC4.wr W8 (Or.inl (List.mem_of_getElem? (i := 0) rfl))
  have V8 : Arv Z h8 a1 k .byte z ((vs.set (p2).toNatClampNeg (.int (p3.toInt8.toInt32).toInt8.toInt32)).set ((p2 + (1 : Int32))).toNatClampNeg (.int (((p3.toUInt32 >>> ((8 : Int32) &&& 31).toUInt32).toInt32).toInt8.toInt32).toInt8.toInt32)) dv := Arv.set Arc6 Aqc6 Asc6 Anc6 Ahc6 Agc6 (fits_nar_byte _) W8 ((p2 + (1 : Int32))).toNatClampNeg rfl (by rw [List.length_set]; exact hl1)
  have N10 := Fr.snoc X8 N5 g1
  have pre11 : ∀ t, Steps p.tables e below (T8.setTop (mkF m 18 #[.val (.ref a1), .val (.int p2), .val (.int p3)] [(.int (p2 + (2 : Int32)))])) t → Steps p.tables e below (s₁.setTop (entryFrame m #[(.ref a1), (.int p2), (.int p3)] 3)) t := by
    intro t k
    refine pre0 t ?_
    refine XS.aloadN X0.here hx rfl (hb hby d3_0) rfl rfl ?_
    show Steps _ _ _ (s₁.setTop (mkF m 1 #[.val (.ref a1), .val (.int p2), .val (.int p3)] [(.ref a1)])) _
    refine XS.iloadN X0.here hx rfl (hb hby d3_1) rfl ?_
    show Steps _ _ _ (s₁.setTop (mkF m 2 #[.val (.ref a1), .val (.int p2), .val (.int p3)] [(.int p2), (.ref a1)])) _
    refine XS.iloadN X0.here hx rfl (hb hby d3_2) rfl ?_
    show Steps _ _ _ (s₁.setTop (mkF m 3 #[.val (.ref a1), .val (.int p2), .val (.int p3)] [(.int p3), (.int p2), (.ref a1)])) _
    refine XS.i2b X0.here hx rfl (hb hby d3_3) rfl ?_
    show Steps _ _ _ (s₁.setTop (mkF m 4 #[.val (.ref a1), .val (.int p2), .val (.int p3)] [(.int (p3.toInt8.toInt32)), (.int p2), (.ref a1)])) _
    refine st3 _ ?_
    show Steps _ _ _ (T3.setTop (mkF m 5 #[.val (.ref a1), .val (.int p2), .val (.int p3)] [])) _
    refine XS.aloadN X3.here hx rfl (hb hby d3_5) rfl rfl ?_
    show Steps _ _ _ (T3.setTop (mkF m 6 #[.val (.ref a1), .val (.int p2), .val (.int p3)] [(.ref a1)])) _
    refine XS.iloadN X3.here hx rfl (hb hby d3_6) rfl ?_
    show Steps _ _ _ (T3.setTop (mkF m 7 #[.val (.ref a1), .val (.int p2), .val (.int p3)] [(.int p2), (.ref a1)])) _
    refine XS.iconst X3.here hx rfl (hb hby d3_7) ?_
    show Steps _ _ _ (T3.setTop (mkF m 8 #[.val (.ref a1), .val (.int p2), .val (.int p3)] [(.int (1 : Int32)), (.int p2), (.ref a1)])) _
    refine XS.iadd X3.here hx rfl (hb hby d3_8) rfl ?_
    show Steps _ _ _ (T3.setTop (mkF m 9 #[.val (.ref a1), .val (.int p2), .val (.int p3)] [(.int (p2 + (1 : Int32))), (.ref a1)])) _
    refine XS.iloadN X3.here hx rfl (hb hby d3_9) rfl ?_
    show Steps _ _ _ (T3.setTop (mkF m 10 #[.val (.ref a1), .val (.int p2), .val (.int p3)] [(.int p3), (.int (p2 + (1 : Int32))), (.ref a1)])) _
    refine XS.bipush X3.here hx rfl (hb hby d3_10) ?_
    show Steps _ _ _ (T3.setTop (mkF m 12 #[.val (.ref a1), .val (.int p2), .val (.int p3)] [(.int (8 : Int32)), (.int p3), (.int (p2 + (1 : Int32))), (.ref a1)])) _
    refine XS.iushr X3.here hx rfl (hb hby d3_12) rfl ?_
    show Steps _ _ _ (T3.setTop (mkF m 13 #[.val (.ref a1), .val (.int p2), .val (.int p3)] [(.int ((p3.toUInt32 >>> ((8 : Int32) &&& 31).toUInt32).toInt32)), (.int (p2 + (1 : Int32))), (.ref a1)])) _
    refine XS.i2b X3.here hx rfl (hb hby d3_13) rfl ?_
    show Steps _ _ _ (T3.setTop (mkF m 14 #[.val (.ref a1), .val (.int p2), .val (.int p3)] [(.int (((p3.toUInt32 >>> ((8 : Int32) &&& 31).toUInt32).toInt32).toInt8.toInt32)), (.int (p2 + (1 : Int32))), (.ref a1)])) _
    refine st8 _ ?_
    show Steps _ _ _ (T8.setTop (mkF m 15 #[.val (.ref a1), .val (.int p2), .val (.int p3)] [])) _
    refine XS.iloadN X8.here hx rfl (hb hby d3_15) rfl ?_
    show Steps _ _ _ (T8.setTop (mkF m 16 #[.val (.ref a1), .val (.int p2), .val (.int p3)] [(.int p2)])) _
    refine XS.iconst X8.here hx rfl (hb hby d3_16) ?_
    show Steps _ _ _ (T8.setTop (mkF m 17 #[.val (.ref a1), .val (.int p2), .val (.int p3)] [(.int (2 : Int32)), (.int p2)])) _
    refine XS.iadd X8.here hx rfl (hb hby d3_17) rfl ?_
    show Steps _ _ _ (T8.setTop (mkF m 18 #[.val (.ref a1), .val (.int p2), .val (.int p3)] [(.int (p2 + (2 : Int32)))])) _
    exact k
  obtain ⟨fs, hr, hrun, hended, hW, hsame⟩ := X8.leave (v := some (.int (p2 + (2 : Int32)))) (fun h => by rw [Bd.returns] at h; cases h)
  refine ⟨_, _, pre11 _ ?_, hrun, hended, _, _, rfl, ?_, ⟨_, rfl⟩, hW, hsame.mono (by decide) (by decide)⟩
  · exact retI X8 hx Bd.returns (hb hby d3_18) hr
  · show Q_rm3 Z a1 p2 p3 k z vs dv h0 n0 _ T8.heap _
    rw [e8]
    exact ⟨rfl, N10, KC9, V8⟩
theorem d4_0 : decode prog_16_method_28_code 0 = .ok (.aload_n 2, 1) := by decide +kernel
theorem d4_1 : decode prog_16_method_28_code 1 = .ok (.iload_n 3, 1) := by decide +kernel
theorem d4_2 : decode prog_16_method_28_code 2 = .ok (.aload_n 0, 1) := by decide +kernel
theorem d4_3 : decode prog_16_method_28_code 3 = .ok (.iload_n 1, 1) := by decide +kernel
theorem d4_4 : decode prog_16_method_28_code 4 = .ok (.iload 4, 2) := by decide +kernel
theorem d4_6 : decode prog_16_method_28_code 6 = .ok (.invokestatic 89, 3) := by decide +kernel
theorem d4_9 : decode prog_16_method_28_code 9 = .ok (.iload_n 1, 1) := by decide +kernel
theorem d4_10 : decode prog_16_method_28_code 10 = .ok (.iload 4, 2) := by decide +kernel
theorem d4_12 : decode prog_16_method_28_code 12 = .ok (.iadd, 1) := by decide +kernel
theorem d4_13 : decode prog_16_method_28_code 13 = .ok (.ireturn, 1) := by decide +kernel
theorem ef_rm4 (m : MethodId) (x0 : Addr) (x1 : Int32) (x2 : Addr) (x3 : Int32) (x4 : Int32) : entryFrame m #[(.ref x0), (.int x1), (.ref x2), (.int x3), (.int x4)] 5 = mkF m 0 #[.val (.ref x0), .val (.int x1), .val (.ref x2), .val (.int x3), .val (.int x4)] [] := by first | (simp [entryFrame, mkF, argsToLocals, Value.category]; done) | rfl
def Q_rm4 (Z : State) (a1 : Addr) (p2 : Int32) (a3 : Addr) (p4 : Int32) (p5 : Int32) (kd : ClassId) (zd : Int32) (vd : List Value) (dd : Value) (k : ClassId) (z : Int32) (vs : List Value) (dv : Value) (h0 : Heap) (n0 : Nat) (v : Option Value) (h : Heap) (L : List Loc) : Prop := v = some (.int (p2 + p5)) ∧ Fr n0 L ∧ Keep h0 h [a1] ∧ Arv Z h a1 kd .byte zd (vd.take p2.toNatClampNeg ++ ((List.range p5.toNatClampNeg).map fun i => vs.getD (p4.toNatClampNeg + i) dv) ++ vd.drop (p2.toNatClampNeg + p5.toNatClampNeg)) dd
set_option maxRecDepth 65536 in
set_option maxHeartbeats 40000000 in
theorem rm4 (l : Launch) (Z : State) (a0 : Array Value) (hw : ∀ d ∈ tables_1, d.before a0 Z = true) (ws : List Jvm.Cond) (a1 : Addr) (p2 : Int32) (a3 : Addr) (p4 : Int32) (p5 : Int32) (kd : ClassId) (zd : Int32) (vd : List Value) (dd : Value) (k : ClassId) (z : Int32) (vs : List Value) (dv : Value) (h0 : Heap) (n0 : Nat) (Z0 : n0 ≤ h0.size) (V1 : Arv Z h0 a1 kd .byte zd vd dd) (V3 : Arv Z h0 a3 k .byte z vs dv) (g1 : n0 ≤ a1) (cc1 : ¬ p4 < 0) (cc2 : ¬ p2 < 0) (cc3 : ¬ p5 < 0) (cc4 : p4.toNatClampNeg + p5.toNatClampNeg ≤ z.toNatClampNeg) (cc5 : p2.toNatClampNeg + p5.toNatClampNeg ≤ zd.toNatClampNeg) (cc6 : p2.toNatClampNeg + p5.toNatClampNeg ≤ vd.length) :
    MetFree l (⟨"com/example/blockflate/blockflate/Layout", "put", "([BI[BII)I"⟩ : MethodName) (head1 (Jvm.Cond.code (⟨"com/example/blockflate/blockflate/Layout", "put", "([BI[BII)I"⟩ : MethodName) prog_16_method_28_code 5 (some .int) :: ws) ({ frames := 1, cells := 0, slots := 0, locals := 40 } : Room)) (fun a U => a = #[(.ref a1), (.int p2), (.ref a3), (.int p4), (.int p5)] ∧ Z.Warmed39 U.vm ∧ U.heap = h0) (fun _ _ _ _ _ => True) (fun _ U o U' => ∃ v L, o = .returned v ∧ Q_rm4 Z a1 p2 a3 p4 p5 kd zd vd dd k z vs dv h0 n0 v U'.heap L ∧ FrameEnd U o U' L ({ frames := 1, cells := 0, slots := 0, locals := 40 } : Room).cells ({ frames := 1, cells := 0, slots := 0, locals := 40 } : Room).slots) := by
  refine MetFree.of_bodySF (plainFor_of_name pn_0) hisR ?_
  intro p e s m args below meth c s₁ Bd hml0 hP hK
  obtain ⟨rfl, hZ, hh⟩ := hP
  have hx := Bd.exec
  have hby := Bd.bytes
  have hml : c.maxLocals = 5 := hml0
  have hown : s.vm.findClass "com/example/blockflate/blockflate/Layout" = some m.cls := findClass_of_methodNamed Bd.named
  have hnm := (name_of_methodNamed Bd.named Bd.method).1
  have X0 : Stand p l e ({ frames := 1, cells := 0, slots := 0, locals := 40 } : Room) s m #[(.ref a1), (.int p2), (.ref a3), (.int p4), (.int p5)] below meth c s₁ [] 0 0 := Stand.of_body Bd
  have e0 : s₁.heap = h0 := by rw [← hh, Bd.state]; rfl
  have N0 := Fr.nil n0
  have pre0 : ∀ t, Steps p.tables e below (s₁.setTop (mkF m 0 #[.val (.ref a1), .val (.int p2), .val (.ref a3), .val (.int p4), .val (.int p5)] [])) t → Steps p.tables e below (s₁.setTop (entryFrame m #[(.ref a1), (.int p2), (.ref a3), (.int p4), (.int p5)] 5)) t := fun t k => castTop (ef_rm4 m a1 p2 a3 p4 p5) k
  obtain ⟨T1, h1, L1, X1, e1, N1, K1, V1, st1⟩ := cpA X0 hx hZ hown (hw _ (List.mem_of_getElem? (i := 14) rfl)) (hw _ (List.mem_of_getElem? (i := 17) rfl)) (hw _ (List.mem_of_getElem? (i := 15) rfl)) (hw _ (List.mem_of_getElem? (i := 16) rfl)) e0 V3 V1 (Or.inl ⟨rfl, rfl⟩) cc1 cc2 cc3 cc4 cc5 (us := ((List.range p5.toNatClampNeg).map fun i => vs.getD (p4.toNatClampNeg + i) dv)) rfl cc6 N0 g1 (g := (mkF m 6 #[.val (.ref a1), .val (.int p2), .val (.ref a3), .val (.int p4), .val (.int p5)] [(.int p5), (.int p2), (.ref a1), (.int p4), (.ref a3)])) rfl (by rw [hml]; rfl) (rest := []) rfl (hb hby d4_6) (by decide) (W := 0) (by show 2 * 0 + _ ≤ _; exact Nat.le_of_eq rfl) (by decide)
  have KC2 : Keep h0 h1 [a1] := (Keep.refl h0 [a1]).trans K1 (allS (Or.inl (List.mem_of_getElem? (i := 0) rfl)) all0)
  have pre3 : ∀ t, Steps p.tables e below (T1.setTop (mkF m 13 #[.val (.ref a1), .val (.int p2), .val (.ref a3), .val (.int p4), .val (.int p5)] [(.int (p2 + p5))])) t → Steps p.tables e below (s₁.setTop (entryFrame m #[(.ref a1), (.int p2), (.ref a3), (.int p4), (.int p5)] 5)) t := by
    intro t k
    refine pre0 t ?_
    refine XS.aloadN X0.here hx rfl (hb hby d4_0) rfl rfl ?_
    show Steps _ _ _ (s₁.setTop (mkF m 1 #[.val (.ref a1), .val (.int p2), .val (.ref a3), .val (.int p4), .val (.int p5)] [(.ref a3)])) _
    refine XS.iloadN X0.here hx rfl (hb hby d4_1) rfl ?_
    show Steps _ _ _ (s₁.setTop (mkF m 2 #[.val (.ref a1), .val (.int p2), .val (.ref a3), .val (.int p4), .val (.int p5)] [(.int p4), (.ref a3)])) _
    refine XS.aloadN X0.here hx rfl (hb hby d4_2) rfl rfl ?_
    show Steps _ _ _ (s₁.setTop (mkF m 3 #[.val (.ref a1), .val (.int p2), .val (.ref a3), .val (.int p4), .val (.int p5)] [(.ref a1), (.int p4), (.ref a3)])) _
    refine XS.iloadN X0.here hx rfl (hb hby d4_3) rfl ?_
    show Steps _ _ _ (s₁.setTop (mkF m 4 #[.val (.ref a1), .val (.int p2), .val (.ref a3), .val (.int p4), .val (.int p5)] [(.int p2), (.ref a1), (.int p4), (.ref a3)])) _
    refine XS.iload X0.here hx rfl (hb hby d4_4) rfl ?_
    show Steps _ _ _ (s₁.setTop (mkF m 6 #[.val (.ref a1), .val (.int p2), .val (.ref a3), .val (.int p4), .val (.int p5)] [(.int p5), (.int p2), (.ref a1), (.int p4), (.ref a3)])) _
    refine st1 _ ?_
    show Steps _ _ _ (T1.setTop (mkF m 9 #[.val (.ref a1), .val (.int p2), .val (.ref a3), .val (.int p4), .val (.int p5)] [])) _
    refine XS.iloadN X1.here hx rfl (hb hby d4_9) rfl ?_
    show Steps _ _ _ (T1.setTop (mkF m 10 #[.val (.ref a1), .val (.int p2), .val (.ref a3), .val (.int p4), .val (.int p5)] [(.int p2)])) _
    refine XS.iload X1.here hx rfl (hb hby d4_10) rfl ?_
    show Steps _ _ _ (T1.setTop (mkF m 12 #[.val (.ref a1), .val (.int p2), .val (.ref a3), .val (.int p4), .val (.int p5)] [(.int p5), (.int p2)])) _
    refine XS.iadd X1.here hx rfl (hb hby d4_12) rfl ?_
    show Steps _ _ _ (T1.setTop (mkF m 13 #[.val (.ref a1), .val (.int p2), .val (.ref a3), .val (.int p4), .val (.int p5)] [(.int (p2 + p5))])) _
    exact k
  obtain ⟨fs, hr, hrun, hended, hW, hsame⟩ := X1.leave (v := some (.int (p2 + p5))) (fun h => by rw [Bd.returns] at h; cases h)
  refine ⟨_, _, pre3 _ ?_, hrun, hended, _, _, rfl, ?_, ⟨_, rfl⟩, hW, hsame.mono (by decide) (by decide)⟩
  · exact retI X1 hx Bd.returns (hb hby d4_13) hr
  · show Q_rm4 Z a1 p2 a3 p4 p5 kd zd vd dd k z vs dv h0 n0 _ T1.heap _
    rw [e1]
    exact ⟨rfl, N1, KC2, V1⟩
theorem d2_0 : decode prog_16_method_7_code 0 = .ok (.aload_n 2, 1) := by decide +kernel
theorem d2_1 : decode prog_16_method_7_code 1 = .ok (.ifnonnull 11, 3) := by decide +kernel
theorem d2_4 : decode prog_16_method_7_code 4 = .ok (.aload_n 0, 1) := by decide +kernel
theorem d2_5 : decode prog_16_method_7_code 5 = .ok (.iload_n 1, 1) := by decide +kernel
theorem d2_6 : decode prog_16_method_7_code 6 = .ok (.ldc 98, 2) := by decide +kernel
theorem pd_0 : parseMethodDescriptor "([BII)I" = some ⟨[(.array .byte), .int, .int], some .int⟩ := by decide +kernel
theorem d2_8 : decode prog_16_method_7_code 8 = .ok (.invokestatic 99, 3) := by decide +kernel
theorem d2_11 : decode prog_16_method_7_code 11 = .ok (.ireturn, 1) := by decide +kernel
theorem ef_rm_pkN (m : MethodId) (x0 : Addr) (x1 : Int32) : entryFrame m #[(.ref x0), (.int x1), .null] 3 = mkF m 0 #[.val (.ref x0), .val (.int x1), .val .null] [] := by first | (simp [entryFrame, mkF, argsToLocals, Value.category]; done) | rfl
def Q_rm_pkN (Z : State) (a1 : Addr) (p2 : Int32) (k : ClassId) (z : Int32) (vs : List Value) (dv : Value) (h0 : Heap) (n0 : Nat) (v : Option Value) (h : Heap) (L : List Loc) : Prop := v = some (.int (p2 + (2 : Int32))) ∧ Fr n0 L ∧ Keep h0 h [a1] ∧ Arv Z h a1 k .byte z ((vs.set p2.toNatClampNeg (.int ((65535 : Int32).toInt8.toInt32).toInt8.toInt32)).set (p2 + (1 : Int32)).toNatClampNeg (.int ((((65535 : Int32).toUInt32 >>> ((8 : Int32) &&& 31).toUInt32).toInt32).toInt8.toInt32).toInt8.toInt32)) dv
set_option maxRecDepth 65536 in
set_option maxHeartbeats 40000000 in
theorem rm_pkN (l : Launch) (Z : State) (a0 : Array Value) (hw : ∀ d ∈ tables_1, d.before a0 Z = true) (ws : List Jvm.Cond) (a1 : Addr) (p2 : Int32) (k : ClassId) (z : Int32) (vs : List Value) (dv : Value) (h0 : Heap) (n0 : Nat) (Z0 : n0 ≤ h0.size) (V1 : Arv Z h0 a1 k .byte z vs dv) (g1 : n0 ≤ a1) (hi0 : ¬ p2 < 0 ∧ p2 < z) (hi1 : ¬ (p2 + (1 : Int32)) < 0 ∧ (p2 + (1 : Int32)) < z) (hl0 : p2.toNatClampNeg < vs.length) (hl1 : (p2 + (1 : Int32)).toNatClampNeg < vs.length) :
    MetFree l (⟨"com/example/blockflate/blockflate/Layout", "putKey", "([BI[B)I"⟩ : MethodName) (head1 (Jvm.Cond.code (⟨"com/example/blockflate/blockflate/Layout", "putKey", "([BI[B)I"⟩ : MethodName) prog_16_method_7_code 3 (some .int) :: ws) ({ frames := 1, cells := 0, slots := 0, locals := 14 } : Room)) (fun a U => a = #[(.ref a1), (.int p2), .null] ∧ Z.Warmed39 U.vm ∧ U.heap = h0) (fun _ _ _ _ _ => True) (fun _ U o U' => ∃ v L, o = .returned v ∧ Q_rm_pkN Z a1 p2 k z vs dv h0 n0 v U'.heap L ∧ FrameEnd U o U' L ({ frames := 1, cells := 0, slots := 0, locals := 14 } : Room).cells ({ frames := 1, cells := 0, slots := 0, locals := 14 } : Room).slots) := by
  refine MetFree.of_bodySF (plainFor_of_name pn_0) hisR ?_
  intro p e s m args below meth c s₁ Bd hml0 hP hK
  obtain ⟨rfl, hZ, hh⟩ := hP
  have hx := Bd.exec
  have hby := Bd.bytes
  have hml : c.maxLocals = 3 := hml0
  have hown : s.vm.findClass "com/example/blockflate/blockflate/Layout" = some m.cls := findClass_of_methodNamed Bd.named
  have hnm := (name_of_methodNamed Bd.named Bd.method).1
  have X0 : Stand p l e ({ frames := 1, cells := 0, slots := 0, locals := 14 } : Room) s m #[(.ref a1), (.int p2), .null] below meth c s₁ [] 0 0 := Stand.of_body Bd
  have e0 : s₁.heap = h0 := by rw [← hh, Bd.state]; rfl
  have N0 := Fr.nil n0
  have pre0 : ∀ t, Steps p.tables e below (s₁.setTop (mkF m 0 #[.val (.ref a1), .val (.int p2), .val .null] [])) t → Steps p.tables e below (s₁.setTop (entryFrame m #[(.ref a1), (.int p2), .null] 3)) t := fun t k => castTop (ef_rm_pkN m a1 p2) k
  obtain ⟨_, _, ⟨T1, L1, k1, n1⟩, -, X1, ⟨Lc1, hQ1, l1, y1, z1⟩, st1⟩ := Jvm.LawKit.callS X0 hx (y := (⟨"com/example/blockflate/blockflate/Layout", "putShort", "([BII)I"⟩ : MethodName)) hown (mvT hZ (hw _ (List.mem_of_getElem? (i := 8) rfl))) (mvT hZ (hw _ (List.mem_of_getElem? (i := 9) rfl))) (mvT hZ (hw _ (List.mem_of_getElem? (i := 3) rfl))) (mvT hZ (hw _ (List.mem_of_getElem? (i := 10) rfl))) (by decide) (backOf (W := 0) (rm3 l Z a0 hw [] a1 p2 (65535 : Int32) k z vs dv h0 n0 Z0 V1 g1 hi0 hi1 hl0 hl1) hZ (hw _ (List.mem_of_getElem? (i := 10) rfl)) (hw _ (List.mem_of_getElem? (i := 3) rfl)) (by decide) (by decide)) (g := (mkF m 8 #[.val (.ref a1), .val (.int p2), .val .null] [(.int (65535 : Int32)), (.int p2), (.ref a1)])) rfl (by rw [hml]; rfl) (argsL := [(.ref a1), (.int p2), (.int (65535 : Int32))]) (rest := []) (lenOf pd_0 rfl) rfl (by show 2 * 0 + _ ≤ _; exact Nat.le_of_eq rfl) (hb hby d2_8) (fun _ _ => ⟨rfl, e0, (by decide : 0 + 0 ≤ _), (by decide : 0 + 0 ≤ _)⟩)
  dsimp only [Pt.U, Pt.locs, Pt.cells, Pt.slots] at X1 l1 y1 z1 st1 hQ1
  subst l1 y1 z1
  obtain ⟨rfl, Nq1, q1_0, q1_1⟩ := hQ1
  have N2 := Fr.app N0 Nq1
  have KC3 : Keep h0 T1.heap [a1] := (Keep.refl h0 [a1]).trans q1_0 (allS (Or.inl (List.mem_of_getElem? (i := 0) rfl)) all0)
  have pre4 : ∀ t, Steps p.tables e below (T1.setTop (mkF m 11 #[.val (.ref a1), .val (.int p2), .val .null] [(.int (p2 + (2 : Int32)))])) t → Steps p.tables e below (s₁.setTop (entryFrame m #[(.ref a1), (.int p2), .null] 3)) t := by
    intro t k
    refine pre0 t ?_
    refine XS.aloadN X0.here hx rfl (hb hby d2_0) rfl rfl ?_
    show Steps _ _ _ (s₁.setTop (mkF m 1 #[.val (.ref a1), .val (.int p2), .val .null] [.null])) _
    refine XS.ifnonnullNo X0.here hx rfl (hb hby d2_1) rfl ?_
    show Steps _ _ _ (s₁.setTop (mkF m 4 #[.val (.ref a1), .val (.int p2), .val .null] [])) _
    refine XS.aloadN X0.here hx rfl (hb hby d2_4) rfl rfl ?_
    show Steps _ _ _ (s₁.setTop (mkF m 5 #[.val (.ref a1), .val (.int p2), .val .null] [(.ref a1)])) _
    refine XS.iloadN X0.here hx rfl (hb hby d2_5) rfl ?_
    show Steps _ _ _ (s₁.setTop (mkF m 6 #[.val (.ref a1), .val (.int p2), .val .null] [(.int p2), (.ref a1)])) _
    refine X0.ldcInt hx hown (mvT hZ (hw _ (List.mem_of_getElem? (i := 18) rfl))) (g := (mkF m 6 #[.val (.ref a1), .val (.int p2), .val .null] [(.int p2), (.ref a1)])) rfl (hb hby d2_6) _ ?_
    show Steps _ _ _ (s₁.setTop (mkF m 8 #[.val (.ref a1), .val (.int p2), .val .null] [(.int (65535 : Int32)), (.int p2), (.ref a1)])) _
    refine st1 _ ?_
    show Steps _ _ _ (T1.setTop (mkF m 11 #[.val (.ref a1), .val (.int p2), .val .null] [(.int (p2 + (2 : Int32)))])) _
    exact k
  obtain ⟨fs, hr, hrun, hended, hW, hsame⟩ := X1.leave (v := some (.int (p2 + (2 : Int32)))) (fun h => by rw [Bd.returns] at h; cases h)
  refine ⟨_, _, pre4 _ ?_, hrun, hended, _, _, rfl, ?_, ⟨_, rfl⟩, hW, hsame.mono (by decide) (by decide)⟩
  · exact retI X1 hx Bd.returns (hb hby d2_11) hr
  · show Q_rm_pkN Z a1 p2 k z vs dv h0 n0 _ T1.heap _
    exact ⟨rfl, N2, KC3, q1_1⟩
theorem d2_12 : decode prog_16_method_7_code 12 = .ok (.aload_n 0, 1) := by decide +kernel
theorem d2_13 : decode prog_16_method_7_code 13 = .ok (.aload_n 0, 1) := by decide +kernel
theorem d2_14 : decode prog_16_method_7_code 14 = .ok (.iload_n 1, 1) := by decide +kernel
theorem d2_15 : decode prog_16_method_7_code 15 = .ok (.aload_n 2, 1) := by decide +kernel
theorem d2_16 : decode prog_16_method_7_code 16 = .ok (.arraylength, 1) := by decide +kernel
theorem d2_17 : decode prog_16_method_7_code 17 = .ok (.invokestatic 99, 3) := by decide +kernel
theorem d2_20 : decode prog_16_method_7_code 20 = .ok (.aload_n 2, 1) := by decide +kernel
theorem d2_21 : decode prog_16_method_7_code 21 = .ok (.iconst 0, 1) := by decide +kernel
theorem d2_22 : decode prog_16_method_7_code 22 = .ok (.aload_n 2, 1) := by decide +kernel
theorem d2_23 : decode prog_16_method_7_code 23 = .ok (.arraylength, 1) := by decide +kernel
theorem pd_1 : parseMethodDescriptor "([BI[BII)I" = some ⟨[(.array .byte), .int, (.array .byte), .int, .int], some .int⟩ := by decide +kernel
theorem d2_24 : decode prog_16_method_7_code 24 = .ok (.invokestatic 102, 3) := by decide +kernel
theorem d2_27 : decode prog_16_method_7_code 27 = .ok (.ireturn, 1) := by decide +kernel
theorem ef_rm_pkY (m : MethodId) (x0 : Addr) (x1 : Int32) (x2 : Addr) : entryFrame m #[(.ref x0), (.int x1), (.ref x2)] 3 = mkF m 0 #[.val (.ref x0), .val (.int x1), .val (.ref x2)] [] := by first | (simp [entryFrame, mkF, argsToLocals, Value.category]; done) | rfl
def Q_rm_pkY (Z : State) (a1 : Addr) (p2 : Int32) (a3 : Addr) (k : ClassId) (z : Int32) (vs : List Value) (dv : Value) (k3 : ClassId) (z3 : Int32) (v3 : List Value) (d3 : Value) (h0 : Heap) (n0 : Nat) (v : Option Value) (h : Heap) (L : List Loc) : Prop := v = some (.int ((p2 + (2 : Int32)) + z3)) ∧ Fr n0 L ∧ Keep h0 h [a1] ∧ Arv Z h a1 k .byte z (((vs.set p2.toNatClampNeg (.int (z3.toInt8.toInt32).toInt8.toInt32)).set (p2 + (1 : Int32)).toNatClampNeg (.int (((z3.toUInt32 >>> ((8 : Int32) &&& 31).toUInt32).toInt32).toInt8.toInt32).toInt8.toInt32)).take (p2 + (2 : Int32)).toNatClampNeg ++ ((List.range z3.toNatClampNeg).map fun i => v3.getD ((0 : Int32).toNatClampNeg + i) d3) ++ ((vs.set p2.toNatClampNeg (.int (z3.toInt8.toInt32).toInt8.toInt32)).set (p2 + (1 : Int32)).toNatClampNeg (.int (((z3.toUInt32 >>> ((8 : Int32) &&& 31).toUInt32).toInt32).toInt8.toInt32).toInt8.toInt32)).drop ((p2 + (2 : Int32)).toNatClampNeg + z3.toNatClampNeg)) dv
set_option maxRecDepth 65536 in
set_option maxHeartbeats 40000000 in
theorem rm_pkY (l : Launch) (Z : State) (a0 : Array Value) (hw : ∀ d ∈ tables_1, d.before a0 Z = true) (ws : List Jvm.Cond) (a1 : Addr) (p2 : Int32) (a3 : Addr) (k : ClassId) (z : Int32) (vs : List Value) (dv : Value) (k3 : ClassId) (z3 : Int32) (v3 : List Value) (d3 : Value) (h0 : Heap) (n0 : Nat) (Z0 : n0 ≤ h0.size) (V1 : Arv Z h0 a1 k .byte z vs dv) (V3 : Arv Z h0 a3 k3 .byte z3 v3 d3) (g1 : n0 ≤ a1) (nea : a3 ≠ a1) (hi0 : ¬ p2 < 0 ∧ p2 < z) (hi1 : ¬ (p2 + (1 : Int32)) < 0 ∧ (p2 + (1 : Int32)) < z) (hl0 : p2.toNatClampNeg < vs.length) (hl1 : (p2 + (1 : Int32)).toNatClampNeg < vs.length) (cc2 : ¬ (p2 + (2 : Int32)) < 0) (cc3 : ¬ z3 < 0) (cc5 : (p2 + (2 : Int32)).toNatClampNeg + z3.toNatClampNeg ≤ z.toNatClampNeg) (cc6 : (p2 + (2 : Int32)).toNatClampNeg + z3.toNatClampNeg ≤ vs.length) :
    MetFree l (⟨"com/example/blockflate/blockflate/Layout", "putKey", "([BI[B)I"⟩ : MethodName) (head1 (Jvm.Cond.code (⟨"com/example/blockflate/blockflate/Layout", "putKey", "([BI[B)I"⟩ : MethodName) prog_16_method_7_code 3 (some .int) :: ws) ({ frames := 2, cells := 0, slots := 0, locals := 56 } : Room)) (fun a U => a = #[(.ref a1), (.int p2), (.ref a3)] ∧ Z.Warmed39 U.vm ∧ U.heap = h0) (fun _ _ _ _ _ => True) (fun _ U o U' => ∃ v L, o = .returned v ∧ Q_rm_pkY Z a1 p2 a3 k z vs dv k3 z3 v3 d3 h0 n0 v U'.heap L ∧ FrameEnd U o U' L ({ frames := 2, cells := 0, slots := 0, locals := 56 } : Room).cells ({ frames := 2, cells := 0, slots := 0, locals := 56 } : Room).slots) := by
  refine MetFree.of_bodySF (plainFor_of_name pn_0) hisR ?_
  intro p e s m args below meth c s₁ Bd hml0 hP hK
  obtain ⟨rfl, hZ, hh⟩ := hP
  have hx := Bd.exec
  have hby := Bd.bytes
  have hml : c.maxLocals = 3 := hml0
  have hown : s.vm.findClass "com/example/blockflate/blockflate/Layout" = some m.cls := findClass_of_methodNamed Bd.named
  have hnm := (name_of_methodNamed Bd.named Bd.method).1
  have X0 : Stand p l e ({ frames := 2, cells := 0, slots := 0, locals := 56 } : Room) s m #[(.ref a1), (.int p2), (.ref a3)] below meth c s₁ [] 0 0 := Stand.of_body Bd
  have e0 : s₁.heap = h0 := by rw [← hh, Bd.state]; rfl
  have N0 := Fr.nil n0
  have pre0 : ∀ t, Steps p.tables e below (s₁.setTop (mkF m 0 #[.val (.ref a1), .val (.int p2), .val (.ref a3)] [])) t → Steps p.tables e below (s₁.setTop (entryFrame m #[(.ref a1), (.int p2), (.ref a3)] 3)) t := fun t k => castTop (ef_rm_pkY m a1 p2 a3) k
  obtain ⟨c1, Arc1, Aqc1, Asc1, Anc1, Ahc1, Agc1⟩ := id V3
  obtain ⟨_, _, ⟨T2, L2, k2, n2⟩, -, X2, ⟨Lc2, hQ2, l2, y2, z2⟩, st2⟩ := Jvm.LawKit.callS X0 hx (y := (⟨"com/example/blockflate/blockflate/Layout", "putShort", "([BII)I"⟩ : MethodName)) hown (mvT hZ (hw _ (List.mem_of_getElem? (i := 8) rfl))) (mvT hZ (hw _ (List.mem_of_getElem? (i := 9) rfl))) (mvT hZ (hw _ (List.mem_of_getElem? (i := 3) rfl))) (mvT hZ (hw _ (List.mem_of_getElem? (i := 10) rfl))) (by decide) (backOf (W := 1) (rm3 l Z a0 hw [] a1 p2 z3 k z vs dv h0 n0 Z0 V1 g1 hi0 hi1 hl0 hl1) hZ (hw _ (List.mem_of_getElem? (i := 10) rfl)) (hw _ (List.mem_of_getElem? (i := 3) rfl)) (by decide) (by decide)) (g := (mkF m 17 #[.val (.ref a1), .val (.int p2), .val (.ref a3)] [(.int z3), (.int p2), (.ref a1), (.ref a1)])) rfl (by rw [hml]; rfl) (argsL := [(.ref a1), (.int p2), (.int z3)]) (rest := [(.ref a1)]) (lenOf pd_0 rfl) rfl (by show 2 * 0 + _ ≤ _; exact Nat.le_of_eq rfl) (hb hby d2_17) (fun _ _ => ⟨rfl, e0, (by decide : 0 + 0 ≤ _), (by decide : 0 + 0 ≤ _)⟩)
  dsimp only [Pt.U, Pt.locs, Pt.cells, Pt.slots] at X2 l2 y2 z2 st2 hQ2
  subst l2 y2 z2
  obtain ⟨rfl, Nq2, q2_0, q2_1⟩ := hQ2
  have N3 := Fr.app N0 Nq2
  have KC4 : Keep h0 T2.heap [a1] := (Keep.refl h0 [a1]).trans q2_0 (allS (Or.inl (List.mem_of_getElem? (i := 0) rfl)) all0)
  have F5 : Arv Z T2.heap a3 k3 .byte z3 v3 d3 := (V3.keep q2_0 (ninS nea nin0))
  obtain ⟨c6, Arc6, Aqc6, Asc6, Anc6, Ahc6, Agc6⟩ := id F5
  obtain ⟨_, _, ⟨T7, L7, k7, n7⟩, -, X7, ⟨Lc7, hQ7, l7, y7, z7⟩, st7⟩ := Jvm.LawKit.callS X2 hx (y := (⟨"com/example/blockflate/blockflate/Layout", "put", "([BI[BII)I"⟩ : MethodName)) hown (mvT hZ (hw _ (List.mem_of_getElem? (i := 11) rfl))) (mvT hZ (hw _ (List.mem_of_getElem? (i := 12) rfl))) (mvT hZ (hw _ (List.mem_of_getElem? (i := 3) rfl))) (mvT hZ (hw _ (List.mem_of_getElem? (i := 13) rfl))) (by decide) (backOf (W := 0) (rm4 l Z a0 hw [] a1 (p2 + (2 : Int32)) a3 (0 : Int32) z3 k z ((vs.set p2.toNatClampNeg (.int (z3.toInt8.toInt32).toInt8.toInt32)).set (p2 + (1 : Int32)).toNatClampNeg (.int (((z3.toUInt32 >>> ((8 : Int32) &&& 31).toUInt32).toInt32).toInt8.toInt32).toInt8.toInt32)) dv k3 z3 v3 d3 T2.heap n0 (Nat.le_trans Z0 KC4.1) q2_1 F5 g1 (by decide) cc2 cc3 (by rw [show (0 : Int32).toNatClampNeg = 0 from rfl]; omega) cc5 (by rw [List.length_set, List.length_set]; exact cc6)) hZ (hw _ (List.mem_of_getElem? (i := 13) rfl)) (hw _ (List.mem_of_getElem? (i := 3) rfl)) (by decide) (by decide)) (g := (mkF m 24 #[.val (.ref a1), .val (.int p2), .val (.ref a3)] [(.int z3), (.int (0 : Int32)), (.ref a3), (.int (p2 + (2 : Int32))), (.ref a1)])) rfl (by rw [hml]; rfl) (argsL := [(.ref a1), (.int (p2 + (2 : Int32))), (.ref a3), (.int (0 : Int32)), (.int z3)]) (rest := []) (lenOf pd_1 rfl) rfl (by show 2 * 0 + _ ≤ _; exact Nat.le_of_eq rfl) (hb hby d2_24) (fun _ _ => ⟨rfl, rfl, (by decide : 0 + 0 ≤ _), (by decide : 0 + 0 ≤ _)⟩)
  dsimp only [Pt.U, Pt.locs, Pt.cells, Pt.slots] at X7 l7 y7 z7 st7 hQ7
  subst l7 y7 z7
  obtain ⟨rfl, Nq7, q7_0, q7_1⟩ := hQ7
  have N8 := Fr.app N3 Nq7
  have KC9 : Keep h0 T7.heap [a1] := KC4.trans q7_0 (allS (Or.inl (List.mem_of_getElem? (i := 0) rfl)) all0)
  have pre10 : ∀ t, Steps p.tables e below (T7.setTop (mkF m 27 #[.val (.ref a1), .val (.int p2), .val (.ref a3)] [(.int ((p2 + (2 : Int32)) + z3))])) t → Steps p.tables e below (s₁.setTop (entryFrame m #[(.ref a1), (.int p2), (.ref a3)] 3)) t := by
    intro t k
    refine pre0 t ?_
    refine XS.aloadN X0.here hx rfl (hb hby d2_0) rfl rfl ?_
    show Steps _ _ _ (s₁.setTop (mkF m 1 #[.val (.ref a1), .val (.int p2), .val (.ref a3)] [(.ref a3)])) _
    refine XS.ifnonnullYes X0.here hx rfl (pc0 := 1) (pc' := 12) rfl (hb hby d2_1) rfl (by decide) (by decide) ?_
    show Steps _ _ _ (s₁.setTop (mkF m 12 #[.val (.ref a1), .val (.int p2), .val (.ref a3)] [])) _
    refine XS.aloadN X0.here hx rfl (hb hby d2_12) rfl rfl ?_
    show Steps _ _ _ (s₁.setTop (mkF m 13 #[.val (.ref a1), .val (.int p2), .val (.ref a3)] [(.ref a1)])) _
    refine XS.aloadN X0.here hx rfl (hb hby d2_13) rfl rfl ?_
    show Steps _ _ _ (s₁.setTop (mkF m 14 #[.val (.ref a1), .val (.int p2), .val (.ref a3)] [(.ref a1), (.ref a1)])) _
    refine XS.iloadN X0.here hx rfl (hb hby d2_14) rfl ?_
    show Steps _ _ _ (s₁.setTop (mkF m 15 #[.val (.ref a1), .val (.int p2), .val (.ref a3)] [(.int p2), (.ref a1), (.ref a1)])) _
    refine XS.aloadN X0.here hx rfl (hb hby d2_15) rfl rfl ?_
    show Steps _ _ _ (s₁.setTop (mkF m 16 #[.val (.ref a1), .val (.int p2), .val (.ref a3)] [(.ref a3), (.int p2), (.ref a1), (.ref a1)])) _
    refine X0.arraylength hx (by rw [e0]; exact Arc1.1) (State.isArrayOf_alike hZ.alike Arc1.2.1) (g := (mkF m 16 #[.val (.ref a1), .val (.int p2), .val (.ref a3)] [(.ref a3), (.int p2), (.ref a1), (.ref a1)])) rfl rfl (hb hby d2_16) _ ?_
    rw [len_of Asc1 Anc1]
    show Steps _ _ _ (s₁.setTop (mkF m 17 #[.val (.ref a1), .val (.int p2), .val (.ref a3)] [(.int z3), (.int p2), (.ref a1), (.ref a1)])) _
    refine st2 _ ?_
    show Steps _ _ _ (T2.setTop (mkF m 20 #[.val (.ref a1), .val (.int p2), .val (.ref a3)] [(.int (p2 + (2 : Int32))), (.ref a1)])) _
    refine XS.aloadN X2.here hx rfl (hb hby d2_20) rfl rfl ?_
    show Steps _ _ _ (T2.setTop (mkF m 21 #[.val (.ref a1), .val (.int p2), .val (.ref a3)] [(.ref a3), (.int (p2 + (2 : Int32))), (.ref a1)])) _
    refine XS.iconst X2.here hx rfl (hb hby d2_21) ?_
    show Steps _ _ _ (T2.setTop (mkF m 22 #[.val (.ref a1), .val (.int p2), .val (.ref a3)] [(.int (0 : Int32)), (.ref a3), (.int (p2 + (2 : Int32))), (.ref a1)])) _
    refine XS.aloadN X2.here hx rfl (hb hby d2_22) rfl rfl ?_
    show Steps _ _ _ (T2.setTop (mkF m 23 #[.val (.ref a1), .val (.int p2), .val (.ref a3)] [(.ref a3), (.int (0 : Int32)), (.ref a3), (.int (p2 + (2 : Int32))), (.ref a1)])) _
    refine X2.arraylength hx Arc6.1 (State.isArrayOf_alike hZ.alike Arc6.2.1) (g := (mkF m 23 #[.val (.ref a1), .val (.int p2), .val (.ref a3)] [(.ref a3), (.int (0 : Int32)), (.ref a3), (.int (p2 + (2 : Int32))), (.ref a1)])) rfl rfl (hb hby d2_23) _ ?_
    rw [len_of Asc6 Anc6]
    show Steps _ _ _ (T2.setTop (mkF m 24 #[.val (.ref a1), .val (.int p2), .val (.ref a3)] [(.int z3), (.int (0 : Int32)), (.ref a3), (.int (p2 + (2 : Int32))), (.ref a1)])) _
    refine st7 _ ?_
    show Steps _ _ _ (T7.setTop (mkF m 27 #[.val (.ref a1), .val (.int p2), .val (.ref a3)] [(.int ((p2 + (2 : Int32)) + z3))])) _
    exact k
  obtain ⟨fs, hr, hrun, hended, hW, hsame⟩ := X7.leave (v := some (.int ((p2 + (2 : Int32)) + z3))) (fun h => by rw [Bd.returns] at h; cases h)
  refine ⟨_, _, pre10 _ ?_, hrun, hended, _, _, rfl, ?_, ⟨_, rfl⟩, hW, hsame.mono (by decide) (by decide)⟩
  · exact retI X7 hx Bd.returns (hb hby d2_27) hr
  · show Q_rm_pkY Z a1 p2 a3 k z vs dv k3 z3 v3 d3 h0 n0 _ T7.heap _
    exact ⟨rfl, N8, KC9, q7_1⟩
theorem own_set0 {vs : List Value} {i j : Nat} {x y d : Value} (hi : i < vs.length) (hne : j ≠ i) : ((vs.set i x).set j y).getD i d = x := by
  rw [List.getD_eq_getElem?_getD, List.getElem?_set_ne hne, List.getElem?_set_self hi]; rfl
theorem own_set1 {vs : List Value} {i j : Nat} {x y d : Value} (hj : j < vs.length) : ((vs.set i x).set j y).getD j d = y := by
  rw [List.getD_eq_getElem?_getD, List.getElem?_set_self (by rw [List.length_set]; exact hj)]; rfl
theorem own_tk {vd us : List Value} {n m i : Nat} {d : Value} (hi : i < n) (hn : n ≤ vd.length) : (vd.take n ++ us ++ vd.drop m).getD i d = vd.getD i d := by
  rw [List.getD_eq_getElem?_getD, List.getD_eq_getElem?_getD, List.append_assoc, List.getElem?_append_left (by rw [List.length_take]; omega), List.getElem?_take_of_lt hi]
theorem own_bL (x : Int32) : 0 ≤ (x &&& (2047 : Int32)).toInt ∧ (x &&& (2047 : Int32)).toInt ≤ 2047 := by
  have m := c_mask x (2047 : Int32) 11 (by decide) (by decide)
  omega
theorem own_bP (x : Int32) : 0 ≤ (x &&& (7 : Int32)).toInt ∧ (x &&& (7 : Int32)).toInt ≤ 7 := by
  have m := c_mask x (7 : Int32) 3 (by decide) (by decide)
  omega
theorem own_tn (a : Int32) : a.toNatClampNeg = a.toInt.toNat := rfl
theorem own_nltI {a b : Int32} (h : b.toInt ≤ a.toInt) : ¬ a < b := by rw [Int32.lt_iff_toInt_lt]; omega
theorem own_ltI {a b : Int32} (h : a.toInt < b.toInt) : a < b := by rw [Int32.lt_iff_toInt_lt]; exact h
theorem own_all (vP vL vZ : Int32) (hP : 0 ≤ vP.toInt ∧ vP.toInt ≤ 7) (hL : 0 ≤ vL.toInt ∧ vL.toInt ≤ 2047) (hZ : vZ = ((vP + (2 : Int32)) + vL)) : vZ.toInt = vP.toInt + 2 + vL.toInt ∧ (vP + (1 : Int32)).toInt = vP.toInt + 1 ∧ (vP + (2 : Int32)).toInt = vP.toInt + 2 := by
  have a := c_iadd vP 2
  have ra := rng32 (vP + 2)
  have b := c_iadd (vP + 2) vL
  have rb := rng32 ((vP + 2) + vL)
  have d := c_iadd vP 1
  have rd := rng32 (vP + 1)
  have l2 : (2 : Int32).toInt = 2 := rfl
  have l1 : (1 : Int32).toInt = 1 := rfl
  subst hZ
  omega
theorem own_byte (x : Int32) : (x.toInt8.toInt32 &&& (255 : Int32)).toInt = x.toInt % 256 := by
  have m := c_mask x.toInt8.toInt32 (255 : Int32) 8 (by decide) (by decide)
  have b := c_i2b x
  omega
theorem own_pref (x : Int32) (h : 0 ≤ x.toInt ∧ x.toInt ≤ 2047) : (((x.toInt8.toInt32).toInt8.toInt32 &&& (255 : Int32)) ||| (((((x.toUInt32 >>> ((8 : Int32) &&& 31).toUInt32).toInt32).toInt8.toInt32).toInt8.toInt32 &&& (255 : Int32)) <<< ((8 : Int32) &&& 31))) = x := by
  have b0 := own_byte (x.toInt8.toInt32)
  have b1 := own_byte (((x.toUInt32 >>> ((8 : Int32) &&& 31).toUInt32).toInt32).toInt8.toInt32)
  have u := c_iushr x 8 8 (by decide) (by decide)
  have n0 := c_i2b x
  have n1 := c_i2b ((x.toUInt32 >>> ((8 : Int32) &&& 31).toUInt32).toInt32)
  simp only [Nat.reducePow] at u
  generalize (((x.toUInt32 >>> ((8 : Int32) &&& 31).toUInt32).toInt32).toInt8.toInt32).toInt8.toInt32 &&& (255 : Int32) = y at *
  generalize (x.toInt8.toInt32).toInt8.toInt32 &&& (255 : Int32) = w at *
  have s := c_ishl y (8 : Int32) 8 (by decide)
  have sr := rng32 (y <<< ((8 : Int32) &&& 31))
  simp only [Nat.reducePow] at s
  have e : (y <<< ((8 : Int32) &&& 31)).toInt = 256 * y.toInt := by omega
  have o := c_or' w (y <<< ((8 : Int32) &&& 31)) 8 (by decide) 256 (by decide) (by omega) (by omega) (by omega)
  have r := rng32 (w ||| (y <<< ((8 : Int32) &&& 31)))
  apply Int32.toInt_inj.mp
  omega
theorem pd_2 : parseMethodDescriptor "([B)I" = some ⟨[(.array .byte)], some .int⟩ := by decide +kernel
theorem pd_3 : parseMethodDescriptor "([BI[B)I" = some ⟨[(.array .byte), .int, (.array .byte)], some .int⟩ := by decide +kernel
theorem pn_1 : plainName "com/example/blockflate/blockflate/LayoutKeyEntryLengthPinLaw" = true := by first | (simp [plainName, overriddenIn]; done) | decide +kernel
theorem ef_rm0 (m : MethodId) (x0 : Int32) (x1 : Int32) (x2 : Int32) : entryFrame m #[(.int x0), (.int x1), (.int x2)] maxLocals = mkF m 0 #[.val (.int x0), .val (.int x1), .val (.int x2), .unset, .unset, .unset, .unset, .unset, .unset, .unset, .unset, .unset, .unset] [] := by first | (simp [entryFrame, mkF, argsToLocals, Value.category, maxLocals]; done) | rfl
def Q_rm0 (Z : State) (p1 : Int32) (p2 : Int32) (p3 : Int32) (h0 : Heap) (n0 : Nat) (v : Option Value) (h : Heap) (L : List Loc) : Prop := v = some (.int (1 : Int32)) ∧ Fr n0 L ∧ Keep h0 h []
set_option maxRecDepth 65536 in
set_option maxHeartbeats 40000000 in
theorem rm0 (l : Launch) (Z : State) (a0 : Array Value) (hw : ∀ d ∈ tables_1, d.before a0 Z = true) (ws : List Jvm.Cond) (p1 : Int32) (p2 : Int32) (p3 : Int32) (h0 : Heap) (n0 : Nat) (Z0 : n0 ≤ h0.size) :
    MetFree l x (head1 (Jvm.Cond.code x code maxLocals ret :: ws) room_1) (fun a U => a = #[(.int p1), (.int p2), (.int p3)] ∧ Z.Warmed39 U.vm ∧ U.heap = h0) (fun _ _ _ _ _ => True) (fun _ U o U' => ∃ v L, o = .returned v ∧ Q_rm0 Z p1 p2 p3 h0 n0 v U'.heap L ∧ FrameEnd U o U' L room_1.cells room_1.slots) := by
  refine MetFree.of_bodySF (plainFor_of_name pn_1) hisR ?_
  intro p e s m args below meth c s₁ Bd hml0 hP hK
  obtain ⟨rfl, hZ, hh⟩ := hP
  have hx := Bd.exec
  have hby := Bd.bytes
  have hml : c.maxLocals = 13 := hml0
  have hown : s.vm.findClass "com/example/blockflate/blockflate/LayoutKeyEntryLengthPinLaw" = some m.cls := findClass_of_methodNamed Bd.named
  have hnm := (name_of_methodNamed Bd.named Bd.method).1
  have X0 : Stand p l e room_1 s m #[(.int p1), (.int p2), (.int p3)] below meth c s₁ [] 0 0 := Stand.of_body Bd
  have e0 : s₁.heap = h0 := by rw [← hh, Bd.state]; rfl
  have N0 := Fr.nil n0
  have pre0 : ∀ t, Steps p.tables e below (s₁.setTop (mkF m 0 #[.val (.int p1), .val (.int p2), .val (.int p3), .unset, .unset, .unset, .unset, .unset, .unset, .unset, .unset, .unset, .unset] [])) t → Steps p.tables e below (s₁.setTop (entryFrame m #[(.int p1), (.int p2), (.int p3)] maxLocals)) t := fun t k => castTop (ef_rm0 m p1 p2 p3) k
  have pre2 : ∀ t, Steps p.tables e below (s₁.setTop (mkF m 11 #[.val (.int p1), .val (.int p2), .val (.int p3), .unset, .unset, .unset, .unset, .unset, .unset, .unset, .unset, .unset, .unset] [(.int (if (p1 &&& (1 : Int32)) = (0 : Int32) then (0 : Int32) else (1 : Int32)))])) t → Steps p.tables e below (s₁.setTop (entryFrame m #[(.int p1), (.int p2), (.int p3)] maxLocals)) t := by
    intro t k
    refine pre0 t ?_
    refine XS.iloadN X0.here hx rfl (hb hby at_0) rfl ?_
    show Steps _ _ _ (s₁.setTop (mkF m 1 #[.val (.int p1), .val (.int p2), .val (.int p3), .unset, .unset, .unset, .unset, .unset, .unset, .unset, .unset, .unset, .unset] [(.int p1)])) _
    refine XS.iconst X0.here hx rfl (hb hby at_1) ?_
    show Steps _ _ _ (s₁.setTop (mkF m 2 #[.val (.int p1), .val (.int p2), .val (.int p3), .unset, .unset, .unset, .unset, .unset, .unset, .unset, .unset, .unset, .unset] [(.int (1 : Int32)), (.int p1)])) _
    refine XS.iand X0.here hx rfl (hb hby at_2) rfl ?_
    show Steps _ _ _ (s₁.setTop (mkF m 3 #[.val (.int p1), .val (.int p2), .val (.int p3), .unset, .unset, .unset, .unset, .unset, .unset, .unset, .unset, .unset, .unset] [(.int (p1 &&& (1 : Int32)))])) _
    by_cases hc1 : (p1 &&& (1 : Int32)) = (0 : Int32)
    · simp only [if_pos hc1] at k
      refine XS.ifYes X0.here hx rfl (pc0 := 3) (pc' := 10) rfl (hb hby at_3) rfl ((if0 _ _).trans (teq hc1).1) (by decide) (by decide) ?_
      show Steps _ _ _ (s₁.setTop (mkF m 10 #[.val (.int p1), .val (.int p2), .val (.int p3), .unset, .unset, .unset, .unset, .unset, .unset, .unset, .unset, .unset, .unset] [])) _
      refine XS.iconst X0.here hx rfl (hb hby at_10) ?_
      show Steps _ _ _ (s₁.setTop (mkF m 11 #[.val (.int p1), .val (.int p2), .val (.int p3), .unset, .unset, .unset, .unset, .unset, .unset, .unset, .unset, .unset, .unset] [(.int (0 : Int32))])) _
      exact k
    · simp only [if_neg hc1] at k
      refine XS.ifNo X0.here hx rfl (hb hby at_3) rfl ((if0 _ _).trans (feq hc1).1) ?_
      show Steps _ _ _ (s₁.setTop (mkF m 6 #[.val (.int p1), .val (.int p2), .val (.int p3), .unset, .unset, .unset, .unset, .unset, .unset, .unset, .unset, .unset, .unset] [])) _
      refine XS.iconst X0.here hx rfl (hb hby at_6) ?_
      show Steps _ _ _ (s₁.setTop (mkF m 7 #[.val (.int p1), .val (.int p2), .val (.int p3), .unset, .unset, .unset, .unset, .unset, .unset, .unset, .unset, .unset, .unset] [(.int (1 : Int32))])) _
      refine XS.goto X0.here hx rfl (pc0 := 7) (pc' := 11) rfl (hb hby at_7) (by decide) (by decide) ?_
      show Steps _ _ _ (s₁.setTop (mkF m 11 #[.val (.int p1), .val (.int p2), .val (.int p3), .unset, .unset, .unset, .unset, .unset, .unset, .unset, .unset, .unset, .unset] [(.int (1 : Int32))])) _
      exact k
  obtain ⟨vK, hvK⟩ : ∃ z : Int32, z = (if (p1 &&& (1 : Int32)) = (0 : Int32) then (0 : Int32) else (1 : Int32)) := ⟨_, rfl⟩
  rw [← hvK] at pre2
  have pre3 : ∀ t, Steps p.tables e below (s₁.setTop (mkF m 19 #[.val (.int p1), .val (.int p2), .val (.int p3), .val (.int vK), .val (.int (p2 &&& (2047 : Int32))), .unset, .unset, .unset, .unset, .unset, .unset, .unset, .unset] [])) t → Steps p.tables e below (s₁.setTop (entryFrame m #[(.int p1), (.int p2), (.int p3)] maxLocals)) t := by
    intro t k
    refine pre2 t ?_
    refine XS.istoreN X0.here hx rfl (hb hby at_11) rfl (l' := #[.val (.int p1), .val (.int p2), .val (.int p3), .val (.int vK), .unset, .unset, .unset, .unset, .unset, .unset, .unset, .unset, .unset]) rfl ?_
    show Steps _ _ _ (s₁.setTop (mkF m 12 #[.val (.int p1), .val (.int p2), .val (.int p3), .val (.int vK), .unset, .unset, .unset, .unset, .unset, .unset, .unset, .unset, .unset] [])) _
    refine XS.iloadN X0.here hx rfl (hb hby at_12) rfl ?_
    show Steps _ _ _ (s₁.setTop (mkF m 13 #[.val (.int p1), .val (.int p2), .val (.int p3), .val (.int vK), .unset, .unset, .unset, .unset, .unset, .unset, .unset, .unset, .unset] [(.int p2)])) _
    refine XS.sipush X0.here hx rfl (hb hby at_13) ?_
    show Steps _ _ _ (s₁.setTop (mkF m 16 #[.val (.int p1), .val (.int p2), .val (.int p3), .val (.int vK), .unset, .unset, .unset, .unset, .unset, .unset, .unset, .unset, .unset] [(.int (2047 : Int32)), (.int p2)])) _
    refine XS.iand X0.here hx rfl (hb hby at_16) rfl ?_
    show Steps _ _ _ (s₁.setTop (mkF m 17 #[.val (.int p1), .val (.int p2), .val (.int p3), .val (.int vK), .unset, .unset, .unset, .unset, .unset, .unset, .unset, .unset, .unset] [(.int (p2 &&& (2047 : Int32)))])) _
    refine XS.istore X0.here hx rfl (hb hby at_17) rfl (l' := #[.val (.int p1), .val (.int p2), .val (.int p3), .val (.int vK), .val (.int (p2 &&& (2047 : Int32))), .unset, .unset, .unset, .unset, .unset, .unset, .unset, .unset]) rfl ?_
    show Steps _ _ _ (s₁.setTop (mkF m 19 #[.val (.int p1), .val (.int p2), .val (.int p3), .val (.int vK), .val (.int (p2 &&& (2047 : Int32))), .unset, .unset, .unset, .unset, .unset, .unset, .unset, .unset] [])) _
    exact k
  obtain ⟨vL, hvL⟩ : ∃ z : Int32, z = (p2 &&& (2047 : Int32)) := ⟨_, rfl⟩
  rw [← hvL] at pre3
  have pre4 : ∀ t, Steps p.tables e below (s₁.setTop (mkF m 25 #[.val (.int p1), .val (.int p2), .val (.int p3), .val (.int vK), .val (.int vL), .val (.int (p3 &&& (7 : Int32))), .unset, .unset, .unset, .unset, .unset, .unset, .unset] [])) t → Steps p.tables e below (s₁.setTop (entryFrame m #[(.int p1), (.int p2), (.int p3)] maxLocals)) t := by
    intro t k
    refine pre3 t ?_
    refine XS.iloadN X0.here hx rfl (hb hby at_19) rfl ?_
    show Steps _ _ _ (s₁.setTop (mkF m 20 #[.val (.int p1), .val (.int p2), .val (.int p3), .val (.int vK), .val (.int vL), .unset, .unset, .unset, .unset, .unset, .unset, .unset, .unset] [(.int p3)])) _
    refine XS.bipush X0.here hx rfl (hb hby at_20) ?_
    show Steps _ _ _ (s₁.setTop (mkF m 22 #[.val (.int p1), .val (.int p2), .val (.int p3), .val (.int vK), .val (.int vL), .unset, .unset, .unset, .unset, .unset, .unset, .unset, .unset] [(.int (7 : Int32)), (.int p3)])) _
    refine XS.iand X0.here hx rfl (hb hby at_22) rfl ?_
    show Steps _ _ _ (s₁.setTop (mkF m 23 #[.val (.int p1), .val (.int p2), .val (.int p3), .val (.int vK), .val (.int vL), .unset, .unset, .unset, .unset, .unset, .unset, .unset, .unset] [(.int (p3 &&& (7 : Int32)))])) _
    refine XS.istore X0.here hx rfl (hb hby at_23) rfl (l' := #[.val (.int p1), .val (.int p2), .val (.int p3), .val (.int vK), .val (.int vL), .val (.int (p3 &&& (7 : Int32))), .unset, .unset, .unset, .unset, .unset, .unset, .unset]) rfl ?_
    show Steps _ _ _ (s₁.setTop (mkF m 25 #[.val (.int p1), .val (.int p2), .val (.int p3), .val (.int vK), .val (.int vL), .val (.int (p3 &&& (7 : Int32))), .unset, .unset, .unset, .unset, .unset, .unset, .unset] [])) _
    exact k
  obtain ⟨vP, hvP⟩ : ∃ z : Int32, z = (p3 &&& (7 : Int32)) := ⟨_, rfl⟩
  rw [← hvP] at pre4
  have hL : 0 ≤ vL.toInt ∧ vL.toInt ≤ 2047 := by rw [hvL]; exact own_bL _
  have hP : 0 ≤ vP.toInt ∧ vP.toInt ≤ 7 := by rw [hvP]; exact own_bP _
  have l0 : (0 : Int32).toInt = 0 := rfl
  have pre5 : ∀ t, Steps p.tables e below (s₁.setTop (mkF m 26 #[.val (.int p1), .val (.int p2), .val (.int p3), .val (.int vK), .val (.int vL), .val (.int vP), .unset, .unset, .unset, .unset, .unset, .unset, .unset] [(.int vK)])) t → Steps p.tables e below (s₁.setTop (entryFrame m #[(.int p1), (.int p2), (.int p3)] maxLocals)) t := by
    intro t k
    refine pre4 t ?_
    refine XS.iloadN X0.here hx rfl (hb hby at_25) rfl ?_
    show Steps _ _ _ (s₁.setTop (mkF m 26 #[.val (.int p1), .val (.int p2), .val (.int p3), .val (.int vK), .val (.int vL), .val (.int vP), .unset, .unset, .unset, .unset, .unset, .unset, .unset] [(.int vK)])) _
    exact k
  by_cases hK : vK = (0 : Int32)
  · obtain ⟨T6, h6, k6, X6, e6, E6, A6, st6⟩ := newP X0 hx hZ (hw _ (List.mem_of_getElem? (i := 0) rfl)) e0 (g := (mkF m 35 #[.val (.int p1), .val (.int p2), .val (.int p3), .val (.int vK), .val (.int vL), .val (.int vP), .unset, .unset, .unset, .unset, .unset, .unset, .unset] [(.int vL)])) rfl (hb hby at_35) rfl (own_nltI (by omega)) (cap := 2047) (by rw [own_tn]; omega) (by decide) (by decide) (by decide)
    obtain ⟨b6, g6⟩ : ∃ z, z = h0.size := ⟨_, rfl⟩
    rw [← g6] at A6 st6
    have ge7 : n0 ≤ b6 := Nat.le_trans Z0 (Nat.le_of_eq g6.symm)
    have sz8 : h0.size ≤ b6 := Nat.le_trans (Keep.refl h0 []).1 (Nat.le_of_eq g6.symm)
    have KC9 : Keep h0 h6 [] := (Keep.refl h0 []).ext E6
    have V6 : Arv Z h6 b6 k6 .byte vL (List.replicate (vL).toNatClampNeg (.int (0 : Int32))) (.int (0 : Int32)) := (Arv.new A6 (own_nltI (by omega))).pad (pad_rep [] (.int (0 : Int32)) (vL).toNatClampNeg)
    have pre10 : ∀ t, Steps p.tables e below (T6.setTop (mkF m 46 #[.val (.int p1), .val (.int p2), .val (.int p3), .val (.int vK), .val (.int vL), .val (.int vP), .val (.ref b6), .unset, .unset, .unset, .unset, .unset, .unset] [(.int ((vP + (2 : Int32)) + vL))])) t → Steps p.tables e below (s₁.setTop (entryFrame m #[(.int p1), (.int p2), (.int p3)] maxLocals)) t := by
      intro t k
      refine pre5 t ?_
      refine XS.ifYes X0.here hx rfl (pc0 := 26) (pc' := 33) rfl (hb hby at_26) rfl ((if0 _ _).trans (teq hK).1) (by decide) (by decide) ?_
      show Steps _ _ _ (s₁.setTop (mkF m 33 #[.val (.int p1), .val (.int p2), .val (.int p3), .val (.int vK), .val (.int vL), .val (.int vP), .unset, .unset, .unset, .unset, .unset, .unset, .unset] [])) _
      refine XS.iload X0.here hx rfl (hb hby at_33) rfl ?_
      show Steps _ _ _ (s₁.setTop (mkF m 35 #[.val (.int p1), .val (.int p2), .val (.int p3), .val (.int vK), .val (.int vL), .val (.int vP), .unset, .unset, .unset, .unset, .unset, .unset, .unset] [(.int vL)])) _
      refine st6 _ ?_
      show Steps _ _ _ (T6.setTop (mkF m 37 #[.val (.int p1), .val (.int p2), .val (.int p3), .val (.int vK), .val (.int vL), .val (.int vP), .unset, .unset, .unset, .unset, .unset, .unset, .unset] [(.ref b6)])) _
      refine XS.astore X6.here hx rfl (hb hby at_37) rfl rfl (l' := #[.val (.int p1), .val (.int p2), .val (.int p3), .val (.int vK), .val (.int vL), .val (.int vP), .val (.ref b6), .unset, .unset, .unset, .unset, .unset, .unset]) rfl ?_
      show Steps _ _ _ (T6.setTop (mkF m 39 #[.val (.int p1), .val (.int p2), .val (.int p3), .val (.int vK), .val (.int vL), .val (.int vP), .val (.ref b6), .unset, .unset, .unset, .unset, .unset, .unset] [])) _
      refine XS.iload X6.here hx rfl (hb hby at_39) rfl ?_
      show Steps _ _ _ (T6.setTop (mkF m 41 #[.val (.int p1), .val (.int p2), .val (.int p3), .val (.int vK), .val (.int vL), .val (.int vP), .val (.ref b6), .unset, .unset, .unset, .unset, .unset, .unset] [(.int vP)])) _
      refine XS.iconst X6.here hx rfl (hb hby at_41) ?_
      show Steps _ _ _ (T6.setTop (mkF m 42 #[.val (.int p1), .val (.int p2), .val (.int p3), .val (.int vK), .val (.int vL), .val (.int vP), .val (.ref b6), .unset, .unset, .unset, .unset, .unset, .unset] [(.int (2 : Int32)), (.int vP)])) _
      refine XS.iadd X6.here hx rfl (hb hby at_42) rfl ?_
      show Steps _ _ _ (T6.setTop (mkF m 43 #[.val (.int p1), .val (.int p2), .val (.int p3), .val (.int vK), .val (.int vL), .val (.int vP), .val (.ref b6), .unset, .unset, .unset, .unset, .unset, .unset] [(.int (vP + (2 : Int32)))])) _
      refine XS.iload X6.here hx rfl (hb hby at_43) rfl ?_
      show Steps _ _ _ (T6.setTop (mkF m 45 #[.val (.int p1), .val (.int p2), .val (.int p3), .val (.int vK), .val (.int vL), .val (.int vP), .val (.ref b6), .unset, .unset, .unset, .unset, .unset, .unset] [(.int vL), (.int (vP + (2 : Int32)))])) _
      refine XS.iadd X6.here hx rfl (hb hby at_45) rfl ?_
      show Steps _ _ _ (T6.setTop (mkF m 46 #[.val (.int p1), .val (.int p2), .val (.int p3), .val (.int vK), .val (.int vL), .val (.int vP), .val (.ref b6), .unset, .unset, .unset, .unset, .unset, .unset] [(.int ((vP + (2 : Int32)) + vL))])) _
      exact k
    obtain ⟨vZ, hvZ⟩ : ∃ z : Int32, z = ((vP + (2 : Int32)) + vL) := ⟨_, rfl⟩
    rw [← hvZ] at pre10
    have hA := own_all vP vL vZ hP hL hvZ
    obtain ⟨q1, q2, q3⟩ := hA
    have hT : vP.toNatClampNeg = vP.toInt.toNat ∧ (vP + (1 : Int32)).toNatClampNeg = (vP + (1 : Int32)).toInt.toNat ∧ (vP + (2 : Int32)).toNatClampNeg = (vP + (2 : Int32)).toInt.toNat ∧ vZ.toNatClampNeg = vZ.toInt.toNat ∧ vL.toNatClampNeg = vL.toInt.toNat := ⟨rfl, rfl, rfl, rfl, rfl⟩
    obtain ⟨t1, t2, t3, t4, t5⟩ := hT
    obtain ⟨T11, h11, k11, X11, e11, E11, A11, st11⟩ := newP X6 hx hZ (hw _ (List.mem_of_getElem? (i := 0) rfl)) e6 (g := (mkF m 46 #[.val (.int p1), .val (.int p2), .val (.int p3), .val (.int vK), .val (.int vL), .val (.int vP), .val (.ref b6), .unset, .unset, .unset, .unset, .unset, .unset] [(.int vZ)])) rfl (hb hby at_46) rfl (own_nltI (by omega)) (cap := 2056) (by omega) (by decide) (by decide) (by decide)
    obtain ⟨b11, g11⟩ : ∃ z, z = h6.size := ⟨_, rfl⟩
    rw [← g11] at A11 st11
    have ne12 : b6 ≠ b11 := Nat.ne_of_lt (Nat.lt_of_lt_of_le V6.lt (Nat.le_of_eq g11.symm))
    have ge13 : n0 ≤ b11 := Nat.le_trans (Nat.le_trans Z0 KC9.1) (Nat.le_of_eq g11.symm)
    have sz14 : h0.size ≤ b11 := Nat.le_trans KC9.1 (Nat.le_of_eq g11.symm)
    have KC15 : Keep h0 h11 [] := KC9.ext E11
    have V11 : Arv Z h11 b11 k11 .byte vZ (List.replicate (vZ).toNatClampNeg (.int (0 : Int32))) (.int (0 : Int32)) := (Arv.new A11 (own_nltI (by omega))).pad (pad_rep [] (.int (0 : Int32)) (vZ).toNatClampNeg)
    have hc16 : vK = (0 : Int32) := hK
    have F17 : Arv Z h11 b6 k6 .byte vL (List.replicate (vL).toNatClampNeg (.int (0 : Int32))) (.int (0 : Int32)) := (V6.ext E11)
    obtain ⟨_, _, ⟨T18, L18, k18, n18⟩, -, X18, ⟨Lc18, hQ18, l18, y18, z18⟩, st18⟩ := Jvm.LawKit.callS X11 hx (y := (⟨"com/example/blockflate/blockflate/Layout", "keyEntryLength", "([B)I"⟩ : MethodName)) hown (mvT hZ (hw _ (List.mem_of_getElem? (i := 1) rfl))) (mvT hZ (hw _ (List.mem_of_getElem? (i := 2) rfl))) (mvT hZ (hw _ (List.mem_of_getElem? (i := 3) rfl))) (mvT hZ (hw _ (List.mem_of_getElem? (i := 4) rfl))) (by decide) (backOf (W := 0) (rm_kelY l Z a0 hw [] b6 k6 vL (List.replicate (vL).toNatClampNeg (.int (0 : Int32))) (.int (0 : Int32)) h11 n0 (Nat.le_trans Z0 KC15.1) F17) hZ (hw _ (List.mem_of_getElem? (i := 4) rfl)) (hw _ (List.mem_of_getElem? (i := 3) rfl)) (by decide) (by decide)) (g := (mkF m 66 #[.val (.int p1), .val (.int p2), .val (.int p3), .val (.int vK), .val (.int vL), .val (.int vP), .val (.ref b6), .val (.ref b11), .val (.int ((2 : Int32) + vL)), .unset, .unset, .unset, .unset] [(.ref b6)])) rfl (by rw [hml]; rfl) (argsL := [(.ref b6)]) (rest := []) (lenOf pd_2 rfl) rfl (by show 2 * 0 + _ ≤ _; exact Nat.le_of_eq rfl) (hb hby at_66) (fun _ _ => ⟨rfl, e11, (by decide : 2 + 0 ≤ _), (by decide : 4103 + 0 ≤ _)⟩)
    dsimp only [Pt.U, Pt.locs, Pt.cells, Pt.slots] at X18 l18 y18 z18 st18 hQ18
    subst l18 y18 z18
    obtain ⟨rfl, Nq18, q18_0⟩ := hQ18
    have N19 := Fr.app N0 Nq18
    obtain ⟨_, _, ⟨T20, L20, k20, n20⟩, -, X20, ⟨Lc20, hQ20, l20, y20, z20⟩, st20⟩ := Jvm.LawKit.callS X18 hx (y := (⟨"com/example/blockflate/blockflate/Layout", "putKey", "([BI[B)I"⟩ : MethodName)) hown (mvT hZ (hw _ (List.mem_of_getElem? (i := 5) rfl))) (mvT hZ (hw _ (List.mem_of_getElem? (i := 6) rfl))) (mvT hZ (hw _ (List.mem_of_getElem? (i := 3) rfl))) (mvT hZ (hw _ (List.mem_of_getElem? (i := 7) rfl))) (by decide) (backOf (W := 0) (rm_pkY l Z a0 hw [] b11 vP b6 k11 vZ (List.replicate (vZ).toNatClampNeg (.int (0 : Int32))) (.int (0 : Int32)) k6 vL (List.replicate (vL).toNatClampNeg (.int (0 : Int32))) (.int (0 : Int32)) h11 n0 (Nat.le_trans Z0 KC15.1) V11 F17 ge13 ne12 ⟨own_nltI (by omega), own_ltI (by omega)⟩ ⟨own_nltI (by omega), own_ltI (by omega)⟩ (by rw [List.length_replicate]; omega) (by rw [List.length_replicate]; omega) (own_nltI (by omega)) (own_nltI (by omega)) (by omega) (by rw [List.length_replicate]; omega)) hZ (hw _ (List.mem_of_getElem? (i := 7) rfl)) (hw _ (List.mem_of_getElem? (i := 3) rfl)) (by decide) (by decide)) (g := (mkF m 77 #[.val (.int p1), .val (.int p2), .val (.int p3), .val (.int vK), .val (.int vL), .val (.int vP), .val (.ref b6), .val (.ref b11), .val (.int ((2 : Int32) + vL)), .val (.int ((2 : Int32) + vL)), .unset, .unset, .unset] [(.ref b6), (.int vP), (.ref b11)])) rfl (by rw [hml]; rfl) (argsL := [(.ref b11), (.int vP), (.ref b6)]) (rest := []) (lenOf pd_3 rfl) rfl (by show 2 * 0 + _ ≤ _; exact Nat.le_of_eq rfl) (hb hby at_77) (fun _ _ => ⟨rfl, q18_0, (by decide : 2 + 0 ≤ _), (by decide : 4103 + 0 ≤ _)⟩)
    dsimp only [Pt.U, Pt.locs, Pt.cells, Pt.slots] at X20 l20 y20 z20 st20 hQ20
    subst l20 y20 z20
    obtain ⟨rfl, Nq20, q20_0, q20_1⟩ := hQ20
    have N21 := Fr.app N19 Nq20
    have KC22 : Keep h0 T20.heap [] := KC15.trans q20_0 (allS (Or.inr sz14) all0)
    obtain ⟨c23, Arc23, Aqc23, Asc23, Anc23, Ahc23, Agc23⟩ := id q20_1
    have hin24 : ¬ (vP < 0 ∨ c23.slots.size ≤ (vP).toNatClampNeg) := inb_of Asc23 ⟨own_nltI (by omega), own_ltI (by omega)⟩
    have hat25 : c23.slots[(vP).toNatClampNeg]? = some (.int ((vL.toInt8.toInt32).toInt8.toInt32)) := Has.at Ahc23 hin24 ((own_tk (by omega) (by rw [List.length_set, List.length_set, List.length_replicate]; omega)).trans (own_set0 (by rw [List.length_replicate]; omega) (by omega)))
    obtain ⟨c26, Arc26, Aqc26, Asc26, Anc26, Ahc26, Agc26⟩ := id q20_1
    have hin27 : ¬ ((vP + (1 : Int32)) < 0 ∨ c26.slots.size ≤ ((vP + (1 : Int32))).toNatClampNeg) := inb_of Asc26 ⟨own_nltI (by omega), own_ltI (by omega)⟩
    have hat28 : c26.slots[((vP + (1 : Int32))).toNatClampNeg]? = some (.int ((((vL.toUInt32 >>> ((8 : Int32) &&& 31).toUInt32).toInt32).toInt8.toInt32).toInt8.toInt32)) := Has.at Ahc26 hin27 ((own_tk (by omega) (by rw [List.length_set, List.length_set, List.length_replicate]; omega)).trans (own_set1 (by rw [List.length_replicate]; omega)))
    have pre29 : ∀ t, Steps p.tables e below (T20.setTop (mkF m 106 #[.val (.int p1), .val (.int p2), .val (.int p3), .val (.int vK), .val (.int vL), .val (.int vP), .val (.ref b6), .val (.ref b11), .val (.int ((2 : Int32) + vL)), .val (.int ((2 : Int32) + vL)), .val (.int ((vP + (2 : Int32)) + vL)), .unset, .unset] [(.int ((((vL.toInt8.toInt32).toInt8.toInt32) &&& (255 : Int32)) ||| ((((((vL.toUInt32 >>> ((8 : Int32) &&& 31).toUInt32).toInt32).toInt8.toInt32).toInt8.toInt32) &&& (255 : Int32)) <<< ((8 : Int32) &&& 31))))])) t → Steps p.tables e below (s₁.setTop (entryFrame m #[(.int p1), (.int p2), (.int p3)] maxLocals)) t := by
      intro t k
      refine pre10 t ?_
      refine st11 _ ?_
      show Steps _ _ _ (T11.setTop (mkF m 48 #[.val (.int p1), .val (.int p2), .val (.int p3), .val (.int vK), .val (.int vL), .val (.int vP), .val (.ref b6), .unset, .unset, .unset, .unset, .unset, .unset] [(.ref b11)])) _
      refine XS.astore X11.here hx rfl (hb hby at_48) rfl rfl (l' := #[.val (.int p1), .val (.int p2), .val (.int p3), .val (.int vK), .val (.int vL), .val (.int vP), .val (.ref b6), .val (.ref b11), .unset, .unset, .unset, .unset, .unset]) rfl ?_
      show Steps _ _ _ (T11.setTop (mkF m 50 #[.val (.int p1), .val (.int p2), .val (.int p3), .val (.int vK), .val (.int vL), .val (.int vP), .val (.ref b6), .val (.ref b11), .unset, .unset, .unset, .unset, .unset] [])) _
      refine XS.iloadN X11.here hx rfl (hb hby at_50) rfl ?_
      show Steps _ _ _ (T11.setTop (mkF m 51 #[.val (.int p1), .val (.int p2), .val (.int p3), .val (.int vK), .val (.int vL), .val (.int vP), .val (.ref b6), .val (.ref b11), .unset, .unset, .unset, .unset, .unset] [(.int vK)])) _
      refine XS.ifYes X11.here hx rfl (pc0 := 51) (pc' := 58) rfl (hb hby at_51) rfl ((if0 _ _).trans (teq hc16).1) (by decide) (by decide) ?_
      show Steps _ _ _ (T11.setTop (mkF m 58 #[.val (.int p1), .val (.int p2), .val (.int p3), .val (.int vK), .val (.int vL), .val (.int vP), .val (.ref b6), .val (.ref b11), .unset, .unset, .unset, .unset, .unset] [])) _
      refine XS.iconst X11.here hx rfl (hb hby at_58) ?_
      show Steps _ _ _ (T11.setTop (mkF m 59 #[.val (.int p1), .val (.int p2), .val (.int p3), .val (.int vK), .val (.int vL), .val (.int vP), .val (.ref b6), .val (.ref b11), .unset, .unset, .unset, .unset, .unset] [(.int (2 : Int32))])) _
      refine XS.iload X11.here hx rfl (hb hby at_59) rfl ?_
      show Steps _ _ _ (T11.setTop (mkF m 61 #[.val (.int p1), .val (.int p2), .val (.int p3), .val (.int vK), .val (.int vL), .val (.int vP), .val (.ref b6), .val (.ref b11), .unset, .unset, .unset, .unset, .unset] [(.int vL), (.int (2 : Int32))])) _
      refine XS.iadd X11.here hx rfl (hb hby at_61) rfl ?_
      show Steps _ _ _ (T11.setTop (mkF m 62 #[.val (.int p1), .val (.int p2), .val (.int p3), .val (.int vK), .val (.int vL), .val (.int vP), .val (.ref b6), .val (.ref b11), .unset, .unset, .unset, .unset, .unset] [(.int ((2 : Int32) + vL))])) _
      refine XS.istore X11.here hx rfl (hb hby at_62) rfl (l' := #[.val (.int p1), .val (.int p2), .val (.int p3), .val (.int vK), .val (.int vL), .val (.int vP), .val (.ref b6), .val (.ref b11), .val (.int ((2 : Int32) + vL)), .unset, .unset, .unset, .unset]) rfl ?_
      show Steps _ _ _ (T11.setTop (mkF m 64 #[.val (.int p1), .val (.int p2), .val (.int p3), .val (.int vK), .val (.int vL), .val (.int vP), .val (.ref b6), .val (.ref b11), .val (.int ((2 : Int32) + vL)), .unset, .unset, .unset, .unset] [])) _
      refine XS.aload X11.here hx rfl (hb hby at_64) rfl rfl ?_
      show Steps _ _ _ (T11.setTop (mkF m 66 #[.val (.int p1), .val (.int p2), .val (.int p3), .val (.int vK), .val (.int vL), .val (.int vP), .val (.ref b6), .val (.ref b11), .val (.int ((2 : Int32) + vL)), .unset, .unset, .unset, .unset] [(.ref b6)])) _
      refine st18 _ ?_
      show Steps _ _ _ (T18.setTop (mkF m 69 #[.val (.int p1), .val (.int p2), .val (.int p3), .val (.int vK), .val (.int vL), .val (.int vP), .val (.ref b6), .val (.ref b11), .val (.int ((2 : Int32) + vL)), .unset, .unset, .unset, .unset] [(.int ((2 : Int32) + vL))])) _
      refine XS.istore X18.here hx rfl (hb hby at_69) rfl (l' := #[.val (.int p1), .val (.int p2), .val (.int p3), .val (.int vK), .val (.int vL), .val (.int vP), .val (.ref b6), .val (.ref b11), .val (.int ((2 : Int32) + vL)), .val (.int ((2 : Int32) + vL)), .unset, .unset, .unset]) rfl ?_
      show Steps _ _ _ (T18.setTop (mkF m 71 #[.val (.int p1), .val (.int p2), .val (.int p3), .val (.int vK), .val (.int vL), .val (.int vP), .val (.ref b6), .val (.ref b11), .val (.int ((2 : Int32) + vL)), .val (.int ((2 : Int32) + vL)), .unset, .unset, .unset] [])) _
      refine XS.aload X18.here hx rfl (hb hby at_71) rfl rfl ?_
      show Steps _ _ _ (T18.setTop (mkF m 73 #[.val (.int p1), .val (.int p2), .val (.int p3), .val (.int vK), .val (.int vL), .val (.int vP), .val (.ref b6), .val (.ref b11), .val (.int ((2 : Int32) + vL)), .val (.int ((2 : Int32) + vL)), .unset, .unset, .unset] [(.ref b11)])) _
      refine XS.iload X18.here hx rfl (hb hby at_73) rfl ?_
      show Steps _ _ _ (T18.setTop (mkF m 75 #[.val (.int p1), .val (.int p2), .val (.int p3), .val (.int vK), .val (.int vL), .val (.int vP), .val (.ref b6), .val (.ref b11), .val (.int ((2 : Int32) + vL)), .val (.int ((2 : Int32) + vL)), .unset, .unset, .unset] [(.int vP), (.ref b11)])) _
      refine XS.aload X18.here hx rfl (hb hby at_75) rfl rfl ?_
      show Steps _ _ _ (T18.setTop (mkF m 77 #[.val (.int p1), .val (.int p2), .val (.int p3), .val (.int vK), .val (.int vL), .val (.int vP), .val (.ref b6), .val (.ref b11), .val (.int ((2 : Int32) + vL)), .val (.int ((2 : Int32) + vL)), .unset, .unset, .unset] [(.ref b6), (.int vP), (.ref b11)])) _
      refine st20 _ ?_
      show Steps _ _ _ (T20.setTop (mkF m 80 #[.val (.int p1), .val (.int p2), .val (.int p3), .val (.int vK), .val (.int vL), .val (.int vP), .val (.ref b6), .val (.ref b11), .val (.int ((2 : Int32) + vL)), .val (.int ((2 : Int32) + vL)), .unset, .unset, .unset] [(.int ((vP + (2 : Int32)) + vL))])) _
      refine XS.istore X20.here hx rfl (hb hby at_80) rfl (l' := #[.val (.int p1), .val (.int p2), .val (.int p3), .val (.int vK), .val (.int vL), .val (.int vP), .val (.ref b6), .val (.ref b11), .val (.int ((2 : Int32) + vL)), .val (.int ((2 : Int32) + vL)), .val (.int ((vP + (2 : Int32)) + vL)), .unset, .unset]) rfl ?_
      show Steps _ _ _ (T20.setTop (mkF m 82 #[.val (.int p1), .val (.int p2), .val (.int p3), .val (.int vK), .val (.int vL), .val (.int vP), .val (.ref b6), .val (.ref b11), .val (.int ((2 : Int32) + vL)), .val (.int ((2 : Int32) + vL)), .val (.int ((vP + (2 : Int32)) + vL)), .unset, .unset] [])) _
      refine XS.aload X20.here hx rfl (hb hby at_82) rfl rfl ?_
      show Steps _ _ _ (T20.setTop (mkF m 84 #[.val (.int p1), .val (.int p2), .val (.int p3), .val (.int vK), .val (.int vL), .val (.int vP), .val (.ref b6), .val (.ref b11), .val (.int ((2 : Int32) + vL)), .val (.int ((2 : Int32) + vL)), .val (.int ((vP + (2 : Int32)) + vL)), .unset, .unset] [(.ref b11)])) _
      refine XS.iload X20.here hx rfl (hb hby at_84) rfl ?_
      show Steps _ _ _ (T20.setTop (mkF m 86 #[.val (.int p1), .val (.int p2), .val (.int p3), .val (.int vK), .val (.int vL), .val (.int vP), .val (.ref b6), .val (.ref b11), .val (.int ((2 : Int32) + vL)), .val (.int ((2 : Int32) + vL)), .val (.int ((vP + (2 : Int32)) + vL)), .unset, .unset] [(.int vP), (.ref b11)])) _
      refine X20.baloadBytes hx (j := vP) (v := (.int ((vL.toInt8.toInt32).toInt8.toInt32))) Arc23.1 (State.isArrayOf_alike hZ.alike Arc23.2.1) Arc23.2.2 hin24 hat25 (g := (mkF m 86 #[.val (.int p1), .val (.int p2), .val (.int p3), .val (.int vK), .val (.int vL), .val (.int vP), .val (.ref b6), .val (.ref b11), .val (.int ((2 : Int32) + vL)), .val (.int ((2 : Int32) + vL)), .val (.int ((vP + (2 : Int32)) + vL)), .unset, .unset] [(.int vP), (.ref b11)])) rfl rfl (hb hby at_86) _ ?_
      show Steps _ _ _ (T20.setTop (mkF m 87 #[.val (.int p1), .val (.int p2), .val (.int p3), .val (.int vK), .val (.int vL), .val (.int vP), .val (.ref b6), .val (.ref b11), .val (.int ((2 : Int32) + vL)), .val (.int ((2 : Int32) + vL)), .val (.int ((vP + (2 : Int32)) + vL)), .unset, .unset] [(.int ((vL.toInt8.toInt32).toInt8.toInt32))])) _
      refine XS.sipush X20.here hx rfl (hb hby at_87) ?_
      show Steps _ _ _ (T20.setTop (mkF m 90 #[.val (.int p1), .val (.int p2), .val (.int p3), .val (.int vK), .val (.int vL), .val (.int vP), .val (.ref b6), .val (.ref b11), .val (.int ((2 : Int32) + vL)), .val (.int ((2 : Int32) + vL)), .val (.int ((vP + (2 : Int32)) + vL)), .unset, .unset] [(.int (255 : Int32)), (.int ((vL.toInt8.toInt32).toInt8.toInt32))])) _
      refine XS.iand X20.here hx rfl (hb hby at_90) rfl ?_
      show Steps _ _ _ (T20.setTop (mkF m 91 #[.val (.int p1), .val (.int p2), .val (.int p3), .val (.int vK), .val (.int vL), .val (.int vP), .val (.ref b6), .val (.ref b11), .val (.int ((2 : Int32) + vL)), .val (.int ((2 : Int32) + vL)), .val (.int ((vP + (2 : Int32)) + vL)), .unset, .unset] [(.int (((vL.toInt8.toInt32).toInt8.toInt32) &&& (255 : Int32)))])) _
      refine XS.aload X20.here hx rfl (hb hby at_91) rfl rfl ?_
      show Steps _ _ _ (T20.setTop (mkF m 93 #[.val (.int p1), .val (.int p2), .val (.int p3), .val (.int vK), .val (.int vL), .val (.int vP), .val (.ref b6), .val (.ref b11), .val (.int ((2 : Int32) + vL)), .val (.int ((2 : Int32) + vL)), .val (.int ((vP + (2 : Int32)) + vL)), .unset, .unset] [(.ref b11), (.int (((vL.toInt8.toInt32).toInt8.toInt32) &&& (255 : Int32)))])) _
      refine XS.iload X20.here hx rfl (hb hby at_93) rfl ?_
      show Steps _ _ _ (T20.setTop (mkF m 95 #[.val (.int p1), .val (.int p2), .val (.int p3), .val (.int vK), .val (.int vL), .val (.int vP), .val (.ref b6), .val (.ref b11), .val (.int ((2 : Int32) + vL)), .val (.int ((2 : Int32) + vL)), .val (.int ((vP + (2 : Int32)) + vL)), .unset, .unset] [(.int vP), (.ref b11), (.int (((vL.toInt8.toInt32).toInt8.toInt32) &&& (255 : Int32)))])) _
      refine XS.iconst X20.here hx rfl (hb hby at_95) ?_
      show Steps _ _ _ (T20.setTop (mkF m 96 #[.val (.int p1), .val (.int p2), .val (.int p3), .val (.int vK), .val (.int vL), .val (.int vP), .val (.ref b6), .val (.ref b11), .val (.int ((2 : Int32) + vL)), .val (.int ((2 : Int32) + vL)), .val (.int ((vP + (2 : Int32)) + vL)), .unset, .unset] [(.int (1 : Int32)), (.int vP), (.ref b11), (.int (((vL.toInt8.toInt32).toInt8.toInt32) &&& (255 : Int32)))])) _
      refine XS.iadd X20.here hx rfl (hb hby at_96) rfl ?_
      show Steps _ _ _ (T20.setTop (mkF m 97 #[.val (.int p1), .val (.int p2), .val (.int p3), .val (.int vK), .val (.int vL), .val (.int vP), .val (.ref b6), .val (.ref b11), .val (.int ((2 : Int32) + vL)), .val (.int ((2 : Int32) + vL)), .val (.int ((vP + (2 : Int32)) + vL)), .unset, .unset] [(.int (vP + (1 : Int32))), (.ref b11), (.int (((vL.toInt8.toInt32).toInt8.toInt32) &&& (255 : Int32)))])) _
      refine X20.baloadBytes hx (j := (vP + (1 : Int32))) (v := (.int ((((vL.toUInt32 >>> ((8 : Int32) &&& 31).toUInt32).toInt32).toInt8.toInt32).toInt8.toInt32))) Arc26.1 (State.isArrayOf_alike hZ.alike Arc26.2.1) Arc26.2.2 hin27 hat28 (g := (mkF m 97 #[.val (.int p1), .val (.int p2), .val (.int p3), .val (.int vK), .val (.int vL), .val (.int vP), .val (.ref b6), .val (.ref b11), .val (.int ((2 : Int32) + vL)), .val (.int ((2 : Int32) + vL)), .val (.int ((vP + (2 : Int32)) + vL)), .unset, .unset] [(.int (vP + (1 : Int32))), (.ref b11), (.int (((vL.toInt8.toInt32).toInt8.toInt32) &&& (255 : Int32)))])) rfl rfl (hb hby at_97) _ ?_
      show Steps _ _ _ (T20.setTop (mkF m 98 #[.val (.int p1), .val (.int p2), .val (.int p3), .val (.int vK), .val (.int vL), .val (.int vP), .val (.ref b6), .val (.ref b11), .val (.int ((2 : Int32) + vL)), .val (.int ((2 : Int32) + vL)), .val (.int ((vP + (2 : Int32)) + vL)), .unset, .unset] [(.int ((((vL.toUInt32 >>> ((8 : Int32) &&& 31).toUInt32).toInt32).toInt8.toInt32).toInt8.toInt32)), (.int (((vL.toInt8.toInt32).toInt8.toInt32) &&& (255 : Int32)))])) _
      refine XS.sipush X20.here hx rfl (hb hby at_98) ?_
      show Steps _ _ _ (T20.setTop (mkF m 101 #[.val (.int p1), .val (.int p2), .val (.int p3), .val (.int vK), .val (.int vL), .val (.int vP), .val (.ref b6), .val (.ref b11), .val (.int ((2 : Int32) + vL)), .val (.int ((2 : Int32) + vL)), .val (.int ((vP + (2 : Int32)) + vL)), .unset, .unset] [(.int (255 : Int32)), (.int ((((vL.toUInt32 >>> ((8 : Int32) &&& 31).toUInt32).toInt32).toInt8.toInt32).toInt8.toInt32)), (.int (((vL.toInt8.toInt32).toInt8.toInt32) &&& (255 : Int32)))])) _
      refine XS.iand X20.here hx rfl (hb hby at_101) rfl ?_
      show Steps _ _ _ (T20.setTop (mkF m 102 #[.val (.int p1), .val (.int p2), .val (.int p3), .val (.int vK), .val (.int vL), .val (.int vP), .val (.ref b6), .val (.ref b11), .val (.int ((2 : Int32) + vL)), .val (.int ((2 : Int32) + vL)), .val (.int ((vP + (2 : Int32)) + vL)), .unset, .unset] [(.int (((((vL.toUInt32 >>> ((8 : Int32) &&& 31).toUInt32).toInt32).toInt8.toInt32).toInt8.toInt32) &&& (255 : Int32))), (.int (((vL.toInt8.toInt32).toInt8.toInt32) &&& (255 : Int32)))])) _
      refine XS.bipush X20.here hx rfl (hb hby at_102) ?_
      show Steps _ _ _ (T20.setTop (mkF m 104 #[.val (.int p1), .val (.int p2), .val (.int p3), .val (.int vK), .val (.int vL), .val (.int vP), .val (.ref b6), .val (.ref b11), .val (.int ((2 : Int32) + vL)), .val (.int ((2 : Int32) + vL)), .val (.int ((vP + (2 : Int32)) + vL)), .unset, .unset] [(.int (8 : Int32)), (.int (((((vL.toUInt32 >>> ((8 : Int32) &&& 31).toUInt32).toInt32).toInt8.toInt32).toInt8.toInt32) &&& (255 : Int32))), (.int (((vL.toInt8.toInt32).toInt8.toInt32) &&& (255 : Int32)))])) _
      refine XS.ishl X20.here hx rfl (hb hby at_104) rfl ?_
      show Steps _ _ _ (T20.setTop (mkF m 105 #[.val (.int p1), .val (.int p2), .val (.int p3), .val (.int vK), .val (.int vL), .val (.int vP), .val (.ref b6), .val (.ref b11), .val (.int ((2 : Int32) + vL)), .val (.int ((2 : Int32) + vL)), .val (.int ((vP + (2 : Int32)) + vL)), .unset, .unset] [(.int ((((((vL.toUInt32 >>> ((8 : Int32) &&& 31).toUInt32).toInt32).toInt8.toInt32).toInt8.toInt32) &&& (255 : Int32)) <<< ((8 : Int32) &&& 31))), (.int (((vL.toInt8.toInt32).toInt8.toInt32) &&& (255 : Int32)))])) _
      refine XS.ior X20.here hx rfl (hb hby at_105) rfl ?_
      show Steps _ _ _ (T20.setTop (mkF m 106 #[.val (.int p1), .val (.int p2), .val (.int p3), .val (.int vK), .val (.int vL), .val (.int vP), .val (.ref b6), .val (.ref b11), .val (.int ((2 : Int32) + vL)), .val (.int ((2 : Int32) + vL)), .val (.int ((vP + (2 : Int32)) + vL)), .unset, .unset] [(.int ((((vL.toInt8.toInt32).toInt8.toInt32) &&& (255 : Int32)) ||| ((((((vL.toUInt32 >>> ((8 : Int32) &&& 31).toUInt32).toInt32).toInt8.toInt32).toInt8.toInt32) &&& (255 : Int32)) <<< ((8 : Int32) &&& 31))))])) _
      exact k
    have hc30 : vK = (0 : Int32) := hK
    have hc31 : ((vP + (2 : Int32)) + vL) = (vP + ((2 : Int32) + vL)) := Int32.add_assoc _ _ _
    have hc32 : ((((vL.toInt8.toInt32).toInt8.toInt32) &&& (255 : Int32)) ||| ((((((vL.toUInt32 >>> ((8 : Int32) &&& 31).toUInt32).toInt32).toInt8.toInt32).toInt8.toInt32) &&& (255 : Int32)) <<< ((8 : Int32) &&& 31))) = vL := own_pref vL hL
    have pre33 : ∀ t, Steps p.tables e below (T20.setTop (mkF m 150 #[.val (.int p1), .val (.int p2), .val (.int p3), .val (.int vK), .val (.int vL), .val (.int vP), .val (.ref b6), .val (.ref b11), .val (.int ((2 : Int32) + vL)), .val (.int ((2 : Int32) + vL)), .val (.int ((vP + (2 : Int32)) + vL)), .val (.int ((((vL.toInt8.toInt32).toInt8.toInt32) &&& (255 : Int32)) ||| ((((((vL.toUInt32 >>> ((8 : Int32) &&& 31).toUInt32).toInt32).toInt8.toInt32).toInt8.toInt32) &&& (255 : Int32)) <<< ((8 : Int32) &&& 31)))), .val (.int vL)] [(.int (1 : Int32))])) t → Steps p.tables e below (s₁.setTop (entryFrame m #[(.int p1), (.int p2), (.int p3)] maxLocals)) t := by
      intro t k
      refine pre29 t ?_
      refine XS.istore X20.here hx rfl (hb hby at_106) rfl (l' := #[.val (.int p1), .val (.int p2), .val (.int p3), .val (.int vK), .val (.int vL), .val (.int vP), .val (.ref b6), .val (.ref b11), .val (.int ((2 : Int32) + vL)), .val (.int ((2 : Int32) + vL)), .val (.int ((vP + (2 : Int32)) + vL)), .val (.int ((((vL.toInt8.toInt32).toInt8.toInt32) &&& (255 : Int32)) ||| ((((((vL.toUInt32 >>> ((8 : Int32) &&& 31).toUInt32).toInt32).toInt8.toInt32).toInt8.toInt32) &&& (255 : Int32)) <<< ((8 : Int32) &&& 31)))), .unset]) rfl ?_
      show Steps _ _ _ (T20.setTop (mkF m 108 #[.val (.int p1), .val (.int p2), .val (.int p3), .val (.int vK), .val (.int vL), .val (.int vP), .val (.ref b6), .val (.ref b11), .val (.int ((2 : Int32) + vL)), .val (.int ((2 : Int32) + vL)), .val (.int ((vP + (2 : Int32)) + vL)), .val (.int ((((vL.toInt8.toInt32).toInt8.toInt32) &&& (255 : Int32)) ||| ((((((vL.toUInt32 >>> ((8 : Int32) &&& 31).toUInt32).toInt32).toInt8.toInt32).toInt8.toInt32) &&& (255 : Int32)) <<< ((8 : Int32) &&& 31)))), .unset] [])) _
      refine XS.iloadN X20.here hx rfl (hb hby at_108) rfl ?_
      show Steps _ _ _ (T20.setTop (mkF m 109 #[.val (.int p1), .val (.int p2), .val (.int p3), .val (.int vK), .val (.int vL), .val (.int vP), .val (.ref b6), .val (.ref b11), .val (.int ((2 : Int32) + vL)), .val (.int ((2 : Int32) + vL)), .val (.int ((vP + (2 : Int32)) + vL)), .val (.int ((((vL.toInt8.toInt32).toInt8.toInt32) &&& (255 : Int32)) ||| ((((((vL.toUInt32 >>> ((8 : Int32) &&& 31).toUInt32).toInt32).toInt8.toInt32).toInt8.toInt32) &&& (255 : Int32)) <<< ((8 : Int32) &&& 31)))), .unset] [(.int vK)])) _
      refine XS.ifYes X20.here hx rfl (pc0 := 109) (pc' := 117) rfl (hb hby at_109) rfl ((if0 _ _).trans (teq hc30).1) (by decide) (by decide) ?_
      show Steps _ _ _ (T20.setTop (mkF m 117 #[.val (.int p1), .val (.int p2), .val (.int p3), .val (.int vK), .val (.int vL), .val (.int vP), .val (.ref b6), .val (.ref b11), .val (.int ((2 : Int32) + vL)), .val (.int ((2 : Int32) + vL)), .val (.int ((vP + (2 : Int32)) + vL)), .val (.int ((((vL.toInt8.toInt32).toInt8.toInt32) &&& (255 : Int32)) ||| ((((((vL.toUInt32 >>> ((8 : Int32) &&& 31).toUInt32).toInt32).toInt8.toInt32).toInt8.toInt32) &&& (255 : Int32)) <<< ((8 : Int32) &&& 31)))), .unset] [])) _
      refine XS.iload X20.here hx rfl (hb hby at_117) rfl ?_
      show Steps _ _ _ (T20.setTop (mkF m 119 #[.val (.int p1), .val (.int p2), .val (.int p3), .val (.int vK), .val (.int vL), .val (.int vP), .val (.ref b6), .val (.ref b11), .val (.int ((2 : Int32) + vL)), .val (.int ((2 : Int32) + vL)), .val (.int ((vP + (2 : Int32)) + vL)), .val (.int ((((vL.toInt8.toInt32).toInt8.toInt32) &&& (255 : Int32)) ||| ((((((vL.toUInt32 >>> ((8 : Int32) &&& 31).toUInt32).toInt32).toInt8.toInt32).toInt8.toInt32) &&& (255 : Int32)) <<< ((8 : Int32) &&& 31)))), .unset] [(.int vL)])) _
      refine XS.istore X20.here hx rfl (hb hby at_119) rfl (l' := #[.val (.int p1), .val (.int p2), .val (.int p3), .val (.int vK), .val (.int vL), .val (.int vP), .val (.ref b6), .val (.ref b11), .val (.int ((2 : Int32) + vL)), .val (.int ((2 : Int32) + vL)), .val (.int ((vP + (2 : Int32)) + vL)), .val (.int ((((vL.toInt8.toInt32).toInt8.toInt32) &&& (255 : Int32)) ||| ((((((vL.toUInt32 >>> ((8 : Int32) &&& 31).toUInt32).toInt32).toInt8.toInt32).toInt8.toInt32) &&& (255 : Int32)) <<< ((8 : Int32) &&& 31)))), .val (.int vL)]) rfl ?_
      show Steps _ _ _ (T20.setTop (mkF m 121 #[.val (.int p1), .val (.int p2), .val (.int p3), .val (.int vK), .val (.int vL), .val (.int vP), .val (.ref b6), .val (.ref b11), .val (.int ((2 : Int32) + vL)), .val (.int ((2 : Int32) + vL)), .val (.int ((vP + (2 : Int32)) + vL)), .val (.int ((((vL.toInt8.toInt32).toInt8.toInt32) &&& (255 : Int32)) ||| ((((((vL.toUInt32 >>> ((8 : Int32) &&& 31).toUInt32).toInt32).toInt8.toInt32).toInt8.toInt32) &&& (255 : Int32)) <<< ((8 : Int32) &&& 31)))), .val (.int vL)] [])) _
      refine XS.iload X20.here hx rfl (hb hby at_121) rfl ?_
      show Steps _ _ _ (T20.setTop (mkF m 123 #[.val (.int p1), .val (.int p2), .val (.int p3), .val (.int vK), .val (.int vL), .val (.int vP), .val (.ref b6), .val (.ref b11), .val (.int ((2 : Int32) + vL)), .val (.int ((2 : Int32) + vL)), .val (.int ((vP + (2 : Int32)) + vL)), .val (.int ((((vL.toInt8.toInt32).toInt8.toInt32) &&& (255 : Int32)) ||| ((((((vL.toUInt32 >>> ((8 : Int32) &&& 31).toUInt32).toInt32).toInt8.toInt32).toInt8.toInt32) &&& (255 : Int32)) <<< ((8 : Int32) &&& 31)))), .val (.int vL)] [(.int ((2 : Int32) + vL))])) _
      refine XS.iload X20.here hx rfl (hb hby at_123) rfl ?_
      show Steps _ _ _ (T20.setTop (mkF m 125 #[.val (.int p1), .val (.int p2), .val (.int p3), .val (.int vK), .val (.int vL), .val (.int vP), .val (.ref b6), .val (.ref b11), .val (.int ((2 : Int32) + vL)), .val (.int ((2 : Int32) + vL)), .val (.int ((vP + (2 : Int32)) + vL)), .val (.int ((((vL.toInt8.toInt32).toInt8.toInt32) &&& (255 : Int32)) ||| ((((((vL.toUInt32 >>> ((8 : Int32) &&& 31).toUInt32).toInt32).toInt8.toInt32).toInt8.toInt32) &&& (255 : Int32)) <<< ((8 : Int32) &&& 31)))), .val (.int vL)] [(.int ((2 : Int32) + vL)), (.int ((2 : Int32) + vL))])) _
      refine XS.icmpNo X20.here hx rfl (hb hby at_125) rfl (teq rfl).2 ?_
      show Steps _ _ _ (T20.setTop (mkF m 128 #[.val (.int p1), .val (.int p2), .val (.int p3), .val (.int vK), .val (.int vL), .val (.int vP), .val (.ref b6), .val (.ref b11), .val (.int ((2 : Int32) + vL)), .val (.int ((2 : Int32) + vL)), .val (.int ((vP + (2 : Int32)) + vL)), .val (.int ((((vL.toInt8.toInt32).toInt8.toInt32) &&& (255 : Int32)) ||| ((((((vL.toUInt32 >>> ((8 : Int32) &&& 31).toUInt32).toInt32).toInt8.toInt32).toInt8.toInt32) &&& (255 : Int32)) <<< ((8 : Int32) &&& 31)))), .val (.int vL)] [])) _
      refine XS.iload X20.here hx rfl (hb hby at_128) rfl ?_
      show Steps _ _ _ (T20.setTop (mkF m 130 #[.val (.int p1), .val (.int p2), .val (.int p3), .val (.int vK), .val (.int vL), .val (.int vP), .val (.ref b6), .val (.ref b11), .val (.int ((2 : Int32) + vL)), .val (.int ((2 : Int32) + vL)), .val (.int ((vP + (2 : Int32)) + vL)), .val (.int ((((vL.toInt8.toInt32).toInt8.toInt32) &&& (255 : Int32)) ||| ((((((vL.toUInt32 >>> ((8 : Int32) &&& 31).toUInt32).toInt32).toInt8.toInt32).toInt8.toInt32) &&& (255 : Int32)) <<< ((8 : Int32) &&& 31)))), .val (.int vL)] [(.int ((vP + (2 : Int32)) + vL))])) _
      refine XS.iload X20.here hx rfl (hb hby at_130) rfl ?_
      show Steps _ _ _ (T20.setTop (mkF m 132 #[.val (.int p1), .val (.int p2), .val (.int p3), .val (.int vK), .val (.int vL), .val (.int vP), .val (.ref b6), .val (.ref b11), .val (.int ((2 : Int32) + vL)), .val (.int ((2 : Int32) + vL)), .val (.int ((vP + (2 : Int32)) + vL)), .val (.int ((((vL.toInt8.toInt32).toInt8.toInt32) &&& (255 : Int32)) ||| ((((((vL.toUInt32 >>> ((8 : Int32) &&& 31).toUInt32).toInt32).toInt8.toInt32).toInt8.toInt32) &&& (255 : Int32)) <<< ((8 : Int32) &&& 31)))), .val (.int vL)] [(.int vP), (.int ((vP + (2 : Int32)) + vL))])) _
      refine XS.iload X20.here hx rfl (hb hby at_132) rfl ?_
      show Steps _ _ _ (T20.setTop (mkF m 134 #[.val (.int p1), .val (.int p2), .val (.int p3), .val (.int vK), .val (.int vL), .val (.int vP), .val (.ref b6), .val (.ref b11), .val (.int ((2 : Int32) + vL)), .val (.int ((2 : Int32) + vL)), .val (.int ((vP + (2 : Int32)) + vL)), .val (.int ((((vL.toInt8.toInt32).toInt8.toInt32) &&& (255 : Int32)) ||| ((((((vL.toUInt32 >>> ((8 : Int32) &&& 31).toUInt32).toInt32).toInt8.toInt32).toInt8.toInt32) &&& (255 : Int32)) <<< ((8 : Int32) &&& 31)))), .val (.int vL)] [(.int ((2 : Int32) + vL)), (.int vP), (.int ((vP + (2 : Int32)) + vL))])) _
      refine XS.iadd X20.here hx rfl (hb hby at_134) rfl ?_
      show Steps _ _ _ (T20.setTop (mkF m 135 #[.val (.int p1), .val (.int p2), .val (.int p3), .val (.int vK), .val (.int vL), .val (.int vP), .val (.ref b6), .val (.ref b11), .val (.int ((2 : Int32) + vL)), .val (.int ((2 : Int32) + vL)), .val (.int ((vP + (2 : Int32)) + vL)), .val (.int ((((vL.toInt8.toInt32).toInt8.toInt32) &&& (255 : Int32)) ||| ((((((vL.toUInt32 >>> ((8 : Int32) &&& 31).toUInt32).toInt32).toInt8.toInt32).toInt8.toInt32) &&& (255 : Int32)) <<< ((8 : Int32) &&& 31)))), .val (.int vL)] [(.int (vP + ((2 : Int32) + vL))), (.int ((vP + (2 : Int32)) + vL))])) _
      refine XS.icmpNo X20.here hx rfl (hb hby at_135) rfl (teq hc31).2 ?_
      show Steps _ _ _ (T20.setTop (mkF m 138 #[.val (.int p1), .val (.int p2), .val (.int p3), .val (.int vK), .val (.int vL), .val (.int vP), .val (.ref b6), .val (.ref b11), .val (.int ((2 : Int32) + vL)), .val (.int ((2 : Int32) + vL)), .val (.int ((vP + (2 : Int32)) + vL)), .val (.int ((((vL.toInt8.toInt32).toInt8.toInt32) &&& (255 : Int32)) ||| ((((((vL.toUInt32 >>> ((8 : Int32) &&& 31).toUInt32).toInt32).toInt8.toInt32).toInt8.toInt32) &&& (255 : Int32)) <<< ((8 : Int32) &&& 31)))), .val (.int vL)] [])) _
      refine XS.iload X20.here hx rfl (hb hby at_138) rfl ?_
      show Steps _ _ _ (T20.setTop (mkF m 140 #[.val (.int p1), .val (.int p2), .val (.int p3), .val (.int vK), .val (.int vL), .val (.int vP), .val (.ref b6), .val (.ref b11), .val (.int ((2 : Int32) + vL)), .val (.int ((2 : Int32) + vL)), .val (.int ((vP + (2 : Int32)) + vL)), .val (.int ((((vL.toInt8.toInt32).toInt8.toInt32) &&& (255 : Int32)) ||| ((((((vL.toUInt32 >>> ((8 : Int32) &&& 31).toUInt32).toInt32).toInt8.toInt32).toInt8.toInt32) &&& (255 : Int32)) <<< ((8 : Int32) &&& 31)))), .val (.int vL)] [(.int ((((vL.toInt8.toInt32).toInt8.toInt32) &&& (255 : Int32)) ||| ((((((vL.toUInt32 >>> ((8 : Int32) &&& 31).toUInt32).toInt32).toInt8.toInt32).toInt8.toInt32) &&& (255 : Int32)) <<< ((8 : Int32) &&& 31))))])) _
      refine XS.iload X20.here hx rfl (hb hby at_140) rfl ?_
      show Steps _ _ _ (T20.setTop (mkF m 142 #[.val (.int p1), .val (.int p2), .val (.int p3), .val (.int vK), .val (.int vL), .val (.int vP), .val (.ref b6), .val (.ref b11), .val (.int ((2 : Int32) + vL)), .val (.int ((2 : Int32) + vL)), .val (.int ((vP + (2 : Int32)) + vL)), .val (.int ((((vL.toInt8.toInt32).toInt8.toInt32) &&& (255 : Int32)) ||| ((((((vL.toUInt32 >>> ((8 : Int32) &&& 31).toUInt32).toInt32).toInt8.toInt32).toInt8.toInt32) &&& (255 : Int32)) <<< ((8 : Int32) &&& 31)))), .val (.int vL)] [(.int vL), (.int ((((vL.toInt8.toInt32).toInt8.toInt32) &&& (255 : Int32)) ||| ((((((vL.toUInt32 >>> ((8 : Int32) &&& 31).toUInt32).toInt32).toInt8.toInt32).toInt8.toInt32) &&& (255 : Int32)) <<< ((8 : Int32) &&& 31))))])) _
      refine XS.icmpNo X20.here hx rfl (hb hby at_142) rfl (teq hc32).2 ?_
      show Steps _ _ _ (T20.setTop (mkF m 145 #[.val (.int p1), .val (.int p2), .val (.int p3), .val (.int vK), .val (.int vL), .val (.int vP), .val (.ref b6), .val (.ref b11), .val (.int ((2 : Int32) + vL)), .val (.int ((2 : Int32) + vL)), .val (.int ((vP + (2 : Int32)) + vL)), .val (.int ((((vL.toInt8.toInt32).toInt8.toInt32) &&& (255 : Int32)) ||| ((((((vL.toUInt32 >>> ((8 : Int32) &&& 31).toUInt32).toInt32).toInt8.toInt32).toInt8.toInt32) &&& (255 : Int32)) <<< ((8 : Int32) &&& 31)))), .val (.int vL)] [])) _
      refine XS.iconst X20.here hx rfl (hb hby at_145) ?_
      show Steps _ _ _ (T20.setTop (mkF m 146 #[.val (.int p1), .val (.int p2), .val (.int p3), .val (.int vK), .val (.int vL), .val (.int vP), .val (.ref b6), .val (.ref b11), .val (.int ((2 : Int32) + vL)), .val (.int ((2 : Int32) + vL)), .val (.int ((vP + (2 : Int32)) + vL)), .val (.int ((((vL.toInt8.toInt32).toInt8.toInt32) &&& (255 : Int32)) ||| ((((((vL.toUInt32 >>> ((8 : Int32) &&& 31).toUInt32).toInt32).toInt8.toInt32).toInt8.toInt32) &&& (255 : Int32)) <<< ((8 : Int32) &&& 31)))), .val (.int vL)] [(.int (1 : Int32))])) _
      refine XS.goto X20.here hx rfl (pc0 := 146) (pc' := 150) rfl (hb hby at_146) (by decide) (by decide) ?_
      show Steps _ _ _ (T20.setTop (mkF m 150 #[.val (.int p1), .val (.int p2), .val (.int p3), .val (.int vK), .val (.int vL), .val (.int vP), .val (.ref b6), .val (.ref b11), .val (.int ((2 : Int32) + vL)), .val (.int ((2 : Int32) + vL)), .val (.int ((vP + (2 : Int32)) + vL)), .val (.int ((((vL.toInt8.toInt32).toInt8.toInt32) &&& (255 : Int32)) ||| ((((((vL.toUInt32 >>> ((8 : Int32) &&& 31).toUInt32).toInt32).toInt8.toInt32).toInt8.toInt32) &&& (255 : Int32)) <<< ((8 : Int32) &&& 31)))), .val (.int vL)] [(.int (1 : Int32))])) _
      exact k
    obtain ⟨fs, hr, hrun, hended, hW, hsame⟩ := X20.leave (v := some (.int (1 : Int32))) (fun h => by rw [Bd.returns] at h; cases h)
    refine ⟨_, _, pre33 _ ?_, hrun, hended, _, _, rfl, ?_, ⟨_, rfl⟩, hW, hsame.mono (by decide) (by decide)⟩
    · exact retN X20 hx (t := .boolean) Bd.returns (by simp) (hb hby at_150) hr
    · show Q_rm0 Z p1 p2 p3 h0 n0 _ T20.heap _
      exact ⟨rfl, N21, KC22⟩
  · have pre34 : ∀ t, Steps p.tables e below (s₁.setTop (mkF m 46 #[.val (.int p1), .val (.int p2), .val (.int p3), .val (.int vK), .val (.int vL), .val (.int vP), .val .null, .unset, .unset, .unset, .unset, .unset, .unset] [(.int ((vP + (2 : Int32)) + vL))])) t → Steps p.tables e below (s₁.setTop (entryFrame m #[(.int p1), (.int p2), (.int p3)] maxLocals)) t := by
      intro t k
      refine pre5 t ?_
      refine XS.ifNo X0.here hx rfl (hb hby at_26) rfl ((if0 _ _).trans (feq hK).1) ?_
      show Steps _ _ _ (s₁.setTop (mkF m 29 #[.val (.int p1), .val (.int p2), .val (.int p3), .val (.int vK), .val (.int vL), .val (.int vP), .unset, .unset, .unset, .unset, .unset, .unset, .unset] [])) _
      refine XS.aconstNull X0.here hx rfl (hb hby at_29) ?_
      show Steps _ _ _ (s₁.setTop (mkF m 30 #[.val (.int p1), .val (.int p2), .val (.int p3), .val (.int vK), .val (.int vL), .val (.int vP), .unset, .unset, .unset, .unset, .unset, .unset, .unset] [.null])) _
      refine XS.goto X0.here hx rfl (pc0 := 30) (pc' := 37) rfl (hb hby at_30) (by decide) (by decide) ?_
      show Steps _ _ _ (s₁.setTop (mkF m 37 #[.val (.int p1), .val (.int p2), .val (.int p3), .val (.int vK), .val (.int vL), .val (.int vP), .unset, .unset, .unset, .unset, .unset, .unset, .unset] [.null])) _
      refine XS.astore X0.here hx rfl (hb hby at_37) rfl rfl (l' := #[.val (.int p1), .val (.int p2), .val (.int p3), .val (.int vK), .val (.int vL), .val (.int vP), .val .null, .unset, .unset, .unset, .unset, .unset, .unset]) rfl ?_
      show Steps _ _ _ (s₁.setTop (mkF m 39 #[.val (.int p1), .val (.int p2), .val (.int p3), .val (.int vK), .val (.int vL), .val (.int vP), .val .null, .unset, .unset, .unset, .unset, .unset, .unset] [])) _
      refine XS.iload X0.here hx rfl (hb hby at_39) rfl ?_
      show Steps _ _ _ (s₁.setTop (mkF m 41 #[.val (.int p1), .val (.int p2), .val (.int p3), .val (.int vK), .val (.int vL), .val (.int vP), .val .null, .unset, .unset, .unset, .unset, .unset, .unset] [(.int vP)])) _
      refine XS.iconst X0.here hx rfl (hb hby at_41) ?_
      show Steps _ _ _ (s₁.setTop (mkF m 42 #[.val (.int p1), .val (.int p2), .val (.int p3), .val (.int vK), .val (.int vL), .val (.int vP), .val .null, .unset, .unset, .unset, .unset, .unset, .unset] [(.int (2 : Int32)), (.int vP)])) _
      refine XS.iadd X0.here hx rfl (hb hby at_42) rfl ?_
      show Steps _ _ _ (s₁.setTop (mkF m 43 #[.val (.int p1), .val (.int p2), .val (.int p3), .val (.int vK), .val (.int vL), .val (.int vP), .val .null, .unset, .unset, .unset, .unset, .unset, .unset] [(.int (vP + (2 : Int32)))])) _
      refine XS.iload X0.here hx rfl (hb hby at_43) rfl ?_
      show Steps _ _ _ (s₁.setTop (mkF m 45 #[.val (.int p1), .val (.int p2), .val (.int p3), .val (.int vK), .val (.int vL), .val (.int vP), .val .null, .unset, .unset, .unset, .unset, .unset, .unset] [(.int vL), (.int (vP + (2 : Int32)))])) _
      refine XS.iadd X0.here hx rfl (hb hby at_45) rfl ?_
      show Steps _ _ _ (s₁.setTop (mkF m 46 #[.val (.int p1), .val (.int p2), .val (.int p3), .val (.int vK), .val (.int vL), .val (.int vP), .val .null, .unset, .unset, .unset, .unset, .unset, .unset] [(.int ((vP + (2 : Int32)) + vL))])) _
      exact k
    obtain ⟨vZ, hvZ⟩ : ∃ z : Int32, z = ((vP + (2 : Int32)) + vL) := ⟨_, rfl⟩
    rw [← hvZ] at pre34
    have hA := own_all vP vL vZ hP hL hvZ
    obtain ⟨q1, q2, q3⟩ := hA
    have hT : vP.toNatClampNeg = vP.toInt.toNat ∧ (vP + (1 : Int32)).toNatClampNeg = (vP + (1 : Int32)).toInt.toNat ∧ (vP + (2 : Int32)).toNatClampNeg = (vP + (2 : Int32)).toInt.toNat ∧ vZ.toNatClampNeg = vZ.toInt.toNat ∧ vL.toNatClampNeg = vL.toInt.toNat := ⟨rfl, rfl, rfl, rfl, rfl⟩
    obtain ⟨t1, t2, t3, t4, t5⟩ := hT
    obtain ⟨T35, h35, k35, X35, e35, E35, A35, st35⟩ := newP X0 hx hZ (hw _ (List.mem_of_getElem? (i := 0) rfl)) e0 (g := (mkF m 46 #[.val (.int p1), .val (.int p2), .val (.int p3), .val (.int vK), .val (.int vL), .val (.int vP), .val .null, .unset, .unset, .unset, .unset, .unset, .unset] [(.int vZ)])) rfl (hb hby at_46) rfl (own_nltI (by omega)) (cap := 2056) (by omega) (by decide) (by decide) (by decide)
    obtain ⟨b35, g35⟩ : ∃ z, z = h0.size := ⟨_, rfl⟩
    rw [← g35] at A35 st35
    have ge36 : n0 ≤ b35 := Nat.le_trans Z0 (Nat.le_of_eq g35.symm)
    have sz37 : h0.size ≤ b35 := Nat.le_trans (Keep.refl h0 []).1 (Nat.le_of_eq g35.symm)
    have KC38 : Keep h0 h35 [] := (Keep.refl h0 []).ext E35
    have V35 : Arv Z h35 b35 k35 .byte vZ (List.replicate (vZ).toNatClampNeg (.int (0 : Int32))) (.int (0 : Int32)) := (Arv.new A35 (own_nltI (by omega))).pad (pad_rep [] (.int (0 : Int32)) (vZ).toNatClampNeg)
    have hc39 : ¬ (vK = (0 : Int32)) := hK
    obtain ⟨_, _, ⟨T40, L40, k40, n40⟩, -, X40, ⟨Lc40, hQ40, l40, y40, z40⟩, st40⟩ := Jvm.LawKit.callS X35 hx (y := (⟨"com/example/blockflate/blockflate/Layout", "keyEntryLength", "([B)I"⟩ : MethodName)) hown (mvT hZ (hw _ (List.mem_of_getElem? (i := 1) rfl))) (mvT hZ (hw _ (List.mem_of_getElem? (i := 2) rfl))) (mvT hZ (hw _ (List.mem_of_getElem? (i := 3) rfl))) (mvT hZ (hw _ (List.mem_of_getElem? (i := 4) rfl))) (by decide) (backOf (W := 0) (rm_kelN l Z a0 hw []  h35 n0 (Nat.le_trans Z0 KC38.1)) hZ (hw _ (List.mem_of_getElem? (i := 4) rfl)) (hw _ (List.mem_of_getElem? (i := 3) rfl)) (by decide) (by decide)) (g := (mkF m 66 #[.val (.int p1), .val (.int p2), .val (.int p3), .val (.int vK), .val (.int vL), .val (.int vP), .val .null, .val (.ref b35), .val (.int (2 : Int32)), .unset, .unset, .unset, .unset] [.null])) rfl (by rw [hml]; rfl) (argsL := [.null]) (rest := []) (lenOf pd_2 rfl) rfl (by show 2 * 0 + _ ≤ _; exact Nat.le_of_eq rfl) (hb hby at_66) (fun _ _ => ⟨rfl, e35, (by decide : 1 + 0 ≤ _), (by decide : 2056 + 0 ≤ _)⟩)
    dsimp only [Pt.U, Pt.locs, Pt.cells, Pt.slots] at X40 l40 y40 z40 st40 hQ40
    subst l40 y40 z40
    obtain ⟨rfl, Nq40, q40_0⟩ := hQ40
    have N41 := Fr.app N0 Nq40
    obtain ⟨_, _, ⟨T42, L42, k42, n42⟩, -, X42, ⟨Lc42, hQ42, l42, y42, z42⟩, st42⟩ := Jvm.LawKit.callS X40 hx (y := (⟨"com/example/blockflate/blockflate/Layout", "putKey", "([BI[B)I"⟩ : MethodName)) hown (mvT hZ (hw _ (List.mem_of_getElem? (i := 5) rfl))) (mvT hZ (hw _ (List.mem_of_getElem? (i := 6) rfl))) (mvT hZ (hw _ (List.mem_of_getElem? (i := 3) rfl))) (mvT hZ (hw _ (List.mem_of_getElem? (i := 7) rfl))) (by decide) (backOf (W := 0) (rm_pkN l Z a0 hw [] b35 vP k35 vZ (List.replicate (vZ).toNatClampNeg (.int (0 : Int32))) (.int (0 : Int32)) h35 n0 (Nat.le_trans Z0 KC38.1) V35 ge36 ⟨own_nltI (by omega), own_ltI (by omega)⟩ ⟨own_nltI (by omega), own_ltI (by omega)⟩ (by rw [List.length_replicate]; omega) (by rw [List.length_replicate]; omega)) hZ (hw _ (List.mem_of_getElem? (i := 7) rfl)) (hw _ (List.mem_of_getElem? (i := 3) rfl)) (by decide) (by decide)) (g := (mkF m 77 #[.val (.int p1), .val (.int p2), .val (.int p3), .val (.int vK), .val (.int vL), .val (.int vP), .val .null, .val (.ref b35), .val (.int (2 : Int32)), .val (.int (2 : Int32)), .unset, .unset, .unset] [.null, (.int vP), (.ref b35)])) rfl (by rw [hml]; rfl) (argsL := [(.ref b35), (.int vP), .null]) (rest := []) (lenOf pd_3 rfl) rfl (by show 2 * 0 + _ ≤ _; exact Nat.le_of_eq rfl) (hb hby at_77) (fun _ _ => ⟨rfl, q40_0, (by decide : 1 + 0 ≤ _), (by decide : 2056 + 0 ≤ _)⟩)
    dsimp only [Pt.U, Pt.locs, Pt.cells, Pt.slots] at X42 l42 y42 z42 st42 hQ42
    subst l42 y42 z42
    obtain ⟨rfl, Nq42, q42_0, q42_1⟩ := hQ42
    have N43 := Fr.app N41 Nq42
    have KC44 : Keep h0 T42.heap [] := KC38.trans q42_0 (allS (Or.inr sz37) all0)
    obtain ⟨c45, Arc45, Aqc45, Asc45, Anc45, Ahc45, Agc45⟩ := id q42_1
    have hin46 : ¬ (vP < 0 ∨ c45.slots.size ≤ (vP).toNatClampNeg) := inb_of Asc45 ⟨own_nltI (by omega), own_ltI (by omega)⟩
    have hat47 : c45.slots[(vP).toNatClampNeg]? = some (.int (((65535 : Int32).toInt8.toInt32).toInt8.toInt32)) := Has.at Ahc45 hin46 (own_set0 (by rw [List.length_replicate]; omega) (by omega))
    obtain ⟨c48, Arc48, Aqc48, Asc48, Anc48, Ahc48, Agc48⟩ := id q42_1
    have hin49 : ¬ ((vP + (1 : Int32)) < 0 ∨ c48.slots.size ≤ ((vP + (1 : Int32))).toNatClampNeg) := inb_of Asc48 ⟨own_nltI (by omega), own_ltI (by omega)⟩
    have hat50 : c48.slots[((vP + (1 : Int32))).toNatClampNeg]? = some (.int (((((65535 : Int32).toUInt32 >>> ((8 : Int32) &&& 31).toUInt32).toInt32).toInt8.toInt32).toInt8.toInt32)) := Has.at Ahc48 hin49 (own_set1 (by rw [List.length_replicate]; omega))
    have pre51 : ∀ t, Steps p.tables e below (T42.setTop (mkF m 108 #[.val (.int p1), .val (.int p2), .val (.int p3), .val (.int vK), .val (.int vL), .val (.int vP), .val .null, .val (.ref b35), .val (.int (2 : Int32)), .val (.int (2 : Int32)), .val (.int (vP + (2 : Int32))), .val (.int (((((65535 : Int32).toInt8.toInt32).toInt8.toInt32) &&& (255 : Int32)) ||| (((((((65535 : Int32).toUInt32 >>> ((8 : Int32) &&& 31).toUInt32).toInt32).toInt8.toInt32).toInt8.toInt32) &&& (255 : Int32)) <<< ((8 : Int32) &&& 31)))), .unset] [])) t → Steps p.tables e below (s₁.setTop (entryFrame m #[(.int p1), (.int p2), (.int p3)] maxLocals)) t := by
      intro t k
      refine pre34 t ?_
      refine st35 _ ?_
      show Steps _ _ _ (T35.setTop (mkF m 48 #[.val (.int p1), .val (.int p2), .val (.int p3), .val (.int vK), .val (.int vL), .val (.int vP), .val .null, .unset, .unset, .unset, .unset, .unset, .unset] [(.ref b35)])) _
      refine XS.astore X35.here hx rfl (hb hby at_48) rfl rfl (l' := #[.val (.int p1), .val (.int p2), .val (.int p3), .val (.int vK), .val (.int vL), .val (.int vP), .val .null, .val (.ref b35), .unset, .unset, .unset, .unset, .unset]) rfl ?_
      show Steps _ _ _ (T35.setTop (mkF m 50 #[.val (.int p1), .val (.int p2), .val (.int p3), .val (.int vK), .val (.int vL), .val (.int vP), .val .null, .val (.ref b35), .unset, .unset, .unset, .unset, .unset] [])) _
      refine XS.iloadN X35.here hx rfl (hb hby at_50) rfl ?_
      show Steps _ _ _ (T35.setTop (mkF m 51 #[.val (.int p1), .val (.int p2), .val (.int p3), .val (.int vK), .val (.int vL), .val (.int vP), .val .null, .val (.ref b35), .unset, .unset, .unset, .unset, .unset] [(.int vK)])) _
      refine XS.ifNo X35.here hx rfl (hb hby at_51) rfl ((if0 _ _).trans (feq hc39).1) ?_
      show Steps _ _ _ (T35.setTop (mkF m 54 #[.val (.int p1), .val (.int p2), .val (.int p3), .val (.int vK), .val (.int vL), .val (.int vP), .val .null, .val (.ref b35), .unset, .unset, .unset, .unset, .unset] [])) _
      refine XS.iconst X35.here hx rfl (hb hby at_54) ?_
      show Steps _ _ _ (T35.setTop (mkF m 55 #[.val (.int p1), .val (.int p2), .val (.int p3), .val (.int vK), .val (.int vL), .val (.int vP), .val .null, .val (.ref b35), .unset, .unset, .unset, .unset, .unset] [(.int (2 : Int32))])) _
      refine XS.goto X35.here hx rfl (pc0 := 55) (pc' := 62) rfl (hb hby at_55) (by decide) (by decide) ?_
      show Steps _ _ _ (T35.setTop (mkF m 62 #[.val (.int p1), .val (.int p2), .val (.int p3), .val (.int vK), .val (.int vL), .val (.int vP), .val .null, .val (.ref b35), .unset, .unset, .unset, .unset, .unset] [(.int (2 : Int32))])) _
      refine XS.istore X35.here hx rfl (hb hby at_62) rfl (l' := #[.val (.int p1), .val (.int p2), .val (.int p3), .val (.int vK), .val (.int vL), .val (.int vP), .val .null, .val (.ref b35), .val (.int (2 : Int32)), .unset, .unset, .unset, .unset]) rfl ?_
      show Steps _ _ _ (T35.setTop (mkF m 64 #[.val (.int p1), .val (.int p2), .val (.int p3), .val (.int vK), .val (.int vL), .val (.int vP), .val .null, .val (.ref b35), .val (.int (2 : Int32)), .unset, .unset, .unset, .unset] [])) _
      refine XS.aload X35.here hx rfl (hb hby at_64) rfl rfl ?_
      show Steps _ _ _ (T35.setTop (mkF m 66 #[.val (.int p1), .val (.int p2), .val (.int p3), .val (.int vK), .val (.int vL), .val (.int vP), .val .null, .val (.ref b35), .val (.int (2 : Int32)), .unset, .unset, .unset, .unset] [.null])) _
      refine st40 _ ?_
      show Steps _ _ _ (T40.setTop (mkF m 69 #[.val (.int p1), .val (.int p2), .val (.int p3), .val (.int vK), .val (.int vL), .val (.int vP), .val .null, .val (.ref b35), .val (.int (2 : Int32)), .unset, .unset, .unset, .unset] [(.int (2 : Int32))])) _
      refine XS.istore X40.here hx rfl (hb hby at_69) rfl (l' := #[.val (.int p1), .val (.int p2), .val (.int p3), .val (.int vK), .val (.int vL), .val (.int vP), .val .null, .val (.ref b35), .val (.int (2 : Int32)), .val (.int (2 : Int32)), .unset, .unset, .unset]) rfl ?_
      show Steps _ _ _ (T40.setTop (mkF m 71 #[.val (.int p1), .val (.int p2), .val (.int p3), .val (.int vK), .val (.int vL), .val (.int vP), .val .null, .val (.ref b35), .val (.int (2 : Int32)), .val (.int (2 : Int32)), .unset, .unset, .unset] [])) _
      refine XS.aload X40.here hx rfl (hb hby at_71) rfl rfl ?_
      show Steps _ _ _ (T40.setTop (mkF m 73 #[.val (.int p1), .val (.int p2), .val (.int p3), .val (.int vK), .val (.int vL), .val (.int vP), .val .null, .val (.ref b35), .val (.int (2 : Int32)), .val (.int (2 : Int32)), .unset, .unset, .unset] [(.ref b35)])) _
      refine XS.iload X40.here hx rfl (hb hby at_73) rfl ?_
      show Steps _ _ _ (T40.setTop (mkF m 75 #[.val (.int p1), .val (.int p2), .val (.int p3), .val (.int vK), .val (.int vL), .val (.int vP), .val .null, .val (.ref b35), .val (.int (2 : Int32)), .val (.int (2 : Int32)), .unset, .unset, .unset] [(.int vP), (.ref b35)])) _
      refine XS.aload X40.here hx rfl (hb hby at_75) rfl rfl ?_
      show Steps _ _ _ (T40.setTop (mkF m 77 #[.val (.int p1), .val (.int p2), .val (.int p3), .val (.int vK), .val (.int vL), .val (.int vP), .val .null, .val (.ref b35), .val (.int (2 : Int32)), .val (.int (2 : Int32)), .unset, .unset, .unset] [.null, (.int vP), (.ref b35)])) _
      refine st42 _ ?_
      show Steps _ _ _ (T42.setTop (mkF m 80 #[.val (.int p1), .val (.int p2), .val (.int p3), .val (.int vK), .val (.int vL), .val (.int vP), .val .null, .val (.ref b35), .val (.int (2 : Int32)), .val (.int (2 : Int32)), .unset, .unset, .unset] [(.int (vP + (2 : Int32)))])) _
      refine XS.istore X42.here hx rfl (hb hby at_80) rfl (l' := #[.val (.int p1), .val (.int p2), .val (.int p3), .val (.int vK), .val (.int vL), .val (.int vP), .val .null, .val (.ref b35), .val (.int (2 : Int32)), .val (.int (2 : Int32)), .val (.int (vP + (2 : Int32))), .unset, .unset]) rfl ?_
      show Steps _ _ _ (T42.setTop (mkF m 82 #[.val (.int p1), .val (.int p2), .val (.int p3), .val (.int vK), .val (.int vL), .val (.int vP), .val .null, .val (.ref b35), .val (.int (2 : Int32)), .val (.int (2 : Int32)), .val (.int (vP + (2 : Int32))), .unset, .unset] [])) _
      refine XS.aload X42.here hx rfl (hb hby at_82) rfl rfl ?_
      show Steps _ _ _ (T42.setTop (mkF m 84 #[.val (.int p1), .val (.int p2), .val (.int p3), .val (.int vK), .val (.int vL), .val (.int vP), .val .null, .val (.ref b35), .val (.int (2 : Int32)), .val (.int (2 : Int32)), .val (.int (vP + (2 : Int32))), .unset, .unset] [(.ref b35)])) _
      refine XS.iload X42.here hx rfl (hb hby at_84) rfl ?_
      show Steps _ _ _ (T42.setTop (mkF m 86 #[.val (.int p1), .val (.int p2), .val (.int p3), .val (.int vK), .val (.int vL), .val (.int vP), .val .null, .val (.ref b35), .val (.int (2 : Int32)), .val (.int (2 : Int32)), .val (.int (vP + (2 : Int32))), .unset, .unset] [(.int vP), (.ref b35)])) _
      refine X42.baloadBytes hx (j := vP) (v := (.int (((65535 : Int32).toInt8.toInt32).toInt8.toInt32))) Arc45.1 (State.isArrayOf_alike hZ.alike Arc45.2.1) Arc45.2.2 hin46 hat47 (g := (mkF m 86 #[.val (.int p1), .val (.int p2), .val (.int p3), .val (.int vK), .val (.int vL), .val (.int vP), .val .null, .val (.ref b35), .val (.int (2 : Int32)), .val (.int (2 : Int32)), .val (.int (vP + (2 : Int32))), .unset, .unset] [(.int vP), (.ref b35)])) rfl rfl (hb hby at_86) _ ?_
      show Steps _ _ _ (T42.setTop (mkF m 87 #[.val (.int p1), .val (.int p2), .val (.int p3), .val (.int vK), .val (.int vL), .val (.int vP), .val .null, .val (.ref b35), .val (.int (2 : Int32)), .val (.int (2 : Int32)), .val (.int (vP + (2 : Int32))), .unset, .unset] [(.int (((65535 : Int32).toInt8.toInt32).toInt8.toInt32))])) _
      refine XS.sipush X42.here hx rfl (hb hby at_87) ?_
      show Steps _ _ _ (T42.setTop (mkF m 90 #[.val (.int p1), .val (.int p2), .val (.int p3), .val (.int vK), .val (.int vL), .val (.int vP), .val .null, .val (.ref b35), .val (.int (2 : Int32)), .val (.int (2 : Int32)), .val (.int (vP + (2 : Int32))), .unset, .unset] [(.int (255 : Int32)), (.int (((65535 : Int32).toInt8.toInt32).toInt8.toInt32))])) _
      refine XS.iand X42.here hx rfl (hb hby at_90) rfl ?_
      show Steps _ _ _ (T42.setTop (mkF m 91 #[.val (.int p1), .val (.int p2), .val (.int p3), .val (.int vK), .val (.int vL), .val (.int vP), .val .null, .val (.ref b35), .val (.int (2 : Int32)), .val (.int (2 : Int32)), .val (.int (vP + (2 : Int32))), .unset, .unset] [(.int ((((65535 : Int32).toInt8.toInt32).toInt8.toInt32) &&& (255 : Int32)))])) _
      refine XS.aload X42.here hx rfl (hb hby at_91) rfl rfl ?_
      show Steps _ _ _ (T42.setTop (mkF m 93 #[.val (.int p1), .val (.int p2), .val (.int p3), .val (.int vK), .val (.int vL), .val (.int vP), .val .null, .val (.ref b35), .val (.int (2 : Int32)), .val (.int (2 : Int32)), .val (.int (vP + (2 : Int32))), .unset, .unset] [(.ref b35), (.int ((((65535 : Int32).toInt8.toInt32).toInt8.toInt32) &&& (255 : Int32)))])) _
      refine XS.iload X42.here hx rfl (hb hby at_93) rfl ?_
      show Steps _ _ _ (T42.setTop (mkF m 95 #[.val (.int p1), .val (.int p2), .val (.int p3), .val (.int vK), .val (.int vL), .val (.int vP), .val .null, .val (.ref b35), .val (.int (2 : Int32)), .val (.int (2 : Int32)), .val (.int (vP + (2 : Int32))), .unset, .unset] [(.int vP), (.ref b35), (.int ((((65535 : Int32).toInt8.toInt32).toInt8.toInt32) &&& (255 : Int32)))])) _
      refine XS.iconst X42.here hx rfl (hb hby at_95) ?_
      show Steps _ _ _ (T42.setTop (mkF m 96 #[.val (.int p1), .val (.int p2), .val (.int p3), .val (.int vK), .val (.int vL), .val (.int vP), .val .null, .val (.ref b35), .val (.int (2 : Int32)), .val (.int (2 : Int32)), .val (.int (vP + (2 : Int32))), .unset, .unset] [(.int (1 : Int32)), (.int vP), (.ref b35), (.int ((((65535 : Int32).toInt8.toInt32).toInt8.toInt32) &&& (255 : Int32)))])) _
      refine XS.iadd X42.here hx rfl (hb hby at_96) rfl ?_
      show Steps _ _ _ (T42.setTop (mkF m 97 #[.val (.int p1), .val (.int p2), .val (.int p3), .val (.int vK), .val (.int vL), .val (.int vP), .val .null, .val (.ref b35), .val (.int (2 : Int32)), .val (.int (2 : Int32)), .val (.int (vP + (2 : Int32))), .unset, .unset] [(.int (vP + (1 : Int32))), (.ref b35), (.int ((((65535 : Int32).toInt8.toInt32).toInt8.toInt32) &&& (255 : Int32)))])) _
      refine X42.baloadBytes hx (j := (vP + (1 : Int32))) (v := (.int (((((65535 : Int32).toUInt32 >>> ((8 : Int32) &&& 31).toUInt32).toInt32).toInt8.toInt32).toInt8.toInt32))) Arc48.1 (State.isArrayOf_alike hZ.alike Arc48.2.1) Arc48.2.2 hin49 hat50 (g := (mkF m 97 #[.val (.int p1), .val (.int p2), .val (.int p3), .val (.int vK), .val (.int vL), .val (.int vP), .val .null, .val (.ref b35), .val (.int (2 : Int32)), .val (.int (2 : Int32)), .val (.int (vP + (2 : Int32))), .unset, .unset] [(.int (vP + (1 : Int32))), (.ref b35), (.int ((((65535 : Int32).toInt8.toInt32).toInt8.toInt32) &&& (255 : Int32)))])) rfl rfl (hb hby at_97) _ ?_
      show Steps _ _ _ (T42.setTop (mkF m 98 #[.val (.int p1), .val (.int p2), .val (.int p3), .val (.int vK), .val (.int vL), .val (.int vP), .val .null, .val (.ref b35), .val (.int (2 : Int32)), .val (.int (2 : Int32)), .val (.int (vP + (2 : Int32))), .unset, .unset] [(.int (((((65535 : Int32).toUInt32 >>> ((8 : Int32) &&& 31).toUInt32).toInt32).toInt8.toInt32).toInt8.toInt32)), (.int ((((65535 : Int32).toInt8.toInt32).toInt8.toInt32) &&& (255 : Int32)))])) _
      refine XS.sipush X42.here hx rfl (hb hby at_98) ?_
      show Steps _ _ _ (T42.setTop (mkF m 101 #[.val (.int p1), .val (.int p2), .val (.int p3), .val (.int vK), .val (.int vL), .val (.int vP), .val .null, .val (.ref b35), .val (.int (2 : Int32)), .val (.int (2 : Int32)), .val (.int (vP + (2 : Int32))), .unset, .unset] [(.int (255 : Int32)), (.int (((((65535 : Int32).toUInt32 >>> ((8 : Int32) &&& 31).toUInt32).toInt32).toInt8.toInt32).toInt8.toInt32)), (.int ((((65535 : Int32).toInt8.toInt32).toInt8.toInt32) &&& (255 : Int32)))])) _
      refine XS.iand X42.here hx rfl (hb hby at_101) rfl ?_
      show Steps _ _ _ (T42.setTop (mkF m 102 #[.val (.int p1), .val (.int p2), .val (.int p3), .val (.int vK), .val (.int vL), .val (.int vP), .val .null, .val (.ref b35), .val (.int (2 : Int32)), .val (.int (2 : Int32)), .val (.int (vP + (2 : Int32))), .unset, .unset] [(.int ((((((65535 : Int32).toUInt32 >>> ((8 : Int32) &&& 31).toUInt32).toInt32).toInt8.toInt32).toInt8.toInt32) &&& (255 : Int32))), (.int ((((65535 : Int32).toInt8.toInt32).toInt8.toInt32) &&& (255 : Int32)))])) _
      refine XS.bipush X42.here hx rfl (hb hby at_102) ?_
      show Steps _ _ _ (T42.setTop (mkF m 104 #[.val (.int p1), .val (.int p2), .val (.int p3), .val (.int vK), .val (.int vL), .val (.int vP), .val .null, .val (.ref b35), .val (.int (2 : Int32)), .val (.int (2 : Int32)), .val (.int (vP + (2 : Int32))), .unset, .unset] [(.int (8 : Int32)), (.int ((((((65535 : Int32).toUInt32 >>> ((8 : Int32) &&& 31).toUInt32).toInt32).toInt8.toInt32).toInt8.toInt32) &&& (255 : Int32))), (.int ((((65535 : Int32).toInt8.toInt32).toInt8.toInt32) &&& (255 : Int32)))])) _
      refine XS.ishl X42.here hx rfl (hb hby at_104) rfl ?_
      show Steps _ _ _ (T42.setTop (mkF m 105 #[.val (.int p1), .val (.int p2), .val (.int p3), .val (.int vK), .val (.int vL), .val (.int vP), .val .null, .val (.ref b35), .val (.int (2 : Int32)), .val (.int (2 : Int32)), .val (.int (vP + (2 : Int32))), .unset, .unset] [(.int (((((((65535 : Int32).toUInt32 >>> ((8 : Int32) &&& 31).toUInt32).toInt32).toInt8.toInt32).toInt8.toInt32) &&& (255 : Int32)) <<< ((8 : Int32) &&& 31))), (.int ((((65535 : Int32).toInt8.toInt32).toInt8.toInt32) &&& (255 : Int32)))])) _
      refine XS.ior X42.here hx rfl (hb hby at_105) rfl ?_
      show Steps _ _ _ (T42.setTop (mkF m 106 #[.val (.int p1), .val (.int p2), .val (.int p3), .val (.int vK), .val (.int vL), .val (.int vP), .val .null, .val (.ref b35), .val (.int (2 : Int32)), .val (.int (2 : Int32)), .val (.int (vP + (2 : Int32))), .unset, .unset] [(.int (((((65535 : Int32).toInt8.toInt32).toInt8.toInt32) &&& (255 : Int32)) ||| (((((((65535 : Int32).toUInt32 >>> ((8 : Int32) &&& 31).toUInt32).toInt32).toInt8.toInt32).toInt8.toInt32) &&& (255 : Int32)) <<< ((8 : Int32) &&& 31))))])) _
      refine XS.istore X42.here hx rfl (hb hby at_106) rfl (l' := #[.val (.int p1), .val (.int p2), .val (.int p3), .val (.int vK), .val (.int vL), .val (.int vP), .val .null, .val (.ref b35), .val (.int (2 : Int32)), .val (.int (2 : Int32)), .val (.int (vP + (2 : Int32))), .val (.int (((((65535 : Int32).toInt8.toInt32).toInt8.toInt32) &&& (255 : Int32)) ||| (((((((65535 : Int32).toUInt32 >>> ((8 : Int32) &&& 31).toUInt32).toInt32).toInt8.toInt32).toInt8.toInt32) &&& (255 : Int32)) <<< ((8 : Int32) &&& 31)))), .unset]) rfl ?_
      show Steps _ _ _ (T42.setTop (mkF m 108 #[.val (.int p1), .val (.int p2), .val (.int p3), .val (.int vK), .val (.int vL), .val (.int vP), .val .null, .val (.ref b35), .val (.int (2 : Int32)), .val (.int (2 : Int32)), .val (.int (vP + (2 : Int32))), .val (.int (((((65535 : Int32).toInt8.toInt32).toInt8.toInt32) &&& (255 : Int32)) ||| (((((((65535 : Int32).toUInt32 >>> ((8 : Int32) &&& 31).toUInt32).toInt32).toInt8.toInt32).toInt8.toInt32) &&& (255 : Int32)) <<< ((8 : Int32) &&& 31)))), .unset] [])) _
      exact k
    have hc52 : ¬ (vK = (0 : Int32)) := hK
    have hc53 : (((((65535 : Int32).toInt8.toInt32).toInt8.toInt32) &&& (255 : Int32)) ||| (((((((65535 : Int32).toUInt32 >>> ((8 : Int32) &&& 31).toUInt32).toInt32).toInt8.toInt32).toInt8.toInt32) &&& (255 : Int32)) <<< ((8 : Int32) &&& 31))) = (65535 : Int32) := by decide
    have pre54 : ∀ t, Steps p.tables e below (T42.setTop (mkF m 150 #[.val (.int p1), .val (.int p2), .val (.int p3), .val (.int vK), .val (.int vL), .val (.int vP), .val .null, .val (.ref b35), .val (.int (2 : Int32)), .val (.int (2 : Int32)), .val (.int (vP + (2 : Int32))), .val (.int (((((65535 : Int32).toInt8.toInt32).toInt8.toInt32) &&& (255 : Int32)) ||| (((((((65535 : Int32).toUInt32 >>> ((8 : Int32) &&& 31).toUInt32).toInt32).toInt8.toInt32).toInt8.toInt32) &&& (255 : Int32)) <<< ((8 : Int32) &&& 31)))), .val (.int (65535 : Int32))] [(.int (1 : Int32))])) t → Steps p.tables e below (s₁.setTop (entryFrame m #[(.int p1), (.int p2), (.int p3)] maxLocals)) t := by
      intro t k
      refine pre51 t ?_
      refine XS.iloadN X42.here hx rfl (hb hby at_108) rfl ?_
      show Steps _ _ _ (T42.setTop (mkF m 109 #[.val (.int p1), .val (.int p2), .val (.int p3), .val (.int vK), .val (.int vL), .val (.int vP), .val .null, .val (.ref b35), .val (.int (2 : Int32)), .val (.int (2 : Int32)), .val (.int (vP + (2 : Int32))), .val (.int (((((65535 : Int32).toInt8.toInt32).toInt8.toInt32) &&& (255 : Int32)) ||| (((((((65535 : Int32).toUInt32 >>> ((8 : Int32) &&& 31).toUInt32).toInt32).toInt8.toInt32).toInt8.toInt32) &&& (255 : Int32)) <<< ((8 : Int32) &&& 31)))), .unset] [(.int vK)])) _
      refine XS.ifNo X42.here hx rfl (hb hby at_109) rfl ((if0 _ _).trans (feq hc52).1) ?_
      show Steps _ _ _ (T42.setTop (mkF m 112 #[.val (.int p1), .val (.int p2), .val (.int p3), .val (.int vK), .val (.int vL), .val (.int vP), .val .null, .val (.ref b35), .val (.int (2 : Int32)), .val (.int (2 : Int32)), .val (.int (vP + (2 : Int32))), .val (.int (((((65535 : Int32).toInt8.toInt32).toInt8.toInt32) &&& (255 : Int32)) ||| (((((((65535 : Int32).toUInt32 >>> ((8 : Int32) &&& 31).toUInt32).toInt32).toInt8.toInt32).toInt8.toInt32) &&& (255 : Int32)) <<< ((8 : Int32) &&& 31)))), .unset] [])) _
      refine X42.ldcInt hx hown (mvT hZ (hw _ (List.mem_of_getElem? (i := 19) rfl))) (g := (mkF m 112 #[.val (.int p1), .val (.int p2), .val (.int p3), .val (.int vK), .val (.int vL), .val (.int vP), .val .null, .val (.ref b35), .val (.int (2 : Int32)), .val (.int (2 : Int32)), .val (.int (vP + (2 : Int32))), .val (.int (((((65535 : Int32).toInt8.toInt32).toInt8.toInt32) &&& (255 : Int32)) ||| (((((((65535 : Int32).toUInt32 >>> ((8 : Int32) &&& 31).toUInt32).toInt32).toInt8.toInt32).toInt8.toInt32) &&& (255 : Int32)) <<< ((8 : Int32) &&& 31)))), .unset] [])) rfl (hb hby at_112) _ ?_
      show Steps _ _ _ (T42.setTop (mkF m 114 #[.val (.int p1), .val (.int p2), .val (.int p3), .val (.int vK), .val (.int vL), .val (.int vP), .val .null, .val (.ref b35), .val (.int (2 : Int32)), .val (.int (2 : Int32)), .val (.int (vP + (2 : Int32))), .val (.int (((((65535 : Int32).toInt8.toInt32).toInt8.toInt32) &&& (255 : Int32)) ||| (((((((65535 : Int32).toUInt32 >>> ((8 : Int32) &&& 31).toUInt32).toInt32).toInt8.toInt32).toInt8.toInt32) &&& (255 : Int32)) <<< ((8 : Int32) &&& 31)))), .unset] [(.int (65535 : Int32))])) _
      refine XS.goto X42.here hx rfl (pc0 := 114) (pc' := 119) rfl (hb hby at_114) (by decide) (by decide) ?_
      show Steps _ _ _ (T42.setTop (mkF m 119 #[.val (.int p1), .val (.int p2), .val (.int p3), .val (.int vK), .val (.int vL), .val (.int vP), .val .null, .val (.ref b35), .val (.int (2 : Int32)), .val (.int (2 : Int32)), .val (.int (vP + (2 : Int32))), .val (.int (((((65535 : Int32).toInt8.toInt32).toInt8.toInt32) &&& (255 : Int32)) ||| (((((((65535 : Int32).toUInt32 >>> ((8 : Int32) &&& 31).toUInt32).toInt32).toInt8.toInt32).toInt8.toInt32) &&& (255 : Int32)) <<< ((8 : Int32) &&& 31)))), .unset] [(.int (65535 : Int32))])) _
      refine XS.istore X42.here hx rfl (hb hby at_119) rfl (l' := #[.val (.int p1), .val (.int p2), .val (.int p3), .val (.int vK), .val (.int vL), .val (.int vP), .val .null, .val (.ref b35), .val (.int (2 : Int32)), .val (.int (2 : Int32)), .val (.int (vP + (2 : Int32))), .val (.int (((((65535 : Int32).toInt8.toInt32).toInt8.toInt32) &&& (255 : Int32)) ||| (((((((65535 : Int32).toUInt32 >>> ((8 : Int32) &&& 31).toUInt32).toInt32).toInt8.toInt32).toInt8.toInt32) &&& (255 : Int32)) <<< ((8 : Int32) &&& 31)))), .val (.int (65535 : Int32))]) rfl ?_
      show Steps _ _ _ (T42.setTop (mkF m 121 #[.val (.int p1), .val (.int p2), .val (.int p3), .val (.int vK), .val (.int vL), .val (.int vP), .val .null, .val (.ref b35), .val (.int (2 : Int32)), .val (.int (2 : Int32)), .val (.int (vP + (2 : Int32))), .val (.int (((((65535 : Int32).toInt8.toInt32).toInt8.toInt32) &&& (255 : Int32)) ||| (((((((65535 : Int32).toUInt32 >>> ((8 : Int32) &&& 31).toUInt32).toInt32).toInt8.toInt32).toInt8.toInt32) &&& (255 : Int32)) <<< ((8 : Int32) &&& 31)))), .val (.int (65535 : Int32))] [])) _
      refine XS.iload X42.here hx rfl (hb hby at_121) rfl ?_
      show Steps _ _ _ (T42.setTop (mkF m 123 #[.val (.int p1), .val (.int p2), .val (.int p3), .val (.int vK), .val (.int vL), .val (.int vP), .val .null, .val (.ref b35), .val (.int (2 : Int32)), .val (.int (2 : Int32)), .val (.int (vP + (2 : Int32))), .val (.int (((((65535 : Int32).toInt8.toInt32).toInt8.toInt32) &&& (255 : Int32)) ||| (((((((65535 : Int32).toUInt32 >>> ((8 : Int32) &&& 31).toUInt32).toInt32).toInt8.toInt32).toInt8.toInt32) &&& (255 : Int32)) <<< ((8 : Int32) &&& 31)))), .val (.int (65535 : Int32))] [(.int (2 : Int32))])) _
      refine XS.iload X42.here hx rfl (hb hby at_123) rfl ?_
      show Steps _ _ _ (T42.setTop (mkF m 125 #[.val (.int p1), .val (.int p2), .val (.int p3), .val (.int vK), .val (.int vL), .val (.int vP), .val .null, .val (.ref b35), .val (.int (2 : Int32)), .val (.int (2 : Int32)), .val (.int (vP + (2 : Int32))), .val (.int (((((65535 : Int32).toInt8.toInt32).toInt8.toInt32) &&& (255 : Int32)) ||| (((((((65535 : Int32).toUInt32 >>> ((8 : Int32) &&& 31).toUInt32).toInt32).toInt8.toInt32).toInt8.toInt32) &&& (255 : Int32)) <<< ((8 : Int32) &&& 31)))), .val (.int (65535 : Int32))] [(.int (2 : Int32)), (.int (2 : Int32))])) _
      refine XS.icmpNo X42.here hx rfl (hb hby at_125) rfl (teq rfl).2 ?_
      show Steps _ _ _ (T42.setTop (mkF m 128 #[.val (.int p1), .val (.int p2), .val (.int p3), .val (.int vK), .val (.int vL), .val (.int vP), .val .null, .val (.ref b35), .val (.int (2 : Int32)), .val (.int (2 : Int32)), .val (.int (vP + (2 : Int32))), .val (.int (((((65535 : Int32).toInt8.toInt32).toInt8.toInt32) &&& (255 : Int32)) ||| (((((((65535 : Int32).toUInt32 >>> ((8 : Int32) &&& 31).toUInt32).toInt32).toInt8.toInt32).toInt8.toInt32) &&& (255 : Int32)) <<< ((8 : Int32) &&& 31)))), .val (.int (65535 : Int32))] [])) _
      refine XS.iload X42.here hx rfl (hb hby at_128) rfl ?_
      show Steps _ _ _ (T42.setTop (mkF m 130 #[.val (.int p1), .val (.int p2), .val (.int p3), .val (.int vK), .val (.int vL), .val (.int vP), .val .null, .val (.ref b35), .val (.int (2 : Int32)), .val (.int (2 : Int32)), .val (.int (vP + (2 : Int32))), .val (.int (((((65535 : Int32).toInt8.toInt32).toInt8.toInt32) &&& (255 : Int32)) ||| (((((((65535 : Int32).toUInt32 >>> ((8 : Int32) &&& 31).toUInt32).toInt32).toInt8.toInt32).toInt8.toInt32) &&& (255 : Int32)) <<< ((8 : Int32) &&& 31)))), .val (.int (65535 : Int32))] [(.int (vP + (2 : Int32)))])) _
      refine XS.iload X42.here hx rfl (hb hby at_130) rfl ?_
      show Steps _ _ _ (T42.setTop (mkF m 132 #[.val (.int p1), .val (.int p2), .val (.int p3), .val (.int vK), .val (.int vL), .val (.int vP), .val .null, .val (.ref b35), .val (.int (2 : Int32)), .val (.int (2 : Int32)), .val (.int (vP + (2 : Int32))), .val (.int (((((65535 : Int32).toInt8.toInt32).toInt8.toInt32) &&& (255 : Int32)) ||| (((((((65535 : Int32).toUInt32 >>> ((8 : Int32) &&& 31).toUInt32).toInt32).toInt8.toInt32).toInt8.toInt32) &&& (255 : Int32)) <<< ((8 : Int32) &&& 31)))), .val (.int (65535 : Int32))] [(.int vP), (.int (vP + (2 : Int32)))])) _
      refine XS.iload X42.here hx rfl (hb hby at_132) rfl ?_
      show Steps _ _ _ (T42.setTop (mkF m 134 #[.val (.int p1), .val (.int p2), .val (.int p3), .val (.int vK), .val (.int vL), .val (.int vP), .val .null, .val (.ref b35), .val (.int (2 : Int32)), .val (.int (2 : Int32)), .val (.int (vP + (2 : Int32))), .val (.int (((((65535 : Int32).toInt8.toInt32).toInt8.toInt32) &&& (255 : Int32)) ||| (((((((65535 : Int32).toUInt32 >>> ((8 : Int32) &&& 31).toUInt32).toInt32).toInt8.toInt32).toInt8.toInt32) &&& (255 : Int32)) <<< ((8 : Int32) &&& 31)))), .val (.int (65535 : Int32))] [(.int (2 : Int32)), (.int vP), (.int (vP + (2 : Int32)))])) _
      refine XS.iadd X42.here hx rfl (hb hby at_134) rfl ?_
      show Steps _ _ _ (T42.setTop (mkF m 135 #[.val (.int p1), .val (.int p2), .val (.int p3), .val (.int vK), .val (.int vL), .val (.int vP), .val .null, .val (.ref b35), .val (.int (2 : Int32)), .val (.int (2 : Int32)), .val (.int (vP + (2 : Int32))), .val (.int (((((65535 : Int32).toInt8.toInt32).toInt8.toInt32) &&& (255 : Int32)) ||| (((((((65535 : Int32).toUInt32 >>> ((8 : Int32) &&& 31).toUInt32).toInt32).toInt8.toInt32).toInt8.toInt32) &&& (255 : Int32)) <<< ((8 : Int32) &&& 31)))), .val (.int (65535 : Int32))] [(.int (vP + (2 : Int32))), (.int (vP + (2 : Int32)))])) _
      refine XS.icmpNo X42.here hx rfl (hb hby at_135) rfl (teq rfl).2 ?_
      show Steps _ _ _ (T42.setTop (mkF m 138 #[.val (.int p1), .val (.int p2), .val (.int p3), .val (.int vK), .val (.int vL), .val (.int vP), .val .null, .val (.ref b35), .val (.int (2 : Int32)), .val (.int (2 : Int32)), .val (.int (vP + (2 : Int32))), .val (.int (((((65535 : Int32).toInt8.toInt32).toInt8.toInt32) &&& (255 : Int32)) ||| (((((((65535 : Int32).toUInt32 >>> ((8 : Int32) &&& 31).toUInt32).toInt32).toInt8.toInt32).toInt8.toInt32) &&& (255 : Int32)) <<< ((8 : Int32) &&& 31)))), .val (.int (65535 : Int32))] [])) _
      refine XS.iload X42.here hx rfl (hb hby at_138) rfl ?_
      show Steps _ _ _ (T42.setTop (mkF m 140 #[.val (.int p1), .val (.int p2), .val (.int p3), .val (.int vK), .val (.int vL), .val (.int vP), .val .null, .val (.ref b35), .val (.int (2 : Int32)), .val (.int (2 : Int32)), .val (.int (vP + (2 : Int32))), .val (.int (((((65535 : Int32).toInt8.toInt32).toInt8.toInt32) &&& (255 : Int32)) ||| (((((((65535 : Int32).toUInt32 >>> ((8 : Int32) &&& 31).toUInt32).toInt32).toInt8.toInt32).toInt8.toInt32) &&& (255 : Int32)) <<< ((8 : Int32) &&& 31)))), .val (.int (65535 : Int32))] [(.int (((((65535 : Int32).toInt8.toInt32).toInt8.toInt32) &&& (255 : Int32)) ||| (((((((65535 : Int32).toUInt32 >>> ((8 : Int32) &&& 31).toUInt32).toInt32).toInt8.toInt32).toInt8.toInt32) &&& (255 : Int32)) <<< ((8 : Int32) &&& 31))))])) _
      refine XS.iload X42.here hx rfl (hb hby at_140) rfl ?_
      show Steps _ _ _ (T42.setTop (mkF m 142 #[.val (.int p1), .val (.int p2), .val (.int p3), .val (.int vK), .val (.int vL), .val (.int vP), .val .null, .val (.ref b35), .val (.int (2 : Int32)), .val (.int (2 : Int32)), .val (.int (vP + (2 : Int32))), .val (.int (((((65535 : Int32).toInt8.toInt32).toInt8.toInt32) &&& (255 : Int32)) ||| (((((((65535 : Int32).toUInt32 >>> ((8 : Int32) &&& 31).toUInt32).toInt32).toInt8.toInt32).toInt8.toInt32) &&& (255 : Int32)) <<< ((8 : Int32) &&& 31)))), .val (.int (65535 : Int32))] [(.int (65535 : Int32)), (.int (((((65535 : Int32).toInt8.toInt32).toInt8.toInt32) &&& (255 : Int32)) ||| (((((((65535 : Int32).toUInt32 >>> ((8 : Int32) &&& 31).toUInt32).toInt32).toInt8.toInt32).toInt8.toInt32) &&& (255 : Int32)) <<< ((8 : Int32) &&& 31))))])) _
      refine XS.icmpNo X42.here hx rfl (hb hby at_142) rfl (teq hc53).2 ?_
      show Steps _ _ _ (T42.setTop (mkF m 145 #[.val (.int p1), .val (.int p2), .val (.int p3), .val (.int vK), .val (.int vL), .val (.int vP), .val .null, .val (.ref b35), .val (.int (2 : Int32)), .val (.int (2 : Int32)), .val (.int (vP + (2 : Int32))), .val (.int (((((65535 : Int32).toInt8.toInt32).toInt8.toInt32) &&& (255 : Int32)) ||| (((((((65535 : Int32).toUInt32 >>> ((8 : Int32) &&& 31).toUInt32).toInt32).toInt8.toInt32).toInt8.toInt32) &&& (255 : Int32)) <<< ((8 : Int32) &&& 31)))), .val (.int (65535 : Int32))] [])) _
      refine XS.iconst X42.here hx rfl (hb hby at_145) ?_
      show Steps _ _ _ (T42.setTop (mkF m 146 #[.val (.int p1), .val (.int p2), .val (.int p3), .val (.int vK), .val (.int vL), .val (.int vP), .val .null, .val (.ref b35), .val (.int (2 : Int32)), .val (.int (2 : Int32)), .val (.int (vP + (2 : Int32))), .val (.int (((((65535 : Int32).toInt8.toInt32).toInt8.toInt32) &&& (255 : Int32)) ||| (((((((65535 : Int32).toUInt32 >>> ((8 : Int32) &&& 31).toUInt32).toInt32).toInt8.toInt32).toInt8.toInt32) &&& (255 : Int32)) <<< ((8 : Int32) &&& 31)))), .val (.int (65535 : Int32))] [(.int (1 : Int32))])) _
      refine XS.goto X42.here hx rfl (pc0 := 146) (pc' := 150) rfl (hb hby at_146) (by decide) (by decide) ?_
      show Steps _ _ _ (T42.setTop (mkF m 150 #[.val (.int p1), .val (.int p2), .val (.int p3), .val (.int vK), .val (.int vL), .val (.int vP), .val .null, .val (.ref b35), .val (.int (2 : Int32)), .val (.int (2 : Int32)), .val (.int (vP + (2 : Int32))), .val (.int (((((65535 : Int32).toInt8.toInt32).toInt8.toInt32) &&& (255 : Int32)) ||| (((((((65535 : Int32).toUInt32 >>> ((8 : Int32) &&& 31).toUInt32).toInt32).toInt8.toInt32).toInt8.toInt32) &&& (255 : Int32)) <<< ((8 : Int32) &&& 31)))), .val (.int (65535 : Int32))] [(.int (1 : Int32))])) _
      exact k
    obtain ⟨fs, hr, hrun, hended, hW, hsame⟩ := X42.leave (v := some (.int (1 : Int32))) (fun h => by rw [Bd.returns] at h; cases h)
    refine ⟨_, _, pre54 _ ?_, hrun, hended, _, _, rfl, ?_, ⟨_, rfl⟩, hW, hsame.mono (by decide) (by decide)⟩
    · exact retN X42 hx (t := .boolean) Bd.returns (by simp) (hb hby at_150) hr
    · show Q_rm0 Z p1 p2 p3 h0 n0 _ T42.heap _
      exact ⟨rfl, N43, KC44⟩
set_option maxRecDepth 65536 in
set_option maxHeartbeats 40000000 in
theorem comes_1 {Post : Tables → Env → Array Value → State → Outcome → State → Prop} (hpost : ∀ tb e args s v u, (limb_1_1.after args s (.returned v) u = true ∧ limb_1_2.after args s (.returned v) u = true ∧ True) → FrameEnd s (.returned v) u (Jvm.fieldLocs frame_1_writes args s ++ Jvm.arrayLocs frame_1_arrays args s ++ Jvm.staticLocs frame_1_statics s) 16 8320 → Post tb e args s (.returned v) u) :
    ArmFor flags0 classFile x code maxLocals ret World_1 tables_1 room_1 Calls_1 rest_1 Pre_1 Post := by
  intro l hfl _ _ p e ha hc hk s m args below hf hA hF happ hP
  obtain ⟨hcalls, hrest, hpre⟩ := hP
  obtain ⟨-, -, -, hnamed, -, -, -, hat⟩ := (Spec.applies_iff hf).mp happ
  obtain ⟨hg, hn⟩ := and_e (Cond.before_iff.mp (show (Jvm.Cond.and given_1 narrow_1).before args s = true from hpre))
  obtain ⟨g0, r0⟩ := and_e hg
  obtain ⟨g1, r1⟩ := and_e r0
  obtain ⟨g2, r2⟩ := and_e r1
  obtain ⟨w0, w1, w2, rfl⟩ : ∃ w0 w1 w2 : Value, args = #[w0, w1, w2] := by
    have hs : args.size = 3 := by simpa [Cond.value, given_1] using g0
    obtain ⟨L⟩ := args
    match L, hs with
    | [w0, w1, w2], _ => exact ⟨w0, w1, w2, rfl⟩
  have hw := fun d (hd : d ∈ tables_1) => atoms_spec (ws := Jvm.Cond.code x code maxLocals ret :: tables_1) hat d (List.mem_cons_of_mem _ hd)
  have hfit : Fit s := fun {y c} hc i hi => by
    obtain ⟨ha, rfl⟩ := Array.getElem?_eq_some_iff.mp hc
    have q := List.all_eq_true.mp ((Array.all_eq_true_iff_forall_mem.mp hF) _ (Array.getElem_mem ha)) i (List.mem_range.mpr hi)
    simpa [Array.getElem?_eq_getElem hi] using q
  obtain ⟨i0, ei0⟩ := is_v g1
  obtain rfl : w0 = (.int i0) := Option.some.inj ei0
  obtain ⟨i1, ei1⟩ := is_v g2
  obtain rfl : w1 = (.int i1) := Option.some.inj ei1
  obtain ⟨i2, ei2⟩ := is_v r2
  obtain rfl : w2 = (.int i2) := Option.some.inj ei2
  obtain ⟨n, o, h1, h2, h3, _, L, rfl, ⟨rfl, N, -⟩, hq⟩ := rm0 l s _ hw tables_1 i0 i1 i2 s.heap s.heap.size (Nat.le_refl _)  p e ha hc hk s m _ below hf ((Spec.applies_iff_loose hf).mp happ).1 ⟨rfl, State.Warmed39.refl s, rfl⟩ trivial
  refine ⟨n, _, h1, h2, h3, hpost _ _ _ _ _ _ ⟨Cond.after_iff.mpr rfl, Cond.after_iff.mpr (eq_i res_at (Term.int_eval (1)) rfl), trivial⟩ ⟨hq.1, hq.2.1, (hq.2.2.sift fun y hy => Or.inr (N y hy)).mono (by decide) (by decide)⟩⟩
theorem main_1_1 : Claimed_1_1 := comes_1 fun _ _ _ _ _ _ h hF => ⟨h.1, hF⟩
theorem main_1_2 : Claimed_1_2 := comes_1 fun _ _ _ _ _ _ h hF => ⟨h.2.1, hF⟩
end Jvm.Pilot.@@N@@
namespace Jvm.Pilot.@@N@@
open Jvm Jvm.ClassFile Sem Op Lib Jvm.Free Jvm.Stand Jvm.Pilot.@@N@@.Jvm.D
/-! MADE BY PROGRAM (witnessworld.py) out of the Statement's table words and the real class files: 10 classes; the members and pool entries that the words name. The judged class is class 1, her method 1. -/
namespace start1
open Jvm.ClassFile
def u (s : String) : CpInfo := .utf8 (stringToUtf16 s)
/-- a pool by its gaps: so many unusable entries, then the entry; so many at the end -/
def gap : Nat → List CpInfo → List CpInfo
  | 0, r => r
  | n + 1, r => .unusable :: gap n r
def poolList (es : List (Nat × CpInfo)) (last : Nat) : List CpInfo := es.foldr (fun e r => gap e.1 (e.2 :: r)) (gap last [])
def pool (es : List (Nat × CpInfo)) (last : Nat) : Array CpInfo := ⟨poolList es last⟩
def fileOf (pool : Array CpInfo) (this : Nat) (attrs : Array Attribute := #[]) (ms : Array MethodInfo := #[]) (fl : Nat := 33) (sup : Nat := 0) (ifs : Array Nat := #[]) (fds : Array FieldInfo := #[]) : ClassFile where
  minorVersion := 0
  majorVersion := 65
  constantPool := pool
  accessFlags := fl
  thisClass := this
  superClass := sup
  interfaces := ifs
  fields := fds
  methods := ms
  attributes := attrs
def plain (name : String) (sup : Option ClassId) : Class where
  name := name
  kind := .ordinary
  loader := none
  accessFlags := 33
  super := sup
  interfaces := #[]
  cf := none
  fields := #[]
  methods := #[]
  instanceTypes := #[]
  staticTypes := #[]
  resolved := #[]
  callSites := []
  init := .initialized
  statics := none
  mirror := none

def pool0 : Array CpInfo := pool [(5, u "<init>"), (0, u "()V"), (1, .class_ 10), (1, u "java/lang/Object")] 113

def k0m0 : Method := { name := "<init>", desc := "()V", sig := { parameters := [], returnType := none }, accessFlags := 1, code := none }
/-- java/lang/Object -/
def k0 : Class := { plain "java/lang/Object" none with
  accessFlags := 33
  interfaces := #[]
  cf := some (fileOf pool0 8 #[] #[{ accessFlags := 1, nameIndex := 5, descriptorIndex := 6, attributes := #[] }] 33 0 #[] #[])
  fields := #[]
  methods := #[k0m0]
  instanceTypes := #[]
  staticTypes := #[]
  resolved := Array.replicate 124 none
  statics := none }

def pool1 : Array CpInfo := pool [(2, .class_ 4), (1, u "java/lang/Object"), (0, u "<init>"), (0, u "()V"), (0, .methodref 8 9), (0, .class_ 10), (0, .nameAndType 11 12), (0, u "com/example/blockflate/blockflate/Layout"), (0, u "keyEntryLength"), (0, u "([B)I"), (0, .methodref 8 14), (0, .nameAndType 15 16), (0, u "putKey"), (0, u "([BI[B)I"), (0, .integer 65535), (0, .class_ 19), (0, u "com/example/blockflate/blockflate/LayoutKeyEntryLengthPinLaw"), (2, u "law"), (0, u "(III)Z")] 5

def k1m0 : Method := { name := "<init>", desc := "()V", sig := { parameters := [], returnType := none }, accessFlags := 2, code := none }
def k1c1 : Code := { maxStack := 4, maxLocals := 13, code := code, exceptionTable := #[], attributes := #[] }
def k1m1 : Method := { name := "law", desc := "(III)Z", sig := { parameters := [.int, .int, .int], returnType := some .boolean }, accessFlags := 9, code := some k1c1 }
/-- com/example/blockflate/blockflate/LayoutKeyEntryLengthPinLaw -/
def k1 : Class := { plain "com/example/blockflate/blockflate/LayoutKeyEntryLengthPinLaw" (some 0) with
  accessFlags := 49
  interfaces := #[]
  cf := some (fileOf pool1 18 #[] #[{ accessFlags := 2, nameIndex := 5, descriptorIndex := 6, attributes := #[] }, { accessFlags := 9, nameIndex := 22, descriptorIndex := 23, attributes := #[] }] 49 2 #[] #[])
  fields := #[]
  methods := #[k1m0, k1m1]
  instanceTypes := #[]
  staticTypes := #[]
  resolved := Array.replicate 29 none
  statics := none }

def pool2 : Array CpInfo := pool [(1, .class_ 2), (0, u "com/example/blockflate/blockflate/Layout"), (1, .class_ 6), (1, u "java/lang/Object"), (0, u "<init>"), (0, u "()V"), (52, u "DATA_HEADER_LENGTH"), (0, u "I"), (3, u "([B)I"), (5, u "EXTRA_START"), (3, u "([BII)I"), (12, .methodref 90 91), (0, .class_ 92), (0, .nameAndType 93 94), (0, u "java/lang/System"), (0, u "arraycopy"), (0, u "(Ljava/lang/Object;ILjava/lang/Object;II)V"), (3, .integer 65535), (0, .methodref 1 100), (0, .nameAndType 101 76), (0, u "putShort"), (0, .methodref 1 103), (0, .nameAndType 104 105), (0, u "put"), (0, u "([BI[BII)I"), (15, .class_ 122), (0, u "com/example/blockflate/blockflate/Layout$IndexPart"), (22, u "EMPTY_BODY"), (0, u "[B"), (63, .class_ 211), (0, u "com/example/blockflate/blockflate/Layout$Lengths"), (26, u "MIN_BODY_LENGTH"), (29, u "TAIL_LENGTH"), (21, u "MIN_INDEX_LENGTH"), (36, u "keyEntryLength"), (2, u "SMALLEST_DATA_HEADER_LENGTH"), (1, .class_ 333), (0, u "com/example/blockflate/blockflate/Layout$Entry"), (33, u "HEADER_START"), (6, u "MAX_DATA_HEADER_LENGTH"), (0, u "VERSION"), (2, u "LENGTHS_ID"), (0, u "Ljava/lang/String;"), (0, u "ENTRIES_ID"), (0, u "END_ID"), (0, u "KEY_ID"), (0, u "LINE_ID"), (0, u "SUBFIELD_HEADER"), (1, u "LENGTHS_SIZE"), (1, u "LINE_SIZE"), (1, u "END_SIZE"), (1, u "MAX_EXTRA_LENGTH"), (0, u "ENTRY_SIZE"), (1, u "MAX_KEY_LENGTH"), (1, u "KEY_LENGTH_SIZE"), (0, u "NO_KEY"), (0, u "TRAILER_LENGTH"), (0, u "MAX_BLOCK_SIZE"), (1, u "INDEX_ROOM"), (0, u "ENTRIES_PER_INDEX_MEMBER"), (9, u "putKey"), (0, u "([BI[B)I")] 57

def k2m0 : Method := { name := "<init>", desc := "()V", sig := { parameters := [], returnType := none }, accessFlags := 2, code := none }
def k2c1 : Code := { maxStack := 2, maxLocals := 1, code := prog_16_method_6_code, exceptionTable := #[], attributes := #[] }
def k2m1 : Method := { name := "keyEntryLength", desc := "([B)I", sig := { parameters := [(.array .byte)], returnType := some .int }, accessFlags := 8, code := some k2c1 }
def k2c2 : Code := { maxStack := 5, maxLocals := 3, code := prog_16_method_7_code, exceptionTable := #[], attributes := #[] }
def k2m2 : Method := { name := "putKey", desc := "([BI[B)I", sig := { parameters := [(.array .byte), .int, (.array .byte)], returnType := some .int }, accessFlags := 8, code := some k2c2 }
def k2c3 : Code := { maxStack := 5, maxLocals := 5, code := prog_16_method_28_code, exceptionTable := #[], attributes := #[] }
def k2m3 : Method := { name := "put", desc := "([BI[BII)I", sig := { parameters := [(.array .byte), .int, (.array .byte), .int, .int], returnType := some .int }, accessFlags := 10, code := some k2c3 }
def k2c4 : Code := { maxStack := 4, maxLocals := 3, code := prog_16_method_29_code, exceptionTable := #[], attributes := #[] }
def k2m4 : Method := { name := "putShort", desc := "([BII)I", sig := { parameters := [(.array .byte), .int, .int], returnType := some .int }, accessFlags := 10, code := some k2c4 }
/-- com/example/blockflate/blockflate/Layout -/
def k2 : Class := { plain "com/example/blockflate/blockflate/Layout" (some 0) with
  accessFlags := 48
  interfaces := #[]
  cf := some (fileOf pool2 1 #[.nestMembers #[121, 332, 210]] #[{ accessFlags := 2, nameIndex := 7, descriptorIndex := 8, attributes := #[] }, { accessFlags := 8, nameIndex := 327, descriptorIndex := 66, attributes := #[] }, { accessFlags := 8, nameIndex := 413, descriptorIndex := 414, attributes := #[] }, { accessFlags := 10, nameIndex := 104, descriptorIndex := 105, attributes := #[] }, { accessFlags := 10, nameIndex := 101, descriptorIndex := 76, attributes := #[] }] 48 4 #[] #[{ accessFlags := 24, nameIndex := 375, descriptorIndex := 62, attributes := #[] }, { accessFlags := 26, nameIndex := 367, descriptorIndex := 146, attributes := #[] }, { accessFlags := 26, nameIndex := 72, descriptorIndex := 62, attributes := #[] }, { accessFlags := 26, nameIndex := 378, descriptorIndex := 379, attributes := #[] }, { accessFlags := 26, nameIndex := 380, descriptorIndex := 379, attributes := #[] }, { accessFlags := 26, nameIndex := 381, descriptorIndex := 379, attributes := #[] }, { accessFlags := 26, nameIndex := 382, descriptorIndex := 379, attributes := #[] }, { accessFlags := 26, nameIndex := 383, descriptorIndex := 379, attributes := #[] }, { accessFlags := 26, nameIndex := 384, descriptorIndex := 62, attributes := #[] }, { accessFlags := 26, nameIndex := 386, descriptorIndex := 62, attributes := #[] }, { accessFlags := 26, nameIndex := 388, descriptorIndex := 62, attributes := #[] }, { accessFlags := 26, nameIndex := 390, descriptorIndex := 62, attributes := #[] }, { accessFlags := 26, nameIndex := 392, descriptorIndex := 62, attributes := #[] }, { accessFlags := 24, nameIndex := 393, descriptorIndex := 62, attributes := #[] }, { accessFlags := 24, nameIndex := 395, descriptorIndex := 62, attributes := #[] }, { accessFlags := 26, nameIndex := 397, descriptorIndex := 62, attributes := #[] }, { accessFlags := 26, nameIndex := 398, descriptorIndex := 62, attributes := #[] }, { accessFlags := 26, nameIndex := 330, descriptorIndex := 62, attributes := #[] }, { accessFlags := 26, nameIndex := 61, descriptorIndex := 62, attributes := #[] }, { accessFlags := 24, nameIndex := 374, descriptorIndex := 62, attributes := #[] }, { accessFlags := 26, nameIndex := 145, descriptorIndex := 146, attributes := #[] }, { accessFlags := 24, nameIndex := 399, descriptorIndex := 62, attributes := #[] }, { accessFlags := 26, nameIndex := 238, descriptorIndex := 62, attributes := #[] }, { accessFlags := 24, nameIndex := 400, descriptorIndex := 62, attributes := #[] }, { accessFlags := 24, nameIndex := 268, descriptorIndex := 62, attributes := #[] }, { accessFlags := 26, nameIndex := 402, descriptorIndex := 62, attributes := #[] }, { accessFlags := 24, nameIndex := 403, descriptorIndex := 62, attributes := #[] }, { accessFlags := 26, nameIndex := 290, descriptorIndex := 62, attributes := #[] }])
  fields := #[{ name := "VERSION", type := .int, accessFlags := 24, slot := 0, constantValue := 0 }, { name := "HEADER_START", type := (.array .byte), accessFlags := 26, slot := 1, constantValue := 0 }, { name := "EXTRA_START", type := .int, accessFlags := 26, slot := 2, constantValue := 0 }, { name := "LENGTHS_ID", type := (.object "java/lang/String"), accessFlags := 26, slot := 3, constantValue := 0 }, { name := "ENTRIES_ID", type := (.object "java/lang/String"), accessFlags := 26, slot := 4, constantValue := 0 }, { name := "END_ID", type := (.object "java/lang/String"), accessFlags := 26, slot := 5, constantValue := 0 }, { name := "KEY_ID", type := (.object "java/lang/String"), accessFlags := 26, slot := 6, constantValue := 0 }, { name := "LINE_ID", type := (.object "java/lang/String"), accessFlags := 26, slot := 7, constantValue := 0 }, { name := "SUBFIELD_HEADER", type := .int, accessFlags := 26, slot := 8, constantValue := 0 }, { name := "LENGTHS_SIZE", type := .int, accessFlags := 26, slot := 9, constantValue := 0 }, { name := "LINE_SIZE", type := .int, accessFlags := 26, slot := 10, constantValue := 0 }, { name := "END_SIZE", type := .int, accessFlags := 26, slot := 11, constantValue := 0 }, { name := "MAX_EXTRA_LENGTH", type := .int, accessFlags := 26, slot := 12, constantValue := 0 }, { name := "ENTRY_SIZE", type := .int, accessFlags := 24, slot := 13, constantValue := 0 }, { name := "MAX_KEY_LENGTH", type := .int, accessFlags := 24, slot := 14, constantValue := 0 }, { name := "KEY_LENGTH_SIZE", type := .int, accessFlags := 26, slot := 15, constantValue := 0 }, { name := "NO_KEY", type := .int, accessFlags := 26, slot := 16, constantValue := 0 }, { name := "SMALLEST_DATA_HEADER_LENGTH", type := .int, accessFlags := 26, slot := 17, constantValue := 0 }, { name := "DATA_HEADER_LENGTH", type := .int, accessFlags := 26, slot := 18, constantValue := 0 }, { name := "MAX_DATA_HEADER_LENGTH", type := .int, accessFlags := 24, slot := 19, constantValue := 0 }, { name := "EMPTY_BODY", type := (.array .byte), accessFlags := 26, slot := 20, constantValue := 0 }, { name := "TRAILER_LENGTH", type := .int, accessFlags := 24, slot := 21, constantValue := 0 }, { name := "MIN_BODY_LENGTH", type := .int, accessFlags := 26, slot := 22, constantValue := 0 }, { name := "MAX_BLOCK_SIZE", type := .int, accessFlags := 24, slot := 23, constantValue := 0 }, { name := "TAIL_LENGTH", type := .int, accessFlags := 24, slot := 24, constantValue := 0 }, { name := "INDEX_ROOM", type := .int, accessFlags := 26, slot := 25, constantValue := 0 }, { name := "ENTRIES_PER_INDEX_MEMBER", type := .int, accessFlags := 24, slot := 26, constantValue := 0 }, { name := "MIN_INDEX_LENGTH", type := .int, accessFlags := 26, slot := 27, constantValue := 0 }]
  methods := #[k2m0, k2m1, k2m2, k2m3, k2m4]
  instanceTypes := #[]
  staticTypes := #[.int, (.array .byte), .int, (.object "java/lang/String"), (.object "java/lang/String"), (.object "java/lang/String"), (.object "java/lang/String"), (.object "java/lang/String"), .int, .int, .int, .int, .int, .int, .int, .int, .int, .int, .int, .int, (.array .byte), .int, .int, .int, .int, .int, .int, .int]
  resolved := Array.replicate 472 none
  statics := none }

def pool3 : Array CpInfo := pool [(2, .class_ 4), (1, u "java/lang/Object"), (0, u "<init>"), (0, u "()V"), (1, .class_ 10), (1, u "java/lang/System"), (0, u "allowSecurityManager"), (0, u "I"), (16, u "cons"), (0, u "Ljava/io/Console;"), (77, .class_ 110), (1, u "java/lang/System$CallersHolder"), (43, u "initialErrStream"), (0, u "Ljava/io/PrintStream;"), (19, u "security"), (0, u "Ljava/lang/SecurityManager;"), (31, .class_ 209), (0, u "java/lang/System$1"), (7, u "props"), (0, u "Ljava/util/Properties;"), (2, u "lineSeparator"), (0, u "Ljava/lang/String;"), (96, .class_ 321), (1, u "java/lang/System$LoggerFinder"), (5, .class_ 328), (0, u "java/lang/System$Logger"), (67, u "err"), (2, u "out"), (91, u "notSupportedJnuEncoding"), (15, u "in"), (17, u "initialIn"), (0, u "Ljava/io/InputStream;"), (35, u "bootLayer"), (0, u "Ljava/lang/ModuleLayer;"), (99, .class_ 664), (0, u "java/lang/System$2"), (9, u "NEVER"), (2, u "MAYBE"), (49, u "arraycopy"), (0, u "(Ljava/lang/Object;ILjava/lang/Object;II)V"), (72, .class_ 802), (0, u "java/lang/System$Logger$Level")] 31

def k3m0 : Method := { name := "<init>", desc := "()V", sig := { parameters := [], returnType := none }, accessFlags := 2, code := none }
def k3m1 : Method := { name := "arraycopy", desc := "(Ljava/lang/Object;ILjava/lang/Object;II)V", sig := { parameters := [(.object "java/lang/Object"), .int, (.object "java/lang/Object"), .int, .int], returnType := none }, accessFlags := 265, code := none }
/-- java/lang/System -/
def k3 : Class := { plain "java/lang/System" (some 0) with
  accessFlags := 49
  interfaces := #[]
  cf := some (fileOf pool3 8 #[.nestMembers #[319, 327, 801, 108, 663, 208]] #[{ accessFlags := 2, nameIndex := 5, descriptorIndex := 6, attributes := #[] }, { accessFlags := 265, nameIndex := 727, descriptorIndex := 728, attributes := #[] }] 49 2 #[] #[{ accessFlags := 25, nameIndex := 507, descriptorIndex := 526, attributes := #[] }, { accessFlags := 25, nameIndex := 399, descriptorIndex := 155, attributes := #[] }, { accessFlags := 25, nameIndex := 396, descriptorIndex := 155, attributes := #[] }, { accessFlags := 10, nameIndex := 525, descriptorIndex := 526, attributes := #[] }, { accessFlags := 26, nameIndex := 674, descriptorIndex := 12, attributes := #[] }, { accessFlags := 26, nameIndex := 677, descriptorIndex := 12, attributes := #[] }, { accessFlags := 10, nameIndex := 11, descriptorIndex := 12, attributes := #[] }, { accessFlags := 74, nameIndex := 175, descriptorIndex := 176, attributes := #[] }, { accessFlags := 10, nameIndex := 491, descriptorIndex := 222, attributes := #[] }, { accessFlags := 74, nameIndex := 29, descriptorIndex := 30, attributes := #[] }, { accessFlags := 74, nameIndex := 154, descriptorIndex := 155, attributes := #[] }, { accessFlags := 10, nameIndex := 217, descriptorIndex := 218, attributes := #[] }, { accessFlags := 10, nameIndex := 221, descriptorIndex := 222, attributes := #[] }, { accessFlags := 8, nameIndex := 562, descriptorIndex := 563, attributes := #[] }])
  fields := #[{ name := "in", type := (.object "java/io/InputStream"), accessFlags := 25, slot := 0, constantValue := 0 }, { name := "out", type := (.object "java/io/PrintStream"), accessFlags := 25, slot := 1, constantValue := 0 }, { name := "err", type := (.object "java/io/PrintStream"), accessFlags := 25, slot := 2, constantValue := 0 }, { name := "initialIn", type := (.object "java/io/InputStream"), accessFlags := 10, slot := 3, constantValue := 0 }, { name := "NEVER", type := .int, accessFlags := 26, slot := 4, constantValue := 0 }, { name := "MAYBE", type := .int, accessFlags := 26, slot := 5, constantValue := 0 }, { name := "allowSecurityManager", type := .int, accessFlags := 10, slot := 6, constantValue := 0 }, { name := "security", type := (.object "java/lang/SecurityManager"), accessFlags := 74, slot := 7, constantValue := 0 }, { name := "notSupportedJnuEncoding", type := (.object "java/lang/String"), accessFlags := 10, slot := 8, constantValue := 0 }, { name := "cons", type := (.object "java/io/Console"), accessFlags := 74, slot := 9, constantValue := 0 }, { name := "initialErrStream", type := (.object "java/io/PrintStream"), accessFlags := 74, slot := 10, constantValue := 0 }, { name := "props", type := (.object "java/util/Properties"), accessFlags := 10, slot := 11, constantValue := 0 }, { name := "lineSeparator", type := (.object "java/lang/String"), accessFlags := 10, slot := 12, constantValue := 0 }, { name := "bootLayer", type := (.object "java/lang/ModuleLayer"), accessFlags := 8, slot := 13, constantValue := 0 }]
  methods := #[k3m0, k3m1]
  instanceTypes := #[]
  staticTypes := #[(.object "java/io/InputStream"), (.object "java/io/PrintStream"), (.object "java/io/PrintStream"), (.object "java/io/InputStream"), .int, .int, .int, (.object "java/lang/SecurityManager"), (.object "java/lang/String"), (.object "java/io/Console"), (.object "java/io/PrintStream"), (.object "java/util/Properties"), (.object "java/lang/String"), (.object "java/lang/ModuleLayer")]
  resolved := Array.replicate 834 none
  statics := none }

def pool4 : Array CpInfo := pool [(1, u "java/lang/Cloneable"), (0, .class_ 1), (0, u "java/lang/Object"), (0, .class_ 3)] 3

/-- java/lang/Cloneable -/
def k4 : Class := { plain "java/lang/Cloneable" (some 0) with
  accessFlags := 1537
  interfaces := #[]
  cf := some (fileOf pool4 2 #[] #[] 1537 4 #[] #[])
  fields := #[]
  methods := #[]
  instanceTypes := #[]
  staticTypes := #[]
  resolved := Array.replicate 8 none
  statics := none }

def pool5 : Array CpInfo := pool [(1, u "java/io/Serializable"), (0, .class_ 1), (0, u "java/lang/Object"), (0, .class_ 3)] 3

/-- java/io/Serializable -/
def k5 : Class := { plain "java/io/Serializable" (some 0) with
  accessFlags := 1537
  interfaces := #[]
  cf := some (fileOf pool5 2 #[] #[] 1537 4 #[] #[])
  fields := #[]
  methods := #[]
  instanceTypes := #[]
  staticTypes := #[]
  resolved := Array.replicate 8 none
  statics := none }

/-- the primitive byte -/
def k6 : Class := { plain "byte" none with kind := .primitive 'B', accessFlags := 0x411 }
/-- [B -/
def k7 : Class := { plain "[B" (some 0) with kind := .array 6 .byte, interfaces := #[4, 5], accessFlags := 1041 }

/-- the primitive int -/
def k8 : Class := { plain "int" none with kind := .primitive 'I', accessFlags := 0x411 }
/-- [I -/
def k9 : Class := { plain "[I" (some 0) with kind := .array 8 .int, interfaces := #[4, 5], accessFlags := 1041 }

def heap : Heap := #[]
def classes : Array Class := #[k0, k1, k2, k3, k4, k5, k6, k7, k8, k9]
def interned : List (Array UInt16 × Addr) := []
def slotsUsed : Nat := 0
def theMethod : MethodId := ⟨1, 1⟩
def args0 : Array Value := #[.int 5, .int 1, .int 2]
def aboutOver (below : List Frame) : State where
  vm := { classes := classes, interned := interned.toArray }
  heap := heap
  slotsUsed := slotsUsed
  threads := #[{ frames := .invoking theMethod args0 :: below }]
def below0 : List Frame := [.native { method := ⟨0, 0⟩, args := #[] }]
def about1 : State := aboutOver below0
def p0 : Program := .bare "" "" ""
def e0 : Env := launch0.env 0 0 0
theorem w_frames : about1.frames = Frame.invoking theMethod args0 :: below0 := rfl
set_option maxRecDepth 65536 in
theorem w_args : argsFit about1.vm theMethod args0 = true := by decide +kernel
set_option maxRecDepth 65536 in
theorem w_heap : heapFits about1 = true := by decide +kernel
set_option maxRecDepth 65536 in
theorem w_runnable : about1.curStatus? = some .runnable := by decide +kernel
set_option maxRecDepth 65536 in
theorem w_alone : about1.alone = true := by decide +kernel
set_option maxRecDepth 65536 in
theorem w_named : about1.methodNamed? x = some theMethod := by decide +kernel
set_option maxRecDepth 65536 in
theorem w_hears : about1.hears theMethod below0 = true := by decide +kernel
set_option maxRecDepth 65536 in
theorem w_ripe : about1.ripe theMethod args0 below0 = true := by decide +kernel
theorem w_running : about1.status = .running := rfl
set_option maxRecDepth 65536 in
theorem w_room : about1.hasRoom e0.platform room_1 = true :=
  launch0.hasRoom_least _ room_1 (by decide +kernel) (by decide +kernel) (by decide +kernel) (by decide +kernel) (by decide +kernel) (by decide +kernel)
theorem allAtoms_all (ts : List Jvm.Cond) (a : Array Jvm.Value) (st : Jvm.State) : (allAtoms ts).before a st = ts.all (fun c => c.before a st) := by
  induction ts with
  | nil => rfl
  | cons c t ih =>
    show (Jvm.Cond.and c (allAtoms t)).before a st = _
    rw [Jvm.Cond.before_and, ih, List.all_cons]
def words1 : List Jvm.Cond := Jvm.Cond.code x code maxLocals ret :: tables_1
/-- a 'code' word, met by the world's own term for the bytes: nothing is compared byte by byte -/
theorem code_word {y : MethodName} {bytes : ByteArray} {mx : Nat} {rt : Option FieldType} {a : Array Value} {s : State} {m : MethodId} {meth : Method} {c : Code} (h1 : s.methodNamed? y = some m) (h2 : s.vm.method? m = some meth) (h3 : meth.code = some c) (h4 : c.code = bytes)
    (h5 : (c.maxLocals == mx && c.exceptionTable.isEmpty && decide (c.maxStack ≤ mostOperands) && decide (meth.sig.returnType = rt) && !meth.locks && decide (parseMethodDescriptor y.desc = some meth.sig)) = true) : (Jvm.Cond.code y bytes mx rt).before a s = true := by
  simp only [Bool.and_eq_true, beq_iff_eq, Bool.not_eq_true', decide_eq_true_eq] at h5
  obtain ⟨⟨⟨⟨⟨g1, g2⟩, g3⟩, g4⟩, g5⟩, g6⟩ := h5
  simp [Cond.before, Cond.holds, Cond.value, h1, h2, h3, h4, g1, g2, g3, g4, g5, g6]
def isCode : Jvm.Cond → Bool
  | .code _ _ _ _ => true
  | _ => false
theorem all_split {L : List Jvm.Cond} {P : Jvm.Cond → Bool} (h1 : L.all (fun c => isCode c || P c) = true) (h2 : ∀ c ∈ L.filter isCode, P c = true) : L.all P = true := by
  refine List.all_eq_true.mpr fun c hc => ?_
  have h := List.all_eq_true.mp h1 c hc
  rcases Bool.eq_false_or_eq_true (isCode c) with hi | hi
  · exact h2 c (List.mem_filter.mpr ⟨hc, hi⟩)
  · simpa [hi] using h
set_option maxRecDepth 65536 in
theorem w_c0 : (Jvm.Cond.code x code maxLocals ret).before args0 about1 = true := code_word (m := ⟨1, 1⟩) (meth := k1m1) (c := k1c1) (by decide +kernel) rfl rfl rfl (by decide +kernel)
set_option maxRecDepth 65536 in
theorem w_c1 : (Jvm.Cond.code ({ cls := "com/example/blockflate/blockflate/Layout", name := "keyEntryLength", desc := "([B)I" } : Jvm.MethodName) prog_16_method_6_code (1 : Nat) (Option.some Jvm.ClassFile.FieldType.int)).before args0 about1 = true := code_word (m := ⟨2, 1⟩) (meth := k2m1) (c := k2c1) (by decide +kernel) rfl rfl rfl (by decide +kernel)
set_option maxRecDepth 65536 in
theorem w_c2 : (Jvm.Cond.code ({ cls := "com/example/blockflate/blockflate/Layout", name := "putKey", desc := "([BI[B)I" } : Jvm.MethodName) prog_16_method_7_code (3 : Nat) (Option.some Jvm.ClassFile.FieldType.int)).before args0 about1 = true := code_word (m := ⟨2, 2⟩) (meth := k2m2) (c := k2c2) (by decide +kernel) rfl rfl rfl (by decide +kernel)
set_option maxRecDepth 65536 in
theorem w_c3 : (Jvm.Cond.code ({ cls := "com/example/blockflate/blockflate/Layout", name := "putShort", desc := "([BII)I" } : Jvm.MethodName) prog_16_method_29_code (3 : Nat) (Option.some Jvm.ClassFile.FieldType.int)).before args0 about1 = true := code_word (m := ⟨2, 4⟩) (meth := k2m4) (c := k2c4) (by decide +kernel) rfl rfl rfl (by decide +kernel)
set_option maxRecDepth 65536 in
theorem w_c4 : (Jvm.Cond.code ({ cls := "com/example/blockflate/blockflate/Layout", name := "put", desc := "([BI[BII)I" } : Jvm.MethodName) prog_16_method_28_code (5 : Nat) (Option.some Jvm.ClassFile.FieldType.int)).before args0 about1 = true := code_word (m := ⟨2, 3⟩) (meth := k2m3) (c := k2c3) (by decide +kernel) rfl rfl rfl (by decide +kernel)
def codes1 : List Jvm.Cond := [Jvm.Cond.code x code maxLocals ret, Jvm.Cond.code ({ cls := "com/example/blockflate/blockflate/Layout", name := "keyEntryLength", desc := "([B)I" } : Jvm.MethodName) prog_16_method_6_code (1 : Nat) (Option.some Jvm.ClassFile.FieldType.int), Jvm.Cond.code ({ cls := "com/example/blockflate/blockflate/Layout", name := "putKey", desc := "([BI[B)I" } : Jvm.MethodName) prog_16_method_7_code (3 : Nat) (Option.some Jvm.ClassFile.FieldType.int), Jvm.Cond.code ({ cls := "com/example/blockflate/blockflate/Layout", name := "putShort", desc := "([BII)I" } : Jvm.MethodName) prog_16_method_29_code (3 : Nat) (Option.some Jvm.ClassFile.FieldType.int), Jvm.Cond.code ({ cls := "com/example/blockflate/blockflate/Layout", name := "put", desc := "([BI[BII)I" } : Jvm.MethodName) prog_16_method_28_code (5 : Nat) (Option.some Jvm.ClassFile.FieldType.int)]
set_option maxRecDepth 65536 in
theorem codes_eq : words1.filter isCode = codes1 := rfl
theorem w_codes : ∀ c ∈ words1.filter isCode, c.before args0 about1 = true := by
  rw [codes_eq]
  intro c hc
  simp only [codes1, List.mem_cons, List.not_mem_nil, or_false] at hc
  rcases hc with rfl | rfl | rfl | rfl | rfl
  · exact w_c0
  · exact w_c1
  · exact w_c2
  · exact w_c3
  · exact w_c4
set_option maxRecDepth 65536 in
theorem w_t1 : words1.all (fun c => isCode c || c.before args0 about1) = true := by decide +kernel
theorem w_tables : (allAtoms (Jvm.Cond.code x code maxLocals ret :: tables_1)).before args0 about1 = true := by
  rw [allAtoms_all]
  show words1.all (fun c => c.before args0 about1) = true
  refine all_split ?_ w_codes
  rw [w_t1]
set_option maxRecDepth 65536 in
theorem w_case : (Jvm.Cond.and given_1 narrow_1).before args0 about1 = true := by decide +kernel
theorem w_applies : (headSpec (Jvm.Cond.code x code maxLocals ret :: tables_1) room_1).applies x e0.platform about1 = true :=
  (Spec.applies_iff w_frames).mpr ⟨w_running, w_runnable, w_alone, w_named, w_hears, w_ripe, w_room, w_tables⟩
theorem atStart : AtStart classFile x code maxLocals ret World_1 tables_1 room_1 Calls_1 rest_1 Pre_1 launch0 p0 e0 about1 theMethod args0 below0 :=
  ⟨lists_1, trivial, launch0.admits_env _ _ _, launch0.least_env, fairChoices_fair.cas, fairChoices_fair.clock, w_frames, w_args, w_heap, w_applies, trivial, trivial, w_case⟩
end start1
theorem witness_1 : WitnessClaimed_1 := ⟨start1.p0, start1.e0, start1.about1, start1.theMethod, start1.args0, start1.below0, start1.atStart⟩
end Jvm.Pilot.@@N@@
