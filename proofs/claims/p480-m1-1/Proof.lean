import JvmDerived
import JvmDerived.Pilot.@@N@@Statement
import JvmDerived.Pilot.@@N@@Code
set_option linter.unusedVariables false
set_option linter.unusedSimpArgs false
namespace Jvm.RoadKit
open Sem ClassFile Op Lib Jvm.Stand Jvm.Free Jvm.LawKit
section New
variable {p : Program} {l : Launch} {e : Env} {R : Room} {s : State} {m : MethodId} {args : Array Value} {below : List Frame} {meth : Method} {c : Code} {T : State} {locs : List Loc} {cells slots : Nat}
theorem retI (X : Stand p l e R s m args below meth c T locs cells slots) (hx : p.tables.exec = Jvm.exec) {pc : Nat} {Ls : Array Slot} {z : Int32} {rest : List Value} (hret : meth.sig.returnType = some .int) (hd : decode c.code pc = .ok (.ireturn, 1)) {fs : List Frame}
    (hl : ∀ (f : JFrame) (acts : List Action), f.method = m → f.locked = none → f.entered = [] → (doReturn e (T.setTop f) acts (some (.int z))).1 = T.setFrames fs) : Steps p.tables e below (T.setTop (mkF m pc Ls (.int z :: rest))) (T.setFrames fs) := by
  have hm' : T.vm.method? m = some meth := X.method'
  have hn : narrow .int (.int z) = .int z := rfl
  show Steps p.tables e below (T.setTop { method := m, pc := pc, locals := Ls, stack := _ :: rest, locked := none }) _
  jvm_step X.here [X.here.top, hx, hd, hm', hret, hn]
  first | (intro acts; rw [hl _ acts rfl rfl rfl]) | rw [hl _ _ rfl rfl rfl]
  exact Steps.refl _
end New
end Jvm.RoadKit
namespace Jvm.Pilot.@@N@@
open Jvm Jvm.ClassFile Sem Op Lib Jvm.Free Jvm.Stand Jvm.LawKit Jvm.RoadKit Bundle Jvm.Pilot.@@N@@.Jvm.D

theorem own_nar01 {z : Int32} (h : z = 0 ∨ z = 1) : nar .boolean z = z := by rcases h with rfl | rfl <;> rfl
theorem d1_10 : decode prog_45_method_8_code 10 = .ok (.iload 5, 2) := by decide +kernel
theorem d1_12 : decode prog_45_method_8_code 12 = .ok (.iload_n 1, 1) := by decide +kernel
theorem d1_13 : decode prog_45_method_8_code 13 = .ok (.if_icmp .lt 29, 3) := by decide +kernel
theorem d1_16 : decode prog_45_method_8_code 16 = .ok (.aload_n 0, 1) := by decide +kernel
theorem d1_17 : decode prog_45_method_8_code 17 = .ok (.iload 5, 2) := by decide +kernel
theorem d1_19 : decode prog_45_method_8_code 19 = .ok (.bipush 48, 2) := by decide +kernel
theorem d1_21 : decode prog_45_method_8_code 21 = .ok (.iload 4, 2) := by decide +kernel
theorem d1_23 : decode prog_45_method_8_code 23 = .ok (.bipush 10, 2) := by decide +kernel
theorem d1_25 : decode prog_45_method_8_code 25 = .ok (.irem, 1) := by decide +kernel
theorem d1_26 : decode prog_45_method_8_code 26 = .ok (.iadd, 1) := by decide +kernel
theorem d1_27 : decode prog_45_method_8_code 27 = .ok (.i2c, 1) := by decide +kernel
theorem d1_28 : decode prog_45_method_8_code 28 = .ok (.castore, 1) := by decide +kernel
theorem d1_29 : decode prog_45_method_8_code 29 = .ok (.iload 4, 2) := by decide +kernel
theorem d1_31 : decode prog_45_method_8_code 31 = .ok (.bipush 10, 2) := by decide +kernel
theorem d1_33 : decode prog_45_method_8_code 33 = .ok (.idiv, 1) := by decide +kernel
theorem d1_34 : decode prog_45_method_8_code 34 = .ok (.istore 4, 2) := by decide +kernel
theorem d1_36 : decode prog_45_method_8_code 36 = .ok (.iinc 5 (-1), 3) := by decide +kernel
theorem d1_39 : decode prog_45_method_8_code 39 = .ok (.goto (-29), 3) := by decide +kernel
set_option maxRecDepth 65536 in
set_option maxHeartbeats 40000000 in
theorem own_turn {p : Program} {l : Launch} {e : Env} {R : Room} {s : State} {m : MethodId} {args : Array Value} {below : List Frame} {meth : Method} {c : Code} (Z : State) (a0 : Array Value) (hw : ∀ d ∈ tables_1, d.before a0 Z = true) (a1 : Addr) (p2 p3 p4 r i : Int32) (k : ClassId) (z : Int32) (vs : List Value) (dv : Value) (h0 : Heap) (n0 : Nat) (Z0 : n0 ≤ h0.size) (V1 : Arv Z h0 a1 k .char z vs dv) (g1 : n0 ≤ a1) (hge : ¬ i < p2) (hin : ¬ i < 0 ∧ i < z) (hl : i.toNatClampNeg < vs.length) {T0 : State} {locs : List Loc} {cells slots : Nat}
    (X0 : Stand p l e R s m args below meth c T0 locs cells slots) (hx : p.tables.exec = Jvm.exec) (hZ : Z.Warmed39 s.vm) (hby : c.code = prog_45_method_8_code) (hml : c.maxLocals = 6) (hown : s.vm.findClass "com/example/netsettle/netsettle/messages/Digits" = some m.cls) (e0 : T0.heap = h0) (N0 : Fr n0 locs) :
    ∃ (T' : State) (L' : List Loc) (h' : Heap), Stand p l e R s m args below meth c T' L' cells slots ∧ T'.heap = h' ∧ Fr n0 L' ∧ Keep h0 h' [a1] ∧ Arv Z h' a1 k .char z (vs.set i.toNatClampNeg (.int ((((48 : Int32) + (r - (r / (10 : Int32)) * (10 : Int32))).toUInt32.toUInt16.toUInt32.toInt32).toUInt32.toUInt16.toUInt32.toInt32))) dv ∧ ∀ t, Steps p.tables e below (T'.setTop (mkF m 10 #[.val (.ref a1), .val (.int p2), .val (.int p3), .val (.int p4), .val (.int (r / (10 : Int32))), .val (.int (i + (-1 : Int32)))] [])) t → Steps p.tables e below (T0.setTop (mkF m 10 #[.val (.ref a1), .val (.int p2), .val (.int p3), .val (.int p4), .val (.int r), .val (.int i)] [])) t := by
  have pre0 : ∀ t, Steps p.tables e below (T0.setTop (mkF m 10 #[.val (.ref a1), .val (.int p2), .val (.int p3), .val (.int p4), .val (.int r), .val (.int i)] [])) t → Steps p.tables e below (T0.setTop (mkF m 10 #[.val (.ref a1), .val (.int p2), .val (.int p3), .val (.int p4), .val (.int r), .val (.int i)] [])) t := fun t k => k
  have hc1 : ¬ (i < p2) := hge
  obtain ⟨c2, Arc2, Aqc2, Asc2, Anc2, Ahc2, Agc2⟩ := id V1
  have hin3 : ¬ (i < 0 ∨ c2.slots.size ≤ (i).toNatClampNeg) := inb_of Asc2 hin
  obtain ⟨T4, h4, X4, e4, W4, st4⟩ := stC X0 hx hZ e0 Arc2 (j := i) hin3 (g := (mkF m 28 #[.val (.ref a1), .val (.int p2), .val (.int p3), .val (.int p4), .val (.int r), .val (.int i)] [(.int (((48 : Int32) + (r - (r / (10 : Int32)) * (10 : Int32))).toUInt32.toUInt16.toUInt32.toInt32)), (.int i), (.ref a1)])) rfl rfl (hb hby d1_28)
  have KC5 : Keep h0 h4 [a1] := (Keep.refl h0 [a1]).wr W4 (Or.inl (List.mem_of_getElem? (i := 0) rfl))
  have V4 : Arv Z h4 a1 k .char z (vs.set (i).toNatClampNeg (.int (((48 : Int32) + (r - (r / (10 : Int32)) * (10 : Int32))).toUInt32.toUInt16.toUInt32.toInt32).toUInt32.toUInt16.toUInt32.toInt32)) dv := Arv.set Arc2 Aqc2 Asc2 Anc2 Ahc2 Agc2 (fits_nar_char _) W4 (i).toNatClampNeg rfl hl
  have N6 := Fr.snoc X4 N0 g1
  have pre7 : ∀ t, Steps p.tables e below (T4.setTop (mkF m 10 #[.val (.ref a1), .val (.int p2), .val (.int p3), .val (.int p4), .val (.int (r / (10 : Int32))), .val (.int (i + (-1 : Int32)))] [])) t → Steps p.tables e below (T0.setTop (mkF m 10 #[.val (.ref a1), .val (.int p2), .val (.int p3), .val (.int p4), .val (.int r), .val (.int i)] [])) t := by
    intro t k
    refine pre0 t ?_
    refine XS.iload X0.here hx rfl (hb hby d1_10) rfl ?_
    show Steps _ _ _ (T0.setTop (mkF m 12 #[.val (.ref a1), .val (.int p2), .val (.int p3), .val (.int p4), .val (.int r), .val (.int i)] [(.int i)])) _
    refine XS.iloadN X0.here hx rfl (hb hby d1_12) rfl ?_
    show Steps _ _ _ (T0.setTop (mkF m 13 #[.val (.ref a1), .val (.int p2), .val (.int p3), .val (.int p4), .val (.int r), .val (.int i)] [(.int p2), (.int i)])) _
    refine XS.icmpNo X0.here hx rfl (hb hby d1_13) rfl (flt hc1).1 ?_
    show Steps _ _ _ (T0.setTop (mkF m 16 #[.val (.ref a1), .val (.int p2), .val (.int p3), .val (.int p4), .val (.int r), .val (.int i)] [])) _
    refine XS.aloadN X0.here hx rfl (hb hby d1_16) rfl rfl ?_
    show Steps _ _ _ (T0.setTop (mkF m 17 #[.val (.ref a1), .val (.int p2), .val (.int p3), .val (.int p4), .val (.int r), .val (.int i)] [(.ref a1)])) _
    refine XS.iload X0.here hx rfl (hb hby d1_17) rfl ?_
    show Steps _ _ _ (T0.setTop (mkF m 19 #[.val (.ref a1), .val (.int p2), .val (.int p3), .val (.int p4), .val (.int r), .val (.int i)] [(.int i), (.ref a1)])) _
    refine XS.bipush X0.here hx rfl (hb hby d1_19) ?_
    show Steps _ _ _ (T0.setTop (mkF m 21 #[.val (.ref a1), .val (.int p2), .val (.int p3), .val (.int p4), .val (.int r), .val (.int i)] [(.int (48 : Int32)), (.int i), (.ref a1)])) _
    refine XS.iload X0.here hx rfl (hb hby d1_21) rfl ?_
    show Steps _ _ _ (T0.setTop (mkF m 23 #[.val (.ref a1), .val (.int p2), .val (.int p3), .val (.int p4), .val (.int r), .val (.int i)] [(.int r), (.int (48 : Int32)), (.int i), (.ref a1)])) _
    refine XS.bipush X0.here hx rfl (hb hby d1_23) ?_
    show Steps _ _ _ (T0.setTop (mkF m 25 #[.val (.ref a1), .val (.int p2), .val (.int p3), .val (.int p4), .val (.int r), .val (.int i)] [(.int (10 : Int32)), (.int r), (.int (48 : Int32)), (.int i), (.ref a1)])) _
    refine XS.irem X0.here hx rfl (hb hby d1_25) rfl (by decide) ?_
    show Steps _ _ _ (T0.setTop (mkF m 26 #[.val (.ref a1), .val (.int p2), .val (.int p3), .val (.int p4), .val (.int r), .val (.int i)] [(.int (r - (r / (10 : Int32)) * (10 : Int32))), (.int (48 : Int32)), (.int i), (.ref a1)])) _
    refine XS.iadd X0.here hx rfl (hb hby d1_26) rfl ?_
    show Steps _ _ _ (T0.setTop (mkF m 27 #[.val (.ref a1), .val (.int p2), .val (.int p3), .val (.int p4), .val (.int r), .val (.int i)] [(.int ((48 : Int32) + (r - (r / (10 : Int32)) * (10 : Int32)))), (.int i), (.ref a1)])) _
    refine XS.i2c X0.here hx rfl (hb hby d1_27) rfl ?_
    show Steps _ _ _ (T0.setTop (mkF m 28 #[.val (.ref a1), .val (.int p2), .val (.int p3), .val (.int p4), .val (.int r), .val (.int i)] [(.int (((48 : Int32) + (r - (r / (10 : Int32)) * (10 : Int32))).toUInt32.toUInt16.toUInt32.toInt32)), (.int i), (.ref a1)])) _
    refine st4 _ ?_
    show Steps _ _ _ (T4.setTop (mkF m 29 #[.val (.ref a1), .val (.int p2), .val (.int p3), .val (.int p4), .val (.int r), .val (.int i)] [])) _
    refine XS.iload X4.here hx rfl (hb hby d1_29) rfl ?_
    show Steps _ _ _ (T4.setTop (mkF m 31 #[.val (.ref a1), .val (.int p2), .val (.int p3), .val (.int p4), .val (.int r), .val (.int i)] [(.int r)])) _
    refine XS.bipush X4.here hx rfl (hb hby d1_31) ?_
    show Steps _ _ _ (T4.setTop (mkF m 33 #[.val (.ref a1), .val (.int p2), .val (.int p3), .val (.int p4), .val (.int r), .val (.int i)] [(.int (10 : Int32)), (.int r)])) _
    refine XS.idiv X4.here hx rfl (hb hby d1_33) rfl (by decide) ?_
    show Steps _ _ _ (T4.setTop (mkF m 34 #[.val (.ref a1), .val (.int p2), .val (.int p3), .val (.int p4), .val (.int r), .val (.int i)] [(.int (r / (10 : Int32)))])) _
    refine XS.istore X4.here hx rfl (hb hby d1_34) rfl (l' := #[.val (.ref a1), .val (.int p2), .val (.int p3), .val (.int p4), .val (.int (r / (10 : Int32))), .val (.int i)]) rfl ?_
    show Steps _ _ _ (T4.setTop (mkF m 36 #[.val (.ref a1), .val (.int p2), .val (.int p3), .val (.int p4), .val (.int (r / (10 : Int32))), .val (.int i)] [])) _
    refine XS.iinc X4.here hx rfl (hb hby d1_36) rfl (l' := #[.val (.ref a1), .val (.int p2), .val (.int p3), .val (.int p4), .val (.int (r / (10 : Int32))), .val (.int (i + (-1 : Int32)))]) rfl ?_
    show Steps _ _ _ (T4.setTop (mkF m 39 #[.val (.ref a1), .val (.int p2), .val (.int p3), .val (.int p4), .val (.int (r / (10 : Int32))), .val (.int (i + (-1 : Int32)))] [])) _
    refine XS.goto X4.here hx rfl (pc0 := 39) (pc' := 10) rfl (hb hby d1_39) (by decide) (by decide) ?_
    show Steps _ _ _ (T4.setTop (mkF m 10 #[.val (.ref a1), .val (.int p2), .val (.int p3), .val (.int p4), .val (.int (r / (10 : Int32))), .val (.int (i + (-1 : Int32)))] [])) _
    exact k
  exact ⟨T4, _, h4, X4, e4, N6, KC5, V4, pre7⟩
set_option maxRecDepth 65536 in
set_option maxHeartbeats 40000000 in
theorem own_exit {p : Program} {l : Launch} {e : Env} {R : Room} {s : State} {m : MethodId} {args : Array Value} {below : List Frame} {meth : Method} {c : Code} (Z : State) (a0 : Array Value) (hw : ∀ d ∈ tables_1, d.before a0 Z = true) (a1 : Addr) (p2 p3 p4 r i : Int32) (h0 : Heap) (n0 : Nat) (Z0 : n0 ≤ h0.size) (hlt : i < p2) {T0 : State} {locs : List Loc} {cells slots : Nat}
    (X0 : Stand p l e R s m args below meth c T0 locs cells slots) (hx : p.tables.exec = Jvm.exec) (hZ : Z.Warmed39 s.vm) (hby : c.code = prog_45_method_8_code) (hml : c.maxLocals = 6) (hown : s.vm.findClass "com/example/netsettle/netsettle/messages/Digits" = some m.cls) (e0 : T0.heap = h0) (N0 : Fr n0 locs) :
    ∃ (T' : State) (L' : List Loc) (h' : Heap), Stand p l e R s m args below meth c T' L' cells slots ∧ T'.heap = h' ∧ Fr n0 L' ∧ h' = h0 ∧ ∀ t, Steps p.tables e below (T'.setTop (mkF m 42 #[.val (.ref a1), .val (.int p2), .val (.int p3), .val (.int p4), .val (.int r), .val (.int i)] [])) t → Steps p.tables e below (T0.setTop (mkF m 10 #[.val (.ref a1), .val (.int p2), .val (.int p3), .val (.int p4), .val (.int r), .val (.int i)] [])) t := by
  have pre0 : ∀ t, Steps p.tables e below (T0.setTop (mkF m 10 #[.val (.ref a1), .val (.int p2), .val (.int p3), .val (.int p4), .val (.int r), .val (.int i)] [])) t → Steps p.tables e below (T0.setTop (mkF m 10 #[.val (.ref a1), .val (.int p2), .val (.int p3), .val (.int p4), .val (.int r), .val (.int i)] [])) t := fun t k => k
  have hc1 : i < p2 := hlt
  have pre2 : ∀ t, Steps p.tables e below (T0.setTop (mkF m 42 #[.val (.ref a1), .val (.int p2), .val (.int p3), .val (.int p4), .val (.int r), .val (.int i)] [])) t → Steps p.tables e below (T0.setTop (mkF m 10 #[.val (.ref a1), .val (.int p2), .val (.int p3), .val (.int p4), .val (.int r), .val (.int i)] [])) t := by
    intro t k
    refine pre0 t ?_
    refine XS.iload X0.here hx rfl (hb hby d1_10) rfl ?_
    show Steps _ _ _ (T0.setTop (mkF m 12 #[.val (.ref a1), .val (.int p2), .val (.int p3), .val (.int p4), .val (.int r), .val (.int i)] [(.int i)])) _
    refine XS.iloadN X0.here hx rfl (hb hby d1_12) rfl ?_
    show Steps _ _ _ (T0.setTop (mkF m 13 #[.val (.ref a1), .val (.int p2), .val (.int p3), .val (.int p4), .val (.int r), .val (.int i)] [(.int p2), (.int i)])) _
    refine XS.icmpYes X0.here hx rfl (pc0 := 13) (pc' := 42) rfl (hb hby d1_13) rfl (tlt hc1).1 (by decide) (by decide) ?_
    show Steps _ _ _ (T0.setTop (mkF m 42 #[.val (.ref a1), .val (.int p2), .val (.int p3), .val (.int p4), .val (.int r), .val (.int i)] [])) _
    exact k
  exact ⟨T0, _, h0, X0, e0, N0, rfl, pre2⟩
def own_ch (r : Int32) : Int32 := ((((48 : Int32) + (r - (r / (10 : Int32)) * (10 : Int32))).toUInt32.toUInt16.toUInt32.toInt32).toUInt32.toUInt16.toUInt32.toInt32)
def own_put : Nat → Int32 → Int32 → List Value → List Value
  | 0, _, _, vs => vs
  | n + 1, r, i, vs => own_put n (r / (10 : Int32)) (i + (-1 : Int32)) (vs.set i.toNatClampNeg (.int (own_ch r)))
theorem own_ltI {a b : Int32} (h : a.toInt < b.toInt) : a < b := by rw [Int32.lt_iff_toInt_lt]; exact h
theorem own_nltI {a b : Int32} (h : b.toInt ≤ a.toInt) : ¬ a < b := by rw [Int32.lt_iff_toInt_lt]; omega
theorem own_tn (a : Int32) : a.toNatClampNeg = a.toInt.toNat := rfl
theorem own_dec (i : Int32) (h : 0 ≤ i.toInt) : (i + (-1 : Int32)).toInt = i.toInt - 1 := by
  have a := c_iadd i (-1)
  have ra := rng32 (i + (-1 : Int32))
  have ri := rng32 i
  have lm : (-1 : Int32).toInt = -1 := rfl
  omega
theorem own_dec1 (p2 i : Int32) (n : Nat) (h : 0 ≤ i.toInt) (hi : i.toInt = p2.toInt + ((n + 1 : Nat) : Int) - 1) : (i + (-1 : Int32)).toInt = p2.toInt + (n : Int) - 1 := by rw [own_dec i h]; omega
theorem own_dec2 (z i : Int32) (h : 0 ≤ i.toInt) (hi : i.toInt < z.toInt) : (i + (-1 : Int32)).toInt < z.toInt := by rw [own_dec i h]; omega
set_option maxRecDepth 65536 in
set_option maxHeartbeats 40000000 in
theorem own_loop {p : Program} {l : Launch} {e : Env} {R : Room} {s : State} {m : MethodId} {args : Array Value} {below : List Frame} {meth : Method} {c : Code} (Z : State) (a0 : Array Value) (hw : ∀ d ∈ tables_1, d.before a0 Z = true)
    (a1 : Addr) (p2 p3 p4 : Int32) (k : ClassId) (z : Int32) (dv : Value) (n0 : Nat) (g1 : n0 ≤ a1) (hp : 0 ≤ p2.toInt) : ∀ (n : Nat) (r i : Int32) (vs : List Value) (h0 : Heap) (Z0 : n0 ≤ h0.size) (V1 : Arv Z h0 a1 k .char z vs dv) (hi : i.toInt = p2.toInt + n - 1) (hz : i.toInt < z.toInt) (hl : z.toNatClampNeg ≤ vs.length)
    {T0 : State} {locs : List Loc} {cells slots : Nat} (X0 : Stand p l e R s m args below meth c T0 locs cells slots) (hx : p.tables.exec = Jvm.exec) (hZ : Z.Warmed39 s.vm) (hby : c.code = prog_45_method_8_code) (hml : c.maxLocals = 6) (hown : s.vm.findClass "com/example/netsettle/netsettle/messages/Digits" = some m.cls) (e0 : T0.heap = h0) (N0 : Fr n0 locs),
    ∃ (T' : State) (L' : List Loc) (h' : Heap) (r' i' : Int32), Stand p l e R s m args below meth c T' L' cells slots ∧ T'.heap = h' ∧ Fr n0 L' ∧ Keep h0 h' [a1] ∧ Arv Z h' a1 k .char z (own_put n r i vs) dv ∧
      ∀ t, Steps p.tables e below (T'.setTop (mkF m 42 #[.val (.ref a1), .val (.int p2), .val (.int p3), .val (.int p4), .val (.int r'), .val (.int i')] [])) t → Steps p.tables e below (T0.setTop (mkF m 10 #[.val (.ref a1), .val (.int p2), .val (.int p3), .val (.int p4), .val (.int r), .val (.int i)] [])) t := by
  intro n
  induction n with
  | zero =>
    intro r i vs h0 Z0 V1 hi hz hl T0 locs cells slots X0 hx hZ hby hml hown e0 N0
    obtain ⟨T1, L1, h1, X1, e1, N1, rfl, st⟩ := own_exit Z a0 hw a1 p2 p3 p4 r i h0 n0 Z0 (own_ltI (by omega)) X0 hx hZ hby hml hown e0 N0
    exact ⟨T1, L1, _, r, i, X1, e1, N1, Keep.refl _ _, V1, st⟩
  | succ n ih =>
    intro r i vs h0 Z0 V1 hi hz hl T0 locs cells slots X0 hx hZ hby hml hown e0 N0
    have l0 : (0 : Int32).toInt = 0 := rfl
    have hi0 : 0 ≤ i.toInt := by omega
    obtain ⟨T1, L1, h1, X1, e1, N1, K1, V2, st⟩ := own_turn Z a0 hw a1 p2 p3 p4 r i k z vs dv h0 n0 Z0 V1 g1 (own_nltI (by omega)) ⟨own_nltI (by omega), own_ltI hz⟩ (by rw [own_tn]; rw [own_tn] at hl; omega) X0 hx hZ hby hml hown e0 N0
    obtain ⟨T2, L2, h2, r', i', X2, e2, N2, K2, V3, st2⟩ := ih (r / 10) (i + (-1)) _ h1 (Nat.le_trans Z0 K1.1) V2 (own_dec1 p2 i n hi0 hi) (own_dec2 z i hi0 hz) (by rw [List.length_set]; exact hl) X1 hx hZ hby hml hown e1 N1
    exact ⟨T2, L2, h2, r', i', X2, e2, N2, K1.trans K2 (allS (Or.inl (List.mem_of_getElem? (i := 0) rfl)) all0), V3, fun t q => st t (st2 t q)⟩
theorem own_i0 (p2 p3 z : Int32) (h1 : 0 ≤ p2.toInt) (h2 : 0 ≤ p3.toInt) (h3 : p2.toInt + p3.toInt ≤ z.toInt) : ((p2 + p3) - (1 : Int32)).toInt = p2.toInt + (p3.toInt.toNat : Nat) - 1 := by
  have a := c_iadd p2 p3
  have b := c_isub (p2 + p3) 1
  have r1 := rng32 (p2 + p3)
  have r2 := rng32 ((p2 + p3) - 1)
  have rz := rng32 z
  have l1 : (1 : Int32).toInt = 1 := rfl
  omega
theorem d1_0 : decode prog_45_method_8_code 0 = .ok (.iload_n 3, 1) := by decide +kernel
theorem d1_1 : decode prog_45_method_8_code 1 = .ok (.istore 4, 2) := by decide +kernel
theorem d1_3 : decode prog_45_method_8_code 3 = .ok (.iload_n 1, 1) := by decide +kernel
theorem d1_4 : decode prog_45_method_8_code 4 = .ok (.iload_n 2, 1) := by decide +kernel
theorem d1_5 : decode prog_45_method_8_code 5 = .ok (.iadd, 1) := by decide +kernel
theorem d1_6 : decode prog_45_method_8_code 6 = .ok (.iconst 1, 1) := by decide +kernel
theorem d1_7 : decode prog_45_method_8_code 7 = .ok (.isub, 1) := by decide +kernel
theorem d1_8 : decode prog_45_method_8_code 8 = .ok (.istore 5, 2) := by decide +kernel
theorem d1_42 : decode prog_45_method_8_code 42 = .ok (.return_, 1) := by decide +kernel
theorem pn_0 : plainName "com/example/netsettle/netsettle/messages/Digits" = true := by first | (simp [plainName, overriddenIn]; done) | decide +kernel
theorem ef_rm1 (m : MethodId) (x0 : Addr) (x1 : Int32) (x2 : Int32) (x3 : Int32) : entryFrame m #[(.ref x0), (.int x1), (.int x2), (.int x3)] 6 = mkF m 0 #[.val (.ref x0), .val (.int x1), .val (.int x2), .val (.int x3), .unset, .unset] [] := by first | (simp [entryFrame, mkF, argsToLocals, Value.category]; done) | rfl
def Q_rm1 (Z : State) (a1 : Addr) (p2 : Int32) (p3 : Int32) (p4 : Int32) (k : ClassId) (z : Int32) (vs : List Value) (dv : Value) (h0 : Heap) (n0 : Nat) (v : Option Value) (h : Heap) (L : List Loc) : Prop := v = none ∧ Fr n0 L ∧ Keep h0 h [a1] ∧ Arv Z h a1 k .char z (own_put p3.toInt.toNat p4 ((p2 + p3) - (1 : Int32)) vs) dv
set_option maxRecDepth 65536 in
set_option maxHeartbeats 40000000 in
theorem rm1 (l : Launch) (Z : State) (a0 : Array Value) (hw : ∀ d ∈ tables_1, d.before a0 Z = true) (ws : List Jvm.Cond) (a1 : Addr) (p2 : Int32) (p3 : Int32) (p4 : Int32) (k : ClassId) (z : Int32) (vs : List Value) (dv : Value) (h0 : Heap) (n0 : Nat) (Z0 : n0 ≤ h0.size) (V1 : Arv Z h0 a1 k .char z vs dv) (g1 : n0 ≤ a1) (hoff : 0 ≤ p2.toInt) (hwd : 0 ≤ p3.toInt) (hsum : p2.toInt + p3.toInt ≤ z.toInt) (hlen : z.toNatClampNeg ≤ vs.length) :
    MetFree l (⟨"com/example/netsettle/netsettle/messages/Digits", "put", "([CIII)V"⟩ : MethodName) (head1 (Jvm.Cond.code (⟨"com/example/netsettle/netsettle/messages/Digits", "put", "([CIII)V"⟩ : MethodName) prog_45_method_8_code 6 none :: ws) ({ frames := 0, cells := 0, slots := 0, locals := 0 } : Room)) (fun a U => a = #[(.ref a1), (.int p2), (.int p3), (.int p4)] ∧ Z.Warmed39 U.vm ∧ U.heap = h0) (fun _ _ _ _ _ => True) (fun _ U o U' => ∃ v L, o = .returned v ∧ Q_rm1 Z a1 p2 p3 p4 k z vs dv h0 n0 v U'.heap L ∧ FrameEnd U o U' L ({ frames := 0, cells := 0, slots := 0, locals := 0 } : Room).cells ({ frames := 0, cells := 0, slots := 0, locals := 0 } : Room).slots) := by
  refine MetFree.of_bodySF (plainFor_of_name pn_0) hisR ?_
  intro p e s m args below meth c s₁ Bd hml0 hP hK
  obtain ⟨rfl, hZ, hh⟩ := hP
  have hx := Bd.exec
  have hby := Bd.bytes
  have hml : c.maxLocals = 6 := hml0
  have hown : s.vm.findClass "com/example/netsettle/netsettle/messages/Digits" = some m.cls := findClass_of_methodNamed Bd.named
  have hnm := (name_of_methodNamed Bd.named Bd.method).1
  have X0 : Stand p l e ({ frames := 0, cells := 0, slots := 0, locals := 0 } : Room) s m #[(.ref a1), (.int p2), (.int p3), (.int p4)] below meth c s₁ [] 0 0 := Stand.of_body Bd
  have e0 : s₁.heap = h0 := by rw [← hh, Bd.state]; rfl
  have N0 := Fr.nil n0
  have pre0 : ∀ t, Steps p.tables e below (s₁.setTop (mkF m 0 #[.val (.ref a1), .val (.int p2), .val (.int p3), .val (.int p4), .unset, .unset] [])) t → Steps p.tables e below (s₁.setTop (entryFrame m #[(.ref a1), (.int p2), (.int p3), (.int p4)] 6)) t := fun t k => castTop (ef_rm1 m a1 p2 p3 p4) k
  have hi0 : ((p2 + p3) - (1 : Int32)).toInt = p2.toInt + (p3.toInt.toNat : Nat) - 1 := own_i0 p2 p3 z hoff hwd hsum
  have pre2 : ∀ t, Steps p.tables e below (s₁.setTop (mkF m 10 #[.val (.ref a1), .val (.int p2), .val (.int p3), .val (.int p4), .val (.int p4), .val (.int ((p2 + p3) - (1 : Int32)))] [])) t → Steps p.tables e below (s₁.setTop (entryFrame m #[(.ref a1), (.int p2), (.int p3), (.int p4)] 6)) t := by
    intro t k
    refine pre0 t ?_
    refine XS.iloadN X0.here hx rfl (hb hby d1_0) rfl ?_
    show Steps _ _ _ (s₁.setTop (mkF m 1 #[.val (.ref a1), .val (.int p2), .val (.int p3), .val (.int p4), .unset, .unset] [(.int p4)])) _
    refine XS.istore X0.here hx rfl (hb hby d1_1) rfl (l' := #[.val (.ref a1), .val (.int p2), .val (.int p3), .val (.int p4), .val (.int p4), .unset]) rfl ?_
    show Steps _ _ _ (s₁.setTop (mkF m 3 #[.val (.ref a1), .val (.int p2), .val (.int p3), .val (.int p4), .val (.int p4), .unset] [])) _
    refine XS.iloadN X0.here hx rfl (hb hby d1_3) rfl ?_
    show Steps _ _ _ (s₁.setTop (mkF m 4 #[.val (.ref a1), .val (.int p2), .val (.int p3), .val (.int p4), .val (.int p4), .unset] [(.int p2)])) _
    refine XS.iloadN X0.here hx rfl (hb hby d1_4) rfl ?_
    show Steps _ _ _ (s₁.setTop (mkF m 5 #[.val (.ref a1), .val (.int p2), .val (.int p3), .val (.int p4), .val (.int p4), .unset] [(.int p3), (.int p2)])) _
    refine XS.iadd X0.here hx rfl (hb hby d1_5) rfl ?_
    show Steps _ _ _ (s₁.setTop (mkF m 6 #[.val (.ref a1), .val (.int p2), .val (.int p3), .val (.int p4), .val (.int p4), .unset] [(.int (p2 + p3))])) _
    refine XS.iconst X0.here hx rfl (hb hby d1_6) ?_
    show Steps _ _ _ (s₁.setTop (mkF m 7 #[.val (.ref a1), .val (.int p2), .val (.int p3), .val (.int p4), .val (.int p4), .unset] [(.int (1 : Int32)), (.int (p2 + p3))])) _
    refine XS.isub X0.here hx rfl (hb hby d1_7) rfl ?_
    show Steps _ _ _ (s₁.setTop (mkF m 8 #[.val (.ref a1), .val (.int p2), .val (.int p3), .val (.int p4), .val (.int p4), .unset] [(.int ((p2 + p3) - (1 : Int32)))])) _
    refine XS.istore X0.here hx rfl (hb hby d1_8) rfl (l' := #[.val (.ref a1), .val (.int p2), .val (.int p3), .val (.int p4), .val (.int p4), .val (.int ((p2 + p3) - (1 : Int32)))]) rfl ?_
    show Steps _ _ _ (s₁.setTop (mkF m 10 #[.val (.ref a1), .val (.int p2), .val (.int p3), .val (.int p4), .val (.int p4), .val (.int ((p2 + p3) - (1 : Int32)))] [])) _
    exact k
  obtain ⟨T1, L1, h1, r9, i9, X1, e1, N1, Kl1, lf1_0, st1⟩ := own_loop Z a0 hw a1 p2 p3 p4 k z dv n0 g1 hoff p3.toInt.toNat p4 ((p2 + p3) - (1 : Int32)) vs h0 Z0 V1 hi0 (by rw [hi0]; omega) hlen (X0 := X0) hx hZ hby hml hown e0 N0
  have KC3 : Keep h0 h1 [a1] := (Keep.refl h0 [a1]).trans Kl1 (allS (Or.inl (List.mem_of_getElem? (i := 0) rfl)) all0)
  have pre4 : ∀ t, Steps p.tables e below (T1.setTop (mkF m 42 #[.val (.ref a1), .val (.int p2), .val (.int p3), .val (.int p4), .val (.int r9), .val (.int i9)] [])) t → Steps p.tables e below (s₁.setTop (entryFrame m #[(.ref a1), (.int p2), (.int p3), (.int p4)] 6)) t := by
    intro t k
    refine pre2 t ?_
    refine st1 _ ?_
    show Steps _ _ _ (T1.setTop (mkF m 42 #[.val (.ref a1), .val (.int p2), .val (.int p3), .val (.int p4), .val (.int r9), .val (.int i9)] [])) _
    exact k
  obtain ⟨fs, hr, hrun, hended, hW, hsame⟩ := X1.leave (v := none) (fun _ => rfl)
  refine ⟨_, _, pre4 _ ?_, hrun, hended, _, _, rfl, ?_, ⟨_, rfl⟩, hW, hsame.mono (by decide) (by decide)⟩
  · exact X1.returnOut hx Bd.returns (hb hby d1_42) hr
  · show Q_rm1 Z a1 p2 p3 p4 k z vs dv h0 n0 _ T1.heap _
    rw [e1]
    exact ⟨rfl, N1, KC3, lf1_0⟩
def own_p10 (j : Int32) : Int64 := match ([(.long (1 : Int64)), (.long (10 : Int64)), (.long (100 : Int64)), (.long (1000 : Int64)), (.long (10000 : Int64)), (.long (100000 : Int64)), (.long (1000000 : Int64)), (.long (10000000 : Int64)), (.long (100000000 : Int64)), (.long (1000000000 : Int64)), (.long (10000000000 : Int64)), (.long (100000000000 : Int64))] : List Value).getD j.toNatClampNeg (.long (0 : Int64)) with
  | .long x => x
  | _ => 0
theorem own_p10at (j : Int32) (h : 0 ≤ j.toInt ∧ j.toInt < 12) : (¬ j < 0 ∧ j < 12) ∧ ([(.long (1 : Int64)), (.long (10 : Int64)), (.long (100 : Int64)), (.long (1000 : Int64)), (.long (10000 : Int64)), (.long (100000 : Int64)), (.long (1000000 : Int64)), (.long (10000000 : Int64)), (.long (100000000 : Int64)), (.long (1000000000 : Int64)), (.long (10000000000 : Int64)), (.long (100000000000 : Int64))] : List Value).getD j.toNatClampNeg (.long (0 : Int64)) = .long (own_p10 j) ∧ own_p10 j ≠ 0 ∧ (own_p10 j).toInt = 10 ^ j.toInt.toNat := by
  have q : ∀ k : Fin 12, (¬ (Int32.ofInt (k.1 : Int)) < 0 ∧ (Int32.ofInt (k.1 : Int)) < 12) ∧ ([(.long (1 : Int64)), (.long (10 : Int64)), (.long (100 : Int64)), (.long (1000 : Int64)), (.long (10000 : Int64)), (.long (100000 : Int64)), (.long (1000000 : Int64)), (.long (10000000 : Int64)), (.long (100000000 : Int64)), (.long (1000000000 : Int64)), (.long (10000000000 : Int64)), (.long (100000000000 : Int64))] : List Value).getD (Int32.ofInt (k.1 : Int)).toNatClampNeg (.long (0 : Int64)) = .long (own_p10 (Int32.ofInt (k.1 : Int))) ∧ own_p10 (Int32.ofInt (k.1 : Int)) ≠ 0 ∧ (own_p10 (Int32.ofInt (k.1 : Int))).toInt = 10 ^ (Int32.ofInt (k.1 : Int)).toInt.toNat := by decide +kernel
  have r := q ⟨j.toInt.toNat, by omega⟩
  have e : Int32.ofInt ((j.toInt.toNat : Nat) : Int) = j := by rw [Int.toNat_of_nonneg h.1]; exact Int32.ofInt_toInt j
  rw [e] at r; exact r
def own_okc (p2 p3 p4 p5 : Int32) : Int32 := (((48 : Int32) + ((((p5.toInt64) / (own_p10 (((p3 + p4) - (1 : Int32)) - p2))) - (((p5.toInt64) / (own_p10 (((p3 + p4) - (1 : Int32)) - p2))) / (10 : Int64)) * (10 : Int64)).toInt32)).toUInt32.toUInt16.toUInt32.toInt32)
theorem own_jr (p2 p3 p4 : Int32) (h2 : 0 ≤ p2.toInt) (h3 : 0 ≤ p3.toInt) (h3' : p3.toInt ≤ 3) (h4 : 0 ≤ p4.toInt) (h4' : p4.toInt ≤ 12) (hA : ¬ p2 < p3) (hB : p2 < (p3 + p4)) : 0 ≤ ((((p3 + p4) - (1 : Int32)) - p2)).toInt ∧ ((((p3 + p4) - (1 : Int32)) - p2)).toInt < 12 ∧ ((((p3 + p4) - (1 : Int32)) - p2)).toInt = p3.toInt + p4.toInt - 1 - p2.toInt ∧ p2.toInt < p3.toInt + p4.toInt := by
  have a := c_iadd p3 p4
  have ra := rng32 (p3 + p4)
  have b := c_isub (p3 + p4) 1
  have rb := rng32 ((p3 + p4) - 1)
  have d := c_isub ((p3 + p4) - 1) p2
  have rd := rng32 (((p3 + p4) - (1 : Int32)) - p2)
  have l1 : (1 : Int32).toInt = 1 := rfl
  rw [Int32.lt_iff_toInt_lt] at hA hB
  omega
theorem d2_0 : decode method_3_code 0 = .ok (.iload_n 1, 1) := by decide +kernel
theorem d2_1 : decode method_3_code 1 = .ok (.iload_n 2, 1) := by decide +kernel
theorem d2_2 : decode method_3_code 2 = .ok (.if_icmp .lt 10, 3) := by decide +kernel
theorem d2_12 : decode method_3_code 12 = .ok (.aload_n 0, 1) := by decide +kernel
theorem d2_13 : decode method_3_code 13 = .ok (.iload_n 1, 1) := by decide +kernel
theorem d2_14 : decode method_3_code 14 = .ok (.caload, 1) := by decide +kernel
theorem d2_15 : decode method_3_code 15 = .ok (.iload 5, 2) := by decide +kernel
theorem d2_17 : decode method_3_code 17 = .ok (.if_icmp .ne 7, 3) := by decide +kernel
theorem d2_20 : decode method_3_code 20 = .ok (.iconst 1, 1) := by decide +kernel
theorem d2_21 : decode method_3_code 21 = .ok (.goto 4, 3) := by decide +kernel
theorem d2_25 : decode method_3_code 25 = .ok (.ireturn, 1) := by decide +kernel
theorem d2_5 : decode method_3_code 5 = .ok (.iload_n 1, 1) := by decide +kernel
theorem d2_6 : decode method_3_code 6 = .ok (.iload_n 2, 1) := by decide +kernel
theorem d2_7 : decode method_3_code 7 = .ok (.iload_n 3, 1) := by decide +kernel
theorem d2_8 : decode method_3_code 8 = .ok (.iadd, 1) := by decide +kernel
theorem d2_9 : decode method_3_code 9 = .ok (.if_icmp .lt 17, 3) := by decide +kernel
theorem d2_26 : decode method_3_code 26 = .ok (.iload_n 2, 1) := by decide +kernel
theorem d2_27 : decode method_3_code 27 = .ok (.iload_n 3, 1) := by decide +kernel
theorem d2_28 : decode method_3_code 28 = .ok (.iadd, 1) := by decide +kernel
theorem d2_29 : decode method_3_code 29 = .ok (.iconst 1, 1) := by decide +kernel
theorem d2_30 : decode method_3_code 30 = .ok (.isub, 1) := by decide +kernel
theorem d2_31 : decode method_3_code 31 = .ok (.iload_n 1, 1) := by decide +kernel
theorem d2_32 : decode method_3_code 32 = .ok (.isub, 1) := by decide +kernel
theorem d2_33 : decode method_3_code 33 = .ok (.istore 7, 2) := by decide +kernel
theorem d2_35 : decode method_3_code 35 = .ok (.iload 4, 2) := by decide +kernel
theorem d2_37 : decode method_3_code 37 = .ok (.i2l, 1) := by decide +kernel
theorem d2_38 : decode method_3_code 38 = .ok (.aload 6, 2) := by decide +kernel
theorem d2_40 : decode method_3_code 40 = .ok (.iload 7, 2) := by decide +kernel
theorem d2_42 : decode method_3_code 42 = .ok (.laload, 1) := by decide +kernel
theorem d2_43 : decode method_3_code 43 = .ok (.ldiv, 1) := by decide +kernel
theorem d2_44 : decode method_3_code 44 = .ok (.ldc2_w 8, 3) := by decide +kernel
theorem d2_47 : decode method_3_code 47 = .ok (.lrem, 1) := by decide +kernel
theorem d2_48 : decode method_3_code 48 = .ok (.lstore 8, 2) := by decide +kernel
theorem d2_50 : decode method_3_code 50 = .ok (.aload_n 0, 1) := by decide +kernel
theorem d2_51 : decode method_3_code 51 = .ok (.iload_n 1, 1) := by decide +kernel
theorem d2_52 : decode method_3_code 52 = .ok (.caload, 1) := by decide +kernel
theorem d2_53 : decode method_3_code 53 = .ok (.bipush 48, 2) := by decide +kernel
theorem d2_55 : decode method_3_code 55 = .ok (.lload 8, 2) := by decide +kernel
theorem d2_57 : decode method_3_code 57 = .ok (.l2i, 1) := by decide +kernel
theorem d2_58 : decode method_3_code 58 = .ok (.iadd, 1) := by decide +kernel
theorem d2_59 : decode method_3_code 59 = .ok (.i2c, 1) := by decide +kernel
theorem d2_60 : decode method_3_code 60 = .ok (.if_icmp .ne 7, 3) := by decide +kernel
theorem d2_63 : decode method_3_code 63 = .ok (.iconst 1, 1) := by decide +kernel
theorem d2_64 : decode method_3_code 64 = .ok (.goto 4, 3) := by decide +kernel
theorem d2_68 : decode method_3_code 68 = .ok (.ireturn, 1) := by decide +kernel
theorem pn_1 : plainName "com/example/netsettle/netsettle/messages/DigitsPutPinLaw" = true := by first | (simp [plainName, overriddenIn]; done) | decide +kernel
theorem ef_rm2 (m : MethodId) (x0 : Addr) (x1 : Int32) (x2 : Int32) (x3 : Int32) (x4 : Int32) (x5 : Int32) (x6 : Addr) : entryFrame m #[(.ref x0), (.int x1), (.int x2), (.int x3), (.int x4), (.int x5), (.ref x6)] 10 = mkF m 0 #[.val (.ref x0), .val (.int x1), .val (.int x2), .val (.int x3), .val (.int x4), .val (.int x5), .val (.ref x6), .unset, .unset, .unset] [] := by first | (simp [entryFrame, mkF, argsToLocals, Value.category]; done) | rfl
def Q_rm2 (Z : State) (a1 : Addr) (p2 : Int32) (p3 : Int32) (p4 : Int32) (p5 : Int32) (p6 : Int32) (a7 : Addr) (k : ClassId) (z : Int32) (vs : List Value) (dv : Value) (k7 : ClassId) (cc : Int32) (h0 : Heap) (n0 : Nat) (v : Option Value) (h : Heap) (L : List Loc) : Prop := v = some (.int (1 : Int32)) ∧ Fr n0 L ∧ h = h0
set_option maxRecDepth 65536 in
set_option maxHeartbeats 40000000 in
theorem rm2 (l : Launch) (Z : State) (a0 : Array Value) (hw : ∀ d ∈ tables_1, d.before a0 Z = true) (ws : List Jvm.Cond) (a1 : Addr) (p2 : Int32) (p3 : Int32) (p4 : Int32) (p5 : Int32) (p6 : Int32) (a7 : Addr) (k : ClassId) (z : Int32) (vs : List Value) (dv : Value) (k7 : ClassId) (cc : Int32) (h0 : Heap) (n0 : Nat) (Z0 : n0 ≤ h0.size) (V1 : Arv Z h0 a1 k .char z vs dv) (V7 : Arv Z h0 a7 k7 .long (12 : Int32) [(.long (1 : Int64)), (.long (10 : Int64)), (.long (100 : Int64)), (.long (1000 : Int64)), (.long (10000 : Int64)), (.long (100000 : Int64)), (.long (1000000 : Int64)), (.long (10000000 : Int64)), (.long (100000000 : Int64)), (.long (1000000000 : Int64)), (.long (10000000000 : Int64)), (.long (100000000000 : Int64))] (.long (0 : Int64))) (hat : vs.getD p2.toNatClampNeg dv = (.int cc)) (hin : ¬ p2 < 0 ∧ p2 < z) (h2 : 0 ≤ p2.toInt) (h3 : 0 ≤ p3.toInt ∧ p3.toInt ≤ 3) (h4 : 0 ≤ p4.toInt ∧ p4.toInt ≤ 12) (hf : (p2 < p3 ∨ ¬ p2 < (p3 + p4)) → cc = p6) (hd : ¬ p2 < p3 → p2 < (p3 + p4) → cc = own_okc p2 p3 p4 p5) :
    MetFree l (⟨"com/example/netsettle/netsettle/messages/DigitsPutPinLaw", "ok", "([CIIIIC[J)Z"⟩ : MethodName) (head1 (Jvm.Cond.code (⟨"com/example/netsettle/netsettle/messages/DigitsPutPinLaw", "ok", "([CIIIIC[J)Z"⟩ : MethodName) method_3_code 10 (some .boolean) :: ws) ({ frames := 0, cells := 0, slots := 0, locals := 0 } : Room)) (fun a U => a = #[(.ref a1), (.int p2), (.int p3), (.int p4), (.int p5), (.int p6), (.ref a7)] ∧ Z.Warmed39 U.vm ∧ U.heap = h0) (fun _ _ _ _ _ => True) (fun _ U o U' => ∃ v L, o = .returned v ∧ Q_rm2 Z a1 p2 p3 p4 p5 p6 a7 k z vs dv k7 cc h0 n0 v U'.heap L ∧ FrameEnd U o U' L ({ frames := 0, cells := 0, slots := 0, locals := 0 } : Room).cells ({ frames := 0, cells := 0, slots := 0, locals := 0 } : Room).slots) := by
  refine MetFree.of_bodySF (plainFor_of_name pn_1) hisR ?_
  intro p e s m args below meth c s₁ Bd hml0 hP hK
  obtain ⟨rfl, hZ, hh⟩ := hP
  have hx := Bd.exec
  have hby := Bd.bytes
  have hml : c.maxLocals = 10 := hml0
  have hown : s.vm.findClass "com/example/netsettle/netsettle/messages/DigitsPutPinLaw" = some m.cls := findClass_of_methodNamed Bd.named
  have hnm := (name_of_methodNamed Bd.named Bd.method).1
  have X0 : Stand p l e ({ frames := 0, cells := 0, slots := 0, locals := 0 } : Room) s m #[(.ref a1), (.int p2), (.int p3), (.int p4), (.int p5), (.int p6), (.ref a7)] below meth c s₁ [] 0 0 := Stand.of_body Bd
  have e0 : s₁.heap = h0 := by rw [← hh, Bd.state]; rfl
  have N0 := Fr.nil n0
  have pre0 : ∀ t, Steps p.tables e below (s₁.setTop (mkF m 0 #[.val (.ref a1), .val (.int p2), .val (.int p3), .val (.int p4), .val (.int p5), .val (.int p6), .val (.ref a7), .unset, .unset, .unset] [])) t → Steps p.tables e below (s₁.setTop (entryFrame m #[(.ref a1), (.int p2), (.int p3), (.int p4), (.int p5), (.int p6), (.ref a7)] 10)) t := fun t k => castTop (ef_rm2 m a1 p2 p3 p4 p5 p6 a7) k
  have pre1 : ∀ t, Steps p.tables e below (s₁.setTop (mkF m 2 #[.val (.ref a1), .val (.int p2), .val (.int p3), .val (.int p4), .val (.int p5), .val (.int p6), .val (.ref a7), .unset, .unset, .unset] [(.int p3), (.int p2)])) t → Steps p.tables e below (s₁.setTop (entryFrame m #[(.ref a1), (.int p2), (.int p3), (.int p4), (.int p5), (.int p6), (.ref a7)] 10)) t := by
    intro t k
    refine pre0 t ?_
    refine XS.iloadN X0.here hx rfl (hb hby d2_0) rfl ?_
    show Steps _ _ _ (s₁.setTop (mkF m 1 #[.val (.ref a1), .val (.int p2), .val (.int p3), .val (.int p4), .val (.int p5), .val (.int p6), .val (.ref a7), .unset, .unset, .unset] [(.int p2)])) _
    refine XS.iloadN X0.here hx rfl (hb hby d2_1) rfl ?_
    show Steps _ _ _ (s₁.setTop (mkF m 2 #[.val (.ref a1), .val (.int p2), .val (.int p3), .val (.int p4), .val (.int p5), .val (.int p6), .val (.ref a7), .unset, .unset, .unset] [(.int p3), (.int p2)])) _
    exact k
  by_cases hA : p2 < p3
  · obtain ⟨c2, Arc2, Aqc2, Asc2, Anc2, Ahc2, Agc2⟩ := id V1
    have hin3 : ¬ (p2 < 0 ∨ c2.slots.size ≤ (p2).toNatClampNeg) := inb_of Asc2 hin
    have hat4 : c2.slots[(p2).toNatClampNeg]? = some (.int cc) := Has.at Ahc2 hin3 hat
    have hc5 : cc = p6 := hf (Or.inl hA)
    have pre6 : ∀ t, Steps p.tables e below (s₁.setTop (mkF m 25 #[.val (.ref a1), .val (.int p2), .val (.int p3), .val (.int p4), .val (.int p5), .val (.int p6), .val (.ref a7), .unset, .unset, .unset] [(.int (1 : Int32))])) t → Steps p.tables e below (s₁.setTop (entryFrame m #[(.ref a1), (.int p2), (.int p3), (.int p4), (.int p5), (.int p6), (.ref a7)] 10)) t := by
      intro t k
      refine pre1 t ?_
      refine XS.icmpYes X0.here hx rfl (pc0 := 2) (pc' := 12) rfl (hb hby d2_2) rfl (tlt hA).1 (by decide) (by decide) ?_
      show Steps _ _ _ (s₁.setTop (mkF m 12 #[.val (.ref a1), .val (.int p2), .val (.int p3), .val (.int p4), .val (.int p5), .val (.int p6), .val (.ref a7), .unset, .unset, .unset] [])) _
      refine XS.aloadN X0.here hx rfl (hb hby d2_12) rfl rfl ?_
      show Steps _ _ _ (s₁.setTop (mkF m 13 #[.val (.ref a1), .val (.int p2), .val (.int p3), .val (.int p4), .val (.int p5), .val (.int p6), .val (.ref a7), .unset, .unset, .unset] [(.ref a1)])) _
      refine XS.iloadN X0.here hx rfl (hb hby d2_13) rfl ?_
      show Steps _ _ _ (s₁.setTop (mkF m 14 #[.val (.ref a1), .val (.int p2), .val (.int p3), .val (.int p4), .val (.int p5), .val (.int p6), .val (.ref a7), .unset, .unset, .unset] [(.int p2), (.ref a1)])) _
      refine X0.caload hx (j := p2) (v := (.int cc)) (by rw [e0]; exact Arc2.1) (State.isArrayOf_alike hZ.alike Arc2.2.1) Arc2.2.2 hin3 hat4 (g := (mkF m 14 #[.val (.ref a1), .val (.int p2), .val (.int p3), .val (.int p4), .val (.int p5), .val (.int p6), .val (.ref a7), .unset, .unset, .unset] [(.int p2), (.ref a1)])) rfl rfl (hb hby d2_14) _ ?_
      show Steps _ _ _ (s₁.setTop (mkF m 15 #[.val (.ref a1), .val (.int p2), .val (.int p3), .val (.int p4), .val (.int p5), .val (.int p6), .val (.ref a7), .unset, .unset, .unset] [(.int cc)])) _
      refine XS.iload X0.here hx rfl (hb hby d2_15) rfl ?_
      show Steps _ _ _ (s₁.setTop (mkF m 17 #[.val (.ref a1), .val (.int p2), .val (.int p3), .val (.int p4), .val (.int p5), .val (.int p6), .val (.ref a7), .unset, .unset, .unset] [(.int p6), (.int cc)])) _
      refine XS.icmpNo X0.here hx rfl (hb hby d2_17) rfl (teq hc5).2 ?_
      show Steps _ _ _ (s₁.setTop (mkF m 20 #[.val (.ref a1), .val (.int p2), .val (.int p3), .val (.int p4), .val (.int p5), .val (.int p6), .val (.ref a7), .unset, .unset, .unset] [])) _
      refine XS.iconst X0.here hx rfl (hb hby d2_20) ?_
      show Steps _ _ _ (s₁.setTop (mkF m 21 #[.val (.ref a1), .val (.int p2), .val (.int p3), .val (.int p4), .val (.int p5), .val (.int p6), .val (.ref a7), .unset, .unset, .unset] [(.int (1 : Int32))])) _
      refine XS.goto X0.here hx rfl (pc0 := 21) (pc' := 25) rfl (hb hby d2_21) (by decide) (by decide) ?_
      show Steps _ _ _ (s₁.setTop (mkF m 25 #[.val (.ref a1), .val (.int p2), .val (.int p3), .val (.int p4), .val (.int p5), .val (.int p6), .val (.ref a7), .unset, .unset, .unset] [(.int (1 : Int32))])) _
      exact k
    obtain ⟨fs, hr, hrun, hended, hW, hsame⟩ := X0.leave (v := some (.int (1 : Int32))) (fun h => by rw [Bd.returns] at h; cases h)
    refine ⟨_, _, pre6 _ ?_, hrun, hended, _, _, rfl, ?_, ⟨_, rfl⟩, hW, hsame.mono (by decide) (by decide)⟩
    · exact retN X0 hx (t := .boolean) Bd.returns (by simp) (hb hby d2_25) hr
    · show Q_rm2 Z a1 p2 p3 p4 p5 p6 a7 k z vs dv k7 cc h0 n0 _ s₁.heap _
      rw [e0]
      exact ⟨rfl, N0, rfl⟩
  · have pre7 : ∀ t, Steps p.tables e below (s₁.setTop (mkF m 9 #[.val (.ref a1), .val (.int p2), .val (.int p3), .val (.int p4), .val (.int p5), .val (.int p6), .val (.ref a7), .unset, .unset, .unset] [(.int (p3 + p4)), (.int p2)])) t → Steps p.tables e below (s₁.setTop (entryFrame m #[(.ref a1), (.int p2), (.int p3), (.int p4), (.int p5), (.int p6), (.ref a7)] 10)) t := by
      intro t k
      refine pre1 t ?_
      refine XS.icmpNo X0.here hx rfl (hb hby d2_2) rfl (flt hA).1 ?_
      show Steps _ _ _ (s₁.setTop (mkF m 5 #[.val (.ref a1), .val (.int p2), .val (.int p3), .val (.int p4), .val (.int p5), .val (.int p6), .val (.ref a7), .unset, .unset, .unset] [])) _
      refine XS.iloadN X0.here hx rfl (hb hby d2_5) rfl ?_
      show Steps _ _ _ (s₁.setTop (mkF m 6 #[.val (.ref a1), .val (.int p2), .val (.int p3), .val (.int p4), .val (.int p5), .val (.int p6), .val (.ref a7), .unset, .unset, .unset] [(.int p2)])) _
      refine XS.iloadN X0.here hx rfl (hb hby d2_6) rfl ?_
      show Steps _ _ _ (s₁.setTop (mkF m 7 #[.val (.ref a1), .val (.int p2), .val (.int p3), .val (.int p4), .val (.int p5), .val (.int p6), .val (.ref a7), .unset, .unset, .unset] [(.int p3), (.int p2)])) _
      refine XS.iloadN X0.here hx rfl (hb hby d2_7) rfl ?_
      show Steps _ _ _ (s₁.setTop (mkF m 8 #[.val (.ref a1), .val (.int p2), .val (.int p3), .val (.int p4), .val (.int p5), .val (.int p6), .val (.ref a7), .unset, .unset, .unset] [(.int p4), (.int p3), (.int p2)])) _
      refine XS.iadd X0.here hx rfl (hb hby d2_8) rfl ?_
      show Steps _ _ _ (s₁.setTop (mkF m 9 #[.val (.ref a1), .val (.int p2), .val (.int p3), .val (.int p4), .val (.int p5), .val (.int p6), .val (.ref a7), .unset, .unset, .unset] [(.int (p3 + p4)), (.int p2)])) _
      exact k
    by_cases hB : p2 < (p3 + p4)
    · obtain ⟨c8, Arc8, Aqc8, Asc8, Anc8, Ahc8, Agc8⟩ := id V7
      have hin9 : ¬ ((((p3 + p4) - (1 : Int32)) - p2) < 0 ∨ c8.slots.size ≤ ((((p3 + p4) - (1 : Int32)) - p2)).toNatClampNeg) := inb_of Asc8 (own_p10at _ ⟨(own_jr p2 p3 p4 h2 h3.1 h3.2 h4.1 h4.2 hA hB).1, (own_jr p2 p3 p4 h2 h3.1 h3.2 h4.1 h4.2 hA hB).2.1⟩).1
      have hat10 : c8.slots[((((p3 + p4) - (1 : Int32)) - p2)).toNatClampNeg]? = some (.long (own_p10 (((p3 + p4) - (1 : Int32)) - p2))) := Has.at Ahc8 hin9 (own_p10at _ ⟨(own_jr p2 p3 p4 h2 h3.1 h3.2 h4.1 h4.2 hA hB).1, (own_jr p2 p3 p4 h2 h3.1 h3.2 h4.1 h4.2 hA hB).2.1⟩).2.1
      obtain ⟨c11, Arc11, Aqc11, Asc11, Anc11, Ahc11, Agc11⟩ := id V1
      have hin12 : ¬ (p2 < 0 ∨ c11.slots.size ≤ (p2).toNatClampNeg) := inb_of Asc11 hin
      have hat13 : c11.slots[(p2).toNatClampNeg]? = some (.int cc) := Has.at Ahc11 hin12 hat
      have hc14 : cc = (((48 : Int32) + ((((p5.toInt64) / (own_p10 (((p3 + p4) - (1 : Int32)) - p2))) - (((p5.toInt64) / (own_p10 (((p3 + p4) - (1 : Int32)) - p2))) / (10 : Int64)) * (10 : Int64)).toInt32)).toUInt32.toUInt16.toUInt32.toInt32) := hd hA hB
      have pre15 : ∀ t, Steps p.tables e below (s₁.setTop (mkF m 68 #[.val (.ref a1), .val (.int p2), .val (.int p3), .val (.int p4), .val (.int p5), .val (.int p6), .val (.ref a7), .val (.int (((p3 + p4) - (1 : Int32)) - p2)), .val (.long (((p5.toInt64) / (own_p10 (((p3 + p4) - (1 : Int32)) - p2))) - (((p5.toInt64) / (own_p10 (((p3 + p4) - (1 : Int32)) - p2))) / (10 : Int64)) * (10 : Int64))), .second] [(.int (1 : Int32))])) t → Steps p.tables e below (s₁.setTop (entryFrame m #[(.ref a1), (.int p2), (.int p3), (.int p4), (.int p5), (.int p6), (.ref a7)] 10)) t := by
        intro t k
        refine pre7 t ?_
        refine XS.icmpYes X0.here hx rfl (pc0 := 9) (pc' := 26) rfl (hb hby d2_9) rfl (tlt hB).1 (by decide) (by decide) ?_
        show Steps _ _ _ (s₁.setTop (mkF m 26 #[.val (.ref a1), .val (.int p2), .val (.int p3), .val (.int p4), .val (.int p5), .val (.int p6), .val (.ref a7), .unset, .unset, .unset] [])) _
        refine XS.iloadN X0.here hx rfl (hb hby d2_26) rfl ?_
        show Steps _ _ _ (s₁.setTop (mkF m 27 #[.val (.ref a1), .val (.int p2), .val (.int p3), .val (.int p4), .val (.int p5), .val (.int p6), .val (.ref a7), .unset, .unset, .unset] [(.int p3)])) _
        refine XS.iloadN X0.here hx rfl (hb hby d2_27) rfl ?_
        show Steps _ _ _ (s₁.setTop (mkF m 28 #[.val (.ref a1), .val (.int p2), .val (.int p3), .val (.int p4), .val (.int p5), .val (.int p6), .val (.ref a7), .unset, .unset, .unset] [(.int p4), (.int p3)])) _
        refine XS.iadd X0.here hx rfl (hb hby d2_28) rfl ?_
        show Steps _ _ _ (s₁.setTop (mkF m 29 #[.val (.ref a1), .val (.int p2), .val (.int p3), .val (.int p4), .val (.int p5), .val (.int p6), .val (.ref a7), .unset, .unset, .unset] [(.int (p3 + p4))])) _
        refine XS.iconst X0.here hx rfl (hb hby d2_29) ?_
        show Steps _ _ _ (s₁.setTop (mkF m 30 #[.val (.ref a1), .val (.int p2), .val (.int p3), .val (.int p4), .val (.int p5), .val (.int p6), .val (.ref a7), .unset, .unset, .unset] [(.int (1 : Int32)), (.int (p3 + p4))])) _
        refine XS.isub X0.here hx rfl (hb hby d2_30) rfl ?_
        show Steps _ _ _ (s₁.setTop (mkF m 31 #[.val (.ref a1), .val (.int p2), .val (.int p3), .val (.int p4), .val (.int p5), .val (.int p6), .val (.ref a7), .unset, .unset, .unset] [(.int ((p3 + p4) - (1 : Int32)))])) _
        refine XS.iloadN X0.here hx rfl (hb hby d2_31) rfl ?_
        show Steps _ _ _ (s₁.setTop (mkF m 32 #[.val (.ref a1), .val (.int p2), .val (.int p3), .val (.int p4), .val (.int p5), .val (.int p6), .val (.ref a7), .unset, .unset, .unset] [(.int p2), (.int ((p3 + p4) - (1 : Int32)))])) _
        refine XS.isub X0.here hx rfl (hb hby d2_32) rfl ?_
        show Steps _ _ _ (s₁.setTop (mkF m 33 #[.val (.ref a1), .val (.int p2), .val (.int p3), .val (.int p4), .val (.int p5), .val (.int p6), .val (.ref a7), .unset, .unset, .unset] [(.int (((p3 + p4) - (1 : Int32)) - p2))])) _
        refine XS.istore X0.here hx rfl (hb hby d2_33) rfl (l' := #[.val (.ref a1), .val (.int p2), .val (.int p3), .val (.int p4), .val (.int p5), .val (.int p6), .val (.ref a7), .val (.int (((p3 + p4) - (1 : Int32)) - p2)), .unset, .unset]) rfl ?_
        show Steps _ _ _ (s₁.setTop (mkF m 35 #[.val (.ref a1), .val (.int p2), .val (.int p3), .val (.int p4), .val (.int p5), .val (.int p6), .val (.ref a7), .val (.int (((p3 + p4) - (1 : Int32)) - p2)), .unset, .unset] [])) _
        refine XS.iload X0.here hx rfl (hb hby d2_35) rfl ?_
        show Steps _ _ _ (s₁.setTop (mkF m 37 #[.val (.ref a1), .val (.int p2), .val (.int p3), .val (.int p4), .val (.int p5), .val (.int p6), .val (.ref a7), .val (.int (((p3 + p4) - (1 : Int32)) - p2)), .unset, .unset] [(.int p5)])) _
        refine XS.i2l X0.here hx rfl (hb hby d2_37) rfl ?_
        show Steps _ _ _ (s₁.setTop (mkF m 38 #[.val (.ref a1), .val (.int p2), .val (.int p3), .val (.int p4), .val (.int p5), .val (.int p6), .val (.ref a7), .val (.int (((p3 + p4) - (1 : Int32)) - p2)), .unset, .unset] [(.long (p5.toInt64))])) _
        refine XS.aload X0.here hx rfl (hb hby d2_38) rfl rfl ?_
        show Steps _ _ _ (s₁.setTop (mkF m 40 #[.val (.ref a1), .val (.int p2), .val (.int p3), .val (.int p4), .val (.int p5), .val (.int p6), .val (.ref a7), .val (.int (((p3 + p4) - (1 : Int32)) - p2)), .unset, .unset] [(.ref a7), (.long (p5.toInt64))])) _
        refine XS.iload X0.here hx rfl (hb hby d2_40) rfl ?_
        show Steps _ _ _ (s₁.setTop (mkF m 42 #[.val (.ref a1), .val (.int p2), .val (.int p3), .val (.int p4), .val (.int p5), .val (.int p6), .val (.ref a7), .val (.int (((p3 + p4) - (1 : Int32)) - p2)), .unset, .unset] [(.int (((p3 + p4) - (1 : Int32)) - p2)), (.ref a7), (.long (p5.toInt64))])) _
        refine X0.laload hx (j := (((p3 + p4) - (1 : Int32)) - p2)) (v := (.long (own_p10 (((p3 + p4) - (1 : Int32)) - p2)))) (by rw [e0]; exact Arc8.1) (State.isArrayOf_alike hZ.alike Arc8.2.1) Arc8.2.2 hin9 hat10 (g := (mkF m 42 #[.val (.ref a1), .val (.int p2), .val (.int p3), .val (.int p4), .val (.int p5), .val (.int p6), .val (.ref a7), .val (.int (((p3 + p4) - (1 : Int32)) - p2)), .unset, .unset] [(.int (((p3 + p4) - (1 : Int32)) - p2)), (.ref a7), (.long (p5.toInt64))])) rfl rfl (hb hby d2_42) _ ?_
        show Steps _ _ _ (s₁.setTop (mkF m 43 #[.val (.ref a1), .val (.int p2), .val (.int p3), .val (.int p4), .val (.int p5), .val (.int p6), .val (.ref a7), .val (.int (((p3 + p4) - (1 : Int32)) - p2)), .unset, .unset] [(.long (own_p10 (((p3 + p4) - (1 : Int32)) - p2))), (.long (p5.toInt64))])) _
        refine XS.ldiv X0.here hx rfl (hb hby d2_43) rfl (own_p10at _ ⟨(own_jr p2 p3 p4 h2 h3.1 h3.2 h4.1 h4.2 hA hB).1, (own_jr p2 p3 p4 h2 h3.1 h3.2 h4.1 h4.2 hA hB).2.1⟩).2.2.1 ?_
        show Steps _ _ _ (s₁.setTop (mkF m 44 #[.val (.ref a1), .val (.int p2), .val (.int p3), .val (.int p4), .val (.int p5), .val (.int p6), .val (.ref a7), .val (.int (((p3 + p4) - (1 : Int32)) - p2)), .unset, .unset] [(.long ((p5.toInt64) / (own_p10 (((p3 + p4) - (1 : Int32)) - p2))))])) _
        refine X0.ldc2Long hx hown (mvT hZ (hw _ (List.mem_of_getElem? (i := 3) rfl))) (g := (mkF m 44 #[.val (.ref a1), .val (.int p2), .val (.int p3), .val (.int p4), .val (.int p5), .val (.int p6), .val (.ref a7), .val (.int (((p3 + p4) - (1 : Int32)) - p2)), .unset, .unset] [(.long ((p5.toInt64) / (own_p10 (((p3 + p4) - (1 : Int32)) - p2))))])) rfl (hb hby d2_44) _ ?_
        show Steps _ _ _ (s₁.setTop (mkF m 47 #[.val (.ref a1), .val (.int p2), .val (.int p3), .val (.int p4), .val (.int p5), .val (.int p6), .val (.ref a7), .val (.int (((p3 + p4) - (1 : Int32)) - p2)), .unset, .unset] [(.long (10 : Int64)), (.long ((p5.toInt64) / (own_p10 (((p3 + p4) - (1 : Int32)) - p2))))])) _
        refine XS.lrem X0.here hx rfl (hb hby d2_47) rfl (by decide) ?_
        show Steps _ _ _ (s₁.setTop (mkF m 48 #[.val (.ref a1), .val (.int p2), .val (.int p3), .val (.int p4), .val (.int p5), .val (.int p6), .val (.ref a7), .val (.int (((p3 + p4) - (1 : Int32)) - p2)), .unset, .unset] [(.long (((p5.toInt64) / (own_p10 (((p3 + p4) - (1 : Int32)) - p2))) - (((p5.toInt64) / (own_p10 (((p3 + p4) - (1 : Int32)) - p2))) / (10 : Int64)) * (10 : Int64)))])) _
        refine XS.lstore X0.here hx rfl (hb hby d2_48) rfl (l' := #[.val (.ref a1), .val (.int p2), .val (.int p3), .val (.int p4), .val (.int p5), .val (.int p6), .val (.ref a7), .val (.int (((p3 + p4) - (1 : Int32)) - p2)), .val (.long (((p5.toInt64) / (own_p10 (((p3 + p4) - (1 : Int32)) - p2))) - (((p5.toInt64) / (own_p10 (((p3 + p4) - (1 : Int32)) - p2))) / (10 : Int64)) * (10 : Int64))), .second]) rfl ?_
        show Steps _ _ _ (s₁.setTop (mkF m 50 #[.val (.ref a1), .val (.int p2), .val (.int p3), .val (.int p4), .val (.int p5), .val (.int p6), .val (.ref a7), .val (.int (((p3 + p4) - (1 : Int32)) - p2)), .val (.long (((p5.toInt64) / (own_p10 (((p3 + p4) - (1 : Int32)) - p2))) - (((p5.toInt64) / (own_p10 (((p3 + p4) - (1 : Int32)) - p2))) / (10 : Int64)) * (10 : Int64))), .second] [])) _
        refine XS.aloadN X0.here hx rfl (hb hby d2_50) rfl rfl ?_
        show Steps _ _ _ (s₁.setTop (mkF m 51 #[.val (.ref a1), .val (.int p2), .val (.int p3), .val (.int p4), .val (.int p5), .val (.int p6), .val (.ref a7), .val (.int (((p3 + p4) - (1 : Int32)) - p2)), .val (.long (((p5.toInt64) / (own_p10 (((p3 + p4) - (1 : Int32)) - p2))) - (((p5.toInt64) / (own_p10 (((p3 + p4) - (1 : Int32)) - p2))) / (10 : Int64)) * (10 : Int64))), .second] [(.ref a1)])) _
        refine XS.iloadN X0.here hx rfl (hb hby d2_51) rfl ?_
        show Steps _ _ _ (s₁.setTop (mkF m 52 #[.val (.ref a1), .val (.int p2), .val (.int p3), .val (.int p4), .val (.int p5), .val (.int p6), .val (.ref a7), .val (.int (((p3 + p4) - (1 : Int32)) - p2)), .val (.long (((p5.toInt64) / (own_p10 (((p3 + p4) - (1 : Int32)) - p2))) - (((p5.toInt64) / (own_p10 (((p3 + p4) - (1 : Int32)) - p2))) / (10 : Int64)) * (10 : Int64))), .second] [(.int p2), (.ref a1)])) _
        refine X0.caload hx (j := p2) (v := (.int cc)) (by rw [e0]; exact Arc11.1) (State.isArrayOf_alike hZ.alike Arc11.2.1) Arc11.2.2 hin12 hat13 (g := (mkF m 52 #[.val (.ref a1), .val (.int p2), .val (.int p3), .val (.int p4), .val (.int p5), .val (.int p6), .val (.ref a7), .val (.int (((p3 + p4) - (1 : Int32)) - p2)), .val (.long (((p5.toInt64) / (own_p10 (((p3 + p4) - (1 : Int32)) - p2))) - (((p5.toInt64) / (own_p10 (((p3 + p4) - (1 : Int32)) - p2))) / (10 : Int64)) * (10 : Int64))), .second] [(.int p2), (.ref a1)])) rfl rfl (hb hby d2_52) _ ?_
        show Steps _ _ _ (s₁.setTop (mkF m 53 #[.val (.ref a1), .val (.int p2), .val (.int p3), .val (.int p4), .val (.int p5), .val (.int p6), .val (.ref a7), .val (.int (((p3 + p4) - (1 : Int32)) - p2)), .val (.long (((p5.toInt64) / (own_p10 (((p3 + p4) - (1 : Int32)) - p2))) - (((p5.toInt64) / (own_p10 (((p3 + p4) - (1 : Int32)) - p2))) / (10 : Int64)) * (10 : Int64))), .second] [(.int cc)])) _
        refine XS.bipush X0.here hx rfl (hb hby d2_53) ?_
        show Steps _ _ _ (s₁.setTop (mkF m 55 #[.val (.ref a1), .val (.int p2), .val (.int p3), .val (.int p4), .val (.int p5), .val (.int p6), .val (.ref a7), .val (.int (((p3 + p4) - (1 : Int32)) - p2)), .val (.long (((p5.toInt64) / (own_p10 (((p3 + p4) - (1 : Int32)) - p2))) - (((p5.toInt64) / (own_p10 (((p3 + p4) - (1 : Int32)) - p2))) / (10 : Int64)) * (10 : Int64))), .second] [(.int (48 : Int32)), (.int cc)])) _
        refine XS.lload X0.here hx rfl (hb hby d2_55) rfl ?_
        show Steps _ _ _ (s₁.setTop (mkF m 57 #[.val (.ref a1), .val (.int p2), .val (.int p3), .val (.int p4), .val (.int p5), .val (.int p6), .val (.ref a7), .val (.int (((p3 + p4) - (1 : Int32)) - p2)), .val (.long (((p5.toInt64) / (own_p10 (((p3 + p4) - (1 : Int32)) - p2))) - (((p5.toInt64) / (own_p10 (((p3 + p4) - (1 : Int32)) - p2))) / (10 : Int64)) * (10 : Int64))), .second] [(.long (((p5.toInt64) / (own_p10 (((p3 + p4) - (1 : Int32)) - p2))) - (((p5.toInt64) / (own_p10 (((p3 + p4) - (1 : Int32)) - p2))) / (10 : Int64)) * (10 : Int64))), (.int (48 : Int32)), (.int cc)])) _
        refine XS.l2i X0.here hx rfl (hb hby d2_57) rfl ?_
        show Steps _ _ _ (s₁.setTop (mkF m 58 #[.val (.ref a1), .val (.int p2), .val (.int p3), .val (.int p4), .val (.int p5), .val (.int p6), .val (.ref a7), .val (.int (((p3 + p4) - (1 : Int32)) - p2)), .val (.long (((p5.toInt64) / (own_p10 (((p3 + p4) - (1 : Int32)) - p2))) - (((p5.toInt64) / (own_p10 (((p3 + p4) - (1 : Int32)) - p2))) / (10 : Int64)) * (10 : Int64))), .second] [(.int ((((p5.toInt64) / (own_p10 (((p3 + p4) - (1 : Int32)) - p2))) - (((p5.toInt64) / (own_p10 (((p3 + p4) - (1 : Int32)) - p2))) / (10 : Int64)) * (10 : Int64)).toInt32)), (.int (48 : Int32)), (.int cc)])) _
        refine XS.iadd X0.here hx rfl (hb hby d2_58) rfl ?_
        show Steps _ _ _ (s₁.setTop (mkF m 59 #[.val (.ref a1), .val (.int p2), .val (.int p3), .val (.int p4), .val (.int p5), .val (.int p6), .val (.ref a7), .val (.int (((p3 + p4) - (1 : Int32)) - p2)), .val (.long (((p5.toInt64) / (own_p10 (((p3 + p4) - (1 : Int32)) - p2))) - (((p5.toInt64) / (own_p10 (((p3 + p4) - (1 : Int32)) - p2))) / (10 : Int64)) * (10 : Int64))), .second] [(.int ((48 : Int32) + ((((p5.toInt64) / (own_p10 (((p3 + p4) - (1 : Int32)) - p2))) - (((p5.toInt64) / (own_p10 (((p3 + p4) - (1 : Int32)) - p2))) / (10 : Int64)) * (10 : Int64)).toInt32))), (.int cc)])) _
        refine XS.i2c X0.here hx rfl (hb hby d2_59) rfl ?_
        show Steps _ _ _ (s₁.setTop (mkF m 60 #[.val (.ref a1), .val (.int p2), .val (.int p3), .val (.int p4), .val (.int p5), .val (.int p6), .val (.ref a7), .val (.int (((p3 + p4) - (1 : Int32)) - p2)), .val (.long (((p5.toInt64) / (own_p10 (((p3 + p4) - (1 : Int32)) - p2))) - (((p5.toInt64) / (own_p10 (((p3 + p4) - (1 : Int32)) - p2))) / (10 : Int64)) * (10 : Int64))), .second] [(.int (((48 : Int32) + ((((p5.toInt64) / (own_p10 (((p3 + p4) - (1 : Int32)) - p2))) - (((p5.toInt64) / (own_p10 (((p3 + p4) - (1 : Int32)) - p2))) / (10 : Int64)) * (10 : Int64)).toInt32)).toUInt32.toUInt16.toUInt32.toInt32)), (.int cc)])) _
        refine XS.icmpNo X0.here hx rfl (hb hby d2_60) rfl (teq hc14).2 ?_
        show Steps _ _ _ (s₁.setTop (mkF m 63 #[.val (.ref a1), .val (.int p2), .val (.int p3), .val (.int p4), .val (.int p5), .val (.int p6), .val (.ref a7), .val (.int (((p3 + p4) - (1 : Int32)) - p2)), .val (.long (((p5.toInt64) / (own_p10 (((p3 + p4) - (1 : Int32)) - p2))) - (((p5.toInt64) / (own_p10 (((p3 + p4) - (1 : Int32)) - p2))) / (10 : Int64)) * (10 : Int64))), .second] [])) _
        refine XS.iconst X0.here hx rfl (hb hby d2_63) ?_
        show Steps _ _ _ (s₁.setTop (mkF m 64 #[.val (.ref a1), .val (.int p2), .val (.int p3), .val (.int p4), .val (.int p5), .val (.int p6), .val (.ref a7), .val (.int (((p3 + p4) - (1 : Int32)) - p2)), .val (.long (((p5.toInt64) / (own_p10 (((p3 + p4) - (1 : Int32)) - p2))) - (((p5.toInt64) / (own_p10 (((p3 + p4) - (1 : Int32)) - p2))) / (10 : Int64)) * (10 : Int64))), .second] [(.int (1 : Int32))])) _
        refine XS.goto X0.here hx rfl (pc0 := 64) (pc' := 68) rfl (hb hby d2_64) (by decide) (by decide) ?_
        show Steps _ _ _ (s₁.setTop (mkF m 68 #[.val (.ref a1), .val (.int p2), .val (.int p3), .val (.int p4), .val (.int p5), .val (.int p6), .val (.ref a7), .val (.int (((p3 + p4) - (1 : Int32)) - p2)), .val (.long (((p5.toInt64) / (own_p10 (((p3 + p4) - (1 : Int32)) - p2))) - (((p5.toInt64) / (own_p10 (((p3 + p4) - (1 : Int32)) - p2))) / (10 : Int64)) * (10 : Int64))), .second] [(.int (1 : Int32))])) _
        exact k
      obtain ⟨fs, hr, hrun, hended, hW, hsame⟩ := X0.leave (v := some (.int (1 : Int32))) (fun h => by rw [Bd.returns] at h; cases h)
      refine ⟨_, _, pre15 _ ?_, hrun, hended, _, _, rfl, ?_, ⟨_, rfl⟩, hW, hsame.mono (by decide) (by decide)⟩
      · exact retN X0 hx (t := .boolean) Bd.returns (by simp) (hb hby d2_68) hr
      · show Q_rm2 Z a1 p2 p3 p4 p5 p6 a7 k z vs dv k7 cc h0 n0 _ s₁.heap _
        rw [e0]
        exact ⟨rfl, N0, rfl⟩
    · obtain ⟨c16, Arc16, Aqc16, Asc16, Anc16, Ahc16, Agc16⟩ := id V1
      have hin17 : ¬ (p2 < 0 ∨ c16.slots.size ≤ (p2).toNatClampNeg) := inb_of Asc16 hin
      have hat18 : c16.slots[(p2).toNatClampNeg]? = some (.int cc) := Has.at Ahc16 hin17 hat
      have hc19 : cc = p6 := hf (Or.inr hB)
      have pre20 : ∀ t, Steps p.tables e below (s₁.setTop (mkF m 25 #[.val (.ref a1), .val (.int p2), .val (.int p3), .val (.int p4), .val (.int p5), .val (.int p6), .val (.ref a7), .unset, .unset, .unset] [(.int (1 : Int32))])) t → Steps p.tables e below (s₁.setTop (entryFrame m #[(.ref a1), (.int p2), (.int p3), (.int p4), (.int p5), (.int p6), (.ref a7)] 10)) t := by
        intro t k
        refine pre7 t ?_
        refine XS.icmpNo X0.here hx rfl (hb hby d2_9) rfl (flt hB).1 ?_
        show Steps _ _ _ (s₁.setTop (mkF m 12 #[.val (.ref a1), .val (.int p2), .val (.int p3), .val (.int p4), .val (.int p5), .val (.int p6), .val (.ref a7), .unset, .unset, .unset] [])) _
        refine XS.aloadN X0.here hx rfl (hb hby d2_12) rfl rfl ?_
        show Steps _ _ _ (s₁.setTop (mkF m 13 #[.val (.ref a1), .val (.int p2), .val (.int p3), .val (.int p4), .val (.int p5), .val (.int p6), .val (.ref a7), .unset, .unset, .unset] [(.ref a1)])) _
        refine XS.iloadN X0.here hx rfl (hb hby d2_13) rfl ?_
        show Steps _ _ _ (s₁.setTop (mkF m 14 #[.val (.ref a1), .val (.int p2), .val (.int p3), .val (.int p4), .val (.int p5), .val (.int p6), .val (.ref a7), .unset, .unset, .unset] [(.int p2), (.ref a1)])) _
        refine X0.caload hx (j := p2) (v := (.int cc)) (by rw [e0]; exact Arc16.1) (State.isArrayOf_alike hZ.alike Arc16.2.1) Arc16.2.2 hin17 hat18 (g := (mkF m 14 #[.val (.ref a1), .val (.int p2), .val (.int p3), .val (.int p4), .val (.int p5), .val (.int p6), .val (.ref a7), .unset, .unset, .unset] [(.int p2), (.ref a1)])) rfl rfl (hb hby d2_14) _ ?_
        show Steps _ _ _ (s₁.setTop (mkF m 15 #[.val (.ref a1), .val (.int p2), .val (.int p3), .val (.int p4), .val (.int p5), .val (.int p6), .val (.ref a7), .unset, .unset, .unset] [(.int cc)])) _
        refine XS.iload X0.here hx rfl (hb hby d2_15) rfl ?_
        show Steps _ _ _ (s₁.setTop (mkF m 17 #[.val (.ref a1), .val (.int p2), .val (.int p3), .val (.int p4), .val (.int p5), .val (.int p6), .val (.ref a7), .unset, .unset, .unset] [(.int p6), (.int cc)])) _
        refine XS.icmpNo X0.here hx rfl (hb hby d2_17) rfl (teq hc19).2 ?_
        show Steps _ _ _ (s₁.setTop (mkF m 20 #[.val (.ref a1), .val (.int p2), .val (.int p3), .val (.int p4), .val (.int p5), .val (.int p6), .val (.ref a7), .unset, .unset, .unset] [])) _
        refine XS.iconst X0.here hx rfl (hb hby d2_20) ?_
        show Steps _ _ _ (s₁.setTop (mkF m 21 #[.val (.ref a1), .val (.int p2), .val (.int p3), .val (.int p4), .val (.int p5), .val (.int p6), .val (.ref a7), .unset, .unset, .unset] [(.int (1 : Int32))])) _
        refine XS.goto X0.here hx rfl (pc0 := 21) (pc' := 25) rfl (hb hby d2_21) (by decide) (by decide) ?_
        show Steps _ _ _ (s₁.setTop (mkF m 25 #[.val (.ref a1), .val (.int p2), .val (.int p3), .val (.int p4), .val (.int p5), .val (.int p6), .val (.ref a7), .unset, .unset, .unset] [(.int (1 : Int32))])) _
        exact k
      obtain ⟨fs, hr, hrun, hended, hW, hsame⟩ := X0.leave (v := some (.int (1 : Int32))) (fun h => by rw [Bd.returns] at h; cases h)
      refine ⟨_, _, pre20 _ ?_, hrun, hended, _, _, rfl, ?_, ⟨_, rfl⟩, hW, hsame.mono (by decide) (by decide)⟩
      · exact retN X0 hx (t := .boolean) Bd.returns (by simp) (hb hby d2_25) hr
      · show Q_rm2 Z a1 p2 p3 p4 p5 p6 a7 k z vs dv k7 cc h0 n0 _ s₁.heap _
        rw [e0]
        exact ⟨rfl, N0, rfl⟩
/-! the plain law of the digits -/
def own_dig (r : Int32) (j : Nat) : Int32 := Int32.ofInt (48 + r.toInt / 10 ^ j % 10)
theorem own_digI (r : Int32) (j : Nat) : (own_dig r j).toInt = 48 + r.toInt / 10 ^ j % 10 := by
  unfold own_dig
  have h1 := Int.emod_nonneg (r.toInt / 10 ^ j) (by decide : (10 : Int) ≠ 0)
  have h2 := Int.emod_lt_of_pos (r.toInt / 10 ^ j) (by decide : (0 : Int) < 10)
  rw [Int32.toInt_ofInt]
  generalize r.toInt / 10 ^ j % 10 = d at *
  rw [Int.bmod_def]; simp only [Int32.size]; omega
theorem own_chI2 (x : Int32) (h : 0 ≤ x.toInt) (h2 : x.toInt < 10) : ((((48 : Int32) + x).toUInt32.toUInt16.toUInt32.toInt32).toUInt32.toUInt16.toUInt32.toInt32).toInt = 48 + x.toInt := by
  have a := c_iadd 48 x
  have r := rng32 ((48 : Int32) + x)
  have c := c_i2c ((48 : Int32) + x)
  have c' := c_i2c (((48 : Int32) + x).toUInt32.toUInt16.toUInt32.toInt32)
  have l : (48 : Int32).toInt = 48 := rfl
  omega
theorem own_chI (x : Int32) (h : 0 ≤ x.toInt) (h2 : x.toInt < 10) : (((48 : Int32) + x).toUInt32.toUInt16.toUInt32.toInt32).toInt = 48 + x.toInt := by
  have a := c_iadd 48 x
  have r := rng32 ((48 : Int32) + x)
  have c := c_i2c ((48 : Int32) + x)
  have l : (48 : Int32).toInt = 48 := rfl
  omega
theorem own_chd (r : Int32) (h : 0 ≤ r.toInt) : own_ch r = own_dig r 0 := by
  have d := (c_idiv r 10 10 rfl (by decide)).1 h
  have mu := c_imul (r / 10) 10
  have rm := rng32 (r / 10 * 10)
  have su := c_isub r (r / 10 * 10)
  have rs := rng32 (r - r / 10 * 10)
  have rr := rng32 r
  have l : (10 : Int32).toInt = 10 := rfl
  rw [l, d] at mu
  have e : (r - r / 10 * 10).toInt = r.toInt % 10 := by omega
  apply Int32.toInt_inj.mp
  unfold own_ch
  rw [own_chI2 _ (by omega) (by omega), own_digI, e]
  simp
theorem own_digS (r : Int32) (h : 0 ≤ r.toInt) (j : Nat) : 0 ≤ (r / (10 : Int32)).toInt ∧ own_dig (r / (10 : Int32)) j = own_dig r (j + 1) := by
  have d := (c_idiv r 10 10 rfl (by decide)).1 h
  refine ⟨by omega, ?_⟩
  apply Int32.toInt_inj.mp
  rw [own_digI, own_digI, d, Int.pow_succ', Int.ediv_ediv_of_nonneg (by decide)]
theorem own_putlen : ∀ (n : Nat) (r i : Int32) (vs : List Value), (own_put n r i vs).length = vs.length
  | 0, _, _, _ => rfl
  | n + 1, r, i, vs => by rw [own_put, own_putlen n, List.length_set]
theorem own_putget (o : Nat) (dv : Value) : ∀ (n : Nat) (r i : Int32) (vs : List Value) (_ : 0 ≤ r.toInt) (_ : i.toInt = (o : Int) + n - 1) (_ : o + n ≤ vs.length) (k : Nat) (_ : k < vs.length),
    (own_put n r i vs).getD k dv = if o ≤ k ∧ k < o + n then .int (own_dig r (o + n - 1 - k)) else vs.getD k dv
  | 0, r, i, vs, _, _, _, k, _ => by rw [own_put, if_neg (by omega)]
  | n + 1, r, i, vs, hr, hi, hl, k, hk => by
    have a := c_iadd i (-1)
    have ra := rng32 (i + -1)
    have ri := rng32 i
    have lm : (-1 : Int32).toInt = -1 := rfl
    obtain ⟨q1, -⟩ := own_digS r hr 0
    have ei : i.toNatClampNeg = o + n := by rw [own_tn]; omega
    rw [own_put, own_putget o dv n (r / 10) (i + (-1)) _ q1 (by omega) (by rw [List.length_set]; omega) k (by rw [List.length_set]; exact hk)]
    by_cases h1 : o ≤ k ∧ k < o + n
    · rw [if_pos h1, if_pos (by omega), (own_digS r hr _).2, show o + n - 1 - k + 1 = o + (n + 1) - 1 - k by omega]
    · rw [if_neg h1, ei, List.getD_eq_getElem?_getD, List.getElem?_set]
      by_cases h2 : o + n = k
      · subst h2
        rw [if_pos rfl, if_pos (by omega), if_pos (by omega)]
        rw [show o + (n + 1) - 1 - (o + n) = 0 by omega, own_chd r hr]; rfl
      · rw [if_neg h2, if_neg (by omega), List.getD_eq_getElem?_getD]
theorem own_bN (x : Int32) : 0 ≤ (x &&& (2147483647 : Int32)).toInt := by
  have m := c_mask x (2147483647 : Int32) 31 (by decide) (by decide)
  omega
theorem own_bO (x : Int32) : 0 ≤ (x &&& (3 : Int32)).toInt ∧ (x &&& (3 : Int32)).toInt ≤ 3 := by
  have m := c_mask x (3 : Int32) 2 (by decide) (by decide)
  omega
theorem own_bW (x : Int32) : 0 ≤ ((x &&& (15 : Int32)) - ((x &&& (15 : Int32)) / (13 : Int32)) * (13 : Int32)).toInt ∧ ((x &&& (15 : Int32)) - ((x &&& (15 : Int32)) / (13 : Int32)) * (13 : Int32)).toInt ≤ 12 := by
  have m := c_mask x (15 : Int32) 4 (by decide) (by decide)
  generalize (x &&& (15 : Int32)) = s at *
  have d := (c_idiv s 13 13 rfl (by decide)).1 (by omega)
  have mu := c_imul (s / 13) 13
  have mr := rng32 (s / 13 * 13)
  have l : (13 : Int32).toInt = 13 := rfl
  rw [l, d] at mu
  have su := c_isub s (s / 13 * 13)
  have sr := rng32 (s - s / 13 * 13)
  omega
theorem own_i2cid (x : Int32) (h : 0 ≤ x.toInt ∧ x.toInt < 65536) : x.toUInt32.toUInt16.toUInt32.toInt32 = x := by
  apply Int32.toInt_inj.mp
  have c := c_i2c x
  omega
/-- what stands at the place i -/
def own_c (i vO vW vN vF : Int32) : Int32 := if vO.toInt ≤ i.toInt ∧ i.toInt < vO.toInt + vW.toInt then own_dig vN (vO.toInt + vW.toInt - 1 - i.toInt).toNat else vF.toUInt32.toUInt16.toUInt32.toInt32
theorem own_cat (vO vW vN vF : Int32) (hO : 0 ≤ vO.toInt ∧ vO.toInt ≤ 3) (hW : 0 ≤ vW.toInt ∧ vW.toInt ≤ 12) (hN : 0 ≤ vN.toInt) (vs : List Value) (hvs : vs = List.replicate 16 (.int vF.toUInt32.toUInt16.toUInt32.toInt32)) (j : Int32) (hj0 : 0 ≤ j.toInt) (hj : j.toInt < 16) :
    (own_put vW.toInt.toNat vN ((vO + vW) - (1 : Int32)) vs).getD j.toNatClampNeg (.int (0 : Int32)) = (.int (own_c j vO vW vN vF)) := by
  have hi := own_i0 vO vW 16 hO.1 hW.1 (by show _ ≤ (16 : Int); omega)
  have hl : vs.length = 16 := by rw [hvs, List.length_replicate]
  rw [own_tn, own_putget vO.toInt.toNat _ _ _ _ _ hN (by rw [hi, Int.toNat_of_nonneg hO.1]) (by omega) j.toInt.toNat (by omega)]
  unfold own_c
  by_cases h : vO.toInt ≤ j.toInt ∧ j.toInt < vO.toInt + vW.toInt
  · rw [if_pos (by omega), if_pos h, show vO.toInt.toNat + vW.toInt.toNat - 1 - j.toInt.toNat = (vO.toInt + vW.toInt - 1 - j.toInt).toNat by omega]
  · rw [if_neg (by omega), if_neg h, hvs, List.getD_eq_getElem?_getD, List.getElem?_replicate, if_pos (by omega)]; rfl
theorem own_cf (i vO vW vN vF : Int32) (hO : 0 ≤ vO.toInt ∧ vO.toInt ≤ 3) (hW : 0 ≤ vW.toInt ∧ vW.toInt ≤ 12) (hF : 0 ≤ vF.toInt ∧ vF.toInt < 65536) (h : i < vO ∨ ¬ i < (vO + vW)) : own_c i vO vW vN vF = vF := by
  have a := c_iadd vO vW
  have ra := rng32 (vO + vW)
  unfold own_c
  rw [if_neg, own_i2cid _ hF]
  simp only [Int32.lt_iff_toInt_lt] at h
  omega
theorem own_cd (i vO vW vN vF : Int32) (hO : 0 ≤ vO.toInt ∧ vO.toInt ≤ 3) (hW : 0 ≤ vW.toInt ∧ vW.toInt ≤ 12) (hN : 0 ≤ vN.toInt) (h0 : 0 ≤ i.toInt) (h15 : i.toInt ≤ 15) (hA : ¬ i < vO) (hB : i < (vO + vW)) : own_c i vO vW vN vF = own_okc i vO vW vN := by
  obtain ⟨j1, j2, j3, j4⟩ := own_jr i vO vW h0 hO.1 hO.2 hW.1 hW.2 hA hB
  obtain ⟨-, -, p3, p4⟩ := own_p10at _ ⟨j1, j2⟩
  rw [Int32.lt_iff_toInt_lt] at hA
  unfold own_c own_okc
  rw [if_pos (by omega), ← j3]
  generalize (((vO + vW) - (1 : Int32)) - i) = j at *
  have rn := rng32 vN
  have en := c_i2l vN
  have pp : (0 : Int) < 10 ^ j.toInt.toNat := Int.pow_pos (by decide)
  have nm : own_p10 j ≠ -1 := fun q => by rw [q] at p4; have : (-1 : Int64).toInt = -1 := rfl; omega
  have d := (c_ldiv vN.toInt64 (own_p10 j) _ p4 nm).1 (by omega)
  rw [en] at d
  have dn : 0 ≤ vN.toInt / 10 ^ j.toInt.toNat := Int.ediv_nonneg hN (by omega)
  have dl : vN.toInt / 10 ^ j.toInt.toNat ≤ vN.toInt := Int.ediv_le_self _ hN
  generalize hx : vN.toInt64 / own_p10 j = x at *
  have e := (c_lrem x 10 10 rfl).1 (by omega)
  have l := c_l2i (x - x / 10 * 10)
  have rl := rng32 (x - x / 10 * 10).toInt32
  apply Int32.toInt_inj.mp
  rw [own_digI, own_chI _ (by omega) (by omega)]
  omega
theorem own_sum {vO vW : Int32} (hO : 0 ≤ vO.toInt ∧ vO.toInt ≤ 3) (hW : 0 ≤ vW.toInt ∧ vW.toInt ≤ 12) : vO.toInt + vW.toInt ≤ (16 : Int32).toInt := by
  have : (16 : Int32).toInt = 16 := rfl
  omega

theorem pd_0 : parseMethodDescriptor "([CIII)V" = some ⟨[(.array .char), .int, .int, .int], none⟩ := by decide +kernel
theorem pd_1 : parseMethodDescriptor "([CIIIIC[J)Z" = some ⟨[(.array .char), .int, .int, .int, .int, .char, (.array .long)], some .boolean⟩ := by decide +kernel
theorem ef_rm0 (m : MethodId) (x0 : Int32) (x1 : Int32) (x2 : Int32) (x3 : Int32) : entryFrame m #[(.int x0), (.int x1), (.int x2), (.int x3)] maxLocals = mkF m 0 #[.val (.int x0), .val (.int x1), .val (.int x2), .val (.int x3), .unset, .unset, .unset, .unset, .unset, .unset] [] := by first | (simp [entryFrame, mkF, argsToLocals, Value.category, maxLocals]; done) | rfl
def Q_rm0 (Z : State) (p1 : Int32) (p2 : Int32) (p3 : Int32) (p4 : Int32) (h0 : Heap) (n0 : Nat) (v : Option Value) (h : Heap) (L : List Loc) : Prop := v = some (.int (1 : Int32)) ∧ Fr n0 L ∧ Keep h0 h []
set_option maxRecDepth 65536 in
set_option maxHeartbeats 40000000 in
theorem rm0 (l : Launch) (Z : State) (a0 : Array Value) (hw : ∀ d ∈ tables_1, d.before a0 Z = true) (ws : List Jvm.Cond) (p1 : Int32) (p2 : Int32) (p3 : Int32) (p4 : Int32) (h0 : Heap) (n0 : Nat) (Z0 : n0 ≤ h0.size) :
    MetFree l x (head1 (Jvm.Cond.code x code maxLocals ret :: ws) room_1) (fun a U => a = #[(.int p1), (.int p2), (.int p3), (.int p4)] ∧ Z.Warmed39 U.vm ∧ U.heap = h0) (fun _ _ _ _ _ => True) (fun _ U o U' => ∃ v L, o = .returned v ∧ Q_rm0 Z p1 p2 p3 p4 h0 n0 v U'.heap L ∧ FrameEnd U o U' L room_1.cells room_1.slots) := by
  refine MetFree.of_bodySF (plainFor_of_name pn_1) hisR ?_
  intro p e s m args below meth c s₁ Bd hml0 hP hK
  obtain ⟨rfl, hZ, hh⟩ := hP
  have hx := Bd.exec
  have hby := Bd.bytes
  have hml : c.maxLocals = 10 := hml0
  have hown : s.vm.findClass "com/example/netsettle/netsettle/messages/DigitsPutPinLaw" = some m.cls := findClass_of_methodNamed Bd.named
  have hnm := (name_of_methodNamed Bd.named Bd.method).1
  have X0 : Stand p l e room_1 s m #[(.int p1), (.int p2), (.int p3), (.int p4)] below meth c s₁ [] 0 0 := Stand.of_body Bd
  have e0 : s₁.heap = h0 := by rw [← hh, Bd.state]; rfl
  have N0 := Fr.nil n0
  have pre0 : ∀ t, Steps p.tables e below (s₁.setTop (mkF m 0 #[.val (.int p1), .val (.int p2), .val (.int p3), .val (.int p4), .unset, .unset, .unset, .unset, .unset, .unset] [])) t → Steps p.tables e below (s₁.setTop (entryFrame m #[(.int p1), (.int p2), (.int p3), (.int p4)] maxLocals)) t := fun t k => castTop (ef_rm0 m p1 p2 p3 p4) k
  have pre1 : ∀ t, Steps p.tables e below (s₁.setTop (mkF m 6 #[.val (.int p1), .val (.int p2), .val (.int p3), .val (.int p4), .val (.int (p1 &&& (2147483647 : Int32))), .unset, .unset, .unset, .unset, .unset] [])) t → Steps p.tables e below (s₁.setTop (entryFrame m #[(.int p1), (.int p2), (.int p3), (.int p4)] maxLocals)) t := by
    intro t k
    refine pre0 t ?_
    refine XS.iloadN X0.here hx rfl (hb hby at_0) rfl ?_
    show Steps _ _ _ (s₁.setTop (mkF m 1 #[.val (.int p1), .val (.int p2), .val (.int p3), .val (.int p4), .unset, .unset, .unset, .unset, .unset, .unset] [(.int p1)])) _
    refine X0.ldcInt hx hown (mvT hZ (hw _ (List.mem_of_getElem? (i := 0) rfl))) (g := (mkF m 1 #[.val (.int p1), .val (.int p2), .val (.int p3), .val (.int p4), .unset, .unset, .unset, .unset, .unset, .unset] [(.int p1)])) rfl (hb hby at_1) _ ?_
    show Steps _ _ _ (s₁.setTop (mkF m 3 #[.val (.int p1), .val (.int p2), .val (.int p3), .val (.int p4), .unset, .unset, .unset, .unset, .unset, .unset] [(.int (2147483647 : Int32)), (.int p1)])) _
    refine XS.iand X0.here hx rfl (hb hby at_3) rfl ?_
    show Steps _ _ _ (s₁.setTop (mkF m 4 #[.val (.int p1), .val (.int p2), .val (.int p3), .val (.int p4), .unset, .unset, .unset, .unset, .unset, .unset] [(.int (p1 &&& (2147483647 : Int32)))])) _
    refine XS.istore X0.here hx rfl (hb hby at_4) rfl (l' := #[.val (.int p1), .val (.int p2), .val (.int p3), .val (.int p4), .val (.int (p1 &&& (2147483647 : Int32))), .unset, .unset, .unset, .unset, .unset]) rfl ?_
    show Steps _ _ _ (s₁.setTop (mkF m 6 #[.val (.int p1), .val (.int p2), .val (.int p3), .val (.int p4), .val (.int (p1 &&& (2147483647 : Int32))), .unset, .unset, .unset, .unset, .unset] [])) _
    exact k
  obtain ⟨vN, hvN⟩ : ∃ z : Int32, z = (p1 &&& (2147483647 : Int32)) := ⟨_, rfl⟩
  rw [← hvN] at pre1
  have pre2 : ∀ t, Steps p.tables e below (s₁.setTop (mkF m 11 #[.val (.int p1), .val (.int p2), .val (.int p3), .val (.int p4), .val (.int vN), .val (.int (p2 &&& (3 : Int32))), .unset, .unset, .unset, .unset] [])) t → Steps p.tables e below (s₁.setTop (entryFrame m #[(.int p1), (.int p2), (.int p3), (.int p4)] maxLocals)) t := by
    intro t k
    refine pre1 t ?_
    refine XS.iloadN X0.here hx rfl (hb hby at_6) rfl ?_
    show Steps _ _ _ (s₁.setTop (mkF m 7 #[.val (.int p1), .val (.int p2), .val (.int p3), .val (.int p4), .val (.int vN), .unset, .unset, .unset, .unset, .unset] [(.int p2)])) _
    refine XS.iconst X0.here hx rfl (hb hby at_7) ?_
    show Steps _ _ _ (s₁.setTop (mkF m 8 #[.val (.int p1), .val (.int p2), .val (.int p3), .val (.int p4), .val (.int vN), .unset, .unset, .unset, .unset, .unset] [(.int (3 : Int32)), (.int p2)])) _
    refine XS.iand X0.here hx rfl (hb hby at_8) rfl ?_
    show Steps _ _ _ (s₁.setTop (mkF m 9 #[.val (.int p1), .val (.int p2), .val (.int p3), .val (.int p4), .val (.int vN), .unset, .unset, .unset, .unset, .unset] [(.int (p2 &&& (3 : Int32)))])) _
    refine XS.istore X0.here hx rfl (hb hby at_9) rfl (l' := #[.val (.int p1), .val (.int p2), .val (.int p3), .val (.int p4), .val (.int vN), .val (.int (p2 &&& (3 : Int32))), .unset, .unset, .unset, .unset]) rfl ?_
    show Steps _ _ _ (s₁.setTop (mkF m 11 #[.val (.int p1), .val (.int p2), .val (.int p3), .val (.int p4), .val (.int vN), .val (.int (p2 &&& (3 : Int32))), .unset, .unset, .unset, .unset] [])) _
    exact k
  obtain ⟨vO, hvO⟩ : ∃ z : Int32, z = (p2 &&& (3 : Int32)) := ⟨_, rfl⟩
  rw [← hvO] at pre2
  have pre3 : ∀ t, Steps p.tables e below (s₁.setTop (mkF m 20 #[.val (.int p1), .val (.int p2), .val (.int p3), .val (.int p4), .val (.int vN), .val (.int vO), .val (.int ((p3 &&& (15 : Int32)) - ((p3 &&& (15 : Int32)) / (13 : Int32)) * (13 : Int32))), .unset, .unset, .unset] [])) t → Steps p.tables e below (s₁.setTop (entryFrame m #[(.int p1), (.int p2), (.int p3), (.int p4)] maxLocals)) t := by
    intro t k
    refine pre2 t ?_
    refine XS.iloadN X0.here hx rfl (hb hby at_11) rfl ?_
    show Steps _ _ _ (s₁.setTop (mkF m 12 #[.val (.int p1), .val (.int p2), .val (.int p3), .val (.int p4), .val (.int vN), .val (.int vO), .unset, .unset, .unset, .unset] [(.int p3)])) _
    refine XS.bipush X0.here hx rfl (hb hby at_12) ?_
    show Steps _ _ _ (s₁.setTop (mkF m 14 #[.val (.int p1), .val (.int p2), .val (.int p3), .val (.int p4), .val (.int vN), .val (.int vO), .unset, .unset, .unset, .unset] [(.int (15 : Int32)), (.int p3)])) _
    refine XS.iand X0.here hx rfl (hb hby at_14) rfl ?_
    show Steps _ _ _ (s₁.setTop (mkF m 15 #[.val (.int p1), .val (.int p2), .val (.int p3), .val (.int p4), .val (.int vN), .val (.int vO), .unset, .unset, .unset, .unset] [(.int (p3 &&& (15 : Int32)))])) _
    refine XS.bipush X0.here hx rfl (hb hby at_15) ?_
    show Steps _ _ _ (s₁.setTop (mkF m 17 #[.val (.int p1), .val (.int p2), .val (.int p3), .val (.int p4), .val (.int vN), .val (.int vO), .unset, .unset, .unset, .unset] [(.int (13 : Int32)), (.int (p3 &&& (15 : Int32)))])) _
    refine XS.irem X0.here hx rfl (hb hby at_17) rfl (by decide) ?_
    show Steps _ _ _ (s₁.setTop (mkF m 18 #[.val (.int p1), .val (.int p2), .val (.int p3), .val (.int p4), .val (.int vN), .val (.int vO), .unset, .unset, .unset, .unset] [(.int ((p3 &&& (15 : Int32)) - ((p3 &&& (15 : Int32)) / (13 : Int32)) * (13 : Int32)))])) _
    refine XS.istore X0.here hx rfl (hb hby at_18) rfl (l' := #[.val (.int p1), .val (.int p2), .val (.int p3), .val (.int p4), .val (.int vN), .val (.int vO), .val (.int ((p3 &&& (15 : Int32)) - ((p3 &&& (15 : Int32)) / (13 : Int32)) * (13 : Int32))), .unset, .unset, .unset]) rfl ?_
    show Steps _ _ _ (s₁.setTop (mkF m 20 #[.val (.int p1), .val (.int p2), .val (.int p3), .val (.int p4), .val (.int vN), .val (.int vO), .val (.int ((p3 &&& (15 : Int32)) - ((p3 &&& (15 : Int32)) / (13 : Int32)) * (13 : Int32))), .unset, .unset, .unset] [])) _
    exact k
  obtain ⟨vW, hvW⟩ : ∃ z : Int32, z = ((p3 &&& (15 : Int32)) - ((p3 &&& (15 : Int32)) / (13 : Int32)) * (13 : Int32)) := ⟨_, rfl⟩
  rw [← hvW] at pre3
  have pre4 : ∀ t, Steps p.tables e below (s₁.setTop (mkF m 28 #[.val (.int p1), .val (.int p2), .val (.int p3), .val (.int p4), .val (.int vN), .val (.int vO), .val (.int vW), .val (.int ((p4 &&& (255 : Int32)).toUInt32.toUInt16.toUInt32.toInt32)), .unset, .unset] [])) t → Steps p.tables e below (s₁.setTop (entryFrame m #[(.int p1), (.int p2), (.int p3), (.int p4)] maxLocals)) t := by
    intro t k
    refine pre3 t ?_
    refine XS.iloadN X0.here hx rfl (hb hby at_20) rfl ?_
    show Steps _ _ _ (s₁.setTop (mkF m 21 #[.val (.int p1), .val (.int p2), .val (.int p3), .val (.int p4), .val (.int vN), .val (.int vO), .val (.int vW), .unset, .unset, .unset] [(.int p4)])) _
    refine XS.sipush X0.here hx rfl (hb hby at_21) ?_
    show Steps _ _ _ (s₁.setTop (mkF m 24 #[.val (.int p1), .val (.int p2), .val (.int p3), .val (.int p4), .val (.int vN), .val (.int vO), .val (.int vW), .unset, .unset, .unset] [(.int (255 : Int32)), (.int p4)])) _
    refine XS.iand X0.here hx rfl (hb hby at_24) rfl ?_
    show Steps _ _ _ (s₁.setTop (mkF m 25 #[.val (.int p1), .val (.int p2), .val (.int p3), .val (.int p4), .val (.int vN), .val (.int vO), .val (.int vW), .unset, .unset, .unset] [(.int (p4 &&& (255 : Int32)))])) _
    refine XS.i2c X0.here hx rfl (hb hby at_25) rfl ?_
    show Steps _ _ _ (s₁.setTop (mkF m 26 #[.val (.int p1), .val (.int p2), .val (.int p3), .val (.int p4), .val (.int vN), .val (.int vO), .val (.int vW), .unset, .unset, .unset] [(.int ((p4 &&& (255 : Int32)).toUInt32.toUInt16.toUInt32.toInt32))])) _
    refine XS.istore X0.here hx rfl (hb hby at_26) rfl (l' := #[.val (.int p1), .val (.int p2), .val (.int p3), .val (.int p4), .val (.int vN), .val (.int vO), .val (.int vW), .val (.int ((p4 &&& (255 : Int32)).toUInt32.toUInt16.toUInt32.toInt32)), .unset, .unset]) rfl ?_
    show Steps _ _ _ (s₁.setTop (mkF m 28 #[.val (.int p1), .val (.int p2), .val (.int p3), .val (.int p4), .val (.int vN), .val (.int vO), .val (.int vW), .val (.int ((p4 &&& (255 : Int32)).toUInt32.toUInt16.toUInt32.toInt32)), .unset, .unset] [])) _
    exact k
  obtain ⟨vF, hvF⟩ : ∃ z : Int32, z = ((p4 &&& (255 : Int32)).toUInt32.toUInt16.toUInt32.toInt32) := ⟨_, rfl⟩
  rw [← hvF] at pre4
  have hN : 0 ≤ vN.toInt := by rw [hvN]; exact own_bN _
  have hO : 0 ≤ vO.toInt ∧ vO.toInt ≤ 3 := by rw [hvO]; exact own_bO _
  have hW : 0 ≤ vW.toInt ∧ vW.toInt ≤ 12 := by rw [hvW]; exact own_bW _
  have hF : 0 ≤ vF.toInt ∧ vF.toInt < 65536 := by rw [hvF]; exact (c_i2c _).2
  obtain ⟨T5, h5, k5, X5, e5, E5, A5, st5⟩ := newP X0 hx hZ (hw _ (List.mem_of_getElem? (i := 1) rfl)) e0 (g := (mkF m 30 #[.val (.int p1), .val (.int p2), .val (.int p3), .val (.int p4), .val (.int vN), .val (.int vO), .val (.int vW), .val (.int vF), .unset, .unset] [(.int (16 : Int32))])) rfl (hb hby at_30) rfl (by decide) (cap := 16) (by decide) (by decide) (by decide) (by decide)
  obtain ⟨b5, g5⟩ : ∃ z, z = h0.size := ⟨_, rfl⟩
  rw [← g5] at A5 st5
  have ge6 : n0 ≤ b5 := Nat.le_trans Z0 (Nat.le_of_eq g5.symm)
  have sz7 : h0.size ≤ b5 := Nat.le_trans (Keep.refl h0 []).1 (Nat.le_of_eq g5.symm)
  have KC8 : Keep h0 h5 [] := (Keep.refl h0 []).ext E5
  have V5 : Arv Z h5 b5 k5 .char (16 : Int32) [(.int (0 : Int32)), (.int (0 : Int32)), (.int (0 : Int32)), (.int (0 : Int32)), (.int (0 : Int32)), (.int (0 : Int32)), (.int (0 : Int32)), (.int (0 : Int32)), (.int (0 : Int32)), (.int (0 : Int32)), (.int (0 : Int32)), (.int (0 : Int32)), (.int (0 : Int32)), (.int (0 : Int32)), (.int (0 : Int32)), (.int (0 : Int32))] (.int (0 : Int32)) := (Arv.new A5 (by decide)).pad (pad_rep [] (.int (0 : Int32)) 16)
  obtain ⟨c9, Arc9, Aqc9, Asc9, Anc9, Ahc9, Agc9⟩ := id V5
  have hin10 : ¬ ((0 : Int32) < 0 ∨ c9.slots.size ≤ ((0 : Int32)).toNatClampNeg) := inb_of Asc9 ⟨by decide, by decide⟩
  obtain ⟨T11, h11, X11, e11, W11, st11⟩ := stC X5 hx hZ e5 Arc9 (j := (0 : Int32)) hin10 (g := (mkF m 36 #[.val (.int p1), .val (.int p2), .val (.int p3), .val (.int p4), .val (.int vN), .val (.int vO), .val (.int vW), .val (.int vF), .unset, .unset] [(.int vF), (.int (0 : Int32)), (.ref b5), (.ref b5)])) rfl rfl (hb hby at_36)
  have KC12 : Keep h0 h11 [] := KC8.wr W11 (Or.inr sz7)
  have V11 : Arv Z h11 b5 k5 .char (16 : Int32) [(.int vF.toUInt32.toUInt16.toUInt32.toInt32), (.int (0 : Int32)), (.int (0 : Int32)), (.int (0 : Int32)), (.int (0 : Int32)), (.int (0 : Int32)), (.int (0 : Int32)), (.int (0 : Int32)), (.int (0 : Int32)), (.int (0 : Int32)), (.int (0 : Int32)), (.int (0 : Int32)), (.int (0 : Int32)), (.int (0 : Int32)), (.int (0 : Int32)), (.int (0 : Int32))] (.int (0 : Int32)) := Arv.set Arc9 Aqc9 Asc9 Anc9 Ahc9 Agc9 (fits_nar_char _) W11 0 rfl (Nat.le_of_ble_eq_true rfl)
  have N13 := Fr.snoc X11 N0 ge6
  obtain ⟨c14, Arc14, Aqc14, Asc14, Anc14, Ahc14, Agc14⟩ := id V11
  have hin15 : ¬ ((1 : Int32) < 0 ∨ c14.slots.size ≤ ((1 : Int32)).toNatClampNeg) := inb_of Asc14 ⟨by decide, by decide⟩
  obtain ⟨T16, h16, X16, e16, W16, st16⟩ := stC X11 hx hZ e11 Arc14 (j := (1 : Int32)) hin15 (g := (mkF m 41 #[.val (.int p1), .val (.int p2), .val (.int p3), .val (.int p4), .val (.int vN), .val (.int vO), .val (.int vW), .val (.int vF), .unset, .unset] [(.int vF), (.int (1 : Int32)), (.ref b5), (.ref b5)])) rfl rfl (hb hby at_41)
  have KC17 : Keep h0 h16 [] := KC12.wr W16 (Or.inr sz7)
  have V16 : Arv Z h16 b5 k5 .char (16 : Int32) [(.int vF.toUInt32.toUInt16.toUInt32.toInt32), (.int vF.toUInt32.toUInt16.toUInt32.toInt32), (.int (0 : Int32)), (.int (0 : Int32)), (.int (0 : Int32)), (.int (0 : Int32)), (.int (0 : Int32)), (.int (0 : Int32)), (.int (0 : Int32)), (.int (0 : Int32)), (.int (0 : Int32)), (.int (0 : Int32)), (.int (0 : Int32)), (.int (0 : Int32)), (.int (0 : Int32)), (.int (0 : Int32))] (.int (0 : Int32)) := Arv.set Arc14 Aqc14 Asc14 Anc14 Ahc14 Agc14 (fits_nar_char _) W16 1 rfl (Nat.le_of_ble_eq_true rfl)
  have N18 := Fr.snoc X16 N13 ge6
  obtain ⟨c19, Arc19, Aqc19, Asc19, Anc19, Ahc19, Agc19⟩ := id V16
  have hin20 : ¬ ((2 : Int32) < 0 ∨ c19.slots.size ≤ ((2 : Int32)).toNatClampNeg) := inb_of Asc19 ⟨by decide, by decide⟩
  obtain ⟨T21, h21, X21, e21, W21, st21⟩ := stC X16 hx hZ e16 Arc19 (j := (2 : Int32)) hin20 (g := (mkF m 46 #[.val (.int p1), .val (.int p2), .val (.int p3), .val (.int p4), .val (.int vN), .val (.int vO), .val (.int vW), .val (.int vF), .unset, .unset] [(.int vF), (.int (2 : Int32)), (.ref b5), (.ref b5)])) rfl rfl (hb hby at_46)
  have KC22 : Keep h0 h21 [] := KC17.wr W21 (Or.inr sz7)
  have V21 : Arv Z h21 b5 k5 .char (16 : Int32) [(.int vF.toUInt32.toUInt16.toUInt32.toInt32), (.int vF.toUInt32.toUInt16.toUInt32.toInt32), (.int vF.toUInt32.toUInt16.toUInt32.toInt32), (.int (0 : Int32)), (.int (0 : Int32)), (.int (0 : Int32)), (.int (0 : Int32)), (.int (0 : Int32)), (.int (0 : Int32)), (.int (0 : Int32)), (.int (0 : Int32)), (.int (0 : Int32)), (.int (0 : Int32)), (.int (0 : Int32)), (.int (0 : Int32)), (.int (0 : Int32))] (.int (0 : Int32)) := Arv.set Arc19 Aqc19 Asc19 Anc19 Ahc19 Agc19 (fits_nar_char _) W21 2 rfl (Nat.le_of_ble_eq_true rfl)
  have N23 := Fr.snoc X21 N18 ge6
  obtain ⟨c24, Arc24, Aqc24, Asc24, Anc24, Ahc24, Agc24⟩ := id V21
  have hin25 : ¬ ((3 : Int32) < 0 ∨ c24.slots.size ≤ ((3 : Int32)).toNatClampNeg) := inb_of Asc24 ⟨by decide, by decide⟩
  obtain ⟨T26, h26, X26, e26, W26, st26⟩ := stC X21 hx hZ e21 Arc24 (j := (3 : Int32)) hin25 (g := (mkF m 51 #[.val (.int p1), .val (.int p2), .val (.int p3), .val (.int p4), .val (.int vN), .val (.int vO), .val (.int vW), .val (.int vF), .unset, .unset] [(.int vF), (.int (3 : Int32)), (.ref b5), (.ref b5)])) rfl rfl (hb hby at_51)
  have KC27 : Keep h0 h26 [] := KC22.wr W26 (Or.inr sz7)
  have V26 : Arv Z h26 b5 k5 .char (16 : Int32) [(.int vF.toUInt32.toUInt16.toUInt32.toInt32), (.int vF.toUInt32.toUInt16.toUInt32.toInt32), (.int vF.toUInt32.toUInt16.toUInt32.toInt32), (.int vF.toUInt32.toUInt16.toUInt32.toInt32), (.int (0 : Int32)), (.int (0 : Int32)), (.int (0 : Int32)), (.int (0 : Int32)), (.int (0 : Int32)), (.int (0 : Int32)), (.int (0 : Int32)), (.int (0 : Int32)), (.int (0 : Int32)), (.int (0 : Int32)), (.int (0 : Int32)), (.int (0 : Int32))] (.int (0 : Int32)) := Arv.set Arc24 Aqc24 Asc24 Anc24 Ahc24 Agc24 (fits_nar_char _) W26 3 rfl (Nat.le_of_ble_eq_true rfl)
  have N28 := Fr.snoc X26 N23 ge6
  obtain ⟨c29, Arc29, Aqc29, Asc29, Anc29, Ahc29, Agc29⟩ := id V26
  have hin30 : ¬ ((4 : Int32) < 0 ∨ c29.slots.size ≤ ((4 : Int32)).toNatClampNeg) := inb_of Asc29 ⟨by decide, by decide⟩
  obtain ⟨T31, h31, X31, e31, W31, st31⟩ := stC X26 hx hZ e26 Arc29 (j := (4 : Int32)) hin30 (g := (mkF m 56 #[.val (.int p1), .val (.int p2), .val (.int p3), .val (.int p4), .val (.int vN), .val (.int vO), .val (.int vW), .val (.int vF), .unset, .unset] [(.int vF), (.int (4 : Int32)), (.ref b5), (.ref b5)])) rfl rfl (hb hby at_56)
  have KC32 : Keep h0 h31 [] := KC27.wr W31 (Or.inr sz7)
  have V31 : Arv Z h31 b5 k5 .char (16 : Int32) [(.int vF.toUInt32.toUInt16.toUInt32.toInt32), (.int vF.toUInt32.toUInt16.toUInt32.toInt32), (.int vF.toUInt32.toUInt16.toUInt32.toInt32), (.int vF.toUInt32.toUInt16.toUInt32.toInt32), (.int vF.toUInt32.toUInt16.toUInt32.toInt32), (.int (0 : Int32)), (.int (0 : Int32)), (.int (0 : Int32)), (.int (0 : Int32)), (.int (0 : Int32)), (.int (0 : Int32)), (.int (0 : Int32)), (.int (0 : Int32)), (.int (0 : Int32)), (.int (0 : Int32)), (.int (0 : Int32))] (.int (0 : Int32)) := Arv.set Arc29 Aqc29 Asc29 Anc29 Ahc29 Agc29 (fits_nar_char _) W31 4 rfl (Nat.le_of_ble_eq_true rfl)
  have N33 := Fr.snoc X31 N28 ge6
  obtain ⟨c34, Arc34, Aqc34, Asc34, Anc34, Ahc34, Agc34⟩ := id V31
  have hin35 : ¬ ((5 : Int32) < 0 ∨ c34.slots.size ≤ ((5 : Int32)).toNatClampNeg) := inb_of Asc34 ⟨by decide, by decide⟩
  obtain ⟨T36, h36, X36, e36, W36, st36⟩ := stC X31 hx hZ e31 Arc34 (j := (5 : Int32)) hin35 (g := (mkF m 61 #[.val (.int p1), .val (.int p2), .val (.int p3), .val (.int p4), .val (.int vN), .val (.int vO), .val (.int vW), .val (.int vF), .unset, .unset] [(.int vF), (.int (5 : Int32)), (.ref b5), (.ref b5)])) rfl rfl (hb hby at_61)
  have KC37 : Keep h0 h36 [] := KC32.wr W36 (Or.inr sz7)
  have V36 : Arv Z h36 b5 k5 .char (16 : Int32) [(.int vF.toUInt32.toUInt16.toUInt32.toInt32), (.int vF.toUInt32.toUInt16.toUInt32.toInt32), (.int vF.toUInt32.toUInt16.toUInt32.toInt32), (.int vF.toUInt32.toUInt16.toUInt32.toInt32), (.int vF.toUInt32.toUInt16.toUInt32.toInt32), (.int vF.toUInt32.toUInt16.toUInt32.toInt32), (.int (0 : Int32)), (.int (0 : Int32)), (.int (0 : Int32)), (.int (0 : Int32)), (.int (0 : Int32)), (.int (0 : Int32)), (.int (0 : Int32)), (.int (0 : Int32)), (.int (0 : Int32)), (.int (0 : Int32))] (.int (0 : Int32)) := Arv.set Arc34 Aqc34 Asc34 Anc34 Ahc34 Agc34 (fits_nar_char _) W36 5 rfl (Nat.le_of_ble_eq_true rfl)
  have N38 := Fr.snoc X36 N33 ge6
  obtain ⟨c39, Arc39, Aqc39, Asc39, Anc39, Ahc39, Agc39⟩ := id V36
  have hin40 : ¬ ((6 : Int32) < 0 ∨ c39.slots.size ≤ ((6 : Int32)).toNatClampNeg) := inb_of Asc39 ⟨by decide, by decide⟩
  obtain ⟨T41, h41, X41, e41, W41, st41⟩ := stC X36 hx hZ e36 Arc39 (j := (6 : Int32)) hin40 (g := (mkF m 67 #[.val (.int p1), .val (.int p2), .val (.int p3), .val (.int p4), .val (.int vN), .val (.int vO), .val (.int vW), .val (.int vF), .unset, .unset] [(.int vF), (.int (6 : Int32)), (.ref b5), (.ref b5)])) rfl rfl (hb hby at_67)
  have KC42 : Keep h0 h41 [] := KC37.wr W41 (Or.inr sz7)
  have V41 : Arv Z h41 b5 k5 .char (16 : Int32) [(.int vF.toUInt32.toUInt16.toUInt32.toInt32), (.int vF.toUInt32.toUInt16.toUInt32.toInt32), (.int vF.toUInt32.toUInt16.toUInt32.toInt32), (.int vF.toUInt32.toUInt16.toUInt32.toInt32), (.int vF.toUInt32.toUInt16.toUInt32.toInt32), (.int vF.toUInt32.toUInt16.toUInt32.toInt32), (.int vF.toUInt32.toUInt16.toUInt32.toInt32), (.int (0 : Int32)), (.int (0 : Int32)), (.int (0 : Int32)), (.int (0 : Int32)), (.int (0 : Int32)), (.int (0 : Int32)), (.int (0 : Int32)), (.int (0 : Int32)), (.int (0 : Int32))] (.int (0 : Int32)) := Arv.set Arc39 Aqc39 Asc39 Anc39 Ahc39 Agc39 (fits_nar_char _) W41 6 rfl (Nat.le_of_ble_eq_true rfl)
  have N43 := Fr.snoc X41 N38 ge6
  have pre44 : ∀ t, Steps p.tables e below (T41.setTop (mkF m 69 #[.val (.int p1), .val (.int p2), .val (.int p3), .val (.int p4), .val (.int vN), .val (.int vO), .val (.int vW), .val (.int vF), .unset, .unset] [(.ref b5), (.ref b5)])) t → Steps p.tables e below (s₁.setTop (entryFrame m #[(.int p1), (.int p2), (.int p3), (.int p4)] maxLocals)) t := by
    intro t k
    refine pre4 t ?_
    refine XS.bipush X0.here hx rfl (hb hby at_28) ?_
    show Steps _ _ _ (s₁.setTop (mkF m 30 #[.val (.int p1), .val (.int p2), .val (.int p3), .val (.int p4), .val (.int vN), .val (.int vO), .val (.int vW), .val (.int vF), .unset, .unset] [(.int (16 : Int32))])) _
    refine st5 _ ?_
    show Steps _ _ _ (T5.setTop (mkF m 32 #[.val (.int p1), .val (.int p2), .val (.int p3), .val (.int p4), .val (.int vN), .val (.int vO), .val (.int vW), .val (.int vF), .unset, .unset] [(.ref b5)])) _
    refine XS.dup X5.here hx rfl (hb hby at_32) rfl rfl ?_
    show Steps _ _ _ (T5.setTop (mkF m 33 #[.val (.int p1), .val (.int p2), .val (.int p3), .val (.int p4), .val (.int vN), .val (.int vO), .val (.int vW), .val (.int vF), .unset, .unset] [(.ref b5), (.ref b5)])) _
    refine XS.iconst X5.here hx rfl (hb hby at_33) ?_
    show Steps _ _ _ (T5.setTop (mkF m 34 #[.val (.int p1), .val (.int p2), .val (.int p3), .val (.int p4), .val (.int vN), .val (.int vO), .val (.int vW), .val (.int vF), .unset, .unset] [(.int (0 : Int32)), (.ref b5), (.ref b5)])) _
    refine XS.iload X5.here hx rfl (hb hby at_34) rfl ?_
    show Steps _ _ _ (T5.setTop (mkF m 36 #[.val (.int p1), .val (.int p2), .val (.int p3), .val (.int p4), .val (.int vN), .val (.int vO), .val (.int vW), .val (.int vF), .unset, .unset] [(.int vF), (.int (0 : Int32)), (.ref b5), (.ref b5)])) _
    refine st11 _ ?_
    show Steps _ _ _ (T11.setTop (mkF m 37 #[.val (.int p1), .val (.int p2), .val (.int p3), .val (.int p4), .val (.int vN), .val (.int vO), .val (.int vW), .val (.int vF), .unset, .unset] [(.ref b5)])) _
    refine XS.dup X11.here hx rfl (hb hby at_37) rfl rfl ?_
    show Steps _ _ _ (T11.setTop (mkF m 38 #[.val (.int p1), .val (.int p2), .val (.int p3), .val (.int p4), .val (.int vN), .val (.int vO), .val (.int vW), .val (.int vF), .unset, .unset] [(.ref b5), (.ref b5)])) _
    refine XS.iconst X11.here hx rfl (hb hby at_38) ?_
    show Steps _ _ _ (T11.setTop (mkF m 39 #[.val (.int p1), .val (.int p2), .val (.int p3), .val (.int p4), .val (.int vN), .val (.int vO), .val (.int vW), .val (.int vF), .unset, .unset] [(.int (1 : Int32)), (.ref b5), (.ref b5)])) _
    refine XS.iload X11.here hx rfl (hb hby at_39) rfl ?_
    show Steps _ _ _ (T11.setTop (mkF m 41 #[.val (.int p1), .val (.int p2), .val (.int p3), .val (.int p4), .val (.int vN), .val (.int vO), .val (.int vW), .val (.int vF), .unset, .unset] [(.int vF), (.int (1 : Int32)), (.ref b5), (.ref b5)])) _
    refine st16 _ ?_
    show Steps _ _ _ (T16.setTop (mkF m 42 #[.val (.int p1), .val (.int p2), .val (.int p3), .val (.int p4), .val (.int vN), .val (.int vO), .val (.int vW), .val (.int vF), .unset, .unset] [(.ref b5)])) _
    refine XS.dup X16.here hx rfl (hb hby at_42) rfl rfl ?_
    show Steps _ _ _ (T16.setTop (mkF m 43 #[.val (.int p1), .val (.int p2), .val (.int p3), .val (.int p4), .val (.int vN), .val (.int vO), .val (.int vW), .val (.int vF), .unset, .unset] [(.ref b5), (.ref b5)])) _
    refine XS.iconst X16.here hx rfl (hb hby at_43) ?_
    show Steps _ _ _ (T16.setTop (mkF m 44 #[.val (.int p1), .val (.int p2), .val (.int p3), .val (.int p4), .val (.int vN), .val (.int vO), .val (.int vW), .val (.int vF), .unset, .unset] [(.int (2 : Int32)), (.ref b5), (.ref b5)])) _
    refine XS.iload X16.here hx rfl (hb hby at_44) rfl ?_
    show Steps _ _ _ (T16.setTop (mkF m 46 #[.val (.int p1), .val (.int p2), .val (.int p3), .val (.int p4), .val (.int vN), .val (.int vO), .val (.int vW), .val (.int vF), .unset, .unset] [(.int vF), (.int (2 : Int32)), (.ref b5), (.ref b5)])) _
    refine st21 _ ?_
    show Steps _ _ _ (T21.setTop (mkF m 47 #[.val (.int p1), .val (.int p2), .val (.int p3), .val (.int p4), .val (.int vN), .val (.int vO), .val (.int vW), .val (.int vF), .unset, .unset] [(.ref b5)])) _
    refine XS.dup X21.here hx rfl (hb hby at_47) rfl rfl ?_
    show Steps _ _ _ (T21.setTop (mkF m 48 #[.val (.int p1), .val (.int p2), .val (.int p3), .val (.int p4), .val (.int vN), .val (.int vO), .val (.int vW), .val (.int vF), .unset, .unset] [(.ref b5), (.ref b5)])) _
    refine XS.iconst X21.here hx rfl (hb hby at_48) ?_
    show Steps _ _ _ (T21.setTop (mkF m 49 #[.val (.int p1), .val (.int p2), .val (.int p3), .val (.int p4), .val (.int vN), .val (.int vO), .val (.int vW), .val (.int vF), .unset, .unset] [(.int (3 : Int32)), (.ref b5), (.ref b5)])) _
    refine XS.iload X21.here hx rfl (hb hby at_49) rfl ?_
    show Steps _ _ _ (T21.setTop (mkF m 51 #[.val (.int p1), .val (.int p2), .val (.int p3), .val (.int p4), .val (.int vN), .val (.int vO), .val (.int vW), .val (.int vF), .unset, .unset] [(.int vF), (.int (3 : Int32)), (.ref b5), (.ref b5)])) _
    refine st26 _ ?_
    show Steps _ _ _ (T26.setTop (mkF m 52 #[.val (.int p1), .val (.int p2), .val (.int p3), .val (.int p4), .val (.int vN), .val (.int vO), .val (.int vW), .val (.int vF), .unset, .unset] [(.ref b5)])) _
    refine XS.dup X26.here hx rfl (hb hby at_52) rfl rfl ?_
    show Steps _ _ _ (T26.setTop (mkF m 53 #[.val (.int p1), .val (.int p2), .val (.int p3), .val (.int p4), .val (.int vN), .val (.int vO), .val (.int vW), .val (.int vF), .unset, .unset] [(.ref b5), (.ref b5)])) _
    refine XS.iconst X26.here hx rfl (hb hby at_53) ?_
    show Steps _ _ _ (T26.setTop (mkF m 54 #[.val (.int p1), .val (.int p2), .val (.int p3), .val (.int p4), .val (.int vN), .val (.int vO), .val (.int vW), .val (.int vF), .unset, .unset] [(.int (4 : Int32)), (.ref b5), (.ref b5)])) _
    refine XS.iload X26.here hx rfl (hb hby at_54) rfl ?_
    show Steps _ _ _ (T26.setTop (mkF m 56 #[.val (.int p1), .val (.int p2), .val (.int p3), .val (.int p4), .val (.int vN), .val (.int vO), .val (.int vW), .val (.int vF), .unset, .unset] [(.int vF), (.int (4 : Int32)), (.ref b5), (.ref b5)])) _
    refine st31 _ ?_
    show Steps _ _ _ (T31.setTop (mkF m 57 #[.val (.int p1), .val (.int p2), .val (.int p3), .val (.int p4), .val (.int vN), .val (.int vO), .val (.int vW), .val (.int vF), .unset, .unset] [(.ref b5)])) _
    refine XS.dup X31.here hx rfl (hb hby at_57) rfl rfl ?_
    show Steps _ _ _ (T31.setTop (mkF m 58 #[.val (.int p1), .val (.int p2), .val (.int p3), .val (.int p4), .val (.int vN), .val (.int vO), .val (.int vW), .val (.int vF), .unset, .unset] [(.ref b5), (.ref b5)])) _
    refine XS.iconst X31.here hx rfl (hb hby at_58) ?_
    show Steps _ _ _ (T31.setTop (mkF m 59 #[.val (.int p1), .val (.int p2), .val (.int p3), .val (.int p4), .val (.int vN), .val (.int vO), .val (.int vW), .val (.int vF), .unset, .unset] [(.int (5 : Int32)), (.ref b5), (.ref b5)])) _
    refine XS.iload X31.here hx rfl (hb hby at_59) rfl ?_
    show Steps _ _ _ (T31.setTop (mkF m 61 #[.val (.int p1), .val (.int p2), .val (.int p3), .val (.int p4), .val (.int vN), .val (.int vO), .val (.int vW), .val (.int vF), .unset, .unset] [(.int vF), (.int (5 : Int32)), (.ref b5), (.ref b5)])) _
    refine st36 _ ?_
    show Steps _ _ _ (T36.setTop (mkF m 62 #[.val (.int p1), .val (.int p2), .val (.int p3), .val (.int p4), .val (.int vN), .val (.int vO), .val (.int vW), .val (.int vF), .unset, .unset] [(.ref b5)])) _
    refine XS.dup X36.here hx rfl (hb hby at_62) rfl rfl ?_
    show Steps _ _ _ (T36.setTop (mkF m 63 #[.val (.int p1), .val (.int p2), .val (.int p3), .val (.int p4), .val (.int vN), .val (.int vO), .val (.int vW), .val (.int vF), .unset, .unset] [(.ref b5), (.ref b5)])) _
    refine XS.bipush X36.here hx rfl (hb hby at_63) ?_
    show Steps _ _ _ (T36.setTop (mkF m 65 #[.val (.int p1), .val (.int p2), .val (.int p3), .val (.int p4), .val (.int vN), .val (.int vO), .val (.int vW), .val (.int vF), .unset, .unset] [(.int (6 : Int32)), (.ref b5), (.ref b5)])) _
    refine XS.iload X36.here hx rfl (hb hby at_65) rfl ?_
    show Steps _ _ _ (T36.setTop (mkF m 67 #[.val (.int p1), .val (.int p2), .val (.int p3), .val (.int p4), .val (.int vN), .val (.int vO), .val (.int vW), .val (.int vF), .unset, .unset] [(.int vF), (.int (6 : Int32)), (.ref b5), (.ref b5)])) _
    refine st41 _ ?_
    show Steps _ _ _ (T41.setTop (mkF m 68 #[.val (.int p1), .val (.int p2), .val (.int p3), .val (.int p4), .val (.int vN), .val (.int vO), .val (.int vW), .val (.int vF), .unset, .unset] [(.ref b5)])) _
    refine XS.dup X41.here hx rfl (hb hby at_68) rfl rfl ?_
    show Steps _ _ _ (T41.setTop (mkF m 69 #[.val (.int p1), .val (.int p2), .val (.int p3), .val (.int p4), .val (.int vN), .val (.int vO), .val (.int vW), .val (.int vF), .unset, .unset] [(.ref b5), (.ref b5)])) _
    exact k
  obtain ⟨c45, Arc45, Aqc45, Asc45, Anc45, Ahc45, Agc45⟩ := id V41
  have hin46 : ¬ ((7 : Int32) < 0 ∨ c45.slots.size ≤ ((7 : Int32)).toNatClampNeg) := inb_of Asc45 ⟨by decide, by decide⟩
  obtain ⟨T47, h47, X47, e47, W47, st47⟩ := stC X41 hx hZ e41 Arc45 (j := (7 : Int32)) hin46 (g := (mkF m 73 #[.val (.int p1), .val (.int p2), .val (.int p3), .val (.int p4), .val (.int vN), .val (.int vO), .val (.int vW), .val (.int vF), .unset, .unset] [(.int vF), (.int (7 : Int32)), (.ref b5), (.ref b5)])) rfl rfl (hb hby at_73)
  have KC48 : Keep h0 h47 [] := KC42.wr W47 (Or.inr sz7)
  have V47 : Arv Z h47 b5 k5 .char (16 : Int32) [(.int vF.toUInt32.toUInt16.toUInt32.toInt32), (.int vF.toUInt32.toUInt16.toUInt32.toInt32), (.int vF.toUInt32.toUInt16.toUInt32.toInt32), (.int vF.toUInt32.toUInt16.toUInt32.toInt32), (.int vF.toUInt32.toUInt16.toUInt32.toInt32), (.int vF.toUInt32.toUInt16.toUInt32.toInt32), (.int vF.toUInt32.toUInt16.toUInt32.toInt32), (.int vF.toUInt32.toUInt16.toUInt32.toInt32), (.int (0 : Int32)), (.int (0 : Int32)), (.int (0 : Int32)), (.int (0 : Int32)), (.int (0 : Int32)), (.int (0 : Int32)), (.int (0 : Int32)), (.int (0 : Int32))] (.int (0 : Int32)) := Arv.set Arc45 Aqc45 Asc45 Anc45 Ahc45 Agc45 (fits_nar_char _) W47 7 rfl (Nat.le_of_ble_eq_true rfl)
  have N49 := Fr.snoc X47 N43 ge6
  obtain ⟨c50, Arc50, Aqc50, Asc50, Anc50, Ahc50, Agc50⟩ := id V47
  have hin51 : ¬ ((8 : Int32) < 0 ∨ c50.slots.size ≤ ((8 : Int32)).toNatClampNeg) := inb_of Asc50 ⟨by decide, by decide⟩
  obtain ⟨T52, h52, X52, e52, W52, st52⟩ := stC X47 hx hZ e47 Arc50 (j := (8 : Int32)) hin51 (g := (mkF m 79 #[.val (.int p1), .val (.int p2), .val (.int p3), .val (.int p4), .val (.int vN), .val (.int vO), .val (.int vW), .val (.int vF), .unset, .unset] [(.int vF), (.int (8 : Int32)), (.ref b5), (.ref b5)])) rfl rfl (hb hby at_79)
  have KC53 : Keep h0 h52 [] := KC48.wr W52 (Or.inr sz7)
  have V52 : Arv Z h52 b5 k5 .char (16 : Int32) [(.int vF.toUInt32.toUInt16.toUInt32.toInt32), (.int vF.toUInt32.toUInt16.toUInt32.toInt32), (.int vF.toUInt32.toUInt16.toUInt32.toInt32), (.int vF.toUInt32.toUInt16.toUInt32.toInt32), (.int vF.toUInt32.toUInt16.toUInt32.toInt32), (.int vF.toUInt32.toUInt16.toUInt32.toInt32), (.int vF.toUInt32.toUInt16.toUInt32.toInt32), (.int vF.toUInt32.toUInt16.toUInt32.toInt32), (.int vF.toUInt32.toUInt16.toUInt32.toInt32), (.int (0 : Int32)), (.int (0 : Int32)), (.int (0 : Int32)), (.int (0 : Int32)), (.int (0 : Int32)), (.int (0 : Int32)), (.int (0 : Int32))] (.int (0 : Int32)) := Arv.set Arc50 Aqc50 Asc50 Anc50 Ahc50 Agc50 (fits_nar_char _) W52 8 rfl (Nat.le_of_ble_eq_true rfl)
  have N54 := Fr.snoc X52 N49 ge6
  obtain ⟨c55, Arc55, Aqc55, Asc55, Anc55, Ahc55, Agc55⟩ := id V52
  have hin56 : ¬ ((9 : Int32) < 0 ∨ c55.slots.size ≤ ((9 : Int32)).toNatClampNeg) := inb_of Asc55 ⟨by decide, by decide⟩
  obtain ⟨T57, h57, X57, e57, W57, st57⟩ := stC X52 hx hZ e52 Arc55 (j := (9 : Int32)) hin56 (g := (mkF m 85 #[.val (.int p1), .val (.int p2), .val (.int p3), .val (.int p4), .val (.int vN), .val (.int vO), .val (.int vW), .val (.int vF), .unset, .unset] [(.int vF), (.int (9 : Int32)), (.ref b5), (.ref b5)])) rfl rfl (hb hby at_85)
  have KC58 : Keep h0 h57 [] := KC53.wr W57 (Or.inr sz7)
  have V57 : Arv Z h57 b5 k5 .char (16 : Int32) [(.int vF.toUInt32.toUInt16.toUInt32.toInt32), (.int vF.toUInt32.toUInt16.toUInt32.toInt32), (.int vF.toUInt32.toUInt16.toUInt32.toInt32), (.int vF.toUInt32.toUInt16.toUInt32.toInt32), (.int vF.toUInt32.toUInt16.toUInt32.toInt32), (.int vF.toUInt32.toUInt16.toUInt32.toInt32), (.int vF.toUInt32.toUInt16.toUInt32.toInt32), (.int vF.toUInt32.toUInt16.toUInt32.toInt32), (.int vF.toUInt32.toUInt16.toUInt32.toInt32), (.int vF.toUInt32.toUInt16.toUInt32.toInt32), (.int (0 : Int32)), (.int (0 : Int32)), (.int (0 : Int32)), (.int (0 : Int32)), (.int (0 : Int32)), (.int (0 : Int32))] (.int (0 : Int32)) := Arv.set Arc55 Aqc55 Asc55 Anc55 Ahc55 Agc55 (fits_nar_char _) W57 9 rfl (Nat.le_of_ble_eq_true rfl)
  have N59 := Fr.snoc X57 N54 ge6
  obtain ⟨c60, Arc60, Aqc60, Asc60, Anc60, Ahc60, Agc60⟩ := id V57
  have hin61 : ¬ ((10 : Int32) < 0 ∨ c60.slots.size ≤ ((10 : Int32)).toNatClampNeg) := inb_of Asc60 ⟨by decide, by decide⟩
  obtain ⟨T62, h62, X62, e62, W62, st62⟩ := stC X57 hx hZ e57 Arc60 (j := (10 : Int32)) hin61 (g := (mkF m 91 #[.val (.int p1), .val (.int p2), .val (.int p3), .val (.int p4), .val (.int vN), .val (.int vO), .val (.int vW), .val (.int vF), .unset, .unset] [(.int vF), (.int (10 : Int32)), (.ref b5), (.ref b5)])) rfl rfl (hb hby at_91)
  have KC63 : Keep h0 h62 [] := KC58.wr W62 (Or.inr sz7)
  have V62 : Arv Z h62 b5 k5 .char (16 : Int32) [(.int vF.toUInt32.toUInt16.toUInt32.toInt32), (.int vF.toUInt32.toUInt16.toUInt32.toInt32), (.int vF.toUInt32.toUInt16.toUInt32.toInt32), (.int vF.toUInt32.toUInt16.toUInt32.toInt32), (.int vF.toUInt32.toUInt16.toUInt32.toInt32), (.int vF.toUInt32.toUInt16.toUInt32.toInt32), (.int vF.toUInt32.toUInt16.toUInt32.toInt32), (.int vF.toUInt32.toUInt16.toUInt32.toInt32), (.int vF.toUInt32.toUInt16.toUInt32.toInt32), (.int vF.toUInt32.toUInt16.toUInt32.toInt32), (.int vF.toUInt32.toUInt16.toUInt32.toInt32), (.int (0 : Int32)), (.int (0 : Int32)), (.int (0 : Int32)), (.int (0 : Int32)), (.int (0 : Int32))] (.int (0 : Int32)) := Arv.set Arc60 Aqc60 Asc60 Anc60 Ahc60 Agc60 (fits_nar_char _) W62 10 rfl (Nat.le_of_ble_eq_true rfl)
  have N64 := Fr.snoc X62 N59 ge6
  obtain ⟨c65, Arc65, Aqc65, Asc65, Anc65, Ahc65, Agc65⟩ := id V62
  have hin66 : ¬ ((11 : Int32) < 0 ∨ c65.slots.size ≤ ((11 : Int32)).toNatClampNeg) := inb_of Asc65 ⟨by decide, by decide⟩
  obtain ⟨T67, h67, X67, e67, W67, st67⟩ := stC X62 hx hZ e62 Arc65 (j := (11 : Int32)) hin66 (g := (mkF m 97 #[.val (.int p1), .val (.int p2), .val (.int p3), .val (.int p4), .val (.int vN), .val (.int vO), .val (.int vW), .val (.int vF), .unset, .unset] [(.int vF), (.int (11 : Int32)), (.ref b5), (.ref b5)])) rfl rfl (hb hby at_97)
  have KC68 : Keep h0 h67 [] := KC63.wr W67 (Or.inr sz7)
  have V67 : Arv Z h67 b5 k5 .char (16 : Int32) [(.int vF.toUInt32.toUInt16.toUInt32.toInt32), (.int vF.toUInt32.toUInt16.toUInt32.toInt32), (.int vF.toUInt32.toUInt16.toUInt32.toInt32), (.int vF.toUInt32.toUInt16.toUInt32.toInt32), (.int vF.toUInt32.toUInt16.toUInt32.toInt32), (.int vF.toUInt32.toUInt16.toUInt32.toInt32), (.int vF.toUInt32.toUInt16.toUInt32.toInt32), (.int vF.toUInt32.toUInt16.toUInt32.toInt32), (.int vF.toUInt32.toUInt16.toUInt32.toInt32), (.int vF.toUInt32.toUInt16.toUInt32.toInt32), (.int vF.toUInt32.toUInt16.toUInt32.toInt32), (.int vF.toUInt32.toUInt16.toUInt32.toInt32), (.int (0 : Int32)), (.int (0 : Int32)), (.int (0 : Int32)), (.int (0 : Int32))] (.int (0 : Int32)) := Arv.set Arc65 Aqc65 Asc65 Anc65 Ahc65 Agc65 (fits_nar_char _) W67 11 rfl (Nat.le_of_ble_eq_true rfl)
  have N69 := Fr.snoc X67 N64 ge6
  obtain ⟨c70, Arc70, Aqc70, Asc70, Anc70, Ahc70, Agc70⟩ := id V67
  have hin71 : ¬ ((12 : Int32) < 0 ∨ c70.slots.size ≤ ((12 : Int32)).toNatClampNeg) := inb_of Asc70 ⟨by decide, by decide⟩
  obtain ⟨T72, h72, X72, e72, W72, st72⟩ := stC X67 hx hZ e67 Arc70 (j := (12 : Int32)) hin71 (g := (mkF m 103 #[.val (.int p1), .val (.int p2), .val (.int p3), .val (.int p4), .val (.int vN), .val (.int vO), .val (.int vW), .val (.int vF), .unset, .unset] [(.int vF), (.int (12 : Int32)), (.ref b5), (.ref b5)])) rfl rfl (hb hby at_103)
  have KC73 : Keep h0 h72 [] := KC68.wr W72 (Or.inr sz7)
  have V72 : Arv Z h72 b5 k5 .char (16 : Int32) [(.int vF.toUInt32.toUInt16.toUInt32.toInt32), (.int vF.toUInt32.toUInt16.toUInt32.toInt32), (.int vF.toUInt32.toUInt16.toUInt32.toInt32), (.int vF.toUInt32.toUInt16.toUInt32.toInt32), (.int vF.toUInt32.toUInt16.toUInt32.toInt32), (.int vF.toUInt32.toUInt16.toUInt32.toInt32), (.int vF.toUInt32.toUInt16.toUInt32.toInt32), (.int vF.toUInt32.toUInt16.toUInt32.toInt32), (.int vF.toUInt32.toUInt16.toUInt32.toInt32), (.int vF.toUInt32.toUInt16.toUInt32.toInt32), (.int vF.toUInt32.toUInt16.toUInt32.toInt32), (.int vF.toUInt32.toUInt16.toUInt32.toInt32), (.int vF.toUInt32.toUInt16.toUInt32.toInt32), (.int (0 : Int32)), (.int (0 : Int32)), (.int (0 : Int32))] (.int (0 : Int32)) := Arv.set Arc70 Aqc70 Asc70 Anc70 Ahc70 Agc70 (fits_nar_char _) W72 12 rfl (Nat.le_of_ble_eq_true rfl)
  have N74 := Fr.snoc X72 N69 ge6
  obtain ⟨c75, Arc75, Aqc75, Asc75, Anc75, Ahc75, Agc75⟩ := id V72
  have hin76 : ¬ ((13 : Int32) < 0 ∨ c75.slots.size ≤ ((13 : Int32)).toNatClampNeg) := inb_of Asc75 ⟨by decide, by decide⟩
  obtain ⟨T77, h77, X77, e77, W77, st77⟩ := stC X72 hx hZ e72 Arc75 (j := (13 : Int32)) hin76 (g := (mkF m 109 #[.val (.int p1), .val (.int p2), .val (.int p3), .val (.int p4), .val (.int vN), .val (.int vO), .val (.int vW), .val (.int vF), .unset, .unset] [(.int vF), (.int (13 : Int32)), (.ref b5), (.ref b5)])) rfl rfl (hb hby at_109)
  have KC78 : Keep h0 h77 [] := KC73.wr W77 (Or.inr sz7)
  have V77 : Arv Z h77 b5 k5 .char (16 : Int32) [(.int vF.toUInt32.toUInt16.toUInt32.toInt32), (.int vF.toUInt32.toUInt16.toUInt32.toInt32), (.int vF.toUInt32.toUInt16.toUInt32.toInt32), (.int vF.toUInt32.toUInt16.toUInt32.toInt32), (.int vF.toUInt32.toUInt16.toUInt32.toInt32), (.int vF.toUInt32.toUInt16.toUInt32.toInt32), (.int vF.toUInt32.toUInt16.toUInt32.toInt32), (.int vF.toUInt32.toUInt16.toUInt32.toInt32), (.int vF.toUInt32.toUInt16.toUInt32.toInt32), (.int vF.toUInt32.toUInt16.toUInt32.toInt32), (.int vF.toUInt32.toUInt16.toUInt32.toInt32), (.int vF.toUInt32.toUInt16.toUInt32.toInt32), (.int vF.toUInt32.toUInt16.toUInt32.toInt32), (.int vF.toUInt32.toUInt16.toUInt32.toInt32), (.int (0 : Int32)), (.int (0 : Int32))] (.int (0 : Int32)) := Arv.set Arc75 Aqc75 Asc75 Anc75 Ahc75 Agc75 (fits_nar_char _) W77 13 rfl (Nat.le_of_ble_eq_true rfl)
  have N79 := Fr.snoc X77 N74 ge6
  obtain ⟨c80, Arc80, Aqc80, Asc80, Anc80, Ahc80, Agc80⟩ := id V77
  have hin81 : ¬ ((14 : Int32) < 0 ∨ c80.slots.size ≤ ((14 : Int32)).toNatClampNeg) := inb_of Asc80 ⟨by decide, by decide⟩
  obtain ⟨T82, h82, X82, e82, W82, st82⟩ := stC X77 hx hZ e77 Arc80 (j := (14 : Int32)) hin81 (g := (mkF m 115 #[.val (.int p1), .val (.int p2), .val (.int p3), .val (.int p4), .val (.int vN), .val (.int vO), .val (.int vW), .val (.int vF), .unset, .unset] [(.int vF), (.int (14 : Int32)), (.ref b5), (.ref b5)])) rfl rfl (hb hby at_115)
  have KC83 : Keep h0 h82 [] := KC78.wr W82 (Or.inr sz7)
  have V82 : Arv Z h82 b5 k5 .char (16 : Int32) [(.int vF.toUInt32.toUInt16.toUInt32.toInt32), (.int vF.toUInt32.toUInt16.toUInt32.toInt32), (.int vF.toUInt32.toUInt16.toUInt32.toInt32), (.int vF.toUInt32.toUInt16.toUInt32.toInt32), (.int vF.toUInt32.toUInt16.toUInt32.toInt32), (.int vF.toUInt32.toUInt16.toUInt32.toInt32), (.int vF.toUInt32.toUInt16.toUInt32.toInt32), (.int vF.toUInt32.toUInt16.toUInt32.toInt32), (.int vF.toUInt32.toUInt16.toUInt32.toInt32), (.int vF.toUInt32.toUInt16.toUInt32.toInt32), (.int vF.toUInt32.toUInt16.toUInt32.toInt32), (.int vF.toUInt32.toUInt16.toUInt32.toInt32), (.int vF.toUInt32.toUInt16.toUInt32.toInt32), (.int vF.toUInt32.toUInt16.toUInt32.toInt32), (.int vF.toUInt32.toUInt16.toUInt32.toInt32), (.int (0 : Int32))] (.int (0 : Int32)) := Arv.set Arc80 Aqc80 Asc80 Anc80 Ahc80 Agc80 (fits_nar_char _) W82 14 rfl (Nat.le_of_ble_eq_true rfl)
  have N84 := Fr.snoc X82 N79 ge6
  have pre85 : ∀ t, Steps p.tables e below (T82.setTop (mkF m 116 #[.val (.int p1), .val (.int p2), .val (.int p3), .val (.int p4), .val (.int vN), .val (.int vO), .val (.int vW), .val (.int vF), .unset, .unset] [(.ref b5)])) t → Steps p.tables e below (s₁.setTop (entryFrame m #[(.int p1), (.int p2), (.int p3), (.int p4)] maxLocals)) t := by
    intro t k
    refine pre44 t ?_
    refine XS.bipush X41.here hx rfl (hb hby at_69) ?_
    show Steps _ _ _ (T41.setTop (mkF m 71 #[.val (.int p1), .val (.int p2), .val (.int p3), .val (.int p4), .val (.int vN), .val (.int vO), .val (.int vW), .val (.int vF), .unset, .unset] [(.int (7 : Int32)), (.ref b5), (.ref b5)])) _
    refine XS.iload X41.here hx rfl (hb hby at_71) rfl ?_
    show Steps _ _ _ (T41.setTop (mkF m 73 #[.val (.int p1), .val (.int p2), .val (.int p3), .val (.int p4), .val (.int vN), .val (.int vO), .val (.int vW), .val (.int vF), .unset, .unset] [(.int vF), (.int (7 : Int32)), (.ref b5), (.ref b5)])) _
    refine st47 _ ?_
    show Steps _ _ _ (T47.setTop (mkF m 74 #[.val (.int p1), .val (.int p2), .val (.int p3), .val (.int p4), .val (.int vN), .val (.int vO), .val (.int vW), .val (.int vF), .unset, .unset] [(.ref b5)])) _
    refine XS.dup X47.here hx rfl (hb hby at_74) rfl rfl ?_
    show Steps _ _ _ (T47.setTop (mkF m 75 #[.val (.int p1), .val (.int p2), .val (.int p3), .val (.int p4), .val (.int vN), .val (.int vO), .val (.int vW), .val (.int vF), .unset, .unset] [(.ref b5), (.ref b5)])) _
    refine XS.bipush X47.here hx rfl (hb hby at_75) ?_
    show Steps _ _ _ (T47.setTop (mkF m 77 #[.val (.int p1), .val (.int p2), .val (.int p3), .val (.int p4), .val (.int vN), .val (.int vO), .val (.int vW), .val (.int vF), .unset, .unset] [(.int (8 : Int32)), (.ref b5), (.ref b5)])) _
    refine XS.iload X47.here hx rfl (hb hby at_77) rfl ?_
    show Steps _ _ _ (T47.setTop (mkF m 79 #[.val (.int p1), .val (.int p2), .val (.int p3), .val (.int p4), .val (.int vN), .val (.int vO), .val (.int vW), .val (.int vF), .unset, .unset] [(.int vF), (.int (8 : Int32)), (.ref b5), (.ref b5)])) _
    refine st52 _ ?_
    show Steps _ _ _ (T52.setTop (mkF m 80 #[.val (.int p1), .val (.int p2), .val (.int p3), .val (.int p4), .val (.int vN), .val (.int vO), .val (.int vW), .val (.int vF), .unset, .unset] [(.ref b5)])) _
    refine XS.dup X52.here hx rfl (hb hby at_80) rfl rfl ?_
    show Steps _ _ _ (T52.setTop (mkF m 81 #[.val (.int p1), .val (.int p2), .val (.int p3), .val (.int p4), .val (.int vN), .val (.int vO), .val (.int vW), .val (.int vF), .unset, .unset] [(.ref b5), (.ref b5)])) _
    refine XS.bipush X52.here hx rfl (hb hby at_81) ?_
    show Steps _ _ _ (T52.setTop (mkF m 83 #[.val (.int p1), .val (.int p2), .val (.int p3), .val (.int p4), .val (.int vN), .val (.int vO), .val (.int vW), .val (.int vF), .unset, .unset] [(.int (9 : Int32)), (.ref b5), (.ref b5)])) _
    refine XS.iload X52.here hx rfl (hb hby at_83) rfl ?_
    show Steps _ _ _ (T52.setTop (mkF m 85 #[.val (.int p1), .val (.int p2), .val (.int p3), .val (.int p4), .val (.int vN), .val (.int vO), .val (.int vW), .val (.int vF), .unset, .unset] [(.int vF), (.int (9 : Int32)), (.ref b5), (.ref b5)])) _
    refine st57 _ ?_
    show Steps _ _ _ (T57.setTop (mkF m 86 #[.val (.int p1), .val (.int p2), .val (.int p3), .val (.int p4), .val (.int vN), .val (.int vO), .val (.int vW), .val (.int vF), .unset, .unset] [(.ref b5)])) _
    refine XS.dup X57.here hx rfl (hb hby at_86) rfl rfl ?_
    show Steps _ _ _ (T57.setTop (mkF m 87 #[.val (.int p1), .val (.int p2), .val (.int p3), .val (.int p4), .val (.int vN), .val (.int vO), .val (.int vW), .val (.int vF), .unset, .unset] [(.ref b5), (.ref b5)])) _
    refine XS.bipush X57.here hx rfl (hb hby at_87) ?_
    show Steps _ _ _ (T57.setTop (mkF m 89 #[.val (.int p1), .val (.int p2), .val (.int p3), .val (.int p4), .val (.int vN), .val (.int vO), .val (.int vW), .val (.int vF), .unset, .unset] [(.int (10 : Int32)), (.ref b5), (.ref b5)])) _
    refine XS.iload X57.here hx rfl (hb hby at_89) rfl ?_
    show Steps _ _ _ (T57.setTop (mkF m 91 #[.val (.int p1), .val (.int p2), .val (.int p3), .val (.int p4), .val (.int vN), .val (.int vO), .val (.int vW), .val (.int vF), .unset, .unset] [(.int vF), (.int (10 : Int32)), (.ref b5), (.ref b5)])) _
    refine st62 _ ?_
    show Steps _ _ _ (T62.setTop (mkF m 92 #[.val (.int p1), .val (.int p2), .val (.int p3), .val (.int p4), .val (.int vN), .val (.int vO), .val (.int vW), .val (.int vF), .unset, .unset] [(.ref b5)])) _
    refine XS.dup X62.here hx rfl (hb hby at_92) rfl rfl ?_
    show Steps _ _ _ (T62.setTop (mkF m 93 #[.val (.int p1), .val (.int p2), .val (.int p3), .val (.int p4), .val (.int vN), .val (.int vO), .val (.int vW), .val (.int vF), .unset, .unset] [(.ref b5), (.ref b5)])) _
    refine XS.bipush X62.here hx rfl (hb hby at_93) ?_
    show Steps _ _ _ (T62.setTop (mkF m 95 #[.val (.int p1), .val (.int p2), .val (.int p3), .val (.int p4), .val (.int vN), .val (.int vO), .val (.int vW), .val (.int vF), .unset, .unset] [(.int (11 : Int32)), (.ref b5), (.ref b5)])) _
    refine XS.iload X62.here hx rfl (hb hby at_95) rfl ?_
    show Steps _ _ _ (T62.setTop (mkF m 97 #[.val (.int p1), .val (.int p2), .val (.int p3), .val (.int p4), .val (.int vN), .val (.int vO), .val (.int vW), .val (.int vF), .unset, .unset] [(.int vF), (.int (11 : Int32)), (.ref b5), (.ref b5)])) _
    refine st67 _ ?_
    show Steps _ _ _ (T67.setTop (mkF m 98 #[.val (.int p1), .val (.int p2), .val (.int p3), .val (.int p4), .val (.int vN), .val (.int vO), .val (.int vW), .val (.int vF), .unset, .unset] [(.ref b5)])) _
    refine XS.dup X67.here hx rfl (hb hby at_98) rfl rfl ?_
    show Steps _ _ _ (T67.setTop (mkF m 99 #[.val (.int p1), .val (.int p2), .val (.int p3), .val (.int p4), .val (.int vN), .val (.int vO), .val (.int vW), .val (.int vF), .unset, .unset] [(.ref b5), (.ref b5)])) _
    refine XS.bipush X67.here hx rfl (hb hby at_99) ?_
    show Steps _ _ _ (T67.setTop (mkF m 101 #[.val (.int p1), .val (.int p2), .val (.int p3), .val (.int p4), .val (.int vN), .val (.int vO), .val (.int vW), .val (.int vF), .unset, .unset] [(.int (12 : Int32)), (.ref b5), (.ref b5)])) _
    refine XS.iload X67.here hx rfl (hb hby at_101) rfl ?_
    show Steps _ _ _ (T67.setTop (mkF m 103 #[.val (.int p1), .val (.int p2), .val (.int p3), .val (.int p4), .val (.int vN), .val (.int vO), .val (.int vW), .val (.int vF), .unset, .unset] [(.int vF), (.int (12 : Int32)), (.ref b5), (.ref b5)])) _
    refine st72 _ ?_
    show Steps _ _ _ (T72.setTop (mkF m 104 #[.val (.int p1), .val (.int p2), .val (.int p3), .val (.int p4), .val (.int vN), .val (.int vO), .val (.int vW), .val (.int vF), .unset, .unset] [(.ref b5)])) _
    refine XS.dup X72.here hx rfl (hb hby at_104) rfl rfl ?_
    show Steps _ _ _ (T72.setTop (mkF m 105 #[.val (.int p1), .val (.int p2), .val (.int p3), .val (.int p4), .val (.int vN), .val (.int vO), .val (.int vW), .val (.int vF), .unset, .unset] [(.ref b5), (.ref b5)])) _
    refine XS.bipush X72.here hx rfl (hb hby at_105) ?_
    show Steps _ _ _ (T72.setTop (mkF m 107 #[.val (.int p1), .val (.int p2), .val (.int p3), .val (.int p4), .val (.int vN), .val (.int vO), .val (.int vW), .val (.int vF), .unset, .unset] [(.int (13 : Int32)), (.ref b5), (.ref b5)])) _
    refine XS.iload X72.here hx rfl (hb hby at_107) rfl ?_
    show Steps _ _ _ (T72.setTop (mkF m 109 #[.val (.int p1), .val (.int p2), .val (.int p3), .val (.int p4), .val (.int vN), .val (.int vO), .val (.int vW), .val (.int vF), .unset, .unset] [(.int vF), (.int (13 : Int32)), (.ref b5), (.ref b5)])) _
    refine st77 _ ?_
    show Steps _ _ _ (T77.setTop (mkF m 110 #[.val (.int p1), .val (.int p2), .val (.int p3), .val (.int p4), .val (.int vN), .val (.int vO), .val (.int vW), .val (.int vF), .unset, .unset] [(.ref b5)])) _
    refine XS.dup X77.here hx rfl (hb hby at_110) rfl rfl ?_
    show Steps _ _ _ (T77.setTop (mkF m 111 #[.val (.int p1), .val (.int p2), .val (.int p3), .val (.int p4), .val (.int vN), .val (.int vO), .val (.int vW), .val (.int vF), .unset, .unset] [(.ref b5), (.ref b5)])) _
    refine XS.bipush X77.here hx rfl (hb hby at_111) ?_
    show Steps _ _ _ (T77.setTop (mkF m 113 #[.val (.int p1), .val (.int p2), .val (.int p3), .val (.int p4), .val (.int vN), .val (.int vO), .val (.int vW), .val (.int vF), .unset, .unset] [(.int (14 : Int32)), (.ref b5), (.ref b5)])) _
    refine XS.iload X77.here hx rfl (hb hby at_113) rfl ?_
    show Steps _ _ _ (T77.setTop (mkF m 115 #[.val (.int p1), .val (.int p2), .val (.int p3), .val (.int p4), .val (.int vN), .val (.int vO), .val (.int vW), .val (.int vF), .unset, .unset] [(.int vF), (.int (14 : Int32)), (.ref b5), (.ref b5)])) _
    refine st82 _ ?_
    show Steps _ _ _ (T82.setTop (mkF m 116 #[.val (.int p1), .val (.int p2), .val (.int p3), .val (.int p4), .val (.int vN), .val (.int vO), .val (.int vW), .val (.int vF), .unset, .unset] [(.ref b5)])) _
    exact k
  obtain ⟨c86, Arc86, Aqc86, Asc86, Anc86, Ahc86, Agc86⟩ := id V82
  have hin87 : ¬ ((15 : Int32) < 0 ∨ c86.slots.size ≤ ((15 : Int32)).toNatClampNeg) := inb_of Asc86 ⟨by decide, by decide⟩
  obtain ⟨T88, h88, X88, e88, W88, st88⟩ := stC X82 hx hZ e82 Arc86 (j := (15 : Int32)) hin87 (g := (mkF m 121 #[.val (.int p1), .val (.int p2), .val (.int p3), .val (.int p4), .val (.int vN), .val (.int vO), .val (.int vW), .val (.int vF), .unset, .unset] [(.int vF), (.int (15 : Int32)), (.ref b5), (.ref b5)])) rfl rfl (hb hby at_121)
  have KC89 : Keep h0 h88 [] := KC83.wr W88 (Or.inr sz7)
  have V88 : Arv Z h88 b5 k5 .char (16 : Int32) [(.int vF.toUInt32.toUInt16.toUInt32.toInt32), (.int vF.toUInt32.toUInt16.toUInt32.toInt32), (.int vF.toUInt32.toUInt16.toUInt32.toInt32), (.int vF.toUInt32.toUInt16.toUInt32.toInt32), (.int vF.toUInt32.toUInt16.toUInt32.toInt32), (.int vF.toUInt32.toUInt16.toUInt32.toInt32), (.int vF.toUInt32.toUInt16.toUInt32.toInt32), (.int vF.toUInt32.toUInt16.toUInt32.toInt32), (.int vF.toUInt32.toUInt16.toUInt32.toInt32), (.int vF.toUInt32.toUInt16.toUInt32.toInt32), (.int vF.toUInt32.toUInt16.toUInt32.toInt32), (.int vF.toUInt32.toUInt16.toUInt32.toInt32), (.int vF.toUInt32.toUInt16.toUInt32.toInt32), (.int vF.toUInt32.toUInt16.toUInt32.toInt32), (.int vF.toUInt32.toUInt16.toUInt32.toInt32), (.int vF.toUInt32.toUInt16.toUInt32.toInt32)] (.int (0 : Int32)) := Arv.set Arc86 Aqc86 Asc86 Anc86 Ahc86 Agc86 (fits_nar_char _) W88 15 rfl (Nat.le_of_ble_eq_true rfl)
  have N90 := Fr.snoc X88 N84 ge6
  obtain ⟨T91, h91, k91, X91, e91, E91, A91, st91⟩ := newP X88 hx hZ (hw _ (List.mem_of_getElem? (i := 2) rfl)) e88 (g := (mkF m 126 #[.val (.int p1), .val (.int p2), .val (.int p3), .val (.int p4), .val (.int vN), .val (.int vO), .val (.int vW), .val (.int vF), .val (.ref b5), .unset] [(.int (12 : Int32))])) rfl (hb hby at_126) rfl (by decide) (cap := 12) (by decide) (by decide) (by decide) (by decide)
  obtain ⟨b91, g91⟩ : ∃ z, z = h88.size := ⟨_, rfl⟩
  rw [← g91] at A91 st91
  have ne92 : b5 ≠ b91 := Nat.ne_of_lt (Nat.lt_of_lt_of_le V88.lt (Nat.le_of_eq g91.symm))
  have ge93 : n0 ≤ b91 := Nat.le_trans (Nat.le_trans Z0 KC89.1) (Nat.le_of_eq g91.symm)
  have sz94 : h0.size ≤ b91 := Nat.le_trans KC89.1 (Nat.le_of_eq g91.symm)
  have KC95 : Keep h0 h91 [] := KC89.ext E91
  have V91 : Arv Z h91 b91 k91 .long (12 : Int32) [(.long (0 : Int64)), (.long (0 : Int64)), (.long (0 : Int64)), (.long (0 : Int64)), (.long (0 : Int64)), (.long (0 : Int64)), (.long (0 : Int64)), (.long (0 : Int64)), (.long (0 : Int64)), (.long (0 : Int64)), (.long (0 : Int64)), (.long (0 : Int64))] (.long (0 : Int64)) := (Arv.new A91 (by decide)).pad (pad_rep [] (.long (0 : Int64)) 12)
  obtain ⟨c96, Arc96, Aqc96, Asc96, Anc96, Ahc96, Agc96⟩ := id V91
  have hin97 : ¬ ((0 : Int32) < 0 ∨ c96.slots.size ≤ ((0 : Int32)).toNatClampNeg) := inb_of Asc96 ⟨by decide, by decide⟩
  obtain ⟨T98, h98, X98, e98, W98, st98⟩ := stJ X91 hx hZ e91 Arc96 (j := (0 : Int32)) hin97 (g := (mkF m 131 #[.val (.int p1), .val (.int p2), .val (.int p3), .val (.int p4), .val (.int vN), .val (.int vO), .val (.int vW), .val (.int vF), .val (.ref b5), .unset] [(.long (1 : Int64)), (.int (0 : Int32)), (.ref b91), (.ref b91)])) rfl rfl (hb hby at_131)
  have KC99 : Keep h0 h98 [] := KC95.wr W98 (Or.inr sz94)
  have V98 : Arv Z h98 b91 k91 .long (12 : Int32) [(.long (1 : Int64)), (.long (0 : Int64)), (.long (0 : Int64)), (.long (0 : Int64)), (.long (0 : Int64)), (.long (0 : Int64)), (.long (0 : Int64)), (.long (0 : Int64)), (.long (0 : Int64)), (.long (0 : Int64)), (.long (0 : Int64)), (.long (0 : Int64))] (.long (0 : Int64)) := Arv.set Arc96 Aqc96 Asc96 Anc96 Ahc96 Agc96 rfl W98 0 rfl (Nat.le_of_ble_eq_true rfl)
  have N100 := Fr.snoc X98 N90 ge93
  obtain ⟨c101, Arc101, Aqc101, Asc101, Anc101, Ahc101, Agc101⟩ := id V98
  have hin102 : ¬ ((1 : Int32) < 0 ∨ c101.slots.size ≤ ((1 : Int32)).toNatClampNeg) := inb_of Asc101 ⟨by decide, by decide⟩
  obtain ⟨T103, h103, X103, e103, W103, st103⟩ := stJ X98 hx hZ e98 Arc101 (j := (1 : Int32)) hin102 (g := (mkF m 137 #[.val (.int p1), .val (.int p2), .val (.int p3), .val (.int p4), .val (.int vN), .val (.int vO), .val (.int vW), .val (.int vF), .val (.ref b5), .unset] [(.long (10 : Int64)), (.int (1 : Int32)), (.ref b91), (.ref b91)])) rfl rfl (hb hby at_137)
  have KC104 : Keep h0 h103 [] := KC99.wr W103 (Or.inr sz94)
  have V103 : Arv Z h103 b91 k91 .long (12 : Int32) [(.long (1 : Int64)), (.long (10 : Int64)), (.long (0 : Int64)), (.long (0 : Int64)), (.long (0 : Int64)), (.long (0 : Int64)), (.long (0 : Int64)), (.long (0 : Int64)), (.long (0 : Int64)), (.long (0 : Int64)), (.long (0 : Int64)), (.long (0 : Int64))] (.long (0 : Int64)) := Arv.set Arc101 Aqc101 Asc101 Anc101 Ahc101 Agc101 rfl W103 1 rfl (Nat.le_of_ble_eq_true rfl)
  have N105 := Fr.snoc X103 N100 ge93
  obtain ⟨c106, Arc106, Aqc106, Asc106, Anc106, Ahc106, Agc106⟩ := id V103
  have hin107 : ¬ ((2 : Int32) < 0 ∨ c106.slots.size ≤ ((2 : Int32)).toNatClampNeg) := inb_of Asc106 ⟨by decide, by decide⟩
  obtain ⟨T108, h108, X108, e108, W108, st108⟩ := stJ X103 hx hZ e103 Arc106 (j := (2 : Int32)) hin107 (g := (mkF m 143 #[.val (.int p1), .val (.int p2), .val (.int p3), .val (.int p4), .val (.int vN), .val (.int vO), .val (.int vW), .val (.int vF), .val (.ref b5), .unset] [(.long (100 : Int64)), (.int (2 : Int32)), (.ref b91), (.ref b91)])) rfl rfl (hb hby at_143)
  have KC109 : Keep h0 h108 [] := KC104.wr W108 (Or.inr sz94)
  have V108 : Arv Z h108 b91 k91 .long (12 : Int32) [(.long (1 : Int64)), (.long (10 : Int64)), (.long (100 : Int64)), (.long (0 : Int64)), (.long (0 : Int64)), (.long (0 : Int64)), (.long (0 : Int64)), (.long (0 : Int64)), (.long (0 : Int64)), (.long (0 : Int64)), (.long (0 : Int64)), (.long (0 : Int64))] (.long (0 : Int64)) := Arv.set Arc106 Aqc106 Asc106 Anc106 Ahc106 Agc106 rfl W108 2 rfl (Nat.le_of_ble_eq_true rfl)
  have N110 := Fr.snoc X108 N105 ge93
  obtain ⟨c111, Arc111, Aqc111, Asc111, Anc111, Ahc111, Agc111⟩ := id V108
  have hin112 : ¬ ((3 : Int32) < 0 ∨ c111.slots.size ≤ ((3 : Int32)).toNatClampNeg) := inb_of Asc111 ⟨by decide, by decide⟩
  obtain ⟨T113, h113, X113, e113, W113, st113⟩ := stJ X108 hx hZ e108 Arc111 (j := (3 : Int32)) hin112 (g := (mkF m 149 #[.val (.int p1), .val (.int p2), .val (.int p3), .val (.int p4), .val (.int vN), .val (.int vO), .val (.int vW), .val (.int vF), .val (.ref b5), .unset] [(.long (1000 : Int64)), (.int (3 : Int32)), (.ref b91), (.ref b91)])) rfl rfl (hb hby at_149)
  have KC114 : Keep h0 h113 [] := KC109.wr W113 (Or.inr sz94)
  have V113 : Arv Z h113 b91 k91 .long (12 : Int32) [(.long (1 : Int64)), (.long (10 : Int64)), (.long (100 : Int64)), (.long (1000 : Int64)), (.long (0 : Int64)), (.long (0 : Int64)), (.long (0 : Int64)), (.long (0 : Int64)), (.long (0 : Int64)), (.long (0 : Int64)), (.long (0 : Int64)), (.long (0 : Int64))] (.long (0 : Int64)) := Arv.set Arc111 Aqc111 Asc111 Anc111 Ahc111 Agc111 rfl W113 3 rfl (Nat.le_of_ble_eq_true rfl)
  have N115 := Fr.snoc X113 N110 ge93
  obtain ⟨c116, Arc116, Aqc116, Asc116, Anc116, Ahc116, Agc116⟩ := id V113
  have hin117 : ¬ ((4 : Int32) < 0 ∨ c116.slots.size ≤ ((4 : Int32)).toNatClampNeg) := inb_of Asc116 ⟨by decide, by decide⟩
  obtain ⟨T118, h118, X118, e118, W118, st118⟩ := stJ X113 hx hZ e113 Arc116 (j := (4 : Int32)) hin117 (g := (mkF m 155 #[.val (.int p1), .val (.int p2), .val (.int p3), .val (.int p4), .val (.int vN), .val (.int vO), .val (.int vW), .val (.int vF), .val (.ref b5), .unset] [(.long (10000 : Int64)), (.int (4 : Int32)), (.ref b91), (.ref b91)])) rfl rfl (hb hby at_155)
  have KC119 : Keep h0 h118 [] := KC114.wr W118 (Or.inr sz94)
  have V118 : Arv Z h118 b91 k91 .long (12 : Int32) [(.long (1 : Int64)), (.long (10 : Int64)), (.long (100 : Int64)), (.long (1000 : Int64)), (.long (10000 : Int64)), (.long (0 : Int64)), (.long (0 : Int64)), (.long (0 : Int64)), (.long (0 : Int64)), (.long (0 : Int64)), (.long (0 : Int64)), (.long (0 : Int64))] (.long (0 : Int64)) := Arv.set Arc116 Aqc116 Asc116 Anc116 Ahc116 Agc116 rfl W118 4 rfl (Nat.le_of_ble_eq_true rfl)
  have N120 := Fr.snoc X118 N115 ge93
  obtain ⟨c121, Arc121, Aqc121, Asc121, Anc121, Ahc121, Agc121⟩ := id V118
  have hin122 : ¬ ((5 : Int32) < 0 ∨ c121.slots.size ≤ ((5 : Int32)).toNatClampNeg) := inb_of Asc121 ⟨by decide, by decide⟩
  obtain ⟨T123, h123, X123, e123, W123, st123⟩ := stJ X118 hx hZ e118 Arc121 (j := (5 : Int32)) hin122 (g := (mkF m 161 #[.val (.int p1), .val (.int p2), .val (.int p3), .val (.int p4), .val (.int vN), .val (.int vO), .val (.int vW), .val (.int vF), .val (.ref b5), .unset] [(.long (100000 : Int64)), (.int (5 : Int32)), (.ref b91), (.ref b91)])) rfl rfl (hb hby at_161)
  have KC124 : Keep h0 h123 [] := KC119.wr W123 (Or.inr sz94)
  have V123 : Arv Z h123 b91 k91 .long (12 : Int32) [(.long (1 : Int64)), (.long (10 : Int64)), (.long (100 : Int64)), (.long (1000 : Int64)), (.long (10000 : Int64)), (.long (100000 : Int64)), (.long (0 : Int64)), (.long (0 : Int64)), (.long (0 : Int64)), (.long (0 : Int64)), (.long (0 : Int64)), (.long (0 : Int64))] (.long (0 : Int64)) := Arv.set Arc121 Aqc121 Asc121 Anc121 Ahc121 Agc121 rfl W123 5 rfl (Nat.le_of_ble_eq_true rfl)
  have N125 := Fr.snoc X123 N120 ge93
  have pre126 : ∀ t, Steps p.tables e below (T123.setTop (mkF m 162 #[.val (.int p1), .val (.int p2), .val (.int p3), .val (.int p4), .val (.int vN), .val (.int vO), .val (.int vW), .val (.int vF), .val (.ref b5), .unset] [(.ref b91)])) t → Steps p.tables e below (s₁.setTop (entryFrame m #[(.int p1), (.int p2), (.int p3), (.int p4)] maxLocals)) t := by
    intro t k
    refine pre85 t ?_
    refine XS.dup X82.here hx rfl (hb hby at_116) rfl rfl ?_
    show Steps _ _ _ (T82.setTop (mkF m 117 #[.val (.int p1), .val (.int p2), .val (.int p3), .val (.int p4), .val (.int vN), .val (.int vO), .val (.int vW), .val (.int vF), .unset, .unset] [(.ref b5), (.ref b5)])) _
    refine XS.bipush X82.here hx rfl (hb hby at_117) ?_
    show Steps _ _ _ (T82.setTop (mkF m 119 #[.val (.int p1), .val (.int p2), .val (.int p3), .val (.int p4), .val (.int vN), .val (.int vO), .val (.int vW), .val (.int vF), .unset, .unset] [(.int (15 : Int32)), (.ref b5), (.ref b5)])) _
    refine XS.iload X82.here hx rfl (hb hby at_119) rfl ?_
    show Steps _ _ _ (T82.setTop (mkF m 121 #[.val (.int p1), .val (.int p2), .val (.int p3), .val (.int p4), .val (.int vN), .val (.int vO), .val (.int vW), .val (.int vF), .unset, .unset] [(.int vF), (.int (15 : Int32)), (.ref b5), (.ref b5)])) _
    refine st88 _ ?_
    show Steps _ _ _ (T88.setTop (mkF m 122 #[.val (.int p1), .val (.int p2), .val (.int p3), .val (.int p4), .val (.int vN), .val (.int vO), .val (.int vW), .val (.int vF), .unset, .unset] [(.ref b5)])) _
    refine XS.astore X88.here hx rfl (hb hby at_122) rfl rfl (l' := #[.val (.int p1), .val (.int p2), .val (.int p3), .val (.int p4), .val (.int vN), .val (.int vO), .val (.int vW), .val (.int vF), .val (.ref b5), .unset]) rfl ?_
    show Steps _ _ _ (T88.setTop (mkF m 124 #[.val (.int p1), .val (.int p2), .val (.int p3), .val (.int p4), .val (.int vN), .val (.int vO), .val (.int vW), .val (.int vF), .val (.ref b5), .unset] [])) _
    refine XS.bipush X88.here hx rfl (hb hby at_124) ?_
    show Steps _ _ _ (T88.setTop (mkF m 126 #[.val (.int p1), .val (.int p2), .val (.int p3), .val (.int p4), .val (.int vN), .val (.int vO), .val (.int vW), .val (.int vF), .val (.ref b5), .unset] [(.int (12 : Int32))])) _
    refine st91 _ ?_
    show Steps _ _ _ (T91.setTop (mkF m 128 #[.val (.int p1), .val (.int p2), .val (.int p3), .val (.int p4), .val (.int vN), .val (.int vO), .val (.int vW), .val (.int vF), .val (.ref b5), .unset] [(.ref b91)])) _
    refine XS.dup X91.here hx rfl (hb hby at_128) rfl rfl ?_
    show Steps _ _ _ (T91.setTop (mkF m 129 #[.val (.int p1), .val (.int p2), .val (.int p3), .val (.int p4), .val (.int vN), .val (.int vO), .val (.int vW), .val (.int vF), .val (.ref b5), .unset] [(.ref b91), (.ref b91)])) _
    refine XS.iconst X91.here hx rfl (hb hby at_129) ?_
    show Steps _ _ _ (T91.setTop (mkF m 130 #[.val (.int p1), .val (.int p2), .val (.int p3), .val (.int p4), .val (.int vN), .val (.int vO), .val (.int vW), .val (.int vF), .val (.ref b5), .unset] [(.int (0 : Int32)), (.ref b91), (.ref b91)])) _
    refine XS.lconst X91.here hx rfl (hb hby at_130) ?_
    show Steps _ _ _ (T91.setTop (mkF m 131 #[.val (.int p1), .val (.int p2), .val (.int p3), .val (.int p4), .val (.int vN), .val (.int vO), .val (.int vW), .val (.int vF), .val (.ref b5), .unset] [(.long (1 : Int64)), (.int (0 : Int32)), (.ref b91), (.ref b91)])) _
    refine st98 _ ?_
    show Steps _ _ _ (T98.setTop (mkF m 132 #[.val (.int p1), .val (.int p2), .val (.int p3), .val (.int p4), .val (.int vN), .val (.int vO), .val (.int vW), .val (.int vF), .val (.ref b5), .unset] [(.ref b91)])) _
    refine XS.dup X98.here hx rfl (hb hby at_132) rfl rfl ?_
    show Steps _ _ _ (T98.setTop (mkF m 133 #[.val (.int p1), .val (.int p2), .val (.int p3), .val (.int p4), .val (.int vN), .val (.int vO), .val (.int vW), .val (.int vF), .val (.ref b5), .unset] [(.ref b91), (.ref b91)])) _
    refine XS.iconst X98.here hx rfl (hb hby at_133) ?_
    show Steps _ _ _ (T98.setTop (mkF m 134 #[.val (.int p1), .val (.int p2), .val (.int p3), .val (.int p4), .val (.int vN), .val (.int vO), .val (.int vW), .val (.int vF), .val (.ref b5), .unset] [(.int (1 : Int32)), (.ref b91), (.ref b91)])) _
    refine X98.ldc2Long hx hown (mvT hZ (hw _ (List.mem_of_getElem? (i := 3) rfl))) (g := (mkF m 134 #[.val (.int p1), .val (.int p2), .val (.int p3), .val (.int p4), .val (.int vN), .val (.int vO), .val (.int vW), .val (.int vF), .val (.ref b5), .unset] [(.int (1 : Int32)), (.ref b91), (.ref b91)])) rfl (hb hby at_134) _ ?_
    show Steps _ _ _ (T98.setTop (mkF m 137 #[.val (.int p1), .val (.int p2), .val (.int p3), .val (.int p4), .val (.int vN), .val (.int vO), .val (.int vW), .val (.int vF), .val (.ref b5), .unset] [(.long (10 : Int64)), (.int (1 : Int32)), (.ref b91), (.ref b91)])) _
    refine st103 _ ?_
    show Steps _ _ _ (T103.setTop (mkF m 138 #[.val (.int p1), .val (.int p2), .val (.int p3), .val (.int p4), .val (.int vN), .val (.int vO), .val (.int vW), .val (.int vF), .val (.ref b5), .unset] [(.ref b91)])) _
    refine XS.dup X103.here hx rfl (hb hby at_138) rfl rfl ?_
    show Steps _ _ _ (T103.setTop (mkF m 139 #[.val (.int p1), .val (.int p2), .val (.int p3), .val (.int p4), .val (.int vN), .val (.int vO), .val (.int vW), .val (.int vF), .val (.ref b5), .unset] [(.ref b91), (.ref b91)])) _
    refine XS.iconst X103.here hx rfl (hb hby at_139) ?_
    show Steps _ _ _ (T103.setTop (mkF m 140 #[.val (.int p1), .val (.int p2), .val (.int p3), .val (.int p4), .val (.int vN), .val (.int vO), .val (.int vW), .val (.int vF), .val (.ref b5), .unset] [(.int (2 : Int32)), (.ref b91), (.ref b91)])) _
    refine X103.ldc2Long hx hown (mvT hZ (hw _ (List.mem_of_getElem? (i := 4) rfl))) (g := (mkF m 140 #[.val (.int p1), .val (.int p2), .val (.int p3), .val (.int p4), .val (.int vN), .val (.int vO), .val (.int vW), .val (.int vF), .val (.ref b5), .unset] [(.int (2 : Int32)), (.ref b91), (.ref b91)])) rfl (hb hby at_140) _ ?_
    show Steps _ _ _ (T103.setTop (mkF m 143 #[.val (.int p1), .val (.int p2), .val (.int p3), .val (.int p4), .val (.int vN), .val (.int vO), .val (.int vW), .val (.int vF), .val (.ref b5), .unset] [(.long (100 : Int64)), (.int (2 : Int32)), (.ref b91), (.ref b91)])) _
    refine st108 _ ?_
    show Steps _ _ _ (T108.setTop (mkF m 144 #[.val (.int p1), .val (.int p2), .val (.int p3), .val (.int p4), .val (.int vN), .val (.int vO), .val (.int vW), .val (.int vF), .val (.ref b5), .unset] [(.ref b91)])) _
    refine XS.dup X108.here hx rfl (hb hby at_144) rfl rfl ?_
    show Steps _ _ _ (T108.setTop (mkF m 145 #[.val (.int p1), .val (.int p2), .val (.int p3), .val (.int p4), .val (.int vN), .val (.int vO), .val (.int vW), .val (.int vF), .val (.ref b5), .unset] [(.ref b91), (.ref b91)])) _
    refine XS.iconst X108.here hx rfl (hb hby at_145) ?_
    show Steps _ _ _ (T108.setTop (mkF m 146 #[.val (.int p1), .val (.int p2), .val (.int p3), .val (.int p4), .val (.int vN), .val (.int vO), .val (.int vW), .val (.int vF), .val (.ref b5), .unset] [(.int (3 : Int32)), (.ref b91), (.ref b91)])) _
    refine X108.ldc2Long hx hown (mvT hZ (hw _ (List.mem_of_getElem? (i := 5) rfl))) (g := (mkF m 146 #[.val (.int p1), .val (.int p2), .val (.int p3), .val (.int p4), .val (.int vN), .val (.int vO), .val (.int vW), .val (.int vF), .val (.ref b5), .unset] [(.int (3 : Int32)), (.ref b91), (.ref b91)])) rfl (hb hby at_146) _ ?_
    show Steps _ _ _ (T108.setTop (mkF m 149 #[.val (.int p1), .val (.int p2), .val (.int p3), .val (.int p4), .val (.int vN), .val (.int vO), .val (.int vW), .val (.int vF), .val (.ref b5), .unset] [(.long (1000 : Int64)), (.int (3 : Int32)), (.ref b91), (.ref b91)])) _
    refine st113 _ ?_
    show Steps _ _ _ (T113.setTop (mkF m 150 #[.val (.int p1), .val (.int p2), .val (.int p3), .val (.int p4), .val (.int vN), .val (.int vO), .val (.int vW), .val (.int vF), .val (.ref b5), .unset] [(.ref b91)])) _
    refine XS.dup X113.here hx rfl (hb hby at_150) rfl rfl ?_
    show Steps _ _ _ (T113.setTop (mkF m 151 #[.val (.int p1), .val (.int p2), .val (.int p3), .val (.int p4), .val (.int vN), .val (.int vO), .val (.int vW), .val (.int vF), .val (.ref b5), .unset] [(.ref b91), (.ref b91)])) _
    refine XS.iconst X113.here hx rfl (hb hby at_151) ?_
    show Steps _ _ _ (T113.setTop (mkF m 152 #[.val (.int p1), .val (.int p2), .val (.int p3), .val (.int p4), .val (.int vN), .val (.int vO), .val (.int vW), .val (.int vF), .val (.ref b5), .unset] [(.int (4 : Int32)), (.ref b91), (.ref b91)])) _
    refine X113.ldc2Long hx hown (mvT hZ (hw _ (List.mem_of_getElem? (i := 6) rfl))) (g := (mkF m 152 #[.val (.int p1), .val (.int p2), .val (.int p3), .val (.int p4), .val (.int vN), .val (.int vO), .val (.int vW), .val (.int vF), .val (.ref b5), .unset] [(.int (4 : Int32)), (.ref b91), (.ref b91)])) rfl (hb hby at_152) _ ?_
    show Steps _ _ _ (T113.setTop (mkF m 155 #[.val (.int p1), .val (.int p2), .val (.int p3), .val (.int p4), .val (.int vN), .val (.int vO), .val (.int vW), .val (.int vF), .val (.ref b5), .unset] [(.long (10000 : Int64)), (.int (4 : Int32)), (.ref b91), (.ref b91)])) _
    refine st118 _ ?_
    show Steps _ _ _ (T118.setTop (mkF m 156 #[.val (.int p1), .val (.int p2), .val (.int p3), .val (.int p4), .val (.int vN), .val (.int vO), .val (.int vW), .val (.int vF), .val (.ref b5), .unset] [(.ref b91)])) _
    refine XS.dup X118.here hx rfl (hb hby at_156) rfl rfl ?_
    show Steps _ _ _ (T118.setTop (mkF m 157 #[.val (.int p1), .val (.int p2), .val (.int p3), .val (.int p4), .val (.int vN), .val (.int vO), .val (.int vW), .val (.int vF), .val (.ref b5), .unset] [(.ref b91), (.ref b91)])) _
    refine XS.iconst X118.here hx rfl (hb hby at_157) ?_
    show Steps _ _ _ (T118.setTop (mkF m 158 #[.val (.int p1), .val (.int p2), .val (.int p3), .val (.int p4), .val (.int vN), .val (.int vO), .val (.int vW), .val (.int vF), .val (.ref b5), .unset] [(.int (5 : Int32)), (.ref b91), (.ref b91)])) _
    refine X118.ldc2Long hx hown (mvT hZ (hw _ (List.mem_of_getElem? (i := 7) rfl))) (g := (mkF m 158 #[.val (.int p1), .val (.int p2), .val (.int p3), .val (.int p4), .val (.int vN), .val (.int vO), .val (.int vW), .val (.int vF), .val (.ref b5), .unset] [(.int (5 : Int32)), (.ref b91), (.ref b91)])) rfl (hb hby at_158) _ ?_
    show Steps _ _ _ (T118.setTop (mkF m 161 #[.val (.int p1), .val (.int p2), .val (.int p3), .val (.int p4), .val (.int vN), .val (.int vO), .val (.int vW), .val (.int vF), .val (.ref b5), .unset] [(.long (100000 : Int64)), (.int (5 : Int32)), (.ref b91), (.ref b91)])) _
    refine st123 _ ?_
    show Steps _ _ _ (T123.setTop (mkF m 162 #[.val (.int p1), .val (.int p2), .val (.int p3), .val (.int p4), .val (.int vN), .val (.int vO), .val (.int vW), .val (.int vF), .val (.ref b5), .unset] [(.ref b91)])) _
    exact k
  obtain ⟨c127, Arc127, Aqc127, Asc127, Anc127, Ahc127, Agc127⟩ := id V123
  have hin128 : ¬ ((6 : Int32) < 0 ∨ c127.slots.size ≤ ((6 : Int32)).toNatClampNeg) := inb_of Asc127 ⟨by decide, by decide⟩
  obtain ⟨T129, h129, X129, e129, W129, st129⟩ := stJ X123 hx hZ e123 Arc127 (j := (6 : Int32)) hin128 (g := (mkF m 168 #[.val (.int p1), .val (.int p2), .val (.int p3), .val (.int p4), .val (.int vN), .val (.int vO), .val (.int vW), .val (.int vF), .val (.ref b5), .unset] [(.long (1000000 : Int64)), (.int (6 : Int32)), (.ref b91), (.ref b91)])) rfl rfl (hb hby at_168)
  have KC130 : Keep h0 h129 [] := KC124.wr W129 (Or.inr sz94)
  have V129 : Arv Z h129 b91 k91 .long (12 : Int32) [(.long (1 : Int64)), (.long (10 : Int64)), (.long (100 : Int64)), (.long (1000 : Int64)), (.long (10000 : Int64)), (.long (100000 : Int64)), (.long (1000000 : Int64)), (.long (0 : Int64)), (.long (0 : Int64)), (.long (0 : Int64)), (.long (0 : Int64)), (.long (0 : Int64))] (.long (0 : Int64)) := Arv.set Arc127 Aqc127 Asc127 Anc127 Ahc127 Agc127 rfl W129 6 rfl (Nat.le_of_ble_eq_true rfl)
  have N131 := Fr.snoc X129 N125 ge93
  obtain ⟨c132, Arc132, Aqc132, Asc132, Anc132, Ahc132, Agc132⟩ := id V129
  have hin133 : ¬ ((7 : Int32) < 0 ∨ c132.slots.size ≤ ((7 : Int32)).toNatClampNeg) := inb_of Asc132 ⟨by decide, by decide⟩
  obtain ⟨T134, h134, X134, e134, W134, st134⟩ := stJ X129 hx hZ e129 Arc132 (j := (7 : Int32)) hin133 (g := (mkF m 175 #[.val (.int p1), .val (.int p2), .val (.int p3), .val (.int p4), .val (.int vN), .val (.int vO), .val (.int vW), .val (.int vF), .val (.ref b5), .unset] [(.long (10000000 : Int64)), (.int (7 : Int32)), (.ref b91), (.ref b91)])) rfl rfl (hb hby at_175)
  have KC135 : Keep h0 h134 [] := KC130.wr W134 (Or.inr sz94)
  have V134 : Arv Z h134 b91 k91 .long (12 : Int32) [(.long (1 : Int64)), (.long (10 : Int64)), (.long (100 : Int64)), (.long (1000 : Int64)), (.long (10000 : Int64)), (.long (100000 : Int64)), (.long (1000000 : Int64)), (.long (10000000 : Int64)), (.long (0 : Int64)), (.long (0 : Int64)), (.long (0 : Int64)), (.long (0 : Int64))] (.long (0 : Int64)) := Arv.set Arc132 Aqc132 Asc132 Anc132 Ahc132 Agc132 rfl W134 7 rfl (Nat.le_of_ble_eq_true rfl)
  have N136 := Fr.snoc X134 N131 ge93
  obtain ⟨c137, Arc137, Aqc137, Asc137, Anc137, Ahc137, Agc137⟩ := id V134
  have hin138 : ¬ ((8 : Int32) < 0 ∨ c137.slots.size ≤ ((8 : Int32)).toNatClampNeg) := inb_of Asc137 ⟨by decide, by decide⟩
  obtain ⟨T139, h139, X139, e139, W139, st139⟩ := stJ X134 hx hZ e134 Arc137 (j := (8 : Int32)) hin138 (g := (mkF m 182 #[.val (.int p1), .val (.int p2), .val (.int p3), .val (.int p4), .val (.int vN), .val (.int vO), .val (.int vW), .val (.int vF), .val (.ref b5), .unset] [(.long (100000000 : Int64)), (.int (8 : Int32)), (.ref b91), (.ref b91)])) rfl rfl (hb hby at_182)
  have KC140 : Keep h0 h139 [] := KC135.wr W139 (Or.inr sz94)
  have V139 : Arv Z h139 b91 k91 .long (12 : Int32) [(.long (1 : Int64)), (.long (10 : Int64)), (.long (100 : Int64)), (.long (1000 : Int64)), (.long (10000 : Int64)), (.long (100000 : Int64)), (.long (1000000 : Int64)), (.long (10000000 : Int64)), (.long (100000000 : Int64)), (.long (0 : Int64)), (.long (0 : Int64)), (.long (0 : Int64))] (.long (0 : Int64)) := Arv.set Arc137 Aqc137 Asc137 Anc137 Ahc137 Agc137 rfl W139 8 rfl (Nat.le_of_ble_eq_true rfl)
  have N141 := Fr.snoc X139 N136 ge93
  obtain ⟨c142, Arc142, Aqc142, Asc142, Anc142, Ahc142, Agc142⟩ := id V139
  have hin143 : ¬ ((9 : Int32) < 0 ∨ c142.slots.size ≤ ((9 : Int32)).toNatClampNeg) := inb_of Asc142 ⟨by decide, by decide⟩
  obtain ⟨T144, h144, X144, e144, W144, st144⟩ := stJ X139 hx hZ e139 Arc142 (j := (9 : Int32)) hin143 (g := (mkF m 189 #[.val (.int p1), .val (.int p2), .val (.int p3), .val (.int p4), .val (.int vN), .val (.int vO), .val (.int vW), .val (.int vF), .val (.ref b5), .unset] [(.long (1000000000 : Int64)), (.int (9 : Int32)), (.ref b91), (.ref b91)])) rfl rfl (hb hby at_189)
  have KC145 : Keep h0 h144 [] := KC140.wr W144 (Or.inr sz94)
  have V144 : Arv Z h144 b91 k91 .long (12 : Int32) [(.long (1 : Int64)), (.long (10 : Int64)), (.long (100 : Int64)), (.long (1000 : Int64)), (.long (10000 : Int64)), (.long (100000 : Int64)), (.long (1000000 : Int64)), (.long (10000000 : Int64)), (.long (100000000 : Int64)), (.long (1000000000 : Int64)), (.long (0 : Int64)), (.long (0 : Int64))] (.long (0 : Int64)) := Arv.set Arc142 Aqc142 Asc142 Anc142 Ahc142 Agc142 rfl W144 9 rfl (Nat.le_of_ble_eq_true rfl)
  have N146 := Fr.snoc X144 N141 ge93
  obtain ⟨c147, Arc147, Aqc147, Asc147, Anc147, Ahc147, Agc147⟩ := id V144
  have hin148 : ¬ ((10 : Int32) < 0 ∨ c147.slots.size ≤ ((10 : Int32)).toNatClampNeg) := inb_of Asc147 ⟨by decide, by decide⟩
  obtain ⟨T149, h149, X149, e149, W149, st149⟩ := stJ X144 hx hZ e144 Arc147 (j := (10 : Int32)) hin148 (g := (mkF m 196 #[.val (.int p1), .val (.int p2), .val (.int p3), .val (.int p4), .val (.int vN), .val (.int vO), .val (.int vW), .val (.int vF), .val (.ref b5), .unset] [(.long (10000000000 : Int64)), (.int (10 : Int32)), (.ref b91), (.ref b91)])) rfl rfl (hb hby at_196)
  have KC150 : Keep h0 h149 [] := KC145.wr W149 (Or.inr sz94)
  have V149 : Arv Z h149 b91 k91 .long (12 : Int32) [(.long (1 : Int64)), (.long (10 : Int64)), (.long (100 : Int64)), (.long (1000 : Int64)), (.long (10000 : Int64)), (.long (100000 : Int64)), (.long (1000000 : Int64)), (.long (10000000 : Int64)), (.long (100000000 : Int64)), (.long (1000000000 : Int64)), (.long (10000000000 : Int64)), (.long (0 : Int64))] (.long (0 : Int64)) := Arv.set Arc147 Aqc147 Asc147 Anc147 Ahc147 Agc147 rfl W149 10 rfl (Nat.le_of_ble_eq_true rfl)
  have N151 := Fr.snoc X149 N146 ge93
  obtain ⟨c152, Arc152, Aqc152, Asc152, Anc152, Ahc152, Agc152⟩ := id V149
  have hin153 : ¬ ((11 : Int32) < 0 ∨ c152.slots.size ≤ ((11 : Int32)).toNatClampNeg) := inb_of Asc152 ⟨by decide, by decide⟩
  obtain ⟨T154, h154, X154, e154, W154, st154⟩ := stJ X149 hx hZ e149 Arc152 (j := (11 : Int32)) hin153 (g := (mkF m 203 #[.val (.int p1), .val (.int p2), .val (.int p3), .val (.int p4), .val (.int vN), .val (.int vO), .val (.int vW), .val (.int vF), .val (.ref b5), .unset] [(.long (100000000000 : Int64)), (.int (11 : Int32)), (.ref b91), (.ref b91)])) rfl rfl (hb hby at_203)
  have KC155 : Keep h0 h154 [] := KC150.wr W154 (Or.inr sz94)
  have V154 : Arv Z h154 b91 k91 .long (12 : Int32) [(.long (1 : Int64)), (.long (10 : Int64)), (.long (100 : Int64)), (.long (1000 : Int64)), (.long (10000 : Int64)), (.long (100000 : Int64)), (.long (1000000 : Int64)), (.long (10000000 : Int64)), (.long (100000000 : Int64)), (.long (1000000000 : Int64)), (.long (10000000000 : Int64)), (.long (100000000000 : Int64))] (.long (0 : Int64)) := Arv.set Arc152 Aqc152 Asc152 Anc152 Ahc152 Agc152 rfl W154 11 rfl (Nat.le_of_ble_eq_true rfl)
  have N156 := Fr.snoc X154 N151 ge93
  have F157 : Arv Z h154 b5 k5 .char (16 : Int32) [(.int vF.toUInt32.toUInt16.toUInt32.toInt32), (.int vF.toUInt32.toUInt16.toUInt32.toInt32), (.int vF.toUInt32.toUInt16.toUInt32.toInt32), (.int vF.toUInt32.toUInt16.toUInt32.toInt32), (.int vF.toUInt32.toUInt16.toUInt32.toInt32), (.int vF.toUInt32.toUInt16.toUInt32.toInt32), (.int vF.toUInt32.toUInt16.toUInt32.toInt32), (.int vF.toUInt32.toUInt16.toUInt32.toInt32), (.int vF.toUInt32.toUInt16.toUInt32.toInt32), (.int vF.toUInt32.toUInt16.toUInt32.toInt32), (.int vF.toUInt32.toUInt16.toUInt32.toInt32), (.int vF.toUInt32.toUInt16.toUInt32.toInt32), (.int vF.toUInt32.toUInt16.toUInt32.toInt32), (.int vF.toUInt32.toUInt16.toUInt32.toInt32), (.int vF.toUInt32.toUInt16.toUInt32.toInt32), (.int vF.toUInt32.toUInt16.toUInt32.toInt32)] (.int (0 : Int32)) := (((((((((((((V88.ext E91).other W98 ne92).other W103 ne92).other W108 ne92).other W113 ne92).other W118 ne92).other W123 ne92).other W129 ne92).other W134 ne92).other W139 ne92).other W144 ne92).other W149 ne92).other W154 ne92)
  obtain ⟨_, _, ⟨T158, L158, k158, n158⟩, -, X158, ⟨Lc158, hQ158, l158, y158, z158⟩, st158⟩ := Jvm.LawKit.callS X154 hx (y := (⟨"com/example/netsettle/netsettle/messages/Digits", "put", "([CIII)V"⟩ : MethodName)) hown (mvT hZ (hw _ (List.mem_of_getElem? (i := 14) rfl))) (mvT hZ (hw _ (List.mem_of_getElem? (i := 15) rfl))) (mvT hZ (hw _ (List.mem_of_getElem? (i := 16) rfl))) (mvT hZ (hw _ (List.mem_of_getElem? (i := 17) rfl))) (by decide) (backOf (W := 0) (rm1 l Z a0 hw [] b5 vO vW vN k5 (16 : Int32) [(.int vF.toUInt32.toUInt16.toUInt32.toInt32), (.int vF.toUInt32.toUInt16.toUInt32.toInt32), (.int vF.toUInt32.toUInt16.toUInt32.toInt32), (.int vF.toUInt32.toUInt16.toUInt32.toInt32), (.int vF.toUInt32.toUInt16.toUInt32.toInt32), (.int vF.toUInt32.toUInt16.toUInt32.toInt32), (.int vF.toUInt32.toUInt16.toUInt32.toInt32), (.int vF.toUInt32.toUInt16.toUInt32.toInt32), (.int vF.toUInt32.toUInt16.toUInt32.toInt32), (.int vF.toUInt32.toUInt16.toUInt32.toInt32), (.int vF.toUInt32.toUInt16.toUInt32.toInt32), (.int vF.toUInt32.toUInt16.toUInt32.toInt32), (.int vF.toUInt32.toUInt16.toUInt32.toInt32), (.int vF.toUInt32.toUInt16.toUInt32.toInt32), (.int vF.toUInt32.toUInt16.toUInt32.toInt32), (.int vF.toUInt32.toUInt16.toUInt32.toInt32)] (.int (0 : Int32)) h154 n0 (Nat.le_trans Z0 KC155.1) F157 ge6 hO.1 hW.1 (own_sum hO hW) (Nat.le_of_ble_eq_true rfl)) hZ (hw _ (List.mem_of_getElem? (i := 17) rfl)) (hw _ (List.mem_of_getElem? (i := 16) rfl)) (by decide) (by decide)) (g := (mkF m 214 #[.val (.int p1), .val (.int p2), .val (.int p3), .val (.int p4), .val (.int vN), .val (.int vO), .val (.int vW), .val (.int vF), .val (.ref b5), .val (.ref b91)] [(.int vN), (.int vW), (.int vO), (.ref b5)])) rfl (by rw [hml]; rfl) (argsL := [(.ref b5), (.int vO), (.int vW), (.int vN)]) (rest := []) (lenOf pd_0 rfl) rfl (by show 2 * 0 + _ ≤ _; exact Nat.le_of_eq rfl) (hb hby at_214) (fun _ _ => ⟨rfl, e154, (by decide : 2 + 0 ≤ _), (by decide : 28 + 0 ≤ _)⟩)
  dsimp only [Pt.U, Pt.locs, Pt.cells, Pt.slots] at X158 l158 y158 z158 st158 hQ158
  subst y158 z158
  obtain ⟨rfl, Nq158, q158_0, q158_1⟩ := hQ158
  have N159 := Eq.subst (motive := fun L => Fr n0 L) l158.symm (Fr.app N156 Nq158)
  have KC160 : Keep h0 T158.heap [] := KC155.trans q158_0 (allS (Or.inr sz7) all0)
  have pre161 : ∀ t, Steps p.tables e below (T158.setTop (mkF m 219 #[.val (.int p1), .val (.int p2), .val (.int p3), .val (.int p4), .val (.int vN), .val (.int vO), .val (.int vW), .val (.int vF), .val (.ref b5), .val (.ref b91)] [(.ref b5)])) t → Steps p.tables e below (s₁.setTop (entryFrame m #[(.int p1), (.int p2), (.int p3), (.int p4)] maxLocals)) t := by
    intro t k
    refine pre126 t ?_
    refine XS.dup X123.here hx rfl (hb hby at_162) rfl rfl ?_
    show Steps _ _ _ (T123.setTop (mkF m 163 #[.val (.int p1), .val (.int p2), .val (.int p3), .val (.int p4), .val (.int vN), .val (.int vO), .val (.int vW), .val (.int vF), .val (.ref b5), .unset] [(.ref b91), (.ref b91)])) _
    refine XS.bipush X123.here hx rfl (hb hby at_163) ?_
    show Steps _ _ _ (T123.setTop (mkF m 165 #[.val (.int p1), .val (.int p2), .val (.int p3), .val (.int p4), .val (.int vN), .val (.int vO), .val (.int vW), .val (.int vF), .val (.ref b5), .unset] [(.int (6 : Int32)), (.ref b91), (.ref b91)])) _
    refine X123.ldc2Long hx hown (mvT hZ (hw _ (List.mem_of_getElem? (i := 8) rfl))) (g := (mkF m 165 #[.val (.int p1), .val (.int p2), .val (.int p3), .val (.int p4), .val (.int vN), .val (.int vO), .val (.int vW), .val (.int vF), .val (.ref b5), .unset] [(.int (6 : Int32)), (.ref b91), (.ref b91)])) rfl (hb hby at_165) _ ?_
    show Steps _ _ _ (T123.setTop (mkF m 168 #[.val (.int p1), .val (.int p2), .val (.int p3), .val (.int p4), .val (.int vN), .val (.int vO), .val (.int vW), .val (.int vF), .val (.ref b5), .unset] [(.long (1000000 : Int64)), (.int (6 : Int32)), (.ref b91), (.ref b91)])) _
    refine st129 _ ?_
    show Steps _ _ _ (T129.setTop (mkF m 169 #[.val (.int p1), .val (.int p2), .val (.int p3), .val (.int p4), .val (.int vN), .val (.int vO), .val (.int vW), .val (.int vF), .val (.ref b5), .unset] [(.ref b91)])) _
    refine XS.dup X129.here hx rfl (hb hby at_169) rfl rfl ?_
    show Steps _ _ _ (T129.setTop (mkF m 170 #[.val (.int p1), .val (.int p2), .val (.int p3), .val (.int p4), .val (.int vN), .val (.int vO), .val (.int vW), .val (.int vF), .val (.ref b5), .unset] [(.ref b91), (.ref b91)])) _
    refine XS.bipush X129.here hx rfl (hb hby at_170) ?_
    show Steps _ _ _ (T129.setTop (mkF m 172 #[.val (.int p1), .val (.int p2), .val (.int p3), .val (.int p4), .val (.int vN), .val (.int vO), .val (.int vW), .val (.int vF), .val (.ref b5), .unset] [(.int (7 : Int32)), (.ref b91), (.ref b91)])) _
    refine X129.ldc2Long hx hown (mvT hZ (hw _ (List.mem_of_getElem? (i := 9) rfl))) (g := (mkF m 172 #[.val (.int p1), .val (.int p2), .val (.int p3), .val (.int p4), .val (.int vN), .val (.int vO), .val (.int vW), .val (.int vF), .val (.ref b5), .unset] [(.int (7 : Int32)), (.ref b91), (.ref b91)])) rfl (hb hby at_172) _ ?_
    show Steps _ _ _ (T129.setTop (mkF m 175 #[.val (.int p1), .val (.int p2), .val (.int p3), .val (.int p4), .val (.int vN), .val (.int vO), .val (.int vW), .val (.int vF), .val (.ref b5), .unset] [(.long (10000000 : Int64)), (.int (7 : Int32)), (.ref b91), (.ref b91)])) _
    refine st134 _ ?_
    show Steps _ _ _ (T134.setTop (mkF m 176 #[.val (.int p1), .val (.int p2), .val (.int p3), .val (.int p4), .val (.int vN), .val (.int vO), .val (.int vW), .val (.int vF), .val (.ref b5), .unset] [(.ref b91)])) _
    refine XS.dup X134.here hx rfl (hb hby at_176) rfl rfl ?_
    show Steps _ _ _ (T134.setTop (mkF m 177 #[.val (.int p1), .val (.int p2), .val (.int p3), .val (.int p4), .val (.int vN), .val (.int vO), .val (.int vW), .val (.int vF), .val (.ref b5), .unset] [(.ref b91), (.ref b91)])) _
    refine XS.bipush X134.here hx rfl (hb hby at_177) ?_
    show Steps _ _ _ (T134.setTop (mkF m 179 #[.val (.int p1), .val (.int p2), .val (.int p3), .val (.int p4), .val (.int vN), .val (.int vO), .val (.int vW), .val (.int vF), .val (.ref b5), .unset] [(.int (8 : Int32)), (.ref b91), (.ref b91)])) _
    refine X134.ldc2Long hx hown (mvT hZ (hw _ (List.mem_of_getElem? (i := 10) rfl))) (g := (mkF m 179 #[.val (.int p1), .val (.int p2), .val (.int p3), .val (.int p4), .val (.int vN), .val (.int vO), .val (.int vW), .val (.int vF), .val (.ref b5), .unset] [(.int (8 : Int32)), (.ref b91), (.ref b91)])) rfl (hb hby at_179) _ ?_
    show Steps _ _ _ (T134.setTop (mkF m 182 #[.val (.int p1), .val (.int p2), .val (.int p3), .val (.int p4), .val (.int vN), .val (.int vO), .val (.int vW), .val (.int vF), .val (.ref b5), .unset] [(.long (100000000 : Int64)), (.int (8 : Int32)), (.ref b91), (.ref b91)])) _
    refine st139 _ ?_
    show Steps _ _ _ (T139.setTop (mkF m 183 #[.val (.int p1), .val (.int p2), .val (.int p3), .val (.int p4), .val (.int vN), .val (.int vO), .val (.int vW), .val (.int vF), .val (.ref b5), .unset] [(.ref b91)])) _
    refine XS.dup X139.here hx rfl (hb hby at_183) rfl rfl ?_
    show Steps _ _ _ (T139.setTop (mkF m 184 #[.val (.int p1), .val (.int p2), .val (.int p3), .val (.int p4), .val (.int vN), .val (.int vO), .val (.int vW), .val (.int vF), .val (.ref b5), .unset] [(.ref b91), (.ref b91)])) _
    refine XS.bipush X139.here hx rfl (hb hby at_184) ?_
    show Steps _ _ _ (T139.setTop (mkF m 186 #[.val (.int p1), .val (.int p2), .val (.int p3), .val (.int p4), .val (.int vN), .val (.int vO), .val (.int vW), .val (.int vF), .val (.ref b5), .unset] [(.int (9 : Int32)), (.ref b91), (.ref b91)])) _
    refine X139.ldc2Long hx hown (mvT hZ (hw _ (List.mem_of_getElem? (i := 11) rfl))) (g := (mkF m 186 #[.val (.int p1), .val (.int p2), .val (.int p3), .val (.int p4), .val (.int vN), .val (.int vO), .val (.int vW), .val (.int vF), .val (.ref b5), .unset] [(.int (9 : Int32)), (.ref b91), (.ref b91)])) rfl (hb hby at_186) _ ?_
    show Steps _ _ _ (T139.setTop (mkF m 189 #[.val (.int p1), .val (.int p2), .val (.int p3), .val (.int p4), .val (.int vN), .val (.int vO), .val (.int vW), .val (.int vF), .val (.ref b5), .unset] [(.long (1000000000 : Int64)), (.int (9 : Int32)), (.ref b91), (.ref b91)])) _
    refine st144 _ ?_
    show Steps _ _ _ (T144.setTop (mkF m 190 #[.val (.int p1), .val (.int p2), .val (.int p3), .val (.int p4), .val (.int vN), .val (.int vO), .val (.int vW), .val (.int vF), .val (.ref b5), .unset] [(.ref b91)])) _
    refine XS.dup X144.here hx rfl (hb hby at_190) rfl rfl ?_
    show Steps _ _ _ (T144.setTop (mkF m 191 #[.val (.int p1), .val (.int p2), .val (.int p3), .val (.int p4), .val (.int vN), .val (.int vO), .val (.int vW), .val (.int vF), .val (.ref b5), .unset] [(.ref b91), (.ref b91)])) _
    refine XS.bipush X144.here hx rfl (hb hby at_191) ?_
    show Steps _ _ _ (T144.setTop (mkF m 193 #[.val (.int p1), .val (.int p2), .val (.int p3), .val (.int p4), .val (.int vN), .val (.int vO), .val (.int vW), .val (.int vF), .val (.ref b5), .unset] [(.int (10 : Int32)), (.ref b91), (.ref b91)])) _
    refine X144.ldc2Long hx hown (mvT hZ (hw _ (List.mem_of_getElem? (i := 12) rfl))) (g := (mkF m 193 #[.val (.int p1), .val (.int p2), .val (.int p3), .val (.int p4), .val (.int vN), .val (.int vO), .val (.int vW), .val (.int vF), .val (.ref b5), .unset] [(.int (10 : Int32)), (.ref b91), (.ref b91)])) rfl (hb hby at_193) _ ?_
    show Steps _ _ _ (T144.setTop (mkF m 196 #[.val (.int p1), .val (.int p2), .val (.int p3), .val (.int p4), .val (.int vN), .val (.int vO), .val (.int vW), .val (.int vF), .val (.ref b5), .unset] [(.long (10000000000 : Int64)), (.int (10 : Int32)), (.ref b91), (.ref b91)])) _
    refine st149 _ ?_
    show Steps _ _ _ (T149.setTop (mkF m 197 #[.val (.int p1), .val (.int p2), .val (.int p3), .val (.int p4), .val (.int vN), .val (.int vO), .val (.int vW), .val (.int vF), .val (.ref b5), .unset] [(.ref b91)])) _
    refine XS.dup X149.here hx rfl (hb hby at_197) rfl rfl ?_
    show Steps _ _ _ (T149.setTop (mkF m 198 #[.val (.int p1), .val (.int p2), .val (.int p3), .val (.int p4), .val (.int vN), .val (.int vO), .val (.int vW), .val (.int vF), .val (.ref b5), .unset] [(.ref b91), (.ref b91)])) _
    refine XS.bipush X149.here hx rfl (hb hby at_198) ?_
    show Steps _ _ _ (T149.setTop (mkF m 200 #[.val (.int p1), .val (.int p2), .val (.int p3), .val (.int p4), .val (.int vN), .val (.int vO), .val (.int vW), .val (.int vF), .val (.ref b5), .unset] [(.int (11 : Int32)), (.ref b91), (.ref b91)])) _
    refine X149.ldc2Long hx hown (mvT hZ (hw _ (List.mem_of_getElem? (i := 13) rfl))) (g := (mkF m 200 #[.val (.int p1), .val (.int p2), .val (.int p3), .val (.int p4), .val (.int vN), .val (.int vO), .val (.int vW), .val (.int vF), .val (.ref b5), .unset] [(.int (11 : Int32)), (.ref b91), (.ref b91)])) rfl (hb hby at_200) _ ?_
    show Steps _ _ _ (T149.setTop (mkF m 203 #[.val (.int p1), .val (.int p2), .val (.int p3), .val (.int p4), .val (.int vN), .val (.int vO), .val (.int vW), .val (.int vF), .val (.ref b5), .unset] [(.long (100000000000 : Int64)), (.int (11 : Int32)), (.ref b91), (.ref b91)])) _
    refine st154 _ ?_
    show Steps _ _ _ (T154.setTop (mkF m 204 #[.val (.int p1), .val (.int p2), .val (.int p3), .val (.int p4), .val (.int vN), .val (.int vO), .val (.int vW), .val (.int vF), .val (.ref b5), .unset] [(.ref b91)])) _
    refine XS.astore X154.here hx rfl (hb hby at_204) rfl rfl (l' := #[.val (.int p1), .val (.int p2), .val (.int p3), .val (.int p4), .val (.int vN), .val (.int vO), .val (.int vW), .val (.int vF), .val (.ref b5), .val (.ref b91)]) rfl ?_
    show Steps _ _ _ (T154.setTop (mkF m 206 #[.val (.int p1), .val (.int p2), .val (.int p3), .val (.int p4), .val (.int vN), .val (.int vO), .val (.int vW), .val (.int vF), .val (.ref b5), .val (.ref b91)] [])) _
    refine XS.aload X154.here hx rfl (hb hby at_206) rfl rfl ?_
    show Steps _ _ _ (T154.setTop (mkF m 208 #[.val (.int p1), .val (.int p2), .val (.int p3), .val (.int p4), .val (.int vN), .val (.int vO), .val (.int vW), .val (.int vF), .val (.ref b5), .val (.ref b91)] [(.ref b5)])) _
    refine XS.iload X154.here hx rfl (hb hby at_208) rfl ?_
    show Steps _ _ _ (T154.setTop (mkF m 210 #[.val (.int p1), .val (.int p2), .val (.int p3), .val (.int p4), .val (.int vN), .val (.int vO), .val (.int vW), .val (.int vF), .val (.ref b5), .val (.ref b91)] [(.int vO), (.ref b5)])) _
    refine XS.iload X154.here hx rfl (hb hby at_210) rfl ?_
    show Steps _ _ _ (T154.setTop (mkF m 212 #[.val (.int p1), .val (.int p2), .val (.int p3), .val (.int p4), .val (.int vN), .val (.int vO), .val (.int vW), .val (.int vF), .val (.ref b5), .val (.ref b91)] [(.int vW), (.int vO), (.ref b5)])) _
    refine XS.iload X154.here hx rfl (hb hby at_212) rfl ?_
    show Steps _ _ _ (T154.setTop (mkF m 214 #[.val (.int p1), .val (.int p2), .val (.int p3), .val (.int p4), .val (.int vN), .val (.int vO), .val (.int vW), .val (.int vF), .val (.ref b5), .val (.ref b91)] [(.int vN), (.int vW), (.int vO), (.ref b5)])) _
    refine st158 _ ?_
    show Steps _ _ _ (T158.setTop (mkF m 217 #[.val (.int p1), .val (.int p2), .val (.int p3), .val (.int p4), .val (.int vN), .val (.int vO), .val (.int vW), .val (.int vF), .val (.ref b5), .val (.ref b91)] [])) _
    refine XS.aload X158.here hx rfl (hb hby at_217) rfl rfl ?_
    show Steps _ _ _ (T158.setTop (mkF m 219 #[.val (.int p1), .val (.int p2), .val (.int p3), .val (.int p4), .val (.int vN), .val (.int vO), .val (.int vW), .val (.int vF), .val (.ref b5), .val (.ref b91)] [(.ref b5)])) _
    exact k
  have F162 : Arv Z T158.heap b91 k91 .long (12 : Int32) [(.long (1 : Int64)), (.long (10 : Int64)), (.long (100 : Int64)), (.long (1000 : Int64)), (.long (10000 : Int64)), (.long (100000 : Int64)), (.long (1000000 : Int64)), (.long (10000000 : Int64)), (.long (100000000 : Int64)), (.long (1000000000 : Int64)), (.long (10000000000 : Int64)), (.long (100000000000 : Int64))] (.long (0 : Int64)) := (V154.keep q158_0 (ninS (Ne.symm ne92) nin0))
  obtain ⟨_, _, ⟨T163, L163, k163, n163⟩, -, X163, ⟨Lc163, hQ163, l163, y163, z163⟩, st163⟩ := Jvm.LawKit.callS X158 hx (y := (⟨"com/example/netsettle/netsettle/messages/DigitsPutPinLaw", "ok", "([CIIIIC[J)Z"⟩ : MethodName)) hown (mvT hZ (hw _ (List.mem_of_getElem? (i := 18) rfl))) (mvT hZ (hw _ (List.mem_of_getElem? (i := 19) rfl))) (mvT hZ (hw _ (List.mem_of_getElem? (i := 20) rfl))) (mvT hZ (hw _ (List.mem_of_getElem? (i := 21) rfl))) (by decide) (backOf (W := 0) (rm2 l Z a0 hw [] b5 (0 : Int32) vO vW vN vF b91 k5 (16 : Int32) (own_put vW.toInt.toNat vN ((vO + vW) - (1 : Int32)) [(.int vF.toUInt32.toUInt16.toUInt32.toInt32), (.int vF.toUInt32.toUInt16.toUInt32.toInt32), (.int vF.toUInt32.toUInt16.toUInt32.toInt32), (.int vF.toUInt32.toUInt16.toUInt32.toInt32), (.int vF.toUInt32.toUInt16.toUInt32.toInt32), (.int vF.toUInt32.toUInt16.toUInt32.toInt32), (.int vF.toUInt32.toUInt16.toUInt32.toInt32), (.int vF.toUInt32.toUInt16.toUInt32.toInt32), (.int vF.toUInt32.toUInt16.toUInt32.toInt32), (.int vF.toUInt32.toUInt16.toUInt32.toInt32), (.int vF.toUInt32.toUInt16.toUInt32.toInt32), (.int vF.toUInt32.toUInt16.toUInt32.toInt32), (.int vF.toUInt32.toUInt16.toUInt32.toInt32), (.int vF.toUInt32.toUInt16.toUInt32.toInt32), (.int vF.toUInt32.toUInt16.toUInt32.toInt32), (.int vF.toUInt32.toUInt16.toUInt32.toInt32)]) (.int (0 : Int32)) k91 (own_c (0 : Int32) vO vW vN vF) T158.heap n0 (Nat.le_trans Z0 KC160.1) q158_1 F162 (own_cat vO vW vN vF hO hW hN _ rfl (0 : Int32) (by decide) (by decide)) ⟨by decide, by decide⟩ (by decide) hO hW (own_cf (0 : Int32) vO vW vN vF hO hW hF) (own_cd (0 : Int32) vO vW vN vF hO hW hN (by decide) (by decide))) hZ (hw _ (List.mem_of_getElem? (i := 21) rfl)) (hw _ (List.mem_of_getElem? (i := 20) rfl)) (by decide) (by decide)) (g := (mkF m 230 #[.val (.int p1), .val (.int p2), .val (.int p3), .val (.int p4), .val (.int vN), .val (.int vO), .val (.int vW), .val (.int vF), .val (.ref b5), .val (.ref b91)] [(.ref b91), (.int vF), (.int vN), (.int vW), (.int vO), (.int (0 : Int32)), (.ref b5)])) rfl (by rw [hml]; rfl) (argsL := [(.ref b5), (.int (0 : Int32)), (.int vO), (.int vW), (.int vN), (.int vF), (.ref b91)]) (rest := []) (lenOf pd_1 rfl) rfl (by show 2 * 0 + _ ≤ _; exact Nat.le_of_eq rfl) (hb hby at_230) (fun _ _ => ⟨rfl, rfl, (by decide : 2 + 0 ≤ _), (by decide : 28 + 0 ≤ _)⟩)
  dsimp only [Pt.U, Pt.locs, Pt.cells, Pt.slots] at X163 l163 y163 z163 st163 hQ163
  subst y163 z163
  obtain ⟨rfl, Nq163, q163_0⟩ := hQ163
  have N164 := Eq.subst (motive := fun L => Fr n0 L) l163.symm (Fr.app N159 Nq163)
  obtain ⟨_, _, ⟨T165, L165, k165, n165⟩, -, X165, ⟨Lc165, hQ165, l165, y165, z165⟩, st165⟩ := Jvm.LawKit.callS X163 hx (y := (⟨"com/example/netsettle/netsettle/messages/DigitsPutPinLaw", "ok", "([CIIIIC[J)Z"⟩ : MethodName)) hown (mvT hZ (hw _ (List.mem_of_getElem? (i := 18) rfl))) (mvT hZ (hw _ (List.mem_of_getElem? (i := 19) rfl))) (mvT hZ (hw _ (List.mem_of_getElem? (i := 20) rfl))) (mvT hZ (hw _ (List.mem_of_getElem? (i := 21) rfl))) (by decide) (backOf (W := 0) (rm2 l Z a0 hw [] b5 (1 : Int32) vO vW vN vF b91 k5 (16 : Int32) (own_put vW.toInt.toNat vN ((vO + vW) - (1 : Int32)) [(.int vF.toUInt32.toUInt16.toUInt32.toInt32), (.int vF.toUInt32.toUInt16.toUInt32.toInt32), (.int vF.toUInt32.toUInt16.toUInt32.toInt32), (.int vF.toUInt32.toUInt16.toUInt32.toInt32), (.int vF.toUInt32.toUInt16.toUInt32.toInt32), (.int vF.toUInt32.toUInt16.toUInt32.toInt32), (.int vF.toUInt32.toUInt16.toUInt32.toInt32), (.int vF.toUInt32.toUInt16.toUInt32.toInt32), (.int vF.toUInt32.toUInt16.toUInt32.toInt32), (.int vF.toUInt32.toUInt16.toUInt32.toInt32), (.int vF.toUInt32.toUInt16.toUInt32.toInt32), (.int vF.toUInt32.toUInt16.toUInt32.toInt32), (.int vF.toUInt32.toUInt16.toUInt32.toInt32), (.int vF.toUInt32.toUInt16.toUInt32.toInt32), (.int vF.toUInt32.toUInt16.toUInt32.toInt32), (.int vF.toUInt32.toUInt16.toUInt32.toInt32)]) (.int (0 : Int32)) k91 (own_c (1 : Int32) vO vW vN vF) T158.heap n0 (Nat.le_trans Z0 KC160.1) q158_1 F162 (own_cat vO vW vN vF hO hW hN _ rfl (1 : Int32) (by decide) (by decide)) ⟨by decide, by decide⟩ (by decide) hO hW (own_cf (1 : Int32) vO vW vN vF hO hW hF) (own_cd (1 : Int32) vO vW vN vF hO hW hN (by decide) (by decide))) hZ (hw _ (List.mem_of_getElem? (i := 21) rfl)) (hw _ (List.mem_of_getElem? (i := 20) rfl)) (by decide) (by decide)) (g := (mkF m 249 #[.val (.int p1), .val (.int p2), .val (.int p3), .val (.int p4), .val (.int vN), .val (.int vO), .val (.int vW), .val (.int vF), .val (.ref b5), .val (.ref b91)] [(.ref b91), (.int vF), (.int vN), (.int vW), (.int vO), (.int (1 : Int32)), (.ref b5)])) rfl (by rw [hml]; rfl) (argsL := [(.ref b5), (.int (1 : Int32)), (.int vO), (.int vW), (.int vN), (.int vF), (.ref b91)]) (rest := []) (lenOf pd_1 rfl) rfl (by show 2 * 0 + _ ≤ _; exact Nat.le_of_eq rfl) (hb hby at_249) (fun _ _ => ⟨rfl, q163_0, (by decide : 2 + 0 ≤ _), (by decide : 28 + 0 ≤ _)⟩)
  dsimp only [Pt.U, Pt.locs, Pt.cells, Pt.slots] at X165 l165 y165 z165 st165 hQ165
  subst y165 z165
  obtain ⟨rfl, Nq165, q165_0⟩ := hQ165
  have N166 := Eq.subst (motive := fun L => Fr n0 L) l165.symm (Fr.app N164 Nq165)
  obtain ⟨_, _, ⟨T167, L167, k167, n167⟩, -, X167, ⟨Lc167, hQ167, l167, y167, z167⟩, st167⟩ := Jvm.LawKit.callS X165 hx (y := (⟨"com/example/netsettle/netsettle/messages/DigitsPutPinLaw", "ok", "([CIIIIC[J)Z"⟩ : MethodName)) hown (mvT hZ (hw _ (List.mem_of_getElem? (i := 18) rfl))) (mvT hZ (hw _ (List.mem_of_getElem? (i := 19) rfl))) (mvT hZ (hw _ (List.mem_of_getElem? (i := 20) rfl))) (mvT hZ (hw _ (List.mem_of_getElem? (i := 21) rfl))) (by decide) (backOf (W := 0) (rm2 l Z a0 hw [] b5 (2 : Int32) vO vW vN vF b91 k5 (16 : Int32) (own_put vW.toInt.toNat vN ((vO + vW) - (1 : Int32)) [(.int vF.toUInt32.toUInt16.toUInt32.toInt32), (.int vF.toUInt32.toUInt16.toUInt32.toInt32), (.int vF.toUInt32.toUInt16.toUInt32.toInt32), (.int vF.toUInt32.toUInt16.toUInt32.toInt32), (.int vF.toUInt32.toUInt16.toUInt32.toInt32), (.int vF.toUInt32.toUInt16.toUInt32.toInt32), (.int vF.toUInt32.toUInt16.toUInt32.toInt32), (.int vF.toUInt32.toUInt16.toUInt32.toInt32), (.int vF.toUInt32.toUInt16.toUInt32.toInt32), (.int vF.toUInt32.toUInt16.toUInt32.toInt32), (.int vF.toUInt32.toUInt16.toUInt32.toInt32), (.int vF.toUInt32.toUInt16.toUInt32.toInt32), (.int vF.toUInt32.toUInt16.toUInt32.toInt32), (.int vF.toUInt32.toUInt16.toUInt32.toInt32), (.int vF.toUInt32.toUInt16.toUInt32.toInt32), (.int vF.toUInt32.toUInt16.toUInt32.toInt32)]) (.int (0 : Int32)) k91 (own_c (2 : Int32) vO vW vN vF) T158.heap n0 (Nat.le_trans Z0 KC160.1) q158_1 F162 (own_cat vO vW vN vF hO hW hN _ rfl (2 : Int32) (by decide) (by decide)) ⟨by decide, by decide⟩ (by decide) hO hW (own_cf (2 : Int32) vO vW vN vF hO hW hF) (own_cd (2 : Int32) vO vW vN vF hO hW hN (by decide) (by decide))) hZ (hw _ (List.mem_of_getElem? (i := 21) rfl)) (hw _ (List.mem_of_getElem? (i := 20) rfl)) (by decide) (by decide)) (g := (mkF m 268 #[.val (.int p1), .val (.int p2), .val (.int p3), .val (.int p4), .val (.int vN), .val (.int vO), .val (.int vW), .val (.int vF), .val (.ref b5), .val (.ref b91)] [(.ref b91), (.int vF), (.int vN), (.int vW), (.int vO), (.int (2 : Int32)), (.ref b5)])) rfl (by rw [hml]; rfl) (argsL := [(.ref b5), (.int (2 : Int32)), (.int vO), (.int vW), (.int vN), (.int vF), (.ref b91)]) (rest := []) (lenOf pd_1 rfl) rfl (by show 2 * 0 + _ ≤ _; exact Nat.le_of_eq rfl) (hb hby at_268) (fun _ _ => ⟨rfl, q165_0, (by decide : 2 + 0 ≤ _), (by decide : 28 + 0 ≤ _)⟩)
  dsimp only [Pt.U, Pt.locs, Pt.cells, Pt.slots] at X167 l167 y167 z167 st167 hQ167
  subst y167 z167
  obtain ⟨rfl, Nq167, q167_0⟩ := hQ167
  have N168 := Eq.subst (motive := fun L => Fr n0 L) l167.symm (Fr.app N166 Nq167)
  have pre169 : ∀ t, Steps p.tables e below (T167.setTop (mkF m 283 #[.val (.int p1), .val (.int p2), .val (.int p3), .val (.int p4), .val (.int vN), .val (.int vO), .val (.int vW), .val (.int vF), .val (.ref b5), .val (.ref b91)] [(.int vN), (.int vW), (.int vO), (.int (3 : Int32)), (.ref b5)])) t → Steps p.tables e below (s₁.setTop (entryFrame m #[(.int p1), (.int p2), (.int p3), (.int p4)] maxLocals)) t := by
    intro t k
    refine pre161 t ?_
    refine XS.iconst X158.here hx rfl (hb hby at_219) ?_
    show Steps _ _ _ (T158.setTop (mkF m 220 #[.val (.int p1), .val (.int p2), .val (.int p3), .val (.int p4), .val (.int vN), .val (.int vO), .val (.int vW), .val (.int vF), .val (.ref b5), .val (.ref b91)] [(.int (0 : Int32)), (.ref b5)])) _
    refine XS.iload X158.here hx rfl (hb hby at_220) rfl ?_
    show Steps _ _ _ (T158.setTop (mkF m 222 #[.val (.int p1), .val (.int p2), .val (.int p3), .val (.int p4), .val (.int vN), .val (.int vO), .val (.int vW), .val (.int vF), .val (.ref b5), .val (.ref b91)] [(.int vO), (.int (0 : Int32)), (.ref b5)])) _
    refine XS.iload X158.here hx rfl (hb hby at_222) rfl ?_
    show Steps _ _ _ (T158.setTop (mkF m 224 #[.val (.int p1), .val (.int p2), .val (.int p3), .val (.int p4), .val (.int vN), .val (.int vO), .val (.int vW), .val (.int vF), .val (.ref b5), .val (.ref b91)] [(.int vW), (.int vO), (.int (0 : Int32)), (.ref b5)])) _
    refine XS.iload X158.here hx rfl (hb hby at_224) rfl ?_
    show Steps _ _ _ (T158.setTop (mkF m 226 #[.val (.int p1), .val (.int p2), .val (.int p3), .val (.int p4), .val (.int vN), .val (.int vO), .val (.int vW), .val (.int vF), .val (.ref b5), .val (.ref b91)] [(.int vN), (.int vW), (.int vO), (.int (0 : Int32)), (.ref b5)])) _
    refine XS.iload X158.here hx rfl (hb hby at_226) rfl ?_
    show Steps _ _ _ (T158.setTop (mkF m 228 #[.val (.int p1), .val (.int p2), .val (.int p3), .val (.int p4), .val (.int vN), .val (.int vO), .val (.int vW), .val (.int vF), .val (.ref b5), .val (.ref b91)] [(.int vF), (.int vN), (.int vW), (.int vO), (.int (0 : Int32)), (.ref b5)])) _
    refine XS.aload X158.here hx rfl (hb hby at_228) rfl rfl ?_
    show Steps _ _ _ (T158.setTop (mkF m 230 #[.val (.int p1), .val (.int p2), .val (.int p3), .val (.int p4), .val (.int vN), .val (.int vO), .val (.int vW), .val (.int vF), .val (.ref b5), .val (.ref b91)] [(.ref b91), (.int vF), (.int vN), (.int vW), (.int vO), (.int (0 : Int32)), (.ref b5)])) _
    refine st163 _ ?_
    show Steps _ _ _ (T163.setTop (mkF m 233 #[.val (.int p1), .val (.int p2), .val (.int p3), .val (.int p4), .val (.int vN), .val (.int vO), .val (.int vW), .val (.int vF), .val (.ref b5), .val (.ref b91)] [(.int (1 : Int32))])) _
    refine XS.ifNo X163.here hx rfl (hb hby at_233) rfl ((if0 _ _).trans (feq (by decide)).1) ?_
    show Steps _ _ _ (T163.setTop (mkF m 236 #[.val (.int p1), .val (.int p2), .val (.int p3), .val (.int p4), .val (.int vN), .val (.int vO), .val (.int vW), .val (.int vF), .val (.ref b5), .val (.ref b91)] [])) _
    refine XS.aload X163.here hx rfl (hb hby at_236) rfl rfl ?_
    show Steps _ _ _ (T163.setTop (mkF m 238 #[.val (.int p1), .val (.int p2), .val (.int p3), .val (.int p4), .val (.int vN), .val (.int vO), .val (.int vW), .val (.int vF), .val (.ref b5), .val (.ref b91)] [(.ref b5)])) _
    refine XS.iconst X163.here hx rfl (hb hby at_238) ?_
    show Steps _ _ _ (T163.setTop (mkF m 239 #[.val (.int p1), .val (.int p2), .val (.int p3), .val (.int p4), .val (.int vN), .val (.int vO), .val (.int vW), .val (.int vF), .val (.ref b5), .val (.ref b91)] [(.int (1 : Int32)), (.ref b5)])) _
    refine XS.iload X163.here hx rfl (hb hby at_239) rfl ?_
    show Steps _ _ _ (T163.setTop (mkF m 241 #[.val (.int p1), .val (.int p2), .val (.int p3), .val (.int p4), .val (.int vN), .val (.int vO), .val (.int vW), .val (.int vF), .val (.ref b5), .val (.ref b91)] [(.int vO), (.int (1 : Int32)), (.ref b5)])) _
    refine XS.iload X163.here hx rfl (hb hby at_241) rfl ?_
    show Steps _ _ _ (T163.setTop (mkF m 243 #[.val (.int p1), .val (.int p2), .val (.int p3), .val (.int p4), .val (.int vN), .val (.int vO), .val (.int vW), .val (.int vF), .val (.ref b5), .val (.ref b91)] [(.int vW), (.int vO), (.int (1 : Int32)), (.ref b5)])) _
    refine XS.iload X163.here hx rfl (hb hby at_243) rfl ?_
    show Steps _ _ _ (T163.setTop (mkF m 245 #[.val (.int p1), .val (.int p2), .val (.int p3), .val (.int p4), .val (.int vN), .val (.int vO), .val (.int vW), .val (.int vF), .val (.ref b5), .val (.ref b91)] [(.int vN), (.int vW), (.int vO), (.int (1 : Int32)), (.ref b5)])) _
    refine XS.iload X163.here hx rfl (hb hby at_245) rfl ?_
    show Steps _ _ _ (T163.setTop (mkF m 247 #[.val (.int p1), .val (.int p2), .val (.int p3), .val (.int p4), .val (.int vN), .val (.int vO), .val (.int vW), .val (.int vF), .val (.ref b5), .val (.ref b91)] [(.int vF), (.int vN), (.int vW), (.int vO), (.int (1 : Int32)), (.ref b5)])) _
    refine XS.aload X163.here hx rfl (hb hby at_247) rfl rfl ?_
    show Steps _ _ _ (T163.setTop (mkF m 249 #[.val (.int p1), .val (.int p2), .val (.int p3), .val (.int p4), .val (.int vN), .val (.int vO), .val (.int vW), .val (.int vF), .val (.ref b5), .val (.ref b91)] [(.ref b91), (.int vF), (.int vN), (.int vW), (.int vO), (.int (1 : Int32)), (.ref b5)])) _
    refine st165 _ ?_
    show Steps _ _ _ (T165.setTop (mkF m 252 #[.val (.int p1), .val (.int p2), .val (.int p3), .val (.int p4), .val (.int vN), .val (.int vO), .val (.int vW), .val (.int vF), .val (.ref b5), .val (.ref b91)] [(.int (1 : Int32))])) _
    refine XS.ifNo X165.here hx rfl (hb hby at_252) rfl ((if0 _ _).trans (feq (by decide)).1) ?_
    show Steps _ _ _ (T165.setTop (mkF m 255 #[.val (.int p1), .val (.int p2), .val (.int p3), .val (.int p4), .val (.int vN), .val (.int vO), .val (.int vW), .val (.int vF), .val (.ref b5), .val (.ref b91)] [])) _
    refine XS.aload X165.here hx rfl (hb hby at_255) rfl rfl ?_
    show Steps _ _ _ (T165.setTop (mkF m 257 #[.val (.int p1), .val (.int p2), .val (.int p3), .val (.int p4), .val (.int vN), .val (.int vO), .val (.int vW), .val (.int vF), .val (.ref b5), .val (.ref b91)] [(.ref b5)])) _
    refine XS.iconst X165.here hx rfl (hb hby at_257) ?_
    show Steps _ _ _ (T165.setTop (mkF m 258 #[.val (.int p1), .val (.int p2), .val (.int p3), .val (.int p4), .val (.int vN), .val (.int vO), .val (.int vW), .val (.int vF), .val (.ref b5), .val (.ref b91)] [(.int (2 : Int32)), (.ref b5)])) _
    refine XS.iload X165.here hx rfl (hb hby at_258) rfl ?_
    show Steps _ _ _ (T165.setTop (mkF m 260 #[.val (.int p1), .val (.int p2), .val (.int p3), .val (.int p4), .val (.int vN), .val (.int vO), .val (.int vW), .val (.int vF), .val (.ref b5), .val (.ref b91)] [(.int vO), (.int (2 : Int32)), (.ref b5)])) _
    refine XS.iload X165.here hx rfl (hb hby at_260) rfl ?_
    show Steps _ _ _ (T165.setTop (mkF m 262 #[.val (.int p1), .val (.int p2), .val (.int p3), .val (.int p4), .val (.int vN), .val (.int vO), .val (.int vW), .val (.int vF), .val (.ref b5), .val (.ref b91)] [(.int vW), (.int vO), (.int (2 : Int32)), (.ref b5)])) _
    refine XS.iload X165.here hx rfl (hb hby at_262) rfl ?_
    show Steps _ _ _ (T165.setTop (mkF m 264 #[.val (.int p1), .val (.int p2), .val (.int p3), .val (.int p4), .val (.int vN), .val (.int vO), .val (.int vW), .val (.int vF), .val (.ref b5), .val (.ref b91)] [(.int vN), (.int vW), (.int vO), (.int (2 : Int32)), (.ref b5)])) _
    refine XS.iload X165.here hx rfl (hb hby at_264) rfl ?_
    show Steps _ _ _ (T165.setTop (mkF m 266 #[.val (.int p1), .val (.int p2), .val (.int p3), .val (.int p4), .val (.int vN), .val (.int vO), .val (.int vW), .val (.int vF), .val (.ref b5), .val (.ref b91)] [(.int vF), (.int vN), (.int vW), (.int vO), (.int (2 : Int32)), (.ref b5)])) _
    refine XS.aload X165.here hx rfl (hb hby at_266) rfl rfl ?_
    show Steps _ _ _ (T165.setTop (mkF m 268 #[.val (.int p1), .val (.int p2), .val (.int p3), .val (.int p4), .val (.int vN), .val (.int vO), .val (.int vW), .val (.int vF), .val (.ref b5), .val (.ref b91)] [(.ref b91), (.int vF), (.int vN), (.int vW), (.int vO), (.int (2 : Int32)), (.ref b5)])) _
    refine st167 _ ?_
    show Steps _ _ _ (T167.setTop (mkF m 271 #[.val (.int p1), .val (.int p2), .val (.int p3), .val (.int p4), .val (.int vN), .val (.int vO), .val (.int vW), .val (.int vF), .val (.ref b5), .val (.ref b91)] [(.int (1 : Int32))])) _
    refine XS.ifNo X167.here hx rfl (hb hby at_271) rfl ((if0 _ _).trans (feq (by decide)).1) ?_
    show Steps _ _ _ (T167.setTop (mkF m 274 #[.val (.int p1), .val (.int p2), .val (.int p3), .val (.int p4), .val (.int vN), .val (.int vO), .val (.int vW), .val (.int vF), .val (.ref b5), .val (.ref b91)] [])) _
    refine XS.aload X167.here hx rfl (hb hby at_274) rfl rfl ?_
    show Steps _ _ _ (T167.setTop (mkF m 276 #[.val (.int p1), .val (.int p2), .val (.int p3), .val (.int p4), .val (.int vN), .val (.int vO), .val (.int vW), .val (.int vF), .val (.ref b5), .val (.ref b91)] [(.ref b5)])) _
    refine XS.iconst X167.here hx rfl (hb hby at_276) ?_
    show Steps _ _ _ (T167.setTop (mkF m 277 #[.val (.int p1), .val (.int p2), .val (.int p3), .val (.int p4), .val (.int vN), .val (.int vO), .val (.int vW), .val (.int vF), .val (.ref b5), .val (.ref b91)] [(.int (3 : Int32)), (.ref b5)])) _
    refine XS.iload X167.here hx rfl (hb hby at_277) rfl ?_
    show Steps _ _ _ (T167.setTop (mkF m 279 #[.val (.int p1), .val (.int p2), .val (.int p3), .val (.int p4), .val (.int vN), .val (.int vO), .val (.int vW), .val (.int vF), .val (.ref b5), .val (.ref b91)] [(.int vO), (.int (3 : Int32)), (.ref b5)])) _
    refine XS.iload X167.here hx rfl (hb hby at_279) rfl ?_
    show Steps _ _ _ (T167.setTop (mkF m 281 #[.val (.int p1), .val (.int p2), .val (.int p3), .val (.int p4), .val (.int vN), .val (.int vO), .val (.int vW), .val (.int vF), .val (.ref b5), .val (.ref b91)] [(.int vW), (.int vO), (.int (3 : Int32)), (.ref b5)])) _
    refine XS.iload X167.here hx rfl (hb hby at_281) rfl ?_
    show Steps _ _ _ (T167.setTop (mkF m 283 #[.val (.int p1), .val (.int p2), .val (.int p3), .val (.int p4), .val (.int vN), .val (.int vO), .val (.int vW), .val (.int vF), .val (.ref b5), .val (.ref b91)] [(.int vN), (.int vW), (.int vO), (.int (3 : Int32)), (.ref b5)])) _
    exact k
  obtain ⟨_, _, ⟨T170, L170, k170, n170⟩, -, X170, ⟨Lc170, hQ170, l170, y170, z170⟩, st170⟩ := Jvm.LawKit.callS X167 hx (y := (⟨"com/example/netsettle/netsettle/messages/DigitsPutPinLaw", "ok", "([CIIIIC[J)Z"⟩ : MethodName)) hown (mvT hZ (hw _ (List.mem_of_getElem? (i := 18) rfl))) (mvT hZ (hw _ (List.mem_of_getElem? (i := 19) rfl))) (mvT hZ (hw _ (List.mem_of_getElem? (i := 20) rfl))) (mvT hZ (hw _ (List.mem_of_getElem? (i := 21) rfl))) (by decide) (backOf (W := 0) (rm2 l Z a0 hw [] b5 (3 : Int32) vO vW vN vF b91 k5 (16 : Int32) (own_put vW.toInt.toNat vN ((vO + vW) - (1 : Int32)) [(.int vF.toUInt32.toUInt16.toUInt32.toInt32), (.int vF.toUInt32.toUInt16.toUInt32.toInt32), (.int vF.toUInt32.toUInt16.toUInt32.toInt32), (.int vF.toUInt32.toUInt16.toUInt32.toInt32), (.int vF.toUInt32.toUInt16.toUInt32.toInt32), (.int vF.toUInt32.toUInt16.toUInt32.toInt32), (.int vF.toUInt32.toUInt16.toUInt32.toInt32), (.int vF.toUInt32.toUInt16.toUInt32.toInt32), (.int vF.toUInt32.toUInt16.toUInt32.toInt32), (.int vF.toUInt32.toUInt16.toUInt32.toInt32), (.int vF.toUInt32.toUInt16.toUInt32.toInt32), (.int vF.toUInt32.toUInt16.toUInt32.toInt32), (.int vF.toUInt32.toUInt16.toUInt32.toInt32), (.int vF.toUInt32.toUInt16.toUInt32.toInt32), (.int vF.toUInt32.toUInt16.toUInt32.toInt32), (.int vF.toUInt32.toUInt16.toUInt32.toInt32)]) (.int (0 : Int32)) k91 (own_c (3 : Int32) vO vW vN vF) T158.heap n0 (Nat.le_trans Z0 KC160.1) q158_1 F162 (own_cat vO vW vN vF hO hW hN _ rfl (3 : Int32) (by decide) (by decide)) ⟨by decide, by decide⟩ (by decide) hO hW (own_cf (3 : Int32) vO vW vN vF hO hW hF) (own_cd (3 : Int32) vO vW vN vF hO hW hN (by decide) (by decide))) hZ (hw _ (List.mem_of_getElem? (i := 21) rfl)) (hw _ (List.mem_of_getElem? (i := 20) rfl)) (by decide) (by decide)) (g := (mkF m 287 #[.val (.int p1), .val (.int p2), .val (.int p3), .val (.int p4), .val (.int vN), .val (.int vO), .val (.int vW), .val (.int vF), .val (.ref b5), .val (.ref b91)] [(.ref b91), (.int vF), (.int vN), (.int vW), (.int vO), (.int (3 : Int32)), (.ref b5)])) rfl (by rw [hml]; rfl) (argsL := [(.ref b5), (.int (3 : Int32)), (.int vO), (.int vW), (.int vN), (.int vF), (.ref b91)]) (rest := []) (lenOf pd_1 rfl) rfl (by show 2 * 0 + _ ≤ _; exact Nat.le_of_eq rfl) (hb hby at_287) (fun _ _ => ⟨rfl, q167_0, (by decide : 2 + 0 ≤ _), (by decide : 28 + 0 ≤ _)⟩)
  dsimp only [Pt.U, Pt.locs, Pt.cells, Pt.slots] at X170 l170 y170 z170 st170 hQ170
  subst y170 z170
  obtain ⟨rfl, Nq170, q170_0⟩ := hQ170
  have N171 := Eq.subst (motive := fun L => Fr n0 L) l170.symm (Fr.app N168 Nq170)
  obtain ⟨_, _, ⟨T172, L172, k172, n172⟩, -, X172, ⟨Lc172, hQ172, l172, y172, z172⟩, st172⟩ := Jvm.LawKit.callS X170 hx (y := (⟨"com/example/netsettle/netsettle/messages/DigitsPutPinLaw", "ok", "([CIIIIC[J)Z"⟩ : MethodName)) hown (mvT hZ (hw _ (List.mem_of_getElem? (i := 18) rfl))) (mvT hZ (hw _ (List.mem_of_getElem? (i := 19) rfl))) (mvT hZ (hw _ (List.mem_of_getElem? (i := 20) rfl))) (mvT hZ (hw _ (List.mem_of_getElem? (i := 21) rfl))) (by decide) (backOf (W := 0) (rm2 l Z a0 hw [] b5 (4 : Int32) vO vW vN vF b91 k5 (16 : Int32) (own_put vW.toInt.toNat vN ((vO + vW) - (1 : Int32)) [(.int vF.toUInt32.toUInt16.toUInt32.toInt32), (.int vF.toUInt32.toUInt16.toUInt32.toInt32), (.int vF.toUInt32.toUInt16.toUInt32.toInt32), (.int vF.toUInt32.toUInt16.toUInt32.toInt32), (.int vF.toUInt32.toUInt16.toUInt32.toInt32), (.int vF.toUInt32.toUInt16.toUInt32.toInt32), (.int vF.toUInt32.toUInt16.toUInt32.toInt32), (.int vF.toUInt32.toUInt16.toUInt32.toInt32), (.int vF.toUInt32.toUInt16.toUInt32.toInt32), (.int vF.toUInt32.toUInt16.toUInt32.toInt32), (.int vF.toUInt32.toUInt16.toUInt32.toInt32), (.int vF.toUInt32.toUInt16.toUInt32.toInt32), (.int vF.toUInt32.toUInt16.toUInt32.toInt32), (.int vF.toUInt32.toUInt16.toUInt32.toInt32), (.int vF.toUInt32.toUInt16.toUInt32.toInt32), (.int vF.toUInt32.toUInt16.toUInt32.toInt32)]) (.int (0 : Int32)) k91 (own_c (4 : Int32) vO vW vN vF) T158.heap n0 (Nat.le_trans Z0 KC160.1) q158_1 F162 (own_cat vO vW vN vF hO hW hN _ rfl (4 : Int32) (by decide) (by decide)) ⟨by decide, by decide⟩ (by decide) hO hW (own_cf (4 : Int32) vO vW vN vF hO hW hF) (own_cd (4 : Int32) vO vW vN vF hO hW hN (by decide) (by decide))) hZ (hw _ (List.mem_of_getElem? (i := 21) rfl)) (hw _ (List.mem_of_getElem? (i := 20) rfl)) (by decide) (by decide)) (g := (mkF m 306 #[.val (.int p1), .val (.int p2), .val (.int p3), .val (.int p4), .val (.int vN), .val (.int vO), .val (.int vW), .val (.int vF), .val (.ref b5), .val (.ref b91)] [(.ref b91), (.int vF), (.int vN), (.int vW), (.int vO), (.int (4 : Int32)), (.ref b5)])) rfl (by rw [hml]; rfl) (argsL := [(.ref b5), (.int (4 : Int32)), (.int vO), (.int vW), (.int vN), (.int vF), (.ref b91)]) (rest := []) (lenOf pd_1 rfl) rfl (by show 2 * 0 + _ ≤ _; exact Nat.le_of_eq rfl) (hb hby at_306) (fun _ _ => ⟨rfl, q170_0, (by decide : 2 + 0 ≤ _), (by decide : 28 + 0 ≤ _)⟩)
  dsimp only [Pt.U, Pt.locs, Pt.cells, Pt.slots] at X172 l172 y172 z172 st172 hQ172
  subst y172 z172
  obtain ⟨rfl, Nq172, q172_0⟩ := hQ172
  have N173 := Eq.subst (motive := fun L => Fr n0 L) l172.symm (Fr.app N171 Nq172)
  obtain ⟨_, _, ⟨T174, L174, k174, n174⟩, -, X174, ⟨Lc174, hQ174, l174, y174, z174⟩, st174⟩ := Jvm.LawKit.callS X172 hx (y := (⟨"com/example/netsettle/netsettle/messages/DigitsPutPinLaw", "ok", "([CIIIIC[J)Z"⟩ : MethodName)) hown (mvT hZ (hw _ (List.mem_of_getElem? (i := 18) rfl))) (mvT hZ (hw _ (List.mem_of_getElem? (i := 19) rfl))) (mvT hZ (hw _ (List.mem_of_getElem? (i := 20) rfl))) (mvT hZ (hw _ (List.mem_of_getElem? (i := 21) rfl))) (by decide) (backOf (W := 0) (rm2 l Z a0 hw [] b5 (5 : Int32) vO vW vN vF b91 k5 (16 : Int32) (own_put vW.toInt.toNat vN ((vO + vW) - (1 : Int32)) [(.int vF.toUInt32.toUInt16.toUInt32.toInt32), (.int vF.toUInt32.toUInt16.toUInt32.toInt32), (.int vF.toUInt32.toUInt16.toUInt32.toInt32), (.int vF.toUInt32.toUInt16.toUInt32.toInt32), (.int vF.toUInt32.toUInt16.toUInt32.toInt32), (.int vF.toUInt32.toUInt16.toUInt32.toInt32), (.int vF.toUInt32.toUInt16.toUInt32.toInt32), (.int vF.toUInt32.toUInt16.toUInt32.toInt32), (.int vF.toUInt32.toUInt16.toUInt32.toInt32), (.int vF.toUInt32.toUInt16.toUInt32.toInt32), (.int vF.toUInt32.toUInt16.toUInt32.toInt32), (.int vF.toUInt32.toUInt16.toUInt32.toInt32), (.int vF.toUInt32.toUInt16.toUInt32.toInt32), (.int vF.toUInt32.toUInt16.toUInt32.toInt32), (.int vF.toUInt32.toUInt16.toUInt32.toInt32), (.int vF.toUInt32.toUInt16.toUInt32.toInt32)]) (.int (0 : Int32)) k91 (own_c (5 : Int32) vO vW vN vF) T158.heap n0 (Nat.le_trans Z0 KC160.1) q158_1 F162 (own_cat vO vW vN vF hO hW hN _ rfl (5 : Int32) (by decide) (by decide)) ⟨by decide, by decide⟩ (by decide) hO hW (own_cf (5 : Int32) vO vW vN vF hO hW hF) (own_cd (5 : Int32) vO vW vN vF hO hW hN (by decide) (by decide))) hZ (hw _ (List.mem_of_getElem? (i := 21) rfl)) (hw _ (List.mem_of_getElem? (i := 20) rfl)) (by decide) (by decide)) (g := (mkF m 325 #[.val (.int p1), .val (.int p2), .val (.int p3), .val (.int p4), .val (.int vN), .val (.int vO), .val (.int vW), .val (.int vF), .val (.ref b5), .val (.ref b91)] [(.ref b91), (.int vF), (.int vN), (.int vW), (.int vO), (.int (5 : Int32)), (.ref b5)])) rfl (by rw [hml]; rfl) (argsL := [(.ref b5), (.int (5 : Int32)), (.int vO), (.int vW), (.int vN), (.int vF), (.ref b91)]) (rest := []) (lenOf pd_1 rfl) rfl (by show 2 * 0 + _ ≤ _; exact Nat.le_of_eq rfl) (hb hby at_325) (fun _ _ => ⟨rfl, q172_0, (by decide : 2 + 0 ≤ _), (by decide : 28 + 0 ≤ _)⟩)
  dsimp only [Pt.U, Pt.locs, Pt.cells, Pt.slots] at X174 l174 y174 z174 st174 hQ174
  subst y174 z174
  obtain ⟨rfl, Nq174, q174_0⟩ := hQ174
  have N175 := Eq.subst (motive := fun L => Fr n0 L) l174.symm (Fr.app N173 Nq174)
  obtain ⟨_, _, ⟨T176, L176, k176, n176⟩, -, X176, ⟨Lc176, hQ176, l176, y176, z176⟩, st176⟩ := Jvm.LawKit.callS X174 hx (y := (⟨"com/example/netsettle/netsettle/messages/DigitsPutPinLaw", "ok", "([CIIIIC[J)Z"⟩ : MethodName)) hown (mvT hZ (hw _ (List.mem_of_getElem? (i := 18) rfl))) (mvT hZ (hw _ (List.mem_of_getElem? (i := 19) rfl))) (mvT hZ (hw _ (List.mem_of_getElem? (i := 20) rfl))) (mvT hZ (hw _ (List.mem_of_getElem? (i := 21) rfl))) (by decide) (backOf (W := 0) (rm2 l Z a0 hw [] b5 (6 : Int32) vO vW vN vF b91 k5 (16 : Int32) (own_put vW.toInt.toNat vN ((vO + vW) - (1 : Int32)) [(.int vF.toUInt32.toUInt16.toUInt32.toInt32), (.int vF.toUInt32.toUInt16.toUInt32.toInt32), (.int vF.toUInt32.toUInt16.toUInt32.toInt32), (.int vF.toUInt32.toUInt16.toUInt32.toInt32), (.int vF.toUInt32.toUInt16.toUInt32.toInt32), (.int vF.toUInt32.toUInt16.toUInt32.toInt32), (.int vF.toUInt32.toUInt16.toUInt32.toInt32), (.int vF.toUInt32.toUInt16.toUInt32.toInt32), (.int vF.toUInt32.toUInt16.toUInt32.toInt32), (.int vF.toUInt32.toUInt16.toUInt32.toInt32), (.int vF.toUInt32.toUInt16.toUInt32.toInt32), (.int vF.toUInt32.toUInt16.toUInt32.toInt32), (.int vF.toUInt32.toUInt16.toUInt32.toInt32), (.int vF.toUInt32.toUInt16.toUInt32.toInt32), (.int vF.toUInt32.toUInt16.toUInt32.toInt32), (.int vF.toUInt32.toUInt16.toUInt32.toInt32)]) (.int (0 : Int32)) k91 (own_c (6 : Int32) vO vW vN vF) T158.heap n0 (Nat.le_trans Z0 KC160.1) q158_1 F162 (own_cat vO vW vN vF hO hW hN _ rfl (6 : Int32) (by decide) (by decide)) ⟨by decide, by decide⟩ (by decide) hO hW (own_cf (6 : Int32) vO vW vN vF hO hW hF) (own_cd (6 : Int32) vO vW vN vF hO hW hN (by decide) (by decide))) hZ (hw _ (List.mem_of_getElem? (i := 21) rfl)) (hw _ (List.mem_of_getElem? (i := 20) rfl)) (by decide) (by decide)) (g := (mkF m 345 #[.val (.int p1), .val (.int p2), .val (.int p3), .val (.int p4), .val (.int vN), .val (.int vO), .val (.int vW), .val (.int vF), .val (.ref b5), .val (.ref b91)] [(.ref b91), (.int vF), (.int vN), (.int vW), (.int vO), (.int (6 : Int32)), (.ref b5)])) rfl (by rw [hml]; rfl) (argsL := [(.ref b5), (.int (6 : Int32)), (.int vO), (.int vW), (.int vN), (.int vF), (.ref b91)]) (rest := []) (lenOf pd_1 rfl) rfl (by show 2 * 0 + _ ≤ _; exact Nat.le_of_eq rfl) (hb hby at_345) (fun _ _ => ⟨rfl, q174_0, (by decide : 2 + 0 ≤ _), (by decide : 28 + 0 ≤ _)⟩)
  dsimp only [Pt.U, Pt.locs, Pt.cells, Pt.slots] at X176 l176 y176 z176 st176 hQ176
  subst y176 z176
  obtain ⟨rfl, Nq176, q176_0⟩ := hQ176
  have N177 := Eq.subst (motive := fun L => Fr n0 L) l176.symm (Fr.app N175 Nq176)
  have pre178 : ∀ t, Steps p.tables e below (T176.setTop (mkF m 353 #[.val (.int p1), .val (.int p2), .val (.int p3), .val (.int p4), .val (.int vN), .val (.int vO), .val (.int vW), .val (.int vF), .val (.ref b5), .val (.ref b91)] [(.ref b5)])) t → Steps p.tables e below (s₁.setTop (entryFrame m #[(.int p1), (.int p2), (.int p3), (.int p4)] maxLocals)) t := by
    intro t k
    refine pre169 t ?_
    refine XS.iload X167.here hx rfl (hb hby at_283) rfl ?_
    show Steps _ _ _ (T167.setTop (mkF m 285 #[.val (.int p1), .val (.int p2), .val (.int p3), .val (.int p4), .val (.int vN), .val (.int vO), .val (.int vW), .val (.int vF), .val (.ref b5), .val (.ref b91)] [(.int vF), (.int vN), (.int vW), (.int vO), (.int (3 : Int32)), (.ref b5)])) _
    refine XS.aload X167.here hx rfl (hb hby at_285) rfl rfl ?_
    show Steps _ _ _ (T167.setTop (mkF m 287 #[.val (.int p1), .val (.int p2), .val (.int p3), .val (.int p4), .val (.int vN), .val (.int vO), .val (.int vW), .val (.int vF), .val (.ref b5), .val (.ref b91)] [(.ref b91), (.int vF), (.int vN), (.int vW), (.int vO), (.int (3 : Int32)), (.ref b5)])) _
    refine st170 _ ?_
    show Steps _ _ _ (T170.setTop (mkF m 290 #[.val (.int p1), .val (.int p2), .val (.int p3), .val (.int p4), .val (.int vN), .val (.int vO), .val (.int vW), .val (.int vF), .val (.ref b5), .val (.ref b91)] [(.int (1 : Int32))])) _
    refine XS.ifNo X170.here hx rfl (hb hby at_290) rfl ((if0 _ _).trans (feq (by decide)).1) ?_
    show Steps _ _ _ (T170.setTop (mkF m 293 #[.val (.int p1), .val (.int p2), .val (.int p3), .val (.int p4), .val (.int vN), .val (.int vO), .val (.int vW), .val (.int vF), .val (.ref b5), .val (.ref b91)] [])) _
    refine XS.aload X170.here hx rfl (hb hby at_293) rfl rfl ?_
    show Steps _ _ _ (T170.setTop (mkF m 295 #[.val (.int p1), .val (.int p2), .val (.int p3), .val (.int p4), .val (.int vN), .val (.int vO), .val (.int vW), .val (.int vF), .val (.ref b5), .val (.ref b91)] [(.ref b5)])) _
    refine XS.iconst X170.here hx rfl (hb hby at_295) ?_
    show Steps _ _ _ (T170.setTop (mkF m 296 #[.val (.int p1), .val (.int p2), .val (.int p3), .val (.int p4), .val (.int vN), .val (.int vO), .val (.int vW), .val (.int vF), .val (.ref b5), .val (.ref b91)] [(.int (4 : Int32)), (.ref b5)])) _
    refine XS.iload X170.here hx rfl (hb hby at_296) rfl ?_
    show Steps _ _ _ (T170.setTop (mkF m 298 #[.val (.int p1), .val (.int p2), .val (.int p3), .val (.int p4), .val (.int vN), .val (.int vO), .val (.int vW), .val (.int vF), .val (.ref b5), .val (.ref b91)] [(.int vO), (.int (4 : Int32)), (.ref b5)])) _
    refine XS.iload X170.here hx rfl (hb hby at_298) rfl ?_
    show Steps _ _ _ (T170.setTop (mkF m 300 #[.val (.int p1), .val (.int p2), .val (.int p3), .val (.int p4), .val (.int vN), .val (.int vO), .val (.int vW), .val (.int vF), .val (.ref b5), .val (.ref b91)] [(.int vW), (.int vO), (.int (4 : Int32)), (.ref b5)])) _
    refine XS.iload X170.here hx rfl (hb hby at_300) rfl ?_
    show Steps _ _ _ (T170.setTop (mkF m 302 #[.val (.int p1), .val (.int p2), .val (.int p3), .val (.int p4), .val (.int vN), .val (.int vO), .val (.int vW), .val (.int vF), .val (.ref b5), .val (.ref b91)] [(.int vN), (.int vW), (.int vO), (.int (4 : Int32)), (.ref b5)])) _
    refine XS.iload X170.here hx rfl (hb hby at_302) rfl ?_
    show Steps _ _ _ (T170.setTop (mkF m 304 #[.val (.int p1), .val (.int p2), .val (.int p3), .val (.int p4), .val (.int vN), .val (.int vO), .val (.int vW), .val (.int vF), .val (.ref b5), .val (.ref b91)] [(.int vF), (.int vN), (.int vW), (.int vO), (.int (4 : Int32)), (.ref b5)])) _
    refine XS.aload X170.here hx rfl (hb hby at_304) rfl rfl ?_
    show Steps _ _ _ (T170.setTop (mkF m 306 #[.val (.int p1), .val (.int p2), .val (.int p3), .val (.int p4), .val (.int vN), .val (.int vO), .val (.int vW), .val (.int vF), .val (.ref b5), .val (.ref b91)] [(.ref b91), (.int vF), (.int vN), (.int vW), (.int vO), (.int (4 : Int32)), (.ref b5)])) _
    refine st172 _ ?_
    show Steps _ _ _ (T172.setTop (mkF m 309 #[.val (.int p1), .val (.int p2), .val (.int p3), .val (.int p4), .val (.int vN), .val (.int vO), .val (.int vW), .val (.int vF), .val (.ref b5), .val (.ref b91)] [(.int (1 : Int32))])) _
    refine XS.ifNo X172.here hx rfl (hb hby at_309) rfl ((if0 _ _).trans (feq (by decide)).1) ?_
    show Steps _ _ _ (T172.setTop (mkF m 312 #[.val (.int p1), .val (.int p2), .val (.int p3), .val (.int p4), .val (.int vN), .val (.int vO), .val (.int vW), .val (.int vF), .val (.ref b5), .val (.ref b91)] [])) _
    refine XS.aload X172.here hx rfl (hb hby at_312) rfl rfl ?_
    show Steps _ _ _ (T172.setTop (mkF m 314 #[.val (.int p1), .val (.int p2), .val (.int p3), .val (.int p4), .val (.int vN), .val (.int vO), .val (.int vW), .val (.int vF), .val (.ref b5), .val (.ref b91)] [(.ref b5)])) _
    refine XS.iconst X172.here hx rfl (hb hby at_314) ?_
    show Steps _ _ _ (T172.setTop (mkF m 315 #[.val (.int p1), .val (.int p2), .val (.int p3), .val (.int p4), .val (.int vN), .val (.int vO), .val (.int vW), .val (.int vF), .val (.ref b5), .val (.ref b91)] [(.int (5 : Int32)), (.ref b5)])) _
    refine XS.iload X172.here hx rfl (hb hby at_315) rfl ?_
    show Steps _ _ _ (T172.setTop (mkF m 317 #[.val (.int p1), .val (.int p2), .val (.int p3), .val (.int p4), .val (.int vN), .val (.int vO), .val (.int vW), .val (.int vF), .val (.ref b5), .val (.ref b91)] [(.int vO), (.int (5 : Int32)), (.ref b5)])) _
    refine XS.iload X172.here hx rfl (hb hby at_317) rfl ?_
    show Steps _ _ _ (T172.setTop (mkF m 319 #[.val (.int p1), .val (.int p2), .val (.int p3), .val (.int p4), .val (.int vN), .val (.int vO), .val (.int vW), .val (.int vF), .val (.ref b5), .val (.ref b91)] [(.int vW), (.int vO), (.int (5 : Int32)), (.ref b5)])) _
    refine XS.iload X172.here hx rfl (hb hby at_319) rfl ?_
    show Steps _ _ _ (T172.setTop (mkF m 321 #[.val (.int p1), .val (.int p2), .val (.int p3), .val (.int p4), .val (.int vN), .val (.int vO), .val (.int vW), .val (.int vF), .val (.ref b5), .val (.ref b91)] [(.int vN), (.int vW), (.int vO), (.int (5 : Int32)), (.ref b5)])) _
    refine XS.iload X172.here hx rfl (hb hby at_321) rfl ?_
    show Steps _ _ _ (T172.setTop (mkF m 323 #[.val (.int p1), .val (.int p2), .val (.int p3), .val (.int p4), .val (.int vN), .val (.int vO), .val (.int vW), .val (.int vF), .val (.ref b5), .val (.ref b91)] [(.int vF), (.int vN), (.int vW), (.int vO), (.int (5 : Int32)), (.ref b5)])) _
    refine XS.aload X172.here hx rfl (hb hby at_323) rfl rfl ?_
    show Steps _ _ _ (T172.setTop (mkF m 325 #[.val (.int p1), .val (.int p2), .val (.int p3), .val (.int p4), .val (.int vN), .val (.int vO), .val (.int vW), .val (.int vF), .val (.ref b5), .val (.ref b91)] [(.ref b91), (.int vF), (.int vN), (.int vW), (.int vO), (.int (5 : Int32)), (.ref b5)])) _
    refine st174 _ ?_
    show Steps _ _ _ (T174.setTop (mkF m 328 #[.val (.int p1), .val (.int p2), .val (.int p3), .val (.int p4), .val (.int vN), .val (.int vO), .val (.int vW), .val (.int vF), .val (.ref b5), .val (.ref b91)] [(.int (1 : Int32))])) _
    refine XS.ifNo X174.here hx rfl (hb hby at_328) rfl ((if0 _ _).trans (feq (by decide)).1) ?_
    show Steps _ _ _ (T174.setTop (mkF m 331 #[.val (.int p1), .val (.int p2), .val (.int p3), .val (.int p4), .val (.int vN), .val (.int vO), .val (.int vW), .val (.int vF), .val (.ref b5), .val (.ref b91)] [])) _
    refine XS.aload X174.here hx rfl (hb hby at_331) rfl rfl ?_
    show Steps _ _ _ (T174.setTop (mkF m 333 #[.val (.int p1), .val (.int p2), .val (.int p3), .val (.int p4), .val (.int vN), .val (.int vO), .val (.int vW), .val (.int vF), .val (.ref b5), .val (.ref b91)] [(.ref b5)])) _
    refine XS.bipush X174.here hx rfl (hb hby at_333) ?_
    show Steps _ _ _ (T174.setTop (mkF m 335 #[.val (.int p1), .val (.int p2), .val (.int p3), .val (.int p4), .val (.int vN), .val (.int vO), .val (.int vW), .val (.int vF), .val (.ref b5), .val (.ref b91)] [(.int (6 : Int32)), (.ref b5)])) _
    refine XS.iload X174.here hx rfl (hb hby at_335) rfl ?_
    show Steps _ _ _ (T174.setTop (mkF m 337 #[.val (.int p1), .val (.int p2), .val (.int p3), .val (.int p4), .val (.int vN), .val (.int vO), .val (.int vW), .val (.int vF), .val (.ref b5), .val (.ref b91)] [(.int vO), (.int (6 : Int32)), (.ref b5)])) _
    refine XS.iload X174.here hx rfl (hb hby at_337) rfl ?_
    show Steps _ _ _ (T174.setTop (mkF m 339 #[.val (.int p1), .val (.int p2), .val (.int p3), .val (.int p4), .val (.int vN), .val (.int vO), .val (.int vW), .val (.int vF), .val (.ref b5), .val (.ref b91)] [(.int vW), (.int vO), (.int (6 : Int32)), (.ref b5)])) _
    refine XS.iload X174.here hx rfl (hb hby at_339) rfl ?_
    show Steps _ _ _ (T174.setTop (mkF m 341 #[.val (.int p1), .val (.int p2), .val (.int p3), .val (.int p4), .val (.int vN), .val (.int vO), .val (.int vW), .val (.int vF), .val (.ref b5), .val (.ref b91)] [(.int vN), (.int vW), (.int vO), (.int (6 : Int32)), (.ref b5)])) _
    refine XS.iload X174.here hx rfl (hb hby at_341) rfl ?_
    show Steps _ _ _ (T174.setTop (mkF m 343 #[.val (.int p1), .val (.int p2), .val (.int p3), .val (.int p4), .val (.int vN), .val (.int vO), .val (.int vW), .val (.int vF), .val (.ref b5), .val (.ref b91)] [(.int vF), (.int vN), (.int vW), (.int vO), (.int (6 : Int32)), (.ref b5)])) _
    refine XS.aload X174.here hx rfl (hb hby at_343) rfl rfl ?_
    show Steps _ _ _ (T174.setTop (mkF m 345 #[.val (.int p1), .val (.int p2), .val (.int p3), .val (.int p4), .val (.int vN), .val (.int vO), .val (.int vW), .val (.int vF), .val (.ref b5), .val (.ref b91)] [(.ref b91), (.int vF), (.int vN), (.int vW), (.int vO), (.int (6 : Int32)), (.ref b5)])) _
    refine st176 _ ?_
    show Steps _ _ _ (T176.setTop (mkF m 348 #[.val (.int p1), .val (.int p2), .val (.int p3), .val (.int p4), .val (.int vN), .val (.int vO), .val (.int vW), .val (.int vF), .val (.ref b5), .val (.ref b91)] [(.int (1 : Int32))])) _
    refine XS.ifNo X176.here hx rfl (hb hby at_348) rfl ((if0 _ _).trans (feq (by decide)).1) ?_
    show Steps _ _ _ (T176.setTop (mkF m 351 #[.val (.int p1), .val (.int p2), .val (.int p3), .val (.int p4), .val (.int vN), .val (.int vO), .val (.int vW), .val (.int vF), .val (.ref b5), .val (.ref b91)] [])) _
    refine XS.aload X176.here hx rfl (hb hby at_351) rfl rfl ?_
    show Steps _ _ _ (T176.setTop (mkF m 353 #[.val (.int p1), .val (.int p2), .val (.int p3), .val (.int p4), .val (.int vN), .val (.int vO), .val (.int vW), .val (.int vF), .val (.ref b5), .val (.ref b91)] [(.ref b5)])) _
    exact k
  obtain ⟨_, _, ⟨T179, L179, k179, n179⟩, -, X179, ⟨Lc179, hQ179, l179, y179, z179⟩, st179⟩ := Jvm.LawKit.callS X176 hx (y := (⟨"com/example/netsettle/netsettle/messages/DigitsPutPinLaw", "ok", "([CIIIIC[J)Z"⟩ : MethodName)) hown (mvT hZ (hw _ (List.mem_of_getElem? (i := 18) rfl))) (mvT hZ (hw _ (List.mem_of_getElem? (i := 19) rfl))) (mvT hZ (hw _ (List.mem_of_getElem? (i := 20) rfl))) (mvT hZ (hw _ (List.mem_of_getElem? (i := 21) rfl))) (by decide) (backOf (W := 0) (rm2 l Z a0 hw [] b5 (7 : Int32) vO vW vN vF b91 k5 (16 : Int32) (own_put vW.toInt.toNat vN ((vO + vW) - (1 : Int32)) [(.int vF.toUInt32.toUInt16.toUInt32.toInt32), (.int vF.toUInt32.toUInt16.toUInt32.toInt32), (.int vF.toUInt32.toUInt16.toUInt32.toInt32), (.int vF.toUInt32.toUInt16.toUInt32.toInt32), (.int vF.toUInt32.toUInt16.toUInt32.toInt32), (.int vF.toUInt32.toUInt16.toUInt32.toInt32), (.int vF.toUInt32.toUInt16.toUInt32.toInt32), (.int vF.toUInt32.toUInt16.toUInt32.toInt32), (.int vF.toUInt32.toUInt16.toUInt32.toInt32), (.int vF.toUInt32.toUInt16.toUInt32.toInt32), (.int vF.toUInt32.toUInt16.toUInt32.toInt32), (.int vF.toUInt32.toUInt16.toUInt32.toInt32), (.int vF.toUInt32.toUInt16.toUInt32.toInt32), (.int vF.toUInt32.toUInt16.toUInt32.toInt32), (.int vF.toUInt32.toUInt16.toUInt32.toInt32), (.int vF.toUInt32.toUInt16.toUInt32.toInt32)]) (.int (0 : Int32)) k91 (own_c (7 : Int32) vO vW vN vF) T158.heap n0 (Nat.le_trans Z0 KC160.1) q158_1 F162 (own_cat vO vW vN vF hO hW hN _ rfl (7 : Int32) (by decide) (by decide)) ⟨by decide, by decide⟩ (by decide) hO hW (own_cf (7 : Int32) vO vW vN vF hO hW hF) (own_cd (7 : Int32) vO vW vN vF hO hW hN (by decide) (by decide))) hZ (hw _ (List.mem_of_getElem? (i := 21) rfl)) (hw _ (List.mem_of_getElem? (i := 20) rfl)) (by decide) (by decide)) (g := (mkF m 365 #[.val (.int p1), .val (.int p2), .val (.int p3), .val (.int p4), .val (.int vN), .val (.int vO), .val (.int vW), .val (.int vF), .val (.ref b5), .val (.ref b91)] [(.ref b91), (.int vF), (.int vN), (.int vW), (.int vO), (.int (7 : Int32)), (.ref b5)])) rfl (by rw [hml]; rfl) (argsL := [(.ref b5), (.int (7 : Int32)), (.int vO), (.int vW), (.int vN), (.int vF), (.ref b91)]) (rest := []) (lenOf pd_1 rfl) rfl (by show 2 * 0 + _ ≤ _; exact Nat.le_of_eq rfl) (hb hby at_365) (fun _ _ => ⟨rfl, q176_0, (by decide : 2 + 0 ≤ _), (by decide : 28 + 0 ≤ _)⟩)
  dsimp only [Pt.U, Pt.locs, Pt.cells, Pt.slots] at X179 l179 y179 z179 st179 hQ179
  subst y179 z179
  obtain ⟨rfl, Nq179, q179_0⟩ := hQ179
  have N180 := Eq.subst (motive := fun L => Fr n0 L) l179.symm (Fr.app N177 Nq179)
  obtain ⟨_, _, ⟨T181, L181, k181, n181⟩, -, X181, ⟨Lc181, hQ181, l181, y181, z181⟩, st181⟩ := Jvm.LawKit.callS X179 hx (y := (⟨"com/example/netsettle/netsettle/messages/DigitsPutPinLaw", "ok", "([CIIIIC[J)Z"⟩ : MethodName)) hown (mvT hZ (hw _ (List.mem_of_getElem? (i := 18) rfl))) (mvT hZ (hw _ (List.mem_of_getElem? (i := 19) rfl))) (mvT hZ (hw _ (List.mem_of_getElem? (i := 20) rfl))) (mvT hZ (hw _ (List.mem_of_getElem? (i := 21) rfl))) (by decide) (backOf (W := 0) (rm2 l Z a0 hw [] b5 (8 : Int32) vO vW vN vF b91 k5 (16 : Int32) (own_put vW.toInt.toNat vN ((vO + vW) - (1 : Int32)) [(.int vF.toUInt32.toUInt16.toUInt32.toInt32), (.int vF.toUInt32.toUInt16.toUInt32.toInt32), (.int vF.toUInt32.toUInt16.toUInt32.toInt32), (.int vF.toUInt32.toUInt16.toUInt32.toInt32), (.int vF.toUInt32.toUInt16.toUInt32.toInt32), (.int vF.toUInt32.toUInt16.toUInt32.toInt32), (.int vF.toUInt32.toUInt16.toUInt32.toInt32), (.int vF.toUInt32.toUInt16.toUInt32.toInt32), (.int vF.toUInt32.toUInt16.toUInt32.toInt32), (.int vF.toUInt32.toUInt16.toUInt32.toInt32), (.int vF.toUInt32.toUInt16.toUInt32.toInt32), (.int vF.toUInt32.toUInt16.toUInt32.toInt32), (.int vF.toUInt32.toUInt16.toUInt32.toInt32), (.int vF.toUInt32.toUInt16.toUInt32.toInt32), (.int vF.toUInt32.toUInt16.toUInt32.toInt32), (.int vF.toUInt32.toUInt16.toUInt32.toInt32)]) (.int (0 : Int32)) k91 (own_c (8 : Int32) vO vW vN vF) T158.heap n0 (Nat.le_trans Z0 KC160.1) q158_1 F162 (own_cat vO vW vN vF hO hW hN _ rfl (8 : Int32) (by decide) (by decide)) ⟨by decide, by decide⟩ (by decide) hO hW (own_cf (8 : Int32) vO vW vN vF hO hW hF) (own_cd (8 : Int32) vO vW vN vF hO hW hN (by decide) (by decide))) hZ (hw _ (List.mem_of_getElem? (i := 21) rfl)) (hw _ (List.mem_of_getElem? (i := 20) rfl)) (by decide) (by decide)) (g := (mkF m 385 #[.val (.int p1), .val (.int p2), .val (.int p3), .val (.int p4), .val (.int vN), .val (.int vO), .val (.int vW), .val (.int vF), .val (.ref b5), .val (.ref b91)] [(.ref b91), (.int vF), (.int vN), (.int vW), (.int vO), (.int (8 : Int32)), (.ref b5)])) rfl (by rw [hml]; rfl) (argsL := [(.ref b5), (.int (8 : Int32)), (.int vO), (.int vW), (.int vN), (.int vF), (.ref b91)]) (rest := []) (lenOf pd_1 rfl) rfl (by show 2 * 0 + _ ≤ _; exact Nat.le_of_eq rfl) (hb hby at_385) (fun _ _ => ⟨rfl, q179_0, (by decide : 2 + 0 ≤ _), (by decide : 28 + 0 ≤ _)⟩)
  dsimp only [Pt.U, Pt.locs, Pt.cells, Pt.slots] at X181 l181 y181 z181 st181 hQ181
  subst y181 z181
  obtain ⟨rfl, Nq181, q181_0⟩ := hQ181
  have N182 := Eq.subst (motive := fun L => Fr n0 L) l181.symm (Fr.app N180 Nq181)
  obtain ⟨_, _, ⟨T183, L183, k183, n183⟩, -, X183, ⟨Lc183, hQ183, l183, y183, z183⟩, st183⟩ := Jvm.LawKit.callS X181 hx (y := (⟨"com/example/netsettle/netsettle/messages/DigitsPutPinLaw", "ok", "([CIIIIC[J)Z"⟩ : MethodName)) hown (mvT hZ (hw _ (List.mem_of_getElem? (i := 18) rfl))) (mvT hZ (hw _ (List.mem_of_getElem? (i := 19) rfl))) (mvT hZ (hw _ (List.mem_of_getElem? (i := 20) rfl))) (mvT hZ (hw _ (List.mem_of_getElem? (i := 21) rfl))) (by decide) (backOf (W := 0) (rm2 l Z a0 hw [] b5 (9 : Int32) vO vW vN vF b91 k5 (16 : Int32) (own_put vW.toInt.toNat vN ((vO + vW) - (1 : Int32)) [(.int vF.toUInt32.toUInt16.toUInt32.toInt32), (.int vF.toUInt32.toUInt16.toUInt32.toInt32), (.int vF.toUInt32.toUInt16.toUInt32.toInt32), (.int vF.toUInt32.toUInt16.toUInt32.toInt32), (.int vF.toUInt32.toUInt16.toUInt32.toInt32), (.int vF.toUInt32.toUInt16.toUInt32.toInt32), (.int vF.toUInt32.toUInt16.toUInt32.toInt32), (.int vF.toUInt32.toUInt16.toUInt32.toInt32), (.int vF.toUInt32.toUInt16.toUInt32.toInt32), (.int vF.toUInt32.toUInt16.toUInt32.toInt32), (.int vF.toUInt32.toUInt16.toUInt32.toInt32), (.int vF.toUInt32.toUInt16.toUInt32.toInt32), (.int vF.toUInt32.toUInt16.toUInt32.toInt32), (.int vF.toUInt32.toUInt16.toUInt32.toInt32), (.int vF.toUInt32.toUInt16.toUInt32.toInt32), (.int vF.toUInt32.toUInt16.toUInt32.toInt32)]) (.int (0 : Int32)) k91 (own_c (9 : Int32) vO vW vN vF) T158.heap n0 (Nat.le_trans Z0 KC160.1) q158_1 F162 (own_cat vO vW vN vF hO hW hN _ rfl (9 : Int32) (by decide) (by decide)) ⟨by decide, by decide⟩ (by decide) hO hW (own_cf (9 : Int32) vO vW vN vF hO hW hF) (own_cd (9 : Int32) vO vW vN vF hO hW hN (by decide) (by decide))) hZ (hw _ (List.mem_of_getElem? (i := 21) rfl)) (hw _ (List.mem_of_getElem? (i := 20) rfl)) (by decide) (by decide)) (g := (mkF m 405 #[.val (.int p1), .val (.int p2), .val (.int p3), .val (.int p4), .val (.int vN), .val (.int vO), .val (.int vW), .val (.int vF), .val (.ref b5), .val (.ref b91)] [(.ref b91), (.int vF), (.int vN), (.int vW), (.int vO), (.int (9 : Int32)), (.ref b5)])) rfl (by rw [hml]; rfl) (argsL := [(.ref b5), (.int (9 : Int32)), (.int vO), (.int vW), (.int vN), (.int vF), (.ref b91)]) (rest := []) (lenOf pd_1 rfl) rfl (by show 2 * 0 + _ ≤ _; exact Nat.le_of_eq rfl) (hb hby at_405) (fun _ _ => ⟨rfl, q181_0, (by decide : 2 + 0 ≤ _), (by decide : 28 + 0 ≤ _)⟩)
  dsimp only [Pt.U, Pt.locs, Pt.cells, Pt.slots] at X183 l183 y183 z183 st183 hQ183
  subst y183 z183
  obtain ⟨rfl, Nq183, q183_0⟩ := hQ183
  have N184 := Eq.subst (motive := fun L => Fr n0 L) l183.symm (Fr.app N182 Nq183)
  have pre185 : ∀ t, Steps p.tables e below (T183.setTop (mkF m 421 #[.val (.int p1), .val (.int p2), .val (.int p3), .val (.int p4), .val (.int vN), .val (.int vO), .val (.int vW), .val (.int vF), .val (.ref b5), .val (.ref b91)] [(.int vN), (.int vW), (.int vO), (.int (10 : Int32)), (.ref b5)])) t → Steps p.tables e below (s₁.setTop (entryFrame m #[(.int p1), (.int p2), (.int p3), (.int p4)] maxLocals)) t := by
    intro t k
    refine pre178 t ?_
    refine XS.bipush X176.here hx rfl (hb hby at_353) ?_
    show Steps _ _ _ (T176.setTop (mkF m 355 #[.val (.int p1), .val (.int p2), .val (.int p3), .val (.int p4), .val (.int vN), .val (.int vO), .val (.int vW), .val (.int vF), .val (.ref b5), .val (.ref b91)] [(.int (7 : Int32)), (.ref b5)])) _
    refine XS.iload X176.here hx rfl (hb hby at_355) rfl ?_
    show Steps _ _ _ (T176.setTop (mkF m 357 #[.val (.int p1), .val (.int p2), .val (.int p3), .val (.int p4), .val (.int vN), .val (.int vO), .val (.int vW), .val (.int vF), .val (.ref b5), .val (.ref b91)] [(.int vO), (.int (7 : Int32)), (.ref b5)])) _
    refine XS.iload X176.here hx rfl (hb hby at_357) rfl ?_
    show Steps _ _ _ (T176.setTop (mkF m 359 #[.val (.int p1), .val (.int p2), .val (.int p3), .val (.int p4), .val (.int vN), .val (.int vO), .val (.int vW), .val (.int vF), .val (.ref b5), .val (.ref b91)] [(.int vW), (.int vO), (.int (7 : Int32)), (.ref b5)])) _
    refine XS.iload X176.here hx rfl (hb hby at_359) rfl ?_
    show Steps _ _ _ (T176.setTop (mkF m 361 #[.val (.int p1), .val (.int p2), .val (.int p3), .val (.int p4), .val (.int vN), .val (.int vO), .val (.int vW), .val (.int vF), .val (.ref b5), .val (.ref b91)] [(.int vN), (.int vW), (.int vO), (.int (7 : Int32)), (.ref b5)])) _
    refine XS.iload X176.here hx rfl (hb hby at_361) rfl ?_
    show Steps _ _ _ (T176.setTop (mkF m 363 #[.val (.int p1), .val (.int p2), .val (.int p3), .val (.int p4), .val (.int vN), .val (.int vO), .val (.int vW), .val (.int vF), .val (.ref b5), .val (.ref b91)] [(.int vF), (.int vN), (.int vW), (.int vO), (.int (7 : Int32)), (.ref b5)])) _
    refine XS.aload X176.here hx rfl (hb hby at_363) rfl rfl ?_
    show Steps _ _ _ (T176.setTop (mkF m 365 #[.val (.int p1), .val (.int p2), .val (.int p3), .val (.int p4), .val (.int vN), .val (.int vO), .val (.int vW), .val (.int vF), .val (.ref b5), .val (.ref b91)] [(.ref b91), (.int vF), (.int vN), (.int vW), (.int vO), (.int (7 : Int32)), (.ref b5)])) _
    refine st179 _ ?_
    show Steps _ _ _ (T179.setTop (mkF m 368 #[.val (.int p1), .val (.int p2), .val (.int p3), .val (.int p4), .val (.int vN), .val (.int vO), .val (.int vW), .val (.int vF), .val (.ref b5), .val (.ref b91)] [(.int (1 : Int32))])) _
    refine XS.ifNo X179.here hx rfl (hb hby at_368) rfl ((if0 _ _).trans (feq (by decide)).1) ?_
    show Steps _ _ _ (T179.setTop (mkF m 371 #[.val (.int p1), .val (.int p2), .val (.int p3), .val (.int p4), .val (.int vN), .val (.int vO), .val (.int vW), .val (.int vF), .val (.ref b5), .val (.ref b91)] [])) _
    refine XS.aload X179.here hx rfl (hb hby at_371) rfl rfl ?_
    show Steps _ _ _ (T179.setTop (mkF m 373 #[.val (.int p1), .val (.int p2), .val (.int p3), .val (.int p4), .val (.int vN), .val (.int vO), .val (.int vW), .val (.int vF), .val (.ref b5), .val (.ref b91)] [(.ref b5)])) _
    refine XS.bipush X179.here hx rfl (hb hby at_373) ?_
    show Steps _ _ _ (T179.setTop (mkF m 375 #[.val (.int p1), .val (.int p2), .val (.int p3), .val (.int p4), .val (.int vN), .val (.int vO), .val (.int vW), .val (.int vF), .val (.ref b5), .val (.ref b91)] [(.int (8 : Int32)), (.ref b5)])) _
    refine XS.iload X179.here hx rfl (hb hby at_375) rfl ?_
    show Steps _ _ _ (T179.setTop (mkF m 377 #[.val (.int p1), .val (.int p2), .val (.int p3), .val (.int p4), .val (.int vN), .val (.int vO), .val (.int vW), .val (.int vF), .val (.ref b5), .val (.ref b91)] [(.int vO), (.int (8 : Int32)), (.ref b5)])) _
    refine XS.iload X179.here hx rfl (hb hby at_377) rfl ?_
    show Steps _ _ _ (T179.setTop (mkF m 379 #[.val (.int p1), .val (.int p2), .val (.int p3), .val (.int p4), .val (.int vN), .val (.int vO), .val (.int vW), .val (.int vF), .val (.ref b5), .val (.ref b91)] [(.int vW), (.int vO), (.int (8 : Int32)), (.ref b5)])) _
    refine XS.iload X179.here hx rfl (hb hby at_379) rfl ?_
    show Steps _ _ _ (T179.setTop (mkF m 381 #[.val (.int p1), .val (.int p2), .val (.int p3), .val (.int p4), .val (.int vN), .val (.int vO), .val (.int vW), .val (.int vF), .val (.ref b5), .val (.ref b91)] [(.int vN), (.int vW), (.int vO), (.int (8 : Int32)), (.ref b5)])) _
    refine XS.iload X179.here hx rfl (hb hby at_381) rfl ?_
    show Steps _ _ _ (T179.setTop (mkF m 383 #[.val (.int p1), .val (.int p2), .val (.int p3), .val (.int p4), .val (.int vN), .val (.int vO), .val (.int vW), .val (.int vF), .val (.ref b5), .val (.ref b91)] [(.int vF), (.int vN), (.int vW), (.int vO), (.int (8 : Int32)), (.ref b5)])) _
    refine XS.aload X179.here hx rfl (hb hby at_383) rfl rfl ?_
    show Steps _ _ _ (T179.setTop (mkF m 385 #[.val (.int p1), .val (.int p2), .val (.int p3), .val (.int p4), .val (.int vN), .val (.int vO), .val (.int vW), .val (.int vF), .val (.ref b5), .val (.ref b91)] [(.ref b91), (.int vF), (.int vN), (.int vW), (.int vO), (.int (8 : Int32)), (.ref b5)])) _
    refine st181 _ ?_
    show Steps _ _ _ (T181.setTop (mkF m 388 #[.val (.int p1), .val (.int p2), .val (.int p3), .val (.int p4), .val (.int vN), .val (.int vO), .val (.int vW), .val (.int vF), .val (.ref b5), .val (.ref b91)] [(.int (1 : Int32))])) _
    refine XS.ifNo X181.here hx rfl (hb hby at_388) rfl ((if0 _ _).trans (feq (by decide)).1) ?_
    show Steps _ _ _ (T181.setTop (mkF m 391 #[.val (.int p1), .val (.int p2), .val (.int p3), .val (.int p4), .val (.int vN), .val (.int vO), .val (.int vW), .val (.int vF), .val (.ref b5), .val (.ref b91)] [])) _
    refine XS.aload X181.here hx rfl (hb hby at_391) rfl rfl ?_
    show Steps _ _ _ (T181.setTop (mkF m 393 #[.val (.int p1), .val (.int p2), .val (.int p3), .val (.int p4), .val (.int vN), .val (.int vO), .val (.int vW), .val (.int vF), .val (.ref b5), .val (.ref b91)] [(.ref b5)])) _
    refine XS.bipush X181.here hx rfl (hb hby at_393) ?_
    show Steps _ _ _ (T181.setTop (mkF m 395 #[.val (.int p1), .val (.int p2), .val (.int p3), .val (.int p4), .val (.int vN), .val (.int vO), .val (.int vW), .val (.int vF), .val (.ref b5), .val (.ref b91)] [(.int (9 : Int32)), (.ref b5)])) _
    refine XS.iload X181.here hx rfl (hb hby at_395) rfl ?_
    show Steps _ _ _ (T181.setTop (mkF m 397 #[.val (.int p1), .val (.int p2), .val (.int p3), .val (.int p4), .val (.int vN), .val (.int vO), .val (.int vW), .val (.int vF), .val (.ref b5), .val (.ref b91)] [(.int vO), (.int (9 : Int32)), (.ref b5)])) _
    refine XS.iload X181.here hx rfl (hb hby at_397) rfl ?_
    show Steps _ _ _ (T181.setTop (mkF m 399 #[.val (.int p1), .val (.int p2), .val (.int p3), .val (.int p4), .val (.int vN), .val (.int vO), .val (.int vW), .val (.int vF), .val (.ref b5), .val (.ref b91)] [(.int vW), (.int vO), (.int (9 : Int32)), (.ref b5)])) _
    refine XS.iload X181.here hx rfl (hb hby at_399) rfl ?_
    show Steps _ _ _ (T181.setTop (mkF m 401 #[.val (.int p1), .val (.int p2), .val (.int p3), .val (.int p4), .val (.int vN), .val (.int vO), .val (.int vW), .val (.int vF), .val (.ref b5), .val (.ref b91)] [(.int vN), (.int vW), (.int vO), (.int (9 : Int32)), (.ref b5)])) _
    refine XS.iload X181.here hx rfl (hb hby at_401) rfl ?_
    show Steps _ _ _ (T181.setTop (mkF m 403 #[.val (.int p1), .val (.int p2), .val (.int p3), .val (.int p4), .val (.int vN), .val (.int vO), .val (.int vW), .val (.int vF), .val (.ref b5), .val (.ref b91)] [(.int vF), (.int vN), (.int vW), (.int vO), (.int (9 : Int32)), (.ref b5)])) _
    refine XS.aload X181.here hx rfl (hb hby at_403) rfl rfl ?_
    show Steps _ _ _ (T181.setTop (mkF m 405 #[.val (.int p1), .val (.int p2), .val (.int p3), .val (.int p4), .val (.int vN), .val (.int vO), .val (.int vW), .val (.int vF), .val (.ref b5), .val (.ref b91)] [(.ref b91), (.int vF), (.int vN), (.int vW), (.int vO), (.int (9 : Int32)), (.ref b5)])) _
    refine st183 _ ?_
    show Steps _ _ _ (T183.setTop (mkF m 408 #[.val (.int p1), .val (.int p2), .val (.int p3), .val (.int p4), .val (.int vN), .val (.int vO), .val (.int vW), .val (.int vF), .val (.ref b5), .val (.ref b91)] [(.int (1 : Int32))])) _
    refine XS.ifNo X183.here hx rfl (hb hby at_408) rfl ((if0 _ _).trans (feq (by decide)).1) ?_
    show Steps _ _ _ (T183.setTop (mkF m 411 #[.val (.int p1), .val (.int p2), .val (.int p3), .val (.int p4), .val (.int vN), .val (.int vO), .val (.int vW), .val (.int vF), .val (.ref b5), .val (.ref b91)] [])) _
    refine XS.aload X183.here hx rfl (hb hby at_411) rfl rfl ?_
    show Steps _ _ _ (T183.setTop (mkF m 413 #[.val (.int p1), .val (.int p2), .val (.int p3), .val (.int p4), .val (.int vN), .val (.int vO), .val (.int vW), .val (.int vF), .val (.ref b5), .val (.ref b91)] [(.ref b5)])) _
    refine XS.bipush X183.here hx rfl (hb hby at_413) ?_
    show Steps _ _ _ (T183.setTop (mkF m 415 #[.val (.int p1), .val (.int p2), .val (.int p3), .val (.int p4), .val (.int vN), .val (.int vO), .val (.int vW), .val (.int vF), .val (.ref b5), .val (.ref b91)] [(.int (10 : Int32)), (.ref b5)])) _
    refine XS.iload X183.here hx rfl (hb hby at_415) rfl ?_
    show Steps _ _ _ (T183.setTop (mkF m 417 #[.val (.int p1), .val (.int p2), .val (.int p3), .val (.int p4), .val (.int vN), .val (.int vO), .val (.int vW), .val (.int vF), .val (.ref b5), .val (.ref b91)] [(.int vO), (.int (10 : Int32)), (.ref b5)])) _
    refine XS.iload X183.here hx rfl (hb hby at_417) rfl ?_
    show Steps _ _ _ (T183.setTop (mkF m 419 #[.val (.int p1), .val (.int p2), .val (.int p3), .val (.int p4), .val (.int vN), .val (.int vO), .val (.int vW), .val (.int vF), .val (.ref b5), .val (.ref b91)] [(.int vW), (.int vO), (.int (10 : Int32)), (.ref b5)])) _
    refine XS.iload X183.here hx rfl (hb hby at_419) rfl ?_
    show Steps _ _ _ (T183.setTop (mkF m 421 #[.val (.int p1), .val (.int p2), .val (.int p3), .val (.int p4), .val (.int vN), .val (.int vO), .val (.int vW), .val (.int vF), .val (.ref b5), .val (.ref b91)] [(.int vN), (.int vW), (.int vO), (.int (10 : Int32)), (.ref b5)])) _
    exact k
  obtain ⟨_, _, ⟨T186, L186, k186, n186⟩, -, X186, ⟨Lc186, hQ186, l186, y186, z186⟩, st186⟩ := Jvm.LawKit.callS X183 hx (y := (⟨"com/example/netsettle/netsettle/messages/DigitsPutPinLaw", "ok", "([CIIIIC[J)Z"⟩ : MethodName)) hown (mvT hZ (hw _ (List.mem_of_getElem? (i := 18) rfl))) (mvT hZ (hw _ (List.mem_of_getElem? (i := 19) rfl))) (mvT hZ (hw _ (List.mem_of_getElem? (i := 20) rfl))) (mvT hZ (hw _ (List.mem_of_getElem? (i := 21) rfl))) (by decide) (backOf (W := 0) (rm2 l Z a0 hw [] b5 (10 : Int32) vO vW vN vF b91 k5 (16 : Int32) (own_put vW.toInt.toNat vN ((vO + vW) - (1 : Int32)) [(.int vF.toUInt32.toUInt16.toUInt32.toInt32), (.int vF.toUInt32.toUInt16.toUInt32.toInt32), (.int vF.toUInt32.toUInt16.toUInt32.toInt32), (.int vF.toUInt32.toUInt16.toUInt32.toInt32), (.int vF.toUInt32.toUInt16.toUInt32.toInt32), (.int vF.toUInt32.toUInt16.toUInt32.toInt32), (.int vF.toUInt32.toUInt16.toUInt32.toInt32), (.int vF.toUInt32.toUInt16.toUInt32.toInt32), (.int vF.toUInt32.toUInt16.toUInt32.toInt32), (.int vF.toUInt32.toUInt16.toUInt32.toInt32), (.int vF.toUInt32.toUInt16.toUInt32.toInt32), (.int vF.toUInt32.toUInt16.toUInt32.toInt32), (.int vF.toUInt32.toUInt16.toUInt32.toInt32), (.int vF.toUInt32.toUInt16.toUInt32.toInt32), (.int vF.toUInt32.toUInt16.toUInt32.toInt32), (.int vF.toUInt32.toUInt16.toUInt32.toInt32)]) (.int (0 : Int32)) k91 (own_c (10 : Int32) vO vW vN vF) T158.heap n0 (Nat.le_trans Z0 KC160.1) q158_1 F162 (own_cat vO vW vN vF hO hW hN _ rfl (10 : Int32) (by decide) (by decide)) ⟨by decide, by decide⟩ (by decide) hO hW (own_cf (10 : Int32) vO vW vN vF hO hW hF) (own_cd (10 : Int32) vO vW vN vF hO hW hN (by decide) (by decide))) hZ (hw _ (List.mem_of_getElem? (i := 21) rfl)) (hw _ (List.mem_of_getElem? (i := 20) rfl)) (by decide) (by decide)) (g := (mkF m 425 #[.val (.int p1), .val (.int p2), .val (.int p3), .val (.int p4), .val (.int vN), .val (.int vO), .val (.int vW), .val (.int vF), .val (.ref b5), .val (.ref b91)] [(.ref b91), (.int vF), (.int vN), (.int vW), (.int vO), (.int (10 : Int32)), (.ref b5)])) rfl (by rw [hml]; rfl) (argsL := [(.ref b5), (.int (10 : Int32)), (.int vO), (.int vW), (.int vN), (.int vF), (.ref b91)]) (rest := []) (lenOf pd_1 rfl) rfl (by show 2 * 0 + _ ≤ _; exact Nat.le_of_eq rfl) (hb hby at_425) (fun _ _ => ⟨rfl, q183_0, (by decide : 2 + 0 ≤ _), (by decide : 28 + 0 ≤ _)⟩)
  dsimp only [Pt.U, Pt.locs, Pt.cells, Pt.slots] at X186 l186 y186 z186 st186 hQ186
  subst y186 z186
  obtain ⟨rfl, Nq186, q186_0⟩ := hQ186
  have N187 := Eq.subst (motive := fun L => Fr n0 L) l186.symm (Fr.app N184 Nq186)
  obtain ⟨_, _, ⟨T188, L188, k188, n188⟩, -, X188, ⟨Lc188, hQ188, l188, y188, z188⟩, st188⟩ := Jvm.LawKit.callS X186 hx (y := (⟨"com/example/netsettle/netsettle/messages/DigitsPutPinLaw", "ok", "([CIIIIC[J)Z"⟩ : MethodName)) hown (mvT hZ (hw _ (List.mem_of_getElem? (i := 18) rfl))) (mvT hZ (hw _ (List.mem_of_getElem? (i := 19) rfl))) (mvT hZ (hw _ (List.mem_of_getElem? (i := 20) rfl))) (mvT hZ (hw _ (List.mem_of_getElem? (i := 21) rfl))) (by decide) (backOf (W := 0) (rm2 l Z a0 hw [] b5 (11 : Int32) vO vW vN vF b91 k5 (16 : Int32) (own_put vW.toInt.toNat vN ((vO + vW) - (1 : Int32)) [(.int vF.toUInt32.toUInt16.toUInt32.toInt32), (.int vF.toUInt32.toUInt16.toUInt32.toInt32), (.int vF.toUInt32.toUInt16.toUInt32.toInt32), (.int vF.toUInt32.toUInt16.toUInt32.toInt32), (.int vF.toUInt32.toUInt16.toUInt32.toInt32), (.int vF.toUInt32.toUInt16.toUInt32.toInt32), (.int vF.toUInt32.toUInt16.toUInt32.toInt32), (.int vF.toUInt32.toUInt16.toUInt32.toInt32), (.int vF.toUInt32.toUInt16.toUInt32.toInt32), (.int vF.toUInt32.toUInt16.toUInt32.toInt32), (.int vF.toUInt32.toUInt16.toUInt32.toInt32), (.int vF.toUInt32.toUInt16.toUInt32.toInt32), (.int vF.toUInt32.toUInt16.toUInt32.toInt32), (.int vF.toUInt32.toUInt16.toUInt32.toInt32), (.int vF.toUInt32.toUInt16.toUInt32.toInt32), (.int vF.toUInt32.toUInt16.toUInt32.toInt32)]) (.int (0 : Int32)) k91 (own_c (11 : Int32) vO vW vN vF) T158.heap n0 (Nat.le_trans Z0 KC160.1) q158_1 F162 (own_cat vO vW vN vF hO hW hN _ rfl (11 : Int32) (by decide) (by decide)) ⟨by decide, by decide⟩ (by decide) hO hW (own_cf (11 : Int32) vO vW vN vF hO hW hF) (own_cd (11 : Int32) vO vW vN vF hO hW hN (by decide) (by decide))) hZ (hw _ (List.mem_of_getElem? (i := 21) rfl)) (hw _ (List.mem_of_getElem? (i := 20) rfl)) (by decide) (by decide)) (g := (mkF m 445 #[.val (.int p1), .val (.int p2), .val (.int p3), .val (.int p4), .val (.int vN), .val (.int vO), .val (.int vW), .val (.int vF), .val (.ref b5), .val (.ref b91)] [(.ref b91), (.int vF), (.int vN), (.int vW), (.int vO), (.int (11 : Int32)), (.ref b5)])) rfl (by rw [hml]; rfl) (argsL := [(.ref b5), (.int (11 : Int32)), (.int vO), (.int vW), (.int vN), (.int vF), (.ref b91)]) (rest := []) (lenOf pd_1 rfl) rfl (by show 2 * 0 + _ ≤ _; exact Nat.le_of_eq rfl) (hb hby at_445) (fun _ _ => ⟨rfl, q186_0, (by decide : 2 + 0 ≤ _), (by decide : 28 + 0 ≤ _)⟩)
  dsimp only [Pt.U, Pt.locs, Pt.cells, Pt.slots] at X188 l188 y188 z188 st188 hQ188
  subst y188 z188
  obtain ⟨rfl, Nq188, q188_0⟩ := hQ188
  have N189 := Eq.subst (motive := fun L => Fr n0 L) l188.symm (Fr.app N187 Nq188)
  obtain ⟨_, _, ⟨T190, L190, k190, n190⟩, -, X190, ⟨Lc190, hQ190, l190, y190, z190⟩, st190⟩ := Jvm.LawKit.callS X188 hx (y := (⟨"com/example/netsettle/netsettle/messages/DigitsPutPinLaw", "ok", "([CIIIIC[J)Z"⟩ : MethodName)) hown (mvT hZ (hw _ (List.mem_of_getElem? (i := 18) rfl))) (mvT hZ (hw _ (List.mem_of_getElem? (i := 19) rfl))) (mvT hZ (hw _ (List.mem_of_getElem? (i := 20) rfl))) (mvT hZ (hw _ (List.mem_of_getElem? (i := 21) rfl))) (by decide) (backOf (W := 0) (rm2 l Z a0 hw [] b5 (12 : Int32) vO vW vN vF b91 k5 (16 : Int32) (own_put vW.toInt.toNat vN ((vO + vW) - (1 : Int32)) [(.int vF.toUInt32.toUInt16.toUInt32.toInt32), (.int vF.toUInt32.toUInt16.toUInt32.toInt32), (.int vF.toUInt32.toUInt16.toUInt32.toInt32), (.int vF.toUInt32.toUInt16.toUInt32.toInt32), (.int vF.toUInt32.toUInt16.toUInt32.toInt32), (.int vF.toUInt32.toUInt16.toUInt32.toInt32), (.int vF.toUInt32.toUInt16.toUInt32.toInt32), (.int vF.toUInt32.toUInt16.toUInt32.toInt32), (.int vF.toUInt32.toUInt16.toUInt32.toInt32), (.int vF.toUInt32.toUInt16.toUInt32.toInt32), (.int vF.toUInt32.toUInt16.toUInt32.toInt32), (.int vF.toUInt32.toUInt16.toUInt32.toInt32), (.int vF.toUInt32.toUInt16.toUInt32.toInt32), (.int vF.toUInt32.toUInt16.toUInt32.toInt32), (.int vF.toUInt32.toUInt16.toUInt32.toInt32), (.int vF.toUInt32.toUInt16.toUInt32.toInt32)]) (.int (0 : Int32)) k91 (own_c (12 : Int32) vO vW vN vF) T158.heap n0 (Nat.le_trans Z0 KC160.1) q158_1 F162 (own_cat vO vW vN vF hO hW hN _ rfl (12 : Int32) (by decide) (by decide)) ⟨by decide, by decide⟩ (by decide) hO hW (own_cf (12 : Int32) vO vW vN vF hO hW hF) (own_cd (12 : Int32) vO vW vN vF hO hW hN (by decide) (by decide))) hZ (hw _ (List.mem_of_getElem? (i := 21) rfl)) (hw _ (List.mem_of_getElem? (i := 20) rfl)) (by decide) (by decide)) (g := (mkF m 465 #[.val (.int p1), .val (.int p2), .val (.int p3), .val (.int p4), .val (.int vN), .val (.int vO), .val (.int vW), .val (.int vF), .val (.ref b5), .val (.ref b91)] [(.ref b91), (.int vF), (.int vN), (.int vW), (.int vO), (.int (12 : Int32)), (.ref b5)])) rfl (by rw [hml]; rfl) (argsL := [(.ref b5), (.int (12 : Int32)), (.int vO), (.int vW), (.int vN), (.int vF), (.ref b91)]) (rest := []) (lenOf pd_1 rfl) rfl (by show 2 * 0 + _ ≤ _; exact Nat.le_of_eq rfl) (hb hby at_465) (fun _ _ => ⟨rfl, q188_0, (by decide : 2 + 0 ≤ _), (by decide : 28 + 0 ≤ _)⟩)
  dsimp only [Pt.U, Pt.locs, Pt.cells, Pt.slots] at X190 l190 y190 z190 st190 hQ190
  subst y190 z190
  obtain ⟨rfl, Nq190, q190_0⟩ := hQ190
  have N191 := Eq.subst (motive := fun L => Fr n0 L) l190.symm (Fr.app N189 Nq190)
  obtain ⟨_, _, ⟨T192, L192, k192, n192⟩, -, X192, ⟨Lc192, hQ192, l192, y192, z192⟩, st192⟩ := Jvm.LawKit.callS X190 hx (y := (⟨"com/example/netsettle/netsettle/messages/DigitsPutPinLaw", "ok", "([CIIIIC[J)Z"⟩ : MethodName)) hown (mvT hZ (hw _ (List.mem_of_getElem? (i := 18) rfl))) (mvT hZ (hw _ (List.mem_of_getElem? (i := 19) rfl))) (mvT hZ (hw _ (List.mem_of_getElem? (i := 20) rfl))) (mvT hZ (hw _ (List.mem_of_getElem? (i := 21) rfl))) (by decide) (backOf (W := 0) (rm2 l Z a0 hw [] b5 (13 : Int32) vO vW vN vF b91 k5 (16 : Int32) (own_put vW.toInt.toNat vN ((vO + vW) - (1 : Int32)) [(.int vF.toUInt32.toUInt16.toUInt32.toInt32), (.int vF.toUInt32.toUInt16.toUInt32.toInt32), (.int vF.toUInt32.toUInt16.toUInt32.toInt32), (.int vF.toUInt32.toUInt16.toUInt32.toInt32), (.int vF.toUInt32.toUInt16.toUInt32.toInt32), (.int vF.toUInt32.toUInt16.toUInt32.toInt32), (.int vF.toUInt32.toUInt16.toUInt32.toInt32), (.int vF.toUInt32.toUInt16.toUInt32.toInt32), (.int vF.toUInt32.toUInt16.toUInt32.toInt32), (.int vF.toUInt32.toUInt16.toUInt32.toInt32), (.int vF.toUInt32.toUInt16.toUInt32.toInt32), (.int vF.toUInt32.toUInt16.toUInt32.toInt32), (.int vF.toUInt32.toUInt16.toUInt32.toInt32), (.int vF.toUInt32.toUInt16.toUInt32.toInt32), (.int vF.toUInt32.toUInt16.toUInt32.toInt32), (.int vF.toUInt32.toUInt16.toUInt32.toInt32)]) (.int (0 : Int32)) k91 (own_c (13 : Int32) vO vW vN vF) T158.heap n0 (Nat.le_trans Z0 KC160.1) q158_1 F162 (own_cat vO vW vN vF hO hW hN _ rfl (13 : Int32) (by decide) (by decide)) ⟨by decide, by decide⟩ (by decide) hO hW (own_cf (13 : Int32) vO vW vN vF hO hW hF) (own_cd (13 : Int32) vO vW vN vF hO hW hN (by decide) (by decide))) hZ (hw _ (List.mem_of_getElem? (i := 21) rfl)) (hw _ (List.mem_of_getElem? (i := 20) rfl)) (by decide) (by decide)) (g := (mkF m 485 #[.val (.int p1), .val (.int p2), .val (.int p3), .val (.int p4), .val (.int vN), .val (.int vO), .val (.int vW), .val (.int vF), .val (.ref b5), .val (.ref b91)] [(.ref b91), (.int vF), (.int vN), (.int vW), (.int vO), (.int (13 : Int32)), (.ref b5)])) rfl (by rw [hml]; rfl) (argsL := [(.ref b5), (.int (13 : Int32)), (.int vO), (.int vW), (.int vN), (.int vF), (.ref b91)]) (rest := []) (lenOf pd_1 rfl) rfl (by show 2 * 0 + _ ≤ _; exact Nat.le_of_eq rfl) (hb hby at_485) (fun _ _ => ⟨rfl, q190_0, (by decide : 2 + 0 ≤ _), (by decide : 28 + 0 ≤ _)⟩)
  dsimp only [Pt.U, Pt.locs, Pt.cells, Pt.slots] at X192 l192 y192 z192 st192 hQ192
  subst y192 z192
  obtain ⟨rfl, Nq192, q192_0⟩ := hQ192
  have N193 := Eq.subst (motive := fun L => Fr n0 L) l192.symm (Fr.app N191 Nq192)
  have pre194 : ∀ t, Steps p.tables e below (T192.setTop (mkF m 493 #[.val (.int p1), .val (.int p2), .val (.int p3), .val (.int p4), .val (.int vN), .val (.int vO), .val (.int vW), .val (.int vF), .val (.ref b5), .val (.ref b91)] [(.ref b5)])) t → Steps p.tables e below (s₁.setTop (entryFrame m #[(.int p1), (.int p2), (.int p3), (.int p4)] maxLocals)) t := by
    intro t k
    refine pre185 t ?_
    refine XS.iload X183.here hx rfl (hb hby at_421) rfl ?_
    show Steps _ _ _ (T183.setTop (mkF m 423 #[.val (.int p1), .val (.int p2), .val (.int p3), .val (.int p4), .val (.int vN), .val (.int vO), .val (.int vW), .val (.int vF), .val (.ref b5), .val (.ref b91)] [(.int vF), (.int vN), (.int vW), (.int vO), (.int (10 : Int32)), (.ref b5)])) _
    refine XS.aload X183.here hx rfl (hb hby at_423) rfl rfl ?_
    show Steps _ _ _ (T183.setTop (mkF m 425 #[.val (.int p1), .val (.int p2), .val (.int p3), .val (.int p4), .val (.int vN), .val (.int vO), .val (.int vW), .val (.int vF), .val (.ref b5), .val (.ref b91)] [(.ref b91), (.int vF), (.int vN), (.int vW), (.int vO), (.int (10 : Int32)), (.ref b5)])) _
    refine st186 _ ?_
    show Steps _ _ _ (T186.setTop (mkF m 428 #[.val (.int p1), .val (.int p2), .val (.int p3), .val (.int p4), .val (.int vN), .val (.int vO), .val (.int vW), .val (.int vF), .val (.ref b5), .val (.ref b91)] [(.int (1 : Int32))])) _
    refine XS.ifNo X186.here hx rfl (hb hby at_428) rfl ((if0 _ _).trans (feq (by decide)).1) ?_
    show Steps _ _ _ (T186.setTop (mkF m 431 #[.val (.int p1), .val (.int p2), .val (.int p3), .val (.int p4), .val (.int vN), .val (.int vO), .val (.int vW), .val (.int vF), .val (.ref b5), .val (.ref b91)] [])) _
    refine XS.aload X186.here hx rfl (hb hby at_431) rfl rfl ?_
    show Steps _ _ _ (T186.setTop (mkF m 433 #[.val (.int p1), .val (.int p2), .val (.int p3), .val (.int p4), .val (.int vN), .val (.int vO), .val (.int vW), .val (.int vF), .val (.ref b5), .val (.ref b91)] [(.ref b5)])) _
    refine XS.bipush X186.here hx rfl (hb hby at_433) ?_
    show Steps _ _ _ (T186.setTop (mkF m 435 #[.val (.int p1), .val (.int p2), .val (.int p3), .val (.int p4), .val (.int vN), .val (.int vO), .val (.int vW), .val (.int vF), .val (.ref b5), .val (.ref b91)] [(.int (11 : Int32)), (.ref b5)])) _
    refine XS.iload X186.here hx rfl (hb hby at_435) rfl ?_
    show Steps _ _ _ (T186.setTop (mkF m 437 #[.val (.int p1), .val (.int p2), .val (.int p3), .val (.int p4), .val (.int vN), .val (.int vO), .val (.int vW), .val (.int vF), .val (.ref b5), .val (.ref b91)] [(.int vO), (.int (11 : Int32)), (.ref b5)])) _
    refine XS.iload X186.here hx rfl (hb hby at_437) rfl ?_
    show Steps _ _ _ (T186.setTop (mkF m 439 #[.val (.int p1), .val (.int p2), .val (.int p3), .val (.int p4), .val (.int vN), .val (.int vO), .val (.int vW), .val (.int vF), .val (.ref b5), .val (.ref b91)] [(.int vW), (.int vO), (.int (11 : Int32)), (.ref b5)])) _
    refine XS.iload X186.here hx rfl (hb hby at_439) rfl ?_
    show Steps _ _ _ (T186.setTop (mkF m 441 #[.val (.int p1), .val (.int p2), .val (.int p3), .val (.int p4), .val (.int vN), .val (.int vO), .val (.int vW), .val (.int vF), .val (.ref b5), .val (.ref b91)] [(.int vN), (.int vW), (.int vO), (.int (11 : Int32)), (.ref b5)])) _
    refine XS.iload X186.here hx rfl (hb hby at_441) rfl ?_
    show Steps _ _ _ (T186.setTop (mkF m 443 #[.val (.int p1), .val (.int p2), .val (.int p3), .val (.int p4), .val (.int vN), .val (.int vO), .val (.int vW), .val (.int vF), .val (.ref b5), .val (.ref b91)] [(.int vF), (.int vN), (.int vW), (.int vO), (.int (11 : Int32)), (.ref b5)])) _
    refine XS.aload X186.here hx rfl (hb hby at_443) rfl rfl ?_
    show Steps _ _ _ (T186.setTop (mkF m 445 #[.val (.int p1), .val (.int p2), .val (.int p3), .val (.int p4), .val (.int vN), .val (.int vO), .val (.int vW), .val (.int vF), .val (.ref b5), .val (.ref b91)] [(.ref b91), (.int vF), (.int vN), (.int vW), (.int vO), (.int (11 : Int32)), (.ref b5)])) _
    refine st188 _ ?_
    show Steps _ _ _ (T188.setTop (mkF m 448 #[.val (.int p1), .val (.int p2), .val (.int p3), .val (.int p4), .val (.int vN), .val (.int vO), .val (.int vW), .val (.int vF), .val (.ref b5), .val (.ref b91)] [(.int (1 : Int32))])) _
    refine XS.ifNo X188.here hx rfl (hb hby at_448) rfl ((if0 _ _).trans (feq (by decide)).1) ?_
    show Steps _ _ _ (T188.setTop (mkF m 451 #[.val (.int p1), .val (.int p2), .val (.int p3), .val (.int p4), .val (.int vN), .val (.int vO), .val (.int vW), .val (.int vF), .val (.ref b5), .val (.ref b91)] [])) _
    refine XS.aload X188.here hx rfl (hb hby at_451) rfl rfl ?_
    show Steps _ _ _ (T188.setTop (mkF m 453 #[.val (.int p1), .val (.int p2), .val (.int p3), .val (.int p4), .val (.int vN), .val (.int vO), .val (.int vW), .val (.int vF), .val (.ref b5), .val (.ref b91)] [(.ref b5)])) _
    refine XS.bipush X188.here hx rfl (hb hby at_453) ?_
    show Steps _ _ _ (T188.setTop (mkF m 455 #[.val (.int p1), .val (.int p2), .val (.int p3), .val (.int p4), .val (.int vN), .val (.int vO), .val (.int vW), .val (.int vF), .val (.ref b5), .val (.ref b91)] [(.int (12 : Int32)), (.ref b5)])) _
    refine XS.iload X188.here hx rfl (hb hby at_455) rfl ?_
    show Steps _ _ _ (T188.setTop (mkF m 457 #[.val (.int p1), .val (.int p2), .val (.int p3), .val (.int p4), .val (.int vN), .val (.int vO), .val (.int vW), .val (.int vF), .val (.ref b5), .val (.ref b91)] [(.int vO), (.int (12 : Int32)), (.ref b5)])) _
    refine XS.iload X188.here hx rfl (hb hby at_457) rfl ?_
    show Steps _ _ _ (T188.setTop (mkF m 459 #[.val (.int p1), .val (.int p2), .val (.int p3), .val (.int p4), .val (.int vN), .val (.int vO), .val (.int vW), .val (.int vF), .val (.ref b5), .val (.ref b91)] [(.int vW), (.int vO), (.int (12 : Int32)), (.ref b5)])) _
    refine XS.iload X188.here hx rfl (hb hby at_459) rfl ?_
    show Steps _ _ _ (T188.setTop (mkF m 461 #[.val (.int p1), .val (.int p2), .val (.int p3), .val (.int p4), .val (.int vN), .val (.int vO), .val (.int vW), .val (.int vF), .val (.ref b5), .val (.ref b91)] [(.int vN), (.int vW), (.int vO), (.int (12 : Int32)), (.ref b5)])) _
    refine XS.iload X188.here hx rfl (hb hby at_461) rfl ?_
    show Steps _ _ _ (T188.setTop (mkF m 463 #[.val (.int p1), .val (.int p2), .val (.int p3), .val (.int p4), .val (.int vN), .val (.int vO), .val (.int vW), .val (.int vF), .val (.ref b5), .val (.ref b91)] [(.int vF), (.int vN), (.int vW), (.int vO), (.int (12 : Int32)), (.ref b5)])) _
    refine XS.aload X188.here hx rfl (hb hby at_463) rfl rfl ?_
    show Steps _ _ _ (T188.setTop (mkF m 465 #[.val (.int p1), .val (.int p2), .val (.int p3), .val (.int p4), .val (.int vN), .val (.int vO), .val (.int vW), .val (.int vF), .val (.ref b5), .val (.ref b91)] [(.ref b91), (.int vF), (.int vN), (.int vW), (.int vO), (.int (12 : Int32)), (.ref b5)])) _
    refine st190 _ ?_
    show Steps _ _ _ (T190.setTop (mkF m 468 #[.val (.int p1), .val (.int p2), .val (.int p3), .val (.int p4), .val (.int vN), .val (.int vO), .val (.int vW), .val (.int vF), .val (.ref b5), .val (.ref b91)] [(.int (1 : Int32))])) _
    refine XS.ifNo X190.here hx rfl (hb hby at_468) rfl ((if0 _ _).trans (feq (by decide)).1) ?_
    show Steps _ _ _ (T190.setTop (mkF m 471 #[.val (.int p1), .val (.int p2), .val (.int p3), .val (.int p4), .val (.int vN), .val (.int vO), .val (.int vW), .val (.int vF), .val (.ref b5), .val (.ref b91)] [])) _
    refine XS.aload X190.here hx rfl (hb hby at_471) rfl rfl ?_
    show Steps _ _ _ (T190.setTop (mkF m 473 #[.val (.int p1), .val (.int p2), .val (.int p3), .val (.int p4), .val (.int vN), .val (.int vO), .val (.int vW), .val (.int vF), .val (.ref b5), .val (.ref b91)] [(.ref b5)])) _
    refine XS.bipush X190.here hx rfl (hb hby at_473) ?_
    show Steps _ _ _ (T190.setTop (mkF m 475 #[.val (.int p1), .val (.int p2), .val (.int p3), .val (.int p4), .val (.int vN), .val (.int vO), .val (.int vW), .val (.int vF), .val (.ref b5), .val (.ref b91)] [(.int (13 : Int32)), (.ref b5)])) _
    refine XS.iload X190.here hx rfl (hb hby at_475) rfl ?_
    show Steps _ _ _ (T190.setTop (mkF m 477 #[.val (.int p1), .val (.int p2), .val (.int p3), .val (.int p4), .val (.int vN), .val (.int vO), .val (.int vW), .val (.int vF), .val (.ref b5), .val (.ref b91)] [(.int vO), (.int (13 : Int32)), (.ref b5)])) _
    refine XS.iload X190.here hx rfl (hb hby at_477) rfl ?_
    show Steps _ _ _ (T190.setTop (mkF m 479 #[.val (.int p1), .val (.int p2), .val (.int p3), .val (.int p4), .val (.int vN), .val (.int vO), .val (.int vW), .val (.int vF), .val (.ref b5), .val (.ref b91)] [(.int vW), (.int vO), (.int (13 : Int32)), (.ref b5)])) _
    refine XS.iload X190.here hx rfl (hb hby at_479) rfl ?_
    show Steps _ _ _ (T190.setTop (mkF m 481 #[.val (.int p1), .val (.int p2), .val (.int p3), .val (.int p4), .val (.int vN), .val (.int vO), .val (.int vW), .val (.int vF), .val (.ref b5), .val (.ref b91)] [(.int vN), (.int vW), (.int vO), (.int (13 : Int32)), (.ref b5)])) _
    refine XS.iload X190.here hx rfl (hb hby at_481) rfl ?_
    show Steps _ _ _ (T190.setTop (mkF m 483 #[.val (.int p1), .val (.int p2), .val (.int p3), .val (.int p4), .val (.int vN), .val (.int vO), .val (.int vW), .val (.int vF), .val (.ref b5), .val (.ref b91)] [(.int vF), (.int vN), (.int vW), (.int vO), (.int (13 : Int32)), (.ref b5)])) _
    refine XS.aload X190.here hx rfl (hb hby at_483) rfl rfl ?_
    show Steps _ _ _ (T190.setTop (mkF m 485 #[.val (.int p1), .val (.int p2), .val (.int p3), .val (.int p4), .val (.int vN), .val (.int vO), .val (.int vW), .val (.int vF), .val (.ref b5), .val (.ref b91)] [(.ref b91), (.int vF), (.int vN), (.int vW), (.int vO), (.int (13 : Int32)), (.ref b5)])) _
    refine st192 _ ?_
    show Steps _ _ _ (T192.setTop (mkF m 488 #[.val (.int p1), .val (.int p2), .val (.int p3), .val (.int p4), .val (.int vN), .val (.int vO), .val (.int vW), .val (.int vF), .val (.ref b5), .val (.ref b91)] [(.int (1 : Int32))])) _
    refine XS.ifNo X192.here hx rfl (hb hby at_488) rfl ((if0 _ _).trans (feq (by decide)).1) ?_
    show Steps _ _ _ (T192.setTop (mkF m 491 #[.val (.int p1), .val (.int p2), .val (.int p3), .val (.int p4), .val (.int vN), .val (.int vO), .val (.int vW), .val (.int vF), .val (.ref b5), .val (.ref b91)] [])) _
    refine XS.aload X192.here hx rfl (hb hby at_491) rfl rfl ?_
    show Steps _ _ _ (T192.setTop (mkF m 493 #[.val (.int p1), .val (.int p2), .val (.int p3), .val (.int p4), .val (.int vN), .val (.int vO), .val (.int vW), .val (.int vF), .val (.ref b5), .val (.ref b91)] [(.ref b5)])) _
    exact k
  obtain ⟨_, _, ⟨T195, L195, k195, n195⟩, -, X195, ⟨Lc195, hQ195, l195, y195, z195⟩, st195⟩ := Jvm.LawKit.callS X192 hx (y := (⟨"com/example/netsettle/netsettle/messages/DigitsPutPinLaw", "ok", "([CIIIIC[J)Z"⟩ : MethodName)) hown (mvT hZ (hw _ (List.mem_of_getElem? (i := 18) rfl))) (mvT hZ (hw _ (List.mem_of_getElem? (i := 19) rfl))) (mvT hZ (hw _ (List.mem_of_getElem? (i := 20) rfl))) (mvT hZ (hw _ (List.mem_of_getElem? (i := 21) rfl))) (by decide) (backOf (W := 0) (rm2 l Z a0 hw [] b5 (14 : Int32) vO vW vN vF b91 k5 (16 : Int32) (own_put vW.toInt.toNat vN ((vO + vW) - (1 : Int32)) [(.int vF.toUInt32.toUInt16.toUInt32.toInt32), (.int vF.toUInt32.toUInt16.toUInt32.toInt32), (.int vF.toUInt32.toUInt16.toUInt32.toInt32), (.int vF.toUInt32.toUInt16.toUInt32.toInt32), (.int vF.toUInt32.toUInt16.toUInt32.toInt32), (.int vF.toUInt32.toUInt16.toUInt32.toInt32), (.int vF.toUInt32.toUInt16.toUInt32.toInt32), (.int vF.toUInt32.toUInt16.toUInt32.toInt32), (.int vF.toUInt32.toUInt16.toUInt32.toInt32), (.int vF.toUInt32.toUInt16.toUInt32.toInt32), (.int vF.toUInt32.toUInt16.toUInt32.toInt32), (.int vF.toUInt32.toUInt16.toUInt32.toInt32), (.int vF.toUInt32.toUInt16.toUInt32.toInt32), (.int vF.toUInt32.toUInt16.toUInt32.toInt32), (.int vF.toUInt32.toUInt16.toUInt32.toInt32), (.int vF.toUInt32.toUInt16.toUInt32.toInt32)]) (.int (0 : Int32)) k91 (own_c (14 : Int32) vO vW vN vF) T158.heap n0 (Nat.le_trans Z0 KC160.1) q158_1 F162 (own_cat vO vW vN vF hO hW hN _ rfl (14 : Int32) (by decide) (by decide)) ⟨by decide, by decide⟩ (by decide) hO hW (own_cf (14 : Int32) vO vW vN vF hO hW hF) (own_cd (14 : Int32) vO vW vN vF hO hW hN (by decide) (by decide))) hZ (hw _ (List.mem_of_getElem? (i := 21) rfl)) (hw _ (List.mem_of_getElem? (i := 20) rfl)) (by decide) (by decide)) (g := (mkF m 505 #[.val (.int p1), .val (.int p2), .val (.int p3), .val (.int p4), .val (.int vN), .val (.int vO), .val (.int vW), .val (.int vF), .val (.ref b5), .val (.ref b91)] [(.ref b91), (.int vF), (.int vN), (.int vW), (.int vO), (.int (14 : Int32)), (.ref b5)])) rfl (by rw [hml]; rfl) (argsL := [(.ref b5), (.int (14 : Int32)), (.int vO), (.int vW), (.int vN), (.int vF), (.ref b91)]) (rest := []) (lenOf pd_1 rfl) rfl (by show 2 * 0 + _ ≤ _; exact Nat.le_of_eq rfl) (hb hby at_505) (fun _ _ => ⟨rfl, q192_0, (by decide : 2 + 0 ≤ _), (by decide : 28 + 0 ≤ _)⟩)
  dsimp only [Pt.U, Pt.locs, Pt.cells, Pt.slots] at X195 l195 y195 z195 st195 hQ195
  subst y195 z195
  obtain ⟨rfl, Nq195, q195_0⟩ := hQ195
  have N196 := Eq.subst (motive := fun L => Fr n0 L) l195.symm (Fr.app N193 Nq195)
  obtain ⟨_, _, ⟨T197, L197, k197, n197⟩, -, X197, ⟨Lc197, hQ197, l197, y197, z197⟩, st197⟩ := Jvm.LawKit.callS X195 hx (y := (⟨"com/example/netsettle/netsettle/messages/DigitsPutPinLaw", "ok", "([CIIIIC[J)Z"⟩ : MethodName)) hown (mvT hZ (hw _ (List.mem_of_getElem? (i := 18) rfl))) (mvT hZ (hw _ (List.mem_of_getElem? (i := 19) rfl))) (mvT hZ (hw _ (List.mem_of_getElem? (i := 20) rfl))) (mvT hZ (hw _ (List.mem_of_getElem? (i := 21) rfl))) (by decide) (backOf (W := 0) (rm2 l Z a0 hw [] b5 (15 : Int32) vO vW vN vF b91 k5 (16 : Int32) (own_put vW.toInt.toNat vN ((vO + vW) - (1 : Int32)) [(.int vF.toUInt32.toUInt16.toUInt32.toInt32), (.int vF.toUInt32.toUInt16.toUInt32.toInt32), (.int vF.toUInt32.toUInt16.toUInt32.toInt32), (.int vF.toUInt32.toUInt16.toUInt32.toInt32), (.int vF.toUInt32.toUInt16.toUInt32.toInt32), (.int vF.toUInt32.toUInt16.toUInt32.toInt32), (.int vF.toUInt32.toUInt16.toUInt32.toInt32), (.int vF.toUInt32.toUInt16.toUInt32.toInt32), (.int vF.toUInt32.toUInt16.toUInt32.toInt32), (.int vF.toUInt32.toUInt16.toUInt32.toInt32), (.int vF.toUInt32.toUInt16.toUInt32.toInt32), (.int vF.toUInt32.toUInt16.toUInt32.toInt32), (.int vF.toUInt32.toUInt16.toUInt32.toInt32), (.int vF.toUInt32.toUInt16.toUInt32.toInt32), (.int vF.toUInt32.toUInt16.toUInt32.toInt32), (.int vF.toUInt32.toUInt16.toUInt32.toInt32)]) (.int (0 : Int32)) k91 (own_c (15 : Int32) vO vW vN vF) T158.heap n0 (Nat.le_trans Z0 KC160.1) q158_1 F162 (own_cat vO vW vN vF hO hW hN _ rfl (15 : Int32) (by decide) (by decide)) ⟨by decide, by decide⟩ (by decide) hO hW (own_cf (15 : Int32) vO vW vN vF hO hW hF) (own_cd (15 : Int32) vO vW vN vF hO hW hN (by decide) (by decide))) hZ (hw _ (List.mem_of_getElem? (i := 21) rfl)) (hw _ (List.mem_of_getElem? (i := 20) rfl)) (by decide) (by decide)) (g := (mkF m 525 #[.val (.int p1), .val (.int p2), .val (.int p3), .val (.int p4), .val (.int vN), .val (.int vO), .val (.int vW), .val (.int vF), .val (.ref b5), .val (.ref b91)] [(.ref b91), (.int vF), (.int vN), (.int vW), (.int vO), (.int (15 : Int32)), (.ref b5)])) rfl (by rw [hml]; rfl) (argsL := [(.ref b5), (.int (15 : Int32)), (.int vO), (.int vW), (.int vN), (.int vF), (.ref b91)]) (rest := []) (lenOf pd_1 rfl) rfl (by show 2 * 0 + _ ≤ _; exact Nat.le_of_eq rfl) (hb hby at_525) (fun _ _ => ⟨rfl, q195_0, (by decide : 2 + 0 ≤ _), (by decide : 28 + 0 ≤ _)⟩)
  dsimp only [Pt.U, Pt.locs, Pt.cells, Pt.slots] at X197 l197 y197 z197 st197 hQ197
  subst y197 z197
  obtain ⟨rfl, Nq197, q197_0⟩ := hQ197
  have N198 := Eq.subst (motive := fun L => Fr n0 L) l197.symm (Fr.app N196 Nq197)
  have pre199 : ∀ t, Steps p.tables e below (T197.setTop (mkF m 536 #[.val (.int p1), .val (.int p2), .val (.int p3), .val (.int p4), .val (.int vN), .val (.int vO), .val (.int vW), .val (.int vF), .val (.ref b5), .val (.ref b91)] [(.int (1 : Int32))])) t → Steps p.tables e below (s₁.setTop (entryFrame m #[(.int p1), (.int p2), (.int p3), (.int p4)] maxLocals)) t := by
    intro t k
    refine pre194 t ?_
    refine XS.bipush X192.here hx rfl (hb hby at_493) ?_
    show Steps _ _ _ (T192.setTop (mkF m 495 #[.val (.int p1), .val (.int p2), .val (.int p3), .val (.int p4), .val (.int vN), .val (.int vO), .val (.int vW), .val (.int vF), .val (.ref b5), .val (.ref b91)] [(.int (14 : Int32)), (.ref b5)])) _
    refine XS.iload X192.here hx rfl (hb hby at_495) rfl ?_
    show Steps _ _ _ (T192.setTop (mkF m 497 #[.val (.int p1), .val (.int p2), .val (.int p3), .val (.int p4), .val (.int vN), .val (.int vO), .val (.int vW), .val (.int vF), .val (.ref b5), .val (.ref b91)] [(.int vO), (.int (14 : Int32)), (.ref b5)])) _
    refine XS.iload X192.here hx rfl (hb hby at_497) rfl ?_
    show Steps _ _ _ (T192.setTop (mkF m 499 #[.val (.int p1), .val (.int p2), .val (.int p3), .val (.int p4), .val (.int vN), .val (.int vO), .val (.int vW), .val (.int vF), .val (.ref b5), .val (.ref b91)] [(.int vW), (.int vO), (.int (14 : Int32)), (.ref b5)])) _
    refine XS.iload X192.here hx rfl (hb hby at_499) rfl ?_
    show Steps _ _ _ (T192.setTop (mkF m 501 #[.val (.int p1), .val (.int p2), .val (.int p3), .val (.int p4), .val (.int vN), .val (.int vO), .val (.int vW), .val (.int vF), .val (.ref b5), .val (.ref b91)] [(.int vN), (.int vW), (.int vO), (.int (14 : Int32)), (.ref b5)])) _
    refine XS.iload X192.here hx rfl (hb hby at_501) rfl ?_
    show Steps _ _ _ (T192.setTop (mkF m 503 #[.val (.int p1), .val (.int p2), .val (.int p3), .val (.int p4), .val (.int vN), .val (.int vO), .val (.int vW), .val (.int vF), .val (.ref b5), .val (.ref b91)] [(.int vF), (.int vN), (.int vW), (.int vO), (.int (14 : Int32)), (.ref b5)])) _
    refine XS.aload X192.here hx rfl (hb hby at_503) rfl rfl ?_
    show Steps _ _ _ (T192.setTop (mkF m 505 #[.val (.int p1), .val (.int p2), .val (.int p3), .val (.int p4), .val (.int vN), .val (.int vO), .val (.int vW), .val (.int vF), .val (.ref b5), .val (.ref b91)] [(.ref b91), (.int vF), (.int vN), (.int vW), (.int vO), (.int (14 : Int32)), (.ref b5)])) _
    refine st195 _ ?_
    show Steps _ _ _ (T195.setTop (mkF m 508 #[.val (.int p1), .val (.int p2), .val (.int p3), .val (.int p4), .val (.int vN), .val (.int vO), .val (.int vW), .val (.int vF), .val (.ref b5), .val (.ref b91)] [(.int (1 : Int32))])) _
    refine XS.ifNo X195.here hx rfl (hb hby at_508) rfl ((if0 _ _).trans (feq (by decide)).1) ?_
    show Steps _ _ _ (T195.setTop (mkF m 511 #[.val (.int p1), .val (.int p2), .val (.int p3), .val (.int p4), .val (.int vN), .val (.int vO), .val (.int vW), .val (.int vF), .val (.ref b5), .val (.ref b91)] [])) _
    refine XS.aload X195.here hx rfl (hb hby at_511) rfl rfl ?_
    show Steps _ _ _ (T195.setTop (mkF m 513 #[.val (.int p1), .val (.int p2), .val (.int p3), .val (.int p4), .val (.int vN), .val (.int vO), .val (.int vW), .val (.int vF), .val (.ref b5), .val (.ref b91)] [(.ref b5)])) _
    refine XS.bipush X195.here hx rfl (hb hby at_513) ?_
    show Steps _ _ _ (T195.setTop (mkF m 515 #[.val (.int p1), .val (.int p2), .val (.int p3), .val (.int p4), .val (.int vN), .val (.int vO), .val (.int vW), .val (.int vF), .val (.ref b5), .val (.ref b91)] [(.int (15 : Int32)), (.ref b5)])) _
    refine XS.iload X195.here hx rfl (hb hby at_515) rfl ?_
    show Steps _ _ _ (T195.setTop (mkF m 517 #[.val (.int p1), .val (.int p2), .val (.int p3), .val (.int p4), .val (.int vN), .val (.int vO), .val (.int vW), .val (.int vF), .val (.ref b5), .val (.ref b91)] [(.int vO), (.int (15 : Int32)), (.ref b5)])) _
    refine XS.iload X195.here hx rfl (hb hby at_517) rfl ?_
    show Steps _ _ _ (T195.setTop (mkF m 519 #[.val (.int p1), .val (.int p2), .val (.int p3), .val (.int p4), .val (.int vN), .val (.int vO), .val (.int vW), .val (.int vF), .val (.ref b5), .val (.ref b91)] [(.int vW), (.int vO), (.int (15 : Int32)), (.ref b5)])) _
    refine XS.iload X195.here hx rfl (hb hby at_519) rfl ?_
    show Steps _ _ _ (T195.setTop (mkF m 521 #[.val (.int p1), .val (.int p2), .val (.int p3), .val (.int p4), .val (.int vN), .val (.int vO), .val (.int vW), .val (.int vF), .val (.ref b5), .val (.ref b91)] [(.int vN), (.int vW), (.int vO), (.int (15 : Int32)), (.ref b5)])) _
    refine XS.iload X195.here hx rfl (hb hby at_521) rfl ?_
    show Steps _ _ _ (T195.setTop (mkF m 523 #[.val (.int p1), .val (.int p2), .val (.int p3), .val (.int p4), .val (.int vN), .val (.int vO), .val (.int vW), .val (.int vF), .val (.ref b5), .val (.ref b91)] [(.int vF), (.int vN), (.int vW), (.int vO), (.int (15 : Int32)), (.ref b5)])) _
    refine XS.aload X195.here hx rfl (hb hby at_523) rfl rfl ?_
    show Steps _ _ _ (T195.setTop (mkF m 525 #[.val (.int p1), .val (.int p2), .val (.int p3), .val (.int p4), .val (.int vN), .val (.int vO), .val (.int vW), .val (.int vF), .val (.ref b5), .val (.ref b91)] [(.ref b91), (.int vF), (.int vN), (.int vW), (.int vO), (.int (15 : Int32)), (.ref b5)])) _
    refine st197 _ ?_
    show Steps _ _ _ (T197.setTop (mkF m 528 #[.val (.int p1), .val (.int p2), .val (.int p3), .val (.int p4), .val (.int vN), .val (.int vO), .val (.int vW), .val (.int vF), .val (.ref b5), .val (.ref b91)] [(.int (1 : Int32))])) _
    refine XS.ifNo X197.here hx rfl (hb hby at_528) rfl ((if0 _ _).trans (feq (by decide)).1) ?_
    show Steps _ _ _ (T197.setTop (mkF m 531 #[.val (.int p1), .val (.int p2), .val (.int p3), .val (.int p4), .val (.int vN), .val (.int vO), .val (.int vW), .val (.int vF), .val (.ref b5), .val (.ref b91)] [])) _
    refine XS.iconst X197.here hx rfl (hb hby at_531) ?_
    show Steps _ _ _ (T197.setTop (mkF m 532 #[.val (.int p1), .val (.int p2), .val (.int p3), .val (.int p4), .val (.int vN), .val (.int vO), .val (.int vW), .val (.int vF), .val (.ref b5), .val (.ref b91)] [(.int (1 : Int32))])) _
    refine XS.goto X197.here hx rfl (pc0 := 532) (pc' := 536) rfl (hb hby at_532) (by decide) (by decide) ?_
    show Steps _ _ _ (T197.setTop (mkF m 536 #[.val (.int p1), .val (.int p2), .val (.int p3), .val (.int p4), .val (.int vN), .val (.int vO), .val (.int vW), .val (.int vF), .val (.ref b5), .val (.ref b91)] [(.int (1 : Int32))])) _
    exact k
  obtain ⟨fs, hr, hrun, hended, hW, hsame⟩ := X197.leave (v := some (.int (1 : Int32))) (fun h => by rw [Bd.returns] at h; cases h)
  refine ⟨_, _, pre199 _ ?_, hrun, hended, _, _, rfl, ?_, ⟨_, rfl⟩, hW, hsame.mono (by decide) (by decide)⟩
  · exact retN X197 hx (t := .boolean) Bd.returns (by simp) (hb hby at_536) hr
  · show Q_rm0 Z p1 p2 p3 p4 h0 n0 _ T197.heap _
    rw [q197_0]
    exact ⟨rfl, N198, KC160⟩
set_option maxRecDepth 65536 in
set_option maxHeartbeats 40000000 in
theorem comes_1 {Post : Tables → Env → Array Value → State → Outcome → State → Prop} (hpost : ∀ tb e args s v u, (limb_1_1.after args s (.returned v) u = true ∧ limb_1_2.after args s (.returned v) u = true ∧ True) → FrameEnd s (.returned v) u (Jvm.fieldLocs frame_1_writes args s ++ Jvm.arrayLocs frame_1_arrays args s ++ Jvm.staticLocs frame_1_statics s) 16 128 → Post tb e args s (.returned v) u) :
    ArmFor flags0 classFile x code maxLocals ret World_1 tables_1 room_1 Calls_1 rest_1 Pre_1 Post := by
  intro l hfl _ _ p e ha hc hk s m args below hf hA hF happ hP
  obtain ⟨hcalls, hrest, hpre⟩ := hP
  obtain ⟨-, -, -, hnamed, -, -, -, hat⟩ := (Spec.applies_iff hf).mp happ
  obtain ⟨hg, hn⟩ := and_e (Cond.before_iff.mp (show (Jvm.Cond.and given_1 narrow_1).before args s = true from hpre))
  obtain ⟨g0, r0⟩ := and_e hg
  obtain ⟨g1, r1⟩ := and_e r0
  obtain ⟨g2, r2⟩ := and_e r1
  obtain ⟨g3, r3⟩ := and_e r2
  obtain ⟨w0, w1, w2, w3, rfl⟩ : ∃ w0 w1 w2 w3 : Value, args = #[w0, w1, w2, w3] := by
    have hs : args.size = 4 := by simpa [Cond.value, given_1] using g0
    obtain ⟨L⟩ := args
    match L, hs with
    | [w0, w1, w2, w3], _ => exact ⟨w0, w1, w2, w3, rfl⟩
  have hw := fun d (hd : d ∈ tables_1) => atoms_spec (ws := Jvm.Cond.code x code maxLocals ret :: tables_1) hat d (List.mem_cons_of_mem _ hd)
  have hfit : Fit s := fun {y c} hc i hi => by
    obtain ⟨ha, rfl⟩ := Array.getElem?_eq_some_iff.mp hc
    have q := List.all_eq_true.mp ((Array.all_eq_true_iff_forall_mem.mp hF) _ (Array.getElem_mem ha)) i (List.mem_range.mpr hi)
    simpa [Array.getElem?_eq_getElem hi] using q
  obtain ⟨i0, ei0⟩ := is_v g1
  obtain rfl : w0 = (.int i0) := Option.some.inj ei0
  obtain ⟨i1, ei1⟩ := is_v g2
  obtain rfl : w1 = (.int i1) := Option.some.inj ei1
  obtain ⟨i2, ei2⟩ := is_v g3
  obtain rfl : w2 = (.int i2) := Option.some.inj ei2
  obtain ⟨i3, ei3⟩ := is_v r3
  obtain rfl : w3 = (.int i3) := Option.some.inj ei3
  obtain ⟨n, o, h1, h2, h3, _, L, rfl, ⟨rfl, N, -⟩, hq⟩ := rm0 l s _ hw tables_1 i0 i1 i2 i3 s.heap s.heap.size (Nat.le_refl _)  p e ha hc hk s m _ below hf ((Spec.applies_iff_loose hf).mp happ).1 ⟨rfl, State.Warmed39.refl s, rfl⟩ trivial
  refine ⟨n, _, h1, h2, h3, hpost _ _ _ _ _ _ ⟨Cond.after_iff.mpr rfl, Cond.after_iff.mpr (eq_i res_at (Term.int_eval (1)) rfl), trivial⟩ ⟨hq.1, hq.2.1, (hq.2.2.sift fun y hy => Or.inr (N y hy)).mono (by decide) (by decide)⟩⟩
theorem main_1_1 : Claimed_1_1 := comes_1 fun _ _ _ _ _ _ h hF => ⟨h.1, hF⟩
theorem main_1_2 : Claimed_1_2 := comes_1 fun _ _ _ _ _ _ h hF => ⟨h.2.1, hF⟩
end Jvm.Pilot.@@N@@
namespace Jvm.Pilot.@@N@@
open Jvm Jvm.ClassFile Sem Op Lib Jvm.Free Jvm.Stand Jvm.Pilot.@@N@@.Jvm.D
/-! MADE BY PROGRAM (witnessworld.py) out of the Statement's table words and the real class files: 13 classes; the members and pool entries that the words name. The judged class is class 1, her method 1. -/
namespace start1
open Jvm.ClassFile
def u (s : String) : CpInfo := .utf8 (stringToUtf16 s)
/-- a pool by its gaps: so many unusable entries, then the entry; so many at the end -/
def gap : Nat → List CpInfo → List CpInfo
  | 0, r => r
  | n + 1, r => .unusable :: gap n r
def poolList (es : List (Nat × CpInfo)) (last : Nat) : List CpInfo := es.foldr (fun e r => gap e.1 (e.2 :: r)) (gap last [])
def pool (es : List (Nat × CpInfo)) (last : Nat) : Array CpInfo := ⟨poolList es last⟩
def fileOf (pool : Array CpInfo) (this : Nat) (attrs : Array Attribute := #[]) (ms : Array MethodInfo := #[]) (fl : Nat := 33) (sup : Nat := 0) (ifs : Array Nat := #[]) (fds : Array FieldInfo := #[]) : ClassFile where
  minorVersion := 0
  majorVersion := 65
  constantPool := pool
  accessFlags := fl
  thisClass := this
  superClass := sup
  interfaces := ifs
  fields := fds
  methods := ms
  attributes := attrs
def plain (name : String) (sup : Option ClassId) : Class where
  name := name
  kind := .ordinary
  loader := none
  accessFlags := 33
  super := sup
  interfaces := #[]
  cf := none
  fields := #[]
  methods := #[]
  instanceTypes := #[]
  staticTypes := #[]
  resolved := #[]
  callSites := []
  init := .initialized
  statics := none
  mirror := none

def pool0 : Array CpInfo := pool [(5, u "<init>"), (0, u "()V"), (1, .class_ 10), (1, u "java/lang/Object")] 113

def k0m0 : Method := { name := "<init>", desc := "()V", sig := { parameters := [], returnType := none }, accessFlags := 1, code := none }
/-- java/lang/Object -/
def k0 : Class := { plain "java/lang/Object" none with
  accessFlags := 33
  interfaces := #[]
  cf := some (fileOf pool0 8 #[] #[{ accessFlags := 1, nameIndex := 5, descriptorIndex := 6, attributes := #[] }] 33 0 #[] #[])
  fields := #[]
  methods := #[k0m0]
  instanceTypes := #[]
  staticTypes := #[]
  resolved := Array.replicate 124 none
  statics := none }

def pool1 : Array CpInfo := pool [(2, .class_ 4), (1, u "java/lang/Object"), (0, u "<init>"), (0, u "()V"), (0, .integer 2147483647), (0, .long 10), (1, .long 100), (1, .long 1000), (1, .long 10000), (1, .long 100000), (1, .long 1000000), (1, .long 10000000), (1, .long 100000000), (1, .long 1000000000), (1, .long 10000000000), (1, .long 100000000000), (1, .methodref 31 32), (0, .class_ 33), (0, .nameAndType 34 35), (0, u "com/example/netsettle/netsettle/messages/Digits"), (0, u "put"), (0, u "([CIII)V"), (0, .methodref 37 38), (0, .class_ 39), (0, .nameAndType 40 41), (0, u "com/example/netsettle/netsettle/messages/DigitsPutPinLaw"), (0, u "ok"), (0, u "([CIIIIC[J)Z"), (2, u "law"), (0, u "(IIII)Z")] 7

def k1m0 : Method := { name := "<init>", desc := "()V", sig := { parameters := [], returnType := none }, accessFlags := 2, code := none }
def k1c1 : Code := { maxStack := 7, maxLocals := 10, code := code, exceptionTable := #[], attributes := #[] }
def k1m1 : Method := { name := "law", desc := "(IIII)Z", sig := { parameters := [.int, .int, .int, .int], returnType := some .boolean }, accessFlags := 9, code := some k1c1 }
def k1c2 : Code := { maxStack := 4, maxLocals := 10, code := method_3_code, exceptionTable := #[], attributes := #[] }
def k1m2 : Method := { name := "ok", desc := "([CIIIIC[J)Z", sig := { parameters := [(.array .char), .int, .int, .int, .int, .char, (.array .long)], returnType := some .boolean }, accessFlags := 10, code := some k1c2 }
/-- com/example/netsettle/netsettle/messages/DigitsPutPinLaw -/
def k1 : Class := { plain "com/example/netsettle/netsettle/messages/DigitsPutPinLaw" (some 0) with
  accessFlags := 49
  interfaces := #[]
  cf := some (fileOf pool1 37 #[] #[{ accessFlags := 2, nameIndex := 5, descriptorIndex := 6, attributes := #[] }, { accessFlags := 9, nameIndex := 44, descriptorIndex := 45, attributes := #[] }, { accessFlags := 10, nameIndex := 40, descriptorIndex := 41, attributes := #[] }] 49 2 #[] #[])
  fields := #[]
  methods := #[k1m0, k1m1, k1m2]
  instanceTypes := #[]
  staticTypes := #[]
  resolved := Array.replicate 53 none
  statics := none }

def pool2 : Array CpInfo := pool [(2, .class_ 4), (1, u "java/lang/Object"), (0, u "<init>"), (0, u "()V"), (39, .class_ 48), (1, u "com/example/netsettle/netsettle/messages/Digits"), (34, u "put"), (0, u "([CIII)V")] 17

def k2m0 : Method := { name := "<init>", desc := "()V", sig := { parameters := [], returnType := none }, accessFlags := 2, code := none }
def k2c1 : Code := { maxStack := 5, maxLocals := 6, code := prog_45_method_8_code, exceptionTable := #[], attributes := #[] }
def k2m1 : Method := { name := "put", desc := "([CIII)V", sig := { parameters := [(.array .char), .int, .int, .int], returnType := none }, accessFlags := 9, code := some k2c1 }
/-- com/example/netsettle/netsettle/messages/Digits -/
def k2 : Class := { plain "com/example/netsettle/netsettle/messages/Digits" (some 0) with
  accessFlags := 49
  interfaces := #[]
  cf := some (fileOf pool2 46 #[] #[{ accessFlags := 2, nameIndex := 5, descriptorIndex := 6, attributes := #[] }, { accessFlags := 9, nameIndex := 83, descriptorIndex := 84, attributes := #[] }] 49 2 #[] #[])
  fields := #[]
  methods := #[k2m0, k2m1]
  instanceTypes := #[]
  staticTypes := #[]
  resolved := Array.replicate 102 none
  statics := none }

def pool3 : Array CpInfo := pool [(1, u "java/lang/Cloneable"), (0, .class_ 1), (0, u "java/lang/Object"), (0, .class_ 3)] 3

/-- java/lang/Cloneable -/
def k3 : Class := { plain "java/lang/Cloneable" (some 0) with
  accessFlags := 1537
  interfaces := #[]
  cf := some (fileOf pool3 2 #[] #[] 1537 4 #[] #[])
  fields := #[]
  methods := #[]
  instanceTypes := #[]
  staticTypes := #[]
  resolved := Array.replicate 8 none
  statics := none }

def pool4 : Array CpInfo := pool [(1, u "java/io/Serializable"), (0, .class_ 1), (0, u "java/lang/Object"), (0, .class_ 3)] 3

/-- java/io/Serializable -/
def k4 : Class := { plain "java/io/Serializable" (some 0) with
  accessFlags := 1537
  interfaces := #[]
  cf := some (fileOf pool4 2 #[] #[] 1537 4 #[] #[])
  fields := #[]
  methods := #[]
  instanceTypes := #[]
  staticTypes := #[]
  resolved := Array.replicate 8 none
  statics := none }

/-- the primitive byte -/
def k5 : Class := { plain "byte" none with kind := .primitive 'B', accessFlags := 0x411 }
/-- [B -/
def k6 : Class := { plain "[B" (some 0) with kind := .array 5 .byte, interfaces := #[3, 4], accessFlags := 1041 }

/-- the primitive char -/
def k7 : Class := { plain "char" none with kind := .primitive 'C', accessFlags := 0x411 }
/-- [C -/
def k8 : Class := { plain "[C" (some 0) with kind := .array 7 .char, interfaces := #[3, 4], accessFlags := 1041 }

/-- the primitive int -/
def k9 : Class := { plain "int" none with kind := .primitive 'I', accessFlags := 0x411 }
/-- [I -/
def k10 : Class := { plain "[I" (some 0) with kind := .array 9 .int, interfaces := #[3, 4], accessFlags := 1041 }

/-- the primitive long -/
def k11 : Class := { plain "long" none with kind := .primitive 'J', accessFlags := 0x411 }
/-- [J -/
def k12 : Class := { plain "[J" (some 0) with kind := .array 11 .long, interfaces := #[3, 4], accessFlags := 1041 }

def heap : Heap := #[]
def classes : Array Class := #[k0, k1, k2, k3, k4, k5, k6, k7, k8, k9, k10, k11, k12]
def interned : List (Array UInt16 × Addr) := []
def slotsUsed : Nat := 0
def theMethod : MethodId := ⟨1, 1⟩
def args0 : Array Value := #[.int 5, .int 1, .int 2, .int 3]
def aboutOver (below : List Frame) : State where
  vm := { classes := classes, interned := interned.toArray }
  heap := heap
  slotsUsed := slotsUsed
  threads := #[{ frames := .invoking theMethod args0 :: below }]
def below0 : List Frame := [.native { method := ⟨0, 0⟩, args := #[] }]
def about1 : State := aboutOver below0
def p0 : Program := .bare "" "" ""
def e0 : Env := launch0.env 0 0 0
theorem w_frames : about1.frames = Frame.invoking theMethod args0 :: below0 := rfl
set_option maxRecDepth 65536 in
theorem w_args : argsFit about1.vm theMethod args0 = true := by decide +kernel
set_option maxRecDepth 65536 in
theorem w_heap : heapFits about1 = true := by decide +kernel
set_option maxRecDepth 65536 in
theorem w_runnable : about1.curStatus? = some .runnable := by decide +kernel
set_option maxRecDepth 65536 in
theorem w_alone : about1.alone = true := by decide +kernel
set_option maxRecDepth 65536 in
theorem w_named : about1.methodNamed? x = some theMethod := by decide +kernel
set_option maxRecDepth 65536 in
theorem w_hears : about1.hears theMethod below0 = true := by decide +kernel
set_option maxRecDepth 65536 in
theorem w_ripe : about1.ripe theMethod args0 below0 = true := by decide +kernel
theorem w_running : about1.status = .running := rfl
set_option maxRecDepth 65536 in
theorem w_room : about1.hasRoom e0.platform room_1 = true :=
  launch0.hasRoom_least _ room_1 (by decide +kernel) (by decide +kernel) (by decide +kernel) (by decide +kernel) (by decide +kernel) (by decide +kernel)
theorem allAtoms_all (ts : List Jvm.Cond) (a : Array Jvm.Value) (st : Jvm.State) : (allAtoms ts).before a st = ts.all (fun c => c.before a st) := by
  induction ts with
  | nil => rfl
  | cons c t ih =>
    show (Jvm.Cond.and c (allAtoms t)).before a st = _
    rw [Jvm.Cond.before_and, ih, List.all_cons]
def words1 : List Jvm.Cond := Jvm.Cond.code x code maxLocals ret :: tables_1
/-- a 'code' word, met by the world's own term for the bytes: nothing is compared byte by byte -/
theorem code_word {y : MethodName} {bytes : ByteArray} {mx : Nat} {rt : Option FieldType} {a : Array Value} {s : State} {m : MethodId} {meth : Method} {c : Code} (h1 : s.methodNamed? y = some m) (h2 : s.vm.method? m = some meth) (h3 : meth.code = some c) (h4 : c.code = bytes)
    (h5 : (c.maxLocals == mx && c.exceptionTable.isEmpty && decide (c.maxStack ≤ mostOperands) && decide (meth.sig.returnType = rt) && !meth.locks && decide (parseMethodDescriptor y.desc = some meth.sig)) = true) : (Jvm.Cond.code y bytes mx rt).before a s = true := by
  simp only [Bool.and_eq_true, beq_iff_eq, Bool.not_eq_true', decide_eq_true_eq] at h5
  obtain ⟨⟨⟨⟨⟨g1, g2⟩, g3⟩, g4⟩, g5⟩, g6⟩ := h5
  simp [Cond.before, Cond.holds, Cond.value, h1, h2, h3, h4, g1, g2, g3, g4, g5, g6]
def isCode : Jvm.Cond → Bool
  | .code _ _ _ _ => true
  | _ => false
theorem all_split {L : List Jvm.Cond} {P : Jvm.Cond → Bool} (h1 : L.all (fun c => isCode c || P c) = true) (h2 : ∀ c ∈ L.filter isCode, P c = true) : L.all P = true := by
  refine List.all_eq_true.mpr fun c hc => ?_
  have h := List.all_eq_true.mp h1 c hc
  rcases Bool.eq_false_or_eq_true (isCode c) with hi | hi
  · exact h2 c (List.mem_filter.mpr ⟨hc, hi⟩)
  · simpa [hi] using h
set_option maxRecDepth 65536 in
theorem w_c0 : (Jvm.Cond.code x code maxLocals ret).before args0 about1 = true := code_word (m := ⟨1, 1⟩) (meth := k1m1) (c := k1c1) (by decide +kernel) rfl rfl rfl (by decide +kernel)
set_option maxRecDepth 65536 in
theorem w_c1 : (Jvm.Cond.code ({ cls := "com/example/netsettle/netsettle/messages/Digits", name := "put", desc := "([CIII)V" } : Jvm.MethodName) prog_45_method_8_code (6 : Nat) (Option.none : Option Jvm.ClassFile.FieldType)).before args0 about1 = true := code_word (m := ⟨2, 1⟩) (meth := k2m1) (c := k2c1) (by decide +kernel) rfl rfl rfl (by decide +kernel)
set_option maxRecDepth 65536 in
theorem w_c2 : (Jvm.Cond.code ({ cls := "com/example/netsettle/netsettle/messages/DigitsPutPinLaw", name := "ok", desc := "([CIIIIC[J)Z" } : Jvm.MethodName) method_3_code (10 : Nat) (Option.some Jvm.ClassFile.FieldType.boolean)).before args0 about1 = true := code_word (m := ⟨1, 2⟩) (meth := k1m2) (c := k1c2) (by decide +kernel) rfl rfl rfl (by decide +kernel)
def codes1 : List Jvm.Cond := [Jvm.Cond.code x code maxLocals ret, Jvm.Cond.code ({ cls := "com/example/netsettle/netsettle/messages/Digits", name := "put", desc := "([CIII)V" } : Jvm.MethodName) prog_45_method_8_code (6 : Nat) (Option.none : Option Jvm.ClassFile.FieldType), Jvm.Cond.code ({ cls := "com/example/netsettle/netsettle/messages/DigitsPutPinLaw", name := "ok", desc := "([CIIIIC[J)Z" } : Jvm.MethodName) method_3_code (10 : Nat) (Option.some Jvm.ClassFile.FieldType.boolean)]
set_option maxRecDepth 65536 in
theorem codes_eq : words1.filter isCode = codes1 := rfl
theorem w_codes : ∀ c ∈ words1.filter isCode, c.before args0 about1 = true := by
  rw [codes_eq]
  intro c hc
  simp only [codes1, List.mem_cons, List.not_mem_nil, or_false] at hc
  rcases hc with rfl | rfl | rfl
  · exact w_c0
  · exact w_c1
  · exact w_c2
set_option maxRecDepth 65536 in
theorem w_t1 : words1.all (fun c => isCode c || c.before args0 about1) = true := by decide +kernel
theorem w_tables : (allAtoms (Jvm.Cond.code x code maxLocals ret :: tables_1)).before args0 about1 = true := by
  rw [allAtoms_all]
  show words1.all (fun c => c.before args0 about1) = true
  refine all_split ?_ w_codes
  rw [w_t1]
set_option maxRecDepth 65536 in
theorem w_case : (Jvm.Cond.and given_1 narrow_1).before args0 about1 = true := by decide +kernel
theorem w_applies : (headSpec (Jvm.Cond.code x code maxLocals ret :: tables_1) room_1).applies x e0.platform about1 = true :=
  (Spec.applies_iff w_frames).mpr ⟨w_running, w_runnable, w_alone, w_named, w_hears, w_ripe, w_room, w_tables⟩
theorem atStart : AtStart classFile x code maxLocals ret World_1 tables_1 room_1 Calls_1 rest_1 Pre_1 launch0 p0 e0 about1 theMethod args0 below0 :=
  ⟨lists_1, trivial, launch0.admits_env _ _ _, launch0.least_env, fairChoices_fair.cas, fairChoices_fair.clock, w_frames, w_args, w_heap, w_applies, trivial, trivial, w_case⟩
end start1
theorem witness_1 : WitnessClaimed_1 := ⟨start1.p0, start1.e0, start1.about1, start1.theMethod, start1.args0, start1.below0, start1.atStart⟩
end Jvm.Pilot.@@N@@
