import JvmDerived
import JvmDerived.Pilot.@@N@@Statement
import JvmDerived.Pilot.@@N@@Code
set_option linter.unusedVariables false
set_option linter.unusedSimpArgs false
namespace Jvm.RoadKit
open Sem ClassFile Op Lib Jvm.Stand Jvm.Free Jvm.LawKit
section New
variable {p : Program} {l : Launch} {e : Env} {R : Room} {s : State} {m : MethodId} {args : Array Value} {below : List Frame} {meth : Method} {c : Code} {T : State} {locs : List Loc} {cells slots : Nat}
theorem retI (X : Stand p l e R s m args below meth c T locs cells slots) (hx : p.tables.exec = Jvm.exec) {pc : Nat} {Ls : Array Slot} {z : Int32} {rest : List Value} (hret : meth.sig.returnType = some .int) (hd : decode c.code pc = .ok (.ireturn, 1)) {fs : List Frame}
    (hl : ∀ (f : JFrame) (acts : List Action), f.method = m → f.locked = none → f.entered = [] → (doReturn e (T.setTop f) acts (some (.int z))).1 = T.setFrames fs) : Steps p.tables e below (T.setTop (mkF m pc Ls (.int z :: rest))) (T.setFrames fs) := by
  have hm' : T.vm.method? m = some meth := X.method'
  have hn : narrow .int (.int z) = .int z := rfl
  show Steps p.tables e below (T.setTop { method := m, pc := pc, locals := Ls, stack := _ :: rest, locked := none }) _
  jvm_step X.here [X.here.top, hx, hd, hm', hret, hn]
  first | (intro acts; rw [hl _ acts rfl rfl rfl]) | rw [hl _ _ rfl rfl rfl]
  exact Steps.refl _
end New
end Jvm.RoadKit
namespace Jvm.Pilot.@@N@@
open Jvm Jvm.ClassFile Sem Op Lib Jvm.Free Jvm.Stand Jvm.LawKit Jvm.RoadKit Bundle Jvm.Pilot.@@N@@.Jvm.D

abbrev Si (x : Int32) : Slot := .val (.int x)
abbrev Sl (x : Int64) : Slot := .val (.long x)
abbrev Sr (x : Addr) : Slot := .val (.ref x)
abbrev Sn : Slot := .val .null
abbrev Su : Slot := .unset
abbrev S2 : Slot := .second
theorem ow {Z : State} {a0 : Array Value} (hw : ∀ d ∈ tables_1, d.before a0 Z = true) (i : Nat) {d : Jvm.Cond} (h : tables_1[i]? = some d) : d.before a0 Z = true := hw _ (List.mem_of_getElem? h)
theorem d6_0 : decode jdk_22_method_1_code 0 = .ok (.aload_n 0, 1) := by decide +kernel
theorem d6_1 : decode jdk_22_method_1_code 1 = .ok (.invokespecial 1, 3) := by decide +kernel
theorem d6_4 : decode jdk_22_method_1_code 4 = .ok (.return_, 1) := by decide +kernel
theorem pn_0 : plainName "java/util/AbstractCollection" = true := by first | (simp [plainName, overriddenIn]; done) | decide +kernel
theorem ef_rm6 (m : MethodId) (x0 : Addr) : entryFrame m #[(.ref x0)] 1 = mkF m 0 #[Sr x0] [] := by first | (simp [entryFrame, mkF, argsToLocals, Value.category]; done) | rfl
def Q_rm6 (Z : State) (a1 : Addr) (h0 : Heap) (n0 : Nat) (v : Option Value) (h : Heap) (L : List Loc) : Prop := v = none ∧ Fr n0 L ∧ h = h0
set_option maxRecDepth 65536 in
set_option maxHeartbeats 40000000 in
theorem rm6 (l : Launch) (Z : State) (a0 : Array Value) (hw : ∀ d ∈ tables_1, d.before a0 Z = true) (ws : List Jvm.Cond) (a1 : Addr) (h0 : Heap) (n0 : Nat) (Z0 : n0 ≤ h0.size) :
    MetFree l (⟨"java/util/AbstractCollection", "<init>", "()V"⟩ : MethodName) (head1 (Jvm.Cond.code (⟨"java/util/AbstractCollection", "<init>", "()V"⟩ : MethodName) jdk_22_method_1_code 1 none :: ws) ({ frames := 1, cells := 0, slots := 0, locals := 12 } : Room)) (fun a U => a = #[(.ref a1)] ∧ Z.Warmed39 U.vm ∧ U.heap = h0) (fun _ _ _ _ _ => True) (fun _ U o U' => ∃ v L, o = .returned v ∧ Q_rm6 Z a1 h0 n0 v U'.heap L ∧ FrameEnd U o U' L ({ frames := 1, cells := 0, slots := 0, locals := 12 } : Room).cells ({ frames := 1, cells := 0, slots := 0, locals := 12 } : Room).slots) := by
  refine MetFree.of_bodySF (plainFor_of_name pn_0) hisR ?_
  intro p e s m args below meth c s₁ Bd hml0 hP hK
  obtain ⟨rfl, hZ, hh⟩ := hP
  have hx := Bd.exec
  have hby := Bd.bytes
  have hml : c.maxLocals = 1 := hml0
  have hown : s.vm.findClass "java/util/AbstractCollection" = some m.cls := findClass_of_methodNamed Bd.named
  have hnm := (name_of_methodNamed Bd.named Bd.method).1
  have X0 : Stand p l e ({ frames := 1, cells := 0, slots := 0, locals := 12 } : Room) s m #[(.ref a1)] below meth c s₁ [] 0 0 := Stand.of_body Bd
  have e0 : s₁.heap = h0 := by rw [← hh, Bd.state]; rfl
  have N0 := Fr.nil n0
  have pre0 : ∀ t, Steps p.tables e below (s₁.setTop (mkF m 0 #[Sr a1] [])) t → Steps p.tables e below (s₁.setTop (entryFrame m #[(.ref a1)] 1)) t := fun t k => castTop (ef_rm6 m a1) k
  obtain ⟨T51, X51, e51, st51⟩ := initO X0 hx hZ hown (ow hw 31 rfl) (ow hw 32 rfl) (ow hw 33 rfl) e0 (g := (mkF m 1 #[Sr a1] [(.ref a1)])) rfl (by rw [hml]; rfl) rfl (hb hby d6_1) (by decide) (W := 0) (by show 2 * 0 + _ ≤ _; exact Nat.le_of_eq rfl) (by decide)
  have pre52 : ∀ t, Steps p.tables e below (T51.setTop (mkF m 4 #[Sr a1] [])) t → Steps p.tables e below (s₁.setTop (entryFrame m #[(.ref a1)] 1)) t := by
    intro t k
    refine pre0 t ?_
    refine XS.aloadN X0.here hx rfl (hb hby d6_0) rfl rfl ?_
    refine st51 _ ?_
    exact k
  obtain ⟨fs, hr, hrun, hended, hW, hsame⟩ := X51.leave (v := none) (fun _ => rfl)
  refine ⟨_, _, pre52 _ ?_, hrun, hended, _, _, rfl, ?_, ⟨_, rfl⟩, hW, hsame.mono (by decide) (by decide)⟩
  · exact X51.returnOut hx Bd.returns (hb hby d6_4) hr
  · show Q_rm6 Z a1 h0 n0 _ T51.heap _
    rw [e51]
    exact ⟨rfl, N0, rfl⟩
theorem d5_0 : decode jdk_39_method_1_code 0 = .ok (.aload_n 0, 1) := by decide +kernel
theorem pd_0 : parseMethodDescriptor "()V" = some ⟨[], none⟩ := by decide +kernel
theorem d5_1 : decode jdk_39_method_1_code 1 = .ok (.invokespecial 1, 3) := by decide +kernel
theorem d5_4 : decode jdk_39_method_1_code 4 = .ok (.aload_n 0, 1) := by decide +kernel
theorem d5_5 : decode jdk_39_method_1_code 5 = .ok (.iconst 0, 1) := by decide +kernel
theorem d5_6 : decode jdk_39_method_1_code 6 = .ok (.putfield 7, 3) := by decide +kernel
theorem d5_9 : decode jdk_39_method_1_code 9 = .ok (.return_, 1) := by decide +kernel
theorem pn_1 : plainName "java/util/AbstractList" = true := by first | (simp [plainName, overriddenIn]; done) | decide +kernel
theorem ef_rm5 (m : MethodId) (x0 : Addr) : entryFrame m #[(.ref x0)] 1 = mkF m 0 #[Sr x0] [] := by first | (simp [entryFrame, mkF, argsToLocals, Value.category]; done) | rfl
def Q_rm5 (Z : State) (a1 : Addr) (u : Int32) (h0 : Heap) (n0 : Nat) (v : Option Value) (h : Heap) (L : List Loc) : Prop := v = none ∧ Fr n0 L ∧ Keep h0 h [a1] ∧ Fld Z h a1 "java/util/AbstractList" "modCount" "I" (.int (0 : Int32)) ∧ Fld Z h a1 "java/util/ArrayList" "size" "I" (.int (0 : Int32)) ∧ Fld Z h a1 "java/util/ArrayList" "elementData" "[Ljava/lang/Object;" .null
set_option maxRecDepth 65536 in
set_option maxHeartbeats 40000000 in
theorem rm5 (l : Launch) (Z : State) (a0 : Array Value) (hw : ∀ d ∈ tables_1, d.before a0 Z = true) (ws : List Jvm.Cond) (a1 : Addr) (u : Int32) (h0 : Heap) (n0 : Nat) (Z0 : n0 ≤ h0.size) (E1 : Exa Z h0 a1 "java/util/ArrayList") (F1 : Fld Z h0 a1 "java/util/AbstractList" "modCount" "I" (.int u)) (F2 : Fld Z h0 a1 "java/util/ArrayList" "size" "I" (.int (0 : Int32))) (F3 : Fld Z h0 a1 "java/util/ArrayList" "elementData" "[Ljava/lang/Object;" .null) (g1 : n0 ≤ a1) :
    MetFree l (⟨"java/util/AbstractList", "<init>", "()V"⟩ : MethodName) (head1 (Jvm.Cond.code (⟨"java/util/AbstractList", "<init>", "()V"⟩ : MethodName) jdk_39_method_1_code 1 none :: ws) ({ frames := 2, cells := 0, slots := 0, locals := 24 } : Room)) (fun a U => a = #[(.ref a1)] ∧ Z.Warmed39 U.vm ∧ U.heap = h0) (fun _ _ _ _ _ => True) (fun _ U o U' => ∃ v L, o = .returned v ∧ Q_rm5 Z a1 u h0 n0 v U'.heap L ∧ FrameEnd U o U' L ({ frames := 2, cells := 0, slots := 0, locals := 24 } : Room).cells ({ frames := 2, cells := 0, slots := 0, locals := 24 } : Room).slots) := by
  refine MetFree.of_bodySF (plainFor_of_name pn_1) hisR ?_
  intro p e s m args below meth c s₁ Bd hml0 hP hK
  obtain ⟨rfl, hZ, hh⟩ := hP
  have hx := Bd.exec
  have hby := Bd.bytes
  have hml : c.maxLocals = 1 := hml0
  have hown : s.vm.findClass "java/util/AbstractList" = some m.cls := findClass_of_methodNamed Bd.named
  have hnm := (name_of_methodNamed Bd.named Bd.method).1
  have X0 : Stand p l e ({ frames := 2, cells := 0, slots := 0, locals := 24 } : Room) s m #[(.ref a1)] below meth c s₁ [] 0 0 := Stand.of_body Bd
  have e0 : s₁.heap = h0 := by rw [← hh, Bd.state]; rfl
  have N0 := Fr.nil n0
  have pre0 : ∀ t, Steps p.tables e below (s₁.setTop (mkF m 0 #[Sr a1] [])) t → Steps p.tables e below (s₁.setTop (entryFrame m #[(.ref a1)] 1)) t := fun t k => castTop (ef_rm5 m a1) k
  obtain ⟨_, _, ⟨T51, L51, k51, n51⟩, -, X51, ⟨Lc51, hQ51, l51, y51, z51⟩, st51⟩ := X0.specialBack hx (y := (⟨"java/util/AbstractCollection", "<init>", "()V"⟩ : MethodName)) rfl hown (mvT hZ (ow hw 25 rfl)) (mvT hZ (ow hw 26 rfl)) (mvT hZ (ow hw 30 rfl)) (by decide) (backOf (W := 0) (rm6 l Z a0 hw [] a1 h0 n0 Z0) hZ (ow hw 30 rfl) (ow hw 29 rfl) (by decide) (by decide)) (g := (mkF m 1 #[Sr a1] [(.ref a1)])) rfl (by rw [hml]; rfl) (Steps.refl _) (a := a1) (argsL := []) (rest := []) (lenOf pd_0 rfl) rfl (by show 2 * 0 + _ ≤ _; exact Nat.le_of_eq rfl) (hb hby d5_1) (fun _ _ => ⟨rfl, e0, (by decide : 0 + 0 ≤ _), (by decide : 0 + 0 ≤ _)⟩)
  dsimp only [Pt.U, Pt.locs, Pt.cells, Pt.slots] at X51 l51 y51 z51 st51 hQ51
  subst y51 z51
  obtain ⟨rfl, Nq51, q51_0⟩ := hQ51
  have N52 := Eq.subst (motive := fun L => Fr n0 L) l51.symm (Fr.app N0 Nq51)
  obtain ⟨T53, h53, X53, e53, W53, st53⟩ := putF X51 hx hZ hown (host := "") (Or.inl (ow hw 34 rfl)) Via.refl q51_0 F1 E1 (Or.inl (ow hw 35 rfl)) (ow hw 14 rfl) (ty := .int) (by decide) rfl rfl (g := (mkF m 6 #[Sr a1] [(.int (0 : Int32)), (.ref a1)])) rfl rfl (hb hby d5_6)
  have KC54 : Keep h0 h53 [a1] := (Keep.refl h0 [a1]).wr W53 (Or.inl (List.mem_of_getElem? (i := 0) rfl))
  have F55 : Fld Z h53 a1 "java/util/AbstractList" "modCount" "I" (.int (0 : Int32)) := F1.same W53
  have N56 := Fr.snoc X53 N52 g1
  have pre57 : ∀ t, Steps p.tables e below (T53.setTop (mkF m 9 #[Sr a1] [])) t → Steps p.tables e below (s₁.setTop (entryFrame m #[(.ref a1)] 1)) t := by
    intro t k
    refine pre0 t ?_
    refine XS.aloadN X0.here hx rfl (hb hby d5_0) rfl rfl ?_
    refine st51.trans ?_
    refine XS.aloadN X51.here hx rfl (hb hby d5_4) rfl rfl ?_
    refine XS.iconst X51.here hx rfl (hb hby d5_5) ?_
    refine st53 _ ?_
    exact k
  obtain ⟨fs, hr, hrun, hended, hW, hsame⟩ := X53.leave (v := none) (fun _ => rfl)
  refine ⟨_, _, pre57 _ ?_, hrun, hended, _, _, rfl, ?_, ⟨_, rfl⟩, hW, hsame.mono (by decide) (by decide)⟩
  · exact X53.returnOut hx Bd.returns (hb hby d5_9) hr
  · show Q_rm5 Z a1 u h0 n0 _ T53.heap _
    rw [e53]
    have F58 : Fld Z h53 a1 "java/util/ArrayList" "size" "I" (.int (0 : Int32)) := (F2.other W53 (Or.inr (slot_ne (Or.inl (ow hw 71 rfl)) (Or.inl (ow hw 35 rfl)) (by decide) (t := .int) (t' := .int) (by decide) (by decide))))
    have F59 : Fld Z h53 a1 "java/util/ArrayList" "elementData" "[Ljava/lang/Object;" .null := (F3.other W53 (Or.inr (slot_ne (Or.inl (ow hw 38 rfl)) (Or.inl (ow hw 35 rfl)) (by decide) (t := (.array (.object "java/lang/Object"))) (t' := .int) (by decide) (by decide))))
    exact ⟨rfl, N56, KC54, F55, F58, F59⟩
theorem d4_0 : decode jdk_38_method_2_code 0 = .ok (.aload_n 0, 1) := by decide +kernel
theorem d4_1 : decode jdk_38_method_2_code 1 = .ok (.invokespecial 1, 3) := by decide +kernel
theorem d4_4 : decode jdk_38_method_2_code 4 = .ok (.aload_n 0, 1) := by decide +kernel
theorem d4_5 : decode jdk_38_method_2_code 5 = .ok (.getstatic 39, 3) := by decide +kernel
theorem d4_8 : decode jdk_38_method_2_code 8 = .ok (.putfield 9, 3) := by decide +kernel
theorem d4_11 : decode jdk_38_method_2_code 11 = .ok (.return_, 1) := by decide +kernel
theorem pn_2 : plainName "java/util/ArrayList" = true := by first | (simp [plainName, overriddenIn]; done) | decide +kernel
theorem ef_rm4 (m : MethodId) (x0 : Addr) : entryFrame m #[(.ref x0)] 1 = mkF m 0 #[Sr x0] [] := by first | (simp [entryFrame, mkF, argsToLocals, Value.category]; done) | rfl
def Q_rm4 (Z : State) (a1 : Addr) (u : Int32) (wE : Addr) (kE : ClassId) (h0 : Heap) (n0 : Nat) (v : Option Value) (h : Heap) (L : List Loc) : Prop := v = none ∧ Fr n0 L ∧ Keep h0 h [a1] ∧ Fld Z h a1 "java/util/AbstractList" "modCount" "I" (.int (0 : Int32)) ∧ Fld Z h a1 "java/util/ArrayList" "size" "I" (.int (0 : Int32)) ∧ Fld Z h a1 "java/util/ArrayList" "elementData" "[Ljava/lang/Object;" (.ref wE)
set_option maxRecDepth 65536 in
set_option maxHeartbeats 40000000 in
theorem rm4 (l : Launch) (Z : State) (a0 : Array Value) (hw : ∀ d ∈ tables_1, d.before a0 Z = true) (ws : List Jvm.Cond) (a1 : Addr) (u : Int32) (wE : Addr) (kE : ClassId) (h0 : Heap) (n0 : Nat) (Z0 : n0 ≤ h0.size) (O0 : Old Z n0 h0) (SE : Sta Z Z.heap "java/util/ArrayList" "DEFAULTCAPACITY_EMPTY_ELEMENTDATA" "[Ljava/lang/Object;" (.ref wE)) (VE : Arv Z Z.heap wE kE (.object "java/lang/Object") (0 : Int32) [] .null) (E1 : Exa Z h0 a1 "java/util/ArrayList") (F1 : Fld Z h0 a1 "java/util/AbstractList" "modCount" "I" (.int u)) (F2 : Fld Z h0 a1 "java/util/ArrayList" "size" "I" (.int (0 : Int32))) (F3 : Fld Z h0 a1 "java/util/ArrayList" "elementData" "[Ljava/lang/Object;" .null) (g1 : n0 ≤ a1) :
    MetFree l (⟨"java/util/ArrayList", "<init>", "()V"⟩ : MethodName) (head1 (Jvm.Cond.code (⟨"java/util/ArrayList", "<init>", "()V"⟩ : MethodName) jdk_38_method_2_code 1 none :: ws) ({ frames := 3, cells := 0, slots := 0, locals := 36 } : Room)) (fun a U => a = #[(.ref a1)] ∧ Z.Warmed39 U.vm ∧ U.heap = h0) (fun _ _ _ _ _ => True) (fun _ U o U' => ∃ v L, o = .returned v ∧ Q_rm4 Z a1 u wE kE h0 n0 v U'.heap L ∧ FrameEnd U o U' L ({ frames := 3, cells := 0, slots := 0, locals := 36 } : Room).cells ({ frames := 3, cells := 0, slots := 0, locals := 36 } : Room).slots) := by
  refine MetFree.of_bodySF (plainFor_of_name pn_2) hisR ?_
  intro p e s m args below meth c s₁ Bd hml0 hP hK
  obtain ⟨rfl, hZ, hh⟩ := hP
  have hx := Bd.exec
  have hby := Bd.bytes
  have hml : c.maxLocals = 1 := hml0
  have hown : s.vm.findClass "java/util/ArrayList" = some m.cls := findClass_of_methodNamed Bd.named
  have hnm := (name_of_methodNamed Bd.named Bd.method).1
  have X0 : Stand p l e ({ frames := 3, cells := 0, slots := 0, locals := 36 } : Room) s m #[(.ref a1)] below meth c s₁ [] 0 0 := Stand.of_body Bd
  have e0 : s₁.heap = h0 := by rw [← hh, Bd.state]; rfl
  have N0 := Fr.nil n0
  have pre0 : ∀ t, Steps p.tables e below (s₁.setTop (mkF m 0 #[Sr a1] [])) t → Steps p.tables e below (s₁.setTop (entryFrame m #[(.ref a1)] 1)) t := fun t k => castTop (ef_rm4 m a1) k
  obtain ⟨_, _, ⟨T51, L51, k51, n51⟩, -, X51, ⟨Lc51, hQ51, l51, y51, z51⟩, st51⟩ := X0.specialBack hx (y := (⟨"java/util/AbstractList", "<init>", "()V"⟩ : MethodName)) rfl hown (mvT hZ (ow hw 19 rfl)) (mvT hZ (ow hw 20 rfl)) (mvT hZ (ow hw 24 rfl)) (by decide) (backOf (W := 0) (rm5 l Z a0 hw [] a1 u h0 n0 Z0 E1 F1 F2 F3 g1) hZ (ow hw 24 rfl) (ow hw 23 rfl) (by decide) (by decide)) (g := (mkF m 1 #[Sr a1] [(.ref a1)])) rfl (by rw [hml]; rfl) (Steps.refl _) (a := a1) (argsL := []) (rest := []) (lenOf pd_0 rfl) rfl (by show 2 * 0 + _ ≤ _; exact Nat.le_of_eq rfl) (hb hby d4_1) (fun _ _ => ⟨rfl, e0, (by decide : 0 + 0 ≤ _), (by decide : 0 + 0 ≤ _)⟩)
  dsimp only [Pt.U, Pt.locs, Pt.cells, Pt.slots] at X51 l51 y51 z51 st51 hQ51
  subst y51 z51
  obtain ⟨rfl, Nq51, q51_0, q51_1, q51_2, q51_3⟩ := hQ51
  have N52 := Eq.subst (motive := fun L => Fr n0 L) l51.symm (Fr.app N0 Nq51)
  have KC53 : Keep h0 T51.heap [a1] := (Keep.refl h0 [a1]).trans q51_0 (allS (Or.inl (List.mem_of_getElem? (i := 0) rfl)) all0)
  have O54 : Old Z n0 T51.heap := (O0.keep q51_0 (allS g1 all0))
  obtain ⟨T55, X55, e55, st55⟩ := getS2 X51 hx hZ hown (host := "") (Or.inl (ow hw 36 rfl)) Via.refl rfl (SE.ext O54.2) (g := (mkF m 5 #[Sr a1] [(.ref a1)])) rfl (hb hby d4_5)
  have F56 : Exa Z T51.heap a1 "java/util/ArrayList" := (E1.keep q51_0)
  obtain ⟨T57, h57, X57, e57, W57, st57⟩ := putF X55 hx hZ hown (host := "") (Or.inl (ow hw 37 rfl)) Via.refl e55 q51_3 F56 (Or.inl (ow hw 38 rfl)) (ow hw 14 rfl) (ty := (.array (.object "java/lang/Object"))) (by decide) rfl rfl (g := (mkF m 8 #[Sr a1] [(.ref wE), (.ref a1)])) rfl rfl (hb hby d4_8)
  have KC58 : Keep h0 h57 [a1] := KC53.wr W57 (Or.inl (List.mem_of_getElem? (i := 0) rfl))
  have F59 : Fld Z h57 a1 "java/util/ArrayList" "elementData" "[Ljava/lang/Object;" (.ref wE) := q51_3.same W57
  have N60 := Fr.snoc X57 N52 g1
  have pre61 : ∀ t, Steps p.tables e below (T57.setTop (mkF m 11 #[Sr a1] [])) t → Steps p.tables e below (s₁.setTop (entryFrame m #[(.ref a1)] 1)) t := by
    intro t k
    refine pre0 t ?_
    refine XS.aloadN X0.here hx rfl (hb hby d4_0) rfl rfl ?_
    refine st51.trans ?_
    refine XS.aloadN X51.here hx rfl (hb hby d4_4) rfl rfl ?_
    refine st55 _ ?_
    refine st57 _ ?_
    exact k
  obtain ⟨fs, hr, hrun, hended, hW, hsame⟩ := X57.leave (v := none) (fun _ => rfl)
  refine ⟨_, _, pre61 _ ?_, hrun, hended, _, _, rfl, ?_, ⟨_, rfl⟩, hW, hsame.mono (by decide) (by decide)⟩
  · exact X57.returnOut hx Bd.returns (hb hby d4_11) hr
  · show Q_rm4 Z a1 u wE kE h0 n0 _ T57.heap _
    rw [e57]
    have F62 : Fld Z h57 a1 "java/util/AbstractList" "modCount" "I" (.int (0 : Int32)) := (q51_1.other W57 (Or.inr (slot_ne (Or.inl (ow hw 35 rfl)) (Or.inl (ow hw 38 rfl)) (by decide) (t := .int) (t' := (.array (.object "java/lang/Object"))) (by decide) (by decide))))
    have F63 : Fld Z h57 a1 "java/util/ArrayList" "size" "I" (.int (0 : Int32)) := (q51_2.other W57 (Or.inr (slot_ne (Or.inl (ow hw 71 rfl)) (Or.inl (ow hw 38 rfl)) (by decide) (t := .int) (t' := (.array (.object "java/lang/Object"))) (by decide) (by decide))))
    exact ⟨rfl, N60, KC58, F62, F63, F59⟩
theorem d15_0 : decode jdk_29_method_65_code 0 = .ok (.iload_n 0, 1) := by decide +kernel
theorem d15_1 : decode jdk_29_method_65_code 1 = .ok (.iload_n 1, 1) := by decide +kernel
theorem d15_2 : decode jdk_29_method_65_code 2 = .ok (.if_icmp .lt 7, 3) := by decide +kernel
theorem d15_9 : decode jdk_29_method_65_code 9 = .ok (.iload_n 1, 1) := by decide +kernel
theorem d15_5 : decode jdk_29_method_65_code 5 = .ok (.iload_n 0, 1) := by decide +kernel
theorem d15_6 : decode jdk_29_method_65_code 6 = .ok (.goto 4, 3) := by decide +kernel
theorem d15_10 : decode jdk_29_method_65_code 10 = .ok (.ireturn, 1) := by decide +kernel
def own_max (p1 : Int32) (p2 : Int32) : Int32 := (if p1 < p2 then p2 else p1)
theorem ef_rm15 (m : MethodId) (x0 : Int32) (x1 : Int32) : entryFrame m #[(.int x0), (.int x1)] 2 = mkF m 0 #[Si x0, Si x1] [] := by first | (simp [entryFrame, mkF, argsToLocals, Value.category]; done) | rfl
def Q_rm15 (Z : State) (p1 : Int32) (p2 : Int32) (h0 : Heap) (n0 : Nat) (v : Option Value) (h : Heap) (L : List Loc) : Prop := v = some (.int (own_max p1 p2)) ∧ Fr n0 L ∧ h = h0
set_option maxRecDepth 65536 in
set_option maxHeartbeats 40000000 in
theorem rm15 (l : Launch) (Z : State) (a0 : Array Value) (hw : ∀ d ∈ tables_1, d.before a0 Z = true) (ws : List Jvm.Cond) (p1 : Int32) (p2 : Int32) (h0 : Heap) (n0 : Nat) (Z0 : n0 ≤ h0.size) :
    MetFree l (⟨"java/lang/Math", "max", "(II)I"⟩ : MethodName) (head1 (Jvm.Cond.code (⟨"java/lang/Math", "max", "(II)I"⟩ : MethodName) jdk_29_method_65_code 2 (some .int) :: ws) ({ frames := 0, cells := 0, slots := 0, locals := 0 } : Room)) (fun a U => a = #[(.int p1), (.int p2)] ∧ Z.Warmed39 U.vm ∧ U.heap = h0) (fun _ _ _ _ _ => True) (fun _ U o U' => ∃ v L, o = .returned v ∧ Q_rm15 Z p1 p2 h0 n0 v U'.heap L ∧ FrameEnd U o U' L ({ frames := 0, cells := 0, slots := 0, locals := 0 } : Room).cells ({ frames := 0, cells := 0, slots := 0, locals := 0 } : Room).slots) := by
  refine MetFree.of_bodySF (Jvm.Free.JP.mathPlain rfl (by decide +kernel)) hisR ?_
  intro p e s m args below meth c s₁ Bd hml0 hP hK
  obtain ⟨rfl, hZ, hh⟩ := hP
  have hx := Bd.exec
  have hby := Bd.bytes
  have hml : c.maxLocals = 2 := hml0
  have hown : s.vm.findClass "java/lang/Math" = some m.cls := findClass_of_methodNamed Bd.named
  have hnm := (name_of_methodNamed Bd.named Bd.method).1
  have X0 : Stand p l e ({ frames := 0, cells := 0, slots := 0, locals := 0 } : Room) s m #[(.int p1), (.int p2)] below meth c s₁ [] 0 0 := Stand.of_body Bd
  have e0 : s₁.heap = h0 := by rw [← hh, Bd.state]; rfl
  have N0 := Fr.nil n0
  have pre0 : ∀ t, Steps p.tables e below (s₁.setTop (mkF m 0 #[Si p1, Si p2] [])) t → Steps p.tables e below (s₁.setTop (entryFrame m #[(.int p1), (.int p2)] 2)) t := fun t k => castTop (ef_rm15 m p1 p2) k
  have pre53 : ∀ t, Steps p.tables e below (s₁.setTop (mkF m 10 #[Si p1, Si p2] [(.int (if p1 < p2 then p2 else p1))])) t → Steps p.tables e below (s₁.setTop (entryFrame m #[(.int p1), (.int p2)] 2)) t := by
    intro t k
    refine pre0 t ?_
    refine XS.iloadN X0.here hx rfl (hb hby d15_0) rfl ?_
    refine XS.iloadN X0.here hx rfl (hb hby d15_1) rfl ?_
    by_cases hc51 : p1 < p2
    · simp only [if_pos hc51] at k
      refine XS.icmpYes X0.here hx rfl (pc0 := 2) (pc' := 9) rfl (hb hby d15_2) rfl (tlt hc51).1 (by decide) (by decide) ?_
      refine XS.iloadN X0.here hx rfl (hb hby d15_9) rfl ?_
      exact k
    · simp only [if_neg hc51] at k
      refine XS.icmpNo X0.here hx rfl (hb hby d15_2) rfl (flt hc51).1 ?_
      refine XS.iloadN X0.here hx rfl (hb hby d15_5) rfl ?_
      refine XS.goto X0.here hx rfl (pc0 := 6) (pc' := 10) rfl (hb hby d15_6) (by decide) (by decide) ?_
      exact k
  obtain ⟨z52, hz52⟩ : ∃ z : Int32, z = (if p1 < p2 then p2 else p1) := ⟨_, rfl⟩
  rw [← hz52] at pre53
  obtain ⟨fs, hr, hrun, hended, hW, hsame⟩ := X0.leave (v := some (.int z52)) (fun h => by rw [Bd.returns] at h; cases h)
  refine ⟨_, _, pre53 _ ?_, hrun, hended, _, _, rfl, ?_, ⟨_, rfl⟩, hW, hsame.mono (by decide) (by decide)⟩
  · exact retI X0 hx Bd.returns (hb hby d15_10) hr
  · show Q_rm15 Z p1 p2 h0 n0 _ s₁.heap _
    rw [e0]
    have hvA : z52 = (own_max p1 p2) := by
      subst hz52
      rfl
    have hv54 : z52 = (own_max p1 p2) := hvA
    exact ⟨(congrArg (fun z => some (Value.int z)) hv54), N0, rfl⟩
theorem d14_0 : decode jdk_38_method_6_code 0 = .ok (.aload_n 0, 1) := by decide +kernel
theorem d14_1 : decode jdk_38_method_6_code 1 = .ok (.getfield 9, 3) := by decide +kernel
theorem d14_4 : decode jdk_38_method_6_code 4 = .ok (.arraylength, 1) := by decide +kernel
theorem d14_5 : decode jdk_38_method_6_code 5 = .ok (.istore_n 2, 1) := by decide +kernel
theorem d14_6 : decode jdk_38_method_6_code 6 = .ok (.iload_n 2, 1) := by decide +kernel
theorem d14_7 : decode jdk_38_method_6_code 7 = .ok (.ifCond .gt 13, 3) := by decide +kernel
theorem d14_10 : decode jdk_38_method_6_code 10 = .ok (.aload_n 0, 1) := by decide +kernel
theorem d14_11 : decode jdk_38_method_6_code 11 = .ok (.getfield 9, 3) := by decide +kernel
theorem d14_14 : decode jdk_38_method_6_code 14 = .ok (.getstatic 39, 3) := by decide +kernel
theorem d14_17 : decode jdk_38_method_6_code 17 = .ok (.if_acmp .eq 28, 3) := by decide +kernel
theorem d14_45 : decode jdk_38_method_6_code 45 = .ok (.aload_n 0, 1) := by decide +kernel
theorem d14_46 : decode jdk_38_method_6_code 46 = .ok (.bipush 10, 2) := by decide +kernel
theorem d14_48 : decode jdk_38_method_6_code 48 = .ok (.iload_n 1, 1) := by decide +kernel
theorem pd_1 : parseMethodDescriptor "(II)I" = some ⟨[.int, .int], some .int⟩ := by decide +kernel
theorem d14_49 : decode jdk_38_method_6_code 49 = .ok (.invokestatic 79, 3) := by decide +kernel
theorem d14_52 : decode jdk_38_method_6_code 52 = .ok (.anewarray 7, 3) := by decide +kernel
theorem d14_55 : decode jdk_38_method_6_code 55 = .ok (.dup_x1, 1) := by decide +kernel
theorem d14_56 : decode jdk_38_method_6_code 56 = .ok (.putfield 9, 3) := by decide +kernel
theorem d14_59 : decode jdk_38_method_6_code 59 = .ok (.areturn, 1) := by decide +kernel
theorem ef_rm14 (m : MethodId) (x0 : Addr) : entryFrame m #[(.ref x0), (.int (1 : Int32))] 4 = mkF m 0 #[Sr x0, Si (1 : Int32), Su, Su] [] := by first | (simp [entryFrame, mkF, argsToLocals, Value.category]; done) | rfl
def Q_rm14 (Z : State) (a1 : Addr) (wE : Addr) (kE : ClassId) (mc : Int32) (h0 : Heap) (n0 : Nat) (v : Option Value) (h : Heap) (L : List Loc) : Prop := ∃ (r : Addr) (kr : ClassId), v = some (.ref r) ∧ Fr n0 L ∧ Keep h0 h [a1] ∧ h0.size ≤ r ∧ Arv Z h r kr (.object "java/lang/Object") (10 : Int32) [.null, .null, .null, .null, .null, .null, .null, .null, .null, .null] .null ∧ Ovr Z kr "java/lang/Object" ∧ Fld Z h a1 "java/util/ArrayList" "elementData" "[Ljava/lang/Object;" (.ref r) ∧ Fld Z h a1 "java/util/ArrayList" "size" "I" (.int (0 : Int32)) ∧ Fld Z h a1 "java/util/AbstractList" "modCount" "I" (.int mc)
set_option maxRecDepth 65536 in
set_option maxHeartbeats 40000000 in
theorem rm14 (l : Launch) (Z : State) (a0 : Array Value) (hw : ∀ d ∈ tables_1, d.before a0 Z = true) (ws : List Jvm.Cond) (a1 : Addr) (wE : Addr) (kE : ClassId) (mc : Int32) (h0 : Heap) (n0 : Nat) (Z0 : n0 ≤ h0.size) (O0 : Old Z n0 h0) (SE : Sta Z Z.heap "java/util/ArrayList" "DEFAULTCAPACITY_EMPTY_ELEMENTDATA" "[Ljava/lang/Object;" (.ref wE)) (VE : Arv Z Z.heap wE kE (.object "java/lang/Object") (0 : Int32) [] .null) (g1 : n0 ≤ a1) (Es : Exa Z h0 a1 "java/util/ArrayList") (Fs : Fld Z h0 a1 "java/util/ArrayList" "size" "I" (.int (0 : Int32))) (Fd : Fld Z h0 a1 "java/util/ArrayList" "elementData" "[Ljava/lang/Object;" (.ref wE)) (Fm : Fld Z h0 a1 "java/util/AbstractList" "modCount" "I" (.int mc)) :
    MetFree l (⟨"java/util/ArrayList", "grow", "(I)[Ljava/lang/Object;"⟩ : MethodName) (head1 (Jvm.Cond.code (⟨"java/util/ArrayList", "grow", "(I)[Ljava/lang/Object;"⟩ : MethodName) jdk_38_method_6_code 4 (some (.array (.object "java/lang/Object"))) :: ws) ({ frames := 1, cells := 1, slots := 10, locals := 14 } : Room)) (fun a U => a = #[(.ref a1), (.int (1 : Int32))] ∧ Z.Warmed39 U.vm ∧ U.heap = h0) (fun _ _ _ _ _ => True) (fun _ U o U' => ∃ v L, o = .returned v ∧ Q_rm14 Z a1 wE kE mc h0 n0 v U'.heap L ∧ FrameEnd U o U' L ({ frames := 1, cells := 1, slots := 10, locals := 14 } : Room).cells ({ frames := 1, cells := 1, slots := 10, locals := 14 } : Room).slots) := by
  refine MetFree.of_bodySF (plainFor_of_name pn_2) hisR ?_
  intro p e s m args below meth c s₁ Bd hml0 hP hK
  obtain ⟨rfl, hZ, hh⟩ := hP
  have hx := Bd.exec
  have hby := Bd.bytes
  have hml : c.maxLocals = 4 := hml0
  have hown : s.vm.findClass "java/util/ArrayList" = some m.cls := findClass_of_methodNamed Bd.named
  have hnm := (name_of_methodNamed Bd.named Bd.method).1
  have X0 : Stand p l e ({ frames := 1, cells := 1, slots := 10, locals := 14 } : Room) s m #[(.ref a1), (.int (1 : Int32))] below meth c s₁ [] 0 0 := Stand.of_body Bd
  have e0 : s₁.heap = h0 := by rw [← hh, Bd.state]; rfl
  have N0 := Fr.nil n0
  have pre0 : ∀ t, Steps p.tables e below (s₁.setTop (mkF m 0 #[Sr a1, Si (1 : Int32), Su, Su] [])) t → Steps p.tables e below (s₁.setTop (entryFrame m #[(.ref a1), (.int (1 : Int32))] 4)) t := fun t k => castTop (ef_rm14 m a1) k
  obtain ⟨T51, X51, e51, st51⟩ := getF X0 hx hZ hown (host := "") (Or.inl (ow hw 37 rfl)) Via.refl e0 Fd (g := (mkF m 1 #[Sr a1, Si (1 : Int32), Su, Su] [(.ref a1)])) rfl rfl (hb hby d14_1)
  obtain ⟨c52, Arc52, Aqc52, Asc52, Anc52, Ahc52, Agc52⟩ := id (VE.ext O0.2)
  obtain ⟨T53, X53, e53, st53⟩ := getF X51 hx hZ hown (host := "") (Or.inl (ow hw 37 rfl)) Via.refl e51 Fd (g := (mkF m 11 #[Sr a1, Si (1 : Int32), Si (0 : Int32), Su] [(.ref a1)])) rfl rfl (hb hby d14_11)
  obtain ⟨T54, X54, e54, st54⟩ := getS2 X53 hx hZ hown (host := "") (Or.inl (ow hw 36 rfl)) Via.refl e53 (SE.ext O0.2) (g := (mkF m 14 #[Sr a1, Si (1 : Int32), Si (0 : Int32), Su] [(.ref wE)])) rfl (hb hby d14_14)
  have hc55 : wE = wE := rfl
  obtain ⟨_, _, ⟨T56, L56, k56, n56⟩, -, X56, ⟨Lc56, hQ56, l56, y56, z56⟩, st56⟩ := Jvm.LawKit.callS X54 hx (y := (⟨"java/lang/Math", "max", "(II)I"⟩ : MethodName)) hown (mvT hZ (ow hw 87 rfl)) (mvT hZ (ow hw 88 rfl)) (mvT hZ (ow hw 89 rfl)) (mvT hZ (ow hw 90 rfl)) (by decide) (backOf (W := 1) (rm15 l Z a0 hw [] (10 : Int32) (1 : Int32) h0 n0 Z0) hZ (ow hw 90 rfl) (ow hw 89 rfl) (by decide) (by decide)) (g := (mkF m 49 #[Sr a1, Si (1 : Int32), Si (0 : Int32), Su] [(.int (1 : Int32)), (.int (10 : Int32)), (.ref a1)])) rfl (by rw [hml]; rfl) (argsL := [(.int (10 : Int32)), (.int (1 : Int32))]) (rest := [(.ref a1)]) (lenOf pd_1 rfl) rfl (by show 2 * 0 + _ ≤ _; exact Nat.le_of_eq rfl) (hb hby d14_49) (fun _ _ => ⟨rfl, e54, (by decide : 0 + 0 ≤ _), (by decide : 0 + 0 ≤ _)⟩)
  dsimp only [Pt.U, Pt.locs, Pt.cells, Pt.slots] at X56 l56 y56 z56 st56 hQ56
  subst y56 z56
  obtain ⟨rfl, Nq56, q56_0⟩ := hQ56
  have N57 := Eq.subst (motive := fun L => Fr n0 L) l56.symm (Fr.app N0 Nq56)
  have pre58 : ∀ t, Steps p.tables e below (T56.setTop (mkF m 52 #[Sr a1, Si (1 : Int32), Si (0 : Int32), Su] [(.int (own_max (10 : Int32) (1 : Int32))), (.ref a1)])) t → Steps p.tables e below (s₁.setTop (entryFrame m #[(.ref a1), (.int (1 : Int32))] 4)) t := by
    intro t k
    refine pre0 t ?_
    refine XS.aloadN X0.here hx rfl (hb hby d14_0) rfl rfl ?_
    refine st51 _ ?_
    refine X51.arraylength hx (by rw [e51]; exact Arc52.1) (State.isArrayOf_alike hZ.alike Arc52.2.1) (g := (mkF m 4 #[Sr a1, Si (1 : Int32), Su, Su] [(.ref wE)])) rfl rfl (hb hby d14_4) _ ?_
    rw [len_of Asc52 Anc52]
    refine XS.istoreN X51.here hx rfl (hb hby d14_5) rfl (l' := #[Sr a1, Si (1 : Int32), Si (0 : Int32), Su]) rfl ?_
    refine XS.iloadN X51.here hx rfl (hb hby d14_6) rfl ?_
    refine XS.ifNo X51.here hx rfl (hb hby d14_7) rfl ((if0 _ _).trans (flt (by decide)).2.2.1) ?_
    refine XS.aloadN X51.here hx rfl (hb hby d14_10) rfl rfl ?_
    refine st53 _ ?_
    show Steps _ _ _ (T53.setTop (mkF m 14 #[Sr a1, Si (1 : Int32), Si (0 : Int32), Su] [(.ref wE)])) _
    refine st54 _ ?_
    refine Jvm.RoadKit.acmp (g := (mkF m 17 #[Sr a1, Si (1 : Int32), Si (0 : Int32), Su] [(.ref wE), (.ref wE)])) X54 hx rfl rfl rfl (pc0 := 17) (pc' := 45) (same := true) rfl (hb hby d14_17) rfl (decide_eq_true (congrArg Value.ref hc55)) (by decide) (by decide) ?_
    refine XS.aloadN X54.here hx rfl (hb hby d14_45) rfl rfl ?_
    refine XS.bipush X54.here hx rfl (hb hby d14_46) ?_
    refine XS.iloadN X54.here hx rfl (hb hby d14_48) rfl ?_
    refine st56 _ ?_
    exact k
  have hmx : (own_max (10 : Int32) (1 : Int32)) = (10 : Int32) := by decide
  rw [hmx] at pre58
  obtain ⟨T59, h59, k59, X59, e59, E59, A59, O59, st59⟩ := newR X56 hx hZ hown (ow hw 91 rfl) (ow hw 92 rfl) q56_0 (g := (mkF m 52 #[Sr a1, Si (1 : Int32), Si (0 : Int32), Su] [(.int (10 : Int32)), (.ref a1)])) rfl (hb hby d14_52) rfl (by decide) (cap := 10) (by decide) (by decide) (by decide) (by decide)
  obtain ⟨b59, g59⟩ : ∃ z, z = h0.size := ⟨_, rfl⟩
  rw [← g59] at A59 st59
  have ne60 : a1 ≠ b59 := Nat.ne_of_lt (Nat.lt_of_lt_of_le Es.lt (Nat.le_of_eq g59.symm))
  have ge61 : n0 ≤ b59 := Nat.le_trans Z0 (Nat.le_of_eq g59.symm)
  have sz62 : h0.size ≤ b59 := Nat.le_trans (Keep.refl h0 [a1]).1 (Nat.le_of_eq g59.symm)
  have KC63 : Keep h0 h59 [a1] := (Keep.refl h0 [a1]).ext E59
  have V59 : Arv Z h59 b59 k59 (.object "java/lang/Object") (10 : Int32) [.null, .null, .null, .null, .null, .null, .null, .null, .null, .null] .null := (Arv.new A59 (by decide)).pad (pad_rep [] .null 10)
  have F64 : Exa Z h59 a1 "java/util/ArrayList" := (Es.ext E59)
  have F65 : Fld Z h59 a1 "java/util/ArrayList" "elementData" "[Ljava/lang/Object;" (.ref wE) := (Fd.ext E59)
  obtain ⟨T66, h66, X66, e66, W66, st66⟩ := putF X59 hx hZ hown (host := "") (Or.inl (ow hw 37 rfl)) Via.refl e59 F65 F64 (Or.inl (ow hw 38 rfl)) (ow hw 14 rfl) (ty := (.array (.object "java/lang/Object"))) (by decide) rfl rfl (g := (mkF m 56 #[Sr a1, Si (1 : Int32), Si (0 : Int32), Su] [(.ref b59), (.ref a1), (.ref b59)])) rfl rfl (hb hby d14_56)
  have KC67 : Keep h0 h66 [a1] := KC63.wr W66 (Or.inl (List.mem_of_getElem? (i := 0) rfl))
  have F68 : Fld Z h66 a1 "java/util/ArrayList" "elementData" "[Ljava/lang/Object;" (.ref b59) := F65.same W66
  have N69 := Fr.snoc X66 N57 g1
  have pre70 : ∀ t, Steps p.tables e below (T66.setTop (mkF m 59 #[Sr a1, Si (1 : Int32), Si (0 : Int32), Su] [(.ref b59)])) t → Steps p.tables e below (s₁.setTop (entryFrame m #[(.ref a1), (.int (1 : Int32))] 4)) t := by
    intro t k
    refine pre58 t ?_
    refine st59 _ ?_
    refine XS.dupX1 X59.here hx rfl (hb hby d14_55) rfl rfl rfl ?_
    show Steps _ _ _ (T59.setTop (mkF m 56 #[Sr a1, Si (1 : Int32), Si (0 : Int32), Su] [(.ref b59), (.ref a1), (.ref b59)])) _
    refine st66 _ ?_
    exact k
  obtain ⟨fs, hr, hrun, hended, hW, hsame⟩ := X66.leave (v := some (.ref b59)) (fun h => by rw [Bd.returns] at h; cases h)
  refine ⟨_, _, pre70 _ ?_, hrun, hended, _, _, rfl, ?_, ⟨_, rfl⟩, hW, hsame.mono (by decide) (by decide)⟩
  · exact X66.areturnOut hx (w := (.ref b59)) rfl Bd.returns rfl (hb hby d14_59) hr
  · show Q_rm14 Z a1 wE kE mc h0 n0 _ T66.heap _
    rw [e66]
    have F71 : Arv Z h66 b59 k59 (.object "java/lang/Object") (10 : Int32) [.null, .null, .null, .null, .null, .null, .null, .null, .null, .null] .null := (V59.other W66 (Ne.symm ne60))
    have F72 : Fld Z h66 a1 "java/util/ArrayList" "size" "I" (.int (0 : Int32)) := ((Fs.ext E59).other W66 (Or.inr (slot_ne (Or.inl (ow hw 71 rfl)) (Or.inl (ow hw 38 rfl)) (by decide) (t := .int) (t' := (.array (.object "java/lang/Object"))) (by decide) (by decide))))
    have F73 : Fld Z h66 a1 "java/util/AbstractList" "modCount" "I" (.int mc) := ((Fm.ext E59).other W66 (Or.inr (slot_ne (Or.inl (ow hw 35 rfl)) (Or.inl (ow hw 38 rfl)) (by decide) (t := .int) (t' := (.array (.object "java/lang/Object"))) (by decide) (by decide))))
    exact ⟨b59, k59, rfl, N69, KC67, sz62, F71, O59, F68, F72, F73⟩
theorem d13_0 : decode jdk_38_method_7_code 0 = .ok (.aload_n 0, 1) := by decide +kernel
theorem d13_1 : decode jdk_38_method_7_code 1 = .ok (.aload_n 0, 1) := by decide +kernel
theorem d13_2 : decode jdk_38_method_7_code 2 = .ok (.getfield 48, 3) := by decide +kernel
theorem d13_5 : decode jdk_38_method_7_code 5 = .ok (.iconst 1, 1) := by decide +kernel
theorem d13_6 : decode jdk_38_method_7_code 6 = .ok (.iadd, 1) := by decide +kernel
theorem pd_2 : parseMethodDescriptor "(I)[Ljava/lang/Object;" = some ⟨[.int], some (.array (.object "java/lang/Object"))⟩ := by decide +kernel
theorem d13_7 : decode jdk_38_method_7_code 7 = .ok (.invokevirtual 69, 3) := by decide +kernel
theorem d13_10 : decode jdk_38_method_7_code 10 = .ok (.areturn, 1) := by decide +kernel
theorem ef_rm13 (m : MethodId) (x0 : Addr) : entryFrame m #[(.ref x0)] 1 = mkF m 0 #[Sr x0] [] := by first | (simp [entryFrame, mkF, argsToLocals, Value.category]; done) | rfl
def Q_rm13 (Z : State) (a1 : Addr) (wE : Addr) (kE : ClassId) (mc : Int32) (h0 : Heap) (n0 : Nat) (v : Option Value) (h : Heap) (L : List Loc) : Prop := ∃ (r : Addr) (kr : ClassId), v = some (.ref r) ∧ Fr n0 L ∧ Keep h0 h [a1] ∧ h0.size ≤ r ∧ Arv Z h r kr (.object "java/lang/Object") (10 : Int32) [.null, .null, .null, .null, .null, .null, .null, .null, .null, .null] .null ∧ Ovr Z kr "java/lang/Object" ∧ Fld Z h a1 "java/util/ArrayList" "elementData" "[Ljava/lang/Object;" (.ref r) ∧ Fld Z h a1 "java/util/ArrayList" "size" "I" (.int (0 : Int32)) ∧ Fld Z h a1 "java/util/AbstractList" "modCount" "I" (.int mc)
set_option maxRecDepth 65536 in
set_option maxHeartbeats 40000000 in
theorem rm13 (l : Launch) (Z : State) (a0 : Array Value) (hw : ∀ d ∈ tables_1, d.before a0 Z = true) (ws : List Jvm.Cond) (a1 : Addr) (wE : Addr) (kE : ClassId) (mc : Int32) (h0 : Heap) (n0 : Nat) (Z0 : n0 ≤ h0.size) (O0 : Old Z n0 h0) (SE : Sta Z Z.heap "java/util/ArrayList" "DEFAULTCAPACITY_EMPTY_ELEMENTDATA" "[Ljava/lang/Object;" (.ref wE)) (VE : Arv Z Z.heap wE kE (.object "java/lang/Object") (0 : Int32) [] .null) (g1 : n0 ≤ a1) (Es : Exa Z h0 a1 "java/util/ArrayList") (Fs : Fld Z h0 a1 "java/util/ArrayList" "size" "I" (.int (0 : Int32))) (Fd : Fld Z h0 a1 "java/util/ArrayList" "elementData" "[Ljava/lang/Object;" (.ref wE)) (Fm : Fld Z h0 a1 "java/util/AbstractList" "modCount" "I" (.int mc)) :
    MetFree l (⟨"java/util/ArrayList", "grow", "()[Ljava/lang/Object;"⟩ : MethodName) (head1 (Jvm.Cond.code (⟨"java/util/ArrayList", "grow", "()[Ljava/lang/Object;"⟩ : MethodName) jdk_38_method_7_code 1 (some (.array (.object "java/lang/Object"))) :: ws) ({ frames := 2, cells := 1, slots := 10, locals := 29 } : Room)) (fun a U => a = #[(.ref a1)] ∧ Z.Warmed39 U.vm ∧ U.heap = h0) (fun _ _ _ _ _ => True) (fun _ U o U' => ∃ v L, o = .returned v ∧ Q_rm13 Z a1 wE kE mc h0 n0 v U'.heap L ∧ FrameEnd U o U' L ({ frames := 2, cells := 1, slots := 10, locals := 29 } : Room).cells ({ frames := 2, cells := 1, slots := 10, locals := 29 } : Room).slots) := by
  refine MetFree.of_bodySF (plainFor_of_name pn_2) hisR ?_
  intro p e s m args below meth c s₁ Bd hml0 hP hK
  obtain ⟨rfl, hZ, hh⟩ := hP
  have hx := Bd.exec
  have hby := Bd.bytes
  have hml : c.maxLocals = 1 := hml0
  have hown : s.vm.findClass "java/util/ArrayList" = some m.cls := findClass_of_methodNamed Bd.named
  have hnm := (name_of_methodNamed Bd.named Bd.method).1
  have X0 : Stand p l e ({ frames := 2, cells := 1, slots := 10, locals := 29 } : Room) s m #[(.ref a1)] below meth c s₁ [] 0 0 := Stand.of_body Bd
  have e0 : s₁.heap = h0 := by rw [← hh, Bd.state]; rfl
  have N0 := Fr.nil n0
  have pre0 : ∀ t, Steps p.tables e below (s₁.setTop (mkF m 0 #[Sr a1] [])) t → Steps p.tables e below (s₁.setTop (entryFrame m #[(.ref a1)] 1)) t := fun t k => castTop (ef_rm13 m a1) k
  obtain ⟨T51, X51, e51, st51⟩ := getF X0 hx hZ hown (host := "") (Or.inl (ow hw 70 rfl)) Via.refl e0 Fs (g := (mkF m 2 #[Sr a1] [(.ref a1), (.ref a1)])) rfl rfl (hb hby d13_2)
  obtain ⟨cq52, q52, q52'⟩ := Es.cell
  obtain ⟨_, _, ⟨T52, L52, k52, n52⟩, -, X52, ⟨Lc52, hQ52, l52, y52, z52⟩, st52⟩ := X51.privateBack hx (y := (⟨"java/util/ArrayList", "grow", "(I)[Ljava/lang/Object;"⟩ : MethodName)) hown (mvT hZ (ow hw 82 rfl)) (mvT hZ (ow hw 83 rfl)) (mvT hZ (ow hw 85 rfl)) (Cond.privateMethod_at (mvP hZ (ow hw 84 rfl) (args := #[]))) (mvT hZ (ow hw 86 rfl)) (by decide) (backOf (W := 0) (rm14 l Z a0 hw [] a1 wE kE mc h0 n0 Z0 O0 SE VE g1 Es Fs Fd Fm) hZ (ow hw 86 rfl) (ow hw 15 rfl) (by decide) (by decide)) (g := (mkF m 7 #[Sr a1] [(.int (1 : Int32)), (.ref a1)])) rfl (by rw [hml]; rfl) (Steps.refl _) (a := a1) (by rw [e51]; exact q52) q52' (argsL := [(.int (1 : Int32))]) (rest := []) (lenOf pd_2 rfl) rfl (by show 2 * 0 + _ ≤ _; exact Nat.le_of_eq rfl) (hb hby d13_7) (fun _ _ => ⟨rfl, e51, (by decide : 0 + 1 ≤ _), (by decide : 0 + 10 ≤ _)⟩)
  dsimp only [Pt.U, Pt.locs, Pt.cells, Pt.slots] at X52 l52 y52 z52 st52 hQ52
  subst y52 z52
  obtain ⟨r_52, kr_52, rfl, Nq52, q52_0, q52_1, q52_2, q52_3, q52_4, q52_5, q52_6⟩ := hQ52
  have N53 := Eq.subst (motive := fun L => Fr n0 L) l52.symm (Fr.app N0 Nq52)
  have ne54 : a1 ≠ r_52 := Nat.ne_of_lt (Nat.lt_of_lt_of_le Es.lt q52_1)
  have ge55 : n0 ≤ r_52 := Nat.le_trans Z0 q52_1
  have sz56 : h0.size ≤ r_52 := Nat.le_trans (Keep.refl h0 [a1]).1 q52_1
  have KC57 : Keep h0 T52.heap [a1] := (Keep.refl h0 [a1]).trans q52_0 (allS (Or.inl (List.mem_of_getElem? (i := 0) rfl)) all0)
  have pre58 : ∀ t, Steps p.tables e below (T52.setTop (mkF m 10 #[Sr a1] [(.ref r_52)])) t → Steps p.tables e below (s₁.setTop (entryFrame m #[(.ref a1)] 1)) t := by
    intro t k
    refine pre0 t ?_
    refine XS.aloadN X0.here hx rfl (hb hby d13_0) rfl rfl ?_
    refine XS.aloadN X0.here hx rfl (hb hby d13_1) rfl rfl ?_
    refine st51 _ ?_
    refine XS.iconst X51.here hx rfl (hb hby d13_5) ?_
    refine XS.iadd X51.here hx rfl (hb hby d13_6) rfl ?_
    refine st52.trans ?_
    exact k
  obtain ⟨fs, hr, hrun, hended, hW, hsame⟩ := X52.leave (v := some (.ref r_52)) (fun h => by rw [Bd.returns] at h; cases h)
  refine ⟨_, _, pre58 _ ?_, hrun, hended, _, _, rfl, ?_, ⟨_, rfl⟩, hW, hsame.mono (by decide) (by decide)⟩
  · exact X52.areturnOut hx (w := (.ref r_52)) rfl Bd.returns rfl (hb hby d13_10) hr
  · show Q_rm13 Z a1 wE kE mc h0 n0 _ T52.heap _
    exact ⟨r_52, kr_52, rfl, N53, KC57, sz56, q52_2, q52_3, q52_4, q52_5, q52_6⟩
theorem d12_0 : decode jdk_38_method_24_code 0 = .ok (.iload_n 3, 1) := by decide +kernel
theorem d12_1 : decode jdk_38_method_24_code 1 = .ok (.aload_n 2, 1) := by decide +kernel
theorem d12_2 : decode jdk_38_method_24_code 2 = .ok (.arraylength, 1) := by decide +kernel
theorem d12_3 : decode jdk_38_method_24_code 3 = .ok (.if_icmp .ne 8, 3) := by decide +kernel
theorem d12_6 : decode jdk_38_method_24_code 6 = .ok (.aload_n 0, 1) := by decide +kernel
theorem pd_3 : parseMethodDescriptor "()[Ljava/lang/Object;" = some ⟨[], some (.array (.object "java/lang/Object"))⟩ := by decide +kernel
theorem d12_7 : decode jdk_38_method_24_code 7 = .ok (.invokevirtual 129, 3) := by decide +kernel
theorem d12_10 : decode jdk_38_method_24_code 10 = .ok (.astore_n 2, 1) := by decide +kernel
theorem d12_11 : decode jdk_38_method_24_code 11 = .ok (.aload_n 2, 1) := by decide +kernel
theorem d12_12 : decode jdk_38_method_24_code 12 = .ok (.iload_n 3, 1) := by decide +kernel
theorem d12_13 : decode jdk_38_method_24_code 13 = .ok (.aload_n 1, 1) := by decide +kernel
theorem d12_14 : decode jdk_38_method_24_code 14 = .ok (.aastore, 1) := by decide +kernel
theorem d12_15 : decode jdk_38_method_24_code 15 = .ok (.aload_n 0, 1) := by decide +kernel
theorem d12_16 : decode jdk_38_method_24_code 16 = .ok (.iload_n 3, 1) := by decide +kernel
theorem d12_17 : decode jdk_38_method_24_code 17 = .ok (.iconst 1, 1) := by decide +kernel
theorem d12_18 : decode jdk_38_method_24_code 18 = .ok (.iadd, 1) := by decide +kernel
theorem d12_19 : decode jdk_38_method_24_code 19 = .ok (.putfield 48, 3) := by decide +kernel
theorem d12_22 : decode jdk_38_method_24_code 22 = .ok (.return_, 1) := by decide +kernel
theorem ef_rm_addB0_IntegerRange (m : MethodId) (x0 : Addr) (x1 : Addr) (x2 : Addr) : entryFrame m #[(.ref x0), (.ref x1), (.ref x2), (.int (0 : Int32))] 4 = mkF m 0 #[Sr x0, Sr x1, Sr x2, Si (0 : Int32)] [] := by first | (simp [entryFrame, mkF, argsToLocals, Value.category]; done) | rfl
def Q_rm_addB0_IntegerRange (Z : State) (a1 : Addr) (a2 : Addr) (wE : Addr) (kE : ClassId) (mc : Int32) (h0 : Heap) (n0 : Nat) (v : Option Value) (h : Heap) (L : List Loc) : Prop := ∃ (r : Addr) (kr : ClassId), v = none ∧ Fr n0 L ∧ Keep h0 h [a1] ∧ h0.size ≤ r ∧ Arv Z h r kr (.object "java/lang/Object") (10 : Int32) [(.ref a2), .null, .null, .null, .null, .null, .null, .null, .null, .null] .null ∧ Ovr Z kr "java/lang/Object" ∧ Fld Z h a1 "java/util/ArrayList" "elementData" "[Ljava/lang/Object;" (.ref r) ∧ Fld Z h a1 "java/util/ArrayList" "size" "I" (.int (1 : Int32)) ∧ Fld Z h a1 "java/util/AbstractList" "modCount" "I" (.int mc)
set_option maxRecDepth 65536 in
set_option maxHeartbeats 40000000 in
theorem rm_addB0_IntegerRange (l : Launch) (Z : State) (a0 : Array Value) (hw : ∀ d ∈ tables_1, d.before a0 Z = true) (ws : List Jvm.Cond) (a1 : Addr) (a2 : Addr) (wE : Addr) (kE : ClassId) (mc : Int32) (h0 : Heap) (n0 : Nat) (Z0 : n0 ≤ h0.size) (O0 : Old Z n0 h0) (SE : Sta Z Z.heap "java/util/ArrayList" "DEFAULTCAPACITY_EMPTY_ELEMENTDATA" "[Ljava/lang/Object;" (.ref wE)) (VE : Arv Z Z.heap wE kE (.object "java/lang/Object") (0 : Int32) [] .null) (g1 : n0 ≤ a1) (E2 : Exa Z h0 a2 "com/example/darlington/darlington/core/IntegerRange") (Es : Exa Z h0 a1 "java/util/ArrayList") (Fs : Fld Z h0 a1 "java/util/ArrayList" "size" "I" (.int (0 : Int32))) (Fd : Fld Z h0 a1 "java/util/ArrayList" "elementData" "[Ljava/lang/Object;" (.ref wE)) (Fm : Fld Z h0 a1 "java/util/AbstractList" "modCount" "I" (.int mc)) :
    MetFree l (⟨"java/util/ArrayList", "add", "(Ljava/lang/Object;[Ljava/lang/Object;I)V"⟩ : MethodName) (head1 (Jvm.Cond.code (⟨"java/util/ArrayList", "add", "(Ljava/lang/Object;[Ljava/lang/Object;I)V"⟩ : MethodName) jdk_38_method_24_code 4 none :: ws) ({ frames := 3, cells := 1, slots := 10, locals := 41 } : Room)) (fun a U => a = #[(.ref a1), (.ref a2), (.ref wE), (.int (0 : Int32))] ∧ Z.Warmed39 U.vm ∧ U.heap = h0) (fun _ _ _ _ _ => True) (fun _ U o U' => ∃ v L, o = .returned v ∧ Q_rm_addB0_IntegerRange Z a1 a2 wE kE mc h0 n0 v U'.heap L ∧ FrameEnd U o U' L ({ frames := 3, cells := 1, slots := 10, locals := 41 } : Room).cells ({ frames := 3, cells := 1, slots := 10, locals := 41 } : Room).slots) := by
  refine MetFree.of_bodySF (plainFor_of_name pn_2) hisR ?_
  intro p e s m args below meth c s₁ Bd hml0 hP hK
  obtain ⟨rfl, hZ, hh⟩ := hP
  have hx := Bd.exec
  have hby := Bd.bytes
  have hml : c.maxLocals = 4 := hml0
  have hown : s.vm.findClass "java/util/ArrayList" = some m.cls := findClass_of_methodNamed Bd.named
  have hnm := (name_of_methodNamed Bd.named Bd.method).1
  have X0 : Stand p l e ({ frames := 3, cells := 1, slots := 10, locals := 41 } : Room) s m #[(.ref a1), (.ref a2), (.ref wE), (.int (0 : Int32))] below meth c s₁ [] 0 0 := Stand.of_body Bd
  have e0 : s₁.heap = h0 := by rw [← hh, Bd.state]; rfl
  have N0 := Fr.nil n0
  have pre0 : ∀ t, Steps p.tables e below (s₁.setTop (mkF m 0 #[Sr a1, Sr a2, Sr wE, Si (0 : Int32)] [])) t → Steps p.tables e below (s₁.setTop (entryFrame m #[(.ref a1), (.ref a2), (.ref wE), (.int (0 : Int32))] 4)) t := fun t k => castTop (ef_rm_addB0_IntegerRange m a1 a2 wE) k
  obtain ⟨c51, Arc51, Aqc51, Asc51, Anc51, Ahc51, Agc51⟩ := id (VE.ext O0.2)
  obtain ⟨cq52, q52, q52'⟩ := Es.cell
  obtain ⟨_, _, ⟨T52, L52, k52, n52⟩, -, X52, ⟨Lc52, hQ52, l52, y52, z52⟩, st52⟩ := X0.privateBack hx (y := (⟨"java/util/ArrayList", "grow", "()[Ljava/lang/Object;"⟩ : MethodName)) hown (mvT hZ (ow hw 77 rfl)) (mvT hZ (ow hw 78 rfl)) (mvT hZ (ow hw 80 rfl)) (Cond.privateMethod_at (mvP hZ (ow hw 79 rfl) (args := #[]))) (mvT hZ (ow hw 81 rfl)) (by decide) (backOf (W := 0) (rm13 l Z a0 hw [] a1 wE kE mc h0 n0 Z0 O0 SE VE g1 Es Fs Fd Fm) hZ (ow hw 81 rfl) (ow hw 15 rfl) (by decide) (by decide)) (g := (mkF m 7 #[Sr a1, Sr a2, Sr wE, Si (0 : Int32)] [(.ref a1)])) rfl (by rw [hml]; rfl) (Steps.refl _) (a := a1) (by rw [e0]; exact q52) q52' (argsL := []) (rest := []) (lenOf pd_3 rfl) rfl (by show 2 * 0 + _ ≤ _; exact Nat.le_of_eq rfl) (hb hby d12_7) (fun _ _ => ⟨rfl, e0, (by decide : 0 + 1 ≤ _), (by decide : 0 + 10 ≤ _)⟩)
  dsimp only [Pt.U, Pt.locs, Pt.cells, Pt.slots] at X52 l52 y52 z52 st52 hQ52
  subst y52 z52
  obtain ⟨r_52, kr_52, rfl, Nq52, q52_0, q52_1, q52_2, q52_3, q52_4, q52_5, q52_6⟩ := hQ52
  have N53 := Eq.subst (motive := fun L => Fr n0 L) l52.symm (Fr.app N0 Nq52)
  have ne54 : a2 ≠ r_52 := Nat.ne_of_lt (Nat.lt_of_lt_of_le E2.lt q52_1)
  have ne55 : a1 ≠ r_52 := Nat.ne_of_lt (Nat.lt_of_lt_of_le Es.lt q52_1)
  have ge56 : n0 ≤ r_52 := Nat.le_trans Z0 q52_1
  have sz57 : h0.size ≤ r_52 := Nat.le_trans (Keep.refl h0 [a1]).1 q52_1
  have KC58 : Keep h0 T52.heap [a1] := (Keep.refl h0 [a1]).trans q52_0 (allS (Or.inl (List.mem_of_getElem? (i := 0) rfl)) all0)
  obtain ⟨c59, Arc59, Aqc59, Asc59, Anc59, Ahc59, Agc59⟩ := id q52_2
  have hin60 : ¬ ((0 : Int32) < 0 ∨ c59.slots.size ≤ ((0 : Int32)).toNatClampNeg) := inb_of Asc59 ⟨by decide, by decide⟩
  have F61 : Exa Z T52.heap a2 "com/example/darlington/darlington/core/IntegerRange" := (E2.keep q52_0)
  obtain ⟨T62, h62, X62, e62, W62, st62⟩ := stR X52 hx hZ rfl Arc59 (j := (0 : Int32)) hin60 rfl (Sto.ofV Arc59 Aqc59 q52_3 (Ins.of_exa F61 (ow hw 93 rfl))) (g := (mkF m 14 #[Sr a1, Sr a2, Sr r_52, Si (0 : Int32)] [(.ref a2), (.int (0 : Int32)), (.ref r_52)])) rfl rfl (hb hby d12_14)
  have KC63 : Keep h0 h62 [a1] := KC58.wr W62 (Or.inr sz57)
  have V62 : Arv Z h62 r_52 kr_52 (.object "java/lang/Object") (10 : Int32) [(.ref a2), .null, .null, .null, .null, .null, .null, .null, .null, .null] .null := Arv.set Arc59 Aqc59 Asc59 Anc59 Ahc59 Agc59 rfl W62 0 rfl (Nat.le_of_ble_eq_true rfl)
  have N64 := Fr.snoc X62 N53 ge56
  have F65 : Exa Z h62 a1 "java/util/ArrayList" := ((Es.keep q52_0).wr W62)
  have F66 : Fld Z h62 a1 "java/util/ArrayList" "size" "I" (.int (0 : Int32)) := (q52_5.other W62 (Or.inl ne55))
  obtain ⟨T67, h67, X67, e67, W67, st67⟩ := putF X62 hx hZ hown (host := "") (Or.inl (ow hw 70 rfl)) Via.refl e62 F66 F65 (Or.inl (ow hw 71 rfl)) (ow hw 14 rfl) (ty := .int) (by decide) rfl rfl (g := (mkF m 19 #[Sr a1, Sr a2, Sr r_52, Si (0 : Int32)] [(.int (1 : Int32)), (.ref a1)])) rfl rfl (hb hby d12_19)
  have KC68 : Keep h0 h67 [a1] := KC63.wr W67 (Or.inl (List.mem_of_getElem? (i := 0) rfl))
  have F69 : Fld Z h67 a1 "java/util/ArrayList" "size" "I" (.int (1 : Int32)) := F66.same W67
  have N70 := Fr.snoc X67 N64 g1
  have pre71 : ∀ t, Steps p.tables e below (T67.setTop (mkF m 22 #[Sr a1, Sr a2, Sr r_52, Si (0 : Int32)] [])) t → Steps p.tables e below (s₁.setTop (entryFrame m #[(.ref a1), (.ref a2), (.ref wE), (.int (0 : Int32))] 4)) t := by
    intro t k
    refine pre0 t ?_
    refine XS.iloadN X0.here hx rfl (hb hby d12_0) rfl ?_
    refine XS.aloadN X0.here hx rfl (hb hby d12_1) rfl rfl ?_
    refine X0.arraylength hx (by rw [e0]; exact Arc51.1) (State.isArrayOf_alike hZ.alike Arc51.2.1) (g := (mkF m 2 #[Sr a1, Sr a2, Sr wE, Si (0 : Int32)] [(.ref wE), (.int (0 : Int32))])) rfl rfl (hb hby d12_2) _ ?_
    rw [len_of Asc51 Anc51]
    refine XS.icmpNo X0.here hx rfl (hb hby d12_3) rfl (teq rfl).2 ?_
    refine XS.aloadN X0.here hx rfl (hb hby d12_6) rfl rfl ?_
    refine st52.trans ?_
    refine XS.astoreN X52.here hx rfl (hb hby d12_10) rfl rfl (l' := #[Sr a1, Sr a2, Sr r_52, Si (0 : Int32)]) rfl ?_
    refine XS.aloadN X52.here hx rfl (hb hby d12_11) rfl rfl ?_
    show Steps _ _ _ (T52.setTop (mkF m 12 #[Sr a1, Sr a2, Sr r_52, Si (0 : Int32)] [(.ref r_52)])) _
    refine XS.iloadN X52.here hx rfl (hb hby d12_12) rfl ?_
    refine XS.aloadN X52.here hx rfl (hb hby d12_13) rfl rfl ?_
    refine st62 _ ?_
    refine XS.aloadN X62.here hx rfl (hb hby d12_15) rfl rfl ?_
    refine XS.iloadN X62.here hx rfl (hb hby d12_16) rfl ?_
    refine XS.iconst X62.here hx rfl (hb hby d12_17) ?_
    refine XS.iadd X62.here hx rfl (hb hby d12_18) rfl ?_
    refine st67 _ ?_
    show Steps _ _ _ (T67.setTop (mkF m 22 #[Sr a1, Sr a2, Sr r_52, Si (0 : Int32)] [])) _
    exact k
  obtain ⟨fs, hr, hrun, hended, hW, hsame⟩ := X67.leave (v := none) (fun _ => rfl)
  refine ⟨_, _, pre71 _ ?_, hrun, hended, _, _, rfl, ?_, ⟨_, rfl⟩, hW, hsame.mono (by decide) (by decide)⟩
  · exact X67.returnOut hx Bd.returns (hb hby d12_22) hr
  · show Q_rm_addB0_IntegerRange Z a1 a2 wE kE mc h0 n0 _ T67.heap _
    rw [e67]
    have F72 : Arv Z h67 r_52 kr_52 (.object "java/lang/Object") (10 : Int32) [(.ref a2), .null, .null, .null, .null, .null, .null, .null, .null, .null] .null := (V62.other W67 (Ne.symm ne55))
    have F73 : Fld Z h67 a1 "java/util/ArrayList" "elementData" "[Ljava/lang/Object;" (.ref r_52) := ((q52_4.other W62 (Or.inl ne55)).other W67 (Or.inr (slot_ne (Or.inl (ow hw 38 rfl)) (Or.inl (ow hw 71 rfl)) (by decide) (t := (.array (.object "java/lang/Object"))) (t' := .int) (by decide) (by decide))))
    have F74 : Fld Z h67 a1 "java/util/AbstractList" "modCount" "I" (.int mc) := ((q52_6.other W62 (Or.inl ne55)).other W67 (Or.inr (slot_ne (Or.inl (ow hw 35 rfl)) (Or.inl (ow hw 71 rfl)) (by decide) (t := .int) (t' := .int) (by decide) (by decide))))
    exact ⟨r_52, kr_52, rfl, N70, KC68, sz57, F72, q52_3, F73, F69, F74⟩
theorem d11_0 : decode jdk_38_method_25_code 0 = .ok (.aload_n 0, 1) := by decide +kernel
theorem d11_1 : decode jdk_38_method_25_code 1 = .ok (.dup, 1) := by decide +kernel
theorem d11_2 : decode jdk_38_method_25_code 2 = .ok (.getfield 63, 3) := by decide +kernel
theorem d11_5 : decode jdk_38_method_25_code 5 = .ok (.iconst 1, 1) := by decide +kernel
theorem d11_6 : decode jdk_38_method_25_code 6 = .ok (.iadd, 1) := by decide +kernel
theorem d11_7 : decode jdk_38_method_25_code 7 = .ok (.putfield 63, 3) := by decide +kernel
theorem d11_10 : decode jdk_38_method_25_code 10 = .ok (.aload_n 0, 1) := by decide +kernel
theorem d11_11 : decode jdk_38_method_25_code 11 = .ok (.aload_n 1, 1) := by decide +kernel
theorem d11_12 : decode jdk_38_method_25_code 12 = .ok (.aload_n 0, 1) := by decide +kernel
theorem d11_13 : decode jdk_38_method_25_code 13 = .ok (.getfield 9, 3) := by decide +kernel
theorem d11_16 : decode jdk_38_method_25_code 16 = .ok (.aload_n 0, 1) := by decide +kernel
theorem d11_17 : decode jdk_38_method_25_code 17 = .ok (.getfield 48, 3) := by decide +kernel
theorem pd_4 : parseMethodDescriptor "(Ljava/lang/Object;[Ljava/lang/Object;I)V" = some ⟨[(.object "java/lang/Object"), (.array (.object "java/lang/Object")), .int], none⟩ := by decide +kernel
theorem d11_20 : decode jdk_38_method_25_code 20 = .ok (.invokevirtual 131, 3) := by decide +kernel
theorem d11_23 : decode jdk_38_method_25_code 23 = .ok (.iconst 1, 1) := by decide +kernel
theorem d11_24 : decode jdk_38_method_25_code 24 = .ok (.ireturn, 1) := by decide +kernel
theorem ef_rm_addA0_IntegerRange (m : MethodId) (x0 : Addr) (x1 : Addr) : entryFrame m #[(.ref x0), (.ref x1)] 2 = mkF m 0 #[Sr x0, Sr x1] [] := by first | (simp [entryFrame, mkF, argsToLocals, Value.category]; done) | rfl
def Q_rm_addA0_IntegerRange (Z : State) (a1 : Addr) (a2 : Addr) (wE : Addr) (kE : ClassId) (mc : Int32) (h0 : Heap) (n0 : Nat) (v : Option Value) (h : Heap) (L : List Loc) : Prop := ∃ (r : Addr) (kr : ClassId), v = some (.int (1 : Int32)) ∧ Fr n0 L ∧ Keep h0 h [a1] ∧ h0.size ≤ r ∧ Arv Z h r kr (.object "java/lang/Object") (10 : Int32) [(.ref a2), .null, .null, .null, .null, .null, .null, .null, .null, .null] .null ∧ Ovr Z kr "java/lang/Object" ∧ Fld Z h a1 "java/util/ArrayList" "elementData" "[Ljava/lang/Object;" (.ref r) ∧ Fld Z h a1 "java/util/ArrayList" "size" "I" (.int (1 : Int32)) ∧ Fld Z h a1 "java/util/AbstractList" "modCount" "I" (.int (mc + (1 : Int32)))
set_option maxRecDepth 65536 in
set_option maxHeartbeats 40000000 in
theorem rm_addA0_IntegerRange (l : Launch) (Z : State) (a0 : Array Value) (hw : ∀ d ∈ tables_1, d.before a0 Z = true) (ws : List Jvm.Cond) (a1 : Addr) (a2 : Addr) (wE : Addr) (kE : ClassId) (mc : Int32) (h0 : Heap) (n0 : Nat) (Z0 : n0 ≤ h0.size) (O0 : Old Z n0 h0) (SE : Sta Z Z.heap "java/util/ArrayList" "DEFAULTCAPACITY_EMPTY_ELEMENTDATA" "[Ljava/lang/Object;" (.ref wE)) (VE : Arv Z Z.heap wE kE (.object "java/lang/Object") (0 : Int32) [] .null) (g1 : n0 ≤ a1) (E2 : Exa Z h0 a2 "com/example/darlington/darlington/core/IntegerRange") (Es : Exa Z h0 a1 "java/util/ArrayList") (Fs : Fld Z h0 a1 "java/util/ArrayList" "size" "I" (.int (0 : Int32))) (Fd : Fld Z h0 a1 "java/util/ArrayList" "elementData" "[Ljava/lang/Object;" (.ref wE)) (Fm : Fld Z h0 a1 "java/util/AbstractList" "modCount" "I" (.int mc)) :
    MetFree l (⟨"java/util/ArrayList", "add", "(Ljava/lang/Object;)Z"⟩ : MethodName) (head1 (Jvm.Cond.code (⟨"java/util/ArrayList", "add", "(Ljava/lang/Object;)Z"⟩ : MethodName) jdk_38_method_25_code 2 (some .boolean) :: ws) ({ frames := 4, cells := 1, slots := 10, locals := 56 } : Room)) (fun a U => a = #[(.ref a1), (.ref a2)] ∧ Z.Warmed39 U.vm ∧ U.heap = h0) (fun _ _ _ _ _ => True) (fun _ U o U' => ∃ v L, o = .returned v ∧ Q_rm_addA0_IntegerRange Z a1 a2 wE kE mc h0 n0 v U'.heap L ∧ FrameEnd U o U' L ({ frames := 4, cells := 1, slots := 10, locals := 56 } : Room).cells ({ frames := 4, cells := 1, slots := 10, locals := 56 } : Room).slots) := by
  refine MetFree.of_bodySF (plainFor_of_name pn_2) hisR ?_
  intro p e s m args below meth c s₁ Bd hml0 hP hK
  obtain ⟨rfl, hZ, hh⟩ := hP
  have hx := Bd.exec
  have hby := Bd.bytes
  have hml : c.maxLocals = 2 := hml0
  have hown : s.vm.findClass "java/util/ArrayList" = some m.cls := findClass_of_methodNamed Bd.named
  have hnm := (name_of_methodNamed Bd.named Bd.method).1
  have X0 : Stand p l e ({ frames := 4, cells := 1, slots := 10, locals := 56 } : Room) s m #[(.ref a1), (.ref a2)] below meth c s₁ [] 0 0 := Stand.of_body Bd
  have e0 : s₁.heap = h0 := by rw [← hh, Bd.state]; rfl
  have N0 := Fr.nil n0
  have pre0 : ∀ t, Steps p.tables e below (s₁.setTop (mkF m 0 #[Sr a1, Sr a2] [])) t → Steps p.tables e below (s₁.setTop (entryFrame m #[(.ref a1), (.ref a2)] 2)) t := fun t k => castTop (ef_rm_addA0_IntegerRange m a1 a2) k
  obtain ⟨T51, X51, e51, st51⟩ := getF X0 hx hZ hown (host := "") (Or.inl (ow hw 68 rfl)) (Via.of (ow hw 69 rfl)) e0 Fm (g := (mkF m 2 #[Sr a1, Sr a2] [(.ref a1), (.ref a1)])) rfl rfl (hb hby d11_2)
  obtain ⟨T52, h52, X52, e52, W52, st52⟩ := putF X51 hx hZ hown (host := "") (Or.inl (ow hw 68 rfl)) (Via.of (ow hw 69 rfl)) e51 Fm Es (Or.inl (ow hw 35 rfl)) (ow hw 14 rfl) (ty := .int) (by decide) rfl rfl (g := (mkF m 7 #[Sr a1, Sr a2] [(.int (mc + (1 : Int32))), (.ref a1)])) rfl rfl (hb hby d11_7)
  have KC53 : Keep h0 h52 [a1] := (Keep.refl h0 [a1]).wr W52 (Or.inl (List.mem_of_getElem? (i := 0) rfl))
  have F54 : Fld Z h52 a1 "java/util/AbstractList" "modCount" "I" (.int (mc + (1 : Int32))) := Fm.same W52
  have N55 := Fr.snoc X52 N0 g1
  have F56 : Fld Z h52 a1 "java/util/ArrayList" "elementData" "[Ljava/lang/Object;" (.ref wE) := (Fd.other W52 (Or.inr (slot_ne (Or.inl (ow hw 38 rfl)) (Or.inl (ow hw 35 rfl)) (by decide) (t := (.array (.object "java/lang/Object"))) (t' := .int) (by decide) (by decide))))
  obtain ⟨T57, X57, e57, st57⟩ := getF X52 hx hZ hown (host := "") (Or.inl (ow hw 37 rfl)) Via.refl e52 F56 (g := (mkF m 13 #[Sr a1, Sr a2] [(.ref a1), (.ref a2), (.ref a1)])) rfl rfl (hb hby d11_13)
  have F58 : Fld Z h52 a1 "java/util/ArrayList" "size" "I" (.int (0 : Int32)) := (Fs.other W52 (Or.inr (slot_ne (Or.inl (ow hw 71 rfl)) (Or.inl (ow hw 35 rfl)) (by decide) (t := .int) (t' := .int) (by decide) (by decide))))
  obtain ⟨T59, X59, e59, st59⟩ := getF X57 hx hZ hown (host := "") (Or.inl (ow hw 70 rfl)) Via.refl e57 F58 (g := (mkF m 17 #[Sr a1, Sr a2] [(.ref a1), (.ref wE), (.ref a2), (.ref a1)])) rfl rfl (hb hby d11_17)
  have O60 : Old Z n0 h52 := (O0.wr W52 g1)
  have F61 : Exa Z h52 a2 "com/example/darlington/darlington/core/IntegerRange" := (E2.wr W52)
  have F62 : Exa Z h52 a1 "java/util/ArrayList" := (Es.wr W52)
  obtain ⟨cq63, q63, q63'⟩ := F62.cell
  obtain ⟨_, _, ⟨T63, L63, k63, n63⟩, -, X63, ⟨Lc63, hQ63, l63, y63, z63⟩, st63⟩ := X59.privateBack hx (y := (⟨"java/util/ArrayList", "add", "(Ljava/lang/Object;[Ljava/lang/Object;I)V"⟩ : MethodName)) hown (mvT hZ (ow hw 72 rfl)) (mvT hZ (ow hw 73 rfl)) (mvT hZ (ow hw 75 rfl)) (Cond.privateMethod_at (mvP hZ (ow hw 74 rfl) (args := #[]))) (mvT hZ (ow hw 76 rfl)) (by decide) (backOf (W := 0) (rm_addB0_IntegerRange l Z a0 hw [] a1 a2 wE kE (mc + (1 : Int32)) h52 n0 (Nat.le_trans Z0 KC53.1) O60 SE VE g1 F61 F62 F58 F56 F54) hZ (ow hw 76 rfl) (ow hw 15 rfl) (by decide) (by decide)) (g := (mkF m 20 #[Sr a1, Sr a2] [(.int (0 : Int32)), (.ref wE), (.ref a2), (.ref a1)])) rfl (by rw [hml]; rfl) (Steps.refl _) (a := a1) (by rw [e59]; exact q63) q63' (argsL := [(.ref a2), (.ref wE), (.int (0 : Int32))]) (rest := []) (lenOf pd_4 rfl) rfl (by show 2 * 0 + _ ≤ _; exact Nat.le_of_eq rfl) (hb hby d11_20) (fun _ _ => ⟨rfl, e59, (by decide : 0 + 1 ≤ _), (by decide : 0 + 10 ≤ _)⟩)
  dsimp only [Pt.U, Pt.locs, Pt.cells, Pt.slots] at X63 l63 y63 z63 st63 hQ63
  subst y63 z63
  obtain ⟨r_63, kr_63, rfl, Nq63, q63_0, q63_1, q63_2, q63_3, q63_4, q63_5, q63_6⟩ := hQ63
  have N64 := Eq.subst (motive := fun L => Fr n0 L) l63.symm (Fr.app N55 Nq63)
  have ne65 : a2 ≠ r_63 := Nat.ne_of_lt (Nat.lt_of_lt_of_le F61.lt q63_1)
  have ne66 : a1 ≠ r_63 := Nat.ne_of_lt (Nat.lt_of_lt_of_le F62.lt q63_1)
  have ge67 : n0 ≤ r_63 := Nat.le_trans (Nat.le_trans Z0 KC53.1) q63_1
  have sz68 : h0.size ≤ r_63 := Nat.le_trans KC53.1 q63_1
  have KC69 : Keep h0 T63.heap [a1] := KC53.trans q63_0 (allS (Or.inl (List.mem_of_getElem? (i := 0) rfl)) all0)
  have pre70 : ∀ t, Steps p.tables e below (T63.setTop (mkF m 24 #[Sr a1, Sr a2] [(.int (1 : Int32))])) t → Steps p.tables e below (s₁.setTop (entryFrame m #[(.ref a1), (.ref a2)] 2)) t := by
    intro t k
    refine pre0 t ?_
    refine XS.aloadN X0.here hx rfl (hb hby d11_0) rfl rfl ?_
    refine XS.dup X0.here hx rfl (hb hby d11_1) rfl rfl ?_
    refine st51 _ ?_
    refine XS.iconst X51.here hx rfl (hb hby d11_5) ?_
    refine XS.iadd X51.here hx rfl (hb hby d11_6) rfl ?_
    refine st52 _ ?_
    refine XS.aloadN X52.here hx rfl (hb hby d11_10) rfl rfl ?_
    refine XS.aloadN X52.here hx rfl (hb hby d11_11) rfl rfl ?_
    show Steps _ _ _ (T52.setTop (mkF m 12 #[Sr a1, Sr a2] [(.ref a2), (.ref a1)])) _
    refine XS.aloadN X52.here hx rfl (hb hby d11_12) rfl rfl ?_
    refine st57 _ ?_
    refine XS.aloadN X57.here hx rfl (hb hby d11_16) rfl rfl ?_
    refine st59 _ ?_
    refine st63.trans ?_
    refine XS.iconst X63.here hx rfl (hb hby d11_23) ?_
    exact k
  obtain ⟨fs, hr, hrun, hended, hW, hsame⟩ := X63.leave (v := some (.int (1 : Int32))) (fun h => by rw [Bd.returns] at h; cases h)
  refine ⟨_, _, pre70 _ ?_, hrun, hended, _, _, rfl, ?_, ⟨_, rfl⟩, hW, hsame.mono (by decide) (by decide)⟩
  · exact retN X63 hx (t := .boolean) Bd.returns (by simp) (hb hby d11_24) hr
  · show Q_rm_addA0_IntegerRange Z a1 a2 wE kE mc h0 n0 _ T63.heap _
    exact ⟨r_63, kr_63, rfl, N64, KC69, sz68, q63_2, q63_3, q63_4, q63_5, q63_6⟩
theorem ef_rm_addB1_IntegerRange (m : MethodId) (x0 : Addr) (x1 : Addr) (x2 : Addr) : entryFrame m #[(.ref x0), (.ref x1), (.ref x2), (.int (1 : Int32))] 4 = mkF m 0 #[Sr x0, Sr x1, Sr x2, Si (1 : Int32)] [] := by first | (simp [entryFrame, mkF, argsToLocals, Value.category]; done) | rfl
def Q_rm_addB1_IntegerRange (Z : State) (a1 : Addr) (a2 : Addr) (a3 : Addr) (k3 : ClassId) (mc : Int32) (x0 : Addr) (h0 : Heap) (n0 : Nat) (v : Option Value) (h : Heap) (L : List Loc) : Prop := v = none ∧ Fr n0 L ∧ Keep h0 h [a1, a3] ∧ Arv Z h a3 k3 (.object "java/lang/Object") (10 : Int32) [(.ref x0), (.ref a2), .null, .null, .null, .null, .null, .null, .null, .null] .null ∧ Fld Z h a1 "java/util/ArrayList" "elementData" "[Ljava/lang/Object;" (.ref a3) ∧ Fld Z h a1 "java/util/ArrayList" "size" "I" (.int (2 : Int32)) ∧ Fld Z h a1 "java/util/AbstractList" "modCount" "I" (.int mc)
set_option maxRecDepth 65536 in
set_option maxHeartbeats 40000000 in
theorem rm_addB1_IntegerRange (l : Launch) (Z : State) (a0 : Array Value) (hw : ∀ d ∈ tables_1, d.before a0 Z = true) (ws : List Jvm.Cond) (a1 : Addr) (a2 : Addr) (a3 : Addr) (k3 : ClassId) (mc : Int32) (x0 : Addr) (h0 : Heap) (n0 : Nat) (Z0 : n0 ≤ h0.size) (g1 : n0 ≤ a1) (E2 : Exa Z h0 a2 "com/example/darlington/darlington/core/IntegerRange") (g3 : n0 ≤ a3) (n13 : a1 ≠ a3) (n23 : a2 ≠ a3) (V3 : Arv Z h0 a3 k3 (.object "java/lang/Object") (10 : Int32) [(.ref x0), .null, .null, .null, .null, .null, .null, .null, .null, .null] .null) (OV3 : Ovr Z k3 "java/lang/Object") (Es : Exa Z h0 a1 "java/util/ArrayList") (Fs : Fld Z h0 a1 "java/util/ArrayList" "size" "I" (.int (1 : Int32))) (Fd : Fld Z h0 a1 "java/util/ArrayList" "elementData" "[Ljava/lang/Object;" (.ref a3)) (Fm : Fld Z h0 a1 "java/util/AbstractList" "modCount" "I" (.int mc)) :
    MetFree l (⟨"java/util/ArrayList", "add", "(Ljava/lang/Object;[Ljava/lang/Object;I)V"⟩ : MethodName) (head1 (Jvm.Cond.code (⟨"java/util/ArrayList", "add", "(Ljava/lang/Object;[Ljava/lang/Object;I)V"⟩ : MethodName) jdk_38_method_24_code 4 none :: ws) ({ frames := 0, cells := 0, slots := 0, locals := 0 } : Room)) (fun a U => a = #[(.ref a1), (.ref a2), (.ref a3), (.int (1 : Int32))] ∧ Z.Warmed39 U.vm ∧ U.heap = h0) (fun _ _ _ _ _ => True) (fun _ U o U' => ∃ v L, o = .returned v ∧ Q_rm_addB1_IntegerRange Z a1 a2 a3 k3 mc x0 h0 n0 v U'.heap L ∧ FrameEnd U o U' L ({ frames := 0, cells := 0, slots := 0, locals := 0 } : Room).cells ({ frames := 0, cells := 0, slots := 0, locals := 0 } : Room).slots) := by
  refine MetFree.of_bodySF (plainFor_of_name pn_2) hisR ?_
  intro p e s m args below meth c s₁ Bd hml0 hP hK
  obtain ⟨rfl, hZ, hh⟩ := hP
  have hx := Bd.exec
  have hby := Bd.bytes
  have hml : c.maxLocals = 4 := hml0
  have hown : s.vm.findClass "java/util/ArrayList" = some m.cls := findClass_of_methodNamed Bd.named
  have hnm := (name_of_methodNamed Bd.named Bd.method).1
  have X0 : Stand p l e ({ frames := 0, cells := 0, slots := 0, locals := 0 } : Room) s m #[(.ref a1), (.ref a2), (.ref a3), (.int (1 : Int32))] below meth c s₁ [] 0 0 := Stand.of_body Bd
  have e0 : s₁.heap = h0 := by rw [← hh, Bd.state]; rfl
  have N0 := Fr.nil n0
  have pre0 : ∀ t, Steps p.tables e below (s₁.setTop (mkF m 0 #[Sr a1, Sr a2, Sr a3, Si (1 : Int32)] [])) t → Steps p.tables e below (s₁.setTop (entryFrame m #[(.ref a1), (.ref a2), (.ref a3), (.int (1 : Int32))] 4)) t := fun t k => castTop (ef_rm_addB1_IntegerRange m a1 a2 a3) k
  obtain ⟨c51, Arc51, Aqc51, Asc51, Anc51, Ahc51, Agc51⟩ := id V3
  obtain ⟨c52, Arc52, Aqc52, Asc52, Anc52, Ahc52, Agc52⟩ := id V3
  have hin53 : ¬ ((1 : Int32) < 0 ∨ c52.slots.size ≤ ((1 : Int32)).toNatClampNeg) := inb_of Asc52 ⟨by decide, by decide⟩
  obtain ⟨T54, h54, X54, e54, W54, st54⟩ := stR X0 hx hZ e0 Arc52 (j := (1 : Int32)) hin53 rfl (Sto.ofV Arc52 Aqc52 OV3 (Ins.of_exa E2 (ow hw 93 rfl))) (g := (mkF m 14 #[Sr a1, Sr a2, Sr a3, Si (1 : Int32)] [(.ref a2), (.int (1 : Int32)), (.ref a3)])) rfl rfl (hb hby d12_14)
  have KC55 : Keep h0 h54 [a1, a3] := (Keep.refl h0 [a1, a3]).wr W54 (Or.inl (List.mem_of_getElem? (i := 1) rfl))
  have V54 : Arv Z h54 a3 k3 (.object "java/lang/Object") (10 : Int32) [(.ref x0), (.ref a2), .null, .null, .null, .null, .null, .null, .null, .null] .null := Arv.set Arc52 Aqc52 Asc52 Anc52 Ahc52 Agc52 rfl W54 1 rfl (Nat.le_of_ble_eq_true rfl)
  have N56 := Fr.snoc X54 N0 g3
  have F57 : Exa Z h54 a1 "java/util/ArrayList" := (Es.wr W54)
  have F58 : Fld Z h54 a1 "java/util/ArrayList" "size" "I" (.int (1 : Int32)) := (Fs.other W54 (Or.inl n13))
  obtain ⟨T59, h59, X59, e59, W59, st59⟩ := putF X54 hx hZ hown (host := "") (Or.inl (ow hw 70 rfl)) Via.refl e54 F58 F57 (Or.inl (ow hw 71 rfl)) (ow hw 14 rfl) (ty := .int) (by decide) rfl rfl (g := (mkF m 19 #[Sr a1, Sr a2, Sr a3, Si (1 : Int32)] [(.int (2 : Int32)), (.ref a1)])) rfl rfl (hb hby d12_19)
  have KC60 : Keep h0 h59 [a1, a3] := KC55.wr W59 (Or.inl (List.mem_of_getElem? (i := 0) rfl))
  have F61 : Fld Z h59 a1 "java/util/ArrayList" "size" "I" (.int (2 : Int32)) := F58.same W59
  have N62 := Fr.snoc X59 N56 g1
  have pre63 : ∀ t, Steps p.tables e below (T59.setTop (mkF m 22 #[Sr a1, Sr a2, Sr a3, Si (1 : Int32)] [])) t → Steps p.tables e below (s₁.setTop (entryFrame m #[(.ref a1), (.ref a2), (.ref a3), (.int (1 : Int32))] 4)) t := by
    intro t k
    refine pre0 t ?_
    refine XS.iloadN X0.here hx rfl (hb hby d12_0) rfl ?_
    refine XS.aloadN X0.here hx rfl (hb hby d12_1) rfl rfl ?_
    refine X0.arraylength hx (by rw [e0]; exact Arc51.1) (State.isArrayOf_alike hZ.alike Arc51.2.1) (g := (mkF m 2 #[Sr a1, Sr a2, Sr a3, Si (1 : Int32)] [(.ref a3), (.int (1 : Int32))])) rfl rfl (hb hby d12_2) _ ?_
    rw [len_of Asc51 Anc51]
    refine XS.icmpYes X0.here hx rfl (pc0 := 3) (pc' := 11) rfl (hb hby d12_3) rfl (feq (by decide)).2 (by decide) (by decide) ?_
    refine XS.aloadN X0.here hx rfl (hb hby d12_11) rfl rfl ?_
    refine XS.iloadN X0.here hx rfl (hb hby d12_12) rfl ?_
    refine XS.aloadN X0.here hx rfl (hb hby d12_13) rfl rfl ?_
    refine st54 _ ?_
    show Steps _ _ _ (T54.setTop (mkF m 15 #[Sr a1, Sr a2, Sr a3, Si (1 : Int32)] [])) _
    refine XS.aloadN X54.here hx rfl (hb hby d12_15) rfl rfl ?_
    refine XS.iloadN X54.here hx rfl (hb hby d12_16) rfl ?_
    refine XS.iconst X54.here hx rfl (hb hby d12_17) ?_
    refine XS.iadd X54.here hx rfl (hb hby d12_18) rfl ?_
    refine st59 _ ?_
    exact k
  obtain ⟨fs, hr, hrun, hended, hW, hsame⟩ := X59.leave (v := none) (fun _ => rfl)
  refine ⟨_, _, pre63 _ ?_, hrun, hended, _, _, rfl, ?_, ⟨_, rfl⟩, hW, hsame.mono (by decide) (by decide)⟩
  · exact X59.returnOut hx Bd.returns (hb hby d12_22) hr
  · show Q_rm_addB1_IntegerRange Z a1 a2 a3 k3 mc x0 h0 n0 _ T59.heap _
    rw [e59]
    have F64 : Arv Z h59 a3 k3 (.object "java/lang/Object") (10 : Int32) [(.ref x0), (.ref a2), .null, .null, .null, .null, .null, .null, .null, .null] .null := (V54.other W59 (Ne.symm n13))
    have F65 : Fld Z h59 a1 "java/util/ArrayList" "elementData" "[Ljava/lang/Object;" (.ref a3) := ((Fd.other W54 (Or.inl n13)).other W59 (Or.inr (slot_ne (Or.inl (ow hw 38 rfl)) (Or.inl (ow hw 71 rfl)) (by decide) (t := (.array (.object "java/lang/Object"))) (t' := .int) (by decide) (by decide))))
    have F66 : Fld Z h59 a1 "java/util/AbstractList" "modCount" "I" (.int mc) := ((Fm.other W54 (Or.inl n13)).other W59 (Or.inr (slot_ne (Or.inl (ow hw 35 rfl)) (Or.inl (ow hw 71 rfl)) (by decide) (t := .int) (t' := .int) (by decide) (by decide))))
    exact ⟨rfl, N62, KC60, F64, F65, F61, F66⟩
theorem ef_rm_addA1_IntegerRange (m : MethodId) (x0 : Addr) (x1 : Addr) : entryFrame m #[(.ref x0), (.ref x1)] 2 = mkF m 0 #[Sr x0, Sr x1] [] := by first | (simp [entryFrame, mkF, argsToLocals, Value.category]; done) | rfl
def Q_rm_addA1_IntegerRange (Z : State) (a1 : Addr) (a2 : Addr) (a3 : Addr) (k3 : ClassId) (mc : Int32) (x0 : Addr) (h0 : Heap) (n0 : Nat) (v : Option Value) (h : Heap) (L : List Loc) : Prop := v = some (.int (1 : Int32)) ∧ Fr n0 L ∧ Keep h0 h [a1, a3] ∧ Arv Z h a3 k3 (.object "java/lang/Object") (10 : Int32) [(.ref x0), (.ref a2), .null, .null, .null, .null, .null, .null, .null, .null] .null ∧ Fld Z h a1 "java/util/ArrayList" "elementData" "[Ljava/lang/Object;" (.ref a3) ∧ Fld Z h a1 "java/util/ArrayList" "size" "I" (.int (2 : Int32)) ∧ Fld Z h a1 "java/util/AbstractList" "modCount" "I" (.int (mc + (1 : Int32)))
set_option maxRecDepth 65536 in
set_option maxHeartbeats 40000000 in
theorem rm_addA1_IntegerRange (l : Launch) (Z : State) (a0 : Array Value) (hw : ∀ d ∈ tables_1, d.before a0 Z = true) (ws : List Jvm.Cond) (a1 : Addr) (a2 : Addr) (a3 : Addr) (k3 : ClassId) (mc : Int32) (x0 : Addr) (h0 : Heap) (n0 : Nat) (Z0 : n0 ≤ h0.size) (Es : Exa Z h0 a1 "java/util/ArrayList") (Fs : Fld Z h0 a1 "java/util/ArrayList" "size" "I" (.int (1 : Int32))) (Fd : Fld Z h0 a1 "java/util/ArrayList" "elementData" "[Ljava/lang/Object;" (.ref a3)) (Fm : Fld Z h0 a1 "java/util/AbstractList" "modCount" "I" (.int mc)) (g1 : n0 ≤ a1) (E2 : Exa Z h0 a2 "com/example/darlington/darlington/core/IntegerRange") (g3 : n0 ≤ a3) (n13 : a1 ≠ a3) (n23 : a2 ≠ a3) (V3 : Arv Z h0 a3 k3 (.object "java/lang/Object") (10 : Int32) [(.ref x0), .null, .null, .null, .null, .null, .null, .null, .null, .null] .null) (OV3 : Ovr Z k3 "java/lang/Object") :
    MetFree l (⟨"java/util/ArrayList", "add", "(Ljava/lang/Object;)Z"⟩ : MethodName) (head1 (Jvm.Cond.code (⟨"java/util/ArrayList", "add", "(Ljava/lang/Object;)Z"⟩ : MethodName) jdk_38_method_25_code 2 (some .boolean) :: ws) ({ frames := 1, cells := 0, slots := 0, locals := 15 } : Room)) (fun a U => a = #[(.ref a1), (.ref a2)] ∧ Z.Warmed39 U.vm ∧ U.heap = h0) (fun _ _ _ _ _ => True) (fun _ U o U' => ∃ v L, o = .returned v ∧ Q_rm_addA1_IntegerRange Z a1 a2 a3 k3 mc x0 h0 n0 v U'.heap L ∧ FrameEnd U o U' L ({ frames := 1, cells := 0, slots := 0, locals := 15 } : Room).cells ({ frames := 1, cells := 0, slots := 0, locals := 15 } : Room).slots) := by
  refine MetFree.of_bodySF (plainFor_of_name pn_2) hisR ?_
  intro p e s m args below meth c s₁ Bd hml0 hP hK
  obtain ⟨rfl, hZ, hh⟩ := hP
  have hx := Bd.exec
  have hby := Bd.bytes
  have hml : c.maxLocals = 2 := hml0
  have hown : s.vm.findClass "java/util/ArrayList" = some m.cls := findClass_of_methodNamed Bd.named
  have hnm := (name_of_methodNamed Bd.named Bd.method).1
  have X0 : Stand p l e ({ frames := 1, cells := 0, slots := 0, locals := 15 } : Room) s m #[(.ref a1), (.ref a2)] below meth c s₁ [] 0 0 := Stand.of_body Bd
  have e0 : s₁.heap = h0 := by rw [← hh, Bd.state]; rfl
  have N0 := Fr.nil n0
  have pre0 : ∀ t, Steps p.tables e below (s₁.setTop (mkF m 0 #[Sr a1, Sr a2] [])) t → Steps p.tables e below (s₁.setTop (entryFrame m #[(.ref a1), (.ref a2)] 2)) t := fun t k => castTop (ef_rm_addA1_IntegerRange m a1 a2) k
  obtain ⟨T51, X51, e51, st51⟩ := getF X0 hx hZ hown (host := "") (Or.inl (ow hw 68 rfl)) (Via.of (ow hw 69 rfl)) e0 Fm (g := (mkF m 2 #[Sr a1, Sr a2] [(.ref a1), (.ref a1)])) rfl rfl (hb hby d11_2)
  obtain ⟨T52, h52, X52, e52, W52, st52⟩ := putF X51 hx hZ hown (host := "") (Or.inl (ow hw 68 rfl)) (Via.of (ow hw 69 rfl)) e51 Fm Es (Or.inl (ow hw 35 rfl)) (ow hw 14 rfl) (ty := .int) (by decide) rfl rfl (g := (mkF m 7 #[Sr a1, Sr a2] [(.int (mc + (1 : Int32))), (.ref a1)])) rfl rfl (hb hby d11_7)
  have KC53 : Keep h0 h52 [a1, a3] := (Keep.refl h0 [a1, a3]).wr W52 (Or.inl (List.mem_of_getElem? (i := 0) rfl))
  have F54 : Fld Z h52 a1 "java/util/AbstractList" "modCount" "I" (.int (mc + (1 : Int32))) := Fm.same W52
  have N55 := Fr.snoc X52 N0 g1
  have F56 : Fld Z h52 a1 "java/util/ArrayList" "elementData" "[Ljava/lang/Object;" (.ref a3) := (Fd.other W52 (Or.inr (slot_ne (Or.inl (ow hw 38 rfl)) (Or.inl (ow hw 35 rfl)) (by decide) (t := (.array (.object "java/lang/Object"))) (t' := .int) (by decide) (by decide))))
  obtain ⟨T57, X57, e57, st57⟩ := getF X52 hx hZ hown (host := "") (Or.inl (ow hw 37 rfl)) Via.refl e52 F56 (g := (mkF m 13 #[Sr a1, Sr a2] [(.ref a1), (.ref a2), (.ref a1)])) rfl rfl (hb hby d11_13)
  have F58 : Fld Z h52 a1 "java/util/ArrayList" "size" "I" (.int (1 : Int32)) := (Fs.other W52 (Or.inr (slot_ne (Or.inl (ow hw 71 rfl)) (Or.inl (ow hw 35 rfl)) (by decide) (t := .int) (t' := .int) (by decide) (by decide))))
  obtain ⟨T59, X59, e59, st59⟩ := getF X57 hx hZ hown (host := "") (Or.inl (ow hw 70 rfl)) Via.refl e57 F58 (g := (mkF m 17 #[Sr a1, Sr a2] [(.ref a1), (.ref a3), (.ref a2), (.ref a1)])) rfl rfl (hb hby d11_17)
  have F60 : Exa Z h52 a2 "com/example/darlington/darlington/core/IntegerRange" := (E2.wr W52)
  have F61 : Arv Z h52 a3 k3 (.object "java/lang/Object") (10 : Int32) [(.ref x0), .null, .null, .null, .null, .null, .null, .null, .null, .null] .null := (V3.other W52 (Ne.symm n13))
  have F62 : Exa Z h52 a1 "java/util/ArrayList" := (Es.wr W52)
  obtain ⟨cq63, q63, q63'⟩ := F62.cell
  obtain ⟨_, _, ⟨T63, L63, k63, n63⟩, -, X63, ⟨Lc63, hQ63, l63, y63, z63⟩, st63⟩ := X59.privateBack hx (y := (⟨"java/util/ArrayList", "add", "(Ljava/lang/Object;[Ljava/lang/Object;I)V"⟩ : MethodName)) hown (mvT hZ (ow hw 72 rfl)) (mvT hZ (ow hw 73 rfl)) (mvT hZ (ow hw 75 rfl)) (Cond.privateMethod_at (mvP hZ (ow hw 74 rfl) (args := #[]))) (mvT hZ (ow hw 76 rfl)) (by decide) (backOf (W := 0) (rm_addB1_IntegerRange l Z a0 hw [] a1 a2 a3 k3 (mc + (1 : Int32)) x0 h52 n0 (Nat.le_trans Z0 KC53.1) g1 F60 g3 n13 n23 F61 OV3 F62 F58 F56 F54) hZ (ow hw 76 rfl) (ow hw 15 rfl) (by decide) (by decide)) (g := (mkF m 20 #[Sr a1, Sr a2] [(.int (1 : Int32)), (.ref a3), (.ref a2), (.ref a1)])) rfl (by rw [hml]; rfl) (Steps.refl _) (a := a1) (by rw [e59]; exact q63) q63' (argsL := [(.ref a2), (.ref a3), (.int (1 : Int32))]) (rest := []) (lenOf pd_4 rfl) rfl (by show 2 * 0 + _ ≤ _; exact Nat.le_of_eq rfl) (hb hby d11_20) (fun _ _ => ⟨rfl, e59, (by decide : 0 + 0 ≤ _), (by decide : 0 + 0 ≤ _)⟩)
  dsimp only [Pt.U, Pt.locs, Pt.cells, Pt.slots] at X63 l63 y63 z63 st63 hQ63
  subst y63 z63
  obtain ⟨rfl, Nq63, q63_0, q63_1, q63_2, q63_3, q63_4⟩ := hQ63
  have N64 := Eq.subst (motive := fun L => Fr n0 L) l63.symm (Fr.app N55 Nq63)
  have KC65 : Keep h0 T63.heap [a1, a3] := KC53.trans q63_0 (allS (Or.inl (List.mem_of_getElem? (i := 0) rfl)) (allS (Or.inl (List.mem_of_getElem? (i := 1) rfl)) all0))
  have pre66 : ∀ t, Steps p.tables e below (T63.setTop (mkF m 24 #[Sr a1, Sr a2] [(.int (1 : Int32))])) t → Steps p.tables e below (s₁.setTop (entryFrame m #[(.ref a1), (.ref a2)] 2)) t := by
    intro t k
    refine pre0 t ?_
    refine XS.aloadN X0.here hx rfl (hb hby d11_0) rfl rfl ?_
    refine XS.dup X0.here hx rfl (hb hby d11_1) rfl rfl ?_
    refine st51 _ ?_
    refine XS.iconst X51.here hx rfl (hb hby d11_5) ?_
    refine XS.iadd X51.here hx rfl (hb hby d11_6) rfl ?_
    refine st52 _ ?_
    refine XS.aloadN X52.here hx rfl (hb hby d11_10) rfl rfl ?_
    refine XS.aloadN X52.here hx rfl (hb hby d11_11) rfl rfl ?_
    show Steps _ _ _ (T52.setTop (mkF m 12 #[Sr a1, Sr a2] [(.ref a2), (.ref a1)])) _
    refine XS.aloadN X52.here hx rfl (hb hby d11_12) rfl rfl ?_
    refine st57 _ ?_
    refine XS.aloadN X57.here hx rfl (hb hby d11_16) rfl rfl ?_
    refine st59 _ ?_
    refine st63.trans ?_
    refine XS.iconst X63.here hx rfl (hb hby d11_23) ?_
    exact k
  obtain ⟨fs, hr, hrun, hended, hW, hsame⟩ := X63.leave (v := some (.int (1 : Int32))) (fun h => by rw [Bd.returns] at h; cases h)
  refine ⟨_, _, pre66 _ ?_, hrun, hended, _, _, rfl, ?_, ⟨_, rfl⟩, hW, hsame.mono (by decide) (by decide)⟩
  · exact retN X63 hx (t := .boolean) Bd.returns (by simp) (hb hby d11_24) hr
  · show Q_rm_addA1_IntegerRange Z a1 a2 a3 k3 mc x0 h0 n0 _ T63.heap _
    exact ⟨rfl, N64, KC65, q63_1, q63_2, q63_3, q63_4⟩
theorem ef_rm_addB2_IntegerRange (m : MethodId) (x0 : Addr) (x1 : Addr) (x2 : Addr) : entryFrame m #[(.ref x0), (.ref x1), (.ref x2), (.int (2 : Int32))] 4 = mkF m 0 #[Sr x0, Sr x1, Sr x2, Si (2 : Int32)] [] := by first | (simp [entryFrame, mkF, argsToLocals, Value.category]; done) | rfl
def Q_rm_addB2_IntegerRange (Z : State) (a1 : Addr) (a2 : Addr) (a3 : Addr) (k3 : ClassId) (mc : Int32) (x0 : Addr) (x1 : Addr) (h0 : Heap) (n0 : Nat) (v : Option Value) (h : Heap) (L : List Loc) : Prop := v = none ∧ Fr n0 L ∧ Keep h0 h [a1, a3] ∧ Arv Z h a3 k3 (.object "java/lang/Object") (10 : Int32) [(.ref x0), (.ref x1), (.ref a2), .null, .null, .null, .null, .null, .null, .null] .null ∧ Fld Z h a1 "java/util/ArrayList" "elementData" "[Ljava/lang/Object;" (.ref a3) ∧ Fld Z h a1 "java/util/ArrayList" "size" "I" (.int (3 : Int32)) ∧ Fld Z h a1 "java/util/AbstractList" "modCount" "I" (.int mc)
set_option maxRecDepth 65536 in
set_option maxHeartbeats 40000000 in
theorem rm_addB2_IntegerRange (l : Launch) (Z : State) (a0 : Array Value) (hw : ∀ d ∈ tables_1, d.before a0 Z = true) (ws : List Jvm.Cond) (a1 : Addr) (a2 : Addr) (a3 : Addr) (k3 : ClassId) (mc : Int32) (x0 : Addr) (x1 : Addr) (h0 : Heap) (n0 : Nat) (Z0 : n0 ≤ h0.size) (g1 : n0 ≤ a1) (E2 : Exa Z h0 a2 "com/example/darlington/darlington/core/IntegerRange") (g3 : n0 ≤ a3) (n13 : a1 ≠ a3) (n23 : a2 ≠ a3) (V3 : Arv Z h0 a3 k3 (.object "java/lang/Object") (10 : Int32) [(.ref x0), (.ref x1), .null, .null, .null, .null, .null, .null, .null, .null] .null) (OV3 : Ovr Z k3 "java/lang/Object") (Es : Exa Z h0 a1 "java/util/ArrayList") (Fs : Fld Z h0 a1 "java/util/ArrayList" "size" "I" (.int (2 : Int32))) (Fd : Fld Z h0 a1 "java/util/ArrayList" "elementData" "[Ljava/lang/Object;" (.ref a3)) (Fm : Fld Z h0 a1 "java/util/AbstractList" "modCount" "I" (.int mc)) :
    MetFree l (⟨"java/util/ArrayList", "add", "(Ljava/lang/Object;[Ljava/lang/Object;I)V"⟩ : MethodName) (head1 (Jvm.Cond.code (⟨"java/util/ArrayList", "add", "(Ljava/lang/Object;[Ljava/lang/Object;I)V"⟩ : MethodName) jdk_38_method_24_code 4 none :: ws) ({ frames := 0, cells := 0, slots := 0, locals := 0 } : Room)) (fun a U => a = #[(.ref a1), (.ref a2), (.ref a3), (.int (2 : Int32))] ∧ Z.Warmed39 U.vm ∧ U.heap = h0) (fun _ _ _ _ _ => True) (fun _ U o U' => ∃ v L, o = .returned v ∧ Q_rm_addB2_IntegerRange Z a1 a2 a3 k3 mc x0 x1 h0 n0 v U'.heap L ∧ FrameEnd U o U' L ({ frames := 0, cells := 0, slots := 0, locals := 0 } : Room).cells ({ frames := 0, cells := 0, slots := 0, locals := 0 } : Room).slots) := by
  refine MetFree.of_bodySF (plainFor_of_name pn_2) hisR ?_
  intro p e s m args below meth c s₁ Bd hml0 hP hK
  obtain ⟨rfl, hZ, hh⟩ := hP
  have hx := Bd.exec
  have hby := Bd.bytes
  have hml : c.maxLocals = 4 := hml0
  have hown : s.vm.findClass "java/util/ArrayList" = some m.cls := findClass_of_methodNamed Bd.named
  have hnm := (name_of_methodNamed Bd.named Bd.method).1
  have X0 : Stand p l e ({ frames := 0, cells := 0, slots := 0, locals := 0 } : Room) s m #[(.ref a1), (.ref a2), (.ref a3), (.int (2 : Int32))] below meth c s₁ [] 0 0 := Stand.of_body Bd
  have e0 : s₁.heap = h0 := by rw [← hh, Bd.state]; rfl
  have N0 := Fr.nil n0
  have pre0 : ∀ t, Steps p.tables e below (s₁.setTop (mkF m 0 #[Sr a1, Sr a2, Sr a3, Si (2 : Int32)] [])) t → Steps p.tables e below (s₁.setTop (entryFrame m #[(.ref a1), (.ref a2), (.ref a3), (.int (2 : Int32))] 4)) t := fun t k => castTop (ef_rm_addB2_IntegerRange m a1 a2 a3) k
  obtain ⟨c51, Arc51, Aqc51, Asc51, Anc51, Ahc51, Agc51⟩ := id V3
  obtain ⟨c52, Arc52, Aqc52, Asc52, Anc52, Ahc52, Agc52⟩ := id V3
  have hin53 : ¬ ((2 : Int32) < 0 ∨ c52.slots.size ≤ ((2 : Int32)).toNatClampNeg) := inb_of Asc52 ⟨by decide, by decide⟩
  obtain ⟨T54, h54, X54, e54, W54, st54⟩ := stR X0 hx hZ e0 Arc52 (j := (2 : Int32)) hin53 rfl (Sto.ofV Arc52 Aqc52 OV3 (Ins.of_exa E2 (ow hw 93 rfl))) (g := (mkF m 14 #[Sr a1, Sr a2, Sr a3, Si (2 : Int32)] [(.ref a2), (.int (2 : Int32)), (.ref a3)])) rfl rfl (hb hby d12_14)
  have KC55 : Keep h0 h54 [a1, a3] := (Keep.refl h0 [a1, a3]).wr W54 (Or.inl (List.mem_of_getElem? (i := 1) rfl))
  have V54 : Arv Z h54 a3 k3 (.object "java/lang/Object") (10 : Int32) [(.ref x0), (.ref x1), (.ref a2), .null, .null, .null, .null, .null, .null, .null] .null := Arv.set Arc52 Aqc52 Asc52 Anc52 Ahc52 Agc52 rfl W54 2 rfl (Nat.le_of_ble_eq_true rfl)
  have N56 := Fr.snoc X54 N0 g3
  have F57 : Exa Z h54 a1 "java/util/ArrayList" := (Es.wr W54)
  have F58 : Fld Z h54 a1 "java/util/ArrayList" "size" "I" (.int (2 : Int32)) := (Fs.other W54 (Or.inl n13))
  obtain ⟨T59, h59, X59, e59, W59, st59⟩ := putF X54 hx hZ hown (host := "") (Or.inl (ow hw 70 rfl)) Via.refl e54 F58 F57 (Or.inl (ow hw 71 rfl)) (ow hw 14 rfl) (ty := .int) (by decide) rfl rfl (g := (mkF m 19 #[Sr a1, Sr a2, Sr a3, Si (2 : Int32)] [(.int (3 : Int32)), (.ref a1)])) rfl rfl (hb hby d12_19)
  have KC60 : Keep h0 h59 [a1, a3] := KC55.wr W59 (Or.inl (List.mem_of_getElem? (i := 0) rfl))
  have F61 : Fld Z h59 a1 "java/util/ArrayList" "size" "I" (.int (3 : Int32)) := F58.same W59
  have N62 := Fr.snoc X59 N56 g1
  have pre63 : ∀ t, Steps p.tables e below (T59.setTop (mkF m 22 #[Sr a1, Sr a2, Sr a3, Si (2 : Int32)] [])) t → Steps p.tables e below (s₁.setTop (entryFrame m #[(.ref a1), (.ref a2), (.ref a3), (.int (2 : Int32))] 4)) t := by
    intro t k
    refine pre0 t ?_
    refine XS.iloadN X0.here hx rfl (hb hby d12_0) rfl ?_
    refine XS.aloadN X0.here hx rfl (hb hby d12_1) rfl rfl ?_
    refine X0.arraylength hx (by rw [e0]; exact Arc51.1) (State.isArrayOf_alike hZ.alike Arc51.2.1) (g := (mkF m 2 #[Sr a1, Sr a2, Sr a3, Si (2 : Int32)] [(.ref a3), (.int (2 : Int32))])) rfl rfl (hb hby d12_2) _ ?_
    rw [len_of Asc51 Anc51]
    refine XS.icmpYes X0.here hx rfl (pc0 := 3) (pc' := 11) rfl (hb hby d12_3) rfl (feq (by decide)).2 (by decide) (by decide) ?_
    refine XS.aloadN X0.here hx rfl (hb hby d12_11) rfl rfl ?_
    refine XS.iloadN X0.here hx rfl (hb hby d12_12) rfl ?_
    refine XS.aloadN X0.here hx rfl (hb hby d12_13) rfl rfl ?_
    refine st54 _ ?_
    show Steps _ _ _ (T54.setTop (mkF m 15 #[Sr a1, Sr a2, Sr a3, Si (2 : Int32)] [])) _
    refine XS.aloadN X54.here hx rfl (hb hby d12_15) rfl rfl ?_
    refine XS.iloadN X54.here hx rfl (hb hby d12_16) rfl ?_
    refine XS.iconst X54.here hx rfl (hb hby d12_17) ?_
    refine XS.iadd X54.here hx rfl (hb hby d12_18) rfl ?_
    refine st59 _ ?_
    exact k
  obtain ⟨fs, hr, hrun, hended, hW, hsame⟩ := X59.leave (v := none) (fun _ => rfl)
  refine ⟨_, _, pre63 _ ?_, hrun, hended, _, _, rfl, ?_, ⟨_, rfl⟩, hW, hsame.mono (by decide) (by decide)⟩
  · exact X59.returnOut hx Bd.returns (hb hby d12_22) hr
  · show Q_rm_addB2_IntegerRange Z a1 a2 a3 k3 mc x0 x1 h0 n0 _ T59.heap _
    rw [e59]
    have F64 : Arv Z h59 a3 k3 (.object "java/lang/Object") (10 : Int32) [(.ref x0), (.ref x1), (.ref a2), .null, .null, .null, .null, .null, .null, .null] .null := (V54.other W59 (Ne.symm n13))
    have F65 : Fld Z h59 a1 "java/util/ArrayList" "elementData" "[Ljava/lang/Object;" (.ref a3) := ((Fd.other W54 (Or.inl n13)).other W59 (Or.inr (slot_ne (Or.inl (ow hw 38 rfl)) (Or.inl (ow hw 71 rfl)) (by decide) (t := (.array (.object "java/lang/Object"))) (t' := .int) (by decide) (by decide))))
    have F66 : Fld Z h59 a1 "java/util/AbstractList" "modCount" "I" (.int mc) := ((Fm.other W54 (Or.inl n13)).other W59 (Or.inr (slot_ne (Or.inl (ow hw 35 rfl)) (Or.inl (ow hw 71 rfl)) (by decide) (t := .int) (t' := .int) (by decide) (by decide))))
    exact ⟨rfl, N62, KC60, F64, F65, F61, F66⟩
theorem ef_rm_addA2_IntegerRange (m : MethodId) (x0 : Addr) (x1 : Addr) : entryFrame m #[(.ref x0), (.ref x1)] 2 = mkF m 0 #[Sr x0, Sr x1] [] := by first | (simp [entryFrame, mkF, argsToLocals, Value.category]; done) | rfl
def Q_rm_addA2_IntegerRange (Z : State) (a1 : Addr) (a2 : Addr) (a3 : Addr) (k3 : ClassId) (mc : Int32) (x0 : Addr) (x1 : Addr) (h0 : Heap) (n0 : Nat) (v : Option Value) (h : Heap) (L : List Loc) : Prop := v = some (.int (1 : Int32)) ∧ Fr n0 L ∧ Keep h0 h [a1, a3] ∧ Arv Z h a3 k3 (.object "java/lang/Object") (10 : Int32) [(.ref x0), (.ref x1), (.ref a2), .null, .null, .null, .null, .null, .null, .null] .null ∧ Fld Z h a1 "java/util/ArrayList" "elementData" "[Ljava/lang/Object;" (.ref a3) ∧ Fld Z h a1 "java/util/ArrayList" "size" "I" (.int (3 : Int32)) ∧ Fld Z h a1 "java/util/AbstractList" "modCount" "I" (.int (mc + (1 : Int32)))
set_option maxRecDepth 65536 in
set_option maxHeartbeats 40000000 in
theorem rm_addA2_IntegerRange (l : Launch) (Z : State) (a0 : Array Value) (hw : ∀ d ∈ tables_1, d.before a0 Z = true) (ws : List Jvm.Cond) (a1 : Addr) (a2 : Addr) (a3 : Addr) (k3 : ClassId) (mc : Int32) (x0 : Addr) (x1 : Addr) (h0 : Heap) (n0 : Nat) (Z0 : n0 ≤ h0.size) (Es : Exa Z h0 a1 "java/util/ArrayList") (Fs : Fld Z h0 a1 "java/util/ArrayList" "size" "I" (.int (2 : Int32))) (Fd : Fld Z h0 a1 "java/util/ArrayList" "elementData" "[Ljava/lang/Object;" (.ref a3)) (Fm : Fld Z h0 a1 "java/util/AbstractList" "modCount" "I" (.int mc)) (g1 : n0 ≤ a1) (E2 : Exa Z h0 a2 "com/example/darlington/darlington/core/IntegerRange") (g3 : n0 ≤ a3) (n13 : a1 ≠ a3) (n23 : a2 ≠ a3) (V3 : Arv Z h0 a3 k3 (.object "java/lang/Object") (10 : Int32) [(.ref x0), (.ref x1), .null, .null, .null, .null, .null, .null, .null, .null] .null) (OV3 : Ovr Z k3 "java/lang/Object") :
    MetFree l (⟨"java/util/ArrayList", "add", "(Ljava/lang/Object;)Z"⟩ : MethodName) (head1 (Jvm.Cond.code (⟨"java/util/ArrayList", "add", "(Ljava/lang/Object;)Z"⟩ : MethodName) jdk_38_method_25_code 2 (some .boolean) :: ws) ({ frames := 1, cells := 0, slots := 0, locals := 15 } : Room)) (fun a U => a = #[(.ref a1), (.ref a2)] ∧ Z.Warmed39 U.vm ∧ U.heap = h0) (fun _ _ _ _ _ => True) (fun _ U o U' => ∃ v L, o = .returned v ∧ Q_rm_addA2_IntegerRange Z a1 a2 a3 k3 mc x0 x1 h0 n0 v U'.heap L ∧ FrameEnd U o U' L ({ frames := 1, cells := 0, slots := 0, locals := 15 } : Room).cells ({ frames := 1, cells := 0, slots := 0, locals := 15 } : Room).slots) := by
  refine MetFree.of_bodySF (plainFor_of_name pn_2) hisR ?_
  intro p e s m args below meth c s₁ Bd hml0 hP hK
  obtain ⟨rfl, hZ, hh⟩ := hP
  have hx := Bd.exec
  have hby := Bd.bytes
  have hml : c.maxLocals = 2 := hml0
  have hown : s.vm.findClass "java/util/ArrayList" = some m.cls := findClass_of_methodNamed Bd.named
  have hnm := (name_of_methodNamed Bd.named Bd.method).1
  have X0 : Stand p l e ({ frames := 1, cells := 0, slots := 0, locals := 15 } : Room) s m #[(.ref a1), (.ref a2)] below meth c s₁ [] 0 0 := Stand.of_body Bd
  have e0 : s₁.heap = h0 := by rw [← hh, Bd.state]; rfl
  have N0 := Fr.nil n0
  have pre0 : ∀ t, Steps p.tables e below (s₁.setTop (mkF m 0 #[Sr a1, Sr a2] [])) t → Steps p.tables e below (s₁.setTop (entryFrame m #[(.ref a1), (.ref a2)] 2)) t := fun t k => castTop (ef_rm_addA2_IntegerRange m a1 a2) k
  obtain ⟨T51, X51, e51, st51⟩ := getF X0 hx hZ hown (host := "") (Or.inl (ow hw 68 rfl)) (Via.of (ow hw 69 rfl)) e0 Fm (g := (mkF m 2 #[Sr a1, Sr a2] [(.ref a1), (.ref a1)])) rfl rfl (hb hby d11_2)
  obtain ⟨T52, h52, X52, e52, W52, st52⟩ := putF X51 hx hZ hown (host := "") (Or.inl (ow hw 68 rfl)) (Via.of (ow hw 69 rfl)) e51 Fm Es (Or.inl (ow hw 35 rfl)) (ow hw 14 rfl) (ty := .int) (by decide) rfl rfl (g := (mkF m 7 #[Sr a1, Sr a2] [(.int (mc + (1 : Int32))), (.ref a1)])) rfl rfl (hb hby d11_7)
  have KC53 : Keep h0 h52 [a1, a3] := (Keep.refl h0 [a1, a3]).wr W52 (Or.inl (List.mem_of_getElem? (i := 0) rfl))
  have F54 : Fld Z h52 a1 "java/util/AbstractList" "modCount" "I" (.int (mc + (1 : Int32))) := Fm.same W52
  have N55 := Fr.snoc X52 N0 g1
  have F56 : Fld Z h52 a1 "java/util/ArrayList" "elementData" "[Ljava/lang/Object;" (.ref a3) := (Fd.other W52 (Or.inr (slot_ne (Or.inl (ow hw 38 rfl)) (Or.inl (ow hw 35 rfl)) (by decide) (t := (.array (.object "java/lang/Object"))) (t' := .int) (by decide) (by decide))))
  obtain ⟨T57, X57, e57, st57⟩ := getF X52 hx hZ hown (host := "") (Or.inl (ow hw 37 rfl)) Via.refl e52 F56 (g := (mkF m 13 #[Sr a1, Sr a2] [(.ref a1), (.ref a2), (.ref a1)])) rfl rfl (hb hby d11_13)
  have F58 : Fld Z h52 a1 "java/util/ArrayList" "size" "I" (.int (2 : Int32)) := (Fs.other W52 (Or.inr (slot_ne (Or.inl (ow hw 71 rfl)) (Or.inl (ow hw 35 rfl)) (by decide) (t := .int) (t' := .int) (by decide) (by decide))))
  obtain ⟨T59, X59, e59, st59⟩ := getF X57 hx hZ hown (host := "") (Or.inl (ow hw 70 rfl)) Via.refl e57 F58 (g := (mkF m 17 #[Sr a1, Sr a2] [(.ref a1), (.ref a3), (.ref a2), (.ref a1)])) rfl rfl (hb hby d11_17)
  have F60 : Exa Z h52 a2 "com/example/darlington/darlington/core/IntegerRange" := (E2.wr W52)
  have F61 : Arv Z h52 a3 k3 (.object "java/lang/Object") (10 : Int32) [(.ref x0), (.ref x1), .null, .null, .null, .null, .null, .null, .null, .null] .null := (V3.other W52 (Ne.symm n13))
  have F62 : Exa Z h52 a1 "java/util/ArrayList" := (Es.wr W52)
  obtain ⟨cq63, q63, q63'⟩ := F62.cell
  obtain ⟨_, _, ⟨T63, L63, k63, n63⟩, -, X63, ⟨Lc63, hQ63, l63, y63, z63⟩, st63⟩ := X59.privateBack hx (y := (⟨"java/util/ArrayList", "add", "(Ljava/lang/Object;[Ljava/lang/Object;I)V"⟩ : MethodName)) hown (mvT hZ (ow hw 72 rfl)) (mvT hZ (ow hw 73 rfl)) (mvT hZ (ow hw 75 rfl)) (Cond.privateMethod_at (mvP hZ (ow hw 74 rfl) (args := #[]))) (mvT hZ (ow hw 76 rfl)) (by decide) (backOf (W := 0) (rm_addB2_IntegerRange l Z a0 hw [] a1 a2 a3 k3 (mc + (1 : Int32)) x0 x1 h52 n0 (Nat.le_trans Z0 KC53.1) g1 F60 g3 n13 n23 F61 OV3 F62 F58 F56 F54) hZ (ow hw 76 rfl) (ow hw 15 rfl) (by decide) (by decide)) (g := (mkF m 20 #[Sr a1, Sr a2] [(.int (2 : Int32)), (.ref a3), (.ref a2), (.ref a1)])) rfl (by rw [hml]; rfl) (Steps.refl _) (a := a1) (by rw [e59]; exact q63) q63' (argsL := [(.ref a2), (.ref a3), (.int (2 : Int32))]) (rest := []) (lenOf pd_4 rfl) rfl (by show 2 * 0 + _ ≤ _; exact Nat.le_of_eq rfl) (hb hby d11_20) (fun _ _ => ⟨rfl, e59, (by decide : 0 + 0 ≤ _), (by decide : 0 + 0 ≤ _)⟩)
  dsimp only [Pt.U, Pt.locs, Pt.cells, Pt.slots] at X63 l63 y63 z63 st63 hQ63
  subst y63 z63
  obtain ⟨rfl, Nq63, q63_0, q63_1, q63_2, q63_3, q63_4⟩ := hQ63
  have N64 := Eq.subst (motive := fun L => Fr n0 L) l63.symm (Fr.app N55 Nq63)
  have KC65 : Keep h0 T63.heap [a1, a3] := KC53.trans q63_0 (allS (Or.inl (List.mem_of_getElem? (i := 0) rfl)) (allS (Or.inl (List.mem_of_getElem? (i := 1) rfl)) all0))
  have pre66 : ∀ t, Steps p.tables e below (T63.setTop (mkF m 24 #[Sr a1, Sr a2] [(.int (1 : Int32))])) t → Steps p.tables e below (s₁.setTop (entryFrame m #[(.ref a1), (.ref a2)] 2)) t := by
    intro t k
    refine pre0 t ?_
    refine XS.aloadN X0.here hx rfl (hb hby d11_0) rfl rfl ?_
    refine XS.dup X0.here hx rfl (hb hby d11_1) rfl rfl ?_
    refine st51 _ ?_
    refine XS.iconst X51.here hx rfl (hb hby d11_5) ?_
    refine XS.iadd X51.here hx rfl (hb hby d11_6) rfl ?_
    refine st52 _ ?_
    refine XS.aloadN X52.here hx rfl (hb hby d11_10) rfl rfl ?_
    refine XS.aloadN X52.here hx rfl (hb hby d11_11) rfl rfl ?_
    show Steps _ _ _ (T52.setTop (mkF m 12 #[Sr a1, Sr a2] [(.ref a2), (.ref a1)])) _
    refine XS.aloadN X52.here hx rfl (hb hby d11_12) rfl rfl ?_
    refine st57 _ ?_
    refine XS.aloadN X57.here hx rfl (hb hby d11_16) rfl rfl ?_
    refine st59 _ ?_
    refine st63.trans ?_
    refine XS.iconst X63.here hx rfl (hb hby d11_23) ?_
    exact k
  obtain ⟨fs, hr, hrun, hended, hW, hsame⟩ := X63.leave (v := some (.int (1 : Int32))) (fun h => by rw [Bd.returns] at h; cases h)
  refine ⟨_, _, pre66 _ ?_, hrun, hended, _, _, rfl, ?_, ⟨_, rfl⟩, hW, hsame.mono (by decide) (by decide)⟩
  · exact retN X63 hx (t := .boolean) Bd.returns (by simp) (hb hby d11_24) hr
  · show Q_rm_addA2_IntegerRange Z a1 a2 a3 k3 mc x0 x1 h0 n0 _ T63.heap _
    exact ⟨rfl, N64, KC65, q63_1, q63_2, q63_3, q63_4⟩
theorem d17_0 : decode jdk_38_method_8_code 0 = .ok (.aload_n 0, 1) := by decide +kernel
theorem d17_1 : decode jdk_38_method_8_code 1 = .ok (.getfield 48, 3) := by decide +kernel
theorem d17_4 : decode jdk_38_method_8_code 4 = .ok (.ireturn, 1) := by decide +kernel
theorem ef_rm17 (m : MethodId) (x0 : Addr) : entryFrame m #[(.ref x0)] 1 = mkF m 0 #[Sr x0] [] := by first | (simp [entryFrame, mkF, argsToLocals, Value.category]; done) | rfl
def Q_rm17 (Z : State) (a1 : Addr) (z : Int32) (h0 : Heap) (n0 : Nat) (v : Option Value) (h : Heap) (L : List Loc) : Prop := v = some (.int z) ∧ Fr n0 L ∧ h = h0
set_option maxRecDepth 65536 in
set_option maxHeartbeats 40000000 in
theorem rm17 (l : Launch) (Z : State) (a0 : Array Value) (hw : ∀ d ∈ tables_1, d.before a0 Z = true) (ws : List Jvm.Cond) (a1 : Addr) (z : Int32) (h0 : Heap) (n0 : Nat) (Z0 : n0 ≤ h0.size) (F1 : Fld Z h0 a1 "java/util/ArrayList" "size" "I" (.int z)) :
    MetFree l (⟨"java/util/ArrayList", "size", "()I"⟩ : MethodName) (head1 (Jvm.Cond.code (⟨"java/util/ArrayList", "size", "()I"⟩ : MethodName) jdk_38_method_8_code 1 (some .int) :: ws) ({ frames := 0, cells := 0, slots := 0, locals := 0 } : Room)) (fun a U => a = #[(.ref a1)] ∧ Z.Warmed39 U.vm ∧ U.heap = h0) (fun _ _ _ _ _ => True) (fun _ U o U' => ∃ v L, o = .returned v ∧ Q_rm17 Z a1 z h0 n0 v U'.heap L ∧ FrameEnd U o U' L ({ frames := 0, cells := 0, slots := 0, locals := 0 } : Room).cells ({ frames := 0, cells := 0, slots := 0, locals := 0 } : Room).slots) := by
  refine MetFree.of_bodySF (plainFor_of_name pn_2) hisR ?_
  intro p e s m args below meth c s₁ Bd hml0 hP hK
  obtain ⟨rfl, hZ, hh⟩ := hP
  have hx := Bd.exec
  have hby := Bd.bytes
  have hml : c.maxLocals = 1 := hml0
  have hown : s.vm.findClass "java/util/ArrayList" = some m.cls := findClass_of_methodNamed Bd.named
  have hnm := (name_of_methodNamed Bd.named Bd.method).1
  have X0 : Stand p l e ({ frames := 0, cells := 0, slots := 0, locals := 0 } : Room) s m #[(.ref a1)] below meth c s₁ [] 0 0 := Stand.of_body Bd
  have e0 : s₁.heap = h0 := by rw [← hh, Bd.state]; rfl
  have N0 := Fr.nil n0
  have pre0 : ∀ t, Steps p.tables e below (s₁.setTop (mkF m 0 #[Sr a1] [])) t → Steps p.tables e below (s₁.setTop (entryFrame m #[(.ref a1)] 1)) t := fun t k => castTop (ef_rm17 m a1) k
  obtain ⟨T51, X51, e51, st51⟩ := getF X0 hx hZ hown (host := "") (Or.inl (ow hw 70 rfl)) Via.refl e0 F1 (g := (mkF m 1 #[Sr a1] [(.ref a1)])) rfl rfl (hb hby d17_1)
  have pre52 : ∀ t, Steps p.tables e below (T51.setTop (mkF m 4 #[Sr a1] [(.int z)])) t → Steps p.tables e below (s₁.setTop (entryFrame m #[(.ref a1)] 1)) t := by
    intro t k
    refine pre0 t ?_
    refine XS.aloadN X0.here hx rfl (hb hby d17_0) rfl rfl ?_
    refine st51 _ ?_
    exact k
  obtain ⟨fs, hr, hrun, hended, hW, hsame⟩ := X51.leave (v := some (.int z)) (fun h => by rw [Bd.returns] at h; cases h)
  refine ⟨_, _, pre52 _ ?_, hrun, hended, _, _, rfl, ?_, ⟨_, rfl⟩, hW, hsame.mono (by decide) (by decide)⟩
  · exact retI X51 hx Bd.returns (hb hby d17_4) hr
  · show Q_rm17 Z a1 z h0 n0 _ T51.heap _
    rw [e51]
    exact ⟨rfl, N0, rfl⟩
theorem d20_0 : decode jdk_41_method_11_code 0 = .ok (.iload_n 0, 1) := by decide +kernel
theorem d20_1 : decode jdk_41_method_11_code 1 = .ok (.ifCond .lt 8, 3) := by decide +kernel
theorem d20_4 : decode jdk_41_method_11_code 4 = .ok (.iload_n 0, 1) := by decide +kernel
theorem d20_5 : decode jdk_41_method_11_code 5 = .ok (.iload_n 1, 1) := by decide +kernel
theorem d20_6 : decode jdk_41_method_11_code 6 = .ok (.if_icmp .lt 10, 3) := by decide +kernel
theorem d20_16 : decode jdk_41_method_11_code 16 = .ok (.iload_n 0, 1) := by decide +kernel
theorem d20_17 : decode jdk_41_method_11_code 17 = .ok (.ireturn, 1) := by decide +kernel
theorem pn_3 : plainName "jdk/internal/util/Preconditions" = true := by first | (simp [plainName, overriddenIn]; done) | decide +kernel
theorem ef_rm20 (m : MethodId) (x0 : Int32) (x1 : Int32) : entryFrame m #[(.int x0), (.int x1), .null] 3 = mkF m 0 #[Si x0, Si x1, Sn] [] := by first | (simp [entryFrame, mkF, argsToLocals, Value.category]; done) | rfl
def Q_rm20 (Z : State) (p1 : Int32) (p2 : Int32) (h0 : Heap) (n0 : Nat) (v : Option Value) (h : Heap) (L : List Loc) : Prop := v = some (.int p1) ∧ Fr n0 L ∧ h = h0
set_option maxRecDepth 65536 in
set_option maxHeartbeats 40000000 in
theorem rm20 (l : Launch) (Z : State) (a0 : Array Value) (hw : ∀ d ∈ tables_1, d.before a0 Z = true) (ws : List Jvm.Cond) (p1 : Int32) (p2 : Int32) (h0 : Heap) (n0 : Nat) (Z0 : n0 ≤ h0.size) (h1 : ¬ p1 < (0 : Int32)) (h2 : p1 < p2) :
    MetFree l (⟨"jdk/internal/util/Preconditions", "checkIndex", "(IILjava/util/function/BiFunction;)I"⟩ : MethodName) (head1 (Jvm.Cond.code (⟨"jdk/internal/util/Preconditions", "checkIndex", "(IILjava/util/function/BiFunction;)I"⟩ : MethodName) jdk_41_method_11_code 3 (some .int) :: ws) ({ frames := 0, cells := 0, slots := 0, locals := 0 } : Room)) (fun a U => a = #[(.int p1), (.int p2), .null] ∧ Z.Warmed39 U.vm ∧ U.heap = h0) (fun _ _ _ _ _ => True) (fun _ U o U' => ∃ v L, o = .returned v ∧ Q_rm20 Z p1 p2 h0 n0 v U'.heap L ∧ FrameEnd U o U' L ({ frames := 0, cells := 0, slots := 0, locals := 0 } : Room).cells ({ frames := 0, cells := 0, slots := 0, locals := 0 } : Room).slots) := by
  refine MetFree.of_bodySF (plainFor_of_name pn_3) hisR ?_
  intro p e s m args below meth c s₁ Bd hml0 hP hK
  obtain ⟨rfl, hZ, hh⟩ := hP
  have hx := Bd.exec
  have hby := Bd.bytes
  have hml : c.maxLocals = 3 := hml0
  have hown : s.vm.findClass "jdk/internal/util/Preconditions" = some m.cls := findClass_of_methodNamed Bd.named
  have hnm := (name_of_methodNamed Bd.named Bd.method).1
  have X0 : Stand p l e ({ frames := 0, cells := 0, slots := 0, locals := 0 } : Room) s m #[(.int p1), (.int p2), .null] below meth c s₁ [] 0 0 := Stand.of_body Bd
  have e0 : s₁.heap = h0 := by rw [← hh, Bd.state]; rfl
  have N0 := Fr.nil n0
  have pre0 : ∀ t, Steps p.tables e below (s₁.setTop (mkF m 0 #[Si p1, Si p2, Sn] [])) t → Steps p.tables e below (s₁.setTop (entryFrame m #[(.int p1), (.int p2), .null] 3)) t := fun t k => castTop (ef_rm20 m p1 p2) k
  have hc51 : ¬ (p1 < (0 : Int32)) := h1
  have hc52 : p1 < p2 := h2
  have pre53 : ∀ t, Steps p.tables e below (s₁.setTop (mkF m 17 #[Si p1, Si p2, Sn] [(.int p1)])) t → Steps p.tables e below (s₁.setTop (entryFrame m #[(.int p1), (.int p2), .null] 3)) t := by
    intro t k
    refine pre0 t ?_
    refine XS.iloadN X0.here hx rfl (hb hby d20_0) rfl ?_
    refine XS.ifNo X0.here hx rfl (hb hby d20_1) rfl ((if0 _ _).trans (flt hc51).1) ?_
    refine XS.iloadN X0.here hx rfl (hb hby d20_4) rfl ?_
    refine XS.iloadN X0.here hx rfl (hb hby d20_5) rfl ?_
    refine XS.icmpYes X0.here hx rfl (pc0 := 6) (pc' := 16) rfl (hb hby d20_6) rfl (tlt hc52).1 (by decide) (by decide) ?_
    refine XS.iloadN X0.here hx rfl (hb hby d20_16) rfl ?_
    exact k
  obtain ⟨fs, hr, hrun, hended, hW, hsame⟩ := X0.leave (v := some (.int p1)) (fun h => by rw [Bd.returns] at h; cases h)
  refine ⟨_, _, pre53 _ ?_, hrun, hended, _, _, rfl, ?_, ⟨_, rfl⟩, hW, hsame.mono (by decide) (by decide)⟩
  · exact retI X0 hx Bd.returns (hb hby d20_17) hr
  · show Q_rm20 Z p1 p2 h0 n0 _ s₁.heap _
    rw [e0]
    exact ⟨rfl, N0, rfl⟩
theorem d19_0 : decode jdk_31_method_17_code 0 = .ok (.iload_n 0, 1) := by decide +kernel
theorem d19_1 : decode jdk_31_method_17_code 1 = .ok (.iload_n 1, 1) := by decide +kernel
theorem d19_2 : decode jdk_31_method_17_code 2 = .ok (.aconst_null, 1) := by decide +kernel
theorem pd_5 : parseMethodDescriptor "(IILjava/util/function/BiFunction;)I" = some ⟨[.int, .int, (.object "java/util/function/BiFunction")], some .int⟩ := by decide +kernel
theorem d19_3 : decode jdk_31_method_17_code 3 = .ok (.invokestatic 105, 3) := by decide +kernel
theorem d19_6 : decode jdk_31_method_17_code 6 = .ok (.ireturn, 1) := by decide +kernel
theorem pn_4 : plainName "java/util/Objects" = true := by first | (simp [plainName, overriddenIn]; done) | decide +kernel
theorem ef_rm19 (m : MethodId) (x0 : Int32) (x1 : Int32) : entryFrame m #[(.int x0), (.int x1)] 2 = mkF m 0 #[Si x0, Si x1] [] := by first | (simp [entryFrame, mkF, argsToLocals, Value.category]; done) | rfl
def Q_rm19 (Z : State) (p1 : Int32) (p2 : Int32) (h0 : Heap) (n0 : Nat) (v : Option Value) (h : Heap) (L : List Loc) : Prop := v = some (.int p1) ∧ Fr n0 L ∧ h = h0
set_option maxRecDepth 65536 in
set_option maxHeartbeats 40000000 in
theorem rm19 (l : Launch) (Z : State) (a0 : Array Value) (hw : ∀ d ∈ tables_1, d.before a0 Z = true) (ws : List Jvm.Cond) (p1 : Int32) (p2 : Int32) (h0 : Heap) (n0 : Nat) (Z0 : n0 ≤ h0.size) (h1 : ¬ p1 < (0 : Int32)) (h2 : p1 < p2) :
    MetFree l (⟨"java/util/Objects", "checkIndex", "(II)I"⟩ : MethodName) (head1 (Jvm.Cond.code (⟨"java/util/Objects", "checkIndex", "(II)I"⟩ : MethodName) jdk_31_method_17_code 2 (some .int) :: ws) ({ frames := 1, cells := 0, slots := 0, locals := 14 } : Room)) (fun a U => a = #[(.int p1), (.int p2)] ∧ Z.Warmed39 U.vm ∧ U.heap = h0) (fun _ _ _ _ _ => True) (fun _ U o U' => ∃ v L, o = .returned v ∧ Q_rm19 Z p1 p2 h0 n0 v U'.heap L ∧ FrameEnd U o U' L ({ frames := 1, cells := 0, slots := 0, locals := 14 } : Room).cells ({ frames := 1, cells := 0, slots := 0, locals := 14 } : Room).slots) := by
  refine MetFree.of_bodySF (plainFor_of_name pn_4) hisR ?_
  intro p e s m args below meth c s₁ Bd hml0 hP hK
  obtain ⟨rfl, hZ, hh⟩ := hP
  have hx := Bd.exec
  have hby := Bd.bytes
  have hml : c.maxLocals = 2 := hml0
  have hown : s.vm.findClass "java/util/Objects" = some m.cls := findClass_of_methodNamed Bd.named
  have hnm := (name_of_methodNamed Bd.named Bd.method).1
  have X0 : Stand p l e ({ frames := 1, cells := 0, slots := 0, locals := 14 } : Room) s m #[(.int p1), (.int p2)] below meth c s₁ [] 0 0 := Stand.of_body Bd
  have e0 : s₁.heap = h0 := by rw [← hh, Bd.state]; rfl
  have N0 := Fr.nil n0
  have pre0 : ∀ t, Steps p.tables e below (s₁.setTop (mkF m 0 #[Si p1, Si p2] [])) t → Steps p.tables e below (s₁.setTop (entryFrame m #[(.int p1), (.int p2)] 2)) t := fun t k => castTop (ef_rm19 m p1 p2) k
  obtain ⟨_, _, ⟨T51, L51, k51, n51⟩, -, X51, ⟨Lc51, hQ51, l51, y51, z51⟩, st51⟩ := Jvm.LawKit.callS X0 hx (y := (⟨"jdk/internal/util/Preconditions", "checkIndex", "(IILjava/util/function/BiFunction;)I"⟩ : MethodName)) hown (mvT hZ (ow hw 131 rfl)) (mvT hZ (ow hw 132 rfl)) (mvT hZ (ow hw 133 rfl)) (mvT hZ (ow hw 134 rfl)) (by decide) (backOf (W := 0) (rm20 l Z a0 hw [] p1 p2 h0 n0 Z0 h1 h2) hZ (ow hw 134 rfl) (ow hw 133 rfl) (by decide) (by decide)) (g := (mkF m 3 #[Si p1, Si p2] [.null, (.int p2), (.int p1)])) rfl (by rw [hml]; rfl) (argsL := [(.int p1), (.int p2), .null]) (rest := []) (lenOf pd_5 rfl) rfl (by show 2 * 0 + _ ≤ _; exact Nat.le_of_eq rfl) (hb hby d19_3) (fun _ _ => ⟨rfl, e0, (by decide : 0 + 0 ≤ _), (by decide : 0 + 0 ≤ _)⟩)
  dsimp only [Pt.U, Pt.locs, Pt.cells, Pt.slots] at X51 l51 y51 z51 st51 hQ51
  subst y51 z51
  obtain ⟨rfl, Nq51, q51_0⟩ := hQ51
  have N52 := Eq.subst (motive := fun L => Fr n0 L) l51.symm (Fr.app N0 Nq51)
  have pre53 : ∀ t, Steps p.tables e below (T51.setTop (mkF m 6 #[Si p1, Si p2] [(.int p1)])) t → Steps p.tables e below (s₁.setTop (entryFrame m #[(.int p1), (.int p2)] 2)) t := by
    intro t k
    refine pre0 t ?_
    refine XS.iloadN X0.here hx rfl (hb hby d19_0) rfl ?_
    refine XS.iloadN X0.here hx rfl (hb hby d19_1) rfl ?_
    refine XS.aconstNull X0.here hx rfl (hb hby d19_2) ?_
    refine st51 _ ?_
    exact k
  obtain ⟨fs, hr, hrun, hended, hW, hsame⟩ := X51.leave (v := some (.int p1)) (fun h => by rw [Bd.returns] at h; cases h)
  refine ⟨_, _, pre53 _ ?_, hrun, hended, _, _, rfl, ?_, ⟨_, rfl⟩, hW, hsame.mono (by decide) (by decide)⟩
  · exact retI X51 hx Bd.returns (hb hby d19_6) hr
  · show Q_rm19 Z p1 p2 h0 n0 _ T51.heap _
    rw [q51_0]
    exact ⟨rfl, N52, rfl⟩
theorem d21_0 : decode jdk_38_method_18_code 0 = .ok (.aload_n 0, 1) := by decide +kernel
theorem d21_1 : decode jdk_38_method_18_code 1 = .ok (.getfield 9, 3) := by decide +kernel
theorem d21_4 : decode jdk_38_method_18_code 4 = .ok (.iload_n 1, 1) := by decide +kernel
theorem d21_5 : decode jdk_38_method_18_code 5 = .ok (.aaload, 1) := by decide +kernel
theorem d21_6 : decode jdk_38_method_18_code 6 = .ok (.areturn, 1) := by decide +kernel
theorem ef_rm_ed0 (m : MethodId) (x0 : Addr) : entryFrame m #[(.ref x0), (.int (0 : Int32))] 2 = mkF m 0 #[Sr x0, Si (0 : Int32)] [] := by first | (simp [entryFrame, mkF, argsToLocals, Value.category]; done) | rfl
def Q_rm_ed0 (Z : State) (a1 : Addr) (a3 : Addr) (k3 : ClassId) (x0 : Addr) (x1 : Addr) (x2 : Addr) (h0 : Heap) (n0 : Nat) (v : Option Value) (h : Heap) (L : List Loc) : Prop := v = some (.ref x0) ∧ Fr n0 L ∧ h = h0
set_option maxRecDepth 65536 in
set_option maxHeartbeats 40000000 in
theorem rm_ed0 (l : Launch) (Z : State) (a0 : Array Value) (hw : ∀ d ∈ tables_1, d.before a0 Z = true) (ws : List Jvm.Cond) (a1 : Addr) (a3 : Addr) (k3 : ClassId) (x0 : Addr) (x1 : Addr) (x2 : Addr) (h0 : Heap) (n0 : Nat) (Z0 : n0 ≤ h0.size) (Fd : Fld Z h0 a1 "java/util/ArrayList" "elementData" "[Ljava/lang/Object;" (.ref a3)) (V3 : Arv Z h0 a3 k3 (.object "java/lang/Object") (10 : Int32) [(.ref x0), (.ref x1), (.ref x2), .null, .null, .null, .null, .null, .null, .null] .null) :
    MetFree l (⟨"java/util/ArrayList", "elementData", "(I)Ljava/lang/Object;"⟩ : MethodName) (head1 (Jvm.Cond.code (⟨"java/util/ArrayList", "elementData", "(I)Ljava/lang/Object;"⟩ : MethodName) jdk_38_method_18_code 2 (some (.object "java/lang/Object")) :: ws) ({ frames := 0, cells := 0, slots := 0, locals := 0 } : Room)) (fun a U => a = #[(.ref a1), (.int (0 : Int32))] ∧ Z.Warmed39 U.vm ∧ U.heap = h0) (fun _ _ _ _ _ => True) (fun _ U o U' => ∃ v L, o = .returned v ∧ Q_rm_ed0 Z a1 a3 k3 x0 x1 x2 h0 n0 v U'.heap L ∧ FrameEnd U o U' L ({ frames := 0, cells := 0, slots := 0, locals := 0 } : Room).cells ({ frames := 0, cells := 0, slots := 0, locals := 0 } : Room).slots) := by
  refine MetFree.of_bodySF (plainFor_of_name pn_2) hisR ?_
  intro p e s m args below meth c s₁ Bd hml0 hP hK
  obtain ⟨rfl, hZ, hh⟩ := hP
  have hx := Bd.exec
  have hby := Bd.bytes
  have hml : c.maxLocals = 2 := hml0
  have hown : s.vm.findClass "java/util/ArrayList" = some m.cls := findClass_of_methodNamed Bd.named
  have hnm := (name_of_methodNamed Bd.named Bd.method).1
  have X0 : Stand p l e ({ frames := 0, cells := 0, slots := 0, locals := 0 } : Room) s m #[(.ref a1), (.int (0 : Int32))] below meth c s₁ [] 0 0 := Stand.of_body Bd
  have e0 : s₁.heap = h0 := by rw [← hh, Bd.state]; rfl
  have N0 := Fr.nil n0
  have pre0 : ∀ t, Steps p.tables e below (s₁.setTop (mkF m 0 #[Sr a1, Si (0 : Int32)] [])) t → Steps p.tables e below (s₁.setTop (entryFrame m #[(.ref a1), (.int (0 : Int32))] 2)) t := fun t k => castTop (ef_rm_ed0 m a1) k
  obtain ⟨T51, X51, e51, st51⟩ := getF X0 hx hZ hown (host := "") (Or.inl (ow hw 37 rfl)) Via.refl e0 Fd (g := (mkF m 1 #[Sr a1, Si (0 : Int32)] [(.ref a1)])) rfl rfl (hb hby d21_1)
  obtain ⟨c52, Arc52, Aqc52, Asc52, Anc52, Ahc52, Agc52⟩ := id V3
  have hin53 : ¬ ((0 : Int32) < 0 ∨ c52.slots.size ≤ ((0 : Int32)).toNatClampNeg) := inb_of Asc52 ⟨by decide, by decide⟩
  have hat54 : c52.slots[((0 : Int32)).toNatClampNeg]? = some (.ref x0) := Has.at Ahc52 hin53 rfl
  have pre55 : ∀ t, Steps p.tables e below (T51.setTop (mkF m 6 #[Sr a1, Si (0 : Int32)] [(.ref x0)])) t → Steps p.tables e below (s₁.setTop (entryFrame m #[(.ref a1), (.int (0 : Int32))] 2)) t := by
    intro t k
    refine pre0 t ?_
    refine XS.aloadN X0.here hx rfl (hb hby d21_0) rfl rfl ?_
    refine st51 _ ?_
    refine XS.iloadN X51.here hx rfl (hb hby d21_4) rfl ?_
    refine X51.aaload hx (j := (0 : Int32)) (v := (.ref x0)) (by rw [e51]; exact Arc52.1) (State.isArrayOf_alike hZ.alike Arc52.2.1) rfl Arc52.2.2 hin53 hat54 (g := (mkF m 5 #[Sr a1, Si (0 : Int32)] [(.int (0 : Int32)), (.ref a3)])) rfl rfl (hb hby d21_5) _ ?_
    exact k
  obtain ⟨fs, hr, hrun, hended, hW, hsame⟩ := X51.leave (v := some (.ref x0)) (fun h => by rw [Bd.returns] at h; cases h)
  refine ⟨_, _, pre55 _ ?_, hrun, hended, _, _, rfl, ?_, ⟨_, rfl⟩, hW, hsame.mono (by decide) (by decide)⟩
  · exact X51.areturnOut hx (w := (.ref x0)) rfl Bd.returns rfl (hb hby d21_6) hr
  · show Q_rm_ed0 Z a1 a3 k3 x0 x1 x2 h0 n0 _ T51.heap _
    rw [e51]
    exact ⟨rfl, N0, rfl⟩
theorem d18_0 : decode jdk_38_method_20_code 0 = .ok (.iload_n 1, 1) := by decide +kernel
theorem d18_1 : decode jdk_38_method_20_code 1 = .ok (.aload_n 0, 1) := by decide +kernel
theorem d18_2 : decode jdk_38_method_20_code 2 = .ok (.getfield 48, 3) := by decide +kernel
theorem d18_5 : decode jdk_38_method_20_code 5 = .ok (.invokestatic 118, 3) := by decide +kernel
theorem d18_8 : decode jdk_38_method_20_code 8 = .ok (.pop, 1) := by decide +kernel
theorem d18_9 : decode jdk_38_method_20_code 9 = .ok (.aload_n 0, 1) := by decide +kernel
theorem d18_10 : decode jdk_38_method_20_code 10 = .ok (.iload_n 1, 1) := by decide +kernel
theorem pd_6 : parseMethodDescriptor "(I)Ljava/lang/Object;" = some ⟨[.int], some (.object "java/lang/Object")⟩ := by decide +kernel
theorem d18_11 : decode jdk_38_method_20_code 11 = .ok (.invokevirtual 123, 3) := by decide +kernel
theorem d18_14 : decode jdk_38_method_20_code 14 = .ok (.areturn, 1) := by decide +kernel
theorem ef_rm_get0 (m : MethodId) (x0 : Addr) : entryFrame m #[(.ref x0), (.int (0 : Int32))] 2 = mkF m 0 #[Sr x0, Si (0 : Int32)] [] := by first | (simp [entryFrame, mkF, argsToLocals, Value.category]; done) | rfl
def Q_rm_get0 (Z : State) (a1 : Addr) (a3 : Addr) (k3 : ClassId) (x0 : Addr) (x1 : Addr) (x2 : Addr) (h0 : Heap) (n0 : Nat) (v : Option Value) (h : Heap) (L : List Loc) : Prop := v = some (.ref x0) ∧ Fr n0 L ∧ h = h0
set_option maxRecDepth 65536 in
set_option maxHeartbeats 40000000 in
theorem rm_get0 (l : Launch) (Z : State) (a0 : Array Value) (hw : ∀ d ∈ tables_1, d.before a0 Z = true) (ws : List Jvm.Cond) (a1 : Addr) (a3 : Addr) (k3 : ClassId) (x0 : Addr) (x1 : Addr) (x2 : Addr) (h0 : Heap) (n0 : Nat) (Z0 : n0 ≤ h0.size) (Es : Exa Z h0 a1 "java/util/ArrayList") (Fs : Fld Z h0 a1 "java/util/ArrayList" "size" "I" (.int (3 : Int32))) (Fd : Fld Z h0 a1 "java/util/ArrayList" "elementData" "[Ljava/lang/Object;" (.ref a3)) (V3 : Arv Z h0 a3 k3 (.object "java/lang/Object") (10 : Int32) [(.ref x0), (.ref x1), (.ref x2), .null, .null, .null, .null, .null, .null, .null] .null) :
    MetFree l (⟨"java/util/ArrayList", "get", "(I)Ljava/lang/Object;"⟩ : MethodName) (head1 (Jvm.Cond.code (⟨"java/util/ArrayList", "get", "(I)Ljava/lang/Object;"⟩ : MethodName) jdk_38_method_20_code 2 (some (.object "java/lang/Object")) :: ws) ({ frames := 2, cells := 0, slots := 0, locals := 27 } : Room)) (fun a U => a = #[(.ref a1), (.int (0 : Int32))] ∧ Z.Warmed39 U.vm ∧ U.heap = h0) (fun _ _ _ _ _ => True) (fun _ U o U' => ∃ v L, o = .returned v ∧ Q_rm_get0 Z a1 a3 k3 x0 x1 x2 h0 n0 v U'.heap L ∧ FrameEnd U o U' L ({ frames := 2, cells := 0, slots := 0, locals := 27 } : Room).cells ({ frames := 2, cells := 0, slots := 0, locals := 27 } : Room).slots) := by
  refine MetFree.of_bodySF (plainFor_of_name pn_2) hisR ?_
  intro p e s m args below meth c s₁ Bd hml0 hP hK
  obtain ⟨rfl, hZ, hh⟩ := hP
  have hx := Bd.exec
  have hby := Bd.bytes
  have hml : c.maxLocals = 2 := hml0
  have hown : s.vm.findClass "java/util/ArrayList" = some m.cls := findClass_of_methodNamed Bd.named
  have hnm := (name_of_methodNamed Bd.named Bd.method).1
  have X0 : Stand p l e ({ frames := 2, cells := 0, slots := 0, locals := 27 } : Room) s m #[(.ref a1), (.int (0 : Int32))] below meth c s₁ [] 0 0 := Stand.of_body Bd
  have e0 : s₁.heap = h0 := by rw [← hh, Bd.state]; rfl
  have N0 := Fr.nil n0
  have pre0 : ∀ t, Steps p.tables e below (s₁.setTop (mkF m 0 #[Sr a1, Si (0 : Int32)] [])) t → Steps p.tables e below (s₁.setTop (entryFrame m #[(.ref a1), (.int (0 : Int32))] 2)) t := fun t k => castTop (ef_rm_get0 m a1) k
  obtain ⟨T51, X51, e51, st51⟩ := getF X0 hx hZ hown (host := "") (Or.inl (ow hw 70 rfl)) Via.refl e0 Fs (g := (mkF m 2 #[Sr a1, Si (0 : Int32)] [(.ref a1), (.int (0 : Int32))])) rfl rfl (hb hby d18_2)
  obtain ⟨_, _, ⟨T52, L52, k52, n52⟩, -, X52, ⟨Lc52, hQ52, l52, y52, z52⟩, st52⟩ := Jvm.LawKit.callS X51 hx (y := (⟨"java/util/Objects", "checkIndex", "(II)I"⟩ : MethodName)) hown (mvT hZ (ow hw 127 rfl)) (mvT hZ (ow hw 128 rfl)) (mvT hZ (ow hw 129 rfl)) (mvT hZ (ow hw 130 rfl)) (by decide) (backOf (W := 0) (rm19 l Z a0 hw [] (0 : Int32) (3 : Int32) h0 n0 Z0 (by decide) (by decide)) hZ (ow hw 130 rfl) (ow hw 129 rfl) (by decide) (by decide)) (g := (mkF m 5 #[Sr a1, Si (0 : Int32)] [(.int (3 : Int32)), (.int (0 : Int32))])) rfl (by rw [hml]; rfl) (argsL := [(.int (0 : Int32)), (.int (3 : Int32))]) (rest := []) (lenOf pd_1 rfl) rfl (by show 2 * 0 + _ ≤ _; exact Nat.le_of_eq rfl) (hb hby d18_5) (fun _ _ => ⟨rfl, e51, (by decide : 0 + 0 ≤ _), (by decide : 0 + 0 ≤ _)⟩)
  dsimp only [Pt.U, Pt.locs, Pt.cells, Pt.slots] at X52 l52 y52 z52 st52 hQ52
  subst y52 z52
  obtain ⟨rfl, Nq52, q52_0⟩ := hQ52
  have N53 := Eq.subst (motive := fun L => Fr n0 L) l52.symm (Fr.app N0 Nq52)
  obtain ⟨cq54, kq54, q54a, q54b, q54c⟩ := isOf hZ q52_0 Es
  obtain ⟨_, _, ⟨T54, L54, k54, n54⟩, -, X54, ⟨Lc54, hQ54, l54, y54, z54⟩, st54⟩ := X52.virtualBack hx (y := (⟨"java/util/ArrayList", "elementData", "(I)Ljava/lang/Object;"⟩ : MethodName)) (z := (⟨"java/util/ArrayList", "elementData", "(I)Ljava/lang/Object;"⟩ : MethodName)) hown (mvT hZ (ow hw 135 rfl)) (mvT hZ (ow hw 136 rfl)) (notFace_of_selects (args := #[]) (mvT hZ (ow hw 138 rfl))) (mvT hZ (ow hw 138 rfl)) (mvT hZ (ow hw 137 rfl)) (by decide) (backOf (W := 0) (rm_ed0 l Z a0 hw [] a1 a3 k3 x0 x1 x2 h0 n0 Z0 Fd V3) hZ (ow hw 139 rfl) (ow hw 15 rfl) (by decide) (by decide)) q54a q54c (g := (mkF m 11 #[Sr a1, Si (0 : Int32)] [(.int (0 : Int32)), (.ref a1)])) rfl (by rw [hml]; rfl) (Steps.refl _) (argsL := [(.int (0 : Int32))]) (rest := []) (lenOf pd_6 rfl) rfl (by show 2 * 0 + _ ≤ _; exact Nat.le_of_eq rfl) (hb hby d18_11) (fun _ _ => ⟨rfl, q52_0, (by decide : 0 + 0 ≤ _), (by decide : 0 + 0 ≤ _)⟩)
  dsimp only [Pt.U, Pt.locs, Pt.cells, Pt.slots] at X54 l54 y54 z54 st54 hQ54
  subst y54 z54
  obtain ⟨rfl, Nq54, q54_0⟩ := hQ54
  have N55 := Eq.subst (motive := fun L => Fr n0 L) l54.symm (Fr.app N53 Nq54)
  have pre56 : ∀ t, Steps p.tables e below (T54.setTop (mkF m 14 #[Sr a1, Si (0 : Int32)] [(.ref x0)])) t → Steps p.tables e below (s₁.setTop (entryFrame m #[(.ref a1), (.int (0 : Int32))] 2)) t := by
    intro t k
    refine pre0 t ?_
    refine XS.iloadN X0.here hx rfl (hb hby d18_0) rfl ?_
    refine XS.aloadN X0.here hx rfl (hb hby d18_1) rfl rfl ?_
    refine st51 _ ?_
    refine st52 _ ?_
    refine XS.pop X52.here hx rfl (hb hby d18_8) rfl rfl ?_
    refine XS.aloadN X52.here hx rfl (hb hby d18_9) rfl rfl ?_
    refine XS.iloadN X52.here hx rfl (hb hby d18_10) rfl ?_
    refine st54.trans ?_
    show Steps _ _ _ (T54.setTop (mkF m 14 #[Sr a1, Si (0 : Int32)] [(.ref x0)])) _
    exact k
  obtain ⟨fs, hr, hrun, hended, hW, hsame⟩ := X54.leave (v := some (.ref x0)) (fun h => by rw [Bd.returns] at h; cases h)
  refine ⟨_, _, pre56 _ ?_, hrun, hended, _, _, rfl, ?_, ⟨_, rfl⟩, hW, hsame.mono (by decide) (by decide)⟩
  · exact X54.areturnOut hx (w := (.ref x0)) rfl Bd.returns rfl (hb hby d18_14) hr
  · show Q_rm_get0 Z a1 a3 k3 x0 x1 x2 h0 n0 _ T54.heap _
    rw [q54_0]
    exact ⟨rfl, N55, rfl⟩
theorem ef_rm_ed1 (m : MethodId) (x0 : Addr) : entryFrame m #[(.ref x0), (.int (1 : Int32))] 2 = mkF m 0 #[Sr x0, Si (1 : Int32)] [] := by first | (simp [entryFrame, mkF, argsToLocals, Value.category]; done) | rfl
def Q_rm_ed1 (Z : State) (a1 : Addr) (a3 : Addr) (k3 : ClassId) (x0 : Addr) (x1 : Addr) (x2 : Addr) (h0 : Heap) (n0 : Nat) (v : Option Value) (h : Heap) (L : List Loc) : Prop := v = some (.ref x1) ∧ Fr n0 L ∧ h = h0
set_option maxRecDepth 65536 in
set_option maxHeartbeats 40000000 in
theorem rm_ed1 (l : Launch) (Z : State) (a0 : Array Value) (hw : ∀ d ∈ tables_1, d.before a0 Z = true) (ws : List Jvm.Cond) (a1 : Addr) (a3 : Addr) (k3 : ClassId) (x0 : Addr) (x1 : Addr) (x2 : Addr) (h0 : Heap) (n0 : Nat) (Z0 : n0 ≤ h0.size) (Fd : Fld Z h0 a1 "java/util/ArrayList" "elementData" "[Ljava/lang/Object;" (.ref a3)) (V3 : Arv Z h0 a3 k3 (.object "java/lang/Object") (10 : Int32) [(.ref x0), (.ref x1), (.ref x2), .null, .null, .null, .null, .null, .null, .null] .null) :
    MetFree l (⟨"java/util/ArrayList", "elementData", "(I)Ljava/lang/Object;"⟩ : MethodName) (head1 (Jvm.Cond.code (⟨"java/util/ArrayList", "elementData", "(I)Ljava/lang/Object;"⟩ : MethodName) jdk_38_method_18_code 2 (some (.object "java/lang/Object")) :: ws) ({ frames := 0, cells := 0, slots := 0, locals := 0 } : Room)) (fun a U => a = #[(.ref a1), (.int (1 : Int32))] ∧ Z.Warmed39 U.vm ∧ U.heap = h0) (fun _ _ _ _ _ => True) (fun _ U o U' => ∃ v L, o = .returned v ∧ Q_rm_ed1 Z a1 a3 k3 x0 x1 x2 h0 n0 v U'.heap L ∧ FrameEnd U o U' L ({ frames := 0, cells := 0, slots := 0, locals := 0 } : Room).cells ({ frames := 0, cells := 0, slots := 0, locals := 0 } : Room).slots) := by
  refine MetFree.of_bodySF (plainFor_of_name pn_2) hisR ?_
  intro p e s m args below meth c s₁ Bd hml0 hP hK
  obtain ⟨rfl, hZ, hh⟩ := hP
  have hx := Bd.exec
  have hby := Bd.bytes
  have hml : c.maxLocals = 2 := hml0
  have hown : s.vm.findClass "java/util/ArrayList" = some m.cls := findClass_of_methodNamed Bd.named
  have hnm := (name_of_methodNamed Bd.named Bd.method).1
  have X0 : Stand p l e ({ frames := 0, cells := 0, slots := 0, locals := 0 } : Room) s m #[(.ref a1), (.int (1 : Int32))] below meth c s₁ [] 0 0 := Stand.of_body Bd
  have e0 : s₁.heap = h0 := by rw [← hh, Bd.state]; rfl
  have N0 := Fr.nil n0
  have pre0 : ∀ t, Steps p.tables e below (s₁.setTop (mkF m 0 #[Sr a1, Si (1 : Int32)] [])) t → Steps p.tables e below (s₁.setTop (entryFrame m #[(.ref a1), (.int (1 : Int32))] 2)) t := fun t k => castTop (ef_rm_ed1 m a1) k
  obtain ⟨T51, X51, e51, st51⟩ := getF X0 hx hZ hown (host := "") (Or.inl (ow hw 37 rfl)) Via.refl e0 Fd (g := (mkF m 1 #[Sr a1, Si (1 : Int32)] [(.ref a1)])) rfl rfl (hb hby d21_1)
  obtain ⟨c52, Arc52, Aqc52, Asc52, Anc52, Ahc52, Agc52⟩ := id V3
  have hin53 : ¬ ((1 : Int32) < 0 ∨ c52.slots.size ≤ ((1 : Int32)).toNatClampNeg) := inb_of Asc52 ⟨by decide, by decide⟩
  have hat54 : c52.slots[((1 : Int32)).toNatClampNeg]? = some (.ref x1) := Has.at Ahc52 hin53 rfl
  have pre55 : ∀ t, Steps p.tables e below (T51.setTop (mkF m 6 #[Sr a1, Si (1 : Int32)] [(.ref x1)])) t → Steps p.tables e below (s₁.setTop (entryFrame m #[(.ref a1), (.int (1 : Int32))] 2)) t := by
    intro t k
    refine pre0 t ?_
    refine XS.aloadN X0.here hx rfl (hb hby d21_0) rfl rfl ?_
    refine st51 _ ?_
    refine XS.iloadN X51.here hx rfl (hb hby d21_4) rfl ?_
    refine X51.aaload hx (j := (1 : Int32)) (v := (.ref x1)) (by rw [e51]; exact Arc52.1) (State.isArrayOf_alike hZ.alike Arc52.2.1) rfl Arc52.2.2 hin53 hat54 (g := (mkF m 5 #[Sr a1, Si (1 : Int32)] [(.int (1 : Int32)), (.ref a3)])) rfl rfl (hb hby d21_5) _ ?_
    exact k
  obtain ⟨fs, hr, hrun, hended, hW, hsame⟩ := X51.leave (v := some (.ref x1)) (fun h => by rw [Bd.returns] at h; cases h)
  refine ⟨_, _, pre55 _ ?_, hrun, hended, _, _, rfl, ?_, ⟨_, rfl⟩, hW, hsame.mono (by decide) (by decide)⟩
  · exact X51.areturnOut hx (w := (.ref x1)) rfl Bd.returns rfl (hb hby d21_6) hr
  · show Q_rm_ed1 Z a1 a3 k3 x0 x1 x2 h0 n0 _ T51.heap _
    rw [e51]
    exact ⟨rfl, N0, rfl⟩
theorem ef_rm_get1 (m : MethodId) (x0 : Addr) : entryFrame m #[(.ref x0), (.int (1 : Int32))] 2 = mkF m 0 #[Sr x0, Si (1 : Int32)] [] := by first | (simp [entryFrame, mkF, argsToLocals, Value.category]; done) | rfl
def Q_rm_get1 (Z : State) (a1 : Addr) (a3 : Addr) (k3 : ClassId) (x0 : Addr) (x1 : Addr) (x2 : Addr) (h0 : Heap) (n0 : Nat) (v : Option Value) (h : Heap) (L : List Loc) : Prop := v = some (.ref x1) ∧ Fr n0 L ∧ h = h0
set_option maxRecDepth 65536 in
set_option maxHeartbeats 40000000 in
theorem rm_get1 (l : Launch) (Z : State) (a0 : Array Value) (hw : ∀ d ∈ tables_1, d.before a0 Z = true) (ws : List Jvm.Cond) (a1 : Addr) (a3 : Addr) (k3 : ClassId) (x0 : Addr) (x1 : Addr) (x2 : Addr) (h0 : Heap) (n0 : Nat) (Z0 : n0 ≤ h0.size) (Es : Exa Z h0 a1 "java/util/ArrayList") (Fs : Fld Z h0 a1 "java/util/ArrayList" "size" "I" (.int (3 : Int32))) (Fd : Fld Z h0 a1 "java/util/ArrayList" "elementData" "[Ljava/lang/Object;" (.ref a3)) (V3 : Arv Z h0 a3 k3 (.object "java/lang/Object") (10 : Int32) [(.ref x0), (.ref x1), (.ref x2), .null, .null, .null, .null, .null, .null, .null] .null) :
    MetFree l (⟨"java/util/ArrayList", "get", "(I)Ljava/lang/Object;"⟩ : MethodName) (head1 (Jvm.Cond.code (⟨"java/util/ArrayList", "get", "(I)Ljava/lang/Object;"⟩ : MethodName) jdk_38_method_20_code 2 (some (.object "java/lang/Object")) :: ws) ({ frames := 2, cells := 0, slots := 0, locals := 27 } : Room)) (fun a U => a = #[(.ref a1), (.int (1 : Int32))] ∧ Z.Warmed39 U.vm ∧ U.heap = h0) (fun _ _ _ _ _ => True) (fun _ U o U' => ∃ v L, o = .returned v ∧ Q_rm_get1 Z a1 a3 k3 x0 x1 x2 h0 n0 v U'.heap L ∧ FrameEnd U o U' L ({ frames := 2, cells := 0, slots := 0, locals := 27 } : Room).cells ({ frames := 2, cells := 0, slots := 0, locals := 27 } : Room).slots) := by
  refine MetFree.of_bodySF (plainFor_of_name pn_2) hisR ?_
  intro p e s m args below meth c s₁ Bd hml0 hP hK
  obtain ⟨rfl, hZ, hh⟩ := hP
  have hx := Bd.exec
  have hby := Bd.bytes
  have hml : c.maxLocals = 2 := hml0
  have hown : s.vm.findClass "java/util/ArrayList" = some m.cls := findClass_of_methodNamed Bd.named
  have hnm := (name_of_methodNamed Bd.named Bd.method).1
  have X0 : Stand p l e ({ frames := 2, cells := 0, slots := 0, locals := 27 } : Room) s m #[(.ref a1), (.int (1 : Int32))] below meth c s₁ [] 0 0 := Stand.of_body Bd
  have e0 : s₁.heap = h0 := by rw [← hh, Bd.state]; rfl
  have N0 := Fr.nil n0
  have pre0 : ∀ t, Steps p.tables e below (s₁.setTop (mkF m 0 #[Sr a1, Si (1 : Int32)] [])) t → Steps p.tables e below (s₁.setTop (entryFrame m #[(.ref a1), (.int (1 : Int32))] 2)) t := fun t k => castTop (ef_rm_get1 m a1) k
  obtain ⟨T51, X51, e51, st51⟩ := getF X0 hx hZ hown (host := "") (Or.inl (ow hw 70 rfl)) Via.refl e0 Fs (g := (mkF m 2 #[Sr a1, Si (1 : Int32)] [(.ref a1), (.int (1 : Int32))])) rfl rfl (hb hby d18_2)
  obtain ⟨_, _, ⟨T52, L52, k52, n52⟩, -, X52, ⟨Lc52, hQ52, l52, y52, z52⟩, st52⟩ := Jvm.LawKit.callS X51 hx (y := (⟨"java/util/Objects", "checkIndex", "(II)I"⟩ : MethodName)) hown (mvT hZ (ow hw 127 rfl)) (mvT hZ (ow hw 128 rfl)) (mvT hZ (ow hw 129 rfl)) (mvT hZ (ow hw 130 rfl)) (by decide) (backOf (W := 0) (rm19 l Z a0 hw [] (1 : Int32) (3 : Int32) h0 n0 Z0 (by decide) (by decide)) hZ (ow hw 130 rfl) (ow hw 129 rfl) (by decide) (by decide)) (g := (mkF m 5 #[Sr a1, Si (1 : Int32)] [(.int (3 : Int32)), (.int (1 : Int32))])) rfl (by rw [hml]; rfl) (argsL := [(.int (1 : Int32)), (.int (3 : Int32))]) (rest := []) (lenOf pd_1 rfl) rfl (by show 2 * 0 + _ ≤ _; exact Nat.le_of_eq rfl) (hb hby d18_5) (fun _ _ => ⟨rfl, e51, (by decide : 0 + 0 ≤ _), (by decide : 0 + 0 ≤ _)⟩)
  dsimp only [Pt.U, Pt.locs, Pt.cells, Pt.slots] at X52 l52 y52 z52 st52 hQ52
  subst y52 z52
  obtain ⟨rfl, Nq52, q52_0⟩ := hQ52
  have N53 := Eq.subst (motive := fun L => Fr n0 L) l52.symm (Fr.app N0 Nq52)
  obtain ⟨cq54, kq54, q54a, q54b, q54c⟩ := isOf hZ q52_0 Es
  obtain ⟨_, _, ⟨T54, L54, k54, n54⟩, -, X54, ⟨Lc54, hQ54, l54, y54, z54⟩, st54⟩ := X52.virtualBack hx (y := (⟨"java/util/ArrayList", "elementData", "(I)Ljava/lang/Object;"⟩ : MethodName)) (z := (⟨"java/util/ArrayList", "elementData", "(I)Ljava/lang/Object;"⟩ : MethodName)) hown (mvT hZ (ow hw 135 rfl)) (mvT hZ (ow hw 136 rfl)) (notFace_of_selects (args := #[]) (mvT hZ (ow hw 138 rfl))) (mvT hZ (ow hw 138 rfl)) (mvT hZ (ow hw 137 rfl)) (by decide) (backOf (W := 0) (rm_ed1 l Z a0 hw [] a1 a3 k3 x0 x1 x2 h0 n0 Z0 Fd V3) hZ (ow hw 139 rfl) (ow hw 15 rfl) (by decide) (by decide)) q54a q54c (g := (mkF m 11 #[Sr a1, Si (1 : Int32)] [(.int (1 : Int32)), (.ref a1)])) rfl (by rw [hml]; rfl) (Steps.refl _) (argsL := [(.int (1 : Int32))]) (rest := []) (lenOf pd_6 rfl) rfl (by show 2 * 0 + _ ≤ _; exact Nat.le_of_eq rfl) (hb hby d18_11) (fun _ _ => ⟨rfl, q52_0, (by decide : 0 + 0 ≤ _), (by decide : 0 + 0 ≤ _)⟩)
  dsimp only [Pt.U, Pt.locs, Pt.cells, Pt.slots] at X54 l54 y54 z54 st54 hQ54
  subst y54 z54
  obtain ⟨rfl, Nq54, q54_0⟩ := hQ54
  have N55 := Eq.subst (motive := fun L => Fr n0 L) l54.symm (Fr.app N53 Nq54)
  have pre56 : ∀ t, Steps p.tables e below (T54.setTop (mkF m 14 #[Sr a1, Si (1 : Int32)] [(.ref x1)])) t → Steps p.tables e below (s₁.setTop (entryFrame m #[(.ref a1), (.int (1 : Int32))] 2)) t := by
    intro t k
    refine pre0 t ?_
    refine XS.iloadN X0.here hx rfl (hb hby d18_0) rfl ?_
    refine XS.aloadN X0.here hx rfl (hb hby d18_1) rfl rfl ?_
    refine st51 _ ?_
    refine st52 _ ?_
    refine XS.pop X52.here hx rfl (hb hby d18_8) rfl rfl ?_
    refine XS.aloadN X52.here hx rfl (hb hby d18_9) rfl rfl ?_
    refine XS.iloadN X52.here hx rfl (hb hby d18_10) rfl ?_
    refine st54.trans ?_
    show Steps _ _ _ (T54.setTop (mkF m 14 #[Sr a1, Si (1 : Int32)] [(.ref x1)])) _
    exact k
  obtain ⟨fs, hr, hrun, hended, hW, hsame⟩ := X54.leave (v := some (.ref x1)) (fun h => by rw [Bd.returns] at h; cases h)
  refine ⟨_, _, pre56 _ ?_, hrun, hended, _, _, rfl, ?_, ⟨_, rfl⟩, hW, hsame.mono (by decide) (by decide)⟩
  · exact X54.areturnOut hx (w := (.ref x1)) rfl Bd.returns rfl (hb hby d18_14) hr
  · show Q_rm_get1 Z a1 a3 k3 x0 x1 x2 h0 n0 _ T54.heap _
    rw [q54_0]
    exact ⟨rfl, N55, rfl⟩
theorem ef_rm_ed2 (m : MethodId) (x0 : Addr) : entryFrame m #[(.ref x0), (.int (2 : Int32))] 2 = mkF m 0 #[Sr x0, Si (2 : Int32)] [] := by first | (simp [entryFrame, mkF, argsToLocals, Value.category]; done) | rfl
def Q_rm_ed2 (Z : State) (a1 : Addr) (a3 : Addr) (k3 : ClassId) (x0 : Addr) (x1 : Addr) (x2 : Addr) (h0 : Heap) (n0 : Nat) (v : Option Value) (h : Heap) (L : List Loc) : Prop := v = some (.ref x2) ∧ Fr n0 L ∧ h = h0
set_option maxRecDepth 65536 in
set_option maxHeartbeats 40000000 in
theorem rm_ed2 (l : Launch) (Z : State) (a0 : Array Value) (hw : ∀ d ∈ tables_1, d.before a0 Z = true) (ws : List Jvm.Cond) (a1 : Addr) (a3 : Addr) (k3 : ClassId) (x0 : Addr) (x1 : Addr) (x2 : Addr) (h0 : Heap) (n0 : Nat) (Z0 : n0 ≤ h0.size) (Fd : Fld Z h0 a1 "java/util/ArrayList" "elementData" "[Ljava/lang/Object;" (.ref a3)) (V3 : Arv Z h0 a3 k3 (.object "java/lang/Object") (10 : Int32) [(.ref x0), (.ref x1), (.ref x2), .null, .null, .null, .null, .null, .null, .null] .null) :
    MetFree l (⟨"java/util/ArrayList", "elementData", "(I)Ljava/lang/Object;"⟩ : MethodName) (head1 (Jvm.Cond.code (⟨"java/util/ArrayList", "elementData", "(I)Ljava/lang/Object;"⟩ : MethodName) jdk_38_method_18_code 2 (some (.object "java/lang/Object")) :: ws) ({ frames := 0, cells := 0, slots := 0, locals := 0 } : Room)) (fun a U => a = #[(.ref a1), (.int (2 : Int32))] ∧ Z.Warmed39 U.vm ∧ U.heap = h0) (fun _ _ _ _ _ => True) (fun _ U o U' => ∃ v L, o = .returned v ∧ Q_rm_ed2 Z a1 a3 k3 x0 x1 x2 h0 n0 v U'.heap L ∧ FrameEnd U o U' L ({ frames := 0, cells := 0, slots := 0, locals := 0 } : Room).cells ({ frames := 0, cells := 0, slots := 0, locals := 0 } : Room).slots) := by
  refine MetFree.of_bodySF (plainFor_of_name pn_2) hisR ?_
  intro p e s m args below meth c s₁ Bd hml0 hP hK
  obtain ⟨rfl, hZ, hh⟩ := hP
  have hx := Bd.exec
  have hby := Bd.bytes
  have hml : c.maxLocals = 2 := hml0
  have hown : s.vm.findClass "java/util/ArrayList" = some m.cls := findClass_of_methodNamed Bd.named
  have hnm := (name_of_methodNamed Bd.named Bd.method).1
  have X0 : Stand p l e ({ frames := 0, cells := 0, slots := 0, locals := 0 } : Room) s m #[(.ref a1), (.int (2 : Int32))] below meth c s₁ [] 0 0 := Stand.of_body Bd
  have e0 : s₁.heap = h0 := by rw [← hh, Bd.state]; rfl
  have N0 := Fr.nil n0
  have pre0 : ∀ t, Steps p.tables e below (s₁.setTop (mkF m 0 #[Sr a1, Si (2 : Int32)] [])) t → Steps p.tables e below (s₁.setTop (entryFrame m #[(.ref a1), (.int (2 : Int32))] 2)) t := fun t k => castTop (ef_rm_ed2 m a1) k
  obtain ⟨T51, X51, e51, st51⟩ := getF X0 hx hZ hown (host := "") (Or.inl (ow hw 37 rfl)) Via.refl e0 Fd (g := (mkF m 1 #[Sr a1, Si (2 : Int32)] [(.ref a1)])) rfl rfl (hb hby d21_1)
  obtain ⟨c52, Arc52, Aqc52, Asc52, Anc52, Ahc52, Agc52⟩ := id V3
  have hin53 : ¬ ((2 : Int32) < 0 ∨ c52.slots.size ≤ ((2 : Int32)).toNatClampNeg) := inb_of Asc52 ⟨by decide, by decide⟩
  have hat54 : c52.slots[((2 : Int32)).toNatClampNeg]? = some (.ref x2) := Has.at Ahc52 hin53 rfl
  have pre55 : ∀ t, Steps p.tables e below (T51.setTop (mkF m 6 #[Sr a1, Si (2 : Int32)] [(.ref x2)])) t → Steps p.tables e below (s₁.setTop (entryFrame m #[(.ref a1), (.int (2 : Int32))] 2)) t := by
    intro t k
    refine pre0 t ?_
    refine XS.aloadN X0.here hx rfl (hb hby d21_0) rfl rfl ?_
    refine st51 _ ?_
    refine XS.iloadN X51.here hx rfl (hb hby d21_4) rfl ?_
    refine X51.aaload hx (j := (2 : Int32)) (v := (.ref x2)) (by rw [e51]; exact Arc52.1) (State.isArrayOf_alike hZ.alike Arc52.2.1) rfl Arc52.2.2 hin53 hat54 (g := (mkF m 5 #[Sr a1, Si (2 : Int32)] [(.int (2 : Int32)), (.ref a3)])) rfl rfl (hb hby d21_5) _ ?_
    exact k
  obtain ⟨fs, hr, hrun, hended, hW, hsame⟩ := X51.leave (v := some (.ref x2)) (fun h => by rw [Bd.returns] at h; cases h)
  refine ⟨_, _, pre55 _ ?_, hrun, hended, _, _, rfl, ?_, ⟨_, rfl⟩, hW, hsame.mono (by decide) (by decide)⟩
  · exact X51.areturnOut hx (w := (.ref x2)) rfl Bd.returns rfl (hb hby d21_6) hr
  · show Q_rm_ed2 Z a1 a3 k3 x0 x1 x2 h0 n0 _ T51.heap _
    rw [e51]
    exact ⟨rfl, N0, rfl⟩
theorem ef_rm_get2 (m : MethodId) (x0 : Addr) : entryFrame m #[(.ref x0), (.int (2 : Int32))] 2 = mkF m 0 #[Sr x0, Si (2 : Int32)] [] := by first | (simp [entryFrame, mkF, argsToLocals, Value.category]; done) | rfl
def Q_rm_get2 (Z : State) (a1 : Addr) (a3 : Addr) (k3 : ClassId) (x0 : Addr) (x1 : Addr) (x2 : Addr) (h0 : Heap) (n0 : Nat) (v : Option Value) (h : Heap) (L : List Loc) : Prop := v = some (.ref x2) ∧ Fr n0 L ∧ h = h0
set_option maxRecDepth 65536 in
set_option maxHeartbeats 40000000 in
theorem rm_get2 (l : Launch) (Z : State) (a0 : Array Value) (hw : ∀ d ∈ tables_1, d.before a0 Z = true) (ws : List Jvm.Cond) (a1 : Addr) (a3 : Addr) (k3 : ClassId) (x0 : Addr) (x1 : Addr) (x2 : Addr) (h0 : Heap) (n0 : Nat) (Z0 : n0 ≤ h0.size) (Es : Exa Z h0 a1 "java/util/ArrayList") (Fs : Fld Z h0 a1 "java/util/ArrayList" "size" "I" (.int (3 : Int32))) (Fd : Fld Z h0 a1 "java/util/ArrayList" "elementData" "[Ljava/lang/Object;" (.ref a3)) (V3 : Arv Z h0 a3 k3 (.object "java/lang/Object") (10 : Int32) [(.ref x0), (.ref x1), (.ref x2), .null, .null, .null, .null, .null, .null, .null] .null) :
    MetFree l (⟨"java/util/ArrayList", "get", "(I)Ljava/lang/Object;"⟩ : MethodName) (head1 (Jvm.Cond.code (⟨"java/util/ArrayList", "get", "(I)Ljava/lang/Object;"⟩ : MethodName) jdk_38_method_20_code 2 (some (.object "java/lang/Object")) :: ws) ({ frames := 2, cells := 0, slots := 0, locals := 27 } : Room)) (fun a U => a = #[(.ref a1), (.int (2 : Int32))] ∧ Z.Warmed39 U.vm ∧ U.heap = h0) (fun _ _ _ _ _ => True) (fun _ U o U' => ∃ v L, o = .returned v ∧ Q_rm_get2 Z a1 a3 k3 x0 x1 x2 h0 n0 v U'.heap L ∧ FrameEnd U o U' L ({ frames := 2, cells := 0, slots := 0, locals := 27 } : Room).cells ({ frames := 2, cells := 0, slots := 0, locals := 27 } : Room).slots) := by
  refine MetFree.of_bodySF (plainFor_of_name pn_2) hisR ?_
  intro p e s m args below meth c s₁ Bd hml0 hP hK
  obtain ⟨rfl, hZ, hh⟩ := hP
  have hx := Bd.exec
  have hby := Bd.bytes
  have hml : c.maxLocals = 2 := hml0
  have hown : s.vm.findClass "java/util/ArrayList" = some m.cls := findClass_of_methodNamed Bd.named
  have hnm := (name_of_methodNamed Bd.named Bd.method).1
  have X0 : Stand p l e ({ frames := 2, cells := 0, slots := 0, locals := 27 } : Room) s m #[(.ref a1), (.int (2 : Int32))] below meth c s₁ [] 0 0 := Stand.of_body Bd
  have e0 : s₁.heap = h0 := by rw [← hh, Bd.state]; rfl
  have N0 := Fr.nil n0
  have pre0 : ∀ t, Steps p.tables e below (s₁.setTop (mkF m 0 #[Sr a1, Si (2 : Int32)] [])) t → Steps p.tables e below (s₁.setTop (entryFrame m #[(.ref a1), (.int (2 : Int32))] 2)) t := fun t k => castTop (ef_rm_get2 m a1) k
  obtain ⟨T51, X51, e51, st51⟩ := getF X0 hx hZ hown (host := "") (Or.inl (ow hw 70 rfl)) Via.refl e0 Fs (g := (mkF m 2 #[Sr a1, Si (2 : Int32)] [(.ref a1), (.int (2 : Int32))])) rfl rfl (hb hby d18_2)
  obtain ⟨_, _, ⟨T52, L52, k52, n52⟩, -, X52, ⟨Lc52, hQ52, l52, y52, z52⟩, st52⟩ := Jvm.LawKit.callS X51 hx (y := (⟨"java/util/Objects", "checkIndex", "(II)I"⟩ : MethodName)) hown (mvT hZ (ow hw 127 rfl)) (mvT hZ (ow hw 128 rfl)) (mvT hZ (ow hw 129 rfl)) (mvT hZ (ow hw 130 rfl)) (by decide) (backOf (W := 0) (rm19 l Z a0 hw [] (2 : Int32) (3 : Int32) h0 n0 Z0 (by decide) (by decide)) hZ (ow hw 130 rfl) (ow hw 129 rfl) (by decide) (by decide)) (g := (mkF m 5 #[Sr a1, Si (2 : Int32)] [(.int (3 : Int32)), (.int (2 : Int32))])) rfl (by rw [hml]; rfl) (argsL := [(.int (2 : Int32)), (.int (3 : Int32))]) (rest := []) (lenOf pd_1 rfl) rfl (by show 2 * 0 + _ ≤ _; exact Nat.le_of_eq rfl) (hb hby d18_5) (fun _ _ => ⟨rfl, e51, (by decide : 0 + 0 ≤ _), (by decide : 0 + 0 ≤ _)⟩)
  dsimp only [Pt.U, Pt.locs, Pt.cells, Pt.slots] at X52 l52 y52 z52 st52 hQ52
  subst y52 z52
  obtain ⟨rfl, Nq52, q52_0⟩ := hQ52
  have N53 := Eq.subst (motive := fun L => Fr n0 L) l52.symm (Fr.app N0 Nq52)
  obtain ⟨cq54, kq54, q54a, q54b, q54c⟩ := isOf hZ q52_0 Es
  obtain ⟨_, _, ⟨T54, L54, k54, n54⟩, -, X54, ⟨Lc54, hQ54, l54, y54, z54⟩, st54⟩ := X52.virtualBack hx (y := (⟨"java/util/ArrayList", "elementData", "(I)Ljava/lang/Object;"⟩ : MethodName)) (z := (⟨"java/util/ArrayList", "elementData", "(I)Ljava/lang/Object;"⟩ : MethodName)) hown (mvT hZ (ow hw 135 rfl)) (mvT hZ (ow hw 136 rfl)) (notFace_of_selects (args := #[]) (mvT hZ (ow hw 138 rfl))) (mvT hZ (ow hw 138 rfl)) (mvT hZ (ow hw 137 rfl)) (by decide) (backOf (W := 0) (rm_ed2 l Z a0 hw [] a1 a3 k3 x0 x1 x2 h0 n0 Z0 Fd V3) hZ (ow hw 139 rfl) (ow hw 15 rfl) (by decide) (by decide)) q54a q54c (g := (mkF m 11 #[Sr a1, Si (2 : Int32)] [(.int (2 : Int32)), (.ref a1)])) rfl (by rw [hml]; rfl) (Steps.refl _) (argsL := [(.int (2 : Int32))]) (rest := []) (lenOf pd_6 rfl) rfl (by show 2 * 0 + _ ≤ _; exact Nat.le_of_eq rfl) (hb hby d18_11) (fun _ _ => ⟨rfl, q52_0, (by decide : 0 + 0 ≤ _), (by decide : 0 + 0 ≤ _)⟩)
  dsimp only [Pt.U, Pt.locs, Pt.cells, Pt.slots] at X54 l54 y54 z54 st54 hQ54
  subst y54 z54
  obtain ⟨rfl, Nq54, q54_0⟩ := hQ54
  have N55 := Eq.subst (motive := fun L => Fr n0 L) l54.symm (Fr.app N53 Nq54)
  have pre56 : ∀ t, Steps p.tables e below (T54.setTop (mkF m 14 #[Sr a1, Si (2 : Int32)] [(.ref x2)])) t → Steps p.tables e below (s₁.setTop (entryFrame m #[(.ref a1), (.int (2 : Int32))] 2)) t := by
    intro t k
    refine pre0 t ?_
    refine XS.iloadN X0.here hx rfl (hb hby d18_0) rfl ?_
    refine XS.aloadN X0.here hx rfl (hb hby d18_1) rfl rfl ?_
    refine st51 _ ?_
    refine st52 _ ?_
    refine XS.pop X52.here hx rfl (hb hby d18_8) rfl rfl ?_
    refine XS.aloadN X52.here hx rfl (hb hby d18_9) rfl rfl ?_
    refine XS.iloadN X52.here hx rfl (hb hby d18_10) rfl ?_
    refine st54.trans ?_
    show Steps _ _ _ (T54.setTop (mkF m 14 #[Sr a1, Si (2 : Int32)] [(.ref x2)])) _
    exact k
  obtain ⟨fs, hr, hrun, hended, hW, hsame⟩ := X54.leave (v := some (.ref x2)) (fun h => by rw [Bd.returns] at h; cases h)
  refine ⟨_, _, pre56 _ ?_, hrun, hended, _, _, rfl, ?_, ⟨_, rfl⟩, hW, hsame.mono (by decide) (by decide)⟩
  · exact X54.areturnOut hx (w := (.ref x2)) rfl Bd.returns rfl (hb hby d18_14) hr
  · show Q_rm_get2 Z a1 a3 k3 x0 x1 x2 h0 n0 _ T54.heap _
    rw [q54_0]
    exact ⟨rfl, N55, rfl⟩
theorem d10_0 : decode prog_45_method_1_code 0 = .ok (.aload_n 0, 1) := by decide +kernel
theorem d10_1 : decode prog_45_method_1_code 1 = .ok (.invokespecial 1, 3) := by decide +kernel
theorem d10_4 : decode prog_45_method_1_code 4 = .ok (.aload_n 0, 1) := by decide +kernel
theorem d10_5 : decode prog_45_method_1_code 5 = .ok (.iload_n 1, 1) := by decide +kernel
theorem d10_6 : decode prog_45_method_1_code 6 = .ok (.putfield 7, 3) := by decide +kernel
theorem d10_9 : decode prog_45_method_1_code 9 = .ok (.aload_n 0, 1) := by decide +kernel
theorem d10_10 : decode prog_45_method_1_code 10 = .ok (.iload_n 2, 1) := by decide +kernel
theorem d10_11 : decode prog_45_method_1_code 11 = .ok (.putfield 13, 3) := by decide +kernel
theorem d10_14 : decode prog_45_method_1_code 14 = .ok (.return_, 1) := by decide +kernel
theorem pn_5 : plainName "com/example/darlington/darlington/core/FiniteType" = true := by first | (simp [plainName, overriddenIn]; done) | decide +kernel
theorem ef_rm10 (m : MethodId) (x0 : Addr) (x1 : Int32) (x2 : Int32) : entryFrame m #[(.ref x0), (.int x1), (.int x2)] 3 = mkF m 0 #[Sr x0, Si x1, Si x2] [] := by first | (simp [entryFrame, mkF, argsToLocals, Value.category]; done) | rfl
def Q_rm10 (Z : State) (a1 : Addr) (p2 : Int32) (p3 : Int32) (u1 : Int32) (u2 : Int32) (h0 : Heap) (n0 : Nat) (v : Option Value) (h : Heap) (L : List Loc) : Prop := v = none ∧ Fr n0 L ∧ Keep h0 h [a1] ∧ Fld Z h a1 "com/example/darlington/darlington/core/FiniteType" "first" "I" (.int p2) ∧ Fld Z h a1 "com/example/darlington/darlington/core/FiniteType" "size" "I" (.int p3)
set_option maxRecDepth 65536 in
set_option maxHeartbeats 40000000 in
theorem rm10 (l : Launch) (Z : State) (a0 : Array Value) (hw : ∀ d ∈ tables_1, d.before a0 Z = true) (ws : List Jvm.Cond) (a1 : Addr) (p2 : Int32) (p3 : Int32) (u1 : Int32) (u2 : Int32) (h0 : Heap) (n0 : Nat) (Z0 : n0 ≤ h0.size) (E1 : Exa Z h0 a1 "com/example/darlington/darlington/core/IntegerRange") (F1 : Fld Z h0 a1 "com/example/darlington/darlington/core/FiniteType" "first" "I" (.int u1)) (F2 : Fld Z h0 a1 "com/example/darlington/darlington/core/FiniteType" "size" "I" (.int u2)) (g1 : n0 ≤ a1) :
    MetFree l (⟨"com/example/darlington/darlington/core/FiniteType", "<init>", "(II)V"⟩ : MethodName) (head1 (Jvm.Cond.code (⟨"com/example/darlington/darlington/core/FiniteType", "<init>", "(II)V"⟩ : MethodName) prog_45_method_1_code 3 none :: ws) ({ frames := 1, cells := 0, slots := 0, locals := 12 } : Room)) (fun a U => a = #[(.ref a1), (.int p2), (.int p3)] ∧ Z.Warmed39 U.vm ∧ U.heap = h0) (fun _ _ _ _ _ => True) (fun _ U o U' => ∃ v L, o = .returned v ∧ Q_rm10 Z a1 p2 p3 u1 u2 h0 n0 v U'.heap L ∧ FrameEnd U o U' L ({ frames := 1, cells := 0, slots := 0, locals := 12 } : Room).cells ({ frames := 1, cells := 0, slots := 0, locals := 12 } : Room).slots) := by
  refine MetFree.of_bodySF (plainFor_of_name pn_5) hisR ?_
  intro p e s m args below meth c s₁ Bd hml0 hP hK
  obtain ⟨rfl, hZ, hh⟩ := hP
  have hx := Bd.exec
  have hby := Bd.bytes
  have hml : c.maxLocals = 3 := hml0
  have hown : s.vm.findClass "com/example/darlington/darlington/core/FiniteType" = some m.cls := findClass_of_methodNamed Bd.named
  have hnm := (name_of_methodNamed Bd.named Bd.method).1
  have X0 : Stand p l e ({ frames := 1, cells := 0, slots := 0, locals := 12 } : Room) s m #[(.ref a1), (.int p2), (.int p3)] below meth c s₁ [] 0 0 := Stand.of_body Bd
  have e0 : s₁.heap = h0 := by rw [← hh, Bd.state]; rfl
  have N0 := Fr.nil n0
  have pre0 : ∀ t, Steps p.tables e below (s₁.setTop (mkF m 0 #[Sr a1, Si p2, Si p3] [])) t → Steps p.tables e below (s₁.setTop (entryFrame m #[(.ref a1), (.int p2), (.int p3)] 3)) t := fun t k => castTop (ef_rm10 m a1 p2 p3) k
  obtain ⟨T51, X51, e51, st51⟩ := initO X0 hx hZ hown (ow hw 54 rfl) (ow hw 32 rfl) (ow hw 33 rfl) e0 (g := (mkF m 1 #[Sr a1, Si p2, Si p3] [(.ref a1)])) rfl (by rw [hml]; rfl) rfl (hb hby d10_1) (by decide) (W := 0) (by show 2 * 0 + _ ≤ _; exact Nat.le_of_eq rfl) (by decide)
  obtain ⟨T52, h52, X52, e52, W52, st52⟩ := putF X51 hx hZ hown (host := "") (Or.inl (ow hw 55 rfl)) Via.refl e51 F1 E1 (Or.inr ⟨(ow hw 56 rfl), rfl, hnm⟩) (ow hw 40 rfl) (ty := .int) (by decide) rfl rfl (g := (mkF m 6 #[Sr a1, Si p2, Si p3] [(.int p2), (.ref a1)])) rfl rfl (hb hby d10_6)
  have KC53 : Keep h0 h52 [a1] := (Keep.refl h0 [a1]).wr W52 (Or.inl (List.mem_of_getElem? (i := 0) rfl))
  have F54 : Fld Z h52 a1 "com/example/darlington/darlington/core/FiniteType" "first" "I" (.int p2) := F1.same W52
  have N55 := Fr.snoc X52 N0 g1
  have F56 : Exa Z h52 a1 "com/example/darlington/darlington/core/IntegerRange" := (E1.wr W52)
  have F57 : Fld Z h52 a1 "com/example/darlington/darlington/core/FiniteType" "size" "I" (.int u2) := (F2.other W52 (Or.inr (slot_ne (Or.inr (ow hw 58 rfl)) (Or.inr (ow hw 56 rfl)) (by decide) (t := .int) (t' := .int) (by decide) (by decide))))
  obtain ⟨T58, h58, X58, e58, W58, st58⟩ := putF X52 hx hZ hown (host := "") (Or.inl (ow hw 57 rfl)) Via.refl e52 F57 F56 (Or.inr ⟨(ow hw 58 rfl), rfl, hnm⟩) (ow hw 40 rfl) (ty := .int) (by decide) rfl rfl (g := (mkF m 11 #[Sr a1, Si p2, Si p3] [(.int p3), (.ref a1)])) rfl rfl (hb hby d10_11)
  have KC59 : Keep h0 h58 [a1] := KC53.wr W58 (Or.inl (List.mem_of_getElem? (i := 0) rfl))
  have F60 : Fld Z h58 a1 "com/example/darlington/darlington/core/FiniteType" "size" "I" (.int p3) := F57.same W58
  have N61 := Fr.snoc X58 N55 g1
  have pre62 : ∀ t, Steps p.tables e below (T58.setTop (mkF m 14 #[Sr a1, Si p2, Si p3] [])) t → Steps p.tables e below (s₁.setTop (entryFrame m #[(.ref a1), (.int p2), (.int p3)] 3)) t := by
    intro t k
    refine pre0 t ?_
    refine XS.aloadN X0.here hx rfl (hb hby d10_0) rfl rfl ?_
    refine st51 _ ?_
    refine XS.aloadN X51.here hx rfl (hb hby d10_4) rfl rfl ?_
    refine XS.iloadN X51.here hx rfl (hb hby d10_5) rfl ?_
    refine st52 _ ?_
    refine XS.aloadN X52.here hx rfl (hb hby d10_9) rfl rfl ?_
    refine XS.iloadN X52.here hx rfl (hb hby d10_10) rfl ?_
    refine st58 _ ?_
    show Steps _ _ _ (T58.setTop (mkF m 14 #[Sr a1, Si p2, Si p3] [])) _
    exact k
  obtain ⟨fs, hr, hrun, hended, hW, hsame⟩ := X58.leave (v := none) (fun _ => rfl)
  refine ⟨_, _, pre62 _ ?_, hrun, hended, _, _, rfl, ?_, ⟨_, rfl⟩, hW, hsame.mono (by decide) (by decide)⟩
  · exact X58.returnOut hx Bd.returns (hb hby d10_14) hr
  · show Q_rm10 Z a1 p2 p3 u1 u2 h0 n0 _ T58.heap _
    rw [e58]
    have F63 : Fld Z h58 a1 "com/example/darlington/darlington/core/FiniteType" "first" "I" (.int p2) := (F54.other W58 (Or.inr (slot_ne (Or.inr (ow hw 56 rfl)) (Or.inr (ow hw 58 rfl)) (by decide) (t := .int) (t' := .int) (by decide) (by decide))))
    exact ⟨rfl, N61, KC59, F63, F60⟩
def own_size (lo hi : Int32) : Int32 := (((hi.toInt64 - lo.toInt64) + (1 : Int64)).toInt32)
theorem d9_0 : decode prog_55_method_2_code 0 = .ok (.iload_n 0, 1) := by decide +kernel
theorem d9_1 : decode prog_55_method_2_code 1 = .ok (.iload_n 1, 1) := by decide +kernel
theorem d9_2 : decode prog_55_method_2_code 2 = .ok (.if_icmp .le 21, 3) := by decide +kernel
theorem d9_23 : decode prog_55_method_2_code 23 = .ok (.iload_n 1, 1) := by decide +kernel
theorem d9_24 : decode prog_55_method_2_code 24 = .ok (.i2l, 1) := by decide +kernel
theorem d9_25 : decode prog_55_method_2_code 25 = .ok (.iload_n 0, 1) := by decide +kernel
theorem d9_26 : decode prog_55_method_2_code 26 = .ok (.i2l, 1) := by decide +kernel
theorem d9_27 : decode prog_55_method_2_code 27 = .ok (.lsub, 1) := by decide +kernel
theorem d9_28 : decode prog_55_method_2_code 28 = .ok (.lconst 1, 1) := by decide +kernel
theorem d9_29 : decode prog_55_method_2_code 29 = .ok (.ladd, 1) := by decide +kernel
theorem d9_30 : decode prog_55_method_2_code 30 = .ok (.lstore_n 2, 1) := by decide +kernel
theorem d9_31 : decode prog_55_method_2_code 31 = .ok (.lload_n 2, 1) := by decide +kernel
theorem d9_32 : decode prog_55_method_2_code 32 = .ok (.ldc2_w 28, 3) := by decide +kernel
theorem d9_35 : decode prog_55_method_2_code 35 = .ok (.lcmp, 1) := by decide +kernel
theorem d9_36 : decode prog_55_method_2_code 36 = .ok (.ifCond .le 21, 3) := by decide +kernel
theorem d9_57 : decode prog_55_method_2_code 57 = .ok (.lload_n 2, 1) := by decide +kernel
theorem d9_58 : decode prog_55_method_2_code 58 = .ok (.l2i, 1) := by decide +kernel
theorem d9_59 : decode prog_55_method_2_code 59 = .ok (.ireturn, 1) := by decide +kernel
theorem pn_6 : plainName "com/example/darlington/darlington/core/IntegerRange" = true := by first | (simp [plainName, overriddenIn]; done) | decide +kernel
theorem ef_rm9 (m : MethodId) (x0 : Int32) (x1 : Int32) : entryFrame m #[(.int x0), (.int x1)] 4 = mkF m 0 #[Si x0, Si x1, Su, Su] [] := by first | (simp [entryFrame, mkF, argsToLocals, Value.category]; done) | rfl
def Q_rm9 (Z : State) (p1 : Int32) (p2 : Int32) (h0 : Heap) (n0 : Nat) (v : Option Value) (h : Heap) (L : List Loc) : Prop := v = some (.int (own_size p1 p2)) ∧ Fr n0 L ∧ h = h0
set_option maxRecDepth 65536 in
set_option maxHeartbeats 40000000 in
theorem rm9 (l : Launch) (Z : State) (a0 : Array Value) (hw : ∀ d ∈ tables_1, d.before a0 Z = true) (ws : List Jvm.Cond) (p1 : Int32) (p2 : Int32) (h0 : Heap) (n0 : Nat) (Z0 : n0 ≤ h0.size) (h1 : ¬ p2 < p1) (h2 : ¬ (2147483647 : Int64) < ((p2.toInt64 - p1.toInt64) + (1 : Int64))) :
    MetFree l (⟨"com/example/darlington/darlington/core/IntegerRange", "checkedSize", "(II)I"⟩ : MethodName) (head1 (Jvm.Cond.code (⟨"com/example/darlington/darlington/core/IntegerRange", "checkedSize", "(II)I"⟩ : MethodName) prog_55_method_2_code 4 (some .int) :: ws) ({ frames := 0, cells := 0, slots := 0, locals := 0 } : Room)) (fun a U => a = #[(.int p1), (.int p2)] ∧ Z.Warmed39 U.vm ∧ U.heap = h0) (fun _ _ _ _ _ => True) (fun _ U o U' => ∃ v L, o = .returned v ∧ Q_rm9 Z p1 p2 h0 n0 v U'.heap L ∧ FrameEnd U o U' L ({ frames := 0, cells := 0, slots := 0, locals := 0 } : Room).cells ({ frames := 0, cells := 0, slots := 0, locals := 0 } : Room).slots) := by
  refine MetFree.of_bodySF (plainFor_of_name pn_6) hisR ?_
  intro p e s m args below meth c s₁ Bd hml0 hP hK
  obtain ⟨rfl, hZ, hh⟩ := hP
  have hx := Bd.exec
  have hby := Bd.bytes
  have hml : c.maxLocals = 4 := hml0
  have hown : s.vm.findClass "com/example/darlington/darlington/core/IntegerRange" = some m.cls := findClass_of_methodNamed Bd.named
  have hnm := (name_of_methodNamed Bd.named Bd.method).1
  have X0 : Stand p l e ({ frames := 0, cells := 0, slots := 0, locals := 0 } : Room) s m #[(.int p1), (.int p2)] below meth c s₁ [] 0 0 := Stand.of_body Bd
  have e0 : s₁.heap = h0 := by rw [← hh, Bd.state]; rfl
  have N0 := Fr.nil n0
  have pre0 : ∀ t, Steps p.tables e below (s₁.setTop (mkF m 0 #[Si p1, Si p2, Su, Su] [])) t → Steps p.tables e below (s₁.setTop (entryFrame m #[(.int p1), (.int p2)] 4)) t := fun t k => castTop (ef_rm9 m p1 p2) k
  have hc51 : ¬ (p2 < p1) := h1
  have hc52 : ¬ ((2147483647 : Int64) < (((p2.toInt64) - (p1.toInt64)) + (1 : Int64))) := h2
  have pre53 : ∀ t, Steps p.tables e below (s₁.setTop (mkF m 59 #[Si p1, Si p2, Sl (((p2.toInt64) - (p1.toInt64)) + (1 : Int64)), S2] [(.int ((((p2.toInt64) - (p1.toInt64)) + (1 : Int64)).toInt32))])) t → Steps p.tables e below (s₁.setTop (entryFrame m #[(.int p1), (.int p2)] 4)) t := by
    intro t k
    refine pre0 t ?_
    refine XS.iloadN X0.here hx rfl (hb hby d9_0) rfl ?_
    refine XS.iloadN X0.here hx rfl (hb hby d9_1) rfl ?_
    refine XS.icmpYes X0.here hx rfl (pc0 := 2) (pc' := 23) rfl (hb hby d9_2) rfl (flt hc51).2.2.2 (by decide) (by decide) ?_
    refine XS.iloadN X0.here hx rfl (hb hby d9_23) rfl ?_
    refine XS.i2l X0.here hx rfl (hb hby d9_24) rfl ?_
    refine XS.iloadN X0.here hx rfl (hb hby d9_25) rfl ?_
    refine XS.i2l X0.here hx rfl (hb hby d9_26) rfl ?_
    refine XS.lsub X0.here hx rfl (hb hby d9_27) rfl ?_
    show Steps _ _ _ (s₁.setTop (mkF m 28 #[Si p1, Si p2, Su, Su] [(.long ((p2.toInt64) - (p1.toInt64)))])) _
    refine XS.lconst X0.here hx rfl (hb hby d9_28) ?_
    refine XS.ladd X0.here hx rfl (hb hby d9_29) rfl ?_
    refine XS.lstoreN X0.here hx rfl (hb hby d9_30) rfl (l' := #[Si p1, Si p2, Sl (((p2.toInt64) - (p1.toInt64)) + (1 : Int64)), S2]) rfl ?_
    refine XS.lloadN X0.here hx rfl (hb hby d9_31) rfl ?_
    refine X0.ldc2Long hx hown (mvT hZ (ow hw 48 rfl)) (g := (mkF m 32 #[Si p1, Si p2, Sl (((p2.toInt64) - (p1.toInt64)) + (1 : Int64)), S2] [(.long (((p2.toInt64) - (p1.toInt64)) + (1 : Int64)))])) rfl (hb hby d9_32) _ ?_
    refine XS.lcmp X0.here hx rfl (hb hby d9_35) rfl ?_
    refine XS.ifYes X0.here hx rfl (pc0 := 36) (pc' := 57) rfl (hb hby d9_36) rfl ((if0 _ _).trans (flt (fun z => hc52 ((lw_gt _ _).mp z))).2.2.2) (by decide) (by decide) ?_
    refine XS.lloadN X0.here hx rfl (hb hby d9_57) rfl ?_
    show Steps _ _ _ (s₁.setTop (mkF m 58 #[Si p1, Si p2, Sl (((p2.toInt64) - (p1.toInt64)) + (1 : Int64)), S2] [(.long (((p2.toInt64) - (p1.toInt64)) + (1 : Int64)))])) _
    refine XS.l2i X0.here hx rfl (hb hby d9_58) rfl ?_
    exact k
  obtain ⟨fs, hr, hrun, hended, hW, hsame⟩ := X0.leave (v := some (.int ((((p2.toInt64) - (p1.toInt64)) + (1 : Int64)).toInt32))) (fun h => by rw [Bd.returns] at h; cases h)
  refine ⟨_, _, pre53 _ ?_, hrun, hended, _, _, rfl, ?_, ⟨_, rfl⟩, hW, hsame.mono (by decide) (by decide)⟩
  · exact retI X0 hx Bd.returns (hb hby d9_59) hr
  · show Q_rm9 Z p1 p2 h0 n0 _ s₁.heap _
    rw [e0]
    have hv54 : ((((p2.toInt64) - (p1.toInt64)) + (1 : Int64)).toInt32) = (own_size p1 p2) := rfl
    exact ⟨(congrArg (fun z => some (Value.int z)) hv54), N0, rfl⟩
theorem d8_0 : decode prog_55_method_1_code 0 = .ok (.aload_n 0, 1) := by decide +kernel
theorem d8_1 : decode prog_55_method_1_code 1 = .ok (.iload_n 1, 1) := by decide +kernel
theorem d8_2 : decode prog_55_method_1_code 2 = .ok (.iload_n 1, 1) := by decide +kernel
theorem d8_3 : decode prog_55_method_1_code 3 = .ok (.iload_n 2, 1) := by decide +kernel
theorem d8_4 : decode prog_55_method_1_code 4 = .ok (.invokestatic 1, 3) := by decide +kernel
theorem pd_7 : parseMethodDescriptor "(II)V" = some ⟨[.int, .int], none⟩ := by decide +kernel
theorem d8_7 : decode prog_55_method_1_code 7 = .ok (.invokespecial 7, 3) := by decide +kernel
theorem d8_10 : decode prog_55_method_1_code 10 = .ok (.return_, 1) := by decide +kernel
theorem ef_rm8 (m : MethodId) (x0 : Addr) (x1 : Int32) (x2 : Int32) : entryFrame m #[(.ref x0), (.int x1), (.int x2)] 3 = mkF m 0 #[Sr x0, Si x1, Si x2] [] := by first | (simp [entryFrame, mkF, argsToLocals, Value.category]; done) | rfl
def Q_rm8 (Z : State) (a1 : Addr) (p2 : Int32) (p3 : Int32) (u1 : Int32) (u2 : Int32) (h0 : Heap) (n0 : Nat) (v : Option Value) (h : Heap) (L : List Loc) : Prop := v = none ∧ Fr n0 L ∧ Keep h0 h [a1] ∧ Fld Z h a1 "com/example/darlington/darlington/core/FiniteType" "first" "I" (.int p2) ∧ Fld Z h a1 "com/example/darlington/darlington/core/FiniteType" "size" "I" (.int (own_size p2 p3))
set_option maxRecDepth 65536 in
set_option maxHeartbeats 40000000 in
theorem rm8 (l : Launch) (Z : State) (a0 : Array Value) (hw : ∀ d ∈ tables_1, d.before a0 Z = true) (ws : List Jvm.Cond) (a1 : Addr) (p2 : Int32) (p3 : Int32) (u1 : Int32) (u2 : Int32) (h0 : Heap) (n0 : Nat) (Z0 : n0 ≤ h0.size) (E1 : Exa Z h0 a1 "com/example/darlington/darlington/core/IntegerRange") (F1 : Fld Z h0 a1 "com/example/darlington/darlington/core/FiniteType" "first" "I" (.int u1)) (F2 : Fld Z h0 a1 "com/example/darlington/darlington/core/FiniteType" "size" "I" (.int u2)) (g1 : n0 ≤ a1) (h1 : ¬ p3 < p2) (h2 : ¬ (2147483647 : Int64) < ((p3.toInt64 - p2.toInt64) + (1 : Int64))) :
    MetFree l (⟨"com/example/darlington/darlington/core/IntegerRange", "<init>", "(II)V"⟩ : MethodName) (head1 (Jvm.Cond.code (⟨"com/example/darlington/darlington/core/IntegerRange", "<init>", "(II)V"⟩ : MethodName) prog_55_method_1_code 3 none :: ws) ({ frames := 2, cells := 0, slots := 0, locals := 26 } : Room)) (fun a U => a = #[(.ref a1), (.int p2), (.int p3)] ∧ Z.Warmed39 U.vm ∧ U.heap = h0) (fun _ _ _ _ _ => True) (fun _ U o U' => ∃ v L, o = .returned v ∧ Q_rm8 Z a1 p2 p3 u1 u2 h0 n0 v U'.heap L ∧ FrameEnd U o U' L ({ frames := 2, cells := 0, slots := 0, locals := 26 } : Room).cells ({ frames := 2, cells := 0, slots := 0, locals := 26 } : Room).slots) := by
  refine MetFree.of_bodySF (plainFor_of_name pn_6) hisR ?_
  intro p e s m args below meth c s₁ Bd hml0 hP hK
  obtain ⟨rfl, hZ, hh⟩ := hP
  have hx := Bd.exec
  have hby := Bd.bytes
  have hml : c.maxLocals = 3 := hml0
  have hown : s.vm.findClass "com/example/darlington/darlington/core/IntegerRange" = some m.cls := findClass_of_methodNamed Bd.named
  have hnm := (name_of_methodNamed Bd.named Bd.method).1
  have X0 : Stand p l e ({ frames := 2, cells := 0, slots := 0, locals := 26 } : Room) s m #[(.ref a1), (.int p2), (.int p3)] below meth c s₁ [] 0 0 := Stand.of_body Bd
  have e0 : s₁.heap = h0 := by rw [← hh, Bd.state]; rfl
  have N0 := Fr.nil n0
  have pre0 : ∀ t, Steps p.tables e below (s₁.setTop (mkF m 0 #[Sr a1, Si p2, Si p3] [])) t → Steps p.tables e below (s₁.setTop (entryFrame m #[(.ref a1), (.int p2), (.int p3)] 3)) t := fun t k => castTop (ef_rm8 m a1 p2 p3) k
  obtain ⟨_, _, ⟨T51, L51, k51, n51⟩, -, X51, ⟨Lc51, hQ51, l51, y51, z51⟩, st51⟩ := Jvm.LawKit.callS X0 hx (y := (⟨"com/example/darlington/darlington/core/IntegerRange", "checkedSize", "(II)I"⟩ : MethodName)) hown (mvT hZ (ow hw 45 rfl)) (mvT hZ (ow hw 46 rfl)) (mvT hZ (ow hw 41 rfl)) (mvT hZ (ow hw 47 rfl)) (by decide) (backOf (W := 2) (rm9 l Z a0 hw [] p2 p3 h0 n0 Z0 h1 h2) hZ (ow hw 47 rfl) (ow hw 41 rfl) (by decide) (by decide)) (g := (mkF m 4 #[Sr a1, Si p2, Si p3] [(.int p3), (.int p2), (.int p2), (.ref a1)])) rfl (by rw [hml]; rfl) (argsL := [(.int p2), (.int p3)]) (rest := [(.int p2), (.ref a1)]) (lenOf pd_1 rfl) rfl (by show 2 * 0 + _ ≤ _; exact Nat.le_of_eq rfl) (hb hby d8_4) (fun _ _ => ⟨rfl, e0, (by decide : 0 + 0 ≤ _), (by decide : 0 + 0 ≤ _)⟩)
  dsimp only [Pt.U, Pt.locs, Pt.cells, Pt.slots] at X51 l51 y51 z51 st51 hQ51
  subst y51 z51
  obtain ⟨rfl, Nq51, q51_0⟩ := hQ51
  have N52 := Eq.subst (motive := fun L => Fr n0 L) l51.symm (Fr.app N0 Nq51)
  obtain ⟨_, _, ⟨T53, L53, k53, n53⟩, -, X53, ⟨Lc53, hQ53, l53, y53, z53⟩, st53⟩ := X51.specialBack hx (y := (⟨"com/example/darlington/darlington/core/FiniteType", "<init>", "(II)V"⟩ : MethodName)) rfl hown (mvT hZ (ow hw 49 rfl)) (mvT hZ (ow hw 50 rfl)) (mvT hZ (ow hw 53 rfl)) (by decide) (backOf (W := 0) (rm10 l Z a0 hw [] a1 p2 (own_size p2 p3) u1 u2 h0 n0 Z0 E1 F1 F2 g1) hZ (ow hw 53 rfl) (ow hw 52 rfl) (by decide) (by decide)) (g := (mkF m 7 #[Sr a1, Si p2, Si p3] [(.int (own_size p2 p3)), (.int p2), (.ref a1)])) rfl (by rw [hml]; rfl) (Steps.refl _) (a := a1) (argsL := [(.int p2), (.int (own_size p2 p3))]) (rest := []) (lenOf pd_7 rfl) rfl (by show 2 * 0 + _ ≤ _; exact Nat.le_of_eq rfl) (hb hby d8_7) (fun _ _ => ⟨rfl, q51_0, (by decide : 0 + 0 ≤ _), (by decide : 0 + 0 ≤ _)⟩)
  dsimp only [Pt.U, Pt.locs, Pt.cells, Pt.slots] at X53 l53 y53 z53 st53 hQ53
  subst y53 z53
  obtain ⟨rfl, Nq53, q53_0, q53_1, q53_2⟩ := hQ53
  have N54 := Eq.subst (motive := fun L => Fr n0 L) l53.symm (Fr.app N52 Nq53)
  have KC55 : Keep h0 T53.heap [a1] := (Keep.refl h0 [a1]).trans q53_0 (allS (Or.inl (List.mem_of_getElem? (i := 0) rfl)) all0)
  have pre56 : ∀ t, Steps p.tables e below (T53.setTop (mkF m 10 #[Sr a1, Si p2, Si p3] [])) t → Steps p.tables e below (s₁.setTop (entryFrame m #[(.ref a1), (.int p2), (.int p3)] 3)) t := by
    intro t k
    refine pre0 t ?_
    refine XS.aloadN X0.here hx rfl (hb hby d8_0) rfl rfl ?_
    refine XS.iloadN X0.here hx rfl (hb hby d8_1) rfl ?_
    refine XS.iloadN X0.here hx rfl (hb hby d8_2) rfl ?_
    refine XS.iloadN X0.here hx rfl (hb hby d8_3) rfl ?_
    refine st51 _ ?_
    refine st53.trans ?_
    exact k
  obtain ⟨fs, hr, hrun, hended, hW, hsame⟩ := X53.leave (v := none) (fun _ => rfl)
  refine ⟨_, _, pre56 _ ?_, hrun, hended, _, _, rfl, ?_, ⟨_, rfl⟩, hW, hsame.mono (by decide) (by decide)⟩
  · exact X53.returnOut hx Bd.returns (hb hby d8_10) hr
  · show Q_rm8 Z a1 p2 p3 u1 u2 h0 n0 _ T53.heap _
    exact ⟨rfl, N54, KC55, q53_1, q53_2⟩
theorem d22_0 : decode prog_45_method_2_code 0 = .ok (.aload_n 0, 1) := by decide +kernel
theorem d22_1 : decode prog_45_method_2_code 1 = .ok (.getfield 13, 3) := by decide +kernel
theorem d22_4 : decode prog_45_method_2_code 4 = .ok (.ireturn, 1) := by decide +kernel
theorem ef_rm22 (m : MethodId) (x0 : Addr) : entryFrame m #[(.ref x0)] 1 = mkF m 0 #[Sr x0] [] := by first | (simp [entryFrame, mkF, argsToLocals, Value.category]; done) | rfl
def Q_rm22 (Z : State) (a1 : Addr) (z : Int32) (h0 : Heap) (n0 : Nat) (v : Option Value) (h : Heap) (L : List Loc) : Prop := v = some (.int z) ∧ Fr n0 L ∧ h = h0
set_option maxRecDepth 65536 in
set_option maxHeartbeats 40000000 in
theorem rm22 (l : Launch) (Z : State) (a0 : Array Value) (hw : ∀ d ∈ tables_1, d.before a0 Z = true) (ws : List Jvm.Cond) (a1 : Addr) (z : Int32) (h0 : Heap) (n0 : Nat) (Z0 : n0 ≤ h0.size) (F1 : Fld Z h0 a1 "com/example/darlington/darlington/core/FiniteType" "size" "I" (.int z)) :
    MetFree l (⟨"com/example/darlington/darlington/core/FiniteType", "size", "()I"⟩ : MethodName) (head1 (Jvm.Cond.code (⟨"com/example/darlington/darlington/core/FiniteType", "size", "()I"⟩ : MethodName) prog_45_method_2_code 1 (some .int) :: ws) ({ frames := 0, cells := 0, slots := 0, locals := 0 } : Room)) (fun a U => a = #[(.ref a1)] ∧ Z.Warmed39 U.vm ∧ U.heap = h0) (fun _ _ _ _ _ => True) (fun _ U o U' => ∃ v L, o = .returned v ∧ Q_rm22 Z a1 z h0 n0 v U'.heap L ∧ FrameEnd U o U' L ({ frames := 0, cells := 0, slots := 0, locals := 0 } : Room).cells ({ frames := 0, cells := 0, slots := 0, locals := 0 } : Room).slots) := by
  refine MetFree.of_bodySF (plainFor_of_name pn_5) hisR ?_
  intro p e s m args below meth c s₁ Bd hml0 hP hK
  obtain ⟨rfl, hZ, hh⟩ := hP
  have hx := Bd.exec
  have hby := Bd.bytes
  have hml : c.maxLocals = 1 := hml0
  have hown : s.vm.findClass "com/example/darlington/darlington/core/FiniteType" = some m.cls := findClass_of_methodNamed Bd.named
  have hnm := (name_of_methodNamed Bd.named Bd.method).1
  have X0 : Stand p l e ({ frames := 0, cells := 0, slots := 0, locals := 0 } : Room) s m #[(.ref a1)] below meth c s₁ [] 0 0 := Stand.of_body Bd
  have e0 : s₁.heap = h0 := by rw [← hh, Bd.state]; rfl
  have N0 := Fr.nil n0
  have pre0 : ∀ t, Steps p.tables e below (s₁.setTop (mkF m 0 #[Sr a1] [])) t → Steps p.tables e below (s₁.setTop (entryFrame m #[(.ref a1)] 1)) t := fun t k => castTop (ef_rm22 m a1) k
  obtain ⟨T51, X51, e51, st51⟩ := getF X0 hx hZ hown (host := "") (Or.inl (ow hw 57 rfl)) Via.refl e0 F1 (g := (mkF m 1 #[Sr a1] [(.ref a1)])) rfl rfl (hb hby d22_1)
  have pre52 : ∀ t, Steps p.tables e below (T51.setTop (mkF m 4 #[Sr a1] [(.int z)])) t → Steps p.tables e below (s₁.setTop (entryFrame m #[(.ref a1)] 1)) t := by
    intro t k
    refine pre0 t ?_
    refine XS.aloadN X0.here hx rfl (hb hby d22_0) rfl rfl ?_
    refine st51 _ ?_
    exact k
  obtain ⟨fs, hr, hrun, hended, hW, hsame⟩ := X51.leave (v := some (.int z)) (fun h => by rw [Bd.returns] at h; cases h)
  refine ⟨_, _, pre52 _ ?_, hrun, hended, _, _, rfl, ?_, ⟨_, rfl⟩, hW, hsame.mono (by decide) (by decide)⟩
  · exact retI X51 hx Bd.returns (hb hby d22_4) hr
  · show Q_rm22 Z a1 z h0 n0 _ T51.heap _
    rw [e51]
    exact ⟨rfl, N0, rfl⟩
def own_us (x : Int32) (k : Int32) : Int32 := ((x.toUInt32 >>> (k &&& 31).toUInt32).toInt32)
def own_x1 (x : Int32) : Int32 := if x < (65536 : Int32) then x else own_us x 16
def own_n1 (x : Int32) : Int32 := if x < (65536 : Int32) then (31 : Int32) else (15 : Int32)
def own_x2 (x : Int32) : Int32 := if own_x1 x < (256 : Int32) then own_x1 x else own_us (own_x1 x) 8
def own_n2 (x : Int32) : Int32 := if own_x1 x < (256 : Int32) then own_n1 x else (own_n1 x + (-8 : Int32))
def own_x3 (x : Int32) : Int32 := if own_x2 x < (16 : Int32) then own_x2 x else own_us (own_x2 x) 4
def own_n3 (x : Int32) : Int32 := if own_x2 x < (16 : Int32) then own_n2 x else (own_n2 x + (-4 : Int32))
def own_x4 (x : Int32) : Int32 := if own_x3 x < (4 : Int32) then own_x3 x else own_us (own_x3 x) 2
def own_n4 (x : Int32) : Int32 := if own_x3 x < (4 : Int32) then own_n3 x else (own_n3 x + (-2 : Int32))
def own_nlz (x : Int32) : Int32 := if (0 : Int32) < x then (own_n4 x - own_us (own_x4 x) 1) else (if x = (0 : Int32) then (32 : Int32) else (0 : Int32))
theorem d23_0 : decode jdk_33_method_47_code 0 = .ok (.iload_n 0, 1) := by decide +kernel
theorem d23_1 : decode jdk_33_method_47_code 1 = .ok (.ifCond .gt 14, 3) := by decide +kernel
theorem d23_15 : decode jdk_33_method_47_code 15 = .ok (.bipush 31, 2) := by decide +kernel
theorem d23_17 : decode jdk_33_method_47_code 17 = .ok (.istore_n 1, 1) := by decide +kernel
theorem d23_18 : decode jdk_33_method_47_code 18 = .ok (.iload_n 0, 1) := by decide +kernel
theorem d23_19 : decode jdk_33_method_47_code 19 = .ok (.ldc_w 264, 3) := by decide +kernel
theorem d23_22 : decode jdk_33_method_47_code 22 = .ok (.if_icmp .lt 11, 3) := by decide +kernel
theorem d23_25 : decode jdk_33_method_47_code 25 = .ok (.iinc 1 (-16), 3) := by decide +kernel
theorem d23_28 : decode jdk_33_method_47_code 28 = .ok (.iload_n 0, 1) := by decide +kernel
theorem d23_29 : decode jdk_33_method_47_code 29 = .ok (.bipush 16, 2) := by decide +kernel
theorem d23_31 : decode jdk_33_method_47_code 31 = .ok (.iushr, 1) := by decide +kernel
theorem d23_32 : decode jdk_33_method_47_code 32 = .ok (.istore_n 0, 1) := by decide +kernel
theorem d23_33 : decode jdk_33_method_47_code 33 = .ok (.iload_n 0, 1) := by decide +kernel
theorem d23_34 : decode jdk_33_method_47_code 34 = .ok (.sipush 256, 3) := by decide +kernel
theorem d23_37 : decode jdk_33_method_47_code 37 = .ok (.if_icmp .lt 11, 3) := by decide +kernel
theorem d23_40 : decode jdk_33_method_47_code 40 = .ok (.iinc 1 (-8), 3) := by decide +kernel
theorem d23_43 : decode jdk_33_method_47_code 43 = .ok (.iload_n 0, 1) := by decide +kernel
theorem d23_44 : decode jdk_33_method_47_code 44 = .ok (.bipush 8, 2) := by decide +kernel
theorem d23_46 : decode jdk_33_method_47_code 46 = .ok (.iushr, 1) := by decide +kernel
theorem d23_47 : decode jdk_33_method_47_code 47 = .ok (.istore_n 0, 1) := by decide +kernel
theorem d23_48 : decode jdk_33_method_47_code 48 = .ok (.iload_n 0, 1) := by decide +kernel
theorem d23_49 : decode jdk_33_method_47_code 49 = .ok (.bipush 16, 2) := by decide +kernel
theorem d23_51 : decode jdk_33_method_47_code 51 = .ok (.if_icmp .lt 10, 3) := by decide +kernel
theorem d23_54 : decode jdk_33_method_47_code 54 = .ok (.iinc 1 (-4), 3) := by decide +kernel
theorem d23_57 : decode jdk_33_method_47_code 57 = .ok (.iload_n 0, 1) := by decide +kernel
theorem d23_58 : decode jdk_33_method_47_code 58 = .ok (.iconst 4, 1) := by decide +kernel
theorem d23_59 : decode jdk_33_method_47_code 59 = .ok (.iushr, 1) := by decide +kernel
theorem d23_60 : decode jdk_33_method_47_code 60 = .ok (.istore_n 0, 1) := by decide +kernel
theorem d23_61 : decode jdk_33_method_47_code 61 = .ok (.iload_n 0, 1) := by decide +kernel
theorem d23_62 : decode jdk_33_method_47_code 62 = .ok (.iconst 4, 1) := by decide +kernel
theorem d23_63 : decode jdk_33_method_47_code 63 = .ok (.if_icmp .lt 10, 3) := by decide +kernel
theorem d23_66 : decode jdk_33_method_47_code 66 = .ok (.iinc 1 (-2), 3) := by decide +kernel
theorem d23_69 : decode jdk_33_method_47_code 69 = .ok (.iload_n 0, 1) := by decide +kernel
theorem d23_70 : decode jdk_33_method_47_code 70 = .ok (.iconst 2, 1) := by decide +kernel
theorem d23_71 : decode jdk_33_method_47_code 71 = .ok (.iushr, 1) := by decide +kernel
theorem d23_72 : decode jdk_33_method_47_code 72 = .ok (.istore_n 0, 1) := by decide +kernel
theorem d23_73 : decode jdk_33_method_47_code 73 = .ok (.iload_n 1, 1) := by decide +kernel
theorem d23_74 : decode jdk_33_method_47_code 74 = .ok (.iload_n 0, 1) := by decide +kernel
theorem d23_75 : decode jdk_33_method_47_code 75 = .ok (.iconst 1, 1) := by decide +kernel
theorem d23_76 : decode jdk_33_method_47_code 76 = .ok (.iushr, 1) := by decide +kernel
theorem d23_77 : decode jdk_33_method_47_code 77 = .ok (.isub, 1) := by decide +kernel
theorem d23_78 : decode jdk_33_method_47_code 78 = .ok (.ireturn, 1) := by decide +kernel
theorem d23_4 : decode jdk_33_method_47_code 4 = .ok (.iload_n 0, 1) := by decide +kernel
theorem d23_5 : decode jdk_33_method_47_code 5 = .ok (.ifCond .ne 8, 3) := by decide +kernel
theorem d23_8 : decode jdk_33_method_47_code 8 = .ok (.bipush 32, 2) := by decide +kernel
theorem d23_10 : decode jdk_33_method_47_code 10 = .ok (.goto 4, 3) := by decide +kernel
theorem d23_13 : decode jdk_33_method_47_code 13 = .ok (.iconst 0, 1) := by decide +kernel
theorem d23_14 : decode jdk_33_method_47_code 14 = .ok (.ireturn, 1) := by decide +kernel
theorem pn_7 : plainName "java/lang/Integer" = true := by first | (simp [plainName, overriddenIn]; done) | decide +kernel
theorem ef_rm23 (m : MethodId) (x0 : Int32) : entryFrame m #[(.int x0)] 2 = mkF m 0 #[Si x0, Su] [] := by first | (simp [entryFrame, mkF, argsToLocals, Value.category]; done) | rfl
def Q_rm23 (Z : State) (p1 : Int32) (h0 : Heap) (n0 : Nat) (v : Option Value) (h : Heap) (L : List Loc) : Prop := v = some (.int (own_nlz p1)) ∧ Fr n0 L ∧ h = h0
set_option maxRecDepth 65536 in
set_option maxHeartbeats 40000000 in
theorem rm23 (l : Launch) (Z : State) (a0 : Array Value) (hw : ∀ d ∈ tables_1, d.before a0 Z = true) (ws : List Jvm.Cond) (p1 : Int32) (h0 : Heap) (n0 : Nat) (Z0 : n0 ≤ h0.size) :
    MetFree l (⟨"java/lang/Integer", "numberOfLeadingZeros", "(I)I"⟩ : MethodName) (head1 (Jvm.Cond.code (⟨"java/lang/Integer", "numberOfLeadingZeros", "(I)I"⟩ : MethodName) jdk_33_method_47_code 2 (some .int) :: ws) ({ frames := 0, cells := 0, slots := 0, locals := 0 } : Room)) (fun a U => a = #[(.int p1)] ∧ Z.Warmed39 U.vm ∧ U.heap = h0) (fun _ _ _ _ _ => True) (fun _ U o U' => ∃ v L, o = .returned v ∧ Q_rm23 Z p1 h0 n0 v U'.heap L ∧ FrameEnd U o U' L ({ frames := 0, cells := 0, slots := 0, locals := 0 } : Room).cells ({ frames := 0, cells := 0, slots := 0, locals := 0 } : Room).slots) := by
  refine MetFree.of_bodySF (plainFor_of_name pn_7) hisR ?_
  intro p e s m args below meth c s₁ Bd hml0 hP hK
  obtain ⟨rfl, hZ, hh⟩ := hP
  have hx := Bd.exec
  have hby := Bd.bytes
  have hml : c.maxLocals = 2 := hml0
  have hown : s.vm.findClass "java/lang/Integer" = some m.cls := findClass_of_methodNamed Bd.named
  have hnm := (name_of_methodNamed Bd.named Bd.method).1
  have X0 : Stand p l e ({ frames := 0, cells := 0, slots := 0, locals := 0 } : Room) s m #[(.int p1)] below meth c s₁ [] 0 0 := Stand.of_body Bd
  have e0 : s₁.heap = h0 := by rw [← hh, Bd.state]; rfl
  have N0 := Fr.nil n0
  have pre0 : ∀ t, Steps p.tables e below (s₁.setTop (mkF m 0 #[Si p1, Su] [])) t → Steps p.tables e below (s₁.setTop (entryFrame m #[(.int p1)] 2)) t := fun t k => castTop (ef_rm23 m p1) k
  have pre51 : ∀ t, Steps p.tables e below (s₁.setTop (mkF m 1 #[Si p1, Su] [(.int p1)])) t → Steps p.tables e below (s₁.setTop (entryFrame m #[(.int p1)] 2)) t := by
    intro t k
    refine pre0 t ?_
    refine XS.iloadN X0.here hx rfl (hb hby d23_0) rfl ?_
    exact k
  by_cases hc52 : (0 : Int32) < p1
  · have pre56 : ∀ t, Steps p.tables e below (s₁.setTop (mkF m 33 #[Si (if p1 < (65536 : Int32) then p1 else ((p1.toUInt32 >>> ((16 : Int32) &&& 31).toUInt32).toInt32)), Si (if p1 < (65536 : Int32) then (31 : Int32) else (15 : Int32))] [])) t → Steps p.tables e below (s₁.setTop (entryFrame m #[(.int p1)] 2)) t := by
      intro t k
      refine pre51 t ?_
      refine XS.ifYes X0.here hx rfl (pc0 := 1) (pc' := 15) rfl (hb hby d23_1) rfl ((if0 _ _).trans (tlt hc52).2.2.1) (by decide) (by decide) ?_
      refine XS.bipush X0.here hx rfl (hb hby d23_15) ?_
      refine XS.istoreN X0.here hx rfl (hb hby d23_17) rfl (l' := #[Si p1, Si (31 : Int32)]) rfl ?_
      refine XS.iloadN X0.here hx rfl (hb hby d23_18) rfl ?_
      refine X0.ldcwInt hx hown (mvT hZ (ow hw 157 rfl)) (g := (mkF m 19 #[Si p1, Si (31 : Int32)] [(.int p1)])) rfl (hb hby d23_19) _ ?_
      by_cases hc53 : p1 < (65536 : Int32)
      · simp only [if_pos hc53] at k
        refine XS.icmpYes X0.here hx rfl (pc0 := 22) (pc' := 33) rfl (hb hby d23_22) rfl (tlt hc53).1 (by decide) (by decide) ?_
        exact k
      · simp only [if_neg hc53] at k
        refine XS.icmpNo X0.here hx rfl (hb hby d23_22) rfl (flt hc53).1 ?_
        refine XS.iinc X0.here hx rfl (hb hby d23_25) rfl (l' := #[Si p1, Si (15 : Int32)]) rfl ?_
        show Steps _ _ _ (s₁.setTop (mkF m 28 #[Si p1, Si (15 : Int32)] [])) _
        refine XS.iloadN X0.here hx rfl (hb hby d23_28) rfl ?_
        refine XS.bipush X0.here hx rfl (hb hby d23_29) ?_
        refine XS.iushr X0.here hx rfl (hb hby d23_31) rfl ?_
        refine XS.istoreN X0.here hx rfl (hb hby d23_32) rfl (l' := #[Si ((p1.toUInt32 >>> ((16 : Int32) &&& 31).toUInt32).toInt32), Si (15 : Int32)]) rfl ?_
        exact k
    obtain ⟨z54, hz54⟩ : ∃ z : Int32, z = (if p1 < (65536 : Int32) then p1 else ((p1.toUInt32 >>> ((16 : Int32) &&& 31).toUInt32).toInt32)) := ⟨_, rfl⟩
    rw [← hz54] at pre56
    obtain ⟨z55, hz55⟩ : ∃ z : Int32, z = (if p1 < (65536 : Int32) then (31 : Int32) else (15 : Int32)) := ⟨_, rfl⟩
    rw [← hz55] at pre56
    have pre60 : ∀ t, Steps p.tables e below (s₁.setTop (mkF m 48 #[Si (if z54 < (256 : Int32) then z54 else ((z54.toUInt32 >>> ((8 : Int32) &&& 31).toUInt32).toInt32)), Si (if z54 < (256 : Int32) then z55 else (z55 + (-8 : Int32)))] [])) t → Steps p.tables e below (s₁.setTop (entryFrame m #[(.int p1)] 2)) t := by
      intro t k
      refine pre56 t ?_
      refine XS.iloadN X0.here hx rfl (hb hby d23_33) rfl ?_
      refine XS.sipush X0.here hx rfl (hb hby d23_34) ?_
      show Steps _ _ _ (s₁.setTop (mkF m 37 #[Si z54, Si z55] [(.int (256 : Int32)), (.int z54)])) _
      by_cases hc57 : z54 < (256 : Int32)
      · simp only [if_pos hc57] at k
        refine XS.icmpYes X0.here hx rfl (pc0 := 37) (pc' := 48) rfl (hb hby d23_37) rfl (tlt hc57).1 (by decide) (by decide) ?_
        exact k
      · simp only [if_neg hc57] at k
        refine XS.icmpNo X0.here hx rfl (hb hby d23_37) rfl (flt hc57).1 ?_
        refine XS.iinc X0.here hx rfl (hb hby d23_40) rfl (l' := #[Si z54, Si (z55 + (-8 : Int32))]) rfl ?_
        refine XS.iloadN X0.here hx rfl (hb hby d23_43) rfl ?_
        refine XS.bipush X0.here hx rfl (hb hby d23_44) ?_
        refine XS.iushr X0.here hx rfl (hb hby d23_46) rfl ?_
        refine XS.istoreN X0.here hx rfl (hb hby d23_47) rfl (l' := #[Si ((z54.toUInt32 >>> ((8 : Int32) &&& 31).toUInt32).toInt32), Si (z55 + (-8 : Int32))]) rfl ?_
        exact k
    obtain ⟨z58, hz58⟩ : ∃ z : Int32, z = (if z54 < (256 : Int32) then z54 else ((z54.toUInt32 >>> ((8 : Int32) &&& 31).toUInt32).toInt32)) := ⟨_, rfl⟩
    rw [← hz58] at pre60
    obtain ⟨z59, hz59⟩ : ∃ z : Int32, z = (if z54 < (256 : Int32) then z55 else (z55 + (-8 : Int32))) := ⟨_, rfl⟩
    rw [← hz59] at pre60
    have pre64 : ∀ t, Steps p.tables e below (s₁.setTop (mkF m 61 #[Si (if z58 < (16 : Int32) then z58 else ((z58.toUInt32 >>> ((4 : Int32) &&& 31).toUInt32).toInt32)), Si (if z58 < (16 : Int32) then z59 else (z59 + (-4 : Int32)))] [])) t → Steps p.tables e below (s₁.setTop (entryFrame m #[(.int p1)] 2)) t := by
      intro t k
      refine pre60 t ?_
      refine XS.iloadN X0.here hx rfl (hb hby d23_48) rfl ?_
      refine XS.bipush X0.here hx rfl (hb hby d23_49) ?_
      by_cases hc61 : z58 < (16 : Int32)
      · simp only [if_pos hc61] at k
        refine XS.icmpYes X0.here hx rfl (pc0 := 51) (pc' := 61) rfl (hb hby d23_51) rfl (tlt hc61).1 (by decide) (by decide) ?_
        exact k
      · simp only [if_neg hc61] at k
        refine XS.icmpNo X0.here hx rfl (hb hby d23_51) rfl (flt hc61).1 ?_
        refine XS.iinc X0.here hx rfl (hb hby d23_54) rfl (l' := #[Si z58, Si (z59 + (-4 : Int32))]) rfl ?_
        refine XS.iloadN X0.here hx rfl (hb hby d23_57) rfl ?_
        refine XS.iconst X0.here hx rfl (hb hby d23_58) ?_
        refine XS.iushr X0.here hx rfl (hb hby d23_59) rfl ?_
        refine XS.istoreN X0.here hx rfl (hb hby d23_60) rfl (l' := #[Si ((z58.toUInt32 >>> ((4 : Int32) &&& 31).toUInt32).toInt32), Si (z59 + (-4 : Int32))]) rfl ?_
        show Steps _ _ _ (s₁.setTop (mkF m 61 #[Si ((z58.toUInt32 >>> ((4 : Int32) &&& 31).toUInt32).toInt32), Si (z59 + (-4 : Int32))] [])) _
        exact k
    obtain ⟨z62, hz62⟩ : ∃ z : Int32, z = (if z58 < (16 : Int32) then z58 else ((z58.toUInt32 >>> ((4 : Int32) &&& 31).toUInt32).toInt32)) := ⟨_, rfl⟩
    rw [← hz62] at pre64
    obtain ⟨z63, hz63⟩ : ∃ z : Int32, z = (if z58 < (16 : Int32) then z59 else (z59 + (-4 : Int32))) := ⟨_, rfl⟩
    rw [← hz63] at pre64
    have pre68 : ∀ t, Steps p.tables e below (s₁.setTop (mkF m 73 #[Si (if z62 < (4 : Int32) then z62 else ((z62.toUInt32 >>> ((2 : Int32) &&& 31).toUInt32).toInt32)), Si (if z62 < (4 : Int32) then z63 else (z63 + (-2 : Int32)))] [])) t → Steps p.tables e below (s₁.setTop (entryFrame m #[(.int p1)] 2)) t := by
      intro t k
      refine pre64 t ?_
      refine XS.iloadN X0.here hx rfl (hb hby d23_61) rfl ?_
      refine XS.iconst X0.here hx rfl (hb hby d23_62) ?_
      by_cases hc65 : z62 < (4 : Int32)
      · simp only [if_pos hc65] at k
        refine XS.icmpYes X0.here hx rfl (pc0 := 63) (pc' := 73) rfl (hb hby d23_63) rfl (tlt hc65).1 (by decide) (by decide) ?_
        exact k
      · simp only [if_neg hc65] at k
        refine XS.icmpNo X0.here hx rfl (hb hby d23_63) rfl (flt hc65).1 ?_
        refine XS.iinc X0.here hx rfl (hb hby d23_66) rfl (l' := #[Si z62, Si (z63 + (-2 : Int32))]) rfl ?_
        refine XS.iloadN X0.here hx rfl (hb hby d23_69) rfl ?_
        refine XS.iconst X0.here hx rfl (hb hby d23_70) ?_
        show Steps _ _ _ (s₁.setTop (mkF m 71 #[Si z62, Si (z63 + (-2 : Int32))] [(.int (2 : Int32)), (.int z62)])) _
        refine XS.iushr X0.here hx rfl (hb hby d23_71) rfl ?_
        refine XS.istoreN X0.here hx rfl (hb hby d23_72) rfl (l' := #[Si ((z62.toUInt32 >>> ((2 : Int32) &&& 31).toUInt32).toInt32), Si (z63 + (-2 : Int32))]) rfl ?_
        exact k
    obtain ⟨z66, hz66⟩ : ∃ z : Int32, z = (if z62 < (4 : Int32) then z62 else ((z62.toUInt32 >>> ((2 : Int32) &&& 31).toUInt32).toInt32)) := ⟨_, rfl⟩
    rw [← hz66] at pre68
    obtain ⟨z67, hz67⟩ : ∃ z : Int32, z = (if z62 < (4 : Int32) then z63 else (z63 + (-2 : Int32))) := ⟨_, rfl⟩
    rw [← hz67] at pre68
    have pre69 : ∀ t, Steps p.tables e below (s₁.setTop (mkF m 78 #[Si z66, Si z67] [(.int (z67 - ((z66.toUInt32 >>> ((1 : Int32) &&& 31).toUInt32).toInt32)))])) t → Steps p.tables e below (s₁.setTop (entryFrame m #[(.int p1)] 2)) t := by
      intro t k
      refine pre68 t ?_
      refine XS.iloadN X0.here hx rfl (hb hby d23_73) rfl ?_
      refine XS.iloadN X0.here hx rfl (hb hby d23_74) rfl ?_
      refine XS.iconst X0.here hx rfl (hb hby d23_75) ?_
      refine XS.iushr X0.here hx rfl (hb hby d23_76) rfl ?_
      show Steps _ _ _ (s₁.setTop (mkF m 77 #[Si z66, Si z67] [(.int ((z66.toUInt32 >>> ((1 : Int32) &&& 31).toUInt32).toInt32)), (.int z67)])) _
      refine XS.isub X0.here hx rfl (hb hby d23_77) rfl ?_
      exact k
    obtain ⟨fs, hr, hrun, hended, hW, hsame⟩ := X0.leave (v := some (.int (z67 - ((z66.toUInt32 >>> ((1 : Int32) &&& 31).toUInt32).toInt32)))) (fun h => by rw [Bd.returns] at h; cases h)
    refine ⟨_, _, pre69 _ ?_, hrun, hended, _, _, rfl, ?_, ⟨_, rfl⟩, hW, hsame.mono (by decide) (by decide)⟩
    · exact retI X0 hx Bd.returns (hb hby d23_78) hr
    · show Q_rm23 Z p1 h0 n0 _ s₁.heap _
      rw [e0]
      have hv70 : (z67 - ((z66.toUInt32 >>> ((1 : Int32) &&& 31).toUInt32).toInt32)) = (own_nlz p1) := by
        unfold own_nlz
        simp only [if_pos hc52]
        subst hz67
        subst hz66
        subst hz63
        subst hz62
        subst hz59
        subst hz58
        subst hz55
        subst hz54
        rfl
      exact ⟨(congrArg (fun z => some (Value.int z)) hv70), N0, rfl⟩
  · have pre73 : ∀ t, Steps p.tables e below (s₁.setTop (mkF m 14 #[Si p1, Su] [(.int (if p1 = (0 : Int32) then (32 : Int32) else (0 : Int32)))])) t → Steps p.tables e below (s₁.setTop (entryFrame m #[(.int p1)] 2)) t := by
      intro t k
      refine pre51 t ?_
      refine XS.ifNo X0.here hx rfl (hb hby d23_1) rfl ((if0 _ _).trans (flt hc52).2.2.1) ?_
      refine XS.iloadN X0.here hx rfl (hb hby d23_4) rfl ?_
      by_cases hc71 : p1 = (0 : Int32)
      · simp only [if_pos hc71] at k
        refine XS.ifNo X0.here hx rfl (hb hby d23_5) rfl ((if0 _ _).trans (teq hc71).2) ?_
        refine XS.bipush X0.here hx rfl (hb hby d23_8) ?_
        refine XS.goto X0.here hx rfl (pc0 := 10) (pc' := 14) rfl (hb hby d23_10) (by decide) (by decide) ?_
        exact k
      · simp only [if_neg hc71] at k
        refine XS.ifYes X0.here hx rfl (pc0 := 5) (pc' := 13) rfl (hb hby d23_5) rfl ((if0 _ _).trans (feq hc71).2) (by decide) (by decide) ?_
        refine XS.iconst X0.here hx rfl (hb hby d23_13) ?_
        exact k
    obtain ⟨z72, hz72⟩ : ∃ z : Int32, z = (if p1 = (0 : Int32) then (32 : Int32) else (0 : Int32)) := ⟨_, rfl⟩
    rw [← hz72] at pre73
    obtain ⟨fs, hr, hrun, hended, hW, hsame⟩ := X0.leave (v := some (.int z72)) (fun h => by rw [Bd.returns] at h; cases h)
    refine ⟨_, _, pre73 _ ?_, hrun, hended, _, _, rfl, ?_, ⟨_, rfl⟩, hW, hsame.mono (by decide) (by decide)⟩
    · exact retI X0 hx Bd.returns (hb hby d23_14) hr
    · show Q_rm23 Z p1 h0 n0 _ s₁.heap _
      rw [e0]
      have hv74 : z72 = (own_nlz p1) := by
        unfold own_nlz
        simp only [if_neg hc52]
        subst hz72
        rfl
      exact ⟨(congrArg (fun z => some (Value.int z)) hv74), N0, rfl⟩
theorem d24_0 : decode prog_45_method_3_code 0 = .ok (.aload_n 0, 1) := by decide +kernel
theorem d24_1 : decode prog_45_method_3_code 1 = .ok (.getfield 7, 3) := by decide +kernel
theorem d24_4 : decode prog_45_method_3_code 4 = .ok (.iload_n 1, 1) := by decide +kernel
theorem d24_5 : decode prog_45_method_3_code 5 = .ok (.aload_n 0, 1) := by decide +kernel
theorem d24_6 : decode prog_45_method_3_code 6 = .ok (.getfield 13, 3) := by decide +kernel
theorem d24_9 : decode prog_45_method_3_code 9 = .ok (.invokestatic 16, 3) := by decide +kernel
theorem d24_12 : decode prog_45_method_3_code 12 = .ok (.iadd, 1) := by decide +kernel
theorem d24_13 : decode prog_45_method_3_code 13 = .ok (.ireturn, 1) := by decide +kernel
theorem ef_rm24 (m : MethodId) (x0 : Addr) : entryFrame m #[(.ref x0), (.int (0 : Int32))] 2 = mkF m 0 #[Sr x0, Si (0 : Int32)] [] := by first | (simp [entryFrame, mkF, argsToLocals, Value.category]; done) | rfl
def Q_rm24 (Z : State) (a1 : Addr) (f : Int32) (z : Int32) (h0 : Heap) (n0 : Nat) (v : Option Value) (h : Heap) (L : List Loc) : Prop := v = some (.int (f + (0 : Int32))) ∧ Fr n0 L ∧ h = h0
set_option maxRecDepth 65536 in
set_option maxHeartbeats 40000000 in
theorem rm24 (l : Launch) (Z : State) (a0 : Array Value) (hw : ∀ d ∈ tables_1, d.before a0 Z = true) (ws : List Jvm.Cond) (a1 : Addr) (f : Int32) (z : Int32) (h0 : Heap) (n0 : Nat) (Z0 : n0 ≤ h0.size) (F1 : Fld Z h0 a1 "com/example/darlington/darlington/core/FiniteType" "first" "I" (.int f)) (F2 : Fld Z h0 a1 "com/example/darlington/darlington/core/FiniteType" "size" "I" (.int z)) (hz : (0 : Int32) < z) :
    MetFree l (⟨"com/example/darlington/darlington/core/FiniteType", "valueAt", "(I)I"⟩ : MethodName) (head1 (Jvm.Cond.code (⟨"com/example/darlington/darlington/core/FiniteType", "valueAt", "(I)I"⟩ : MethodName) prog_45_method_3_code 2 (some .int) :: ws) ({ frames := 2, cells := 0, slots := 0, locals := 28 } : Room)) (fun a U => a = #[(.ref a1), (.int (0 : Int32))] ∧ Z.Warmed39 U.vm ∧ U.heap = h0) (fun _ _ _ _ _ => True) (fun _ U o U' => ∃ v L, o = .returned v ∧ Q_rm24 Z a1 f z h0 n0 v U'.heap L ∧ FrameEnd U o U' L ({ frames := 2, cells := 0, slots := 0, locals := 28 } : Room).cells ({ frames := 2, cells := 0, slots := 0, locals := 28 } : Room).slots) := by
  refine MetFree.of_bodySF (plainFor_of_name pn_5) hisR ?_
  intro p e s m args below meth c s₁ Bd hml0 hP hK
  obtain ⟨rfl, hZ, hh⟩ := hP
  have hx := Bd.exec
  have hby := Bd.bytes
  have hml : c.maxLocals = 2 := hml0
  have hown : s.vm.findClass "com/example/darlington/darlington/core/FiniteType" = some m.cls := findClass_of_methodNamed Bd.named
  have hnm := (name_of_methodNamed Bd.named Bd.method).1
  have X0 : Stand p l e ({ frames := 2, cells := 0, slots := 0, locals := 28 } : Room) s m #[(.ref a1), (.int (0 : Int32))] below meth c s₁ [] 0 0 := Stand.of_body Bd
  have e0 : s₁.heap = h0 := by rw [← hh, Bd.state]; rfl
  have N0 := Fr.nil n0
  have pre0 : ∀ t, Steps p.tables e below (s₁.setTop (mkF m 0 #[Sr a1, Si (0 : Int32)] [])) t → Steps p.tables e below (s₁.setTop (entryFrame m #[(.ref a1), (.int (0 : Int32))] 2)) t := fun t k => castTop (ef_rm24 m a1) k
  obtain ⟨T51, X51, e51, st51⟩ := getF X0 hx hZ hown (host := "") (Or.inl (ow hw 55 rfl)) Via.refl e0 F1 (g := (mkF m 1 #[Sr a1, Si (0 : Int32)] [(.ref a1)])) rfl rfl (hb hby d24_1)
  obtain ⟨T52, X52, e52, st52⟩ := getF X51 hx hZ hown (host := "") (Or.inl (ow hw 57 rfl)) Via.refl e51 F2 (g := (mkF m 6 #[Sr a1, Si (0 : Int32)] [(.ref a1), (.int (0 : Int32)), (.int f)])) rfl rfl (hb hby d24_6)
  obtain ⟨_, _, ⟨T53, L53, k53, n53⟩, -, X53, ⟨Lc53, hQ53, l53, y53, z53⟩, st53⟩ := Jvm.LawKit.callS X52 hx (y := (⟨"java/util/Objects", "checkIndex", "(II)I"⟩ : MethodName)) hown (mvT hZ (ow hw 156 rfl)) (mvT hZ (ow hw 128 rfl)) (mvT hZ (ow hw 129 rfl)) (mvT hZ (ow hw 130 rfl)) (by decide) (backOf (W := 1) (rm19 l Z a0 hw [] (0 : Int32) z h0 n0 Z0 (by decide) hz) hZ (ow hw 130 rfl) (ow hw 129 rfl) (by decide) (by decide)) (g := (mkF m 9 #[Sr a1, Si (0 : Int32)] [(.int z), (.int (0 : Int32)), (.int f)])) rfl (by rw [hml]; rfl) (argsL := [(.int (0 : Int32)), (.int z)]) (rest := [(.int f)]) (lenOf pd_1 rfl) rfl (by show 2 * 0 + _ ≤ _; exact Nat.le_of_eq rfl) (hb hby d24_9) (fun _ _ => ⟨rfl, e52, (by decide : 0 + 0 ≤ _), (by decide : 0 + 0 ≤ _)⟩)
  dsimp only [Pt.U, Pt.locs, Pt.cells, Pt.slots] at X53 l53 y53 z53 st53 hQ53
  subst y53 z53
  obtain ⟨rfl, Nq53, q53_0⟩ := hQ53
  have N54 := Eq.subst (motive := fun L => Fr n0 L) l53.symm (Fr.app N0 Nq53)
  have pre55 : ∀ t, Steps p.tables e below (T53.setTop (mkF m 13 #[Sr a1, Si (0 : Int32)] [(.int (f + (0 : Int32)))])) t → Steps p.tables e below (s₁.setTop (entryFrame m #[(.ref a1), (.int (0 : Int32))] 2)) t := by
    intro t k
    refine pre0 t ?_
    refine XS.aloadN X0.here hx rfl (hb hby d24_0) rfl rfl ?_
    refine st51 _ ?_
    refine XS.iloadN X51.here hx rfl (hb hby d24_4) rfl ?_
    refine XS.aloadN X51.here hx rfl (hb hby d24_5) rfl rfl ?_
    refine st52 _ ?_
    refine st53 _ ?_
    refine XS.iadd X53.here hx rfl (hb hby d24_12) rfl ?_
    exact k
  obtain ⟨fs, hr, hrun, hended, hW, hsame⟩ := X53.leave (v := some (.int (f + (0 : Int32)))) (fun h => by rw [Bd.returns] at h; cases h)
  refine ⟨_, _, pre55 _ ?_, hrun, hended, _, _, rfl, ?_, ⟨_, rfl⟩, hW, hsame.mono (by decide) (by decide)⟩
  · exact retI X53 hx Bd.returns (hb hby d24_13) hr
  · show Q_rm24 Z a1 f z h0 n0 _ T53.heap _
    rw [q53_0]
    exact ⟨rfl, N54, rfl⟩
def own_bits (z : Int32) : Int32 := ((32 : Int32) - own_nlz (z - (1 : Int32)))
def own_msk (z : Int32) : Int64 := (((1 : Int64) <<< ((own_bits z) &&& 0x3f).toInt64) - (1 : Int64))
def own_w2 (z0 z1 z2 : Int32) : Int32 := if (64 : Int32) < ((((1 : Int32) + (own_bits z0)) + (own_bits z1)) + (own_bits z2)) then (1 : Int32) else (0 : Int32)
def own_s2 (z0 z1 z2 : Int32) : Int32 := if (64 : Int32) < ((((1 : Int32) + (own_bits z0)) + (own_bits z1)) + (own_bits z2)) then (0 : Int32) else (((1 : Int32) + (own_bits z0)) + (own_bits z1))
theorem d16_0 : decode prog_74_method_1_code 0 = .ok (.aload_n 0, 1) := by decide +kernel
theorem d16_1 : decode prog_74_method_1_code 1 = .ok (.invokespecial 1, 3) := by decide +kernel
theorem d16_4 : decode prog_74_method_1_code 4 = .ok (.aload_n 1, 1) := by decide +kernel
theorem pd_8 : parseMethodDescriptor "()I" = some ⟨[], some .int⟩ := by decide +kernel
theorem d16_5 : decode prog_74_method_1_code 5 = .ok (.invokeinterface 7 1, 5) := by decide +kernel
theorem d16_10 : decode prog_74_method_1_code 10 = .ok (.istore_n 2, 1) := by decide +kernel
theorem d16_11 : decode prog_74_method_1_code 11 = .ok (.aload_n 0, 1) := by decide +kernel
theorem d16_12 : decode prog_74_method_1_code 12 = .ok (.iload_n 2, 1) := by decide +kernel
theorem d16_13 : decode prog_74_method_1_code 13 = .ok (.newarray .int, 2) := by decide +kernel
theorem d16_15 : decode prog_74_method_1_code 15 = .ok (.putfield 13, 3) := by decide +kernel
theorem d16_18 : decode prog_74_method_1_code 18 = .ok (.aload_n 0, 1) := by decide +kernel
theorem d16_19 : decode prog_74_method_1_code 19 = .ok (.iload_n 2, 1) := by decide +kernel
theorem d16_20 : decode prog_74_method_1_code 20 = .ok (.newarray .int, 2) := by decide +kernel
theorem d16_22 : decode prog_74_method_1_code 22 = .ok (.putfield 19, 3) := by decide +kernel
theorem d16_25 : decode prog_74_method_1_code 25 = .ok (.aload_n 0, 1) := by decide +kernel
theorem d16_26 : decode prog_74_method_1_code 26 = .ok (.iload_n 2, 1) := by decide +kernel
theorem d16_27 : decode prog_74_method_1_code 27 = .ok (.newarray .long, 2) := by decide +kernel
theorem d16_29 : decode prog_74_method_1_code 29 = .ok (.putfield 22, 3) := by decide +kernel
theorem d16_32 : decode prog_74_method_1_code 32 = .ok (.aload_n 0, 1) := by decide +kernel
theorem d16_33 : decode prog_74_method_1_code 33 = .ok (.iload_n 2, 1) := by decide +kernel
theorem d16_34 : decode prog_74_method_1_code 34 = .ok (.newarray .int, 2) := by decide +kernel
theorem d16_36 : decode prog_74_method_1_code 36 = .ok (.putfield 26, 3) := by decide +kernel
theorem d16_39 : decode prog_74_method_1_code 39 = .ok (.iconst 0, 1) := by decide +kernel
theorem d16_40 : decode prog_74_method_1_code 40 = .ok (.istore_n 3, 1) := by decide +kernel
theorem d16_41 : decode prog_74_method_1_code 41 = .ok (.iconst 1, 1) := by decide +kernel
theorem d16_42 : decode prog_74_method_1_code 42 = .ok (.istore 4, 2) := by decide +kernel
theorem d16_44 : decode prog_74_method_1_code 44 = .ok (.iconst 0, 1) := by decide +kernel
theorem d16_45 : decode prog_74_method_1_code 45 = .ok (.istore 5, 2) := by decide +kernel
theorem d16_47 : decode prog_74_method_1_code 47 = .ok (.iload 5, 2) := by decide +kernel
theorem d16_49 : decode prog_74_method_1_code 49 = .ok (.iload_n 2, 1) := by decide +kernel
theorem d16_50 : decode prog_74_method_1_code 50 = .ok (.if_icmp .ge 103, 3) := by decide +kernel
theorem d16_53 : decode prog_74_method_1_code 53 = .ok (.aload_n 1, 1) := by decide +kernel
theorem d16_54 : decode prog_74_method_1_code 54 = .ok (.iload 5, 2) := by decide +kernel
theorem d16_56 : decode prog_74_method_1_code 56 = .ok (.invokeinterface 29 2, 5) := by decide +kernel
theorem d16_61 : decode prog_74_method_1_code 61 = .ok (.checkcast 33, 3) := by decide +kernel
theorem d16_64 : decode prog_74_method_1_code 64 = .ok (.astore 6, 2) := by decide +kernel
theorem d16_66 : decode prog_74_method_1_code 66 = .ok (.bipush 32, 2) := by decide +kernel
theorem d16_68 : decode prog_74_method_1_code 68 = .ok (.aload 6, 2) := by decide +kernel
theorem d16_70 : decode prog_74_method_1_code 70 = .ok (.invokevirtual 37, 3) := by decide +kernel
theorem d16_73 : decode prog_74_method_1_code 73 = .ok (.iconst 1, 1) := by decide +kernel
theorem d16_74 : decode prog_74_method_1_code 74 = .ok (.isub, 1) := by decide +kernel
theorem pd_9 : parseMethodDescriptor "(I)I" = some ⟨[.int], some .int⟩ := by decide +kernel
theorem d16_75 : decode prog_74_method_1_code 75 = .ok (.invokestatic 38, 3) := by decide +kernel
theorem d16_78 : decode prog_74_method_1_code 78 = .ok (.isub, 1) := by decide +kernel
theorem d16_79 : decode prog_74_method_1_code 79 = .ok (.istore 7, 2) := by decide +kernel
theorem d16_81 : decode prog_74_method_1_code 81 = .ok (.iload 4, 2) := by decide +kernel
theorem d16_83 : decode prog_74_method_1_code 83 = .ok (.iload 7, 2) := by decide +kernel
theorem d16_85 : decode prog_74_method_1_code 85 = .ok (.iadd, 1) := by decide +kernel
theorem d16_86 : decode prog_74_method_1_code 86 = .ok (.bipush 64, 2) := by decide +kernel
theorem d16_88 : decode prog_74_method_1_code 88 = .ok (.if_icmp .le 9, 3) := by decide +kernel
theorem d16_97 : decode prog_74_method_1_code 97 = .ok (.aload_n 0, 1) := by decide +kernel
theorem d16_98 : decode prog_74_method_1_code 98 = .ok (.getfield 13, 3) := by decide +kernel
theorem d16_101 : decode prog_74_method_1_code 101 = .ok (.iload 5, 2) := by decide +kernel
theorem d16_103 : decode prog_74_method_1_code 103 = .ok (.iload_n 3, 1) := by decide +kernel
theorem d16_104 : decode prog_74_method_1_code 104 = .ok (.iastore, 1) := by decide +kernel
theorem d16_105 : decode prog_74_method_1_code 105 = .ok (.aload_n 0, 1) := by decide +kernel
theorem d16_106 : decode prog_74_method_1_code 106 = .ok (.getfield 19, 3) := by decide +kernel
theorem d16_109 : decode prog_74_method_1_code 109 = .ok (.iload 5, 2) := by decide +kernel
theorem d16_111 : decode prog_74_method_1_code 111 = .ok (.iload 4, 2) := by decide +kernel
theorem d16_113 : decode prog_74_method_1_code 113 = .ok (.iastore, 1) := by decide +kernel
theorem d16_114 : decode prog_74_method_1_code 114 = .ok (.aload_n 0, 1) := by decide +kernel
theorem d16_115 : decode prog_74_method_1_code 115 = .ok (.getfield 22, 3) := by decide +kernel
theorem d16_118 : decode prog_74_method_1_code 118 = .ok (.iload 5, 2) := by decide +kernel
theorem d16_120 : decode prog_74_method_1_code 120 = .ok (.lconst 1, 1) := by decide +kernel
theorem d16_121 : decode prog_74_method_1_code 121 = .ok (.iload 7, 2) := by decide +kernel
theorem d16_123 : decode prog_74_method_1_code 123 = .ok (.lshl, 1) := by decide +kernel
theorem d16_124 : decode prog_74_method_1_code 124 = .ok (.lconst 1, 1) := by decide +kernel
theorem d16_125 : decode prog_74_method_1_code 125 = .ok (.lsub, 1) := by decide +kernel
theorem d16_126 : decode prog_74_method_1_code 126 = .ok (.lastore, 1) := by decide +kernel
theorem d16_127 : decode prog_74_method_1_code 127 = .ok (.aload_n 0, 1) := by decide +kernel
theorem d16_128 : decode prog_74_method_1_code 128 = .ok (.getfield 26, 3) := by decide +kernel
theorem d16_131 : decode prog_74_method_1_code 131 = .ok (.iload 5, 2) := by decide +kernel
theorem d16_133 : decode prog_74_method_1_code 133 = .ok (.aload 6, 2) := by decide +kernel
theorem d16_135 : decode prog_74_method_1_code 135 = .ok (.iconst 0, 1) := by decide +kernel
theorem d16_136 : decode prog_74_method_1_code 136 = .ok (.invokevirtual 44, 3) := by decide +kernel
theorem d16_139 : decode prog_74_method_1_code 139 = .ok (.iastore, 1) := by decide +kernel
theorem d16_140 : decode prog_74_method_1_code 140 = .ok (.iload 4, 2) := by decide +kernel
theorem d16_142 : decode prog_74_method_1_code 142 = .ok (.iload 7, 2) := by decide +kernel
theorem d16_144 : decode prog_74_method_1_code 144 = .ok (.iadd, 1) := by decide +kernel
theorem d16_145 : decode prog_74_method_1_code 145 = .ok (.istore 4, 2) := by decide +kernel
theorem d16_147 : decode prog_74_method_1_code 147 = .ok (.iinc 5 1, 3) := by decide +kernel
theorem d16_150 : decode prog_74_method_1_code 150 = .ok (.goto (-103), 3) := by decide +kernel
theorem d16_91 : decode prog_74_method_1_code 91 = .ok (.iinc 3 1, 3) := by decide +kernel
theorem d16_94 : decode prog_74_method_1_code 94 = .ok (.iconst 0, 1) := by decide +kernel
theorem d16_95 : decode prog_74_method_1_code 95 = .ok (.istore 4, 2) := by decide +kernel
theorem d16_153 : decode prog_74_method_1_code 153 = .ok (.aload_n 0, 1) := by decide +kernel
theorem d16_154 : decode prog_74_method_1_code 154 = .ok (.iload_n 3, 1) := by decide +kernel
theorem d16_155 : decode prog_74_method_1_code 155 = .ok (.iconst 1, 1) := by decide +kernel
theorem d16_156 : decode prog_74_method_1_code 156 = .ok (.iadd, 1) := by decide +kernel
theorem d16_157 : decode prog_74_method_1_code 157 = .ok (.putfield 47, 3) := by decide +kernel
theorem d16_160 : decode prog_74_method_1_code 160 = .ok (.return_, 1) := by decide +kernel
theorem pn_8 : plainName "com/example/darlington/darlington/core/StateLayout" = true := by first | (simp [plainName, overriddenIn]; done) | decide +kernel
theorem ef_rm_lay (m : MethodId) (x0 : Addr) (x1 : Addr) : entryFrame m #[(.ref x0), (.ref x1)] 8 = mkF m 0 #[Sr x0, Sr x1, Su, Su, Su, Su, Su, Su] [] := by first | (simp [entryFrame, mkF, argsToLocals, Value.category]; done) | rfl
def Q_rm_lay (Z : State) (a1 : Addr) (a2 : Addr) (a3 : Addr) (k3 : ClassId) (x0 : Addr) (x1 : Addr) (x2 : Addr) (f0 : Int32) (f1 : Int32) (f2 : Int32) (z0 : Int32) (z1 : Int32) (z2 : Int32) (h0 : Heap) (n0 : Nat) (v : Option Value) (h : Heap) (L : List Loc) : Prop := ∃ (r1 : Addr) (r2 : Addr) (r3 : Addr) (r4 : Addr) (c1 : ClassId) (c2 : ClassId) (c3 : ClassId) (c4 : ClassId), v = none ∧ Fr n0 L ∧ Keep h0 h [a1] ∧ h0.size ≤ r1 ∧ Arv Z h r1 c1 .int (3 : Int32) [(.int (0 : Int32)), (.int (0 : Int32)), (.int (own_w2 z0 z1 z2))] (.int (0 : Int32)) ∧ Fld Z h a1 "com/example/darlington/darlington/core/StateLayout" "wordOf" "[I" (.ref r1) ∧ h0.size ≤ r2 ∧ Arv Z h r2 c2 .int (3 : Int32) [(.int (1 : Int32)), (.int ((1 : Int32) + (own_bits z0))), (.int (own_s2 z0 z1 z2))] (.int (0 : Int32)) ∧ Fld Z h a1 "com/example/darlington/darlington/core/StateLayout" "shiftOf" "[I" (.ref r2) ∧ h0.size ≤ r3 ∧ Arv Z h r3 c3 .long (3 : Int32) [(.long (own_msk z0)), (.long (own_msk z1)), (.long (own_msk z2))] (.long (0 : Int64)) ∧ Fld Z h a1 "com/example/darlington/darlington/core/StateLayout" "maskOf" "[J" (.ref r3) ∧ h0.size ≤ r4 ∧ Arv Z h r4 c4 .int (3 : Int32) [(.int (f0 + (0 : Int32))), (.int (f1 + (0 : Int32))), (.int (f2 + (0 : Int32)))] (.int (0 : Int32)) ∧ Fld Z h a1 "com/example/darlington/darlington/core/StateLayout" "firstOf" "[I" (.ref r4) ∧ Fld Z h a1 "com/example/darlington/darlington/core/StateLayout" "wordsPerState" "I" (.int ((own_w2 z0 z1 z2) + (1 : Int32)))
set_option maxRecDepth 65536 in
set_option maxHeartbeats 40000000 in
theorem rm_lay (l : Launch) (Z : State) (a0 : Array Value) (hw : ∀ d ∈ tables_1, d.before a0 Z = true) (ws : List Jvm.Cond) (a1 : Addr) (a2 : Addr) (a3 : Addr) (k3 : ClassId) (x0 : Addr) (x1 : Addr) (x2 : Addr) (f0 : Int32) (f1 : Int32) (f2 : Int32) (z0 : Int32) (z1 : Int32) (z2 : Int32) (h0 : Heap) (n0 : Nat) (Z0 : n0 ≤ h0.size) (E1 : Exa Z h0 a1 "com/example/darlington/darlington/core/StateLayout") (g1 : n0 ≤ a1) (U0 : Fld Z h0 a1 "com/example/darlington/darlington/core/StateLayout" "wordOf" "[I" .null) (U1 : Fld Z h0 a1 "com/example/darlington/darlington/core/StateLayout" "shiftOf" "[I" .null) (U2 : Fld Z h0 a1 "com/example/darlington/darlington/core/StateLayout" "maskOf" "[J" .null) (U3 : Fld Z h0 a1 "com/example/darlington/darlington/core/StateLayout" "firstOf" "[I" .null) (U4 : Fld Z h0 a1 "com/example/darlington/darlington/core/StateLayout" "wordsPerState" "I" (.int (0 : Int32))) (Es : Exa Z h0 a2 "java/util/ArrayList") (Fs : Fld Z h0 a2 "java/util/ArrayList" "size" "I" (.int (3 : Int32))) (Fd : Fld Z h0 a2 "java/util/ArrayList" "elementData" "[Ljava/lang/Object;" (.ref a3)) (V3 : Arv Z h0 a3 k3 (.object "java/lang/Object") (10 : Int32) [(.ref x0), (.ref x1), (.ref x2), .null, .null, .null, .null, .null, .null, .null] .null) (n12 : a2 ≠ a1) (n13 : a3 ≠ a1) (EX0 : Exa Z h0 x0 "com/example/darlington/darlington/core/IntegerRange") (Xf0 : Fld Z h0 x0 "com/example/darlington/darlington/core/FiniteType" "first" "I" (.int f0)) (Xz0 : Fld Z h0 x0 "com/example/darlington/darlington/core/FiniteType" "size" "I" (.int z0)) (nx0 : x0 ≠ a1) (hz0 : (0 : Int32) < z0) (EX1 : Exa Z h0 x1 "com/example/darlington/darlington/core/IntegerRange") (Xf1 : Fld Z h0 x1 "com/example/darlington/darlington/core/FiniteType" "first" "I" (.int f1)) (Xz1 : Fld Z h0 x1 "com/example/darlington/darlington/core/FiniteType" "size" "I" (.int z1)) (nx1 : x1 ≠ a1) (hz1 : (0 : Int32) < z1) (EX2 : Exa Z h0 x2 "com/example/darlington/darlington/core/IntegerRange") (Xf2 : Fld Z h0 x2 "com/example/darlington/darlington/core/FiniteType" "first" "I" (.int f2)) (Xz2 : Fld Z h0 x2 "com/example/darlington/darlington/core/FiniteType" "size" "I" (.int z2)) (nx2 : x2 ≠ a1) (hz2 : (0 : Int32) < z2) (hu0 : ¬ (64 : Int32) < ((1 : Int32) + (own_bits z0))) (hu1 : ¬ (64 : Int32) < (((1 : Int32) + (own_bits z0)) + (own_bits z1))) :
    MetFree l (⟨"com/example/darlington/darlington/core/StateLayout", "<init>", "(Ljava/util/List;)V"⟩ : MethodName) (head1 (Jvm.Cond.code (⟨"com/example/darlington/darlington/core/StateLayout", "<init>", "(Ljava/util/List;)V"⟩ : MethodName) prog_74_method_1_code 8 none :: ws) ({ frames := 3, cells := 4, slots := 12, locals := 43 } : Room)) (fun a U => a = #[(.ref a1), (.ref a2)] ∧ Z.Warmed39 U.vm ∧ U.heap = h0) (fun _ _ _ _ _ => True) (fun _ U o U' => ∃ v L, o = .returned v ∧ Q_rm_lay Z a1 a2 a3 k3 x0 x1 x2 f0 f1 f2 z0 z1 z2 h0 n0 v U'.heap L ∧ FrameEnd U o U' L ({ frames := 3, cells := 4, slots := 12, locals := 43 } : Room).cells ({ frames := 3, cells := 4, slots := 12, locals := 43 } : Room).slots) := by
  refine MetFree.of_bodySF (plainFor_of_name pn_8) hisR ?_
  intro p e s m args below meth c s₁ Bd hml0 hP hK
  obtain ⟨rfl, hZ, hh⟩ := hP
  have hx := Bd.exec
  have hby := Bd.bytes
  have hml : c.maxLocals = 8 := hml0
  have hown : s.vm.findClass "com/example/darlington/darlington/core/StateLayout" = some m.cls := findClass_of_methodNamed Bd.named
  have hnm := (name_of_methodNamed Bd.named Bd.method).1
  have X0 : Stand p l e ({ frames := 3, cells := 4, slots := 12, locals := 43 } : Room) s m #[(.ref a1), (.ref a2)] below meth c s₁ [] 0 0 := Stand.of_body Bd
  have e0 : s₁.heap = h0 := by rw [← hh, Bd.state]; rfl
  have N0 := Fr.nil n0
  have pre0 : ∀ t, Steps p.tables e below (s₁.setTop (mkF m 0 #[Sr a1, Sr a2, Su, Su, Su, Su, Su, Su] [])) t → Steps p.tables e below (s₁.setTop (entryFrame m #[(.ref a1), (.ref a2)] 8)) t := fun t k => castTop (ef_rm_lay m a1 a2) k
  obtain ⟨T51, X51, e51, st51⟩ := initO X0 hx hZ hown (ow hw 100 rfl) (ow hw 32 rfl) (ow hw 33 rfl) e0 (g := (mkF m 1 #[Sr a1, Sr a2, Su, Su, Su, Su, Su, Su] [(.ref a1)])) rfl (by rw [hml]; rfl) rfl (hb hby d16_1) (by decide) (W := 0) (by show 2 * 0 + _ ≤ _; exact Nat.le_of_eq rfl) (by decide)
  obtain ⟨cq52, kq52, q52a, q52b, q52c⟩ := isOf hZ e51 Es
  obtain ⟨_, _, ⟨T52, L52, k52, n52⟩, -, X52, ⟨Lc52, hQ52, l52, y52, z52⟩, st52⟩ := X51.interfaceBack hx (xi := (⟨"java/util/List", "size", "()I"⟩ : MethodName)) (y := (⟨"java/util/ArrayList", "size", "()I"⟩ : MethodName)) hown (mvT hZ (ow hw 101 rfl)) (mvT hZ (ow hw 102 rfl)) (mvT hZ (ow hw 103 rfl)) (mvT hZ (ow hw 104 rfl)) (mvT hZ (ow hw 105 rfl)) (mvT hZ (ow hw 106 rfl)) (mvT hZ (ow hw 107 rfl)) (mvT hZ (ow hw 66 rfl)) (by decide) (backOf (W := 0) (rm17 l Z a0 hw [] a2 (3 : Int32) h0 n0 Z0 Fs) hZ (ow hw 108 rfl) (ow hw 15 rfl) (by decide) (by decide)) q52a q52b q52c (g := (mkF m 5 #[Sr a1, Sr a2, Su, Su, Su, Su, Su, Su] [(.ref a2)])) rfl (by rw [hml]; rfl) (Steps.refl _) (argsL := []) (rest := []) (lenOf pd_8 rfl) rfl (by show 2 * 0 + _ ≤ _; exact Nat.le_of_eq rfl) (hb hby d16_5) (fun _ _ => ⟨rfl, e51, (by decide : 0 + 0 ≤ _), (by decide : 0 + 0 ≤ _)⟩)
  dsimp only [Pt.U, Pt.locs, Pt.cells, Pt.slots] at X52 l52 y52 z52 st52 hQ52
  subst y52 z52
  obtain ⟨rfl, Nq52, q52_0⟩ := hQ52
  have N53 := Eq.subst (motive := fun L => Fr n0 L) l52.symm (Fr.app N0 Nq52)
  obtain ⟨T54, h54, k54, X54, e54, E54, A54, st54⟩ := newP X52 hx hZ (ow hw 109 rfl) q52_0 (g := (mkF m 13 #[Sr a1, Sr a2, Si (3 : Int32), Su, Su, Su, Su, Su] [(.int (3 : Int32)), (.ref a1)])) rfl (hb hby d16_13) rfl (by decide) (cap := 3) (by decide) (by decide) (by decide) (by decide)
  obtain ⟨b54, g54⟩ : ∃ z, z = h0.size := ⟨_, rfl⟩
  rw [← g54] at A54 st54
  have ne55 : a1 ≠ b54 := Nat.ne_of_lt (Nat.lt_of_lt_of_le E1.lt (Nat.le_of_eq g54.symm))
  have ne56 : a2 ≠ b54 := Nat.ne_of_lt (Nat.lt_of_lt_of_le Es.lt (Nat.le_of_eq g54.symm))
  have ne57 : a3 ≠ b54 := Nat.ne_of_lt (Nat.lt_of_lt_of_le V3.lt (Nat.le_of_eq g54.symm))
  have ne58 : x0 ≠ b54 := Nat.ne_of_lt (Nat.lt_of_lt_of_le EX0.lt (Nat.le_of_eq g54.symm))
  have ne59 : x1 ≠ b54 := Nat.ne_of_lt (Nat.lt_of_lt_of_le EX1.lt (Nat.le_of_eq g54.symm))
  have ne60 : x2 ≠ b54 := Nat.ne_of_lt (Nat.lt_of_lt_of_le EX2.lt (Nat.le_of_eq g54.symm))
  have ge61 : n0 ≤ b54 := Nat.le_trans Z0 (Nat.le_of_eq g54.symm)
  have sz62 : h0.size ≤ b54 := Nat.le_trans (Keep.refl h0 [a1]).1 (Nat.le_of_eq g54.symm)
  have KC63 : Keep h0 h54 [a1] := (Keep.refl h0 [a1]).ext E54
  have V54 : Arv Z h54 b54 k54 .int (3 : Int32) [(.int (0 : Int32)), (.int (0 : Int32)), (.int (0 : Int32))] (.int (0 : Int32)) := (Arv.new A54 (by decide)).pad (pad_rep [] (.int (0 : Int32)) 3)
  have F64 : Exa Z h54 a1 "com/example/darlington/darlington/core/StateLayout" := (E1.ext E54)
  have F65 : Fld Z h54 a1 "com/example/darlington/darlington/core/StateLayout" "wordOf" "[I" .null := (U0.ext E54)
  obtain ⟨T66, h66, X66, e66, W66, st66⟩ := putF X54 hx hZ hown (host := "") (Or.inl (ow hw 110 rfl)) Via.refl e54 F65 F64 (Or.inr ⟨(ow hw 111 rfl), rfl, hnm⟩) (ow hw 95 rfl) (ty := (.array .int)) (by decide) rfl rfl (g := (mkF m 15 #[Sr a1, Sr a2, Si (3 : Int32), Su, Su, Su, Su, Su] [(.ref b54), (.ref a1)])) rfl rfl (hb hby d16_15)
  have KC67 : Keep h0 h66 [a1] := KC63.wr W66 (Or.inl (List.mem_of_getElem? (i := 0) rfl))
  have F68 : Fld Z h66 a1 "com/example/darlington/darlington/core/StateLayout" "wordOf" "[I" (.ref b54) := F65.same W66
  have N69 := Fr.snoc X66 N53 g1
  obtain ⟨T70, h70, k70, X70, e70, E70, A70, st70⟩ := newP X66 hx hZ (ow hw 109 rfl) e66 (g := (mkF m 20 #[Sr a1, Sr a2, Si (3 : Int32), Su, Su, Su, Su, Su] [(.int (3 : Int32)), (.ref a1)])) rfl (hb hby d16_20) rfl (by decide) (cap := 3) (by decide) (by decide) (by decide) (by decide)
  obtain ⟨b70, g70⟩ : ∃ z, z = h66.size := ⟨_, rfl⟩
  rw [← g70] at A70 st70
  have F71 : Exa Z h66 a1 "com/example/darlington/darlington/core/StateLayout" := (F64.wr W66)
  have ne72 : a1 ≠ b70 := Nat.ne_of_lt (Nat.lt_of_lt_of_le F71.lt (Nat.le_of_eq g70.symm))
  have F73 : Exa Z h66 a2 "java/util/ArrayList" := ((Es.ext E54).wr W66)
  have ne74 : a2 ≠ b70 := Nat.ne_of_lt (Nat.lt_of_lt_of_le F73.lt (Nat.le_of_eq g70.symm))
  have F75 : Arv Z h66 a3 k3 (.object "java/lang/Object") (10 : Int32) [(.ref x0), (.ref x1), (.ref x2), .null, .null, .null, .null, .null, .null, .null] .null := ((V3.ext E54).other W66 n13)
  have ne76 : a3 ≠ b70 := Nat.ne_of_lt (Nat.lt_of_lt_of_le F75.lt (Nat.le_of_eq g70.symm))
  have F77 : Exa Z h66 x0 "com/example/darlington/darlington/core/IntegerRange" := ((EX0.ext E54).wr W66)
  have ne78 : x0 ≠ b70 := Nat.ne_of_lt (Nat.lt_of_lt_of_le F77.lt (Nat.le_of_eq g70.symm))
  have F79 : Exa Z h66 x1 "com/example/darlington/darlington/core/IntegerRange" := ((EX1.ext E54).wr W66)
  have ne80 : x1 ≠ b70 := Nat.ne_of_lt (Nat.lt_of_lt_of_le F79.lt (Nat.le_of_eq g70.symm))
  have F81 : Exa Z h66 x2 "com/example/darlington/darlington/core/IntegerRange" := ((EX2.ext E54).wr W66)
  have ne82 : x2 ≠ b70 := Nat.ne_of_lt (Nat.lt_of_lt_of_le F81.lt (Nat.le_of_eq g70.symm))
  have F83 : Arv Z h66 b54 k54 .int (3 : Int32) [(.int (0 : Int32)), (.int (0 : Int32)), (.int (0 : Int32))] (.int (0 : Int32)) := (V54.other W66 (Ne.symm ne55))
  have ne84 : b54 ≠ b70 := Nat.ne_of_lt (Nat.lt_of_lt_of_le F83.lt (Nat.le_of_eq g70.symm))
  have ge85 : n0 ≤ b70 := Nat.le_trans (Nat.le_trans Z0 KC67.1) (Nat.le_of_eq g70.symm)
  have sz86 : h0.size ≤ b70 := Nat.le_trans KC67.1 (Nat.le_of_eq g70.symm)
  have KC87 : Keep h0 h70 [a1] := KC67.ext E70
  have V70 : Arv Z h70 b70 k70 .int (3 : Int32) [(.int (0 : Int32)), (.int (0 : Int32)), (.int (0 : Int32))] (.int (0 : Int32)) := (Arv.new A70 (by decide)).pad (pad_rep [] (.int (0 : Int32)) 3)
  have F88 : Exa Z h70 a1 "com/example/darlington/darlington/core/StateLayout" := (F71.ext E70)
  have F89 : Fld Z h70 a1 "com/example/darlington/darlington/core/StateLayout" "shiftOf" "[I" .null := (((U1.ext E54).other W66 (Or.inr (slot_ne (Or.inr (ow hw 113 rfl)) (Or.inr (ow hw 111 rfl)) (by decide) (t := (.array .int)) (t' := (.array .int)) (by decide) (by decide)))).ext E70)
  obtain ⟨T90, h90, X90, e90, W90, st90⟩ := putF X70 hx hZ hown (host := "") (Or.inl (ow hw 112 rfl)) Via.refl e70 F89 F88 (Or.inr ⟨(ow hw 113 rfl), rfl, hnm⟩) (ow hw 95 rfl) (ty := (.array .int)) (by decide) rfl rfl (g := (mkF m 22 #[Sr a1, Sr a2, Si (3 : Int32), Su, Su, Su, Su, Su] [(.ref b70), (.ref a1)])) rfl rfl (hb hby d16_22)
  have KC91 : Keep h0 h90 [a1] := KC87.wr W90 (Or.inl (List.mem_of_getElem? (i := 0) rfl))
  have F92 : Fld Z h90 a1 "com/example/darlington/darlington/core/StateLayout" "shiftOf" "[I" (.ref b70) := F89.same W90
  have N93 := Fr.snoc X90 N69 g1
  obtain ⟨T94, h94, k94, X94, e94, E94, A94, st94⟩ := newP X90 hx hZ (ow hw 114 rfl) e90 (g := (mkF m 27 #[Sr a1, Sr a2, Si (3 : Int32), Su, Su, Su, Su, Su] [(.int (3 : Int32)), (.ref a1)])) rfl (hb hby d16_27) rfl (by decide) (cap := 3) (by decide) (by decide) (by decide) (by decide)
  obtain ⟨b94, g94⟩ : ∃ z, z = h90.size := ⟨_, rfl⟩
  rw [← g94] at A94 st94
  have F95 : Exa Z h90 a1 "com/example/darlington/darlington/core/StateLayout" := (F88.wr W90)
  have ne96 : a1 ≠ b94 := Nat.ne_of_lt (Nat.lt_of_lt_of_le F95.lt (Nat.le_of_eq g94.symm))
  have F97 : Exa Z h90 a2 "java/util/ArrayList" := ((F73.ext E70).wr W90)
  have ne98 : a2 ≠ b94 := Nat.ne_of_lt (Nat.lt_of_lt_of_le F97.lt (Nat.le_of_eq g94.symm))
  have F99 : Arv Z h90 a3 k3 (.object "java/lang/Object") (10 : Int32) [(.ref x0), (.ref x1), (.ref x2), .null, .null, .null, .null, .null, .null, .null] .null := ((F75.ext E70).other W90 n13)
  have ne100 : a3 ≠ b94 := Nat.ne_of_lt (Nat.lt_of_lt_of_le F99.lt (Nat.le_of_eq g94.symm))
  have F101 : Exa Z h90 x0 "com/example/darlington/darlington/core/IntegerRange" := ((F77.ext E70).wr W90)
  have ne102 : x0 ≠ b94 := Nat.ne_of_lt (Nat.lt_of_lt_of_le F101.lt (Nat.le_of_eq g94.symm))
  have F103 : Exa Z h90 x1 "com/example/darlington/darlington/core/IntegerRange" := ((F79.ext E70).wr W90)
  have ne104 : x1 ≠ b94 := Nat.ne_of_lt (Nat.lt_of_lt_of_le F103.lt (Nat.le_of_eq g94.symm))
  have F105 : Exa Z h90 x2 "com/example/darlington/darlington/core/IntegerRange" := ((F81.ext E70).wr W90)
  have ne106 : x2 ≠ b94 := Nat.ne_of_lt (Nat.lt_of_lt_of_le F105.lt (Nat.le_of_eq g94.symm))
  have F107 : Arv Z h90 b54 k54 .int (3 : Int32) [(.int (0 : Int32)), (.int (0 : Int32)), (.int (0 : Int32))] (.int (0 : Int32)) := ((F83.ext E70).other W90 (Ne.symm ne55))
  have ne108 : b54 ≠ b94 := Nat.ne_of_lt (Nat.lt_of_lt_of_le F107.lt (Nat.le_of_eq g94.symm))
  have F109 : Arv Z h90 b70 k70 .int (3 : Int32) [(.int (0 : Int32)), (.int (0 : Int32)), (.int (0 : Int32))] (.int (0 : Int32)) := (V70.other W90 (Ne.symm ne72))
  have ne110 : b70 ≠ b94 := Nat.ne_of_lt (Nat.lt_of_lt_of_le F109.lt (Nat.le_of_eq g94.symm))
  have ge111 : n0 ≤ b94 := Nat.le_trans (Nat.le_trans Z0 KC91.1) (Nat.le_of_eq g94.symm)
  have sz112 : h0.size ≤ b94 := Nat.le_trans KC91.1 (Nat.le_of_eq g94.symm)
  have KC113 : Keep h0 h94 [a1] := KC91.ext E94
  have V94 : Arv Z h94 b94 k94 .long (3 : Int32) [(.long (0 : Int64)), (.long (0 : Int64)), (.long (0 : Int64))] (.long (0 : Int64)) := (Arv.new A94 (by decide)).pad (pad_rep [] (.long (0 : Int64)) 3)
  have F114 : Exa Z h94 a1 "com/example/darlington/darlington/core/StateLayout" := (F95.ext E94)
  have F115 : Fld Z h94 a1 "com/example/darlington/darlington/core/StateLayout" "maskOf" "[J" .null := (((((U2.ext E54).other W66 (Or.inr (slot_ne (Or.inr (ow hw 116 rfl)) (Or.inr (ow hw 111 rfl)) (by decide) (t := (.array .long)) (t' := (.array .int)) (by decide) (by decide)))).ext E70).other W90 (Or.inr (slot_ne (Or.inr (ow hw 116 rfl)) (Or.inr (ow hw 113 rfl)) (by decide) (t := (.array .long)) (t' := (.array .int)) (by decide) (by decide)))).ext E94)
  obtain ⟨T116, h116, X116, e116, W116, st116⟩ := putF X94 hx hZ hown (host := "") (Or.inl (ow hw 115 rfl)) Via.refl e94 F115 F114 (Or.inr ⟨(ow hw 116 rfl), rfl, hnm⟩) (ow hw 95 rfl) (ty := (.array .long)) (by decide) rfl rfl (g := (mkF m 29 #[Sr a1, Sr a2, Si (3 : Int32), Su, Su, Su, Su, Su] [(.ref b94), (.ref a1)])) rfl rfl (hb hby d16_29)
  have KC117 : Keep h0 h116 [a1] := KC113.wr W116 (Or.inl (List.mem_of_getElem? (i := 0) rfl))
  have F118 : Fld Z h116 a1 "com/example/darlington/darlington/core/StateLayout" "maskOf" "[J" (.ref b94) := F115.same W116
  have N119 := Fr.snoc X116 N93 g1
  obtain ⟨T120, h120, k120, X120, e120, E120, A120, st120⟩ := newP X116 hx hZ (ow hw 109 rfl) e116 (g := (mkF m 34 #[Sr a1, Sr a2, Si (3 : Int32), Su, Su, Su, Su, Su] [(.int (3 : Int32)), (.ref a1)])) rfl (hb hby d16_34) rfl (by decide) (cap := 3) (by decide) (by decide) (by decide) (by decide)
  obtain ⟨b120, g120⟩ : ∃ z, z = h116.size := ⟨_, rfl⟩
  rw [← g120] at A120 st120
  have F121 : Exa Z h116 a1 "com/example/darlington/darlington/core/StateLayout" := (F114.wr W116)
  have ne122 : a1 ≠ b120 := Nat.ne_of_lt (Nat.lt_of_lt_of_le F121.lt (Nat.le_of_eq g120.symm))
  have F123 : Exa Z h116 a2 "java/util/ArrayList" := ((F97.ext E94).wr W116)
  have ne124 : a2 ≠ b120 := Nat.ne_of_lt (Nat.lt_of_lt_of_le F123.lt (Nat.le_of_eq g120.symm))
  have F125 : Arv Z h116 a3 k3 (.object "java/lang/Object") (10 : Int32) [(.ref x0), (.ref x1), (.ref x2), .null, .null, .null, .null, .null, .null, .null] .null := ((F99.ext E94).other W116 n13)
  have ne126 : a3 ≠ b120 := Nat.ne_of_lt (Nat.lt_of_lt_of_le F125.lt (Nat.le_of_eq g120.symm))
  have F127 : Exa Z h116 x0 "com/example/darlington/darlington/core/IntegerRange" := ((F101.ext E94).wr W116)
  have ne128 : x0 ≠ b120 := Nat.ne_of_lt (Nat.lt_of_lt_of_le F127.lt (Nat.le_of_eq g120.symm))
  have F129 : Exa Z h116 x1 "com/example/darlington/darlington/core/IntegerRange" := ((F103.ext E94).wr W116)
  have ne130 : x1 ≠ b120 := Nat.ne_of_lt (Nat.lt_of_lt_of_le F129.lt (Nat.le_of_eq g120.symm))
  have F131 : Exa Z h116 x2 "com/example/darlington/darlington/core/IntegerRange" := ((F105.ext E94).wr W116)
  have ne132 : x2 ≠ b120 := Nat.ne_of_lt (Nat.lt_of_lt_of_le F131.lt (Nat.le_of_eq g120.symm))
  have F133 : Arv Z h116 b54 k54 .int (3 : Int32) [(.int (0 : Int32)), (.int (0 : Int32)), (.int (0 : Int32))] (.int (0 : Int32)) := ((F107.ext E94).other W116 (Ne.symm ne55))
  have ne134 : b54 ≠ b120 := Nat.ne_of_lt (Nat.lt_of_lt_of_le F133.lt (Nat.le_of_eq g120.symm))
  have F135 : Arv Z h116 b70 k70 .int (3 : Int32) [(.int (0 : Int32)), (.int (0 : Int32)), (.int (0 : Int32))] (.int (0 : Int32)) := ((F109.ext E94).other W116 (Ne.symm ne72))
  have ne136 : b70 ≠ b120 := Nat.ne_of_lt (Nat.lt_of_lt_of_le F135.lt (Nat.le_of_eq g120.symm))
  have F137 : Arv Z h116 b94 k94 .long (3 : Int32) [(.long (0 : Int64)), (.long (0 : Int64)), (.long (0 : Int64))] (.long (0 : Int64)) := (V94.other W116 (Ne.symm ne96))
  have ne138 : b94 ≠ b120 := Nat.ne_of_lt (Nat.lt_of_lt_of_le F137.lt (Nat.le_of_eq g120.symm))
  have ge139 : n0 ≤ b120 := Nat.le_trans (Nat.le_trans Z0 KC117.1) (Nat.le_of_eq g120.symm)
  have sz140 : h0.size ≤ b120 := Nat.le_trans KC117.1 (Nat.le_of_eq g120.symm)
  have KC141 : Keep h0 h120 [a1] := KC117.ext E120
  have V120 : Arv Z h120 b120 k120 .int (3 : Int32) [(.int (0 : Int32)), (.int (0 : Int32)), (.int (0 : Int32))] (.int (0 : Int32)) := (Arv.new A120 (by decide)).pad (pad_rep [] (.int (0 : Int32)) 3)
  have F142 : Exa Z h120 a1 "com/example/darlington/darlington/core/StateLayout" := (F121.ext E120)
  have F143 : Fld Z h120 a1 "com/example/darlington/darlington/core/StateLayout" "firstOf" "[I" .null := (((((((U3.ext E54).other W66 (Or.inr (slot_ne (Or.inr (ow hw 118 rfl)) (Or.inr (ow hw 111 rfl)) (by decide) (t := (.array .int)) (t' := (.array .int)) (by decide) (by decide)))).ext E70).other W90 (Or.inr (slot_ne (Or.inr (ow hw 118 rfl)) (Or.inr (ow hw 113 rfl)) (by decide) (t := (.array .int)) (t' := (.array .int)) (by decide) (by decide)))).ext E94).other W116 (Or.inr (slot_ne (Or.inr (ow hw 118 rfl)) (Or.inr (ow hw 116 rfl)) (by decide) (t := (.array .int)) (t' := (.array .long)) (by decide) (by decide)))).ext E120)
  obtain ⟨T144, h144, X144, e144, W144, st144⟩ := putF X120 hx hZ hown (host := "") (Or.inl (ow hw 117 rfl)) Via.refl e120 F143 F142 (Or.inr ⟨(ow hw 118 rfl), rfl, hnm⟩) (ow hw 95 rfl) (ty := (.array .int)) (by decide) rfl rfl (g := (mkF m 36 #[Sr a1, Sr a2, Si (3 : Int32), Su, Su, Su, Su, Su] [(.ref b120), (.ref a1)])) rfl rfl (hb hby d16_36)
  have KC145 : Keep h0 h144 [a1] := KC141.wr W144 (Or.inl (List.mem_of_getElem? (i := 0) rfl))
  have F146 : Fld Z h144 a1 "com/example/darlington/darlington/core/StateLayout" "firstOf" "[I" (.ref b120) := F143.same W144
  have N147 := Fr.snoc X144 N119 g1
  have F148 : Exa Z h144 a2 "java/util/ArrayList" := ((F123.ext E120).wr W144)
  have F149 : Fld Z h144 a2 "java/util/ArrayList" "size" "I" (.int (3 : Int32)) := ((((((((Fs.ext E54).other W66 (Or.inl n12)).ext E70).other W90 (Or.inl n12)).ext E94).other W116 (Or.inl n12)).ext E120).other W144 (Or.inl n12))
  have F150 : Fld Z h144 a2 "java/util/ArrayList" "elementData" "[Ljava/lang/Object;" (.ref a3) := ((((((((Fd.ext E54).other W66 (Or.inl n12)).ext E70).other W90 (Or.inl n12)).ext E94).other W116 (Or.inl n12)).ext E120).other W144 (Or.inl n12))
  have F151 : Arv Z h144 a3 k3 (.object "java/lang/Object") (10 : Int32) [(.ref x0), (.ref x1), (.ref x2), .null, .null, .null, .null, .null, .null, .null] .null := ((F125.ext E120).other W144 n13)
  obtain ⟨cq152, kq152, q152a, q152b, q152c⟩ := isOf hZ e144 F148
  obtain ⟨_, _, ⟨T152, L152, k152, n152⟩, -, X152, ⟨Lc152, hQ152, l152, y152, z152⟩, st152⟩ := X144.interfaceBack hx (xi := (⟨"java/util/List", "get", "(I)Ljava/lang/Object;"⟩ : MethodName)) (y := (⟨"java/util/ArrayList", "get", "(I)Ljava/lang/Object;"⟩ : MethodName)) hown (mvT hZ (ow hw 119 rfl)) (mvT hZ (ow hw 120 rfl)) (mvT hZ (ow hw 121 rfl)) (mvT hZ (ow hw 122 rfl)) (mvT hZ (ow hw 123 rfl)) (mvT hZ (ow hw 124 rfl)) (mvT hZ (ow hw 125 rfl)) (mvT hZ (ow hw 66 rfl)) (by decide) (backOf (W := 0) (rm_get0 l Z a0 hw [] a2 a3 k3 x0 x1 x2 h144 n0 (Nat.le_trans Z0 KC145.1) F148 F149 F150 F151) hZ (ow hw 126 rfl) (ow hw 15 rfl) (by decide) (by decide)) q152a q152b q152c (g := (mkF m 56 #[Sr a1, Sr a2, Si (3 : Int32), Si (0 : Int32), Si (1 : Int32), Si (0 : Int32), Su, Su] [(.int (0 : Int32)), (.ref a2)])) rfl (by rw [hml]; rfl) (Steps.refl _) (argsL := [(.int (0 : Int32))]) (rest := []) (lenOf pd_6 rfl) rfl (by show 2 * 0 + _ ≤ _; exact Nat.le_of_eq rfl) (hb hby d16_56) (fun _ _ => ⟨rfl, e144, (by decide : 4 + 0 ≤ _), (by decide : 12 + 0 ≤ _)⟩)
  dsimp only [Pt.U, Pt.locs, Pt.cells, Pt.slots] at X152 l152 y152 z152 st152 hQ152
  subst y152 z152
  obtain ⟨rfl, Nq152, q152_0⟩ := hQ152
  have N153 := Eq.subst (motive := fun L => Fr n0 L) l152.symm (Fr.app N147 Nq152)
  have F154 : Exa Z h144 x0 "com/example/darlington/darlington/core/IntegerRange" := ((F127.ext E120).wr W144)
  obtain ⟨T155, X155, e155, st155⟩ := castY X152 hx hZ hown (ow hw 140 rfl) q152_0 (Ins.of_exa F154 (ow hw 141 rfl)) (g := (mkF m 61 #[Sr a1, Sr a2, Si (3 : Int32), Si (0 : Int32), Si (1 : Int32), Si (0 : Int32), Su, Su] [(.ref x0)])) rfl rfl (hb hby d16_61)
  have F156 : Fld Z h144 x0 "com/example/darlington/darlington/core/FiniteType" "size" "I" (.int z0) := ((((((((Xz0.ext E54).other W66 (Or.inl nx0)).ext E70).other W90 (Or.inl nx0)).ext E94).other W116 (Or.inl nx0)).ext E120).other W144 (Or.inl nx0))
  obtain ⟨cq157, kq157, q157a, q157b, q157c⟩ := isOf hZ e155 F154
  obtain ⟨_, _, ⟨T157, L157, k157, n157⟩, -, X157, ⟨Lc157, hQ157, l157, y157, z157⟩, st157⟩ := X155.virtualBack hx (y := (⟨"com/example/darlington/darlington/core/FiniteType", "size", "()I"⟩ : MethodName)) (z := (⟨"com/example/darlington/darlington/core/FiniteType", "size", "()I"⟩ : MethodName)) hown (mvT hZ (ow hw 142 rfl)) (mvT hZ (ow hw 143 rfl)) (notFace_of_selects (args := #[]) (mvT hZ (ow hw 145 rfl))) (mvT hZ (ow hw 145 rfl)) (mvT hZ (ow hw 144 rfl)) (by decide) (backOf (W := 1) (rm22 l Z a0 hw [] x0 z0 h144 n0 (Nat.le_trans Z0 KC145.1) F156) hZ (ow hw 146 rfl) (ow hw 52 rfl) (by decide) (by decide)) q157a q157c (g := (mkF m 70 #[Sr a1, Sr a2, Si (3 : Int32), Si (0 : Int32), Si (1 : Int32), Si (0 : Int32), Sr x0, Su] [(.ref x0), (.int (32 : Int32))])) rfl (by rw [hml]; rfl) (Steps.refl _) (argsL := []) (rest := [(.int (32 : Int32))]) (lenOf pd_8 rfl) rfl (by show 2 * 0 + _ ≤ _; exact Nat.le_of_eq rfl) (hb hby d16_70) (fun _ _ => ⟨rfl, e155, (by decide : 4 + 0 ≤ _), (by decide : 12 + 0 ≤ _)⟩)
  dsimp only [Pt.U, Pt.locs, Pt.cells, Pt.slots] at X157 l157 y157 z157 st157 hQ157
  subst y157 z157
  obtain ⟨rfl, Nq157, q157_0⟩ := hQ157
  have N158 := Eq.subst (motive := fun L => Fr n0 L) l157.symm (Fr.app N153 Nq157)
  obtain ⟨_, _, ⟨T159, L159, k159, n159⟩, -, X159, ⟨Lc159, hQ159, l159, y159, z159⟩, st159⟩ := Jvm.LawKit.callS X157 hx (y := (⟨"java/lang/Integer", "numberOfLeadingZeros", "(I)I"⟩ : MethodName)) hown (mvT hZ (ow hw 147 rfl)) (mvT hZ (ow hw 148 rfl)) (mvT hZ (ow hw 149 rfl)) (mvT hZ (ow hw 150 rfl)) (by decide) (backOf (W := 1) (rm23 l Z a0 hw [] (z0 - (1 : Int32)) h144 n0 (Nat.le_trans Z0 KC145.1)) hZ (ow hw 150 rfl) (ow hw 149 rfl) (by decide) (by decide)) (g := (mkF m 75 #[Sr a1, Sr a2, Si (3 : Int32), Si (0 : Int32), Si (1 : Int32), Si (0 : Int32), Sr x0, Su] [(.int (z0 - (1 : Int32))), (.int (32 : Int32))])) rfl (by rw [hml]; rfl) (argsL := [(.int (z0 - (1 : Int32)))]) (rest := [(.int (32 : Int32))]) (lenOf pd_9 rfl) rfl (by show 2 * 0 + _ ≤ _; exact Nat.le_of_eq rfl) (hb hby d16_75) (fun _ _ => ⟨rfl, q157_0, (by decide : 4 + 0 ≤ _), (by decide : 12 + 0 ≤ _)⟩)
  dsimp only [Pt.U, Pt.locs, Pt.cells, Pt.slots] at X159 l159 y159 z159 st159 hQ159
  subst y159 z159
  obtain ⟨rfl, Nq159, q159_0⟩ := hQ159
  have N160 := Eq.subst (motive := fun L => Fr n0 L) l159.symm (Fr.app N158 Nq159)
  have pre161 : ∀ t, Steps p.tables e below (T159.setTop (mkF m 81 #[Sr a1, Sr a2, Si (3 : Int32), Si (0 : Int32), Si (1 : Int32), Si (0 : Int32), Sr x0, Si ((32 : Int32) - (own_nlz (z0 - (1 : Int32))))] [])) t → Steps p.tables e below (s₁.setTop (entryFrame m #[(.ref a1), (.ref a2)] 8)) t := by
    intro t k
    refine pre0 t ?_
    refine XS.aloadN X0.here hx rfl (hb hby d16_0) rfl rfl ?_
    refine st51 _ ?_
    refine XS.aloadN X51.here hx rfl (hb hby d16_4) rfl rfl ?_
    refine st52.trans ?_
    refine XS.istoreN X52.here hx rfl (hb hby d16_10) rfl (l' := #[Sr a1, Sr a2, Si (3 : Int32), Su, Su, Su, Su, Su]) rfl ?_
    refine XS.aloadN X52.here hx rfl (hb hby d16_11) rfl rfl ?_
    refine XS.iloadN X52.here hx rfl (hb hby d16_12) rfl ?_
    refine st54 _ ?_
    show Steps _ _ _ (T54.setTop (mkF m 15 #[Sr a1, Sr a2, Si (3 : Int32), Su, Su, Su, Su, Su] [(.ref b54), (.ref a1)])) _
    refine st66 _ ?_
    refine XS.aloadN X66.here hx rfl (hb hby d16_18) rfl rfl ?_
    refine XS.iloadN X66.here hx rfl (hb hby d16_19) rfl ?_
    refine st70 _ ?_
    refine st90 _ ?_
    refine XS.aloadN X90.here hx rfl (hb hby d16_25) rfl rfl ?_
    refine XS.iloadN X90.here hx rfl (hb hby d16_26) rfl ?_
    refine st94 _ ?_
    show Steps _ _ _ (T94.setTop (mkF m 29 #[Sr a1, Sr a2, Si (3 : Int32), Su, Su, Su, Su, Su] [(.ref b94), (.ref a1)])) _
    refine st116 _ ?_
    refine XS.aloadN X116.here hx rfl (hb hby d16_32) rfl rfl ?_
    refine XS.iloadN X116.here hx rfl (hb hby d16_33) rfl ?_
    refine st120 _ ?_
    refine st144 _ ?_
    refine XS.iconst X144.here hx rfl (hb hby d16_39) ?_
    refine XS.istoreN X144.here hx rfl (hb hby d16_40) rfl (l' := #[Sr a1, Sr a2, Si (3 : Int32), Si (0 : Int32), Su, Su, Su, Su]) rfl ?_
    refine XS.iconst X144.here hx rfl (hb hby d16_41) ?_
    show Steps _ _ _ (T144.setTop (mkF m 42 #[Sr a1, Sr a2, Si (3 : Int32), Si (0 : Int32), Su, Su, Su, Su] [(.int (1 : Int32))])) _
    refine XS.istore X144.here hx rfl (hb hby d16_42) rfl (l' := #[Sr a1, Sr a2, Si (3 : Int32), Si (0 : Int32), Si (1 : Int32), Su, Su, Su]) rfl ?_
    refine XS.iconst X144.here hx rfl (hb hby d16_44) ?_
    refine XS.istore X144.here hx rfl (hb hby d16_45) rfl (l' := #[Sr a1, Sr a2, Si (3 : Int32), Si (0 : Int32), Si (1 : Int32), Si (0 : Int32), Su, Su]) rfl ?_
    refine XS.iload X144.here hx rfl (hb hby d16_47) rfl ?_
    refine XS.iloadN X144.here hx rfl (hb hby d16_49) rfl ?_
    refine XS.icmpNo X144.here hx rfl (hb hby d16_50) rfl (tlt (by decide)).2.1 ?_
    refine XS.aloadN X144.here hx rfl (hb hby d16_53) rfl rfl ?_
    refine XS.iload X144.here hx rfl (hb hby d16_54) rfl ?_
    show Steps _ _ _ (T144.setTop (mkF m 56 #[Sr a1, Sr a2, Si (3 : Int32), Si (0 : Int32), Si (1 : Int32), Si (0 : Int32), Su, Su] [(.int (0 : Int32)), (.ref a2)])) _
    refine st152.trans ?_
    refine st155 _ ?_
    refine XS.astore X155.here hx rfl (hb hby d16_64) rfl rfl (l' := #[Sr a1, Sr a2, Si (3 : Int32), Si (0 : Int32), Si (1 : Int32), Si (0 : Int32), Sr x0, Su]) rfl ?_
    refine XS.bipush X155.here hx rfl (hb hby d16_66) ?_
    refine XS.aload X155.here hx rfl (hb hby d16_68) rfl rfl ?_
    refine st157.trans ?_
    refine XS.iconst X157.here hx rfl (hb hby d16_73) ?_
    refine XS.isub X157.here hx rfl (hb hby d16_74) rfl ?_
    show Steps _ _ _ (T157.setTop (mkF m 75 #[Sr a1, Sr a2, Si (3 : Int32), Si (0 : Int32), Si (1 : Int32), Si (0 : Int32), Sr x0, Su] [(.int (z0 - (1 : Int32))), (.int (32 : Int32))])) _
    refine st159 _ ?_
    refine XS.isub X159.here hx rfl (hb hby d16_78) rfl ?_
    refine XS.istore X159.here hx rfl (hb hby d16_79) rfl (l' := #[Sr a1, Sr a2, Si (3 : Int32), Si (0 : Int32), Si (1 : Int32), Si (0 : Int32), Sr x0, Si ((32 : Int32) - (own_nlz (z0 - (1 : Int32))))]) rfl ?_
    exact k
  have pre162 : ∀ t, Steps p.tables e below (T159.setTop (mkF m 81 #[Sr a1, Sr a2, Si (3 : Int32), Si (0 : Int32), Si (1 : Int32), Si (0 : Int32), Sr x0, Si (own_bits z0)] [])) t → Steps p.tables e below (s₁.setTop (entryFrame m #[(.ref a1), (.ref a2)] 8)) t := pre161
  have hc163 : ¬ ((64 : Int32) < ((1 : Int32) + (own_bits z0))) := hu0
  have F164 : Fld Z h144 a1 "com/example/darlington/darlington/core/StateLayout" "wordOf" "[I" (.ref b54) := ((((((F68.ext E70).other W90 (Or.inr (slot_ne (Or.inr (ow hw 111 rfl)) (Or.inr (ow hw 113 rfl)) (by decide) (t := (.array .int)) (t' := (.array .int)) (by decide) (by decide)))).ext E94).other W116 (Or.inr (slot_ne (Or.inr (ow hw 111 rfl)) (Or.inr (ow hw 116 rfl)) (by decide) (t := (.array .int)) (t' := (.array .long)) (by decide) (by decide)))).ext E120).other W144 (Or.inr (slot_ne (Or.inr (ow hw 111 rfl)) (Or.inr (ow hw 118 rfl)) (by decide) (t := (.array .int)) (t' := (.array .int)) (by decide) (by decide))))
  obtain ⟨T165, X165, e165, st165⟩ := getF X159 hx hZ hown (host := "") (Or.inl (ow hw 110 rfl)) Via.refl q159_0 F164 (g := (mkF m 98 #[Sr a1, Sr a2, Si (3 : Int32), Si (0 : Int32), Si (1 : Int32), Si (0 : Int32), Sr x0, Si (own_bits z0)] [(.ref a1)])) rfl rfl (hb hby d16_98)
  have F166 : Arv Z h144 b54 k54 .int (3 : Int32) [(.int (0 : Int32)), (.int (0 : Int32)), (.int (0 : Int32))] (.int (0 : Int32)) := ((F133.ext E120).other W144 (Ne.symm ne55))
  obtain ⟨c167, Arc167, Aqc167, Asc167, Anc167, Ahc167, Agc167⟩ := id F166
  have hin168 : ¬ ((0 : Int32) < 0 ∨ c167.slots.size ≤ ((0 : Int32)).toNatClampNeg) := inb_of Asc167 ⟨by decide, by decide⟩
  obtain ⟨T169, h169, X169, e169, W169, st169⟩ := stI X165 hx hZ e165 Arc167 (j := (0 : Int32)) hin168 (g := (mkF m 104 #[Sr a1, Sr a2, Si (3 : Int32), Si (0 : Int32), Si (1 : Int32), Si (0 : Int32), Sr x0, Si (own_bits z0)] [(.int (0 : Int32)), (.int (0 : Int32)), (.ref b54)])) rfl rfl (hb hby d16_104)
  have KC170 : Keep h0 h169 [a1] := KC145.wr W169 (Or.inr sz62)
  have V169 : Arv Z h169 b54 k54 .int (3 : Int32) [(.int (0 : Int32)), (.int (0 : Int32)), (.int (0 : Int32))] (.int (0 : Int32)) := Arv.set Arc167 Aqc167 Asc167 Anc167 Ahc167 Agc167 rfl W169 0 rfl (Nat.le_of_ble_eq_true rfl)
  have N171 := Fr.snoc X169 N160 ge61
  have F172 : Fld Z h169 a1 "com/example/darlington/darlington/core/StateLayout" "shiftOf" "[I" (.ref b70) := (((((F92.ext E94).other W116 (Or.inr (slot_ne (Or.inr (ow hw 113 rfl)) (Or.inr (ow hw 116 rfl)) (by decide) (t := (.array .int)) (t' := (.array .long)) (by decide) (by decide)))).ext E120).other W144 (Or.inr (slot_ne (Or.inr (ow hw 113 rfl)) (Or.inr (ow hw 118 rfl)) (by decide) (t := (.array .int)) (t' := (.array .int)) (by decide) (by decide)))).other W169 (Or.inl ne55))
  obtain ⟨T173, X173, e173, st173⟩ := getF X169 hx hZ hown (host := "") (Or.inl (ow hw 112 rfl)) Via.refl e169 F172 (g := (mkF m 106 #[Sr a1, Sr a2, Si (3 : Int32), Si (0 : Int32), Si (1 : Int32), Si (0 : Int32), Sr x0, Si (own_bits z0)] [(.ref a1)])) rfl rfl (hb hby d16_106)
  have F174 : Arv Z h169 b70 k70 .int (3 : Int32) [(.int (0 : Int32)), (.int (0 : Int32)), (.int (0 : Int32))] (.int (0 : Int32)) := (((F135.ext E120).other W144 (Ne.symm ne72)).other W169 (Ne.symm ne84))
  obtain ⟨c175, Arc175, Aqc175, Asc175, Anc175, Ahc175, Agc175⟩ := id F174
  have hin176 : ¬ ((0 : Int32) < 0 ∨ c175.slots.size ≤ ((0 : Int32)).toNatClampNeg) := inb_of Asc175 ⟨by decide, by decide⟩
  obtain ⟨T177, h177, X177, e177, W177, st177⟩ := stI X173 hx hZ e173 Arc175 (j := (0 : Int32)) hin176 (g := (mkF m 113 #[Sr a1, Sr a2, Si (3 : Int32), Si (0 : Int32), Si (1 : Int32), Si (0 : Int32), Sr x0, Si (own_bits z0)] [(.int (1 : Int32)), (.int (0 : Int32)), (.ref b70)])) rfl rfl (hb hby d16_113)
  have KC178 : Keep h0 h177 [a1] := KC170.wr W177 (Or.inr sz86)
  have V177 : Arv Z h177 b70 k70 .int (3 : Int32) [(.int (1 : Int32)), (.int (0 : Int32)), (.int (0 : Int32))] (.int (0 : Int32)) := Arv.set Arc175 Aqc175 Asc175 Anc175 Ahc175 Agc175 rfl W177 0 rfl (Nat.le_of_ble_eq_true rfl)
  have N179 := Fr.snoc X177 N171 ge85
  have F180 : Fld Z h177 a1 "com/example/darlington/darlington/core/StateLayout" "maskOf" "[J" (.ref b94) := ((((F118.ext E120).other W144 (Or.inr (slot_ne (Or.inr (ow hw 116 rfl)) (Or.inr (ow hw 118 rfl)) (by decide) (t := (.array .long)) (t' := (.array .int)) (by decide) (by decide)))).other W169 (Or.inl ne55)).other W177 (Or.inl ne72))
  obtain ⟨T181, X181, e181, st181⟩ := getF X177 hx hZ hown (host := "") (Or.inl (ow hw 115 rfl)) Via.refl e177 F180 (g := (mkF m 115 #[Sr a1, Sr a2, Si (3 : Int32), Si (0 : Int32), Si (1 : Int32), Si (0 : Int32), Sr x0, Si (own_bits z0)] [(.ref a1)])) rfl rfl (hb hby d16_115)
  have pre182 : ∀ t, Steps p.tables e below (T181.setTop (mkF m 126 #[Sr a1, Sr a2, Si (3 : Int32), Si (0 : Int32), Si (1 : Int32), Si (0 : Int32), Sr x0, Si (own_bits z0)] [(.long (((1 : Int64) <<< ((own_bits z0) &&& 0x3f).toInt64) - (1 : Int64))), (.int (0 : Int32)), (.ref b94)])) t → Steps p.tables e below (s₁.setTop (entryFrame m #[(.ref a1), (.ref a2)] 8)) t := by
    intro t k
    refine pre162 t ?_
    refine XS.iload X159.here hx rfl (hb hby d16_81) rfl ?_
    refine XS.iload X159.here hx rfl (hb hby d16_83) rfl ?_
    refine XS.iadd X159.here hx rfl (hb hby d16_85) rfl ?_
    refine XS.bipush X159.here hx rfl (hb hby d16_86) ?_
    refine XS.icmpYes X159.here hx rfl (pc0 := 88) (pc' := 97) rfl (hb hby d16_88) rfl (flt hc163).2.2.2 (by decide) (by decide) ?_
    show Steps _ _ _ (T159.setTop (mkF m 97 #[Sr a1, Sr a2, Si (3 : Int32), Si (0 : Int32), Si (1 : Int32), Si (0 : Int32), Sr x0, Si (own_bits z0)] [])) _
    refine XS.aloadN X159.here hx rfl (hb hby d16_97) rfl rfl ?_
    refine st165 _ ?_
    refine XS.iload X165.here hx rfl (hb hby d16_101) rfl ?_
    refine XS.iloadN X165.here hx rfl (hb hby d16_103) rfl ?_
    refine st169 _ ?_
    refine XS.aloadN X169.here hx rfl (hb hby d16_105) rfl rfl ?_
    refine st173 _ ?_
    refine XS.iload X173.here hx rfl (hb hby d16_109) rfl ?_
    show Steps _ _ _ (T173.setTop (mkF m 111 #[Sr a1, Sr a2, Si (3 : Int32), Si (0 : Int32), Si (1 : Int32), Si (0 : Int32), Sr x0, Si (own_bits z0)] [(.int (0 : Int32)), (.ref b70)])) _
    refine XS.iload X173.here hx rfl (hb hby d16_111) rfl ?_
    refine st177 _ ?_
    refine XS.aloadN X177.here hx rfl (hb hby d16_114) rfl rfl ?_
    refine st181 _ ?_
    refine XS.iload X181.here hx rfl (hb hby d16_118) rfl ?_
    refine XS.lconst X181.here hx rfl (hb hby d16_120) ?_
    refine XS.iload X181.here hx rfl (hb hby d16_121) rfl ?_
    refine XS.lshl X181.here hx rfl (hb hby d16_123) rfl ?_
    show Steps _ _ _ (T181.setTop (mkF m 124 #[Sr a1, Sr a2, Si (3 : Int32), Si (0 : Int32), Si (1 : Int32), Si (0 : Int32), Sr x0, Si (own_bits z0)] [(.long ((1 : Int64) <<< ((own_bits z0) &&& 0x3f).toInt64)), (.int (0 : Int32)), (.ref b94)])) _
    refine XS.lconst X181.here hx rfl (hb hby d16_124) ?_
    refine XS.lsub X181.here hx rfl (hb hby d16_125) rfl ?_
    exact k
  have pre183 : ∀ t, Steps p.tables e below (T181.setTop (mkF m 126 #[Sr a1, Sr a2, Si (3 : Int32), Si (0 : Int32), Si (1 : Int32), Si (0 : Int32), Sr x0, Si (own_bits z0)] [(.long (own_msk z0)), (.int (0 : Int32)), (.ref b94)])) t → Steps p.tables e below (s₁.setTop (entryFrame m #[(.ref a1), (.ref a2)] 8)) t := pre182
  have F184 : Arv Z h177 b94 k94 .long (3 : Int32) [(.long (0 : Int64)), (.long (0 : Int64)), (.long (0 : Int64))] (.long (0 : Int64)) := ((((F137.ext E120).other W144 (Ne.symm ne96)).other W169 (Ne.symm ne108)).other W177 (Ne.symm ne110))
  obtain ⟨c185, Arc185, Aqc185, Asc185, Anc185, Ahc185, Agc185⟩ := id F184
  have hin186 : ¬ ((0 : Int32) < 0 ∨ c185.slots.size ≤ ((0 : Int32)).toNatClampNeg) := inb_of Asc185 ⟨by decide, by decide⟩
  obtain ⟨T187, h187, X187, e187, W187, st187⟩ := stJ X181 hx hZ e181 Arc185 (j := (0 : Int32)) hin186 (g := (mkF m 126 #[Sr a1, Sr a2, Si (3 : Int32), Si (0 : Int32), Si (1 : Int32), Si (0 : Int32), Sr x0, Si (own_bits z0)] [(.long (own_msk z0)), (.int (0 : Int32)), (.ref b94)])) rfl rfl (hb hby d16_126)
  have KC188 : Keep h0 h187 [a1] := KC178.wr W187 (Or.inr sz112)
  have V187 : Arv Z h187 b94 k94 .long (3 : Int32) [(.long (own_msk z0)), (.long (0 : Int64)), (.long (0 : Int64))] (.long (0 : Int64)) := Arv.set Arc185 Aqc185 Asc185 Anc185 Ahc185 Agc185 rfl W187 0 rfl (Nat.le_of_ble_eq_true rfl)
  have N189 := Fr.snoc X187 N179 ge111
  have F190 : Fld Z h187 a1 "com/example/darlington/darlington/core/StateLayout" "firstOf" "[I" (.ref b120) := (((F146.other W169 (Or.inl ne55)).other W177 (Or.inl ne72)).other W187 (Or.inl ne96))
  obtain ⟨T191, X191, e191, st191⟩ := getF X187 hx hZ hown (host := "") (Or.inl (ow hw 117 rfl)) Via.refl e187 F190 (g := (mkF m 128 #[Sr a1, Sr a2, Si (3 : Int32), Si (0 : Int32), Si (1 : Int32), Si (0 : Int32), Sr x0, Si (own_bits z0)] [(.ref a1)])) rfl rfl (hb hby d16_128)
  have F192 : Fld Z h187 x0 "com/example/darlington/darlington/core/FiniteType" "first" "I" (.int f0) := (((((((((((Xf0.ext E54).other W66 (Or.inl nx0)).ext E70).other W90 (Or.inl nx0)).ext E94).other W116 (Or.inl nx0)).ext E120).other W144 (Or.inl nx0)).other W169 (Or.inl ne58)).other W177 (Or.inl ne78)).other W187 (Or.inl ne102))
  have F193 : Fld Z h187 x0 "com/example/darlington/darlington/core/FiniteType" "size" "I" (.int z0) := (((F156.other W169 (Or.inl ne58)).other W177 (Or.inl ne78)).other W187 (Or.inl ne102))
  have F195 : Exa Z h187 x0 "com/example/darlington/darlington/core/IntegerRange" := (((F154.wr W169).wr W177).wr W187)
  obtain ⟨cq194, kq194, q194a, q194b, q194c⟩ := isOf hZ e191 F195
  obtain ⟨_, _, ⟨T194, L194, k194, n194⟩, -, X194, ⟨Lc194, hQ194, l194, y194, z194⟩, st194⟩ := X191.virtualBack hx (y := (⟨"com/example/darlington/darlington/core/FiniteType", "valueAt", "(I)I"⟩ : MethodName)) (z := (⟨"com/example/darlington/darlington/core/FiniteType", "valueAt", "(I)I"⟩ : MethodName)) hown (mvT hZ (ow hw 151 rfl)) (mvT hZ (ow hw 152 rfl)) (notFace_of_selects (args := #[]) (mvT hZ (ow hw 154 rfl))) (mvT hZ (ow hw 154 rfl)) (mvT hZ (ow hw 153 rfl)) (by decide) (backOf (W := 2) (rm24 l Z a0 hw [] x0 f0 z0 h187 n0 (Nat.le_trans Z0 KC188.1) F192 F193 hz0) hZ (ow hw 155 rfl) (ow hw 52 rfl) (by decide) (by decide)) q194a q194c (g := (mkF m 136 #[Sr a1, Sr a2, Si (3 : Int32), Si (0 : Int32), Si (1 : Int32), Si (0 : Int32), Sr x0, Si (own_bits z0)] [(.int (0 : Int32)), (.ref x0), (.int (0 : Int32)), (.ref b120)])) rfl (by rw [hml]; rfl) (Steps.refl _) (argsL := [(.int (0 : Int32))]) (rest := [(.int (0 : Int32)), (.ref b120)]) (lenOf pd_9 rfl) rfl (by show 2 * 0 + _ ≤ _; exact Nat.le_of_eq rfl) (hb hby d16_136) (fun _ _ => ⟨rfl, e191, (by decide : 4 + 0 ≤ _), (by decide : 12 + 0 ≤ _)⟩)
  dsimp only [Pt.U, Pt.locs, Pt.cells, Pt.slots] at X194 l194 y194 z194 st194 hQ194
  subst y194 z194
  obtain ⟨rfl, Nq194, q194_0⟩ := hQ194
  have N196 := Eq.subst (motive := fun L => Fr n0 L) l194.symm (Fr.app N189 Nq194)
  have F197 : Arv Z h187 b120 k120 .int (3 : Int32) [(.int (0 : Int32)), (.int (0 : Int32)), (.int (0 : Int32))] (.int (0 : Int32)) := ((((V120.other W144 (Ne.symm ne122)).other W169 (Ne.symm ne134)).other W177 (Ne.symm ne136)).other W187 (Ne.symm ne138))
  obtain ⟨c198, Arc198, Aqc198, Asc198, Anc198, Ahc198, Agc198⟩ := id F197
  have hin199 : ¬ ((0 : Int32) < 0 ∨ c198.slots.size ≤ ((0 : Int32)).toNatClampNeg) := inb_of Asc198 ⟨by decide, by decide⟩
  obtain ⟨T200, h200, X200, e200, W200, st200⟩ := stI X194 hx hZ q194_0 Arc198 (j := (0 : Int32)) hin199 (g := (mkF m 139 #[Sr a1, Sr a2, Si (3 : Int32), Si (0 : Int32), Si (1 : Int32), Si (0 : Int32), Sr x0, Si (own_bits z0)] [(.int (f0 + (0 : Int32))), (.int (0 : Int32)), (.ref b120)])) rfl rfl (hb hby d16_139)
  have KC201 : Keep h0 h200 [a1] := KC188.wr W200 (Or.inr sz140)
  have V200 : Arv Z h200 b120 k120 .int (3 : Int32) [(.int (f0 + (0 : Int32))), (.int (0 : Int32)), (.int (0 : Int32))] (.int (0 : Int32)) := Arv.set Arc198 Aqc198 Asc198 Anc198 Ahc198 Agc198 rfl W200 0 rfl (Nat.le_of_ble_eq_true rfl)
  have N202 := Fr.snoc X200 N196 ge139
  have F203 : Exa Z h200 a2 "java/util/ArrayList" := ((((F148.wr W169).wr W177).wr W187).wr W200)
  have F204 : Fld Z h200 a2 "java/util/ArrayList" "size" "I" (.int (3 : Int32)) := ((((F149.other W169 (Or.inl ne56)).other W177 (Or.inl ne74)).other W187 (Or.inl ne98)).other W200 (Or.inl ne124))
  have F205 : Fld Z h200 a2 "java/util/ArrayList" "elementData" "[Ljava/lang/Object;" (.ref a3) := ((((F150.other W169 (Or.inl ne56)).other W177 (Or.inl ne74)).other W187 (Or.inl ne98)).other W200 (Or.inl ne124))
  have F206 : Arv Z h200 a3 k3 (.object "java/lang/Object") (10 : Int32) [(.ref x0), (.ref x1), (.ref x2), .null, .null, .null, .null, .null, .null, .null] .null := ((((F151.other W169 ne57).other W177 ne76).other W187 ne100).other W200 ne126)
  obtain ⟨cq207, kq207, q207a, q207b, q207c⟩ := isOf hZ e200 F203
  obtain ⟨_, _, ⟨T207, L207, k207, n207⟩, -, X207, ⟨Lc207, hQ207, l207, y207, z207⟩, st207⟩ := X200.interfaceBack hx (xi := (⟨"java/util/List", "get", "(I)Ljava/lang/Object;"⟩ : MethodName)) (y := (⟨"java/util/ArrayList", "get", "(I)Ljava/lang/Object;"⟩ : MethodName)) hown (mvT hZ (ow hw 119 rfl)) (mvT hZ (ow hw 120 rfl)) (mvT hZ (ow hw 121 rfl)) (mvT hZ (ow hw 122 rfl)) (mvT hZ (ow hw 123 rfl)) (mvT hZ (ow hw 124 rfl)) (mvT hZ (ow hw 125 rfl)) (mvT hZ (ow hw 66 rfl)) (by decide) (backOf (W := 0) (rm_get1 l Z a0 hw [] a2 a3 k3 x0 x1 x2 h200 n0 (Nat.le_trans Z0 KC201.1) F203 F204 F205 F206) hZ (ow hw 126 rfl) (ow hw 15 rfl) (by decide) (by decide)) q207a q207b q207c (g := (mkF m 56 #[Sr a1, Sr a2, Si (3 : Int32), Si (0 : Int32), Si ((1 : Int32) + (own_bits z0)), Si (1 : Int32), Sr x0, Si (own_bits z0)] [(.int (1 : Int32)), (.ref a2)])) rfl (by rw [hml]; rfl) (Steps.refl _) (argsL := [(.int (1 : Int32))]) (rest := []) (lenOf pd_6 rfl) rfl (by show 2 * 0 + _ ≤ _; exact Nat.le_of_eq rfl) (hb hby d16_56) (fun _ _ => ⟨rfl, e200, (by decide : 4 + 0 ≤ _), (by decide : 12 + 0 ≤ _)⟩)
  dsimp only [Pt.U, Pt.locs, Pt.cells, Pt.slots] at X207 l207 y207 z207 st207 hQ207
  subst y207 z207
  obtain ⟨rfl, Nq207, q207_0⟩ := hQ207
  have N208 := Eq.subst (motive := fun L => Fr n0 L) l207.symm (Fr.app N202 Nq207)
  have F209 : Exa Z h200 x1 "com/example/darlington/darlington/core/IntegerRange" := ((((((F129.ext E120).wr W144).wr W169).wr W177).wr W187).wr W200)
  obtain ⟨T210, X210, e210, st210⟩ := castY X207 hx hZ hown (ow hw 140 rfl) q207_0 (Ins.of_exa F209 (ow hw 141 rfl)) (g := (mkF m 61 #[Sr a1, Sr a2, Si (3 : Int32), Si (0 : Int32), Si ((1 : Int32) + (own_bits z0)), Si (1 : Int32), Sr x0, Si (own_bits z0)] [(.ref x1)])) rfl rfl (hb hby d16_61)
  have F211 : Fld Z h200 x1 "com/example/darlington/darlington/core/FiniteType" "size" "I" (.int z1) := ((((((((((((Xz1.ext E54).other W66 (Or.inl nx1)).ext E70).other W90 (Or.inl nx1)).ext E94).other W116 (Or.inl nx1)).ext E120).other W144 (Or.inl nx1)).other W169 (Or.inl ne59)).other W177 (Or.inl ne80)).other W187 (Or.inl ne104)).other W200 (Or.inl ne130))
  obtain ⟨cq212, kq212, q212a, q212b, q212c⟩ := isOf hZ e210 F209
  obtain ⟨_, _, ⟨T212, L212, k212, n212⟩, -, X212, ⟨Lc212, hQ212, l212, y212, z212⟩, st212⟩ := X210.virtualBack hx (y := (⟨"com/example/darlington/darlington/core/FiniteType", "size", "()I"⟩ : MethodName)) (z := (⟨"com/example/darlington/darlington/core/FiniteType", "size", "()I"⟩ : MethodName)) hown (mvT hZ (ow hw 142 rfl)) (mvT hZ (ow hw 143 rfl)) (notFace_of_selects (args := #[]) (mvT hZ (ow hw 145 rfl))) (mvT hZ (ow hw 145 rfl)) (mvT hZ (ow hw 144 rfl)) (by decide) (backOf (W := 1) (rm22 l Z a0 hw [] x1 z1 h200 n0 (Nat.le_trans Z0 KC201.1) F211) hZ (ow hw 146 rfl) (ow hw 52 rfl) (by decide) (by decide)) q212a q212c (g := (mkF m 70 #[Sr a1, Sr a2, Si (3 : Int32), Si (0 : Int32), Si ((1 : Int32) + (own_bits z0)), Si (1 : Int32), Sr x1, Si (own_bits z0)] [(.ref x1), (.int (32 : Int32))])) rfl (by rw [hml]; rfl) (Steps.refl _) (argsL := []) (rest := [(.int (32 : Int32))]) (lenOf pd_8 rfl) rfl (by show 2 * 0 + _ ≤ _; exact Nat.le_of_eq rfl) (hb hby d16_70) (fun _ _ => ⟨rfl, e210, (by decide : 4 + 0 ≤ _), (by decide : 12 + 0 ≤ _)⟩)
  dsimp only [Pt.U, Pt.locs, Pt.cells, Pt.slots] at X212 l212 y212 z212 st212 hQ212
  subst y212 z212
  obtain ⟨rfl, Nq212, q212_0⟩ := hQ212
  have N213 := Eq.subst (motive := fun L => Fr n0 L) l212.symm (Fr.app N208 Nq212)
  obtain ⟨_, _, ⟨T214, L214, k214, n214⟩, -, X214, ⟨Lc214, hQ214, l214, y214, z214⟩, st214⟩ := Jvm.LawKit.callS X212 hx (y := (⟨"java/lang/Integer", "numberOfLeadingZeros", "(I)I"⟩ : MethodName)) hown (mvT hZ (ow hw 147 rfl)) (mvT hZ (ow hw 148 rfl)) (mvT hZ (ow hw 149 rfl)) (mvT hZ (ow hw 150 rfl)) (by decide) (backOf (W := 1) (rm23 l Z a0 hw [] (z1 - (1 : Int32)) h200 n0 (Nat.le_trans Z0 KC201.1)) hZ (ow hw 150 rfl) (ow hw 149 rfl) (by decide) (by decide)) (g := (mkF m 75 #[Sr a1, Sr a2, Si (3 : Int32), Si (0 : Int32), Si ((1 : Int32) + (own_bits z0)), Si (1 : Int32), Sr x1, Si (own_bits z0)] [(.int (z1 - (1 : Int32))), (.int (32 : Int32))])) rfl (by rw [hml]; rfl) (argsL := [(.int (z1 - (1 : Int32)))]) (rest := [(.int (32 : Int32))]) (lenOf pd_9 rfl) rfl (by show 2 * 0 + _ ≤ _; exact Nat.le_of_eq rfl) (hb hby d16_75) (fun _ _ => ⟨rfl, q212_0, (by decide : 4 + 0 ≤ _), (by decide : 12 + 0 ≤ _)⟩)
  dsimp only [Pt.U, Pt.locs, Pt.cells, Pt.slots] at X214 l214 y214 z214 st214 hQ214
  subst y214 z214
  obtain ⟨rfl, Nq214, q214_0⟩ := hQ214
  have N215 := Eq.subst (motive := fun L => Fr n0 L) l214.symm (Fr.app N213 Nq214)
  have pre216 : ∀ t, Steps p.tables e below (T214.setTop (mkF m 81 #[Sr a1, Sr a2, Si (3 : Int32), Si (0 : Int32), Si ((1 : Int32) + (own_bits z0)), Si (1 : Int32), Sr x1, Si ((32 : Int32) - (own_nlz (z1 - (1 : Int32))))] [])) t → Steps p.tables e below (s₁.setTop (entryFrame m #[(.ref a1), (.ref a2)] 8)) t := by
    intro t k
    refine pre183 t ?_
    refine st187 _ ?_
    refine XS.aloadN X187.here hx rfl (hb hby d16_127) rfl rfl ?_
    refine st191 _ ?_
    refine XS.iload X191.here hx rfl (hb hby d16_131) rfl ?_
    refine XS.aload X191.here hx rfl (hb hby d16_133) rfl rfl ?_
    refine XS.iconst X191.here hx rfl (hb hby d16_135) ?_
    show Steps _ _ _ (T191.setTop (mkF m 136 #[Sr a1, Sr a2, Si (3 : Int32), Si (0 : Int32), Si (1 : Int32), Si (0 : Int32), Sr x0, Si (own_bits z0)] [(.int (0 : Int32)), (.ref x0), (.int (0 : Int32)), (.ref b120)])) _
    refine st194.trans ?_
    refine st200 _ ?_
    refine XS.iload X200.here hx rfl (hb hby d16_140) rfl ?_
    refine XS.iload X200.here hx rfl (hb hby d16_142) rfl ?_
    refine XS.iadd X200.here hx rfl (hb hby d16_144) rfl ?_
    refine XS.istore X200.here hx rfl (hb hby d16_145) rfl (l' := #[Sr a1, Sr a2, Si (3 : Int32), Si (0 : Int32), Si ((1 : Int32) + (own_bits z0)), Si (0 : Int32), Sr x0, Si (own_bits z0)]) rfl ?_
    refine XS.iinc X200.here hx rfl (hb hby d16_147) rfl (l' := #[Sr a1, Sr a2, Si (3 : Int32), Si (0 : Int32), Si ((1 : Int32) + (own_bits z0)), Si (1 : Int32), Sr x0, Si (own_bits z0)]) rfl ?_
    refine XS.goto X200.here hx rfl (pc0 := 150) (pc' := 47) rfl (hb hby d16_150) (by decide) (by decide) ?_
    show Steps _ _ _ (T200.setTop (mkF m 47 #[Sr a1, Sr a2, Si (3 : Int32), Si (0 : Int32), Si ((1 : Int32) + (own_bits z0)), Si (1 : Int32), Sr x0, Si (own_bits z0)] [])) _
    refine XS.iload X200.here hx rfl (hb hby d16_47) rfl ?_
    refine XS.iloadN X200.here hx rfl (hb hby d16_49) rfl ?_
    refine XS.icmpNo X200.here hx rfl (hb hby d16_50) rfl (tlt (by decide)).2.1 ?_
    refine XS.aloadN X200.here hx rfl (hb hby d16_53) rfl rfl ?_
    refine XS.iload X200.here hx rfl (hb hby d16_54) rfl ?_
    refine st207.trans ?_
    refine st210 _ ?_
    refine XS.astore X210.here hx rfl (hb hby d16_64) rfl rfl (l' := #[Sr a1, Sr a2, Si (3 : Int32), Si (0 : Int32), Si ((1 : Int32) + (own_bits z0)), Si (1 : Int32), Sr x1, Si (own_bits z0)]) rfl ?_
    show Steps _ _ _ (T210.setTop (mkF m 66 #[Sr a1, Sr a2, Si (3 : Int32), Si (0 : Int32), Si ((1 : Int32) + (own_bits z0)), Si (1 : Int32), Sr x1, Si (own_bits z0)] [])) _
    refine XS.bipush X210.here hx rfl (hb hby d16_66) ?_
    refine XS.aload X210.here hx rfl (hb hby d16_68) rfl rfl ?_
    refine st212.trans ?_
    refine XS.iconst X212.here hx rfl (hb hby d16_73) ?_
    refine XS.isub X212.here hx rfl (hb hby d16_74) rfl ?_
    refine st214 _ ?_
    refine XS.isub X214.here hx rfl (hb hby d16_78) rfl ?_
    refine XS.istore X214.here hx rfl (hb hby d16_79) rfl (l' := #[Sr a1, Sr a2, Si (3 : Int32), Si (0 : Int32), Si ((1 : Int32) + (own_bits z0)), Si (1 : Int32), Sr x1, Si ((32 : Int32) - (own_nlz (z1 - (1 : Int32))))]) rfl ?_
    show Steps _ _ _ (T214.setTop (mkF m 81 #[Sr a1, Sr a2, Si (3 : Int32), Si (0 : Int32), Si ((1 : Int32) + (own_bits z0)), Si (1 : Int32), Sr x1, Si ((32 : Int32) - (own_nlz (z1 - (1 : Int32))))] [])) _
    exact k
  have pre217 : ∀ t, Steps p.tables e below (T214.setTop (mkF m 81 #[Sr a1, Sr a2, Si (3 : Int32), Si (0 : Int32), Si ((1 : Int32) + (own_bits z0)), Si (1 : Int32), Sr x1, Si (own_bits z1)] [])) t → Steps p.tables e below (s₁.setTop (entryFrame m #[(.ref a1), (.ref a2)] 8)) t := pre216
  have hc218 : ¬ ((64 : Int32) < (((1 : Int32) + (own_bits z0)) + (own_bits z1))) := hu1
  have F219 : Fld Z h200 a1 "com/example/darlington/darlington/core/StateLayout" "wordOf" "[I" (.ref b54) := ((((F164.other W169 (Or.inl ne55)).other W177 (Or.inl ne72)).other W187 (Or.inl ne96)).other W200 (Or.inl ne122))
  obtain ⟨T220, X220, e220, st220⟩ := getF X214 hx hZ hown (host := "") (Or.inl (ow hw 110 rfl)) Via.refl q214_0 F219 (g := (mkF m 98 #[Sr a1, Sr a2, Si (3 : Int32), Si (0 : Int32), Si ((1 : Int32) + (own_bits z0)), Si (1 : Int32), Sr x1, Si (own_bits z1)] [(.ref a1)])) rfl rfl (hb hby d16_98)
  have F221 : Arv Z h200 b54 k54 .int (3 : Int32) [(.int (0 : Int32)), (.int (0 : Int32)), (.int (0 : Int32))] (.int (0 : Int32)) := (((V169.other W177 ne84).other W187 ne108).other W200 ne134)
  obtain ⟨c222, Arc222, Aqc222, Asc222, Anc222, Ahc222, Agc222⟩ := id F221
  have hin223 : ¬ ((1 : Int32) < 0 ∨ c222.slots.size ≤ ((1 : Int32)).toNatClampNeg) := inb_of Asc222 ⟨by decide, by decide⟩
  obtain ⟨T224, h224, X224, e224, W224, st224⟩ := stI X220 hx hZ e220 Arc222 (j := (1 : Int32)) hin223 (g := (mkF m 104 #[Sr a1, Sr a2, Si (3 : Int32), Si (0 : Int32), Si ((1 : Int32) + (own_bits z0)), Si (1 : Int32), Sr x1, Si (own_bits z1)] [(.int (0 : Int32)), (.int (1 : Int32)), (.ref b54)])) rfl rfl (hb hby d16_104)
  have KC225 : Keep h0 h224 [a1] := KC201.wr W224 (Or.inr sz62)
  have V224 : Arv Z h224 b54 k54 .int (3 : Int32) [(.int (0 : Int32)), (.int (0 : Int32)), (.int (0 : Int32))] (.int (0 : Int32)) := Arv.set Arc222 Aqc222 Asc222 Anc222 Ahc222 Agc222 rfl W224 1 rfl (Nat.le_of_ble_eq_true rfl)
  have N226 := Fr.snoc X224 N215 ge61
  have F227 : Fld Z h224 a1 "com/example/darlington/darlington/core/StateLayout" "shiftOf" "[I" (.ref b70) := ((((F172.other W177 (Or.inl ne72)).other W187 (Or.inl ne96)).other W200 (Or.inl ne122)).other W224 (Or.inl ne55))
  obtain ⟨T228, X228, e228, st228⟩ := getF X224 hx hZ hown (host := "") (Or.inl (ow hw 112 rfl)) Via.refl e224 F227 (g := (mkF m 106 #[Sr a1, Sr a2, Si (3 : Int32), Si (0 : Int32), Si ((1 : Int32) + (own_bits z0)), Si (1 : Int32), Sr x1, Si (own_bits z1)] [(.ref a1)])) rfl rfl (hb hby d16_106)
  have F229 : Arv Z h224 b70 k70 .int (3 : Int32) [(.int (1 : Int32)), (.int (0 : Int32)), (.int (0 : Int32))] (.int (0 : Int32)) := (((V177.other W187 ne110).other W200 ne136).other W224 (Ne.symm ne84))
  obtain ⟨c230, Arc230, Aqc230, Asc230, Anc230, Ahc230, Agc230⟩ := id F229
  have hin231 : ¬ ((1 : Int32) < 0 ∨ c230.slots.size ≤ ((1 : Int32)).toNatClampNeg) := inb_of Asc230 ⟨by decide, by decide⟩
  obtain ⟨T232, h232, X232, e232, W232, st232⟩ := stI X228 hx hZ e228 Arc230 (j := (1 : Int32)) hin231 (g := (mkF m 113 #[Sr a1, Sr a2, Si (3 : Int32), Si (0 : Int32), Si ((1 : Int32) + (own_bits z0)), Si (1 : Int32), Sr x1, Si (own_bits z1)] [(.int ((1 : Int32) + (own_bits z0))), (.int (1 : Int32)), (.ref b70)])) rfl rfl (hb hby d16_113)
  have KC233 : Keep h0 h232 [a1] := KC225.wr W232 (Or.inr sz86)
  have V232 : Arv Z h232 b70 k70 .int (3 : Int32) [(.int (1 : Int32)), (.int ((1 : Int32) + (own_bits z0))), (.int (0 : Int32))] (.int (0 : Int32)) := Arv.set Arc230 Aqc230 Asc230 Anc230 Ahc230 Agc230 rfl W232 1 rfl (Nat.le_of_ble_eq_true rfl)
  have N234 := Fr.snoc X232 N226 ge85
  have F235 : Fld Z h232 a1 "com/example/darlington/darlington/core/StateLayout" "maskOf" "[J" (.ref b94) := ((((F180.other W187 (Or.inl ne96)).other W200 (Or.inl ne122)).other W224 (Or.inl ne55)).other W232 (Or.inl ne72))
  obtain ⟨T236, X236, e236, st236⟩ := getF X232 hx hZ hown (host := "") (Or.inl (ow hw 115 rfl)) Via.refl e232 F235 (g := (mkF m 115 #[Sr a1, Sr a2, Si (3 : Int32), Si (0 : Int32), Si ((1 : Int32) + (own_bits z0)), Si (1 : Int32), Sr x1, Si (own_bits z1)] [(.ref a1)])) rfl rfl (hb hby d16_115)
  have pre237 : ∀ t, Steps p.tables e below (T236.setTop (mkF m 126 #[Sr a1, Sr a2, Si (3 : Int32), Si (0 : Int32), Si ((1 : Int32) + (own_bits z0)), Si (1 : Int32), Sr x1, Si (own_bits z1)] [(.long (((1 : Int64) <<< ((own_bits z1) &&& 0x3f).toInt64) - (1 : Int64))), (.int (1 : Int32)), (.ref b94)])) t → Steps p.tables e below (s₁.setTop (entryFrame m #[(.ref a1), (.ref a2)] 8)) t := by
    intro t k
    refine pre217 t ?_
    refine XS.iload X214.here hx rfl (hb hby d16_81) rfl ?_
    refine XS.iload X214.here hx rfl (hb hby d16_83) rfl ?_
    refine XS.iadd X214.here hx rfl (hb hby d16_85) rfl ?_
    refine XS.bipush X214.here hx rfl (hb hby d16_86) ?_
    refine XS.icmpYes X214.here hx rfl (pc0 := 88) (pc' := 97) rfl (hb hby d16_88) rfl (flt hc218).2.2.2 (by decide) (by decide) ?_
    refine XS.aloadN X214.here hx rfl (hb hby d16_97) rfl rfl ?_
    refine st220 _ ?_
    refine XS.iload X220.here hx rfl (hb hby d16_101) rfl ?_
    show Steps _ _ _ (T220.setTop (mkF m 103 #[Sr a1, Sr a2, Si (3 : Int32), Si (0 : Int32), Si ((1 : Int32) + (own_bits z0)), Si (1 : Int32), Sr x1, Si (own_bits z1)] [(.int (1 : Int32)), (.ref b54)])) _
    refine XS.iloadN X220.here hx rfl (hb hby d16_103) rfl ?_
    refine st224 _ ?_
    refine XS.aloadN X224.here hx rfl (hb hby d16_105) rfl rfl ?_
    refine st228 _ ?_
    refine XS.iload X228.here hx rfl (hb hby d16_109) rfl ?_
    refine XS.iload X228.here hx rfl (hb hby d16_111) rfl ?_
    refine st232 _ ?_
    refine XS.aloadN X232.here hx rfl (hb hby d16_114) rfl rfl ?_
    show Steps _ _ _ (T232.setTop (mkF m 115 #[Sr a1, Sr a2, Si (3 : Int32), Si (0 : Int32), Si ((1 : Int32) + (own_bits z0)), Si (1 : Int32), Sr x1, Si (own_bits z1)] [(.ref a1)])) _
    refine st236 _ ?_
    refine XS.iload X236.here hx rfl (hb hby d16_118) rfl ?_
    refine XS.lconst X236.here hx rfl (hb hby d16_120) ?_
    refine XS.iload X236.here hx rfl (hb hby d16_121) rfl ?_
    refine XS.lshl X236.here hx rfl (hb hby d16_123) rfl ?_
    refine XS.lconst X236.here hx rfl (hb hby d16_124) ?_
    refine XS.lsub X236.here hx rfl (hb hby d16_125) rfl ?_
    exact k
  have pre238 : ∀ t, Steps p.tables e below (T236.setTop (mkF m 126 #[Sr a1, Sr a2, Si (3 : Int32), Si (0 : Int32), Si ((1 : Int32) + (own_bits z0)), Si (1 : Int32), Sr x1, Si (own_bits z1)] [(.long (own_msk z1)), (.int (1 : Int32)), (.ref b94)])) t → Steps p.tables e below (s₁.setTop (entryFrame m #[(.ref a1), (.ref a2)] 8)) t := pre237
  have F239 : Arv Z h232 b94 k94 .long (3 : Int32) [(.long (own_msk z0)), (.long (0 : Int64)), (.long (0 : Int64))] (.long (0 : Int64)) := (((V187.other W200 ne138).other W224 (Ne.symm ne108)).other W232 (Ne.symm ne110))
  obtain ⟨c240, Arc240, Aqc240, Asc240, Anc240, Ahc240, Agc240⟩ := id F239
  have hin241 : ¬ ((1 : Int32) < 0 ∨ c240.slots.size ≤ ((1 : Int32)).toNatClampNeg) := inb_of Asc240 ⟨by decide, by decide⟩
  obtain ⟨T242, h242, X242, e242, W242, st242⟩ := stJ X236 hx hZ e236 Arc240 (j := (1 : Int32)) hin241 (g := (mkF m 126 #[Sr a1, Sr a2, Si (3 : Int32), Si (0 : Int32), Si ((1 : Int32) + (own_bits z0)), Si (1 : Int32), Sr x1, Si (own_bits z1)] [(.long (own_msk z1)), (.int (1 : Int32)), (.ref b94)])) rfl rfl (hb hby d16_126)
  have KC243 : Keep h0 h242 [a1] := KC233.wr W242 (Or.inr sz112)
  have V242 : Arv Z h242 b94 k94 .long (3 : Int32) [(.long (own_msk z0)), (.long (own_msk z1)), (.long (0 : Int64))] (.long (0 : Int64)) := Arv.set Arc240 Aqc240 Asc240 Anc240 Ahc240 Agc240 rfl W242 1 rfl (Nat.le_of_ble_eq_true rfl)
  have N244 := Fr.snoc X242 N234 ge111
  have F245 : Fld Z h242 a1 "com/example/darlington/darlington/core/StateLayout" "firstOf" "[I" (.ref b120) := ((((F190.other W200 (Or.inl ne122)).other W224 (Or.inl ne55)).other W232 (Or.inl ne72)).other W242 (Or.inl ne96))
  obtain ⟨T246, X246, e246, st246⟩ := getF X242 hx hZ hown (host := "") (Or.inl (ow hw 117 rfl)) Via.refl e242 F245 (g := (mkF m 128 #[Sr a1, Sr a2, Si (3 : Int32), Si (0 : Int32), Si ((1 : Int32) + (own_bits z0)), Si (1 : Int32), Sr x1, Si (own_bits z1)] [(.ref a1)])) rfl rfl (hb hby d16_128)
  have F247 : Fld Z h242 x1 "com/example/darlington/darlington/core/FiniteType" "first" "I" (.int f1) := (((((((((((((((Xf1.ext E54).other W66 (Or.inl nx1)).ext E70).other W90 (Or.inl nx1)).ext E94).other W116 (Or.inl nx1)).ext E120).other W144 (Or.inl nx1)).other W169 (Or.inl ne59)).other W177 (Or.inl ne80)).other W187 (Or.inl ne104)).other W200 (Or.inl ne130)).other W224 (Or.inl ne59)).other W232 (Or.inl ne80)).other W242 (Or.inl ne104))
  have F248 : Fld Z h242 x1 "com/example/darlington/darlington/core/FiniteType" "size" "I" (.int z1) := (((F211.other W224 (Or.inl ne59)).other W232 (Or.inl ne80)).other W242 (Or.inl ne104))
  have F250 : Exa Z h242 x1 "com/example/darlington/darlington/core/IntegerRange" := (((F209.wr W224).wr W232).wr W242)
  obtain ⟨cq249, kq249, q249a, q249b, q249c⟩ := isOf hZ e246 F250
  obtain ⟨_, _, ⟨T249, L249, k249, n249⟩, -, X249, ⟨Lc249, hQ249, l249, y249, z249⟩, st249⟩ := X246.virtualBack hx (y := (⟨"com/example/darlington/darlington/core/FiniteType", "valueAt", "(I)I"⟩ : MethodName)) (z := (⟨"com/example/darlington/darlington/core/FiniteType", "valueAt", "(I)I"⟩ : MethodName)) hown (mvT hZ (ow hw 151 rfl)) (mvT hZ (ow hw 152 rfl)) (notFace_of_selects (args := #[]) (mvT hZ (ow hw 154 rfl))) (mvT hZ (ow hw 154 rfl)) (mvT hZ (ow hw 153 rfl)) (by decide) (backOf (W := 2) (rm24 l Z a0 hw [] x1 f1 z1 h242 n0 (Nat.le_trans Z0 KC243.1) F247 F248 hz1) hZ (ow hw 155 rfl) (ow hw 52 rfl) (by decide) (by decide)) q249a q249c (g := (mkF m 136 #[Sr a1, Sr a2, Si (3 : Int32), Si (0 : Int32), Si ((1 : Int32) + (own_bits z0)), Si (1 : Int32), Sr x1, Si (own_bits z1)] [(.int (0 : Int32)), (.ref x1), (.int (1 : Int32)), (.ref b120)])) rfl (by rw [hml]; rfl) (Steps.refl _) (argsL := [(.int (0 : Int32))]) (rest := [(.int (1 : Int32)), (.ref b120)]) (lenOf pd_9 rfl) rfl (by show 2 * 0 + _ ≤ _; exact Nat.le_of_eq rfl) (hb hby d16_136) (fun _ _ => ⟨rfl, e246, (by decide : 4 + 0 ≤ _), (by decide : 12 + 0 ≤ _)⟩)
  dsimp only [Pt.U, Pt.locs, Pt.cells, Pt.slots] at X249 l249 y249 z249 st249 hQ249
  subst y249 z249
  obtain ⟨rfl, Nq249, q249_0⟩ := hQ249
  have N251 := Eq.subst (motive := fun L => Fr n0 L) l249.symm (Fr.app N244 Nq249)
  have F252 : Arv Z h242 b120 k120 .int (3 : Int32) [(.int (f0 + (0 : Int32))), (.int (0 : Int32)), (.int (0 : Int32))] (.int (0 : Int32)) := (((V200.other W224 (Ne.symm ne134)).other W232 (Ne.symm ne136)).other W242 (Ne.symm ne138))
  obtain ⟨c253, Arc253, Aqc253, Asc253, Anc253, Ahc253, Agc253⟩ := id F252
  have hin254 : ¬ ((1 : Int32) < 0 ∨ c253.slots.size ≤ ((1 : Int32)).toNatClampNeg) := inb_of Asc253 ⟨by decide, by decide⟩
  obtain ⟨T255, h255, X255, e255, W255, st255⟩ := stI X249 hx hZ q249_0 Arc253 (j := (1 : Int32)) hin254 (g := (mkF m 139 #[Sr a1, Sr a2, Si (3 : Int32), Si (0 : Int32), Si ((1 : Int32) + (own_bits z0)), Si (1 : Int32), Sr x1, Si (own_bits z1)] [(.int (f1 + (0 : Int32))), (.int (1 : Int32)), (.ref b120)])) rfl rfl (hb hby d16_139)
  have KC256 : Keep h0 h255 [a1] := KC243.wr W255 (Or.inr sz140)
  have V255 : Arv Z h255 b120 k120 .int (3 : Int32) [(.int (f0 + (0 : Int32))), (.int (f1 + (0 : Int32))), (.int (0 : Int32))] (.int (0 : Int32)) := Arv.set Arc253 Aqc253 Asc253 Anc253 Ahc253 Agc253 rfl W255 1 rfl (Nat.le_of_ble_eq_true rfl)
  have N257 := Fr.snoc X255 N251 ge139
  have F258 : Exa Z h255 a2 "java/util/ArrayList" := ((((F203.wr W224).wr W232).wr W242).wr W255)
  have F259 : Fld Z h255 a2 "java/util/ArrayList" "size" "I" (.int (3 : Int32)) := ((((F204.other W224 (Or.inl ne56)).other W232 (Or.inl ne74)).other W242 (Or.inl ne98)).other W255 (Or.inl ne124))
  have F260 : Fld Z h255 a2 "java/util/ArrayList" "elementData" "[Ljava/lang/Object;" (.ref a3) := ((((F205.other W224 (Or.inl ne56)).other W232 (Or.inl ne74)).other W242 (Or.inl ne98)).other W255 (Or.inl ne124))
  have F261 : Arv Z h255 a3 k3 (.object "java/lang/Object") (10 : Int32) [(.ref x0), (.ref x1), (.ref x2), .null, .null, .null, .null, .null, .null, .null] .null := ((((F206.other W224 ne57).other W232 ne76).other W242 ne100).other W255 ne126)
  obtain ⟨cq262, kq262, q262a, q262b, q262c⟩ := isOf hZ e255 F258
  obtain ⟨_, _, ⟨T262, L262, k262, n262⟩, -, X262, ⟨Lc262, hQ262, l262, y262, z262⟩, st262⟩ := X255.interfaceBack hx (xi := (⟨"java/util/List", "get", "(I)Ljava/lang/Object;"⟩ : MethodName)) (y := (⟨"java/util/ArrayList", "get", "(I)Ljava/lang/Object;"⟩ : MethodName)) hown (mvT hZ (ow hw 119 rfl)) (mvT hZ (ow hw 120 rfl)) (mvT hZ (ow hw 121 rfl)) (mvT hZ (ow hw 122 rfl)) (mvT hZ (ow hw 123 rfl)) (mvT hZ (ow hw 124 rfl)) (mvT hZ (ow hw 125 rfl)) (mvT hZ (ow hw 66 rfl)) (by decide) (backOf (W := 0) (rm_get2 l Z a0 hw [] a2 a3 k3 x0 x1 x2 h255 n0 (Nat.le_trans Z0 KC256.1) F258 F259 F260 F261) hZ (ow hw 126 rfl) (ow hw 15 rfl) (by decide) (by decide)) q262a q262b q262c (g := (mkF m 56 #[Sr a1, Sr a2, Si (3 : Int32), Si (0 : Int32), Si (((1 : Int32) + (own_bits z0)) + (own_bits z1)), Si (2 : Int32), Sr x1, Si (own_bits z1)] [(.int (2 : Int32)), (.ref a2)])) rfl (by rw [hml]; rfl) (Steps.refl _) (argsL := [(.int (2 : Int32))]) (rest := []) (lenOf pd_6 rfl) rfl (by show 2 * 0 + _ ≤ _; exact Nat.le_of_eq rfl) (hb hby d16_56) (fun _ _ => ⟨rfl, e255, (by decide : 4 + 0 ≤ _), (by decide : 12 + 0 ≤ _)⟩)
  dsimp only [Pt.U, Pt.locs, Pt.cells, Pt.slots] at X262 l262 y262 z262 st262 hQ262
  subst y262 z262
  obtain ⟨rfl, Nq262, q262_0⟩ := hQ262
  have N263 := Eq.subst (motive := fun L => Fr n0 L) l262.symm (Fr.app N257 Nq262)
  have F264 : Exa Z h255 x2 "com/example/darlington/darlington/core/IntegerRange" := ((((((((((F131.ext E120).wr W144).wr W169).wr W177).wr W187).wr W200).wr W224).wr W232).wr W242).wr W255)
  obtain ⟨T265, X265, e265, st265⟩ := castY X262 hx hZ hown (ow hw 140 rfl) q262_0 (Ins.of_exa F264 (ow hw 141 rfl)) (g := (mkF m 61 #[Sr a1, Sr a2, Si (3 : Int32), Si (0 : Int32), Si (((1 : Int32) + (own_bits z0)) + (own_bits z1)), Si (2 : Int32), Sr x1, Si (own_bits z1)] [(.ref x2)])) rfl rfl (hb hby d16_61)
  have F266 : Fld Z h255 x2 "com/example/darlington/darlington/core/FiniteType" "size" "I" (.int z2) := ((((((((((((((((Xz2.ext E54).other W66 (Or.inl nx2)).ext E70).other W90 (Or.inl nx2)).ext E94).other W116 (Or.inl nx2)).ext E120).other W144 (Or.inl nx2)).other W169 (Or.inl ne60)).other W177 (Or.inl ne82)).other W187 (Or.inl ne106)).other W200 (Or.inl ne132)).other W224 (Or.inl ne60)).other W232 (Or.inl ne82)).other W242 (Or.inl ne106)).other W255 (Or.inl ne132))
  obtain ⟨cq267, kq267, q267a, q267b, q267c⟩ := isOf hZ e265 F264
  obtain ⟨_, _, ⟨T267, L267, k267, n267⟩, -, X267, ⟨Lc267, hQ267, l267, y267, z267⟩, st267⟩ := X265.virtualBack hx (y := (⟨"com/example/darlington/darlington/core/FiniteType", "size", "()I"⟩ : MethodName)) (z := (⟨"com/example/darlington/darlington/core/FiniteType", "size", "()I"⟩ : MethodName)) hown (mvT hZ (ow hw 142 rfl)) (mvT hZ (ow hw 143 rfl)) (notFace_of_selects (args := #[]) (mvT hZ (ow hw 145 rfl))) (mvT hZ (ow hw 145 rfl)) (mvT hZ (ow hw 144 rfl)) (by decide) (backOf (W := 1) (rm22 l Z a0 hw [] x2 z2 h255 n0 (Nat.le_trans Z0 KC256.1) F266) hZ (ow hw 146 rfl) (ow hw 52 rfl) (by decide) (by decide)) q267a q267c (g := (mkF m 70 #[Sr a1, Sr a2, Si (3 : Int32), Si (0 : Int32), Si (((1 : Int32) + (own_bits z0)) + (own_bits z1)), Si (2 : Int32), Sr x2, Si (own_bits z1)] [(.ref x2), (.int (32 : Int32))])) rfl (by rw [hml]; rfl) (Steps.refl _) (argsL := []) (rest := [(.int (32 : Int32))]) (lenOf pd_8 rfl) rfl (by show 2 * 0 + _ ≤ _; exact Nat.le_of_eq rfl) (hb hby d16_70) (fun _ _ => ⟨rfl, e265, (by decide : 4 + 0 ≤ _), (by decide : 12 + 0 ≤ _)⟩)
  dsimp only [Pt.U, Pt.locs, Pt.cells, Pt.slots] at X267 l267 y267 z267 st267 hQ267
  subst y267 z267
  obtain ⟨rfl, Nq267, q267_0⟩ := hQ267
  have N268 := Eq.subst (motive := fun L => Fr n0 L) l267.symm (Fr.app N263 Nq267)
  obtain ⟨_, _, ⟨T269, L269, k269, n269⟩, -, X269, ⟨Lc269, hQ269, l269, y269, z269⟩, st269⟩ := Jvm.LawKit.callS X267 hx (y := (⟨"java/lang/Integer", "numberOfLeadingZeros", "(I)I"⟩ : MethodName)) hown (mvT hZ (ow hw 147 rfl)) (mvT hZ (ow hw 148 rfl)) (mvT hZ (ow hw 149 rfl)) (mvT hZ (ow hw 150 rfl)) (by decide) (backOf (W := 1) (rm23 l Z a0 hw [] (z2 - (1 : Int32)) h255 n0 (Nat.le_trans Z0 KC256.1)) hZ (ow hw 150 rfl) (ow hw 149 rfl) (by decide) (by decide)) (g := (mkF m 75 #[Sr a1, Sr a2, Si (3 : Int32), Si (0 : Int32), Si (((1 : Int32) + (own_bits z0)) + (own_bits z1)), Si (2 : Int32), Sr x2, Si (own_bits z1)] [(.int (z2 - (1 : Int32))), (.int (32 : Int32))])) rfl (by rw [hml]; rfl) (argsL := [(.int (z2 - (1 : Int32)))]) (rest := [(.int (32 : Int32))]) (lenOf pd_9 rfl) rfl (by show 2 * 0 + _ ≤ _; exact Nat.le_of_eq rfl) (hb hby d16_75) (fun _ _ => ⟨rfl, q267_0, (by decide : 4 + 0 ≤ _), (by decide : 12 + 0 ≤ _)⟩)
  dsimp only [Pt.U, Pt.locs, Pt.cells, Pt.slots] at X269 l269 y269 z269 st269 hQ269
  subst y269 z269
  obtain ⟨rfl, Nq269, q269_0⟩ := hQ269
  have N270 := Eq.subst (motive := fun L => Fr n0 L) l269.symm (Fr.app N268 Nq269)
  have pre271 : ∀ t, Steps p.tables e below (T269.setTop (mkF m 81 #[Sr a1, Sr a2, Si (3 : Int32), Si (0 : Int32), Si (((1 : Int32) + (own_bits z0)) + (own_bits z1)), Si (2 : Int32), Sr x2, Si ((32 : Int32) - (own_nlz (z2 - (1 : Int32))))] [])) t → Steps p.tables e below (s₁.setTop (entryFrame m #[(.ref a1), (.ref a2)] 8)) t := by
    intro t k
    refine pre238 t ?_
    refine st242 _ ?_
    show Steps _ _ _ (T242.setTop (mkF m 127 #[Sr a1, Sr a2, Si (3 : Int32), Si (0 : Int32), Si ((1 : Int32) + (own_bits z0)), Si (1 : Int32), Sr x1, Si (own_bits z1)] [])) _
    refine XS.aloadN X242.here hx rfl (hb hby d16_127) rfl rfl ?_
    refine st246 _ ?_
    refine XS.iload X246.here hx rfl (hb hby d16_131) rfl ?_
    refine XS.aload X246.here hx rfl (hb hby d16_133) rfl rfl ?_
    refine XS.iconst X246.here hx rfl (hb hby d16_135) ?_
    refine st249.trans ?_
    refine st255 _ ?_
    refine XS.iload X255.here hx rfl (hb hby d16_140) rfl ?_
    show Steps _ _ _ (T255.setTop (mkF m 142 #[Sr a1, Sr a2, Si (3 : Int32), Si (0 : Int32), Si ((1 : Int32) + (own_bits z0)), Si (1 : Int32), Sr x1, Si (own_bits z1)] [(.int ((1 : Int32) + (own_bits z0)))])) _
    refine XS.iload X255.here hx rfl (hb hby d16_142) rfl ?_
    refine XS.iadd X255.here hx rfl (hb hby d16_144) rfl ?_
    refine XS.istore X255.here hx rfl (hb hby d16_145) rfl (l' := #[Sr a1, Sr a2, Si (3 : Int32), Si (0 : Int32), Si (((1 : Int32) + (own_bits z0)) + (own_bits z1)), Si (1 : Int32), Sr x1, Si (own_bits z1)]) rfl ?_
    refine XS.iinc X255.here hx rfl (hb hby d16_147) rfl (l' := #[Sr a1, Sr a2, Si (3 : Int32), Si (0 : Int32), Si (((1 : Int32) + (own_bits z0)) + (own_bits z1)), Si (2 : Int32), Sr x1, Si (own_bits z1)]) rfl ?_
    refine XS.goto X255.here hx rfl (pc0 := 150) (pc' := 47) rfl (hb hby d16_150) (by decide) (by decide) ?_
    refine XS.iload X255.here hx rfl (hb hby d16_47) rfl ?_
    refine XS.iloadN X255.here hx rfl (hb hby d16_49) rfl ?_
    refine XS.icmpNo X255.here hx rfl (hb hby d16_50) rfl (tlt (by decide)).2.1 ?_
    show Steps _ _ _ (T255.setTop (mkF m 53 #[Sr a1, Sr a2, Si (3 : Int32), Si (0 : Int32), Si (((1 : Int32) + (own_bits z0)) + (own_bits z1)), Si (2 : Int32), Sr x1, Si (own_bits z1)] [])) _
    refine XS.aloadN X255.here hx rfl (hb hby d16_53) rfl rfl ?_
    refine XS.iload X255.here hx rfl (hb hby d16_54) rfl ?_
    refine st262.trans ?_
    refine st265 _ ?_
    refine XS.astore X265.here hx rfl (hb hby d16_64) rfl rfl (l' := #[Sr a1, Sr a2, Si (3 : Int32), Si (0 : Int32), Si (((1 : Int32) + (own_bits z0)) + (own_bits z1)), Si (2 : Int32), Sr x2, Si (own_bits z1)]) rfl ?_
    refine XS.bipush X265.here hx rfl (hb hby d16_66) ?_
    refine XS.aload X265.here hx rfl (hb hby d16_68) rfl rfl ?_
    refine st267.trans ?_
    show Steps _ _ _ (T267.setTop (mkF m 73 #[Sr a1, Sr a2, Si (3 : Int32), Si (0 : Int32), Si (((1 : Int32) + (own_bits z0)) + (own_bits z1)), Si (2 : Int32), Sr x2, Si (own_bits z1)] [(.int z2), (.int (32 : Int32))])) _
    refine XS.iconst X267.here hx rfl (hb hby d16_73) ?_
    refine XS.isub X267.here hx rfl (hb hby d16_74) rfl ?_
    refine st269 _ ?_
    refine XS.isub X269.here hx rfl (hb hby d16_78) rfl ?_
    refine XS.istore X269.here hx rfl (hb hby d16_79) rfl (l' := #[Sr a1, Sr a2, Si (3 : Int32), Si (0 : Int32), Si (((1 : Int32) + (own_bits z0)) + (own_bits z1)), Si (2 : Int32), Sr x2, Si ((32 : Int32) - (own_nlz (z2 - (1 : Int32))))]) rfl ?_
    exact k
  have pre272 : ∀ t, Steps p.tables e below (T269.setTop (mkF m 81 #[Sr a1, Sr a2, Si (3 : Int32), Si (0 : Int32), Si (((1 : Int32) + (own_bits z0)) + (own_bits z1)), Si (2 : Int32), Sr x2, Si (own_bits z2)] [])) t → Steps p.tables e below (s₁.setTop (entryFrame m #[(.ref a1), (.ref a2)] 8)) t := pre271
  have pre274 : ∀ t, Steps p.tables e below (T269.setTop (mkF m 97 #[Sr a1, Sr a2, Si (3 : Int32), Si (if (64 : Int32) < ((((1 : Int32) + (own_bits z0)) + (own_bits z1)) + (own_bits z2)) then (1 : Int32) else (0 : Int32)), Si (if (64 : Int32) < ((((1 : Int32) + (own_bits z0)) + (own_bits z1)) + (own_bits z2)) then (0 : Int32) else (((1 : Int32) + (own_bits z0)) + (own_bits z1))), Si (2 : Int32), Sr x2, Si (own_bits z2)] [])) t → Steps p.tables e below (s₁.setTop (entryFrame m #[(.ref a1), (.ref a2)] 8)) t := by
    intro t k
    refine pre272 t ?_
    refine XS.iload X269.here hx rfl (hb hby d16_81) rfl ?_
    refine XS.iload X269.here hx rfl (hb hby d16_83) rfl ?_
    refine XS.iadd X269.here hx rfl (hb hby d16_85) rfl ?_
    show Steps _ _ _ (T269.setTop (mkF m 86 #[Sr a1, Sr a2, Si (3 : Int32), Si (0 : Int32), Si (((1 : Int32) + (own_bits z0)) + (own_bits z1)), Si (2 : Int32), Sr x2, Si (own_bits z2)] [(.int ((((1 : Int32) + (own_bits z0)) + (own_bits z1)) + (own_bits z2)))])) _
    refine XS.bipush X269.here hx rfl (hb hby d16_86) ?_
    by_cases hc273 : (64 : Int32) < ((((1 : Int32) + (own_bits z0)) + (own_bits z1)) + (own_bits z2))
    · simp only [if_pos hc273] at k
      refine XS.icmpNo X269.here hx rfl (hb hby d16_88) rfl (tlt hc273).2.2.2 ?_
      refine XS.iinc X269.here hx rfl (hb hby d16_91) rfl (l' := #[Sr a1, Sr a2, Si (3 : Int32), Si (1 : Int32), Si (((1 : Int32) + (own_bits z0)) + (own_bits z1)), Si (2 : Int32), Sr x2, Si (own_bits z2)]) rfl ?_
      refine XS.iconst X269.here hx rfl (hb hby d16_94) ?_
      refine XS.istore X269.here hx rfl (hb hby d16_95) rfl (l' := #[Sr a1, Sr a2, Si (3 : Int32), Si (1 : Int32), Si (0 : Int32), Si (2 : Int32), Sr x2, Si (own_bits z2)]) rfl ?_
      exact k
    · simp only [if_neg hc273] at k
      refine XS.icmpYes X269.here hx rfl (pc0 := 88) (pc' := 97) rfl (hb hby d16_88) rfl (flt hc273).2.2.2 (by decide) (by decide) ?_
      exact k
  obtain ⟨vw, hvw⟩ : ∃ z : Int32, z = (if (64 : Int32) < ((((1 : Int32) + (own_bits z0)) + (own_bits z1)) + (own_bits z2)) then (1 : Int32) else (0 : Int32)) := ⟨_, rfl⟩
  rw [← hvw] at pre274
  obtain ⟨vs, hvs⟩ : ∃ z : Int32, z = (if (64 : Int32) < ((((1 : Int32) + (own_bits z0)) + (own_bits z1)) + (own_bits z2)) then (0 : Int32) else (((1 : Int32) + (own_bits z0)) + (own_bits z1))) := ⟨_, rfl⟩
  rw [← hvs] at pre274
  subst hvw hvs
  have pre275 : ∀ t, Steps p.tables e below (T269.setTop (mkF m 97 #[Sr a1, Sr a2, Si (3 : Int32), Si (own_w2 z0 z1 z2), Si (own_s2 z0 z1 z2), Si (2 : Int32), Sr x2, Si (own_bits z2)] [])) t → Steps p.tables e below (s₁.setTop (entryFrame m #[(.ref a1), (.ref a2)] 8)) t := pre274
  have F276 : Fld Z h255 a1 "com/example/darlington/darlington/core/StateLayout" "wordOf" "[I" (.ref b54) := ((((F219.other W224 (Or.inl ne55)).other W232 (Or.inl ne72)).other W242 (Or.inl ne96)).other W255 (Or.inl ne122))
  obtain ⟨T277, X277, e277, st277⟩ := getF X269 hx hZ hown (host := "") (Or.inl (ow hw 110 rfl)) Via.refl q269_0 F276 (g := (mkF m 98 #[Sr a1, Sr a2, Si (3 : Int32), Si (own_w2 z0 z1 z2), Si (own_s2 z0 z1 z2), Si (2 : Int32), Sr x2, Si (own_bits z2)] [(.ref a1)])) rfl rfl (hb hby d16_98)
  have F278 : Arv Z h255 b54 k54 .int (3 : Int32) [(.int (0 : Int32)), (.int (0 : Int32)), (.int (0 : Int32))] (.int (0 : Int32)) := (((V224.other W232 ne84).other W242 ne108).other W255 ne134)
  obtain ⟨c279, Arc279, Aqc279, Asc279, Anc279, Ahc279, Agc279⟩ := id F278
  have hin280 : ¬ ((2 : Int32) < 0 ∨ c279.slots.size ≤ ((2 : Int32)).toNatClampNeg) := inb_of Asc279 ⟨by decide, by decide⟩
  obtain ⟨T281, h281, X281, e281, W281, st281⟩ := stI X277 hx hZ e277 Arc279 (j := (2 : Int32)) hin280 (g := (mkF m 104 #[Sr a1, Sr a2, Si (3 : Int32), Si (own_w2 z0 z1 z2), Si (own_s2 z0 z1 z2), Si (2 : Int32), Sr x2, Si (own_bits z2)] [(.int (own_w2 z0 z1 z2)), (.int (2 : Int32)), (.ref b54)])) rfl rfl (hb hby d16_104)
  have KC282 : Keep h0 h281 [a1] := KC256.wr W281 (Or.inr sz62)
  have V281 : Arv Z h281 b54 k54 .int (3 : Int32) [(.int (0 : Int32)), (.int (0 : Int32)), (.int (own_w2 z0 z1 z2))] (.int (0 : Int32)) := Arv.set Arc279 Aqc279 Asc279 Anc279 Ahc279 Agc279 rfl W281 2 rfl (Nat.le_of_ble_eq_true rfl)
  have N283 := Fr.snoc X281 N270 ge61
  have F284 : Fld Z h281 a1 "com/example/darlington/darlington/core/StateLayout" "shiftOf" "[I" (.ref b70) := ((((F227.other W232 (Or.inl ne72)).other W242 (Or.inl ne96)).other W255 (Or.inl ne122)).other W281 (Or.inl ne55))
  obtain ⟨T285, X285, e285, st285⟩ := getF X281 hx hZ hown (host := "") (Or.inl (ow hw 112 rfl)) Via.refl e281 F284 (g := (mkF m 106 #[Sr a1, Sr a2, Si (3 : Int32), Si (own_w2 z0 z1 z2), Si (own_s2 z0 z1 z2), Si (2 : Int32), Sr x2, Si (own_bits z2)] [(.ref a1)])) rfl rfl (hb hby d16_106)
  have F286 : Arv Z h281 b70 k70 .int (3 : Int32) [(.int (1 : Int32)), (.int ((1 : Int32) + (own_bits z0))), (.int (0 : Int32))] (.int (0 : Int32)) := (((V232.other W242 ne110).other W255 ne136).other W281 (Ne.symm ne84))
  obtain ⟨c287, Arc287, Aqc287, Asc287, Anc287, Ahc287, Agc287⟩ := id F286
  have hin288 : ¬ ((2 : Int32) < 0 ∨ c287.slots.size ≤ ((2 : Int32)).toNatClampNeg) := inb_of Asc287 ⟨by decide, by decide⟩
  obtain ⟨T289, h289, X289, e289, W289, st289⟩ := stI X285 hx hZ e285 Arc287 (j := (2 : Int32)) hin288 (g := (mkF m 113 #[Sr a1, Sr a2, Si (3 : Int32), Si (own_w2 z0 z1 z2), Si (own_s2 z0 z1 z2), Si (2 : Int32), Sr x2, Si (own_bits z2)] [(.int (own_s2 z0 z1 z2)), (.int (2 : Int32)), (.ref b70)])) rfl rfl (hb hby d16_113)
  have KC290 : Keep h0 h289 [a1] := KC282.wr W289 (Or.inr sz86)
  have V289 : Arv Z h289 b70 k70 .int (3 : Int32) [(.int (1 : Int32)), (.int ((1 : Int32) + (own_bits z0))), (.int (own_s2 z0 z1 z2))] (.int (0 : Int32)) := Arv.set Arc287 Aqc287 Asc287 Anc287 Ahc287 Agc287 rfl W289 2 rfl (Nat.le_of_ble_eq_true rfl)
  have N291 := Fr.snoc X289 N283 ge85
  have F292 : Fld Z h289 a1 "com/example/darlington/darlington/core/StateLayout" "maskOf" "[J" (.ref b94) := ((((F235.other W242 (Or.inl ne96)).other W255 (Or.inl ne122)).other W281 (Or.inl ne55)).other W289 (Or.inl ne72))
  obtain ⟨T293, X293, e293, st293⟩ := getF X289 hx hZ hown (host := "") (Or.inl (ow hw 115 rfl)) Via.refl e289 F292 (g := (mkF m 115 #[Sr a1, Sr a2, Si (3 : Int32), Si (own_w2 z0 z1 z2), Si (own_s2 z0 z1 z2), Si (2 : Int32), Sr x2, Si (own_bits z2)] [(.ref a1)])) rfl rfl (hb hby d16_115)
  have pre294 : ∀ t, Steps p.tables e below (T293.setTop (mkF m 126 #[Sr a1, Sr a2, Si (3 : Int32), Si (own_w2 z0 z1 z2), Si (own_s2 z0 z1 z2), Si (2 : Int32), Sr x2, Si (own_bits z2)] [(.long (((1 : Int64) <<< ((own_bits z2) &&& 0x3f).toInt64) - (1 : Int64))), (.int (2 : Int32)), (.ref b94)])) t → Steps p.tables e below (s₁.setTop (entryFrame m #[(.ref a1), (.ref a2)] 8)) t := by
    intro t k
    refine pre275 t ?_
    refine XS.aloadN X269.here hx rfl (hb hby d16_97) rfl rfl ?_
    refine st277 _ ?_
    refine XS.iload X277.here hx rfl (hb hby d16_101) rfl ?_
    refine XS.iloadN X277.here hx rfl (hb hby d16_103) rfl ?_
    refine st281 _ ?_
    refine XS.aloadN X281.here hx rfl (hb hby d16_105) rfl rfl ?_
    refine st285 _ ?_
    show Steps _ _ _ (T285.setTop (mkF m 109 #[Sr a1, Sr a2, Si (3 : Int32), Si (own_w2 z0 z1 z2), Si (own_s2 z0 z1 z2), Si (2 : Int32), Sr x2, Si (own_bits z2)] [(.ref b70)])) _
    refine XS.iload X285.here hx rfl (hb hby d16_109) rfl ?_
    refine XS.iload X285.here hx rfl (hb hby d16_111) rfl ?_
    refine st289 _ ?_
    refine XS.aloadN X289.here hx rfl (hb hby d16_114) rfl rfl ?_
    refine st293 _ ?_
    refine XS.iload X293.here hx rfl (hb hby d16_118) rfl ?_
    refine XS.lconst X293.here hx rfl (hb hby d16_120) ?_
    refine XS.iload X293.here hx rfl (hb hby d16_121) rfl ?_
    show Steps _ _ _ (T293.setTop (mkF m 123 #[Sr a1, Sr a2, Si (3 : Int32), Si (own_w2 z0 z1 z2), Si (own_s2 z0 z1 z2), Si (2 : Int32), Sr x2, Si (own_bits z2)] [(.int (own_bits z2)), (.long (1 : Int64)), (.int (2 : Int32)), (.ref b94)])) _
    refine XS.lshl X293.here hx rfl (hb hby d16_123) rfl ?_
    refine XS.lconst X293.here hx rfl (hb hby d16_124) ?_
    refine XS.lsub X293.here hx rfl (hb hby d16_125) rfl ?_
    exact k
  have pre295 : ∀ t, Steps p.tables e below (T293.setTop (mkF m 126 #[Sr a1, Sr a2, Si (3 : Int32), Si (own_w2 z0 z1 z2), Si (own_s2 z0 z1 z2), Si (2 : Int32), Sr x2, Si (own_bits z2)] [(.long (own_msk z2)), (.int (2 : Int32)), (.ref b94)])) t → Steps p.tables e below (s₁.setTop (entryFrame m #[(.ref a1), (.ref a2)] 8)) t := pre294
  have F296 : Arv Z h289 b94 k94 .long (3 : Int32) [(.long (own_msk z0)), (.long (own_msk z1)), (.long (0 : Int64))] (.long (0 : Int64)) := (((V242.other W255 ne138).other W281 (Ne.symm ne108)).other W289 (Ne.symm ne110))
  obtain ⟨c297, Arc297, Aqc297, Asc297, Anc297, Ahc297, Agc297⟩ := id F296
  have hin298 : ¬ ((2 : Int32) < 0 ∨ c297.slots.size ≤ ((2 : Int32)).toNatClampNeg) := inb_of Asc297 ⟨by decide, by decide⟩
  obtain ⟨T299, h299, X299, e299, W299, st299⟩ := stJ X293 hx hZ e293 Arc297 (j := (2 : Int32)) hin298 (g := (mkF m 126 #[Sr a1, Sr a2, Si (3 : Int32), Si (own_w2 z0 z1 z2), Si (own_s2 z0 z1 z2), Si (2 : Int32), Sr x2, Si (own_bits z2)] [(.long (own_msk z2)), (.int (2 : Int32)), (.ref b94)])) rfl rfl (hb hby d16_126)
  have KC300 : Keep h0 h299 [a1] := KC290.wr W299 (Or.inr sz112)
  have V299 : Arv Z h299 b94 k94 .long (3 : Int32) [(.long (own_msk z0)), (.long (own_msk z1)), (.long (own_msk z2))] (.long (0 : Int64)) := Arv.set Arc297 Aqc297 Asc297 Anc297 Ahc297 Agc297 rfl W299 2 rfl (Nat.le_of_ble_eq_true rfl)
  have N301 := Fr.snoc X299 N291 ge111
  have F302 : Fld Z h299 a1 "com/example/darlington/darlington/core/StateLayout" "firstOf" "[I" (.ref b120) := ((((F245.other W255 (Or.inl ne122)).other W281 (Or.inl ne55)).other W289 (Or.inl ne72)).other W299 (Or.inl ne96))
  obtain ⟨T303, X303, e303, st303⟩ := getF X299 hx hZ hown (host := "") (Or.inl (ow hw 117 rfl)) Via.refl e299 F302 (g := (mkF m 128 #[Sr a1, Sr a2, Si (3 : Int32), Si (own_w2 z0 z1 z2), Si (own_s2 z0 z1 z2), Si (2 : Int32), Sr x2, Si (own_bits z2)] [(.ref a1)])) rfl rfl (hb hby d16_128)
  have F304 : Fld Z h299 x2 "com/example/darlington/darlington/core/FiniteType" "first" "I" (.int f2) := (((((((((((((((((((Xf2.ext E54).other W66 (Or.inl nx2)).ext E70).other W90 (Or.inl nx2)).ext E94).other W116 (Or.inl nx2)).ext E120).other W144 (Or.inl nx2)).other W169 (Or.inl ne60)).other W177 (Or.inl ne82)).other W187 (Or.inl ne106)).other W200 (Or.inl ne132)).other W224 (Or.inl ne60)).other W232 (Or.inl ne82)).other W242 (Or.inl ne106)).other W255 (Or.inl ne132)).other W281 (Or.inl ne60)).other W289 (Or.inl ne82)).other W299 (Or.inl ne106))
  have F305 : Fld Z h299 x2 "com/example/darlington/darlington/core/FiniteType" "size" "I" (.int z2) := (((F266.other W281 (Or.inl ne60)).other W289 (Or.inl ne82)).other W299 (Or.inl ne106))
  have F307 : Exa Z h299 x2 "com/example/darlington/darlington/core/IntegerRange" := (((F264.wr W281).wr W289).wr W299)
  obtain ⟨cq306, kq306, q306a, q306b, q306c⟩ := isOf hZ e303 F307
  obtain ⟨_, _, ⟨T306, L306, k306, n306⟩, -, X306, ⟨Lc306, hQ306, l306, y306, z306⟩, st306⟩ := X303.virtualBack hx (y := (⟨"com/example/darlington/darlington/core/FiniteType", "valueAt", "(I)I"⟩ : MethodName)) (z := (⟨"com/example/darlington/darlington/core/FiniteType", "valueAt", "(I)I"⟩ : MethodName)) hown (mvT hZ (ow hw 151 rfl)) (mvT hZ (ow hw 152 rfl)) (notFace_of_selects (args := #[]) (mvT hZ (ow hw 154 rfl))) (mvT hZ (ow hw 154 rfl)) (mvT hZ (ow hw 153 rfl)) (by decide) (backOf (W := 2) (rm24 l Z a0 hw [] x2 f2 z2 h299 n0 (Nat.le_trans Z0 KC300.1) F304 F305 hz2) hZ (ow hw 155 rfl) (ow hw 52 rfl) (by decide) (by decide)) q306a q306c (g := (mkF m 136 #[Sr a1, Sr a2, Si (3 : Int32), Si (own_w2 z0 z1 z2), Si (own_s2 z0 z1 z2), Si (2 : Int32), Sr x2, Si (own_bits z2)] [(.int (0 : Int32)), (.ref x2), (.int (2 : Int32)), (.ref b120)])) rfl (by rw [hml]; rfl) (Steps.refl _) (argsL := [(.int (0 : Int32))]) (rest := [(.int (2 : Int32)), (.ref b120)]) (lenOf pd_9 rfl) rfl (by show 2 * 0 + _ ≤ _; exact Nat.le_of_eq rfl) (hb hby d16_136) (fun _ _ => ⟨rfl, e303, (by decide : 4 + 0 ≤ _), (by decide : 12 + 0 ≤ _)⟩)
  dsimp only [Pt.U, Pt.locs, Pt.cells, Pt.slots] at X306 l306 y306 z306 st306 hQ306
  subst y306 z306
  obtain ⟨rfl, Nq306, q306_0⟩ := hQ306
  have N308 := Eq.subst (motive := fun L => Fr n0 L) l306.symm (Fr.app N301 Nq306)
  have F309 : Arv Z h299 b120 k120 .int (3 : Int32) [(.int (f0 + (0 : Int32))), (.int (f1 + (0 : Int32))), (.int (0 : Int32))] (.int (0 : Int32)) := (((V255.other W281 (Ne.symm ne134)).other W289 (Ne.symm ne136)).other W299 (Ne.symm ne138))
  obtain ⟨c310, Arc310, Aqc310, Asc310, Anc310, Ahc310, Agc310⟩ := id F309
  have hin311 : ¬ ((2 : Int32) < 0 ∨ c310.slots.size ≤ ((2 : Int32)).toNatClampNeg) := inb_of Asc310 ⟨by decide, by decide⟩
  obtain ⟨T312, h312, X312, e312, W312, st312⟩ := stI X306 hx hZ q306_0 Arc310 (j := (2 : Int32)) hin311 (g := (mkF m 139 #[Sr a1, Sr a2, Si (3 : Int32), Si (own_w2 z0 z1 z2), Si (own_s2 z0 z1 z2), Si (2 : Int32), Sr x2, Si (own_bits z2)] [(.int (f2 + (0 : Int32))), (.int (2 : Int32)), (.ref b120)])) rfl rfl (hb hby d16_139)
  have KC313 : Keep h0 h312 [a1] := KC300.wr W312 (Or.inr sz140)
  have V312 : Arv Z h312 b120 k120 .int (3 : Int32) [(.int (f0 + (0 : Int32))), (.int (f1 + (0 : Int32))), (.int (f2 + (0 : Int32)))] (.int (0 : Int32)) := Arv.set Arc310 Aqc310 Asc310 Anc310 Ahc310 Agc310 rfl W312 2 rfl (Nat.le_of_ble_eq_true rfl)
  have N314 := Fr.snoc X312 N308 ge139
  have F315 : Exa Z h312 a1 "com/example/darlington/darlington/core/StateLayout" := (((((((((((((F142.wr W144).wr W169).wr W177).wr W187).wr W200).wr W224).wr W232).wr W242).wr W255).wr W281).wr W289).wr W299).wr W312)
  have F316 : Fld Z h312 a1 "com/example/darlington/darlington/core/StateLayout" "wordsPerState" "I" (.int (0 : Int32)) := ((((((((((((((((((((U4.ext E54).other W66 (Or.inr (slot_ne (Or.inr (ow hw 159 rfl)) (Or.inr (ow hw 111 rfl)) (by decide) (t := .int) (t' := (.array .int)) (by decide) (by decide)))).ext E70).other W90 (Or.inr (slot_ne (Or.inr (ow hw 159 rfl)) (Or.inr (ow hw 113 rfl)) (by decide) (t := .int) (t' := (.array .int)) (by decide) (by decide)))).ext E94).other W116 (Or.inr (slot_ne (Or.inr (ow hw 159 rfl)) (Or.inr (ow hw 116 rfl)) (by decide) (t := .int) (t' := (.array .long)) (by decide) (by decide)))).ext E120).other W144 (Or.inr (slot_ne (Or.inr (ow hw 159 rfl)) (Or.inr (ow hw 118 rfl)) (by decide) (t := .int) (t' := (.array .int)) (by decide) (by decide)))).other W169 (Or.inl ne55)).other W177 (Or.inl ne72)).other W187 (Or.inl ne96)).other W200 (Or.inl ne122)).other W224 (Or.inl ne55)).other W232 (Or.inl ne72)).other W242 (Or.inl ne96)).other W255 (Or.inl ne122)).other W281 (Or.inl ne55)).other W289 (Or.inl ne72)).other W299 (Or.inl ne96)).other W312 (Or.inl ne122))
  obtain ⟨T317, h317, X317, e317, W317, st317⟩ := putF X312 hx hZ hown (host := "") (Or.inl (ow hw 158 rfl)) Via.refl e312 F316 F315 (Or.inr ⟨(ow hw 159 rfl), rfl, hnm⟩) (ow hw 95 rfl) (ty := .int) (by decide) rfl rfl (g := (mkF m 157 #[Sr a1, Sr a2, Si (3 : Int32), Si (own_w2 z0 z1 z2), Si ((own_s2 z0 z1 z2) + (own_bits z2)), Si (3 : Int32), Sr x2, Si (own_bits z2)] [(.int ((own_w2 z0 z1 z2) + (1 : Int32))), (.ref a1)])) rfl rfl (hb hby d16_157)
  have KC318 : Keep h0 h317 [a1] := KC313.wr W317 (Or.inl (List.mem_of_getElem? (i := 0) rfl))
  have F319 : Fld Z h317 a1 "com/example/darlington/darlington/core/StateLayout" "wordsPerState" "I" (.int ((own_w2 z0 z1 z2) + (1 : Int32))) := F316.same W317
  have N320 := Fr.snoc X317 N314 g1
  have pre321 : ∀ t, Steps p.tables e below (T317.setTop (mkF m 160 #[Sr a1, Sr a2, Si (3 : Int32), Si (own_w2 z0 z1 z2), Si ((own_s2 z0 z1 z2) + (own_bits z2)), Si (3 : Int32), Sr x2, Si (own_bits z2)] [])) t → Steps p.tables e below (s₁.setTop (entryFrame m #[(.ref a1), (.ref a2)] 8)) t := by
    intro t k
    refine pre295 t ?_
    refine st299 _ ?_
    refine XS.aloadN X299.here hx rfl (hb hby d16_127) rfl rfl ?_
    refine st303 _ ?_
    refine XS.iload X303.here hx rfl (hb hby d16_131) rfl ?_
    refine XS.aload X303.here hx rfl (hb hby d16_133) rfl rfl ?_
    show Steps _ _ _ (T303.setTop (mkF m 135 #[Sr a1, Sr a2, Si (3 : Int32), Si (own_w2 z0 z1 z2), Si (own_s2 z0 z1 z2), Si (2 : Int32), Sr x2, Si (own_bits z2)] [(.ref x2), (.int (2 : Int32)), (.ref b120)])) _
    refine XS.iconst X303.here hx rfl (hb hby d16_135) ?_
    refine st306.trans ?_
    refine st312 _ ?_
    refine XS.iload X312.here hx rfl (hb hby d16_140) rfl ?_
    refine XS.iload X312.here hx rfl (hb hby d16_142) rfl ?_
    refine XS.iadd X312.here hx rfl (hb hby d16_144) rfl ?_
    refine XS.istore X312.here hx rfl (hb hby d16_145) rfl (l' := #[Sr a1, Sr a2, Si (3 : Int32), Si (own_w2 z0 z1 z2), Si ((own_s2 z0 z1 z2) + (own_bits z2)), Si (2 : Int32), Sr x2, Si (own_bits z2)]) rfl ?_
    refine XS.iinc X312.here hx rfl (hb hby d16_147) rfl (l' := #[Sr a1, Sr a2, Si (3 : Int32), Si (own_w2 z0 z1 z2), Si ((own_s2 z0 z1 z2) + (own_bits z2)), Si (3 : Int32), Sr x2, Si (own_bits z2)]) rfl ?_
    show Steps _ _ _ (T312.setTop (mkF m 150 #[Sr a1, Sr a2, Si (3 : Int32), Si (own_w2 z0 z1 z2), Si ((own_s2 z0 z1 z2) + (own_bits z2)), Si (3 : Int32), Sr x2, Si (own_bits z2)] [])) _
    refine XS.goto X312.here hx rfl (pc0 := 150) (pc' := 47) rfl (hb hby d16_150) (by decide) (by decide) ?_
    refine XS.iload X312.here hx rfl (hb hby d16_47) rfl ?_
    refine XS.iloadN X312.here hx rfl (hb hby d16_49) rfl ?_
    refine XS.icmpYes X312.here hx rfl (pc0 := 50) (pc' := 153) rfl (hb hby d16_50) rfl (flt (by decide)).2.1 (by decide) (by decide) ?_
    refine XS.aloadN X312.here hx rfl (hb hby d16_153) rfl rfl ?_
    refine XS.iloadN X312.here hx rfl (hb hby d16_154) rfl ?_
    refine XS.iconst X312.here hx rfl (hb hby d16_155) ?_
    refine XS.iadd X312.here hx rfl (hb hby d16_156) rfl ?_
    show Steps _ _ _ (T312.setTop (mkF m 157 #[Sr a1, Sr a2, Si (3 : Int32), Si (own_w2 z0 z1 z2), Si ((own_s2 z0 z1 z2) + (own_bits z2)), Si (3 : Int32), Sr x2, Si (own_bits z2)] [(.int ((own_w2 z0 z1 z2) + (1 : Int32))), (.ref a1)])) _
    refine st317 _ ?_
    exact k
  obtain ⟨fs, hr, hrun, hended, hW, hsame⟩ := X317.leave (v := none) (fun _ => rfl)
  refine ⟨_, _, pre321 _ ?_, hrun, hended, _, _, rfl, ?_, ⟨_, rfl⟩, hW, hsame.mono (by decide) (by decide)⟩
  · exact X317.returnOut hx Bd.returns (hb hby d16_160) hr
  · show Q_rm_lay Z a1 a2 a3 k3 x0 x1 x2 f0 f1 f2 z0 z1 z2 h0 n0 _ T317.heap _
    rw [e317]
    have F322 : Arv Z h317 b54 k54 .int (3 : Int32) [(.int (0 : Int32)), (.int (0 : Int32)), (.int (own_w2 z0 z1 z2))] (.int (0 : Int32)) := ((((V281.other W289 ne84).other W299 ne108).other W312 ne134).other W317 (Ne.symm ne55))
    have F323 : Fld Z h317 a1 "com/example/darlington/darlington/core/StateLayout" "wordOf" "[I" (.ref b54) := (((((F276.other W281 (Or.inl ne55)).other W289 (Or.inl ne72)).other W299 (Or.inl ne96)).other W312 (Or.inl ne122)).other W317 (Or.inr (slot_ne (Or.inr (ow hw 111 rfl)) (Or.inr (ow hw 159 rfl)) (by decide) (t := (.array .int)) (t' := .int) (by decide) (by decide))))
    have F324 : Arv Z h317 b70 k70 .int (3 : Int32) [(.int (1 : Int32)), (.int ((1 : Int32) + (own_bits z0))), (.int (own_s2 z0 z1 z2))] (.int (0 : Int32)) := (((V289.other W299 ne110).other W312 ne136).other W317 (Ne.symm ne72))
    have F325 : Fld Z h317 a1 "com/example/darlington/darlington/core/StateLayout" "shiftOf" "[I" (.ref b70) := ((((F284.other W289 (Or.inl ne72)).other W299 (Or.inl ne96)).other W312 (Or.inl ne122)).other W317 (Or.inr (slot_ne (Or.inr (ow hw 113 rfl)) (Or.inr (ow hw 159 rfl)) (by decide) (t := (.array .int)) (t' := .int) (by decide) (by decide))))
    have F326 : Arv Z h317 b94 k94 .long (3 : Int32) [(.long (own_msk z0)), (.long (own_msk z1)), (.long (own_msk z2))] (.long (0 : Int64)) := ((V299.other W312 ne138).other W317 (Ne.symm ne96))
    have F327 : Fld Z h317 a1 "com/example/darlington/darlington/core/StateLayout" "maskOf" "[J" (.ref b94) := (((F292.other W299 (Or.inl ne96)).other W312 (Or.inl ne122)).other W317 (Or.inr (slot_ne (Or.inr (ow hw 116 rfl)) (Or.inr (ow hw 159 rfl)) (by decide) (t := (.array .long)) (t' := .int) (by decide) (by decide))))
    have F328 : Arv Z h317 b120 k120 .int (3 : Int32) [(.int (f0 + (0 : Int32))), (.int (f1 + (0 : Int32))), (.int (f2 + (0 : Int32)))] (.int (0 : Int32)) := (V312.other W317 (Ne.symm ne122))
    have F329 : Fld Z h317 a1 "com/example/darlington/darlington/core/StateLayout" "firstOf" "[I" (.ref b120) := ((F302.other W312 (Or.inl ne122)).other W317 (Or.inr (slot_ne (Or.inr (ow hw 118 rfl)) (Or.inr (ow hw 159 rfl)) (by decide) (t := (.array .int)) (t' := .int) (by decide) (by decide))))
    exact ⟨b54, b70, b94, b120, k54, k70, k94, k120, rfl, N320, KC318, sz62, F322, F323, sz86, F324, F325, sz112, F326, F327, sz140, F328, F329, F319⟩
def own_upd (w : Int64) (s : Int32) (m : Int64) (f v : Int32) : Int64 := ((w &&& ((m <<< (s &&& 0x3f).toInt64) ^^^ (-1 : Int64))) ||| (((v.toInt64 - f.toInt64) &&& m) <<< (s &&& 0x3f).toInt64))
def own_por (w : Int64) (s : Int32) (m : Int64) (f v : Int32) : Int64 := (w ||| (((v.toInt64 - f.toInt64) &&& m) <<< (s &&& 0x3f).toInt64))
theorem own_ltI {a b : Int32} (h : a.toInt < b.toInt) : a < b := by rw [Int32.lt_iff_toInt_lt]; exact h
theorem own_nltI {a b : Int32} (h : b.toInt ≤ a.toInt) : ¬ a < b := by rw [Int32.lt_iff_toInt_lt]; omega
theorem own_o1 (p : Int32) (h : 0 ≤ p.toInt ∧ p.toInt ≤ 3) : (p + (1 : Int32)).toInt = p.toInt + 1 ∧ (p + (2 : Int32)).toInt = p.toInt + 2 ∧ ((p + (1 : Int32)) + (1 : Int32)).toInt = p.toInt + 2 := by
  have a := c_iadd p 1
  have ra := rng32 (p + 1)
  have b := c_iadd p 2
  have rb := rng32 (p + 2)
  have c := c_iadd (p + 1) 1
  have rc := rng32 ((p + 1) + 1)
  have l1 : (1 : Int32).toInt = 1 := rfl
  have l2 : (2 : Int32).toInt = 2 := rfl
  omega
theorem own_inA {p : Int32} (h : 0 ≤ p.toInt ∧ p.toInt ≤ 3) : ¬ p < 0 ∧ p < 6 := by
  have l0 : (0 : Int32).toInt = 0 := rfl
  have l6 : (6 : Int32).toInt = 6 := rfl
  exact ⟨own_nltI (by omega), own_ltI (by omega)⟩
theorem own_inB {p : Int32} (h : 0 ≤ p.toInt ∧ p.toInt ≤ 3) : ¬ (p + (1 : Int32)) < 0 ∧ (p + (1 : Int32)) < 6 := by
  have l0 : (0 : Int32).toInt = 0 := rfl
  have l6 : (6 : Int32).toInt = 6 := rfl
  have e := own_o1 p h
  exact ⟨own_nltI (by omega), own_ltI (by omega)⟩
theorem own_tn (a : Int32) : a.toNatClampNeg = a.toInt.toNat := rfl
theorem own_hiA {p : Int32} (h : 0 ≤ p.toInt ∧ p.toInt ≤ 3) {vs : List Value} (hl : vs.length = 6) : p.toNatClampNeg < vs.length := by rw [own_tn]; omega
theorem own_hiB {p : Int32} (h : 0 ≤ p.toInt ∧ p.toInt ≤ 3) {vs : List Value} (hl : vs.length = 6) : (p + (1 : Int32)).toNatClampNeg < vs.length := by
  have e := own_o1 p h
  rw [own_tn]; omega
theorem own_neAB {p : Int32} (h : 0 ≤ p.toInt ∧ p.toInt ≤ 3) : p.toNatClampNeg ≠ (p + (1 : Int32)).toNatClampNeg := by
  have e := own_o1 p h
  rw [own_tn, own_tn]; omega
theorem own_gs {vs : List Value} {i : Nat} {x d : Value} (hi : i < vs.length) : (vs.set i x).getD i d = x := by
  rw [List.getD_eq_getElem?_getD, List.getElem?_set_self hi]; rfl
theorem own_gn {vs : List Value} {i j : Nat} {x d : Value} (hne : i ≠ j) : (vs.set i x).getD j d = vs.getD j d := by
  rw [List.getD_eq_getElem?_getD, List.getElem?_set_ne hne, List.getD_eq_getElem?_getD]
theorem d27_0 : decode jdk_65_method_30_code 0 = .ok (.iload_n 1, 1) := by decide +kernel
theorem d27_1 : decode jdk_65_method_30_code 1 = .ok (.iload_n 2, 1) := by decide +kernel
theorem d27_2 : decode jdk_65_method_30_code 2 = .ok (.if_icmp .le 44, 3) := by decide +kernel
theorem d27_46 : decode jdk_65_method_30_code 46 = .ok (.iload_n 1, 1) := by decide +kernel
theorem d27_47 : decode jdk_65_method_30_code 47 = .ok (.ifCond .ge 12, 3) := by decide +kernel
theorem d27_59 : decode jdk_65_method_30_code 59 = .ok (.iload_n 2, 1) := by decide +kernel
theorem d27_60 : decode jdk_65_method_30_code 60 = .ok (.iload_n 0, 1) := by decide +kernel
theorem d27_61 : decode jdk_65_method_30_code 61 = .ok (.if_icmp .le 12, 3) := by decide +kernel
theorem d27_73 : decode jdk_65_method_30_code 73 = .ok (.return_, 1) := by decide +kernel
theorem pn_9 : plainName "java/util/Arrays" = true := by first | (simp [plainName, overriddenIn]; done) | decide +kernel
theorem ef_rm27 (m : MethodId) (x0 : Int32) (x1 : Int32) (x2 : Int32) : entryFrame m #[(.int x0), (.int x1), (.int x2)] 3 = mkF m 0 #[Si x0, Si x1, Si x2] [] := by first | (simp [entryFrame, mkF, argsToLocals, Value.category]; done) | rfl
def Q_rm27 (Z : State) (p1 : Int32) (p2 : Int32) (p3 : Int32) (h0 : Heap) (n0 : Nat) (v : Option Value) (h : Heap) (L : List Loc) : Prop := v = none ∧ Fr n0 L ∧ h = h0
set_option maxRecDepth 65536 in
set_option maxHeartbeats 40000000 in
theorem rm27 (l : Launch) (Z : State) (a0 : Array Value) (hw : ∀ d ∈ tables_1, d.before a0 Z = true) (ws : List Jvm.Cond) (p1 : Int32) (p2 : Int32) (p3 : Int32) (h0 : Heap) (n0 : Nat) (Z0 : n0 ≤ h0.size) (h1 : ¬ p3 < p2) (h2 : ¬ p2 < (0 : Int32)) (h3 : ¬ p1 < p3) :
    MetFree l (⟨"java/util/Arrays", "rangeCheck", "(III)V"⟩ : MethodName) (head1 (Jvm.Cond.code (⟨"java/util/Arrays", "rangeCheck", "(III)V"⟩ : MethodName) jdk_65_method_30_code 3 none :: ws) ({ frames := 0, cells := 0, slots := 0, locals := 0 } : Room)) (fun a U => a = #[(.int p1), (.int p2), (.int p3)] ∧ Z.Warmed39 U.vm ∧ U.heap = h0) (fun _ _ _ _ _ => True) (fun _ U o U' => ∃ v L, o = .returned v ∧ Q_rm27 Z p1 p2 p3 h0 n0 v U'.heap L ∧ FrameEnd U o U' L ({ frames := 0, cells := 0, slots := 0, locals := 0 } : Room).cells ({ frames := 0, cells := 0, slots := 0, locals := 0 } : Room).slots) := by
  refine MetFree.of_bodySF (plainFor_of_name pn_9) hisR ?_
  intro p e s m args below meth c s₁ Bd hml0 hP hK
  obtain ⟨rfl, hZ, hh⟩ := hP
  have hx := Bd.exec
  have hby := Bd.bytes
  have hml : c.maxLocals = 3 := hml0
  have hown : s.vm.findClass "java/util/Arrays" = some m.cls := findClass_of_methodNamed Bd.named
  have hnm := (name_of_methodNamed Bd.named Bd.method).1
  have X0 : Stand p l e ({ frames := 0, cells := 0, slots := 0, locals := 0 } : Room) s m #[(.int p1), (.int p2), (.int p3)] below meth c s₁ [] 0 0 := Stand.of_body Bd
  have e0 : s₁.heap = h0 := by rw [← hh, Bd.state]; rfl
  have N0 := Fr.nil n0
  have pre0 : ∀ t, Steps p.tables e below (s₁.setTop (mkF m 0 #[Si p1, Si p2, Si p3] [])) t → Steps p.tables e below (s₁.setTop (entryFrame m #[(.int p1), (.int p2), (.int p3)] 3)) t := fun t k => castTop (ef_rm27 m p1 p2 p3) k
  have hc51 : ¬ (p3 < p2) := h1
  have hc52 : ¬ (p2 < (0 : Int32)) := h2
  have hc53 : ¬ (p1 < p3) := h3
  have pre54 : ∀ t, Steps p.tables e below (s₁.setTop (mkF m 73 #[Si p1, Si p2, Si p3] [])) t → Steps p.tables e below (s₁.setTop (entryFrame m #[(.int p1), (.int p2), (.int p3)] 3)) t := by
    intro t k
    refine pre0 t ?_
    refine XS.iloadN X0.here hx rfl (hb hby d27_0) rfl ?_
    refine XS.iloadN X0.here hx rfl (hb hby d27_1) rfl ?_
    refine XS.icmpYes X0.here hx rfl (pc0 := 2) (pc' := 46) rfl (hb hby d27_2) rfl (flt hc51).2.2.2 (by decide) (by decide) ?_
    refine XS.iloadN X0.here hx rfl (hb hby d27_46) rfl ?_
    refine XS.ifYes X0.here hx rfl (pc0 := 47) (pc' := 59) rfl (hb hby d27_47) rfl ((if0 _ _).trans (flt hc52).2.1) (by decide) (by decide) ?_
    refine XS.iloadN X0.here hx rfl (hb hby d27_59) rfl ?_
    refine XS.iloadN X0.here hx rfl (hb hby d27_60) rfl ?_
    refine XS.icmpYes X0.here hx rfl (pc0 := 61) (pc' := 73) rfl (hb hby d27_61) rfl (flt hc53).2.2.2 (by decide) (by decide) ?_
    show Steps _ _ _ (s₁.setTop (mkF m 73 #[Si p1, Si p2, Si p3] [])) _
    exact k
  obtain ⟨fs, hr, hrun, hended, hW, hsame⟩ := X0.leave (v := none) (fun _ => rfl)
  refine ⟨_, _, pre54 _ ?_, hrun, hended, _, _, rfl, ?_, ⟨_, rfl⟩, hW, hsame.mono (by decide) (by decide)⟩
  · exact X0.returnOut hx Bd.returns (hb hby d27_73) hr
  · show Q_rm27 Z p1 p2 p3 h0 n0 _ s₁.heap _
    rw [e0]
    exact ⟨rfl, N0, rfl⟩
theorem d26_0 : decode jdk_65_method_102_code 0 = .ok (.aload_n 0, 1) := by decide +kernel
theorem d26_1 : decode jdk_65_method_102_code 1 = .ok (.arraylength, 1) := by decide +kernel
theorem d26_2 : decode jdk_65_method_102_code 2 = .ok (.iload_n 1, 1) := by decide +kernel
theorem d26_3 : decode jdk_65_method_102_code 3 = .ok (.iload_n 2, 1) := by decide +kernel
theorem pd_10 : parseMethodDescriptor "(III)V" = some ⟨[.int, .int, .int], none⟩ := by decide +kernel
theorem d26_4 : decode jdk_65_method_102_code 4 = .ok (.invokestatic 13, 3) := by decide +kernel
theorem d26_7 : decode jdk_65_method_102_code 7 = .ok (.iload_n 1, 1) := by decide +kernel
theorem d26_8 : decode jdk_65_method_102_code 8 = .ok (.istore 5, 2) := by decide +kernel
theorem d26_10 : decode jdk_65_method_102_code 10 = .ok (.iload 5, 2) := by decide +kernel
theorem d26_12 : decode jdk_65_method_102_code 12 = .ok (.iload_n 2, 1) := by decide +kernel
theorem d26_13 : decode jdk_65_method_102_code 13 = .ok (.if_icmp .ge 14, 3) := by decide +kernel
theorem d26_16 : decode jdk_65_method_102_code 16 = .ok (.aload_n 0, 1) := by decide +kernel
theorem d26_17 : decode jdk_65_method_102_code 17 = .ok (.iload 5, 2) := by decide +kernel
theorem d26_19 : decode jdk_65_method_102_code 19 = .ok (.lload_n 3, 1) := by decide +kernel
theorem d26_20 : decode jdk_65_method_102_code 20 = .ok (.lastore, 1) := by decide +kernel
theorem d26_21 : decode jdk_65_method_102_code 21 = .ok (.iinc 5 1, 3) := by decide +kernel
theorem d26_24 : decode jdk_65_method_102_code 24 = .ok (.goto (-14), 3) := by decide +kernel
theorem d26_27 : decode jdk_65_method_102_code 27 = .ok (.return_, 1) := by decide +kernel
theorem ef_rm_fillA (m : MethodId) (x0 : Addr) (x1 : Int32) (x2 : Int32) : entryFrame m #[(.ref x0), (.int x1), (.int x2), (.long (0 : Int64))] 6 = mkF m 0 #[Sr x0, Si x1, Si x2, Sl (0 : Int64), S2, Su] [] := by first | (simp [entryFrame, mkF, argsToLocals, Value.category]; done) | rfl
def Q_rm_fillA (Z : State) (a1 : Addr) (p2 : Int32) (k : ClassId) (vs : List Value) (h0 : Heap) (n0 : Nat) (v : Option Value) (h : Heap) (L : List Loc) : Prop := v = none ∧ Fr n0 L ∧ Keep h0 h [a1] ∧ Arv Z h a1 k .long (6 : Int32) (vs.set (p2).toNatClampNeg (.long (0 : Int64))) (.long (0 : Int64))
set_option maxRecDepth 65536 in
set_option maxHeartbeats 40000000 in
theorem rm_fillA (l : Launch) (Z : State) (a0 : Array Value) (hw : ∀ d ∈ tables_1, d.before a0 Z = true) (ws : List Jvm.Cond) (a1 : Addr) (p2 : Int32) (k : ClassId) (vs : List Value) (h0 : Heap) (n0 : Nat) (Z0 : n0 ≤ h0.size) (V1 : Arv Z h0 a1 k .long (6 : Int32) vs (.long (0 : Int64))) (g1 : n0 ≤ a1) (hp : 0 ≤ p2.toInt ∧ p2.toInt ≤ 3) (hlen : vs.length = 6) :
    MetFree l (⟨"java/util/Arrays", "fill", "([JIIJ)V"⟩ : MethodName) (head1 (Jvm.Cond.code (⟨"java/util/Arrays", "fill", "([JIIJ)V"⟩ : MethodName) jdk_65_method_102_code 6 none :: ws) ({ frames := 1, cells := 0, slots := 0, locals := 14 } : Room)) (fun a U => a = #[(.ref a1), (.int p2), (.int (p2 + (1 : Int32))), (.long (0 : Int64))] ∧ Z.Warmed39 U.vm ∧ U.heap = h0) (fun _ _ _ _ _ => True) (fun _ U o U' => ∃ v L, o = .returned v ∧ Q_rm_fillA Z a1 p2 k vs h0 n0 v U'.heap L ∧ FrameEnd U o U' L ({ frames := 1, cells := 0, slots := 0, locals := 14 } : Room).cells ({ frames := 1, cells := 0, slots := 0, locals := 14 } : Room).slots) := by
  refine MetFree.of_bodySF (plainFor_of_name pn_9) hisR ?_
  intro p e s m args below meth c s₁ Bd hml0 hP hK
  obtain ⟨rfl, hZ, hh⟩ := hP
  have hx := Bd.exec
  have hby := Bd.bytes
  have hml : c.maxLocals = 6 := hml0
  have hown : s.vm.findClass "java/util/Arrays" = some m.cls := findClass_of_methodNamed Bd.named
  have hnm := (name_of_methodNamed Bd.named Bd.method).1
  have X0 : Stand p l e ({ frames := 1, cells := 0, slots := 0, locals := 14 } : Room) s m #[(.ref a1), (.int p2), (.int (p2 + (1 : Int32))), (.long (0 : Int64))] below meth c s₁ [] 0 0 := Stand.of_body Bd
  have e0 : s₁.heap = h0 := by rw [← hh, Bd.state]; rfl
  have N0 := Fr.nil n0
  have pre0 : ∀ t, Steps p.tables e below (s₁.setTop (mkF m 0 #[Sr a1, Si p2, Si (p2 + (1 : Int32)), Sl (0 : Int64), S2, Su] [])) t → Steps p.tables e below (s₁.setTop (entryFrame m #[(.ref a1), (.int p2), (.int (p2 + (1 : Int32))), (.long (0 : Int64))] 6)) t := fun t k => castTop (ef_rm_fillA m a1 p2 (p2 + (1 : Int32))) k
  obtain ⟨c51, Arc51, Aqc51, Asc51, Anc51, Ahc51, Agc51⟩ := id V1
  obtain ⟨_, _, ⟨T52, L52, k52, n52⟩, -, X52, ⟨Lc52, hQ52, l52, y52, z52⟩, st52⟩ := Jvm.LawKit.callS X0 hx (y := (⟨"java/util/Arrays", "rangeCheck", "(III)V"⟩ : MethodName)) hown (mvT hZ (ow hw 169 rfl)) (mvT hZ (ow hw 170 rfl)) (mvT hZ (ow hw 167 rfl)) (mvT hZ (ow hw 171 rfl)) (by decide) (backOf (W := 0) (rm27 l Z a0 hw [] (6 : Int32) p2 (p2 + (1 : Int32)) h0 n0 Z0 (own_nltI (by have e := own_o1 p2 hp; omega)) (own_inA hp).1 (own_nltI (by have e := own_o1 p2 hp; show _ ≤ (6 : Int); omega))) hZ (ow hw 171 rfl) (ow hw 167 rfl) (by decide) (by decide)) (g := (mkF m 4 #[Sr a1, Si p2, Si (p2 + (1 : Int32)), Sl (0 : Int64), S2, Su] [(.int (p2 + (1 : Int32))), (.int p2), (.int (6 : Int32))])) rfl (by rw [hml]; rfl) (argsL := [(.int (6 : Int32)), (.int p2), (.int (p2 + (1 : Int32)))]) (rest := []) (lenOf pd_10 rfl) rfl (by show 2 * 0 + _ ≤ _; exact Nat.le_of_eq rfl) (hb hby d26_4) (fun _ _ => ⟨rfl, e0, (by decide : 0 + 0 ≤ _), (by decide : 0 + 0 ≤ _)⟩)
  dsimp only [Pt.U, Pt.locs, Pt.cells, Pt.slots] at X52 l52 y52 z52 st52 hQ52
  subst y52 z52
  obtain ⟨rfl, Nq52, q52_0⟩ := hQ52
  have N53 := Eq.subst (motive := fun L => Fr n0 L) l52.symm (Fr.app N0 Nq52)
  have hc54 : p2 < (p2 + (1 : Int32)) := own_ltI (by have e := own_o1 p2 hp; omega)
  obtain ⟨c55, Arc55, Aqc55, Asc55, Anc55, Ahc55, Agc55⟩ := id V1
  have hin56 : ¬ (p2 < 0 ∨ c55.slots.size ≤ (p2).toNatClampNeg) := inb_of Asc55 (own_inA hp)
  obtain ⟨T57, h57, X57, e57, W57, st57⟩ := stJ X52 hx hZ q52_0 Arc55 (j := p2) hin56 (g := (mkF m 20 #[Sr a1, Si p2, Si (p2 + (1 : Int32)), Sl (0 : Int64), S2, Si p2] [(.long (0 : Int64)), (.int p2), (.ref a1)])) rfl rfl (hb hby d26_20)
  have KC58 : Keep h0 h57 [a1] := (Keep.refl h0 [a1]).wr W57 (Or.inl (List.mem_of_getElem? (i := 0) rfl))
  have V57 : Arv Z h57 a1 k .long (6 : Int32) (vs.set (p2).toNatClampNeg (.long (0 : Int64))) (.long (0 : Int64)) := Arv.set Arc55 Aqc55 Asc55 Anc55 Ahc55 Agc55 rfl W57 (p2).toNatClampNeg rfl (own_hiA hp hlen)
  have N59 := Fr.snoc X57 N53 g1
  have hc60 : ¬ ((p2 + (1 : Int32)) < (p2 + (1 : Int32))) := own_nltI (by have e := own_o1 p2 hp; omega)
  have pre61 : ∀ t, Steps p.tables e below (T57.setTop (mkF m 27 #[Sr a1, Si p2, Si (p2 + (1 : Int32)), Sl (0 : Int64), S2, Si (p2 + (1 : Int32))] [])) t → Steps p.tables e below (s₁.setTop (entryFrame m #[(.ref a1), (.int p2), (.int (p2 + (1 : Int32))), (.long (0 : Int64))] 6)) t := by
    intro t k
    refine pre0 t ?_
    refine XS.aloadN X0.here hx rfl (hb hby d26_0) rfl rfl ?_
    refine X0.arraylength hx (by rw [e0]; exact Arc51.1) (State.isArrayOf_alike hZ.alike Arc51.2.1) (g := (mkF m 1 #[Sr a1, Si p2, Si (p2 + (1 : Int32)), Sl (0 : Int64), S2, Su] [(.ref a1)])) rfl rfl (hb hby d26_1) _ ?_
    rw [len_of Asc51 Anc51]
    refine XS.iloadN X0.here hx rfl (hb hby d26_2) rfl ?_
    refine XS.iloadN X0.here hx rfl (hb hby d26_3) rfl ?_
    refine st52 _ ?_
    refine XS.iloadN X52.here hx rfl (hb hby d26_7) rfl ?_
    refine XS.istore X52.here hx rfl (hb hby d26_8) rfl (l' := #[Sr a1, Si p2, Si (p2 + (1 : Int32)), Sl (0 : Int64), S2, Si p2]) rfl ?_
    refine XS.iload X52.here hx rfl (hb hby d26_10) rfl ?_
    show Steps _ _ _ (T52.setTop (mkF m 12 #[Sr a1, Si p2, Si (p2 + (1 : Int32)), Sl (0 : Int64), S2, Si p2] [(.int p2)])) _
    refine XS.iloadN X52.here hx rfl (hb hby d26_12) rfl ?_
    refine XS.icmpNo X52.here hx rfl (hb hby d26_13) rfl (tlt hc54).2.1 ?_
    refine XS.aloadN X52.here hx rfl (hb hby d26_16) rfl rfl ?_
    refine XS.iload X52.here hx rfl (hb hby d26_17) rfl ?_
    refine XS.lloadN X52.here hx rfl (hb hby d26_19) rfl ?_
    refine st57 _ ?_
    refine XS.iinc X57.here hx rfl (hb hby d26_21) rfl (l' := #[Sr a1, Si p2, Si (p2 + (1 : Int32)), Sl (0 : Int64), S2, Si (p2 + (1 : Int32))]) rfl ?_
    refine XS.goto X57.here hx rfl (pc0 := 24) (pc' := 10) rfl (hb hby d26_24) (by decide) (by decide) ?_
    show Steps _ _ _ (T57.setTop (mkF m 10 #[Sr a1, Si p2, Si (p2 + (1 : Int32)), Sl (0 : Int64), S2, Si (p2 + (1 : Int32))] [])) _
    refine XS.iload X57.here hx rfl (hb hby d26_10) rfl ?_
    refine XS.iloadN X57.here hx rfl (hb hby d26_12) rfl ?_
    refine XS.icmpYes X57.here hx rfl (pc0 := 13) (pc' := 27) rfl (hb hby d26_13) rfl (flt hc60).2.1 (by decide) (by decide) ?_
    exact k
  obtain ⟨fs, hr, hrun, hended, hW, hsame⟩ := X57.leave (v := none) (fun _ => rfl)
  refine ⟨_, _, pre61 _ ?_, hrun, hended, _, _, rfl, ?_, ⟨_, rfl⟩, hW, hsame.mono (by decide) (by decide)⟩
  · exact X57.returnOut hx Bd.returns (hb hby d26_27) hr
  · show Q_rm_fillA Z a1 p2 k vs h0 n0 _ T57.heap _
    rw [e57]
    exact ⟨rfl, N59, KC58, V57⟩
theorem ef_rm_fillB (m : MethodId) (x0 : Addr) (x1 : Int32) (x2 : Int32) : entryFrame m #[(.ref x0), (.int x1), (.int x2), (.long (0 : Int64))] 6 = mkF m 0 #[Sr x0, Si x1, Si x2, Sl (0 : Int64), S2, Su] [] := by first | (simp [entryFrame, mkF, argsToLocals, Value.category]; done) | rfl
def Q_rm_fillB (Z : State) (a1 : Addr) (p2 : Int32) (k : ClassId) (vs : List Value) (h0 : Heap) (n0 : Nat) (v : Option Value) (h : Heap) (L : List Loc) : Prop := v = none ∧ Fr n0 L ∧ Keep h0 h [a1] ∧ Arv Z h a1 k .long (6 : Int32) ((vs.set (p2).toNatClampNeg (.long (0 : Int64))).set ((p2 + (1 : Int32))).toNatClampNeg (.long (0 : Int64))) (.long (0 : Int64))
set_option maxRecDepth 65536 in
set_option maxHeartbeats 40000000 in
theorem rm_fillB (l : Launch) (Z : State) (a0 : Array Value) (hw : ∀ d ∈ tables_1, d.before a0 Z = true) (ws : List Jvm.Cond) (a1 : Addr) (p2 : Int32) (k : ClassId) (vs : List Value) (h0 : Heap) (n0 : Nat) (Z0 : n0 ≤ h0.size) (V1 : Arv Z h0 a1 k .long (6 : Int32) vs (.long (0 : Int64))) (g1 : n0 ≤ a1) (hp : 0 ≤ p2.toInt ∧ p2.toInt ≤ 3) (hlen : vs.length = 6) :
    MetFree l (⟨"java/util/Arrays", "fill", "([JIIJ)V"⟩ : MethodName) (head1 (Jvm.Cond.code (⟨"java/util/Arrays", "fill", "([JIIJ)V"⟩ : MethodName) jdk_65_method_102_code 6 none :: ws) ({ frames := 1, cells := 0, slots := 0, locals := 14 } : Room)) (fun a U => a = #[(.ref a1), (.int p2), (.int (p2 + (2 : Int32))), (.long (0 : Int64))] ∧ Z.Warmed39 U.vm ∧ U.heap = h0) (fun _ _ _ _ _ => True) (fun _ U o U' => ∃ v L, o = .returned v ∧ Q_rm_fillB Z a1 p2 k vs h0 n0 v U'.heap L ∧ FrameEnd U o U' L ({ frames := 1, cells := 0, slots := 0, locals := 14 } : Room).cells ({ frames := 1, cells := 0, slots := 0, locals := 14 } : Room).slots) := by
  refine MetFree.of_bodySF (plainFor_of_name pn_9) hisR ?_
  intro p e s m args below meth c s₁ Bd hml0 hP hK
  obtain ⟨rfl, hZ, hh⟩ := hP
  have hx := Bd.exec
  have hby := Bd.bytes
  have hml : c.maxLocals = 6 := hml0
  have hown : s.vm.findClass "java/util/Arrays" = some m.cls := findClass_of_methodNamed Bd.named
  have hnm := (name_of_methodNamed Bd.named Bd.method).1
  have X0 : Stand p l e ({ frames := 1, cells := 0, slots := 0, locals := 14 } : Room) s m #[(.ref a1), (.int p2), (.int (p2 + (2 : Int32))), (.long (0 : Int64))] below meth c s₁ [] 0 0 := Stand.of_body Bd
  have e0 : s₁.heap = h0 := by rw [← hh, Bd.state]; rfl
  have N0 := Fr.nil n0
  have pre0 : ∀ t, Steps p.tables e below (s₁.setTop (mkF m 0 #[Sr a1, Si p2, Si (p2 + (2 : Int32)), Sl (0 : Int64), S2, Su] [])) t → Steps p.tables e below (s₁.setTop (entryFrame m #[(.ref a1), (.int p2), (.int (p2 + (2 : Int32))), (.long (0 : Int64))] 6)) t := fun t k => castTop (ef_rm_fillB m a1 p2 (p2 + (2 : Int32))) k
  obtain ⟨c51, Arc51, Aqc51, Asc51, Anc51, Ahc51, Agc51⟩ := id V1
  obtain ⟨_, _, ⟨T52, L52, k52, n52⟩, -, X52, ⟨Lc52, hQ52, l52, y52, z52⟩, st52⟩ := Jvm.LawKit.callS X0 hx (y := (⟨"java/util/Arrays", "rangeCheck", "(III)V"⟩ : MethodName)) hown (mvT hZ (ow hw 169 rfl)) (mvT hZ (ow hw 170 rfl)) (mvT hZ (ow hw 167 rfl)) (mvT hZ (ow hw 171 rfl)) (by decide) (backOf (W := 0) (rm27 l Z a0 hw [] (6 : Int32) p2 (p2 + (2 : Int32)) h0 n0 Z0 (own_nltI (by have e := own_o1 p2 hp; omega)) (own_inA hp).1 (own_nltI (by have e := own_o1 p2 hp; show _ ≤ (6 : Int); omega))) hZ (ow hw 171 rfl) (ow hw 167 rfl) (by decide) (by decide)) (g := (mkF m 4 #[Sr a1, Si p2, Si (p2 + (2 : Int32)), Sl (0 : Int64), S2, Su] [(.int (p2 + (2 : Int32))), (.int p2), (.int (6 : Int32))])) rfl (by rw [hml]; rfl) (argsL := [(.int (6 : Int32)), (.int p2), (.int (p2 + (2 : Int32)))]) (rest := []) (lenOf pd_10 rfl) rfl (by show 2 * 0 + _ ≤ _; exact Nat.le_of_eq rfl) (hb hby d26_4) (fun _ _ => ⟨rfl, e0, (by decide : 0 + 0 ≤ _), (by decide : 0 + 0 ≤ _)⟩)
  dsimp only [Pt.U, Pt.locs, Pt.cells, Pt.slots] at X52 l52 y52 z52 st52 hQ52
  subst y52 z52
  obtain ⟨rfl, Nq52, q52_0⟩ := hQ52
  have N53 := Eq.subst (motive := fun L => Fr n0 L) l52.symm (Fr.app N0 Nq52)
  have hc54 : p2 < (p2 + (2 : Int32)) := own_ltI (by have e := own_o1 p2 hp; omega)
  obtain ⟨c55, Arc55, Aqc55, Asc55, Anc55, Ahc55, Agc55⟩ := id V1
  have hin56 : ¬ (p2 < 0 ∨ c55.slots.size ≤ (p2).toNatClampNeg) := inb_of Asc55 (own_inA hp)
  obtain ⟨T57, h57, X57, e57, W57, st57⟩ := stJ X52 hx hZ q52_0 Arc55 (j := p2) hin56 (g := (mkF m 20 #[Sr a1, Si p2, Si (p2 + (2 : Int32)), Sl (0 : Int64), S2, Si p2] [(.long (0 : Int64)), (.int p2), (.ref a1)])) rfl rfl (hb hby d26_20)
  have KC58 : Keep h0 h57 [a1] := (Keep.refl h0 [a1]).wr W57 (Or.inl (List.mem_of_getElem? (i := 0) rfl))
  have V57 : Arv Z h57 a1 k .long (6 : Int32) (vs.set (p2).toNatClampNeg (.long (0 : Int64))) (.long (0 : Int64)) := Arv.set Arc55 Aqc55 Asc55 Anc55 Ahc55 Agc55 rfl W57 (p2).toNatClampNeg rfl (own_hiA hp hlen)
  have N59 := Fr.snoc X57 N53 g1
  have hc60 : (p2 + (1 : Int32)) < (p2 + (2 : Int32)) := own_ltI (by have e := own_o1 p2 hp; omega)
  obtain ⟨c61, Arc61, Aqc61, Asc61, Anc61, Ahc61, Agc61⟩ := id V57
  have hin62 : ¬ ((p2 + (1 : Int32)) < 0 ∨ c61.slots.size ≤ ((p2 + (1 : Int32))).toNatClampNeg) := inb_of Asc61 (own_inB hp)
  obtain ⟨T63, h63, X63, e63, W63, st63⟩ := stJ X57 hx hZ e57 Arc61 (j := (p2 + (1 : Int32))) hin62 (g := (mkF m 20 #[Sr a1, Si p2, Si (p2 + (2 : Int32)), Sl (0 : Int64), S2, Si (p2 + (1 : Int32))] [(.long (0 : Int64)), (.int (p2 + (1 : Int32))), (.ref a1)])) rfl rfl (hb hby d26_20)
  have KC64 : Keep h0 h63 [a1] := KC58.wr W63 (Or.inl (List.mem_of_getElem? (i := 0) rfl))
  have V63 : Arv Z h63 a1 k .long (6 : Int32) ((vs.set (p2).toNatClampNeg (.long (0 : Int64))).set ((p2 + (1 : Int32))).toNatClampNeg (.long (0 : Int64))) (.long (0 : Int64)) := Arv.set Arc61 Aqc61 Asc61 Anc61 Ahc61 Agc61 rfl W63 ((p2 + (1 : Int32))).toNatClampNeg rfl (own_hiB hp (by rw [List.length_set]; exact hlen))
  have N65 := Fr.snoc X63 N59 g1
  have hc66 : ¬ (((p2 + (1 : Int32)) + (1 : Int32)) < (p2 + (2 : Int32))) := own_nltI (by have e := own_o1 p2 hp; omega)
  have pre67 : ∀ t, Steps p.tables e below (T63.setTop (mkF m 27 #[Sr a1, Si p2, Si (p2 + (2 : Int32)), Sl (0 : Int64), S2, Si ((p2 + (1 : Int32)) + (1 : Int32))] [])) t → Steps p.tables e below (s₁.setTop (entryFrame m #[(.ref a1), (.int p2), (.int (p2 + (2 : Int32))), (.long (0 : Int64))] 6)) t := by
    intro t k
    refine pre0 t ?_
    refine XS.aloadN X0.here hx rfl (hb hby d26_0) rfl rfl ?_
    refine X0.arraylength hx (by rw [e0]; exact Arc51.1) (State.isArrayOf_alike hZ.alike Arc51.2.1) (g := (mkF m 1 #[Sr a1, Si p2, Si (p2 + (2 : Int32)), Sl (0 : Int64), S2, Su] [(.ref a1)])) rfl rfl (hb hby d26_1) _ ?_
    rw [len_of Asc51 Anc51]
    refine XS.iloadN X0.here hx rfl (hb hby d26_2) rfl ?_
    refine XS.iloadN X0.here hx rfl (hb hby d26_3) rfl ?_
    refine st52 _ ?_
    refine XS.iloadN X52.here hx rfl (hb hby d26_7) rfl ?_
    refine XS.istore X52.here hx rfl (hb hby d26_8) rfl (l' := #[Sr a1, Si p2, Si (p2 + (2 : Int32)), Sl (0 : Int64), S2, Si p2]) rfl ?_
    refine XS.iload X52.here hx rfl (hb hby d26_10) rfl ?_
    show Steps _ _ _ (T52.setTop (mkF m 12 #[Sr a1, Si p2, Si (p2 + (2 : Int32)), Sl (0 : Int64), S2, Si p2] [(.int p2)])) _
    refine XS.iloadN X52.here hx rfl (hb hby d26_12) rfl ?_
    refine XS.icmpNo X52.here hx rfl (hb hby d26_13) rfl (tlt hc54).2.1 ?_
    refine XS.aloadN X52.here hx rfl (hb hby d26_16) rfl rfl ?_
    refine XS.iload X52.here hx rfl (hb hby d26_17) rfl ?_
    refine XS.lloadN X52.here hx rfl (hb hby d26_19) rfl ?_
    refine st57 _ ?_
    refine XS.iinc X57.here hx rfl (hb hby d26_21) rfl (l' := #[Sr a1, Si p2, Si (p2 + (2 : Int32)), Sl (0 : Int64), S2, Si (p2 + (1 : Int32))]) rfl ?_
    refine XS.goto X57.here hx rfl (pc0 := 24) (pc' := 10) rfl (hb hby d26_24) (by decide) (by decide) ?_
    show Steps _ _ _ (T57.setTop (mkF m 10 #[Sr a1, Si p2, Si (p2 + (2 : Int32)), Sl (0 : Int64), S2, Si (p2 + (1 : Int32))] [])) _
    refine XS.iload X57.here hx rfl (hb hby d26_10) rfl ?_
    refine XS.iloadN X57.here hx rfl (hb hby d26_12) rfl ?_
    refine XS.icmpNo X57.here hx rfl (hb hby d26_13) rfl (tlt hc60).2.1 ?_
    refine XS.aloadN X57.here hx rfl (hb hby d26_16) rfl rfl ?_
    refine XS.iload X57.here hx rfl (hb hby d26_17) rfl ?_
    refine XS.lloadN X57.here hx rfl (hb hby d26_19) rfl ?_
    refine st63 _ ?_
    refine XS.iinc X63.here hx rfl (hb hby d26_21) rfl (l' := #[Sr a1, Si p2, Si (p2 + (2 : Int32)), Sl (0 : Int64), S2, Si ((p2 + (1 : Int32)) + (1 : Int32))]) rfl ?_
    show Steps _ _ _ (T63.setTop (mkF m 24 #[Sr a1, Si p2, Si (p2 + (2 : Int32)), Sl (0 : Int64), S2, Si ((p2 + (1 : Int32)) + (1 : Int32))] [])) _
    refine XS.goto X63.here hx rfl (pc0 := 24) (pc' := 10) rfl (hb hby d26_24) (by decide) (by decide) ?_
    refine XS.iload X63.here hx rfl (hb hby d26_10) rfl ?_
    refine XS.iloadN X63.here hx rfl (hb hby d26_12) rfl ?_
    refine XS.icmpYes X63.here hx rfl (pc0 := 13) (pc' := 27) rfl (hb hby d26_13) rfl (flt hc66).2.1 (by decide) (by decide) ?_
    exact k
  obtain ⟨fs, hr, hrun, hended, hW, hsame⟩ := X63.leave (v := none) (fun _ => rfl)
  refine ⟨_, _, pre67 _ ?_, hrun, hended, _, _, rfl, ?_, ⟨_, rfl⟩, hW, hsame.mono (by decide) (by decide)⟩
  · exact X63.returnOut hx Bd.returns (hb hby d26_27) hr
  · show Q_rm_fillB Z a1 p2 k vs h0 n0 _ T63.heap _
    rw [e63]
    exact ⟨rfl, N65, KC64, V63⟩
theorem d25_0 : decode prog_74_method_4_code 0 = .ok (.aload_n 2, 1) := by decide +kernel
theorem d25_1 : decode prog_74_method_4_code 1 = .ok (.iload_n 3, 1) := by decide +kernel
theorem d25_2 : decode prog_74_method_4_code 2 = .ok (.iload_n 3, 1) := by decide +kernel
theorem d25_3 : decode prog_74_method_4_code 3 = .ok (.aload_n 0, 1) := by decide +kernel
theorem d25_4 : decode prog_74_method_4_code 4 = .ok (.getfield 47, 3) := by decide +kernel
theorem d25_7 : decode prog_74_method_4_code 7 = .ok (.iadd, 1) := by decide +kernel
theorem d25_8 : decode prog_74_method_4_code 8 = .ok (.lconst 0, 1) := by decide +kernel
theorem pd_11 : parseMethodDescriptor "([JIIJ)V" = some ⟨[(.array .long), .int, .int, .long], none⟩ := by decide +kernel
theorem d25_9 : decode prog_74_method_4_code 9 = .ok (.invokestatic 87, 3) := by decide +kernel
theorem d25_12 : decode prog_74_method_4_code 12 = .ok (.aload_n 2, 1) := by decide +kernel
theorem d25_13 : decode prog_74_method_4_code 13 = .ok (.iload_n 3, 1) := by decide +kernel
theorem d25_14 : decode prog_74_method_4_code 14 = .ok (.lconst 1, 1) := by decide +kernel
theorem d25_15 : decode prog_74_method_4_code 15 = .ok (.lastore, 1) := by decide +kernel
theorem d25_16 : decode prog_74_method_4_code 16 = .ok (.iconst 0, 1) := by decide +kernel
theorem d25_17 : decode prog_74_method_4_code 17 = .ok (.istore 4, 2) := by decide +kernel
theorem d25_19 : decode prog_74_method_4_code 19 = .ok (.iload 4, 2) := by decide +kernel
theorem d25_21 : decode prog_74_method_4_code 21 = .ok (.aload_n 1, 1) := by decide +kernel
theorem d25_22 : decode prog_74_method_4_code 22 = .ok (.arraylength, 1) := by decide +kernel
theorem d25_23 : decode prog_74_method_4_code 23 = .ok (.if_icmp .ge 53, 3) := by decide +kernel
theorem d25_26 : decode prog_74_method_4_code 26 = .ok (.aload_n 2, 1) := by decide +kernel
theorem d25_27 : decode prog_74_method_4_code 27 = .ok (.iload_n 3, 1) := by decide +kernel
theorem d25_28 : decode prog_74_method_4_code 28 = .ok (.aload_n 0, 1) := by decide +kernel
theorem d25_29 : decode prog_74_method_4_code 29 = .ok (.getfield 13, 3) := by decide +kernel
theorem d25_32 : decode prog_74_method_4_code 32 = .ok (.iload 4, 2) := by decide +kernel
theorem d25_34 : decode prog_74_method_4_code 34 = .ok (.iaload, 1) := by decide +kernel
theorem d25_35 : decode prog_74_method_4_code 35 = .ok (.iadd, 1) := by decide +kernel
theorem d25_36 : decode prog_74_method_4_code 36 = .ok (.dup2, 1) := by decide +kernel
theorem d25_37 : decode prog_74_method_4_code 37 = .ok (.laload, 1) := by decide +kernel
theorem d25_38 : decode prog_74_method_4_code 38 = .ok (.aload_n 1, 1) := by decide +kernel
theorem d25_39 : decode prog_74_method_4_code 39 = .ok (.iload 4, 2) := by decide +kernel
theorem d25_41 : decode prog_74_method_4_code 41 = .ok (.iaload, 1) := by decide +kernel
theorem d25_42 : decode prog_74_method_4_code 42 = .ok (.i2l, 1) := by decide +kernel
theorem d25_43 : decode prog_74_method_4_code 43 = .ok (.aload_n 0, 1) := by decide +kernel
theorem d25_44 : decode prog_74_method_4_code 44 = .ok (.getfield 26, 3) := by decide +kernel
theorem d25_47 : decode prog_74_method_4_code 47 = .ok (.iload 4, 2) := by decide +kernel
theorem d25_49 : decode prog_74_method_4_code 49 = .ok (.iaload, 1) := by decide +kernel
theorem d25_50 : decode prog_74_method_4_code 50 = .ok (.i2l, 1) := by decide +kernel
theorem d25_51 : decode prog_74_method_4_code 51 = .ok (.lsub, 1) := by decide +kernel
theorem d25_52 : decode prog_74_method_4_code 52 = .ok (.aload_n 0, 1) := by decide +kernel
theorem d25_53 : decode prog_74_method_4_code 53 = .ok (.getfield 22, 3) := by decide +kernel
theorem d25_56 : decode prog_74_method_4_code 56 = .ok (.iload 4, 2) := by decide +kernel
theorem d25_58 : decode prog_74_method_4_code 58 = .ok (.laload, 1) := by decide +kernel
theorem d25_59 : decode prog_74_method_4_code 59 = .ok (.land, 1) := by decide +kernel
theorem d25_60 : decode prog_74_method_4_code 60 = .ok (.aload_n 0, 1) := by decide +kernel
theorem d25_61 : decode prog_74_method_4_code 61 = .ok (.getfield 19, 3) := by decide +kernel
theorem d25_64 : decode prog_74_method_4_code 64 = .ok (.iload 4, 2) := by decide +kernel
theorem d25_66 : decode prog_74_method_4_code 66 = .ok (.iaload, 1) := by decide +kernel
theorem d25_67 : decode prog_74_method_4_code 67 = .ok (.lshl, 1) := by decide +kernel
theorem d25_68 : decode prog_74_method_4_code 68 = .ok (.lor, 1) := by decide +kernel
theorem d25_69 : decode prog_74_method_4_code 69 = .ok (.lastore, 1) := by decide +kernel
theorem d25_70 : decode prog_74_method_4_code 70 = .ok (.iinc 4 1, 3) := by decide +kernel
theorem d25_73 : decode prog_74_method_4_code 73 = .ok (.goto (-54), 3) := by decide +kernel
theorem d25_76 : decode prog_74_method_4_code 76 = .ok (.return_, 1) := by decide +kernel
theorem ef_rm_packA (m : MethodId) (x0 : Addr) (x1 : Addr) (x2 : Addr) (x3 : Int32) : entryFrame m #[(.ref x0), (.ref x1), (.ref x2), (.int x3)] 5 = mkF m 0 #[Sr x0, Sr x1, Sr x2, Si x3, Su] [] := by first | (simp [entryFrame, mkF, argsToLocals, Value.category]; done) | rfl
def Q_rm_packA (Z : State) (a1 : Addr) (a2 : Addr) (a3 : Addr) (p4 : Int32) (r1 : Addr) (r2 : Addr) (r3 : Addr) (r4 : Addr) (c1 : ClassId) (c2 : ClassId) (c3 : ClassId) (c4 : ClassId) (s0 : Int32) (s1 : Int32) (s2 : Int32) (m0 : Int64) (m1 : Int64) (m2 : Int64) (f0 : Int32) (f1 : Int32) (f2 : Int32) (k2 : ClassId) (k3 : ClassId) (x0 : Int32) (x1 : Int32) (x2 : Int32) (vs : List Value) (gA : Int64) (gB : Int64) (h0 : Heap) (n0 : Nat) (v : Option Value) (h : Heap) (L : List Loc) : Prop := ∃ (vq : List Value), v = none ∧ Fr n0 L ∧ Keep h0 h [a3] ∧ Arv Z h a3 k3 .long (6 : Int32) vq (.long (0 : Int64)) ∧ vq.length = 6 ∧ vq.getD (p4).toNatClampNeg (.long (0 : Int64)) = (.long (own_por (own_por (own_por (1 : Int64) s0 m0 f0 x0) s1 m1 f1 x1) s2 m2 f2 x2)) ∧ vq.getD ((p4 + (1 : Int32))).toNatClampNeg (.long (0 : Int64)) = (.long gB)
set_option maxRecDepth 65536 in
set_option maxHeartbeats 40000000 in
theorem rm_packA (l : Launch) (Z : State) (a0 : Array Value) (hw : ∀ d ∈ tables_1, d.before a0 Z = true) (ws : List Jvm.Cond) (a1 : Addr) (a2 : Addr) (a3 : Addr) (p4 : Int32) (r1 : Addr) (r2 : Addr) (r3 : Addr) (r4 : Addr) (c1 : ClassId) (c2 : ClassId) (c3 : ClassId) (c4 : ClassId) (s0 : Int32) (s1 : Int32) (s2 : Int32) (m0 : Int64) (m1 : Int64) (m2 : Int64) (f0 : Int32) (f1 : Int32) (f2 : Int32) (k2 : ClassId) (k3 : ClassId) (x0 : Int32) (x1 : Int32) (x2 : Int32) (vs : List Value) (gA : Int64) (gB : Int64) (h0 : Heap) (n0 : Nat) (Z0 : n0 ≤ h0.size) (F_r1 : Fld Z h0 a1 "com/example/darlington/darlington/core/StateLayout" "wordOf" "[I" (.ref r1)) (V_r1 : Arv Z h0 r1 c1 .int (3 : Int32) [(.int (0 : Int32)), (.int (0 : Int32)), (.int (0 : Int32))] (.int (0 : Int32))) (F_r2 : Fld Z h0 a1 "com/example/darlington/darlington/core/StateLayout" "shiftOf" "[I" (.ref r2)) (V_r2 : Arv Z h0 r2 c2 .int (3 : Int32) [(.int s0), (.int s1), (.int s2)] (.int (0 : Int32))) (F_r3 : Fld Z h0 a1 "com/example/darlington/darlington/core/StateLayout" "maskOf" "[J" (.ref r3)) (V_r3 : Arv Z h0 r3 c3 .long (3 : Int32) [(.long m0), (.long m1), (.long m2)] (.long (0 : Int64))) (F_r4 : Fld Z h0 a1 "com/example/darlington/darlington/core/StateLayout" "firstOf" "[I" (.ref r4)) (V_r4 : Arv Z h0 r4 c4 .int (3 : Int32) [(.int f0), (.int f1), (.int f2)] (.int (0 : Int32))) (Fw : Fld Z h0 a1 "com/example/darlington/darlington/core/StateLayout" "wordsPerState" "I" (.int (1 : Int32))) (V2 : Arv Z h0 a2 k2 .int (3 : Int32) [(.int x0), (.int x1), (.int x2)] (.int (0 : Int32))) (V3 : Arv Z h0 a3 k3 .long (6 : Int32) vs (.long (0 : Int64))) (g3 : n0 ≤ a3) (n13 : a1 ≠ a3) (n23 : a2 ≠ a3) (nr1 : r1 ≠ a3) (nr2 : r2 ≠ a3) (nr3 : r3 ≠ a3) (nr4 : r4 ≠ a3) (hp : 0 ≤ p4.toInt ∧ p4.toInt ≤ 3) (hlen : vs.length = 6) (hgA : vs.getD (p4).toNatClampNeg (.long (0 : Int64)) = (.long gA)) (hgB : vs.getD ((p4 + (1 : Int32))).toNatClampNeg (.long (0 : Int64)) = (.long gB)) :
    MetFree l (⟨"com/example/darlington/darlington/core/StateLayout", "pack", "([I[JI)V"⟩ : MethodName) (head1 (Jvm.Cond.code (⟨"com/example/darlington/darlington/core/StateLayout", "pack", "([I[JI)V"⟩ : MethodName) prog_74_method_4_code 5 none :: ws) ({ frames := 2, cells := 0, slots := 0, locals := 31 } : Room)) (fun a U => a = #[(.ref a1), (.ref a2), (.ref a3), (.int p4)] ∧ Z.Warmed39 U.vm ∧ U.heap = h0) (fun _ _ _ _ _ => True) (fun _ U o U' => ∃ v L, o = .returned v ∧ Q_rm_packA Z a1 a2 a3 p4 r1 r2 r3 r4 c1 c2 c3 c4 s0 s1 s2 m0 m1 m2 f0 f1 f2 k2 k3 x0 x1 x2 vs gA gB h0 n0 v U'.heap L ∧ FrameEnd U o U' L ({ frames := 2, cells := 0, slots := 0, locals := 31 } : Room).cells ({ frames := 2, cells := 0, slots := 0, locals := 31 } : Room).slots) := by
  refine MetFree.of_bodySF (plainFor_of_name pn_8) hisR ?_
  intro p e s m args below meth c s₁ Bd hml0 hP hK
  obtain ⟨rfl, hZ, hh⟩ := hP
  have hx := Bd.exec
  have hby := Bd.bytes
  have hml : c.maxLocals = 5 := hml0
  have hown : s.vm.findClass "com/example/darlington/darlington/core/StateLayout" = some m.cls := findClass_of_methodNamed Bd.named
  have hnm := (name_of_methodNamed Bd.named Bd.method).1
  have X0 : Stand p l e ({ frames := 2, cells := 0, slots := 0, locals := 31 } : Room) s m #[(.ref a1), (.ref a2), (.ref a3), (.int p4)] below meth c s₁ [] 0 0 := Stand.of_body Bd
  have e0 : s₁.heap = h0 := by rw [← hh, Bd.state]; rfl
  have N0 := Fr.nil n0
  have pre0 : ∀ t, Steps p.tables e below (s₁.setTop (mkF m 0 #[Sr a1, Sr a2, Sr a3, Si p4, Su] [])) t → Steps p.tables e below (s₁.setTop (entryFrame m #[(.ref a1), (.ref a2), (.ref a3), (.int p4)] 5)) t := fun t k => castTop (ef_rm_packA m a1 a2 a3 p4) k
  obtain ⟨T51, X51, e51, st51⟩ := getF X0 hx hZ hown (host := "") (Or.inl (ow hw 158 rfl)) Via.refl e0 Fw (g := (mkF m 4 #[Sr a1, Sr a2, Sr a3, Si p4, Su] [(.ref a1), (.int p4), (.int p4), (.ref a3)])) rfl rfl (hb hby d25_4)
  obtain ⟨_, _, ⟨T52, L52, k52, n52⟩, -, X52, ⟨Lc52, hQ52, l52, y52, z52⟩, st52⟩ := Jvm.LawKit.callS X51 hx (y := (⟨"java/util/Arrays", "fill", "([JIIJ)V"⟩ : MethodName)) hown (mvT hZ (ow hw 165 rfl)) (mvT hZ (ow hw 166 rfl)) (mvT hZ (ow hw 167 rfl)) (mvT hZ (ow hw 168 rfl)) (by decide) (backOf (W := 0) (rm_fillA l Z a0 hw [] a3 p4 k3 vs h0 n0 Z0 V3 g3 hp hlen) hZ (ow hw 168 rfl) (ow hw 167 rfl) (by decide) (by decide)) (g := (mkF m 9 #[Sr a1, Sr a2, Sr a3, Si p4, Su] [(.long (0 : Int64)), (.int (p4 + (1 : Int32))), (.int p4), (.ref a3)])) rfl (by rw [hml]; rfl) (argsL := [(.ref a3), (.int p4), (.int (p4 + (1 : Int32))), (.long (0 : Int64))]) (rest := []) (lenOf pd_11 rfl) rfl (by show 2 * 0 + _ ≤ _; exact Nat.le_of_eq rfl) (hb hby d25_9) (fun _ _ => ⟨rfl, e51, (by decide : 0 + 0 ≤ _), (by decide : 0 + 0 ≤ _)⟩)
  dsimp only [Pt.U, Pt.locs, Pt.cells, Pt.slots] at X52 l52 y52 z52 st52 hQ52
  subst y52 z52
  obtain ⟨rfl, Nq52, q52_0, q52_1⟩ := hQ52
  have N53 := Eq.subst (motive := fun L => Fr n0 L) l52.symm (Fr.app N0 Nq52)
  have KC54 : Keep h0 T52.heap [a3] := (Keep.refl h0 [a3]).trans q52_0 (allS (Or.inl (List.mem_of_getElem? (i := 0) rfl)) all0)
  have pre55 : ∀ t, Steps p.tables e below (T52.setTop (mkF m 12 #[Sr a1, Sr a2, Sr a3, Si p4, Su] [])) t → Steps p.tables e below (s₁.setTop (entryFrame m #[(.ref a1), (.ref a2), (.ref a3), (.int p4)] 5)) t := by
    intro t k
    refine pre0 t ?_
    refine XS.aloadN X0.here hx rfl (hb hby d25_0) rfl rfl ?_
    refine XS.iloadN X0.here hx rfl (hb hby d25_1) rfl ?_
    refine XS.iloadN X0.here hx rfl (hb hby d25_2) rfl ?_
    refine XS.aloadN X0.here hx rfl (hb hby d25_3) rfl rfl ?_
    refine st51 _ ?_
    refine XS.iadd X51.here hx rfl (hb hby d25_7) rfl ?_
    refine XS.lconst X51.here hx rfl (hb hby d25_8) ?_
    refine st52 _ ?_
    show Steps _ _ _ (T52.setTop (mkF m 12 #[Sr a1, Sr a2, Sr a3, Si p4, Su] [])) _
    exact k
  obtain ⟨vl56, hvl56⟩ : ∃ z : List Value, z = (vs.set (p4).toNatClampNeg (.long (0 : Int64))) := ⟨_, rfl⟩
  rw [← hvl56] at q52_1
  have hlvl56 : vl56.length = 6 := by rw [hvl56]; first | exact hlen | (simp only [List.length_set]; exact hlen)
  have hAvl56 : vl56.getD (p4).toNatClampNeg (.long (0 : Int64)) = (.long (0 : Int64)) := by rw [hvl56]; exact (own_gs (by first | exact own_hiA hp hlen | (simp only [List.length_set]; exact own_hiA hp hlen)))
  have hBvl56 : vl56.getD ((p4 + (1 : Int32))).toNatClampNeg (.long (0 : Int64)) = (.long gB) := by rw [hvl56]; exact ((own_gn (own_neAB hp)).trans hgB)
  obtain ⟨c57, Arc57, Aqc57, Asc57, Anc57, Ahc57, Agc57⟩ := id q52_1
  have hin58 : ¬ (p4 < 0 ∨ c57.slots.size ≤ (p4).toNatClampNeg) := inb_of Asc57 (own_inA hp)
  obtain ⟨T59, h59, X59, e59, W59, st59⟩ := stJ X52 hx hZ rfl Arc57 (j := p4) hin58 (g := (mkF m 15 #[Sr a1, Sr a2, Sr a3, Si p4, Su] [(.long (1 : Int64)), (.int p4), (.ref a3)])) rfl rfl (hb hby d25_15)
  have KC60 : Keep h0 h59 [a3] := KC54.wr W59 (Or.inl (List.mem_of_getElem? (i := 0) rfl))
  have V59 : Arv Z h59 a3 k3 .long (6 : Int32) (vl56.set (p4).toNatClampNeg (.long (1 : Int64))) (.long (0 : Int64)) := Arv.set Arc57 Aqc57 Asc57 Anc57 Ahc57 Agc57 rfl W59 (p4).toNatClampNeg rfl (own_hiA hp hlvl56)
  have N61 := Fr.snoc X59 N53 g3
  have pre62 : ∀ t, Steps p.tables e below (T59.setTop (mkF m 16 #[Sr a1, Sr a2, Sr a3, Si p4, Su] [])) t → Steps p.tables e below (s₁.setTop (entryFrame m #[(.ref a1), (.ref a2), (.ref a3), (.int p4)] 5)) t := by
    intro t k
    refine pre55 t ?_
    refine XS.aloadN X52.here hx rfl (hb hby d25_12) rfl rfl ?_
    refine XS.iloadN X52.here hx rfl (hb hby d25_13) rfl ?_
    refine XS.lconst X52.here hx rfl (hb hby d25_14) ?_
    refine st59 _ ?_
    exact k
  obtain ⟨vl63, hvl63⟩ : ∃ z : List Value, z = (vl56.set (p4).toNatClampNeg (.long (1 : Int64))) := ⟨_, rfl⟩
  rw [← hvl63] at V59
  have hlvl63 : vl63.length = 6 := by rw [hvl63]; first | exact hlvl56 | (simp only [List.length_set]; exact hlvl56)
  have hAvl63 : vl63.getD (p4).toNatClampNeg (.long (0 : Int64)) = (.long (1 : Int64)) := by rw [hvl63]; exact (own_gs (by first | exact own_hiA hp hlvl56 | (simp only [List.length_set]; exact own_hiA hp hlvl56)))
  have hBvl63 : vl63.getD ((p4 + (1 : Int32))).toNatClampNeg (.long (0 : Int64)) = (.long gB) := by rw [hvl63]; exact ((own_gn (own_neAB hp)).trans hBvl56)
  have F64 : Arv Z h59 a2 k2 .int (3 : Int32) [(.int x0), (.int x1), (.int x2)] (.int (0 : Int32)) := ((V2.keep q52_0 (ninS n23 nin0)).other W59 n23)
  obtain ⟨c65, Arc65, Aqc65, Asc65, Anc65, Ahc65, Agc65⟩ := id F64
  have F66 : Fld Z h59 a1 "com/example/darlington/darlington/core/StateLayout" "wordOf" "[I" (.ref r1) := ((F_r1.keep q52_0 (ninS n13 nin0)).other W59 (Or.inl n13))
  obtain ⟨T67, X67, e67, st67⟩ := getF X59 hx hZ hown (host := "") (Or.inl (ow hw 110 rfl)) Via.refl e59 F66 (g := (mkF m 29 #[Sr a1, Sr a2, Sr a3, Si p4, Si (0 : Int32)] [(.ref a1), (.int p4), (.ref a3)])) rfl rfl (hb hby d25_29)
  have F68 : Arv Z h59 r1 c1 .int (3 : Int32) [(.int (0 : Int32)), (.int (0 : Int32)), (.int (0 : Int32))] (.int (0 : Int32)) := ((V_r1.keep q52_0 (ninS nr1 nin0)).other W59 nr1)
  obtain ⟨c69, Arc69, Aqc69, Asc69, Anc69, Ahc69, Agc69⟩ := id F68
  have hin70 : ¬ ((0 : Int32) < 0 ∨ c69.slots.size ≤ ((0 : Int32)).toNatClampNeg) := inb_of Asc69 ⟨by decide, by decide⟩
  have hat71 : c69.slots[((0 : Int32)).toNatClampNeg]? = some (.int (0 : Int32)) := Has.at Ahc69 hin70 rfl
  have pre72 : ∀ t, Steps p.tables e below (T67.setTop (mkF m 36 #[Sr a1, Sr a2, Sr a3, Si p4, Si (0 : Int32)] [(.int (p4 + (0 : Int32))), (.ref a3)])) t → Steps p.tables e below (s₁.setTop (entryFrame m #[(.ref a1), (.ref a2), (.ref a3), (.int p4)] 5)) t := by
    intro t k
    refine pre62 t ?_
    refine XS.iconst X59.here hx rfl (hb hby d25_16) ?_
    refine XS.istore X59.here hx rfl (hb hby d25_17) rfl (l' := #[Sr a1, Sr a2, Sr a3, Si p4, Si (0 : Int32)]) rfl ?_
    refine XS.iload X59.here hx rfl (hb hby d25_19) rfl ?_
    refine XS.aloadN X59.here hx rfl (hb hby d25_21) rfl rfl ?_
    show Steps _ _ _ (T59.setTop (mkF m 22 #[Sr a1, Sr a2, Sr a3, Si p4, Si (0 : Int32)] [(.ref a2), (.int (0 : Int32))])) _
    refine X59.arraylength hx (by rw [e59]; exact Arc65.1) (State.isArrayOf_alike hZ.alike Arc65.2.1) (g := (mkF m 22 #[Sr a1, Sr a2, Sr a3, Si p4, Si (0 : Int32)] [(.ref a2), (.int (0 : Int32))])) rfl rfl (hb hby d25_22) _ ?_
    rw [len_of Asc65 Anc65]
    refine XS.icmpNo X59.here hx rfl (hb hby d25_23) rfl (tlt (by decide)).2.1 ?_
    refine XS.aloadN X59.here hx rfl (hb hby d25_26) rfl rfl ?_
    refine XS.iloadN X59.here hx rfl (hb hby d25_27) rfl ?_
    refine XS.aloadN X59.here hx rfl (hb hby d25_28) rfl rfl ?_
    refine st67 _ ?_
    refine XS.iload X67.here hx rfl (hb hby d25_32) rfl ?_
    refine X67.iaload hx (j := (0 : Int32)) (v := (.int (0 : Int32))) (by rw [e67]; exact Arc69.1) (State.isArrayOf_alike hZ.alike Arc69.2.1) Arc69.2.2 hin70 hat71 (g := (mkF m 34 #[Sr a1, Sr a2, Sr a3, Si p4, Si (0 : Int32)] [(.int (0 : Int32)), (.ref r1), (.int p4), (.ref a3)])) rfl rfl (hb hby d25_34) _ ?_
    show Steps _ _ _ (T67.setTop (mkF m 35 #[Sr a1, Sr a2, Sr a3, Si p4, Si (0 : Int32)] [(.int (0 : Int32)), (.int p4), (.ref a3)])) _
    refine XS.iadd X67.here hx rfl (hb hby d25_35) rfl ?_
    exact k
  rw [Int32.add_zero] at pre72
  obtain ⟨c73, Arc73, Aqc73, Asc73, Anc73, Ahc73, Agc73⟩ := id V59
  have hin74 : ¬ (p4 < 0 ∨ c73.slots.size ≤ (p4).toNatClampNeg) := inb_of Asc73 (own_inA hp)
  have hat75 : c73.slots[(p4).toNatClampNeg]? = some (.long (1 : Int64)) := Has.at Ahc73 hin74 hAvl63
  obtain ⟨c76, Arc76, Aqc76, Asc76, Anc76, Ahc76, Agc76⟩ := id F64
  have hin77 : ¬ ((0 : Int32) < 0 ∨ c76.slots.size ≤ ((0 : Int32)).toNatClampNeg) := inb_of Asc76 ⟨by decide, by decide⟩
  have hat78 : c76.slots[((0 : Int32)).toNatClampNeg]? = some (.int x0) := Has.at Ahc76 hin77 rfl
  have F79 : Fld Z h59 a1 "com/example/darlington/darlington/core/StateLayout" "firstOf" "[I" (.ref r4) := ((F_r4.keep q52_0 (ninS n13 nin0)).other W59 (Or.inl n13))
  obtain ⟨T80, X80, e80, st80⟩ := getF X67 hx hZ hown (host := "") (Or.inl (ow hw 117 rfl)) Via.refl e67 F79 (g := (mkF m 44 #[Sr a1, Sr a2, Sr a3, Si p4, Si (0 : Int32)] [(.ref a1), (.long (x0.toInt64)), (.long (1 : Int64)), (.int p4), (.ref a3)])) rfl rfl (hb hby d25_44)
  have F81 : Arv Z h59 r4 c4 .int (3 : Int32) [(.int f0), (.int f1), (.int f2)] (.int (0 : Int32)) := ((V_r4.keep q52_0 (ninS nr4 nin0)).other W59 nr4)
  obtain ⟨c82, Arc82, Aqc82, Asc82, Anc82, Ahc82, Agc82⟩ := id F81
  have hin83 : ¬ ((0 : Int32) < 0 ∨ c82.slots.size ≤ ((0 : Int32)).toNatClampNeg) := inb_of Asc82 ⟨by decide, by decide⟩
  have hat84 : c82.slots[((0 : Int32)).toNatClampNeg]? = some (.int f0) := Has.at Ahc82 hin83 rfl
  have F85 : Fld Z h59 a1 "com/example/darlington/darlington/core/StateLayout" "maskOf" "[J" (.ref r3) := ((F_r3.keep q52_0 (ninS n13 nin0)).other W59 (Or.inl n13))
  obtain ⟨T86, X86, e86, st86⟩ := getF X80 hx hZ hown (host := "") (Or.inl (ow hw 115 rfl)) Via.refl e80 F85 (g := (mkF m 53 #[Sr a1, Sr a2, Sr a3, Si p4, Si (0 : Int32)] [(.ref a1), (.long ((x0.toInt64) - (f0.toInt64))), (.long (1 : Int64)), (.int p4), (.ref a3)])) rfl rfl (hb hby d25_53)
  have F87 : Arv Z h59 r3 c3 .long (3 : Int32) [(.long m0), (.long m1), (.long m2)] (.long (0 : Int64)) := ((V_r3.keep q52_0 (ninS nr3 nin0)).other W59 nr3)
  obtain ⟨c88, Arc88, Aqc88, Asc88, Anc88, Ahc88, Agc88⟩ := id F87
  have hin89 : ¬ ((0 : Int32) < 0 ∨ c88.slots.size ≤ ((0 : Int32)).toNatClampNeg) := inb_of Asc88 ⟨by decide, by decide⟩
  have hat90 : c88.slots[((0 : Int32)).toNatClampNeg]? = some (.long m0) := Has.at Ahc88 hin89 rfl
  have F91 : Fld Z h59 a1 "com/example/darlington/darlington/core/StateLayout" "shiftOf" "[I" (.ref r2) := ((F_r2.keep q52_0 (ninS n13 nin0)).other W59 (Or.inl n13))
  obtain ⟨T92, X92, e92, st92⟩ := getF X86 hx hZ hown (host := "") (Or.inl (ow hw 112 rfl)) Via.refl e86 F91 (g := (mkF m 61 #[Sr a1, Sr a2, Sr a3, Si p4, Si (0 : Int32)] [(.ref a1), (.long (((x0.toInt64) - (f0.toInt64)) &&& m0)), (.long (1 : Int64)), (.int p4), (.ref a3)])) rfl rfl (hb hby d25_61)
  have F93 : Arv Z h59 r2 c2 .int (3 : Int32) [(.int s0), (.int s1), (.int s2)] (.int (0 : Int32)) := ((V_r2.keep q52_0 (ninS nr2 nin0)).other W59 nr2)
  obtain ⟨c94, Arc94, Aqc94, Asc94, Anc94, Ahc94, Agc94⟩ := id F93
  have hin95 : ¬ ((0 : Int32) < 0 ∨ c94.slots.size ≤ ((0 : Int32)).toNatClampNeg) := inb_of Asc94 ⟨by decide, by decide⟩
  have hat96 : c94.slots[((0 : Int32)).toNatClampNeg]? = some (.int s0) := Has.at Ahc94 hin95 rfl
  have pre97 : ∀ t, Steps p.tables e below (T92.setTop (mkF m 69 #[Sr a1, Sr a2, Sr a3, Si p4, Si (0 : Int32)] [(.long ((1 : Int64) ||| ((((x0.toInt64) - (f0.toInt64)) &&& m0) <<< (s0 &&& 0x3f).toInt64))), (.int p4), (.ref a3)])) t → Steps p.tables e below (s₁.setTop (entryFrame m #[(.ref a1), (.ref a2), (.ref a3), (.int p4)] 5)) t := by
    intro t k
    refine pre72 t ?_
    jvm_step X67.here [X67.here.top, hx, (hb hby d25_36), Value.category]
    show Steps _ _ _ (T67.setTop (mkF m 37 #[Sr a1, Sr a2, Sr a3, Si p4, Si (0 : Int32)] [(.int p4), (.ref a3), (.int p4), (.ref a3)])) _
    refine X67.laload hx (j := p4) (v := (.long (1 : Int64))) (by rw [e67]; exact Arc73.1) (State.isArrayOf_alike hZ.alike Arc73.2.1) Arc73.2.2 hin74 hat75 (g := (mkF m 37 #[Sr a1, Sr a2, Sr a3, Si p4, Si (0 : Int32)] [(.int p4), (.ref a3), (.int p4), (.ref a3)])) rfl rfl (hb hby d25_37) _ ?_
    refine XS.aloadN X67.here hx rfl (hb hby d25_38) rfl rfl ?_
    refine XS.iload X67.here hx rfl (hb hby d25_39) rfl ?_
    refine X67.iaload hx (j := (0 : Int32)) (v := (.int x0)) (by rw [e67]; exact Arc76.1) (State.isArrayOf_alike hZ.alike Arc76.2.1) Arc76.2.2 hin77 hat78 (g := (mkF m 41 #[Sr a1, Sr a2, Sr a3, Si p4, Si (0 : Int32)] [(.int (0 : Int32)), (.ref a2), (.long (1 : Int64)), (.int p4), (.ref a3)])) rfl rfl (hb hby d25_41) _ ?_
    refine XS.i2l X67.here hx rfl (hb hby d25_42) rfl ?_
    refine XS.aloadN X67.here hx rfl (hb hby d25_43) rfl rfl ?_
    refine st80 _ ?_
    show Steps _ _ _ (T80.setTop (mkF m 47 #[Sr a1, Sr a2, Sr a3, Si p4, Si (0 : Int32)] [(.ref r4), (.long (x0.toInt64)), (.long (1 : Int64)), (.int p4), (.ref a3)])) _
    refine XS.iload X80.here hx rfl (hb hby d25_47) rfl ?_
    refine X80.iaload hx (j := (0 : Int32)) (v := (.int f0)) (by rw [e80]; exact Arc82.1) (State.isArrayOf_alike hZ.alike Arc82.2.1) Arc82.2.2 hin83 hat84 (g := (mkF m 49 #[Sr a1, Sr a2, Sr a3, Si p4, Si (0 : Int32)] [(.int (0 : Int32)), (.ref r4), (.long (x0.toInt64)), (.long (1 : Int64)), (.int p4), (.ref a3)])) rfl rfl (hb hby d25_49) _ ?_
    refine XS.i2l X80.here hx rfl (hb hby d25_50) rfl ?_
    refine XS.lsub X80.here hx rfl (hb hby d25_51) rfl ?_
    refine XS.aloadN X80.here hx rfl (hb hby d25_52) rfl rfl ?_
    refine st86 _ ?_
    refine XS.iload X86.here hx rfl (hb hby d25_56) rfl ?_
    refine X86.laload hx (j := (0 : Int32)) (v := (.long m0)) (by rw [e86]; exact Arc88.1) (State.isArrayOf_alike hZ.alike Arc88.2.1) Arc88.2.2 hin89 hat90 (g := (mkF m 58 #[Sr a1, Sr a2, Sr a3, Si p4, Si (0 : Int32)] [(.int (0 : Int32)), (.ref r3), (.long ((x0.toInt64) - (f0.toInt64))), (.long (1 : Int64)), (.int p4), (.ref a3)])) rfl rfl (hb hby d25_58) _ ?_
    show Steps _ _ _ (T86.setTop (mkF m 59 #[Sr a1, Sr a2, Sr a3, Si p4, Si (0 : Int32)] [(.long m0), (.long ((x0.toInt64) - (f0.toInt64))), (.long (1 : Int64)), (.int p4), (.ref a3)])) _
    refine XS.land X86.here hx rfl (hb hby d25_59) rfl ?_
    refine XS.aloadN X86.here hx rfl (hb hby d25_60) rfl rfl ?_
    refine st92 _ ?_
    refine XS.iload X92.here hx rfl (hb hby d25_64) rfl ?_
    refine X92.iaload hx (j := (0 : Int32)) (v := (.int s0)) (by rw [e92]; exact Arc94.1) (State.isArrayOf_alike hZ.alike Arc94.2.1) Arc94.2.2 hin95 hat96 (g := (mkF m 66 #[Sr a1, Sr a2, Sr a3, Si p4, Si (0 : Int32)] [(.int (0 : Int32)), (.ref r2), (.long (((x0.toInt64) - (f0.toInt64)) &&& m0)), (.long (1 : Int64)), (.int p4), (.ref a3)])) rfl rfl (hb hby d25_66) _ ?_
    refine XS.lshl X92.here hx rfl (hb hby d25_67) rfl ?_
    refine XS.lor X92.here hx rfl (hb hby d25_68) rfl ?_
    exact k
  have pre98 : ∀ t, Steps p.tables e below (T92.setTop (mkF m 69 #[Sr a1, Sr a2, Sr a3, Si p4, Si (0 : Int32)] [(.long (own_por (1 : Int64) s0 m0 f0 x0)), (.int p4), (.ref a3)])) t → Steps p.tables e below (s₁.setTop (entryFrame m #[(.ref a1), (.ref a2), (.ref a3), (.int p4)] 5)) t := pre97
  obtain ⟨c99, Arc99, Aqc99, Asc99, Anc99, Ahc99, Agc99⟩ := id V59
  have hin100 : ¬ (p4 < 0 ∨ c99.slots.size ≤ (p4).toNatClampNeg) := inb_of Asc99 (own_inA hp)
  obtain ⟨T101, h101, X101, e101, W101, st101⟩ := stJ X92 hx hZ e92 Arc99 (j := p4) hin100 (g := (mkF m 69 #[Sr a1, Sr a2, Sr a3, Si p4, Si (0 : Int32)] [(.long (own_por (1 : Int64) s0 m0 f0 x0)), (.int p4), (.ref a3)])) rfl rfl (hb hby d25_69)
  have KC102 : Keep h0 h101 [a3] := KC60.wr W101 (Or.inl (List.mem_of_getElem? (i := 0) rfl))
  have V101 : Arv Z h101 a3 k3 .long (6 : Int32) (vl63.set (p4).toNatClampNeg (.long (own_por (1 : Int64) s0 m0 f0 x0))) (.long (0 : Int64)) := Arv.set Arc99 Aqc99 Asc99 Anc99 Ahc99 Agc99 rfl W101 (p4).toNatClampNeg rfl (own_hiA hp hlvl63)
  have N103 := Fr.snoc X101 N61 g3
  have pre104 : ∀ t, Steps p.tables e below (T101.setTop (mkF m 70 #[Sr a1, Sr a2, Sr a3, Si p4, Si (0 : Int32)] [])) t → Steps p.tables e below (s₁.setTop (entryFrame m #[(.ref a1), (.ref a2), (.ref a3), (.int p4)] 5)) t := by
    intro t k
    refine pre98 t ?_
    refine st101 _ ?_
    show Steps _ _ _ (T101.setTop (mkF m 70 #[Sr a1, Sr a2, Sr a3, Si p4, Si (0 : Int32)] [])) _
    exact k
  obtain ⟨vl105, hvl105⟩ : ∃ z : List Value, z = (vl63.set (p4).toNatClampNeg (.long (own_por (1 : Int64) s0 m0 f0 x0))) := ⟨_, rfl⟩
  rw [← hvl105] at V101
  have hlvl105 : vl105.length = 6 := by rw [hvl105]; first | exact hlvl63 | (simp only [List.length_set]; exact hlvl63)
  have hAvl105 : vl105.getD (p4).toNatClampNeg (.long (0 : Int64)) = (.long (own_por (1 : Int64) s0 m0 f0 x0)) := by rw [hvl105]; exact (own_gs (by first | exact own_hiA hp hlvl63 | (simp only [List.length_set]; exact own_hiA hp hlvl63)))
  have hBvl105 : vl105.getD ((p4 + (1 : Int32))).toNatClampNeg (.long (0 : Int64)) = (.long gB) := by rw [hvl105]; exact ((own_gn (own_neAB hp)).trans hBvl63)
  have F106 : Arv Z h101 a2 k2 .int (3 : Int32) [(.int x0), (.int x1), (.int x2)] (.int (0 : Int32)) := (F64.other W101 n23)
  obtain ⟨c107, Arc107, Aqc107, Asc107, Anc107, Ahc107, Agc107⟩ := id F106
  have F108 : Fld Z h101 a1 "com/example/darlington/darlington/core/StateLayout" "wordOf" "[I" (.ref r1) := (F66.other W101 (Or.inl n13))
  obtain ⟨T109, X109, e109, st109⟩ := getF X101 hx hZ hown (host := "") (Or.inl (ow hw 110 rfl)) Via.refl e101 F108 (g := (mkF m 29 #[Sr a1, Sr a2, Sr a3, Si p4, Si (1 : Int32)] [(.ref a1), (.int p4), (.ref a3)])) rfl rfl (hb hby d25_29)
  have F110 : Arv Z h101 r1 c1 .int (3 : Int32) [(.int (0 : Int32)), (.int (0 : Int32)), (.int (0 : Int32))] (.int (0 : Int32)) := (F68.other W101 nr1)
  obtain ⟨c111, Arc111, Aqc111, Asc111, Anc111, Ahc111, Agc111⟩ := id F110
  have hin112 : ¬ ((1 : Int32) < 0 ∨ c111.slots.size ≤ ((1 : Int32)).toNatClampNeg) := inb_of Asc111 ⟨by decide, by decide⟩
  have hat113 : c111.slots[((1 : Int32)).toNatClampNeg]? = some (.int (0 : Int32)) := Has.at Ahc111 hin112 rfl
  have pre114 : ∀ t, Steps p.tables e below (T109.setTop (mkF m 36 #[Sr a1, Sr a2, Sr a3, Si p4, Si (1 : Int32)] [(.int (p4 + (0 : Int32))), (.ref a3)])) t → Steps p.tables e below (s₁.setTop (entryFrame m #[(.ref a1), (.ref a2), (.ref a3), (.int p4)] 5)) t := by
    intro t k
    refine pre104 t ?_
    refine XS.iinc X101.here hx rfl (hb hby d25_70) rfl (l' := #[Sr a1, Sr a2, Sr a3, Si p4, Si (1 : Int32)]) rfl ?_
    refine XS.goto X101.here hx rfl (pc0 := 73) (pc' := 19) rfl (hb hby d25_73) (by decide) (by decide) ?_
    refine XS.iload X101.here hx rfl (hb hby d25_19) rfl ?_
    refine XS.aloadN X101.here hx rfl (hb hby d25_21) rfl rfl ?_
    refine X101.arraylength hx (by rw [e101]; exact Arc107.1) (State.isArrayOf_alike hZ.alike Arc107.2.1) (g := (mkF m 22 #[Sr a1, Sr a2, Sr a3, Si p4, Si (1 : Int32)] [(.ref a2), (.int (1 : Int32))])) rfl rfl (hb hby d25_22) _ ?_
    rw [len_of Asc107 Anc107]
    refine XS.icmpNo X101.here hx rfl (hb hby d25_23) rfl (tlt (by decide)).2.1 ?_
    refine XS.aloadN X101.here hx rfl (hb hby d25_26) rfl rfl ?_
    refine XS.iloadN X101.here hx rfl (hb hby d25_27) rfl ?_
    show Steps _ _ _ (T101.setTop (mkF m 28 #[Sr a1, Sr a2, Sr a3, Si p4, Si (1 : Int32)] [(.int p4), (.ref a3)])) _
    refine XS.aloadN X101.here hx rfl (hb hby d25_28) rfl rfl ?_
    refine st109 _ ?_
    refine XS.iload X109.here hx rfl (hb hby d25_32) rfl ?_
    refine X109.iaload hx (j := (1 : Int32)) (v := (.int (0 : Int32))) (by rw [e109]; exact Arc111.1) (State.isArrayOf_alike hZ.alike Arc111.2.1) Arc111.2.2 hin112 hat113 (g := (mkF m 34 #[Sr a1, Sr a2, Sr a3, Si p4, Si (1 : Int32)] [(.int (1 : Int32)), (.ref r1), (.int p4), (.ref a3)])) rfl rfl (hb hby d25_34) _ ?_
    refine XS.iadd X109.here hx rfl (hb hby d25_35) rfl ?_
    exact k
  rw [Int32.add_zero] at pre114
  obtain ⟨c115, Arc115, Aqc115, Asc115, Anc115, Ahc115, Agc115⟩ := id V101
  have hin116 : ¬ (p4 < 0 ∨ c115.slots.size ≤ (p4).toNatClampNeg) := inb_of Asc115 (own_inA hp)
  have hat117 : c115.slots[(p4).toNatClampNeg]? = some (.long (own_por (1 : Int64) s0 m0 f0 x0)) := Has.at Ahc115 hin116 hAvl105
  obtain ⟨c118, Arc118, Aqc118, Asc118, Anc118, Ahc118, Agc118⟩ := id F106
  have hin119 : ¬ ((1 : Int32) < 0 ∨ c118.slots.size ≤ ((1 : Int32)).toNatClampNeg) := inb_of Asc118 ⟨by decide, by decide⟩
  have hat120 : c118.slots[((1 : Int32)).toNatClampNeg]? = some (.int x1) := Has.at Ahc118 hin119 rfl
  have F121 : Fld Z h101 a1 "com/example/darlington/darlington/core/StateLayout" "firstOf" "[I" (.ref r4) := (F79.other W101 (Or.inl n13))
  obtain ⟨T122, X122, e122, st122⟩ := getF X109 hx hZ hown (host := "") (Or.inl (ow hw 117 rfl)) Via.refl e109 F121 (g := (mkF m 44 #[Sr a1, Sr a2, Sr a3, Si p4, Si (1 : Int32)] [(.ref a1), (.long (x1.toInt64)), (.long (own_por (1 : Int64) s0 m0 f0 x0)), (.int p4), (.ref a3)])) rfl rfl (hb hby d25_44)
  have F123 : Arv Z h101 r4 c4 .int (3 : Int32) [(.int f0), (.int f1), (.int f2)] (.int (0 : Int32)) := (F81.other W101 nr4)
  obtain ⟨c124, Arc124, Aqc124, Asc124, Anc124, Ahc124, Agc124⟩ := id F123
  have hin125 : ¬ ((1 : Int32) < 0 ∨ c124.slots.size ≤ ((1 : Int32)).toNatClampNeg) := inb_of Asc124 ⟨by decide, by decide⟩
  have hat126 : c124.slots[((1 : Int32)).toNatClampNeg]? = some (.int f1) := Has.at Ahc124 hin125 rfl
  have F127 : Fld Z h101 a1 "com/example/darlington/darlington/core/StateLayout" "maskOf" "[J" (.ref r3) := (F85.other W101 (Or.inl n13))
  obtain ⟨T128, X128, e128, st128⟩ := getF X122 hx hZ hown (host := "") (Or.inl (ow hw 115 rfl)) Via.refl e122 F127 (g := (mkF m 53 #[Sr a1, Sr a2, Sr a3, Si p4, Si (1 : Int32)] [(.ref a1), (.long ((x1.toInt64) - (f1.toInt64))), (.long (own_por (1 : Int64) s0 m0 f0 x0)), (.int p4), (.ref a3)])) rfl rfl (hb hby d25_53)
  have F129 : Arv Z h101 r3 c3 .long (3 : Int32) [(.long m0), (.long m1), (.long m2)] (.long (0 : Int64)) := (F87.other W101 nr3)
  obtain ⟨c130, Arc130, Aqc130, Asc130, Anc130, Ahc130, Agc130⟩ := id F129
  have hin131 : ¬ ((1 : Int32) < 0 ∨ c130.slots.size ≤ ((1 : Int32)).toNatClampNeg) := inb_of Asc130 ⟨by decide, by decide⟩
  have hat132 : c130.slots[((1 : Int32)).toNatClampNeg]? = some (.long m1) := Has.at Ahc130 hin131 rfl
  have F133 : Fld Z h101 a1 "com/example/darlington/darlington/core/StateLayout" "shiftOf" "[I" (.ref r2) := (F91.other W101 (Or.inl n13))
  obtain ⟨T134, X134, e134, st134⟩ := getF X128 hx hZ hown (host := "") (Or.inl (ow hw 112 rfl)) Via.refl e128 F133 (g := (mkF m 61 #[Sr a1, Sr a2, Sr a3, Si p4, Si (1 : Int32)] [(.ref a1), (.long (((x1.toInt64) - (f1.toInt64)) &&& m1)), (.long (own_por (1 : Int64) s0 m0 f0 x0)), (.int p4), (.ref a3)])) rfl rfl (hb hby d25_61)
  have F135 : Arv Z h101 r2 c2 .int (3 : Int32) [(.int s0), (.int s1), (.int s2)] (.int (0 : Int32)) := (F93.other W101 nr2)
  obtain ⟨c136, Arc136, Aqc136, Asc136, Anc136, Ahc136, Agc136⟩ := id F135
  have hin137 : ¬ ((1 : Int32) < 0 ∨ c136.slots.size ≤ ((1 : Int32)).toNatClampNeg) := inb_of Asc136 ⟨by decide, by decide⟩
  have hat138 : c136.slots[((1 : Int32)).toNatClampNeg]? = some (.int s1) := Has.at Ahc136 hin137 rfl
  have pre139 : ∀ t, Steps p.tables e below (T134.setTop (mkF m 69 #[Sr a1, Sr a2, Sr a3, Si p4, Si (1 : Int32)] [(.long ((own_por (1 : Int64) s0 m0 f0 x0) ||| ((((x1.toInt64) - (f1.toInt64)) &&& m1) <<< (s1 &&& 0x3f).toInt64))), (.int p4), (.ref a3)])) t → Steps p.tables e below (s₁.setTop (entryFrame m #[(.ref a1), (.ref a2), (.ref a3), (.int p4)] 5)) t := by
    intro t k
    refine pre114 t ?_
    jvm_step X109.here [X109.here.top, hx, (hb hby d25_36), Value.category]
    show Steps _ _ _ (T109.setTop (mkF m 37 #[Sr a1, Sr a2, Sr a3, Si p4, Si (1 : Int32)] [(.int p4), (.ref a3), (.int p4), (.ref a3)])) _
    refine X109.laload hx (j := p4) (v := (.long (own_por (1 : Int64) s0 m0 f0 x0))) (by rw [e109]; exact Arc115.1) (State.isArrayOf_alike hZ.alike Arc115.2.1) Arc115.2.2 hin116 hat117 (g := (mkF m 37 #[Sr a1, Sr a2, Sr a3, Si p4, Si (1 : Int32)] [(.int p4), (.ref a3), (.int p4), (.ref a3)])) rfl rfl (hb hby d25_37) _ ?_
    refine XS.aloadN X109.here hx rfl (hb hby d25_38) rfl rfl ?_
    refine XS.iload X109.here hx rfl (hb hby d25_39) rfl ?_
    show Steps _ _ _ (T109.setTop (mkF m 41 #[Sr a1, Sr a2, Sr a3, Si p4, Si (1 : Int32)] [(.int (1 : Int32)), (.ref a2), (.long (own_por (1 : Int64) s0 m0 f0 x0)), (.int p4), (.ref a3)])) _
    refine X109.iaload hx (j := (1 : Int32)) (v := (.int x1)) (by rw [e109]; exact Arc118.1) (State.isArrayOf_alike hZ.alike Arc118.2.1) Arc118.2.2 hin119 hat120 (g := (mkF m 41 #[Sr a1, Sr a2, Sr a3, Si p4, Si (1 : Int32)] [(.int (1 : Int32)), (.ref a2), (.long (own_por (1 : Int64) s0 m0 f0 x0)), (.int p4), (.ref a3)])) rfl rfl (hb hby d25_41) _ ?_
    refine XS.i2l X109.here hx rfl (hb hby d25_42) rfl ?_
    refine XS.aloadN X109.here hx rfl (hb hby d25_43) rfl rfl ?_
    refine st122 _ ?_
    refine XS.iload X122.here hx rfl (hb hby d25_47) rfl ?_
    refine X122.iaload hx (j := (1 : Int32)) (v := (.int f1)) (by rw [e122]; exact Arc124.1) (State.isArrayOf_alike hZ.alike Arc124.2.1) Arc124.2.2 hin125 hat126 (g := (mkF m 49 #[Sr a1, Sr a2, Sr a3, Si p4, Si (1 : Int32)] [(.int (1 : Int32)), (.ref r4), (.long (x1.toInt64)), (.long (own_por (1 : Int64) s0 m0 f0 x0)), (.int p4), (.ref a3)])) rfl rfl (hb hby d25_49) _ ?_
    refine XS.i2l X122.here hx rfl (hb hby d25_50) rfl ?_
    refine XS.lsub X122.here hx rfl (hb hby d25_51) rfl ?_
    show Steps _ _ _ (T122.setTop (mkF m 52 #[Sr a1, Sr a2, Sr a3, Si p4, Si (1 : Int32)] [(.long ((x1.toInt64) - (f1.toInt64))), (.long (own_por (1 : Int64) s0 m0 f0 x0)), (.int p4), (.ref a3)])) _
    refine XS.aloadN X122.here hx rfl (hb hby d25_52) rfl rfl ?_
    refine st128 _ ?_
    refine XS.iload X128.here hx rfl (hb hby d25_56) rfl ?_
    refine X128.laload hx (j := (1 : Int32)) (v := (.long m1)) (by rw [e128]; exact Arc130.1) (State.isArrayOf_alike hZ.alike Arc130.2.1) Arc130.2.2 hin131 hat132 (g := (mkF m 58 #[Sr a1, Sr a2, Sr a3, Si p4, Si (1 : Int32)] [(.int (1 : Int32)), (.ref r3), (.long ((x1.toInt64) - (f1.toInt64))), (.long (own_por (1 : Int64) s0 m0 f0 x0)), (.int p4), (.ref a3)])) rfl rfl (hb hby d25_58) _ ?_
    refine XS.land X128.here hx rfl (hb hby d25_59) rfl ?_
    refine XS.aloadN X128.here hx rfl (hb hby d25_60) rfl rfl ?_
    refine st134 _ ?_
    refine XS.iload X134.here hx rfl (hb hby d25_64) rfl ?_
    show Steps _ _ _ (T134.setTop (mkF m 66 #[Sr a1, Sr a2, Sr a3, Si p4, Si (1 : Int32)] [(.int (1 : Int32)), (.ref r2), (.long (((x1.toInt64) - (f1.toInt64)) &&& m1)), (.long (own_por (1 : Int64) s0 m0 f0 x0)), (.int p4), (.ref a3)])) _
    refine X134.iaload hx (j := (1 : Int32)) (v := (.int s1)) (by rw [e134]; exact Arc136.1) (State.isArrayOf_alike hZ.alike Arc136.2.1) Arc136.2.2 hin137 hat138 (g := (mkF m 66 #[Sr a1, Sr a2, Sr a3, Si p4, Si (1 : Int32)] [(.int (1 : Int32)), (.ref r2), (.long (((x1.toInt64) - (f1.toInt64)) &&& m1)), (.long (own_por (1 : Int64) s0 m0 f0 x0)), (.int p4), (.ref a3)])) rfl rfl (hb hby d25_66) _ ?_
    refine XS.lshl X134.here hx rfl (hb hby d25_67) rfl ?_
    refine XS.lor X134.here hx rfl (hb hby d25_68) rfl ?_
    exact k
  have pre140 : ∀ t, Steps p.tables e below (T134.setTop (mkF m 69 #[Sr a1, Sr a2, Sr a3, Si p4, Si (1 : Int32)] [(.long (own_por (own_por (1 : Int64) s0 m0 f0 x0) s1 m1 f1 x1)), (.int p4), (.ref a3)])) t → Steps p.tables e below (s₁.setTop (entryFrame m #[(.ref a1), (.ref a2), (.ref a3), (.int p4)] 5)) t := pre139
  obtain ⟨c141, Arc141, Aqc141, Asc141, Anc141, Ahc141, Agc141⟩ := id V101
  have hin142 : ¬ (p4 < 0 ∨ c141.slots.size ≤ (p4).toNatClampNeg) := inb_of Asc141 (own_inA hp)
  obtain ⟨T143, h143, X143, e143, W143, st143⟩ := stJ X134 hx hZ e134 Arc141 (j := p4) hin142 (g := (mkF m 69 #[Sr a1, Sr a2, Sr a3, Si p4, Si (1 : Int32)] [(.long (own_por (own_por (1 : Int64) s0 m0 f0 x0) s1 m1 f1 x1)), (.int p4), (.ref a3)])) rfl rfl (hb hby d25_69)
  have KC144 : Keep h0 h143 [a3] := KC102.wr W143 (Or.inl (List.mem_of_getElem? (i := 0) rfl))
  have V143 : Arv Z h143 a3 k3 .long (6 : Int32) (vl105.set (p4).toNatClampNeg (.long (own_por (own_por (1 : Int64) s0 m0 f0 x0) s1 m1 f1 x1))) (.long (0 : Int64)) := Arv.set Arc141 Aqc141 Asc141 Anc141 Ahc141 Agc141 rfl W143 (p4).toNatClampNeg rfl (own_hiA hp hlvl105)
  have N145 := Fr.snoc X143 N103 g3
  have pre146 : ∀ t, Steps p.tables e below (T143.setTop (mkF m 70 #[Sr a1, Sr a2, Sr a3, Si p4, Si (1 : Int32)] [])) t → Steps p.tables e below (s₁.setTop (entryFrame m #[(.ref a1), (.ref a2), (.ref a3), (.int p4)] 5)) t := by
    intro t k
    refine pre140 t ?_
    refine st143 _ ?_
    exact k
  obtain ⟨vl147, hvl147⟩ : ∃ z : List Value, z = (vl105.set (p4).toNatClampNeg (.long (own_por (own_por (1 : Int64) s0 m0 f0 x0) s1 m1 f1 x1))) := ⟨_, rfl⟩
  rw [← hvl147] at V143
  have hlvl147 : vl147.length = 6 := by rw [hvl147]; first | exact hlvl105 | (simp only [List.length_set]; exact hlvl105)
  have hAvl147 : vl147.getD (p4).toNatClampNeg (.long (0 : Int64)) = (.long (own_por (own_por (1 : Int64) s0 m0 f0 x0) s1 m1 f1 x1)) := by rw [hvl147]; exact (own_gs (by first | exact own_hiA hp hlvl105 | (simp only [List.length_set]; exact own_hiA hp hlvl105)))
  have hBvl147 : vl147.getD ((p4 + (1 : Int32))).toNatClampNeg (.long (0 : Int64)) = (.long gB) := by rw [hvl147]; exact ((own_gn (own_neAB hp)).trans hBvl105)
  have F148 : Arv Z h143 a2 k2 .int (3 : Int32) [(.int x0), (.int x1), (.int x2)] (.int (0 : Int32)) := (F106.other W143 n23)
  obtain ⟨c149, Arc149, Aqc149, Asc149, Anc149, Ahc149, Agc149⟩ := id F148
  have F150 : Fld Z h143 a1 "com/example/darlington/darlington/core/StateLayout" "wordOf" "[I" (.ref r1) := (F108.other W143 (Or.inl n13))
  obtain ⟨T151, X151, e151, st151⟩ := getF X143 hx hZ hown (host := "") (Or.inl (ow hw 110 rfl)) Via.refl e143 F150 (g := (mkF m 29 #[Sr a1, Sr a2, Sr a3, Si p4, Si (2 : Int32)] [(.ref a1), (.int p4), (.ref a3)])) rfl rfl (hb hby d25_29)
  have F152 : Arv Z h143 r1 c1 .int (3 : Int32) [(.int (0 : Int32)), (.int (0 : Int32)), (.int (0 : Int32))] (.int (0 : Int32)) := (F110.other W143 nr1)
  obtain ⟨c153, Arc153, Aqc153, Asc153, Anc153, Ahc153, Agc153⟩ := id F152
  have hin154 : ¬ ((2 : Int32) < 0 ∨ c153.slots.size ≤ ((2 : Int32)).toNatClampNeg) := inb_of Asc153 ⟨by decide, by decide⟩
  have hat155 : c153.slots[((2 : Int32)).toNatClampNeg]? = some (.int (0 : Int32)) := Has.at Ahc153 hin154 rfl
  have pre156 : ∀ t, Steps p.tables e below (T151.setTop (mkF m 36 #[Sr a1, Sr a2, Sr a3, Si p4, Si (2 : Int32)] [(.int (p4 + (0 : Int32))), (.ref a3)])) t → Steps p.tables e below (s₁.setTop (entryFrame m #[(.ref a1), (.ref a2), (.ref a3), (.int p4)] 5)) t := by
    intro t k
    refine pre146 t ?_
    refine XS.iinc X143.here hx rfl (hb hby d25_70) rfl (l' := #[Sr a1, Sr a2, Sr a3, Si p4, Si (2 : Int32)]) rfl ?_
    refine XS.goto X143.here hx rfl (pc0 := 73) (pc' := 19) rfl (hb hby d25_73) (by decide) (by decide) ?_
    refine XS.iload X143.here hx rfl (hb hby d25_19) rfl ?_
    refine XS.aloadN X143.here hx rfl (hb hby d25_21) rfl rfl ?_
    show Steps _ _ _ (T143.setTop (mkF m 22 #[Sr a1, Sr a2, Sr a3, Si p4, Si (2 : Int32)] [(.ref a2), (.int (2 : Int32))])) _
    refine X143.arraylength hx (by rw [e143]; exact Arc149.1) (State.isArrayOf_alike hZ.alike Arc149.2.1) (g := (mkF m 22 #[Sr a1, Sr a2, Sr a3, Si p4, Si (2 : Int32)] [(.ref a2), (.int (2 : Int32))])) rfl rfl (hb hby d25_22) _ ?_
    rw [len_of Asc149 Anc149]
    refine XS.icmpNo X143.here hx rfl (hb hby d25_23) rfl (tlt (by decide)).2.1 ?_
    refine XS.aloadN X143.here hx rfl (hb hby d25_26) rfl rfl ?_
    refine XS.iloadN X143.here hx rfl (hb hby d25_27) rfl ?_
    refine XS.aloadN X143.here hx rfl (hb hby d25_28) rfl rfl ?_
    refine st151 _ ?_
    refine XS.iload X151.here hx rfl (hb hby d25_32) rfl ?_
    refine X151.iaload hx (j := (2 : Int32)) (v := (.int (0 : Int32))) (by rw [e151]; exact Arc153.1) (State.isArrayOf_alike hZ.alike Arc153.2.1) Arc153.2.2 hin154 hat155 (g := (mkF m 34 #[Sr a1, Sr a2, Sr a3, Si p4, Si (2 : Int32)] [(.int (2 : Int32)), (.ref r1), (.int p4), (.ref a3)])) rfl rfl (hb hby d25_34) _ ?_
    show Steps _ _ _ (T151.setTop (mkF m 35 #[Sr a1, Sr a2, Sr a3, Si p4, Si (2 : Int32)] [(.int (0 : Int32)), (.int p4), (.ref a3)])) _
    refine XS.iadd X151.here hx rfl (hb hby d25_35) rfl ?_
    exact k
  rw [Int32.add_zero] at pre156
  obtain ⟨c157, Arc157, Aqc157, Asc157, Anc157, Ahc157, Agc157⟩ := id V143
  have hin158 : ¬ (p4 < 0 ∨ c157.slots.size ≤ (p4).toNatClampNeg) := inb_of Asc157 (own_inA hp)
  have hat159 : c157.slots[(p4).toNatClampNeg]? = some (.long (own_por (own_por (1 : Int64) s0 m0 f0 x0) s1 m1 f1 x1)) := Has.at Ahc157 hin158 hAvl147
  obtain ⟨c160, Arc160, Aqc160, Asc160, Anc160, Ahc160, Agc160⟩ := id F148
  have hin161 : ¬ ((2 : Int32) < 0 ∨ c160.slots.size ≤ ((2 : Int32)).toNatClampNeg) := inb_of Asc160 ⟨by decide, by decide⟩
  have hat162 : c160.slots[((2 : Int32)).toNatClampNeg]? = some (.int x2) := Has.at Ahc160 hin161 rfl
  have F163 : Fld Z h143 a1 "com/example/darlington/darlington/core/StateLayout" "firstOf" "[I" (.ref r4) := (F121.other W143 (Or.inl n13))
  obtain ⟨T164, X164, e164, st164⟩ := getF X151 hx hZ hown (host := "") (Or.inl (ow hw 117 rfl)) Via.refl e151 F163 (g := (mkF m 44 #[Sr a1, Sr a2, Sr a3, Si p4, Si (2 : Int32)] [(.ref a1), (.long (x2.toInt64)), (.long (own_por (own_por (1 : Int64) s0 m0 f0 x0) s1 m1 f1 x1)), (.int p4), (.ref a3)])) rfl rfl (hb hby d25_44)
  have F165 : Arv Z h143 r4 c4 .int (3 : Int32) [(.int f0), (.int f1), (.int f2)] (.int (0 : Int32)) := (F123.other W143 nr4)
  obtain ⟨c166, Arc166, Aqc166, Asc166, Anc166, Ahc166, Agc166⟩ := id F165
  have hin167 : ¬ ((2 : Int32) < 0 ∨ c166.slots.size ≤ ((2 : Int32)).toNatClampNeg) := inb_of Asc166 ⟨by decide, by decide⟩
  have hat168 : c166.slots[((2 : Int32)).toNatClampNeg]? = some (.int f2) := Has.at Ahc166 hin167 rfl
  have F169 : Fld Z h143 a1 "com/example/darlington/darlington/core/StateLayout" "maskOf" "[J" (.ref r3) := (F127.other W143 (Or.inl n13))
  obtain ⟨T170, X170, e170, st170⟩ := getF X164 hx hZ hown (host := "") (Or.inl (ow hw 115 rfl)) Via.refl e164 F169 (g := (mkF m 53 #[Sr a1, Sr a2, Sr a3, Si p4, Si (2 : Int32)] [(.ref a1), (.long ((x2.toInt64) - (f2.toInt64))), (.long (own_por (own_por (1 : Int64) s0 m0 f0 x0) s1 m1 f1 x1)), (.int p4), (.ref a3)])) rfl rfl (hb hby d25_53)
  have F171 : Arv Z h143 r3 c3 .long (3 : Int32) [(.long m0), (.long m1), (.long m2)] (.long (0 : Int64)) := (F129.other W143 nr3)
  obtain ⟨c172, Arc172, Aqc172, Asc172, Anc172, Ahc172, Agc172⟩ := id F171
  have hin173 : ¬ ((2 : Int32) < 0 ∨ c172.slots.size ≤ ((2 : Int32)).toNatClampNeg) := inb_of Asc172 ⟨by decide, by decide⟩
  have hat174 : c172.slots[((2 : Int32)).toNatClampNeg]? = some (.long m2) := Has.at Ahc172 hin173 rfl
  have F175 : Fld Z h143 a1 "com/example/darlington/darlington/core/StateLayout" "shiftOf" "[I" (.ref r2) := (F133.other W143 (Or.inl n13))
  obtain ⟨T176, X176, e176, st176⟩ := getF X170 hx hZ hown (host := "") (Or.inl (ow hw 112 rfl)) Via.refl e170 F175 (g := (mkF m 61 #[Sr a1, Sr a2, Sr a3, Si p4, Si (2 : Int32)] [(.ref a1), (.long (((x2.toInt64) - (f2.toInt64)) &&& m2)), (.long (own_por (own_por (1 : Int64) s0 m0 f0 x0) s1 m1 f1 x1)), (.int p4), (.ref a3)])) rfl rfl (hb hby d25_61)
  have F177 : Arv Z h143 r2 c2 .int (3 : Int32) [(.int s0), (.int s1), (.int s2)] (.int (0 : Int32)) := (F135.other W143 nr2)
  obtain ⟨c178, Arc178, Aqc178, Asc178, Anc178, Ahc178, Agc178⟩ := id F177
  have hin179 : ¬ ((2 : Int32) < 0 ∨ c178.slots.size ≤ ((2 : Int32)).toNatClampNeg) := inb_of Asc178 ⟨by decide, by decide⟩
  have hat180 : c178.slots[((2 : Int32)).toNatClampNeg]? = some (.int s2) := Has.at Ahc178 hin179 rfl
  have pre181 : ∀ t, Steps p.tables e below (T176.setTop (mkF m 69 #[Sr a1, Sr a2, Sr a3, Si p4, Si (2 : Int32)] [(.long ((own_por (own_por (1 : Int64) s0 m0 f0 x0) s1 m1 f1 x1) ||| ((((x2.toInt64) - (f2.toInt64)) &&& m2) <<< (s2 &&& 0x3f).toInt64))), (.int p4), (.ref a3)])) t → Steps p.tables e below (s₁.setTop (entryFrame m #[(.ref a1), (.ref a2), (.ref a3), (.int p4)] 5)) t := by
    intro t k
    refine pre156 t ?_
    jvm_step X151.here [X151.here.top, hx, (hb hby d25_36), Value.category]
    show Steps _ _ _ (T151.setTop (mkF m 37 #[Sr a1, Sr a2, Sr a3, Si p4, Si (2 : Int32)] [(.int p4), (.ref a3), (.int p4), (.ref a3)])) _
    refine X151.laload hx (j := p4) (v := (.long (own_por (own_por (1 : Int64) s0 m0 f0 x0) s1 m1 f1 x1))) (by rw [e151]; exact Arc157.1) (State.isArrayOf_alike hZ.alike Arc157.2.1) Arc157.2.2 hin158 hat159 (g := (mkF m 37 #[Sr a1, Sr a2, Sr a3, Si p4, Si (2 : Int32)] [(.int p4), (.ref a3), (.int p4), (.ref a3)])) rfl rfl (hb hby d25_37) _ ?_
    refine XS.aloadN X151.here hx rfl (hb hby d25_38) rfl rfl ?_
    refine XS.iload X151.here hx rfl (hb hby d25_39) rfl ?_
    refine X151.iaload hx (j := (2 : Int32)) (v := (.int x2)) (by rw [e151]; exact Arc160.1) (State.isArrayOf_alike hZ.alike Arc160.2.1) Arc160.2.2 hin161 hat162 (g := (mkF m 41 #[Sr a1, Sr a2, Sr a3, Si p4, Si (2 : Int32)] [(.int (2 : Int32)), (.ref a2), (.long (own_por (own_por (1 : Int64) s0 m0 f0 x0) s1 m1 f1 x1)), (.int p4), (.ref a3)])) rfl rfl (hb hby d25_41) _ ?_
    refine XS.i2l X151.here hx rfl (hb hby d25_42) rfl ?_
    refine XS.aloadN X151.here hx rfl (hb hby d25_43) rfl rfl ?_
    refine st164 _ ?_
    show Steps _ _ _ (T164.setTop (mkF m 47 #[Sr a1, Sr a2, Sr a3, Si p4, Si (2 : Int32)] [(.ref r4), (.long (x2.toInt64)), (.long (own_por (own_por (1 : Int64) s0 m0 f0 x0) s1 m1 f1 x1)), (.int p4), (.ref a3)])) _
    refine XS.iload X164.here hx rfl (hb hby d25_47) rfl ?_
    refine X164.iaload hx (j := (2 : Int32)) (v := (.int f2)) (by rw [e164]; exact Arc166.1) (State.isArrayOf_alike hZ.alike Arc166.2.1) Arc166.2.2 hin167 hat168 (g := (mkF m 49 #[Sr a1, Sr a2, Sr a3, Si p4, Si (2 : Int32)] [(.int (2 : Int32)), (.ref r4), (.long (x2.toInt64)), (.long (own_por (own_por (1 : Int64) s0 m0 f0 x0) s1 m1 f1 x1)), (.int p4), (.ref a3)])) rfl rfl (hb hby d25_49) _ ?_
    refine XS.i2l X164.here hx rfl (hb hby d25_50) rfl ?_
    refine XS.lsub X164.here hx rfl (hb hby d25_51) rfl ?_
    refine XS.aloadN X164.here hx rfl (hb hby d25_52) rfl rfl ?_
    refine st170 _ ?_
    refine XS.iload X170.here hx rfl (hb hby d25_56) rfl ?_
    refine X170.laload hx (j := (2 : Int32)) (v := (.long m2)) (by rw [e170]; exact Arc172.1) (State.isArrayOf_alike hZ.alike Arc172.2.1) Arc172.2.2 hin173 hat174 (g := (mkF m 58 #[Sr a1, Sr a2, Sr a3, Si p4, Si (2 : Int32)] [(.int (2 : Int32)), (.ref r3), (.long ((x2.toInt64) - (f2.toInt64))), (.long (own_por (own_por (1 : Int64) s0 m0 f0 x0) s1 m1 f1 x1)), (.int p4), (.ref a3)])) rfl rfl (hb hby d25_58) _ ?_
    show Steps _ _ _ (T170.setTop (mkF m 59 #[Sr a1, Sr a2, Sr a3, Si p4, Si (2 : Int32)] [(.long m2), (.long ((x2.toInt64) - (f2.toInt64))), (.long (own_por (own_por (1 : Int64) s0 m0 f0 x0) s1 m1 f1 x1)), (.int p4), (.ref a3)])) _
    refine XS.land X170.here hx rfl (hb hby d25_59) rfl ?_
    refine XS.aloadN X170.here hx rfl (hb hby d25_60) rfl rfl ?_
    refine st176 _ ?_
    refine XS.iload X176.here hx rfl (hb hby d25_64) rfl ?_
    refine X176.iaload hx (j := (2 : Int32)) (v := (.int s2)) (by rw [e176]; exact Arc178.1) (State.isArrayOf_alike hZ.alike Arc178.2.1) Arc178.2.2 hin179 hat180 (g := (mkF m 66 #[Sr a1, Sr a2, Sr a3, Si p4, Si (2 : Int32)] [(.int (2 : Int32)), (.ref r2), (.long (((x2.toInt64) - (f2.toInt64)) &&& m2)), (.long (own_por (own_por (1 : Int64) s0 m0 f0 x0) s1 m1 f1 x1)), (.int p4), (.ref a3)])) rfl rfl (hb hby d25_66) _ ?_
    refine XS.lshl X176.here hx rfl (hb hby d25_67) rfl ?_
    refine XS.lor X176.here hx rfl (hb hby d25_68) rfl ?_
    exact k
  have pre182 : ∀ t, Steps p.tables e below (T176.setTop (mkF m 69 #[Sr a1, Sr a2, Sr a3, Si p4, Si (2 : Int32)] [(.long (own_por (own_por (own_por (1 : Int64) s0 m0 f0 x0) s1 m1 f1 x1) s2 m2 f2 x2)), (.int p4), (.ref a3)])) t → Steps p.tables e below (s₁.setTop (entryFrame m #[(.ref a1), (.ref a2), (.ref a3), (.int p4)] 5)) t := pre181
  obtain ⟨c183, Arc183, Aqc183, Asc183, Anc183, Ahc183, Agc183⟩ := id V143
  have hin184 : ¬ (p4 < 0 ∨ c183.slots.size ≤ (p4).toNatClampNeg) := inb_of Asc183 (own_inA hp)
  obtain ⟨T185, h185, X185, e185, W185, st185⟩ := stJ X176 hx hZ e176 Arc183 (j := p4) hin184 (g := (mkF m 69 #[Sr a1, Sr a2, Sr a3, Si p4, Si (2 : Int32)] [(.long (own_por (own_por (own_por (1 : Int64) s0 m0 f0 x0) s1 m1 f1 x1) s2 m2 f2 x2)), (.int p4), (.ref a3)])) rfl rfl (hb hby d25_69)
  have KC186 : Keep h0 h185 [a3] := KC144.wr W185 (Or.inl (List.mem_of_getElem? (i := 0) rfl))
  have V185 : Arv Z h185 a3 k3 .long (6 : Int32) (vl147.set (p4).toNatClampNeg (.long (own_por (own_por (own_por (1 : Int64) s0 m0 f0 x0) s1 m1 f1 x1) s2 m2 f2 x2))) (.long (0 : Int64)) := Arv.set Arc183 Aqc183 Asc183 Anc183 Ahc183 Agc183 rfl W185 (p4).toNatClampNeg rfl (own_hiA hp hlvl147)
  have N187 := Fr.snoc X185 N145 g3
  have pre188 : ∀ t, Steps p.tables e below (T185.setTop (mkF m 70 #[Sr a1, Sr a2, Sr a3, Si p4, Si (2 : Int32)] [])) t → Steps p.tables e below (s₁.setTop (entryFrame m #[(.ref a1), (.ref a2), (.ref a3), (.int p4)] 5)) t := by
    intro t k
    refine pre182 t ?_
    refine st185 _ ?_
    show Steps _ _ _ (T185.setTop (mkF m 70 #[Sr a1, Sr a2, Sr a3, Si p4, Si (2 : Int32)] [])) _
    exact k
  obtain ⟨vl189, hvl189⟩ : ∃ z : List Value, z = (vl147.set (p4).toNatClampNeg (.long (own_por (own_por (own_por (1 : Int64) s0 m0 f0 x0) s1 m1 f1 x1) s2 m2 f2 x2))) := ⟨_, rfl⟩
  rw [← hvl189] at V185
  have hlvl189 : vl189.length = 6 := by rw [hvl189]; first | exact hlvl147 | (simp only [List.length_set]; exact hlvl147)
  have hAvl189 : vl189.getD (p4).toNatClampNeg (.long (0 : Int64)) = (.long (own_por (own_por (own_por (1 : Int64) s0 m0 f0 x0) s1 m1 f1 x1) s2 m2 f2 x2)) := by rw [hvl189]; exact (own_gs (by first | exact own_hiA hp hlvl147 | (simp only [List.length_set]; exact own_hiA hp hlvl147)))
  have hBvl189 : vl189.getD ((p4 + (1 : Int32))).toNatClampNeg (.long (0 : Int64)) = (.long gB) := by rw [hvl189]; exact ((own_gn (own_neAB hp)).trans hBvl147)
  have F190 : Arv Z h185 a2 k2 .int (3 : Int32) [(.int x0), (.int x1), (.int x2)] (.int (0 : Int32)) := (F148.other W185 n23)
  obtain ⟨c191, Arc191, Aqc191, Asc191, Anc191, Ahc191, Agc191⟩ := id F190
  have pre192 : ∀ t, Steps p.tables e below (T185.setTop (mkF m 76 #[Sr a1, Sr a2, Sr a3, Si p4, Si (3 : Int32)] [])) t → Steps p.tables e below (s₁.setTop (entryFrame m #[(.ref a1), (.ref a2), (.ref a3), (.int p4)] 5)) t := by
    intro t k
    refine pre188 t ?_
    refine XS.iinc X185.here hx rfl (hb hby d25_70) rfl (l' := #[Sr a1, Sr a2, Sr a3, Si p4, Si (3 : Int32)]) rfl ?_
    refine XS.goto X185.here hx rfl (pc0 := 73) (pc' := 19) rfl (hb hby d25_73) (by decide) (by decide) ?_
    refine XS.iload X185.here hx rfl (hb hby d25_19) rfl ?_
    refine XS.aloadN X185.here hx rfl (hb hby d25_21) rfl rfl ?_
    refine X185.arraylength hx (by rw [e185]; exact Arc191.1) (State.isArrayOf_alike hZ.alike Arc191.2.1) (g := (mkF m 22 #[Sr a1, Sr a2, Sr a3, Si p4, Si (3 : Int32)] [(.ref a2), (.int (3 : Int32))])) rfl rfl (hb hby d25_22) _ ?_
    rw [len_of Asc191 Anc191]
    refine XS.icmpYes X185.here hx rfl (pc0 := 23) (pc' := 76) rfl (hb hby d25_23) rfl (flt (by decide)).2.1 (by decide) (by decide) ?_
    exact k
  obtain ⟨fs, hr, hrun, hended, hW, hsame⟩ := X185.leave (v := none) (fun _ => rfl)
  refine ⟨_, _, pre192 _ ?_, hrun, hended, _, _, rfl, ?_, ⟨_, rfl⟩, hW, hsame.mono (by decide) (by decide)⟩
  · exact X185.returnOut hx Bd.returns (hb hby d25_76) hr
  · show Q_rm_packA Z a1 a2 a3 p4 r1 r2 r3 r4 c1 c2 c3 c4 s0 s1 s2 m0 m1 m2 f0 f1 f2 k2 k3 x0 x1 x2 vs gA gB h0 n0 _ T185.heap _
    rw [e185]
    exact ⟨vl189, rfl, N187, KC186, V185, hlvl189, hAvl189, hBvl189⟩
theorem ef_rm_packB (m : MethodId) (x0 : Addr) (x1 : Addr) (x2 : Addr) (x3 : Int32) : entryFrame m #[(.ref x0), (.ref x1), (.ref x2), (.int x3)] 5 = mkF m 0 #[Sr x0, Sr x1, Sr x2, Si x3, Su] [] := by first | (simp [entryFrame, mkF, argsToLocals, Value.category]; done) | rfl
def Q_rm_packB (Z : State) (a1 : Addr) (a2 : Addr) (a3 : Addr) (p4 : Int32) (r1 : Addr) (r2 : Addr) (r3 : Addr) (r4 : Addr) (c1 : ClassId) (c2 : ClassId) (c3 : ClassId) (c4 : ClassId) (s0 : Int32) (s1 : Int32) (s2 : Int32) (m0 : Int64) (m1 : Int64) (m2 : Int64) (f0 : Int32) (f1 : Int32) (f2 : Int32) (k2 : ClassId) (k3 : ClassId) (x0 : Int32) (x1 : Int32) (x2 : Int32) (vs : List Value) (gA : Int64) (gB : Int64) (h0 : Heap) (n0 : Nat) (v : Option Value) (h : Heap) (L : List Loc) : Prop := ∃ (vq : List Value), v = none ∧ Fr n0 L ∧ Keep h0 h [a3] ∧ Arv Z h a3 k3 .long (6 : Int32) vq (.long (0 : Int64)) ∧ vq.length = 6 ∧ vq.getD (p4).toNatClampNeg (.long (0 : Int64)) = (.long (own_por (own_por (1 : Int64) s0 m0 f0 x0) s1 m1 f1 x1)) ∧ vq.getD ((p4 + (1 : Int32))).toNatClampNeg (.long (0 : Int64)) = (.long (own_por (0 : Int64) s2 m2 f2 x2))
set_option maxRecDepth 65536 in
set_option maxHeartbeats 40000000 in
theorem rm_packB (l : Launch) (Z : State) (a0 : Array Value) (hw : ∀ d ∈ tables_1, d.before a0 Z = true) (ws : List Jvm.Cond) (a1 : Addr) (a2 : Addr) (a3 : Addr) (p4 : Int32) (r1 : Addr) (r2 : Addr) (r3 : Addr) (r4 : Addr) (c1 : ClassId) (c2 : ClassId) (c3 : ClassId) (c4 : ClassId) (s0 : Int32) (s1 : Int32) (s2 : Int32) (m0 : Int64) (m1 : Int64) (m2 : Int64) (f0 : Int32) (f1 : Int32) (f2 : Int32) (k2 : ClassId) (k3 : ClassId) (x0 : Int32) (x1 : Int32) (x2 : Int32) (vs : List Value) (gA : Int64) (gB : Int64) (h0 : Heap) (n0 : Nat) (Z0 : n0 ≤ h0.size) (F_r1 : Fld Z h0 a1 "com/example/darlington/darlington/core/StateLayout" "wordOf" "[I" (.ref r1)) (V_r1 : Arv Z h0 r1 c1 .int (3 : Int32) [(.int (0 : Int32)), (.int (0 : Int32)), (.int (1 : Int32))] (.int (0 : Int32))) (F_r2 : Fld Z h0 a1 "com/example/darlington/darlington/core/StateLayout" "shiftOf" "[I" (.ref r2)) (V_r2 : Arv Z h0 r2 c2 .int (3 : Int32) [(.int s0), (.int s1), (.int s2)] (.int (0 : Int32))) (F_r3 : Fld Z h0 a1 "com/example/darlington/darlington/core/StateLayout" "maskOf" "[J" (.ref r3)) (V_r3 : Arv Z h0 r3 c3 .long (3 : Int32) [(.long m0), (.long m1), (.long m2)] (.long (0 : Int64))) (F_r4 : Fld Z h0 a1 "com/example/darlington/darlington/core/StateLayout" "firstOf" "[I" (.ref r4)) (V_r4 : Arv Z h0 r4 c4 .int (3 : Int32) [(.int f0), (.int f1), (.int f2)] (.int (0 : Int32))) (Fw : Fld Z h0 a1 "com/example/darlington/darlington/core/StateLayout" "wordsPerState" "I" (.int (2 : Int32))) (V2 : Arv Z h0 a2 k2 .int (3 : Int32) [(.int x0), (.int x1), (.int x2)] (.int (0 : Int32))) (V3 : Arv Z h0 a3 k3 .long (6 : Int32) vs (.long (0 : Int64))) (g3 : n0 ≤ a3) (n13 : a1 ≠ a3) (n23 : a2 ≠ a3) (nr1 : r1 ≠ a3) (nr2 : r2 ≠ a3) (nr3 : r3 ≠ a3) (nr4 : r4 ≠ a3) (hp : 0 ≤ p4.toInt ∧ p4.toInt ≤ 3) (hlen : vs.length = 6) (hgA : vs.getD (p4).toNatClampNeg (.long (0 : Int64)) = (.long gA)) (hgB : vs.getD ((p4 + (1 : Int32))).toNatClampNeg (.long (0 : Int64)) = (.long gB)) :
    MetFree l (⟨"com/example/darlington/darlington/core/StateLayout", "pack", "([I[JI)V"⟩ : MethodName) (head1 (Jvm.Cond.code (⟨"com/example/darlington/darlington/core/StateLayout", "pack", "([I[JI)V"⟩ : MethodName) prog_74_method_4_code 5 none :: ws) ({ frames := 2, cells := 0, slots := 0, locals := 31 } : Room)) (fun a U => a = #[(.ref a1), (.ref a2), (.ref a3), (.int p4)] ∧ Z.Warmed39 U.vm ∧ U.heap = h0) (fun _ _ _ _ _ => True) (fun _ U o U' => ∃ v L, o = .returned v ∧ Q_rm_packB Z a1 a2 a3 p4 r1 r2 r3 r4 c1 c2 c3 c4 s0 s1 s2 m0 m1 m2 f0 f1 f2 k2 k3 x0 x1 x2 vs gA gB h0 n0 v U'.heap L ∧ FrameEnd U o U' L ({ frames := 2, cells := 0, slots := 0, locals := 31 } : Room).cells ({ frames := 2, cells := 0, slots := 0, locals := 31 } : Room).slots) := by
  refine MetFree.of_bodySF (plainFor_of_name pn_8) hisR ?_
  intro p e s m args below meth c s₁ Bd hml0 hP hK
  obtain ⟨rfl, hZ, hh⟩ := hP
  have hx := Bd.exec
  have hby := Bd.bytes
  have hml : c.maxLocals = 5 := hml0
  have hown : s.vm.findClass "com/example/darlington/darlington/core/StateLayout" = some m.cls := findClass_of_methodNamed Bd.named
  have hnm := (name_of_methodNamed Bd.named Bd.method).1
  have X0 : Stand p l e ({ frames := 2, cells := 0, slots := 0, locals := 31 } : Room) s m #[(.ref a1), (.ref a2), (.ref a3), (.int p4)] below meth c s₁ [] 0 0 := Stand.of_body Bd
  have e0 : s₁.heap = h0 := by rw [← hh, Bd.state]; rfl
  have N0 := Fr.nil n0
  have pre0 : ∀ t, Steps p.tables e below (s₁.setTop (mkF m 0 #[Sr a1, Sr a2, Sr a3, Si p4, Su] [])) t → Steps p.tables e below (s₁.setTop (entryFrame m #[(.ref a1), (.ref a2), (.ref a3), (.int p4)] 5)) t := fun t k => castTop (ef_rm_packB m a1 a2 a3 p4) k
  obtain ⟨T51, X51, e51, st51⟩ := getF X0 hx hZ hown (host := "") (Or.inl (ow hw 158 rfl)) Via.refl e0 Fw (g := (mkF m 4 #[Sr a1, Sr a2, Sr a3, Si p4, Su] [(.ref a1), (.int p4), (.int p4), (.ref a3)])) rfl rfl (hb hby d25_4)
  obtain ⟨_, _, ⟨T52, L52, k52, n52⟩, -, X52, ⟨Lc52, hQ52, l52, y52, z52⟩, st52⟩ := Jvm.LawKit.callS X51 hx (y := (⟨"java/util/Arrays", "fill", "([JIIJ)V"⟩ : MethodName)) hown (mvT hZ (ow hw 165 rfl)) (mvT hZ (ow hw 166 rfl)) (mvT hZ (ow hw 167 rfl)) (mvT hZ (ow hw 168 rfl)) (by decide) (backOf (W := 0) (rm_fillB l Z a0 hw [] a3 p4 k3 vs h0 n0 Z0 V3 g3 hp hlen) hZ (ow hw 168 rfl) (ow hw 167 rfl) (by decide) (by decide)) (g := (mkF m 9 #[Sr a1, Sr a2, Sr a3, Si p4, Su] [(.long (0 : Int64)), (.int (p4 + (2 : Int32))), (.int p4), (.ref a3)])) rfl (by rw [hml]; rfl) (argsL := [(.ref a3), (.int p4), (.int (p4 + (2 : Int32))), (.long (0 : Int64))]) (rest := []) (lenOf pd_11 rfl) rfl (by show 2 * 0 + _ ≤ _; exact Nat.le_of_eq rfl) (hb hby d25_9) (fun _ _ => ⟨rfl, e51, (by decide : 0 + 0 ≤ _), (by decide : 0 + 0 ≤ _)⟩)
  dsimp only [Pt.U, Pt.locs, Pt.cells, Pt.slots] at X52 l52 y52 z52 st52 hQ52
  subst y52 z52
  obtain ⟨rfl, Nq52, q52_0, q52_1⟩ := hQ52
  have N53 := Eq.subst (motive := fun L => Fr n0 L) l52.symm (Fr.app N0 Nq52)
  have KC54 : Keep h0 T52.heap [a3] := (Keep.refl h0 [a3]).trans q52_0 (allS (Or.inl (List.mem_of_getElem? (i := 0) rfl)) all0)
  have pre55 : ∀ t, Steps p.tables e below (T52.setTop (mkF m 12 #[Sr a1, Sr a2, Sr a3, Si p4, Su] [])) t → Steps p.tables e below (s₁.setTop (entryFrame m #[(.ref a1), (.ref a2), (.ref a3), (.int p4)] 5)) t := by
    intro t k
    refine pre0 t ?_
    refine XS.aloadN X0.here hx rfl (hb hby d25_0) rfl rfl ?_
    refine XS.iloadN X0.here hx rfl (hb hby d25_1) rfl ?_
    refine XS.iloadN X0.here hx rfl (hb hby d25_2) rfl ?_
    refine XS.aloadN X0.here hx rfl (hb hby d25_3) rfl rfl ?_
    refine st51 _ ?_
    refine XS.iadd X51.here hx rfl (hb hby d25_7) rfl ?_
    refine XS.lconst X51.here hx rfl (hb hby d25_8) ?_
    refine st52 _ ?_
    show Steps _ _ _ (T52.setTop (mkF m 12 #[Sr a1, Sr a2, Sr a3, Si p4, Su] [])) _
    exact k
  obtain ⟨vl56, hvl56⟩ : ∃ z : List Value, z = ((vs.set (p4).toNatClampNeg (.long (0 : Int64))).set ((p4 + (1 : Int32))).toNatClampNeg (.long (0 : Int64))) := ⟨_, rfl⟩
  rw [← hvl56] at q52_1
  have hlvl56 : vl56.length = 6 := by rw [hvl56]; first | exact hlen | (simp only [List.length_set]; exact hlen)
  have hAvl56 : vl56.getD (p4).toNatClampNeg (.long (0 : Int64)) = (.long (0 : Int64)) := by rw [hvl56]; exact ((own_gn (Ne.symm (own_neAB hp))).trans (own_gs (by first | exact own_hiA hp hlen | (simp only [List.length_set]; exact own_hiA hp hlen))))
  have hBvl56 : vl56.getD ((p4 + (1 : Int32))).toNatClampNeg (.long (0 : Int64)) = (.long (0 : Int64)) := by rw [hvl56]; exact (own_gs (by first | exact own_hiB hp hlen | (simp only [List.length_set]; exact own_hiB hp hlen)))
  obtain ⟨c57, Arc57, Aqc57, Asc57, Anc57, Ahc57, Agc57⟩ := id q52_1
  have hin58 : ¬ (p4 < 0 ∨ c57.slots.size ≤ (p4).toNatClampNeg) := inb_of Asc57 (own_inA hp)
  obtain ⟨T59, h59, X59, e59, W59, st59⟩ := stJ X52 hx hZ rfl Arc57 (j := p4) hin58 (g := (mkF m 15 #[Sr a1, Sr a2, Sr a3, Si p4, Su] [(.long (1 : Int64)), (.int p4), (.ref a3)])) rfl rfl (hb hby d25_15)
  have KC60 : Keep h0 h59 [a3] := KC54.wr W59 (Or.inl (List.mem_of_getElem? (i := 0) rfl))
  have V59 : Arv Z h59 a3 k3 .long (6 : Int32) (vl56.set (p4).toNatClampNeg (.long (1 : Int64))) (.long (0 : Int64)) := Arv.set Arc57 Aqc57 Asc57 Anc57 Ahc57 Agc57 rfl W59 (p4).toNatClampNeg rfl (own_hiA hp hlvl56)
  have N61 := Fr.snoc X59 N53 g3
  have pre62 : ∀ t, Steps p.tables e below (T59.setTop (mkF m 16 #[Sr a1, Sr a2, Sr a3, Si p4, Su] [])) t → Steps p.tables e below (s₁.setTop (entryFrame m #[(.ref a1), (.ref a2), (.ref a3), (.int p4)] 5)) t := by
    intro t k
    refine pre55 t ?_
    refine XS.aloadN X52.here hx rfl (hb hby d25_12) rfl rfl ?_
    refine XS.iloadN X52.here hx rfl (hb hby d25_13) rfl ?_
    refine XS.lconst X52.here hx rfl (hb hby d25_14) ?_
    refine st59 _ ?_
    exact k
  obtain ⟨vl63, hvl63⟩ : ∃ z : List Value, z = (vl56.set (p4).toNatClampNeg (.long (1 : Int64))) := ⟨_, rfl⟩
  rw [← hvl63] at V59
  have hlvl63 : vl63.length = 6 := by rw [hvl63]; first | exact hlvl56 | (simp only [List.length_set]; exact hlvl56)
  have hAvl63 : vl63.getD (p4).toNatClampNeg (.long (0 : Int64)) = (.long (1 : Int64)) := by rw [hvl63]; exact (own_gs (by first | exact own_hiA hp hlvl56 | (simp only [List.length_set]; exact own_hiA hp hlvl56)))
  have hBvl63 : vl63.getD ((p4 + (1 : Int32))).toNatClampNeg (.long (0 : Int64)) = (.long (0 : Int64)) := by rw [hvl63]; exact ((own_gn (own_neAB hp)).trans hBvl56)
  have F64 : Arv Z h59 a2 k2 .int (3 : Int32) [(.int x0), (.int x1), (.int x2)] (.int (0 : Int32)) := ((V2.keep q52_0 (ninS n23 nin0)).other W59 n23)
  obtain ⟨c65, Arc65, Aqc65, Asc65, Anc65, Ahc65, Agc65⟩ := id F64
  have F66 : Fld Z h59 a1 "com/example/darlington/darlington/core/StateLayout" "wordOf" "[I" (.ref r1) := ((F_r1.keep q52_0 (ninS n13 nin0)).other W59 (Or.inl n13))
  obtain ⟨T67, X67, e67, st67⟩ := getF X59 hx hZ hown (host := "") (Or.inl (ow hw 110 rfl)) Via.refl e59 F66 (g := (mkF m 29 #[Sr a1, Sr a2, Sr a3, Si p4, Si (0 : Int32)] [(.ref a1), (.int p4), (.ref a3)])) rfl rfl (hb hby d25_29)
  have F68 : Arv Z h59 r1 c1 .int (3 : Int32) [(.int (0 : Int32)), (.int (0 : Int32)), (.int (1 : Int32))] (.int (0 : Int32)) := ((V_r1.keep q52_0 (ninS nr1 nin0)).other W59 nr1)
  obtain ⟨c69, Arc69, Aqc69, Asc69, Anc69, Ahc69, Agc69⟩ := id F68
  have hin70 : ¬ ((0 : Int32) < 0 ∨ c69.slots.size ≤ ((0 : Int32)).toNatClampNeg) := inb_of Asc69 ⟨by decide, by decide⟩
  have hat71 : c69.slots[((0 : Int32)).toNatClampNeg]? = some (.int (0 : Int32)) := Has.at Ahc69 hin70 rfl
  have pre72 : ∀ t, Steps p.tables e below (T67.setTop (mkF m 36 #[Sr a1, Sr a2, Sr a3, Si p4, Si (0 : Int32)] [(.int (p4 + (0 : Int32))), (.ref a3)])) t → Steps p.tables e below (s₁.setTop (entryFrame m #[(.ref a1), (.ref a2), (.ref a3), (.int p4)] 5)) t := by
    intro t k
    refine pre62 t ?_
    refine XS.iconst X59.here hx rfl (hb hby d25_16) ?_
    refine XS.istore X59.here hx rfl (hb hby d25_17) rfl (l' := #[Sr a1, Sr a2, Sr a3, Si p4, Si (0 : Int32)]) rfl ?_
    refine XS.iload X59.here hx rfl (hb hby d25_19) rfl ?_
    refine XS.aloadN X59.here hx rfl (hb hby d25_21) rfl rfl ?_
    show Steps _ _ _ (T59.setTop (mkF m 22 #[Sr a1, Sr a2, Sr a3, Si p4, Si (0 : Int32)] [(.ref a2), (.int (0 : Int32))])) _
    refine X59.arraylength hx (by rw [e59]; exact Arc65.1) (State.isArrayOf_alike hZ.alike Arc65.2.1) (g := (mkF m 22 #[Sr a1, Sr a2, Sr a3, Si p4, Si (0 : Int32)] [(.ref a2), (.int (0 : Int32))])) rfl rfl (hb hby d25_22) _ ?_
    rw [len_of Asc65 Anc65]
    refine XS.icmpNo X59.here hx rfl (hb hby d25_23) rfl (tlt (by decide)).2.1 ?_
    refine XS.aloadN X59.here hx rfl (hb hby d25_26) rfl rfl ?_
    refine XS.iloadN X59.here hx rfl (hb hby d25_27) rfl ?_
    refine XS.aloadN X59.here hx rfl (hb hby d25_28) rfl rfl ?_
    refine st67 _ ?_
    refine XS.iload X67.here hx rfl (hb hby d25_32) rfl ?_
    refine X67.iaload hx (j := (0 : Int32)) (v := (.int (0 : Int32))) (by rw [e67]; exact Arc69.1) (State.isArrayOf_alike hZ.alike Arc69.2.1) Arc69.2.2 hin70 hat71 (g := (mkF m 34 #[Sr a1, Sr a2, Sr a3, Si p4, Si (0 : Int32)] [(.int (0 : Int32)), (.ref r1), (.int p4), (.ref a3)])) rfl rfl (hb hby d25_34) _ ?_
    show Steps _ _ _ (T67.setTop (mkF m 35 #[Sr a1, Sr a2, Sr a3, Si p4, Si (0 : Int32)] [(.int (0 : Int32)), (.int p4), (.ref a3)])) _
    refine XS.iadd X67.here hx rfl (hb hby d25_35) rfl ?_
    exact k
  rw [Int32.add_zero] at pre72
  obtain ⟨c73, Arc73, Aqc73, Asc73, Anc73, Ahc73, Agc73⟩ := id V59
  have hin74 : ¬ (p4 < 0 ∨ c73.slots.size ≤ (p4).toNatClampNeg) := inb_of Asc73 (own_inA hp)
  have hat75 : c73.slots[(p4).toNatClampNeg]? = some (.long (1 : Int64)) := Has.at Ahc73 hin74 hAvl63
  obtain ⟨c76, Arc76, Aqc76, Asc76, Anc76, Ahc76, Agc76⟩ := id F64
  have hin77 : ¬ ((0 : Int32) < 0 ∨ c76.slots.size ≤ ((0 : Int32)).toNatClampNeg) := inb_of Asc76 ⟨by decide, by decide⟩
  have hat78 : c76.slots[((0 : Int32)).toNatClampNeg]? = some (.int x0) := Has.at Ahc76 hin77 rfl
  have F79 : Fld Z h59 a1 "com/example/darlington/darlington/core/StateLayout" "firstOf" "[I" (.ref r4) := ((F_r4.keep q52_0 (ninS n13 nin0)).other W59 (Or.inl n13))
  obtain ⟨T80, X80, e80, st80⟩ := getF X67 hx hZ hown (host := "") (Or.inl (ow hw 117 rfl)) Via.refl e67 F79 (g := (mkF m 44 #[Sr a1, Sr a2, Sr a3, Si p4, Si (0 : Int32)] [(.ref a1), (.long (x0.toInt64)), (.long (1 : Int64)), (.int p4), (.ref a3)])) rfl rfl (hb hby d25_44)
  have F81 : Arv Z h59 r4 c4 .int (3 : Int32) [(.int f0), (.int f1), (.int f2)] (.int (0 : Int32)) := ((V_r4.keep q52_0 (ninS nr4 nin0)).other W59 nr4)
  obtain ⟨c82, Arc82, Aqc82, Asc82, Anc82, Ahc82, Agc82⟩ := id F81
  have hin83 : ¬ ((0 : Int32) < 0 ∨ c82.slots.size ≤ ((0 : Int32)).toNatClampNeg) := inb_of Asc82 ⟨by decide, by decide⟩
  have hat84 : c82.slots[((0 : Int32)).toNatClampNeg]? = some (.int f0) := Has.at Ahc82 hin83 rfl
  have F85 : Fld Z h59 a1 "com/example/darlington/darlington/core/StateLayout" "maskOf" "[J" (.ref r3) := ((F_r3.keep q52_0 (ninS n13 nin0)).other W59 (Or.inl n13))
  obtain ⟨T86, X86, e86, st86⟩ := getF X80 hx hZ hown (host := "") (Or.inl (ow hw 115 rfl)) Via.refl e80 F85 (g := (mkF m 53 #[Sr a1, Sr a2, Sr a3, Si p4, Si (0 : Int32)] [(.ref a1), (.long ((x0.toInt64) - (f0.toInt64))), (.long (1 : Int64)), (.int p4), (.ref a3)])) rfl rfl (hb hby d25_53)
  have F87 : Arv Z h59 r3 c3 .long (3 : Int32) [(.long m0), (.long m1), (.long m2)] (.long (0 : Int64)) := ((V_r3.keep q52_0 (ninS nr3 nin0)).other W59 nr3)
  obtain ⟨c88, Arc88, Aqc88, Asc88, Anc88, Ahc88, Agc88⟩ := id F87
  have hin89 : ¬ ((0 : Int32) < 0 ∨ c88.slots.size ≤ ((0 : Int32)).toNatClampNeg) := inb_of Asc88 ⟨by decide, by decide⟩
  have hat90 : c88.slots[((0 : Int32)).toNatClampNeg]? = some (.long m0) := Has.at Ahc88 hin89 rfl
  have F91 : Fld Z h59 a1 "com/example/darlington/darlington/core/StateLayout" "shiftOf" "[I" (.ref r2) := ((F_r2.keep q52_0 (ninS n13 nin0)).other W59 (Or.inl n13))
  obtain ⟨T92, X92, e92, st92⟩ := getF X86 hx hZ hown (host := "") (Or.inl (ow hw 112 rfl)) Via.refl e86 F91 (g := (mkF m 61 #[Sr a1, Sr a2, Sr a3, Si p4, Si (0 : Int32)] [(.ref a1), (.long (((x0.toInt64) - (f0.toInt64)) &&& m0)), (.long (1 : Int64)), (.int p4), (.ref a3)])) rfl rfl (hb hby d25_61)
  have F93 : Arv Z h59 r2 c2 .int (3 : Int32) [(.int s0), (.int s1), (.int s2)] (.int (0 : Int32)) := ((V_r2.keep q52_0 (ninS nr2 nin0)).other W59 nr2)
  obtain ⟨c94, Arc94, Aqc94, Asc94, Anc94, Ahc94, Agc94⟩ := id F93
  have hin95 : ¬ ((0 : Int32) < 0 ∨ c94.slots.size ≤ ((0 : Int32)).toNatClampNeg) := inb_of Asc94 ⟨by decide, by decide⟩
  have hat96 : c94.slots[((0 : Int32)).toNatClampNeg]? = some (.int s0) := Has.at Ahc94 hin95 rfl
  have pre97 : ∀ t, Steps p.tables e below (T92.setTop (mkF m 69 #[Sr a1, Sr a2, Sr a3, Si p4, Si (0 : Int32)] [(.long ((1 : Int64) ||| ((((x0.toInt64) - (f0.toInt64)) &&& m0) <<< (s0 &&& 0x3f).toInt64))), (.int p4), (.ref a3)])) t → Steps p.tables e below (s₁.setTop (entryFrame m #[(.ref a1), (.ref a2), (.ref a3), (.int p4)] 5)) t := by
    intro t k
    refine pre72 t ?_
    jvm_step X67.here [X67.here.top, hx, (hb hby d25_36), Value.category]
    show Steps _ _ _ (T67.setTop (mkF m 37 #[Sr a1, Sr a2, Sr a3, Si p4, Si (0 : Int32)] [(.int p4), (.ref a3), (.int p4), (.ref a3)])) _
    refine X67.laload hx (j := p4) (v := (.long (1 : Int64))) (by rw [e67]; exact Arc73.1) (State.isArrayOf_alike hZ.alike Arc73.2.1) Arc73.2.2 hin74 hat75 (g := (mkF m 37 #[Sr a1, Sr a2, Sr a3, Si p4, Si (0 : Int32)] [(.int p4), (.ref a3), (.int p4), (.ref a3)])) rfl rfl (hb hby d25_37) _ ?_
    refine XS.aloadN X67.here hx rfl (hb hby d25_38) rfl rfl ?_
    refine XS.iload X67.here hx rfl (hb hby d25_39) rfl ?_
    refine X67.iaload hx (j := (0 : Int32)) (v := (.int x0)) (by rw [e67]; exact Arc76.1) (State.isArrayOf_alike hZ.alike Arc76.2.1) Arc76.2.2 hin77 hat78 (g := (mkF m 41 #[Sr a1, Sr a2, Sr a3, Si p4, Si (0 : Int32)] [(.int (0 : Int32)), (.ref a2), (.long (1 : Int64)), (.int p4), (.ref a3)])) rfl rfl (hb hby d25_41) _ ?_
    refine XS.i2l X67.here hx rfl (hb hby d25_42) rfl ?_
    refine XS.aloadN X67.here hx rfl (hb hby d25_43) rfl rfl ?_
    refine st80 _ ?_
    show Steps _ _ _ (T80.setTop (mkF m 47 #[Sr a1, Sr a2, Sr a3, Si p4, Si (0 : Int32)] [(.ref r4), (.long (x0.toInt64)), (.long (1 : Int64)), (.int p4), (.ref a3)])) _
    refine XS.iload X80.here hx rfl (hb hby d25_47) rfl ?_
    refine X80.iaload hx (j := (0 : Int32)) (v := (.int f0)) (by rw [e80]; exact Arc82.1) (State.isArrayOf_alike hZ.alike Arc82.2.1) Arc82.2.2 hin83 hat84 (g := (mkF m 49 #[Sr a1, Sr a2, Sr a3, Si p4, Si (0 : Int32)] [(.int (0 : Int32)), (.ref r4), (.long (x0.toInt64)), (.long (1 : Int64)), (.int p4), (.ref a3)])) rfl rfl (hb hby d25_49) _ ?_
    refine XS.i2l X80.here hx rfl (hb hby d25_50) rfl ?_
    refine XS.lsub X80.here hx rfl (hb hby d25_51) rfl ?_
    refine XS.aloadN X80.here hx rfl (hb hby d25_52) rfl rfl ?_
    refine st86 _ ?_
    refine XS.iload X86.here hx rfl (hb hby d25_56) rfl ?_
    refine X86.laload hx (j := (0 : Int32)) (v := (.long m0)) (by rw [e86]; exact Arc88.1) (State.isArrayOf_alike hZ.alike Arc88.2.1) Arc88.2.2 hin89 hat90 (g := (mkF m 58 #[Sr a1, Sr a2, Sr a3, Si p4, Si (0 : Int32)] [(.int (0 : Int32)), (.ref r3), (.long ((x0.toInt64) - (f0.toInt64))), (.long (1 : Int64)), (.int p4), (.ref a3)])) rfl rfl (hb hby d25_58) _ ?_
    show Steps _ _ _ (T86.setTop (mkF m 59 #[Sr a1, Sr a2, Sr a3, Si p4, Si (0 : Int32)] [(.long m0), (.long ((x0.toInt64) - (f0.toInt64))), (.long (1 : Int64)), (.int p4), (.ref a3)])) _
    refine XS.land X86.here hx rfl (hb hby d25_59) rfl ?_
    refine XS.aloadN X86.here hx rfl (hb hby d25_60) rfl rfl ?_
    refine st92 _ ?_
    refine XS.iload X92.here hx rfl (hb hby d25_64) rfl ?_
    refine X92.iaload hx (j := (0 : Int32)) (v := (.int s0)) (by rw [e92]; exact Arc94.1) (State.isArrayOf_alike hZ.alike Arc94.2.1) Arc94.2.2 hin95 hat96 (g := (mkF m 66 #[Sr a1, Sr a2, Sr a3, Si p4, Si (0 : Int32)] [(.int (0 : Int32)), (.ref r2), (.long (((x0.toInt64) - (f0.toInt64)) &&& m0)), (.long (1 : Int64)), (.int p4), (.ref a3)])) rfl rfl (hb hby d25_66) _ ?_
    refine XS.lshl X92.here hx rfl (hb hby d25_67) rfl ?_
    refine XS.lor X92.here hx rfl (hb hby d25_68) rfl ?_
    exact k
  have pre98 : ∀ t, Steps p.tables e below (T92.setTop (mkF m 69 #[Sr a1, Sr a2, Sr a3, Si p4, Si (0 : Int32)] [(.long (own_por (1 : Int64) s0 m0 f0 x0)), (.int p4), (.ref a3)])) t → Steps p.tables e below (s₁.setTop (entryFrame m #[(.ref a1), (.ref a2), (.ref a3), (.int p4)] 5)) t := pre97
  obtain ⟨c99, Arc99, Aqc99, Asc99, Anc99, Ahc99, Agc99⟩ := id V59
  have hin100 : ¬ (p4 < 0 ∨ c99.slots.size ≤ (p4).toNatClampNeg) := inb_of Asc99 (own_inA hp)
  obtain ⟨T101, h101, X101, e101, W101, st101⟩ := stJ X92 hx hZ e92 Arc99 (j := p4) hin100 (g := (mkF m 69 #[Sr a1, Sr a2, Sr a3, Si p4, Si (0 : Int32)] [(.long (own_por (1 : Int64) s0 m0 f0 x0)), (.int p4), (.ref a3)])) rfl rfl (hb hby d25_69)
  have KC102 : Keep h0 h101 [a3] := KC60.wr W101 (Or.inl (List.mem_of_getElem? (i := 0) rfl))
  have V101 : Arv Z h101 a3 k3 .long (6 : Int32) (vl63.set (p4).toNatClampNeg (.long (own_por (1 : Int64) s0 m0 f0 x0))) (.long (0 : Int64)) := Arv.set Arc99 Aqc99 Asc99 Anc99 Ahc99 Agc99 rfl W101 (p4).toNatClampNeg rfl (own_hiA hp hlvl63)
  have N103 := Fr.snoc X101 N61 g3
  have pre104 : ∀ t, Steps p.tables e below (T101.setTop (mkF m 70 #[Sr a1, Sr a2, Sr a3, Si p4, Si (0 : Int32)] [])) t → Steps p.tables e below (s₁.setTop (entryFrame m #[(.ref a1), (.ref a2), (.ref a3), (.int p4)] 5)) t := by
    intro t k
    refine pre98 t ?_
    refine st101 _ ?_
    show Steps _ _ _ (T101.setTop (mkF m 70 #[Sr a1, Sr a2, Sr a3, Si p4, Si (0 : Int32)] [])) _
    exact k
  obtain ⟨vl105, hvl105⟩ : ∃ z : List Value, z = (vl63.set (p4).toNatClampNeg (.long (own_por (1 : Int64) s0 m0 f0 x0))) := ⟨_, rfl⟩
  rw [← hvl105] at V101
  have hlvl105 : vl105.length = 6 := by rw [hvl105]; first | exact hlvl63 | (simp only [List.length_set]; exact hlvl63)
  have hAvl105 : vl105.getD (p4).toNatClampNeg (.long (0 : Int64)) = (.long (own_por (1 : Int64) s0 m0 f0 x0)) := by rw [hvl105]; exact (own_gs (by first | exact own_hiA hp hlvl63 | (simp only [List.length_set]; exact own_hiA hp hlvl63)))
  have hBvl105 : vl105.getD ((p4 + (1 : Int32))).toNatClampNeg (.long (0 : Int64)) = (.long (0 : Int64)) := by rw [hvl105]; exact ((own_gn (own_neAB hp)).trans hBvl63)
  have F106 : Arv Z h101 a2 k2 .int (3 : Int32) [(.int x0), (.int x1), (.int x2)] (.int (0 : Int32)) := (F64.other W101 n23)
  obtain ⟨c107, Arc107, Aqc107, Asc107, Anc107, Ahc107, Agc107⟩ := id F106
  have F108 : Fld Z h101 a1 "com/example/darlington/darlington/core/StateLayout" "wordOf" "[I" (.ref r1) := (F66.other W101 (Or.inl n13))
  obtain ⟨T109, X109, e109, st109⟩ := getF X101 hx hZ hown (host := "") (Or.inl (ow hw 110 rfl)) Via.refl e101 F108 (g := (mkF m 29 #[Sr a1, Sr a2, Sr a3, Si p4, Si (1 : Int32)] [(.ref a1), (.int p4), (.ref a3)])) rfl rfl (hb hby d25_29)
  have F110 : Arv Z h101 r1 c1 .int (3 : Int32) [(.int (0 : Int32)), (.int (0 : Int32)), (.int (1 : Int32))] (.int (0 : Int32)) := (F68.other W101 nr1)
  obtain ⟨c111, Arc111, Aqc111, Asc111, Anc111, Ahc111, Agc111⟩ := id F110
  have hin112 : ¬ ((1 : Int32) < 0 ∨ c111.slots.size ≤ ((1 : Int32)).toNatClampNeg) := inb_of Asc111 ⟨by decide, by decide⟩
  have hat113 : c111.slots[((1 : Int32)).toNatClampNeg]? = some (.int (0 : Int32)) := Has.at Ahc111 hin112 rfl
  have pre114 : ∀ t, Steps p.tables e below (T109.setTop (mkF m 36 #[Sr a1, Sr a2, Sr a3, Si p4, Si (1 : Int32)] [(.int (p4 + (0 : Int32))), (.ref a3)])) t → Steps p.tables e below (s₁.setTop (entryFrame m #[(.ref a1), (.ref a2), (.ref a3), (.int p4)] 5)) t := by
    intro t k
    refine pre104 t ?_
    refine XS.iinc X101.here hx rfl (hb hby d25_70) rfl (l' := #[Sr a1, Sr a2, Sr a3, Si p4, Si (1 : Int32)]) rfl ?_
    refine XS.goto X101.here hx rfl (pc0 := 73) (pc' := 19) rfl (hb hby d25_73) (by decide) (by decide) ?_
    refine XS.iload X101.here hx rfl (hb hby d25_19) rfl ?_
    refine XS.aloadN X101.here hx rfl (hb hby d25_21) rfl rfl ?_
    refine X101.arraylength hx (by rw [e101]; exact Arc107.1) (State.isArrayOf_alike hZ.alike Arc107.2.1) (g := (mkF m 22 #[Sr a1, Sr a2, Sr a3, Si p4, Si (1 : Int32)] [(.ref a2), (.int (1 : Int32))])) rfl rfl (hb hby d25_22) _ ?_
    rw [len_of Asc107 Anc107]
    refine XS.icmpNo X101.here hx rfl (hb hby d25_23) rfl (tlt (by decide)).2.1 ?_
    refine XS.aloadN X101.here hx rfl (hb hby d25_26) rfl rfl ?_
    refine XS.iloadN X101.here hx rfl (hb hby d25_27) rfl ?_
    show Steps _ _ _ (T101.setTop (mkF m 28 #[Sr a1, Sr a2, Sr a3, Si p4, Si (1 : Int32)] [(.int p4), (.ref a3)])) _
    refine XS.aloadN X101.here hx rfl (hb hby d25_28) rfl rfl ?_
    refine st109 _ ?_
    refine XS.iload X109.here hx rfl (hb hby d25_32) rfl ?_
    refine X109.iaload hx (j := (1 : Int32)) (v := (.int (0 : Int32))) (by rw [e109]; exact Arc111.1) (State.isArrayOf_alike hZ.alike Arc111.2.1) Arc111.2.2 hin112 hat113 (g := (mkF m 34 #[Sr a1, Sr a2, Sr a3, Si p4, Si (1 : Int32)] [(.int (1 : Int32)), (.ref r1), (.int p4), (.ref a3)])) rfl rfl (hb hby d25_34) _ ?_
    refine XS.iadd X109.here hx rfl (hb hby d25_35) rfl ?_
    exact k
  rw [Int32.add_zero] at pre114
  obtain ⟨c115, Arc115, Aqc115, Asc115, Anc115, Ahc115, Agc115⟩ := id V101
  have hin116 : ¬ (p4 < 0 ∨ c115.slots.size ≤ (p4).toNatClampNeg) := inb_of Asc115 (own_inA hp)
  have hat117 : c115.slots[(p4).toNatClampNeg]? = some (.long (own_por (1 : Int64) s0 m0 f0 x0)) := Has.at Ahc115 hin116 hAvl105
  obtain ⟨c118, Arc118, Aqc118, Asc118, Anc118, Ahc118, Agc118⟩ := id F106
  have hin119 : ¬ ((1 : Int32) < 0 ∨ c118.slots.size ≤ ((1 : Int32)).toNatClampNeg) := inb_of Asc118 ⟨by decide, by decide⟩
  have hat120 : c118.slots[((1 : Int32)).toNatClampNeg]? = some (.int x1) := Has.at Ahc118 hin119 rfl
  have F121 : Fld Z h101 a1 "com/example/darlington/darlington/core/StateLayout" "firstOf" "[I" (.ref r4) := (F79.other W101 (Or.inl n13))
  obtain ⟨T122, X122, e122, st122⟩ := getF X109 hx hZ hown (host := "") (Or.inl (ow hw 117 rfl)) Via.refl e109 F121 (g := (mkF m 44 #[Sr a1, Sr a2, Sr a3, Si p4, Si (1 : Int32)] [(.ref a1), (.long (x1.toInt64)), (.long (own_por (1 : Int64) s0 m0 f0 x0)), (.int p4), (.ref a3)])) rfl rfl (hb hby d25_44)
  have F123 : Arv Z h101 r4 c4 .int (3 : Int32) [(.int f0), (.int f1), (.int f2)] (.int (0 : Int32)) := (F81.other W101 nr4)
  obtain ⟨c124, Arc124, Aqc124, Asc124, Anc124, Ahc124, Agc124⟩ := id F123
  have hin125 : ¬ ((1 : Int32) < 0 ∨ c124.slots.size ≤ ((1 : Int32)).toNatClampNeg) := inb_of Asc124 ⟨by decide, by decide⟩
  have hat126 : c124.slots[((1 : Int32)).toNatClampNeg]? = some (.int f1) := Has.at Ahc124 hin125 rfl
  have F127 : Fld Z h101 a1 "com/example/darlington/darlington/core/StateLayout" "maskOf" "[J" (.ref r3) := (F85.other W101 (Or.inl n13))
  obtain ⟨T128, X128, e128, st128⟩ := getF X122 hx hZ hown (host := "") (Or.inl (ow hw 115 rfl)) Via.refl e122 F127 (g := (mkF m 53 #[Sr a1, Sr a2, Sr a3, Si p4, Si (1 : Int32)] [(.ref a1), (.long ((x1.toInt64) - (f1.toInt64))), (.long (own_por (1 : Int64) s0 m0 f0 x0)), (.int p4), (.ref a3)])) rfl rfl (hb hby d25_53)
  have F129 : Arv Z h101 r3 c3 .long (3 : Int32) [(.long m0), (.long m1), (.long m2)] (.long (0 : Int64)) := (F87.other W101 nr3)
  obtain ⟨c130, Arc130, Aqc130, Asc130, Anc130, Ahc130, Agc130⟩ := id F129
  have hin131 : ¬ ((1 : Int32) < 0 ∨ c130.slots.size ≤ ((1 : Int32)).toNatClampNeg) := inb_of Asc130 ⟨by decide, by decide⟩
  have hat132 : c130.slots[((1 : Int32)).toNatClampNeg]? = some (.long m1) := Has.at Ahc130 hin131 rfl
  have F133 : Fld Z h101 a1 "com/example/darlington/darlington/core/StateLayout" "shiftOf" "[I" (.ref r2) := (F91.other W101 (Or.inl n13))
  obtain ⟨T134, X134, e134, st134⟩ := getF X128 hx hZ hown (host := "") (Or.inl (ow hw 112 rfl)) Via.refl e128 F133 (g := (mkF m 61 #[Sr a1, Sr a2, Sr a3, Si p4, Si (1 : Int32)] [(.ref a1), (.long (((x1.toInt64) - (f1.toInt64)) &&& m1)), (.long (own_por (1 : Int64) s0 m0 f0 x0)), (.int p4), (.ref a3)])) rfl rfl (hb hby d25_61)
  have F135 : Arv Z h101 r2 c2 .int (3 : Int32) [(.int s0), (.int s1), (.int s2)] (.int (0 : Int32)) := (F93.other W101 nr2)
  obtain ⟨c136, Arc136, Aqc136, Asc136, Anc136, Ahc136, Agc136⟩ := id F135
  have hin137 : ¬ ((1 : Int32) < 0 ∨ c136.slots.size ≤ ((1 : Int32)).toNatClampNeg) := inb_of Asc136 ⟨by decide, by decide⟩
  have hat138 : c136.slots[((1 : Int32)).toNatClampNeg]? = some (.int s1) := Has.at Ahc136 hin137 rfl
  have pre139 : ∀ t, Steps p.tables e below (T134.setTop (mkF m 69 #[Sr a1, Sr a2, Sr a3, Si p4, Si (1 : Int32)] [(.long ((own_por (1 : Int64) s0 m0 f0 x0) ||| ((((x1.toInt64) - (f1.toInt64)) &&& m1) <<< (s1 &&& 0x3f).toInt64))), (.int p4), (.ref a3)])) t → Steps p.tables e below (s₁.setTop (entryFrame m #[(.ref a1), (.ref a2), (.ref a3), (.int p4)] 5)) t := by
    intro t k
    refine pre114 t ?_
    jvm_step X109.here [X109.here.top, hx, (hb hby d25_36), Value.category]
    show Steps _ _ _ (T109.setTop (mkF m 37 #[Sr a1, Sr a2, Sr a3, Si p4, Si (1 : Int32)] [(.int p4), (.ref a3), (.int p4), (.ref a3)])) _
    refine X109.laload hx (j := p4) (v := (.long (own_por (1 : Int64) s0 m0 f0 x0))) (by rw [e109]; exact Arc115.1) (State.isArrayOf_alike hZ.alike Arc115.2.1) Arc115.2.2 hin116 hat117 (g := (mkF m 37 #[Sr a1, Sr a2, Sr a3, Si p4, Si (1 : Int32)] [(.int p4), (.ref a3), (.int p4), (.ref a3)])) rfl rfl (hb hby d25_37) _ ?_
    refine XS.aloadN X109.here hx rfl (hb hby d25_38) rfl rfl ?_
    refine XS.iload X109.here hx rfl (hb hby d25_39) rfl ?_
    show Steps _ _ _ (T109.setTop (mkF m 41 #[Sr a1, Sr a2, Sr a3, Si p4, Si (1 : Int32)] [(.int (1 : Int32)), (.ref a2), (.long (own_por (1 : Int64) s0 m0 f0 x0)), (.int p4), (.ref a3)])) _
    refine X109.iaload hx (j := (1 : Int32)) (v := (.int x1)) (by rw [e109]; exact Arc118.1) (State.isArrayOf_alike hZ.alike Arc118.2.1) Arc118.2.2 hin119 hat120 (g := (mkF m 41 #[Sr a1, Sr a2, Sr a3, Si p4, Si (1 : Int32)] [(.int (1 : Int32)), (.ref a2), (.long (own_por (1 : Int64) s0 m0 f0 x0)), (.int p4), (.ref a3)])) rfl rfl (hb hby d25_41) _ ?_
    refine XS.i2l X109.here hx rfl (hb hby d25_42) rfl ?_
    refine XS.aloadN X109.here hx rfl (hb hby d25_43) rfl rfl ?_
    refine st122 _ ?_
    refine XS.iload X122.here hx rfl (hb hby d25_47) rfl ?_
    refine X122.iaload hx (j := (1 : Int32)) (v := (.int f1)) (by rw [e122]; exact Arc124.1) (State.isArrayOf_alike hZ.alike Arc124.2.1) Arc124.2.2 hin125 hat126 (g := (mkF m 49 #[Sr a1, Sr a2, Sr a3, Si p4, Si (1 : Int32)] [(.int (1 : Int32)), (.ref r4), (.long (x1.toInt64)), (.long (own_por (1 : Int64) s0 m0 f0 x0)), (.int p4), (.ref a3)])) rfl rfl (hb hby d25_49) _ ?_
    refine XS.i2l X122.here hx rfl (hb hby d25_50) rfl ?_
    refine XS.lsub X122.here hx rfl (hb hby d25_51) rfl ?_
    show Steps _ _ _ (T122.setTop (mkF m 52 #[Sr a1, Sr a2, Sr a3, Si p4, Si (1 : Int32)] [(.long ((x1.toInt64) - (f1.toInt64))), (.long (own_por (1 : Int64) s0 m0 f0 x0)), (.int p4), (.ref a3)])) _
    refine XS.aloadN X122.here hx rfl (hb hby d25_52) rfl rfl ?_
    refine st128 _ ?_
    refine XS.iload X128.here hx rfl (hb hby d25_56) rfl ?_
    refine X128.laload hx (j := (1 : Int32)) (v := (.long m1)) (by rw [e128]; exact Arc130.1) (State.isArrayOf_alike hZ.alike Arc130.2.1) Arc130.2.2 hin131 hat132 (g := (mkF m 58 #[Sr a1, Sr a2, Sr a3, Si p4, Si (1 : Int32)] [(.int (1 : Int32)), (.ref r3), (.long ((x1.toInt64) - (f1.toInt64))), (.long (own_por (1 : Int64) s0 m0 f0 x0)), (.int p4), (.ref a3)])) rfl rfl (hb hby d25_58) _ ?_
    refine XS.land X128.here hx rfl (hb hby d25_59) rfl ?_
    refine XS.aloadN X128.here hx rfl (hb hby d25_60) rfl rfl ?_
    refine st134 _ ?_
    refine XS.iload X134.here hx rfl (hb hby d25_64) rfl ?_
    show Steps _ _ _ (T134.setTop (mkF m 66 #[Sr a1, Sr a2, Sr a3, Si p4, Si (1 : Int32)] [(.int (1 : Int32)), (.ref r2), (.long (((x1.toInt64) - (f1.toInt64)) &&& m1)), (.long (own_por (1 : Int64) s0 m0 f0 x0)), (.int p4), (.ref a3)])) _
    refine X134.iaload hx (j := (1 : Int32)) (v := (.int s1)) (by rw [e134]; exact Arc136.1) (State.isArrayOf_alike hZ.alike Arc136.2.1) Arc136.2.2 hin137 hat138 (g := (mkF m 66 #[Sr a1, Sr a2, Sr a3, Si p4, Si (1 : Int32)] [(.int (1 : Int32)), (.ref r2), (.long (((x1.toInt64) - (f1.toInt64)) &&& m1)), (.long (own_por (1 : Int64) s0 m0 f0 x0)), (.int p4), (.ref a3)])) rfl rfl (hb hby d25_66) _ ?_
    refine XS.lshl X134.here hx rfl (hb hby d25_67) rfl ?_
    refine XS.lor X134.here hx rfl (hb hby d25_68) rfl ?_
    exact k
  have pre140 : ∀ t, Steps p.tables e below (T134.setTop (mkF m 69 #[Sr a1, Sr a2, Sr a3, Si p4, Si (1 : Int32)] [(.long (own_por (own_por (1 : Int64) s0 m0 f0 x0) s1 m1 f1 x1)), (.int p4), (.ref a3)])) t → Steps p.tables e below (s₁.setTop (entryFrame m #[(.ref a1), (.ref a2), (.ref a3), (.int p4)] 5)) t := pre139
  obtain ⟨c141, Arc141, Aqc141, Asc141, Anc141, Ahc141, Agc141⟩ := id V101
  have hin142 : ¬ (p4 < 0 ∨ c141.slots.size ≤ (p4).toNatClampNeg) := inb_of Asc141 (own_inA hp)
  obtain ⟨T143, h143, X143, e143, W143, st143⟩ := stJ X134 hx hZ e134 Arc141 (j := p4) hin142 (g := (mkF m 69 #[Sr a1, Sr a2, Sr a3, Si p4, Si (1 : Int32)] [(.long (own_por (own_por (1 : Int64) s0 m0 f0 x0) s1 m1 f1 x1)), (.int p4), (.ref a3)])) rfl rfl (hb hby d25_69)
  have KC144 : Keep h0 h143 [a3] := KC102.wr W143 (Or.inl (List.mem_of_getElem? (i := 0) rfl))
  have V143 : Arv Z h143 a3 k3 .long (6 : Int32) (vl105.set (p4).toNatClampNeg (.long (own_por (own_por (1 : Int64) s0 m0 f0 x0) s1 m1 f1 x1))) (.long (0 : Int64)) := Arv.set Arc141 Aqc141 Asc141 Anc141 Ahc141 Agc141 rfl W143 (p4).toNatClampNeg rfl (own_hiA hp hlvl105)
  have N145 := Fr.snoc X143 N103 g3
  have pre146 : ∀ t, Steps p.tables e below (T143.setTop (mkF m 70 #[Sr a1, Sr a2, Sr a3, Si p4, Si (1 : Int32)] [])) t → Steps p.tables e below (s₁.setTop (entryFrame m #[(.ref a1), (.ref a2), (.ref a3), (.int p4)] 5)) t := by
    intro t k
    refine pre140 t ?_
    refine st143 _ ?_
    exact k
  obtain ⟨vl147, hvl147⟩ : ∃ z : List Value, z = (vl105.set (p4).toNatClampNeg (.long (own_por (own_por (1 : Int64) s0 m0 f0 x0) s1 m1 f1 x1))) := ⟨_, rfl⟩
  rw [← hvl147] at V143
  have hlvl147 : vl147.length = 6 := by rw [hvl147]; first | exact hlvl105 | (simp only [List.length_set]; exact hlvl105)
  have hAvl147 : vl147.getD (p4).toNatClampNeg (.long (0 : Int64)) = (.long (own_por (own_por (1 : Int64) s0 m0 f0 x0) s1 m1 f1 x1)) := by rw [hvl147]; exact (own_gs (by first | exact own_hiA hp hlvl105 | (simp only [List.length_set]; exact own_hiA hp hlvl105)))
  have hBvl147 : vl147.getD ((p4 + (1 : Int32))).toNatClampNeg (.long (0 : Int64)) = (.long (0 : Int64)) := by rw [hvl147]; exact ((own_gn (own_neAB hp)).trans hBvl105)
  have F148 : Arv Z h143 a2 k2 .int (3 : Int32) [(.int x0), (.int x1), (.int x2)] (.int (0 : Int32)) := (F106.other W143 n23)
  obtain ⟨c149, Arc149, Aqc149, Asc149, Anc149, Ahc149, Agc149⟩ := id F148
  have F150 : Fld Z h143 a1 "com/example/darlington/darlington/core/StateLayout" "wordOf" "[I" (.ref r1) := (F108.other W143 (Or.inl n13))
  obtain ⟨T151, X151, e151, st151⟩ := getF X143 hx hZ hown (host := "") (Or.inl (ow hw 110 rfl)) Via.refl e143 F150 (g := (mkF m 29 #[Sr a1, Sr a2, Sr a3, Si p4, Si (2 : Int32)] [(.ref a1), (.int p4), (.ref a3)])) rfl rfl (hb hby d25_29)
  have F152 : Arv Z h143 r1 c1 .int (3 : Int32) [(.int (0 : Int32)), (.int (0 : Int32)), (.int (1 : Int32))] (.int (0 : Int32)) := (F110.other W143 nr1)
  obtain ⟨c153, Arc153, Aqc153, Asc153, Anc153, Ahc153, Agc153⟩ := id F152
  have hin154 : ¬ ((2 : Int32) < 0 ∨ c153.slots.size ≤ ((2 : Int32)).toNatClampNeg) := inb_of Asc153 ⟨by decide, by decide⟩
  have hat155 : c153.slots[((2 : Int32)).toNatClampNeg]? = some (.int (1 : Int32)) := Has.at Ahc153 hin154 rfl
  obtain ⟨c156, Arc156, Aqc156, Asc156, Anc156, Ahc156, Agc156⟩ := id V143
  have hin157 : ¬ ((p4 + (1 : Int32)) < 0 ∨ c156.slots.size ≤ ((p4 + (1 : Int32))).toNatClampNeg) := inb_of Asc156 (own_inB hp)
  have hat158 : c156.slots[((p4 + (1 : Int32))).toNatClampNeg]? = some (.long (0 : Int64)) := Has.at Ahc156 hin157 hBvl147
  obtain ⟨c159, Arc159, Aqc159, Asc159, Anc159, Ahc159, Agc159⟩ := id F148
  have hin160 : ¬ ((2 : Int32) < 0 ∨ c159.slots.size ≤ ((2 : Int32)).toNatClampNeg) := inb_of Asc159 ⟨by decide, by decide⟩
  have hat161 : c159.slots[((2 : Int32)).toNatClampNeg]? = some (.int x2) := Has.at Ahc159 hin160 rfl
  have F162 : Fld Z h143 a1 "com/example/darlington/darlington/core/StateLayout" "firstOf" "[I" (.ref r4) := (F121.other W143 (Or.inl n13))
  obtain ⟨T163, X163, e163, st163⟩ := getF X151 hx hZ hown (host := "") (Or.inl (ow hw 117 rfl)) Via.refl e151 F162 (g := (mkF m 44 #[Sr a1, Sr a2, Sr a3, Si p4, Si (2 : Int32)] [(.ref a1), (.long (x2.toInt64)), (.long (0 : Int64)), (.int (p4 + (1 : Int32))), (.ref a3)])) rfl rfl (hb hby d25_44)
  have F164 : Arv Z h143 r4 c4 .int (3 : Int32) [(.int f0), (.int f1), (.int f2)] (.int (0 : Int32)) := (F123.other W143 nr4)
  obtain ⟨c165, Arc165, Aqc165, Asc165, Anc165, Ahc165, Agc165⟩ := id F164
  have hin166 : ¬ ((2 : Int32) < 0 ∨ c165.slots.size ≤ ((2 : Int32)).toNatClampNeg) := inb_of Asc165 ⟨by decide, by decide⟩
  have hat167 : c165.slots[((2 : Int32)).toNatClampNeg]? = some (.int f2) := Has.at Ahc165 hin166 rfl
  have F168 : Fld Z h143 a1 "com/example/darlington/darlington/core/StateLayout" "maskOf" "[J" (.ref r3) := (F127.other W143 (Or.inl n13))
  obtain ⟨T169, X169, e169, st169⟩ := getF X163 hx hZ hown (host := "") (Or.inl (ow hw 115 rfl)) Via.refl e163 F168 (g := (mkF m 53 #[Sr a1, Sr a2, Sr a3, Si p4, Si (2 : Int32)] [(.ref a1), (.long ((x2.toInt64) - (f2.toInt64))), (.long (0 : Int64)), (.int (p4 + (1 : Int32))), (.ref a3)])) rfl rfl (hb hby d25_53)
  have F170 : Arv Z h143 r3 c3 .long (3 : Int32) [(.long m0), (.long m1), (.long m2)] (.long (0 : Int64)) := (F129.other W143 nr3)
  obtain ⟨c171, Arc171, Aqc171, Asc171, Anc171, Ahc171, Agc171⟩ := id F170
  have hin172 : ¬ ((2 : Int32) < 0 ∨ c171.slots.size ≤ ((2 : Int32)).toNatClampNeg) := inb_of Asc171 ⟨by decide, by decide⟩
  have hat173 : c171.slots[((2 : Int32)).toNatClampNeg]? = some (.long m2) := Has.at Ahc171 hin172 rfl
  have F174 : Fld Z h143 a1 "com/example/darlington/darlington/core/StateLayout" "shiftOf" "[I" (.ref r2) := (F133.other W143 (Or.inl n13))
  obtain ⟨T175, X175, e175, st175⟩ := getF X169 hx hZ hown (host := "") (Or.inl (ow hw 112 rfl)) Via.refl e169 F174 (g := (mkF m 61 #[Sr a1, Sr a2, Sr a3, Si p4, Si (2 : Int32)] [(.ref a1), (.long (((x2.toInt64) - (f2.toInt64)) &&& m2)), (.long (0 : Int64)), (.int (p4 + (1 : Int32))), (.ref a3)])) rfl rfl (hb hby d25_61)
  have F176 : Arv Z h143 r2 c2 .int (3 : Int32) [(.int s0), (.int s1), (.int s2)] (.int (0 : Int32)) := (F135.other W143 nr2)
  obtain ⟨c177, Arc177, Aqc177, Asc177, Anc177, Ahc177, Agc177⟩ := id F176
  have hin178 : ¬ ((2 : Int32) < 0 ∨ c177.slots.size ≤ ((2 : Int32)).toNatClampNeg) := inb_of Asc177 ⟨by decide, by decide⟩
  have hat179 : c177.slots[((2 : Int32)).toNatClampNeg]? = some (.int s2) := Has.at Ahc177 hin178 rfl
  have pre180 : ∀ t, Steps p.tables e below (T175.setTop (mkF m 69 #[Sr a1, Sr a2, Sr a3, Si p4, Si (2 : Int32)] [(.long ((0 : Int64) ||| ((((x2.toInt64) - (f2.toInt64)) &&& m2) <<< (s2 &&& 0x3f).toInt64))), (.int (p4 + (1 : Int32))), (.ref a3)])) t → Steps p.tables e below (s₁.setTop (entryFrame m #[(.ref a1), (.ref a2), (.ref a3), (.int p4)] 5)) t := by
    intro t k
    refine pre146 t ?_
    refine XS.iinc X143.here hx rfl (hb hby d25_70) rfl (l' := #[Sr a1, Sr a2, Sr a3, Si p4, Si (2 : Int32)]) rfl ?_
    refine XS.goto X143.here hx rfl (pc0 := 73) (pc' := 19) rfl (hb hby d25_73) (by decide) (by decide) ?_
    refine XS.iload X143.here hx rfl (hb hby d25_19) rfl ?_
    refine XS.aloadN X143.here hx rfl (hb hby d25_21) rfl rfl ?_
    show Steps _ _ _ (T143.setTop (mkF m 22 #[Sr a1, Sr a2, Sr a3, Si p4, Si (2 : Int32)] [(.ref a2), (.int (2 : Int32))])) _
    refine X143.arraylength hx (by rw [e143]; exact Arc149.1) (State.isArrayOf_alike hZ.alike Arc149.2.1) (g := (mkF m 22 #[Sr a1, Sr a2, Sr a3, Si p4, Si (2 : Int32)] [(.ref a2), (.int (2 : Int32))])) rfl rfl (hb hby d25_22) _ ?_
    rw [len_of Asc149 Anc149]
    refine XS.icmpNo X143.here hx rfl (hb hby d25_23) rfl (tlt (by decide)).2.1 ?_
    refine XS.aloadN X143.here hx rfl (hb hby d25_26) rfl rfl ?_
    refine XS.iloadN X143.here hx rfl (hb hby d25_27) rfl ?_
    refine XS.aloadN X143.here hx rfl (hb hby d25_28) rfl rfl ?_
    refine st151 _ ?_
    refine XS.iload X151.here hx rfl (hb hby d25_32) rfl ?_
    refine X151.iaload hx (j := (2 : Int32)) (v := (.int (1 : Int32))) (by rw [e151]; exact Arc153.1) (State.isArrayOf_alike hZ.alike Arc153.2.1) Arc153.2.2 hin154 hat155 (g := (mkF m 34 #[Sr a1, Sr a2, Sr a3, Si p4, Si (2 : Int32)] [(.int (2 : Int32)), (.ref r1), (.int p4), (.ref a3)])) rfl rfl (hb hby d25_34) _ ?_
    show Steps _ _ _ (T151.setTop (mkF m 35 #[Sr a1, Sr a2, Sr a3, Si p4, Si (2 : Int32)] [(.int (1 : Int32)), (.int p4), (.ref a3)])) _
    refine XS.iadd X151.here hx rfl (hb hby d25_35) rfl ?_
    jvm_step X151.here [X151.here.top, hx, (hb hby d25_36), Value.category]
    show Steps _ _ _ (T151.setTop (mkF m 37 #[Sr a1, Sr a2, Sr a3, Si p4, Si (2 : Int32)] [(.int (p4 + (1 : Int32))), (.ref a3), (.int (p4 + (1 : Int32))), (.ref a3)])) _
    refine X151.laload hx (j := (p4 + (1 : Int32))) (v := (.long (0 : Int64))) (by rw [e151]; exact Arc156.1) (State.isArrayOf_alike hZ.alike Arc156.2.1) Arc156.2.2 hin157 hat158 (g := (mkF m 37 #[Sr a1, Sr a2, Sr a3, Si p4, Si (2 : Int32)] [(.int (p4 + (1 : Int32))), (.ref a3), (.int (p4 + (1 : Int32))), (.ref a3)])) rfl rfl (hb hby d25_37) _ ?_
    refine XS.aloadN X151.here hx rfl (hb hby d25_38) rfl rfl ?_
    refine XS.iload X151.here hx rfl (hb hby d25_39) rfl ?_
    refine X151.iaload hx (j := (2 : Int32)) (v := (.int x2)) (by rw [e151]; exact Arc159.1) (State.isArrayOf_alike hZ.alike Arc159.2.1) Arc159.2.2 hin160 hat161 (g := (mkF m 41 #[Sr a1, Sr a2, Sr a3, Si p4, Si (2 : Int32)] [(.int (2 : Int32)), (.ref a2), (.long (0 : Int64)), (.int (p4 + (1 : Int32))), (.ref a3)])) rfl rfl (hb hby d25_41) _ ?_
    refine XS.i2l X151.here hx rfl (hb hby d25_42) rfl ?_
    refine XS.aloadN X151.here hx rfl (hb hby d25_43) rfl rfl ?_
    refine st163 _ ?_
    show Steps _ _ _ (T163.setTop (mkF m 47 #[Sr a1, Sr a2, Sr a3, Si p4, Si (2 : Int32)] [(.ref r4), (.long (x2.toInt64)), (.long (0 : Int64)), (.int (p4 + (1 : Int32))), (.ref a3)])) _
    refine XS.iload X163.here hx rfl (hb hby d25_47) rfl ?_
    refine X163.iaload hx (j := (2 : Int32)) (v := (.int f2)) (by rw [e163]; exact Arc165.1) (State.isArrayOf_alike hZ.alike Arc165.2.1) Arc165.2.2 hin166 hat167 (g := (mkF m 49 #[Sr a1, Sr a2, Sr a3, Si p4, Si (2 : Int32)] [(.int (2 : Int32)), (.ref r4), (.long (x2.toInt64)), (.long (0 : Int64)), (.int (p4 + (1 : Int32))), (.ref a3)])) rfl rfl (hb hby d25_49) _ ?_
    refine XS.i2l X163.here hx rfl (hb hby d25_50) rfl ?_
    refine XS.lsub X163.here hx rfl (hb hby d25_51) rfl ?_
    refine XS.aloadN X163.here hx rfl (hb hby d25_52) rfl rfl ?_
    refine st169 _ ?_
    refine XS.iload X169.here hx rfl (hb hby d25_56) rfl ?_
    refine X169.laload hx (j := (2 : Int32)) (v := (.long m2)) (by rw [e169]; exact Arc171.1) (State.isArrayOf_alike hZ.alike Arc171.2.1) Arc171.2.2 hin172 hat173 (g := (mkF m 58 #[Sr a1, Sr a2, Sr a3, Si p4, Si (2 : Int32)] [(.int (2 : Int32)), (.ref r3), (.long ((x2.toInt64) - (f2.toInt64))), (.long (0 : Int64)), (.int (p4 + (1 : Int32))), (.ref a3)])) rfl rfl (hb hby d25_58) _ ?_
    show Steps _ _ _ (T169.setTop (mkF m 59 #[Sr a1, Sr a2, Sr a3, Si p4, Si (2 : Int32)] [(.long m2), (.long ((x2.toInt64) - (f2.toInt64))), (.long (0 : Int64)), (.int (p4 + (1 : Int32))), (.ref a3)])) _
    refine XS.land X169.here hx rfl (hb hby d25_59) rfl ?_
    refine XS.aloadN X169.here hx rfl (hb hby d25_60) rfl rfl ?_
    refine st175 _ ?_
    refine XS.iload X175.here hx rfl (hb hby d25_64) rfl ?_
    refine X175.iaload hx (j := (2 : Int32)) (v := (.int s2)) (by rw [e175]; exact Arc177.1) (State.isArrayOf_alike hZ.alike Arc177.2.1) Arc177.2.2 hin178 hat179 (g := (mkF m 66 #[Sr a1, Sr a2, Sr a3, Si p4, Si (2 : Int32)] [(.int (2 : Int32)), (.ref r2), (.long (((x2.toInt64) - (f2.toInt64)) &&& m2)), (.long (0 : Int64)), (.int (p4 + (1 : Int32))), (.ref a3)])) rfl rfl (hb hby d25_66) _ ?_
    refine XS.lshl X175.here hx rfl (hb hby d25_67) rfl ?_
    refine XS.lor X175.here hx rfl (hb hby d25_68) rfl ?_
    exact k
  have pre181 : ∀ t, Steps p.tables e below (T175.setTop (mkF m 69 #[Sr a1, Sr a2, Sr a3, Si p4, Si (2 : Int32)] [(.long (own_por (0 : Int64) s2 m2 f2 x2)), (.int (p4 + (1 : Int32))), (.ref a3)])) t → Steps p.tables e below (s₁.setTop (entryFrame m #[(.ref a1), (.ref a2), (.ref a3), (.int p4)] 5)) t := pre180
  obtain ⟨c182, Arc182, Aqc182, Asc182, Anc182, Ahc182, Agc182⟩ := id V143
  have hin183 : ¬ ((p4 + (1 : Int32)) < 0 ∨ c182.slots.size ≤ ((p4 + (1 : Int32))).toNatClampNeg) := inb_of Asc182 (own_inB hp)
  obtain ⟨T184, h184, X184, e184, W184, st184⟩ := stJ X175 hx hZ e175 Arc182 (j := (p4 + (1 : Int32))) hin183 (g := (mkF m 69 #[Sr a1, Sr a2, Sr a3, Si p4, Si (2 : Int32)] [(.long (own_por (0 : Int64) s2 m2 f2 x2)), (.int (p4 + (1 : Int32))), (.ref a3)])) rfl rfl (hb hby d25_69)
  have KC185 : Keep h0 h184 [a3] := KC144.wr W184 (Or.inl (List.mem_of_getElem? (i := 0) rfl))
  have V184 : Arv Z h184 a3 k3 .long (6 : Int32) (vl147.set ((p4 + (1 : Int32))).toNatClampNeg (.long (own_por (0 : Int64) s2 m2 f2 x2))) (.long (0 : Int64)) := Arv.set Arc182 Aqc182 Asc182 Anc182 Ahc182 Agc182 rfl W184 ((p4 + (1 : Int32))).toNatClampNeg rfl (own_hiB hp hlvl147)
  have N186 := Fr.snoc X184 N145 g3
  have pre187 : ∀ t, Steps p.tables e below (T184.setTop (mkF m 70 #[Sr a1, Sr a2, Sr a3, Si p4, Si (2 : Int32)] [])) t → Steps p.tables e below (s₁.setTop (entryFrame m #[(.ref a1), (.ref a2), (.ref a3), (.int p4)] 5)) t := by
    intro t k
    refine pre181 t ?_
    refine st184 _ ?_
    show Steps _ _ _ (T184.setTop (mkF m 70 #[Sr a1, Sr a2, Sr a3, Si p4, Si (2 : Int32)] [])) _
    exact k
  obtain ⟨vl188, hvl188⟩ : ∃ z : List Value, z = (vl147.set ((p4 + (1 : Int32))).toNatClampNeg (.long (own_por (0 : Int64) s2 m2 f2 x2))) := ⟨_, rfl⟩
  rw [← hvl188] at V184
  have hlvl188 : vl188.length = 6 := by rw [hvl188]; first | exact hlvl147 | (simp only [List.length_set]; exact hlvl147)
  have hAvl188 : vl188.getD (p4).toNatClampNeg (.long (0 : Int64)) = (.long (own_por (own_por (1 : Int64) s0 m0 f0 x0) s1 m1 f1 x1)) := by rw [hvl188]; exact ((own_gn (Ne.symm (own_neAB hp))).trans hAvl147)
  have hBvl188 : vl188.getD ((p4 + (1 : Int32))).toNatClampNeg (.long (0 : Int64)) = (.long (own_por (0 : Int64) s2 m2 f2 x2)) := by rw [hvl188]; exact (own_gs (by first | exact own_hiB hp hlvl147 | (simp only [List.length_set]; exact own_hiB hp hlvl147)))
  have F189 : Arv Z h184 a2 k2 .int (3 : Int32) [(.int x0), (.int x1), (.int x2)] (.int (0 : Int32)) := (F148.other W184 n23)
  obtain ⟨c190, Arc190, Aqc190, Asc190, Anc190, Ahc190, Agc190⟩ := id F189
  have pre191 : ∀ t, Steps p.tables e below (T184.setTop (mkF m 76 #[Sr a1, Sr a2, Sr a3, Si p4, Si (3 : Int32)] [])) t → Steps p.tables e below (s₁.setTop (entryFrame m #[(.ref a1), (.ref a2), (.ref a3), (.int p4)] 5)) t := by
    intro t k
    refine pre187 t ?_
    refine XS.iinc X184.here hx rfl (hb hby d25_70) rfl (l' := #[Sr a1, Sr a2, Sr a3, Si p4, Si (3 : Int32)]) rfl ?_
    refine XS.goto X184.here hx rfl (pc0 := 73) (pc' := 19) rfl (hb hby d25_73) (by decide) (by decide) ?_
    refine XS.iload X184.here hx rfl (hb hby d25_19) rfl ?_
    refine XS.aloadN X184.here hx rfl (hb hby d25_21) rfl rfl ?_
    refine X184.arraylength hx (by rw [e184]; exact Arc190.1) (State.isArrayOf_alike hZ.alike Arc190.2.1) (g := (mkF m 22 #[Sr a1, Sr a2, Sr a3, Si p4, Si (3 : Int32)] [(.ref a2), (.int (3 : Int32))])) rfl rfl (hb hby d25_22) _ ?_
    rw [len_of Asc190 Anc190]
    refine XS.icmpYes X184.here hx rfl (pc0 := 23) (pc' := 76) rfl (hb hby d25_23) rfl (flt (by decide)).2.1 (by decide) (by decide) ?_
    exact k
  obtain ⟨fs, hr, hrun, hended, hW, hsame⟩ := X184.leave (v := none) (fun _ => rfl)
  refine ⟨_, _, pre191 _ ?_, hrun, hended, _, _, rfl, ?_, ⟨_, rfl⟩, hW, hsame.mono (by decide) (by decide)⟩
  · exact X184.returnOut hx Bd.returns (hb hby d25_76) hr
  · show Q_rm_packB Z a1 a2 a3 p4 r1 r2 r3 r4 c1 c2 c3 c4 s0 s1 s2 m0 m1 m2 f0 f1 f2 k2 k3 x0 x1 x2 vs gA gB h0 n0 _ T184.heap _
    rw [e184]
    exact ⟨vl188, rfl, N186, KC185, V184, hlvl188, hAvl188, hBvl188⟩
/-! the plain law of fields of bits -/
def own_fld (w : Int64) (s : Int32) (m : Int64) : Int64 := (((w.toUInt64 >>> (s &&& 0x3f).toInt64.toUInt64).toInt64) &&& m)
theorem own_nat32 (s : Int32) (h : 0 ≤ s.toInt) : (s.toBitVec.toNat : Int) = s.toInt := by
  have q : s.toBitVec.toInt = s.toInt := rfl
  have l := s.toBitVec.isLt
  rw [BitVec.toInt_eq_toNat_cond] at q
  split at q <;> omega
theorem own_nat64 (s : Int64) (h : 0 ≤ s.toInt) : (s.toBitVec.toNat : Int) = s.toInt := by
  have q : s.toBitVec.toInt = s.toInt := rfl
  have l := s.toBitVec.isLt
  rw [BitVec.toInt_eq_toNat_cond] at q
  split at q <;> omega
theorem own_shl (x : Int64) (q : Int32) (k : Nat) (hk : q.toBitVec.toNat % 64 = k) : (x <<< (q &&& 0x3f).toInt64).toBitVec = x.toBitVec <<< k := by
  show (x.toBitVec <<< ((q &&& 0x3f).toInt64.toBitVec.smod 64)) = _
  rw [BitVec.shiftLeft_eq', (sm64 q k hk).1, smod64 k (sm64 q k hk).2]
theorem own_shr (x : Int64) (q : Int32) (k : Nat) (hk : q.toBitVec.toNat % 64 = k) : ((x.toUInt64 >>> (q &&& 0x3f).toInt64.toUInt64).toInt64).toBitVec = x.toBitVec >>> k := by
  show x.toBitVec >>> ((q &&& 0x3f).toInt64.toBitVec % 64) = _
  have h5 := (sm64 q k hk).2
  rw [BitVec.ushiftRight_eq', BitVec.toNat_umod, (sm64 q k hk).1, BitVec.toNat_ofNat]; congr 1; show k % 2 ^ 64 % 64 = k; omega
/-- a mask of k bits -/
def own_isM (m : Int64) (k : Nat) : Prop := m.toBitVec.toNat = 2 ^ k - 1
theorem own_mbit {m : Int64} {k : Nat} (h : own_isM m k) (i : Nat) : m.toBitVec.getLsbD i = decide (i < k) := by
  show m.toBitVec.toNat.testBit i = _
  rw [h]; exact Nat.testBit_two_pow_sub_one k i
theorem own_fbit {w : Int64} {s : Int32} {m : Int64} {k n : Nat} (hs : s.toBitVec.toNat = n) (hn : n < 64) (hm : own_isM m k) (i : Nat) : (own_fld w s m).toBitVec.getLsbD i = (w.toBitVec.getLsbD (n + i) && decide (i < k)) := by
  unfold own_fld
  rw [Int64.toBitVec_and, own_shr w s n (by omega), BitVec.getLsbD_and, BitVec.getLsbD_ushiftRight, own_mbit hm]
theorem own_ubit {w : Int64} {s : Int32} {m : Int64} {k n : Nat} {f v : Int32} (hs : s.toBitVec.toNat = n) (hn : n + k ≤ 64) (hn' : n < 64) (hm : own_isM m k) (i : Nat) (hi : i < 64) :
    (own_upd w s m f v).toBitVec.getLsbD i = if n ≤ i ∧ i < n + k then (v.toInt64 - f.toInt64).toBitVec.getLsbD (i - n) else w.toBitVec.getLsbD i := by
  unfold own_upd
  rw [Int64.toBitVec_or, Int64.toBitVec_and, Int64.toBitVec_xor, own_shl _ s n (by omega), own_shl _ s n (by omega), Int64.toBitVec_and]
  have m1 : (-1 : Int64).toBitVec = BitVec.allOnes 64 := by decide
  simp only [BitVec.getLsbD_or, BitVec.getLsbD_and, BitVec.getLsbD_xor, BitVec.getLsbD_shiftLeft, m1, BitVec.getLsbD_allOnes, own_mbit hm, hi, decide_true, Bool.true_and]
  by_cases h1 : i < n
  · rw [if_neg (by omega)]; simp [h1]
  · by_cases h2 : i < n + k
    · rw [if_pos (by omega)]
      have : i - n < k := by omega
      simp [h1, this]
    · rw [if_neg (by omega)]
      have : ¬ i - n < k := by omega
      simp [h1, this]
theorem own_ext {a b : Int64} (h : ∀ i, i < 64 → a.toBitVec.getLsbD i = b.toBitVec.getLsbD i) : a = b :=
  Int64.toBitVec_inj.mp (BitVec.eq_of_getLsbD_eq fun i hi => h i hi)
/-- what was set is read -/
theorem own_fu {w : Int64} {s : Int32} {m : Int64} {k n : Nat} {f v : Int32} (hs : s.toBitVec.toNat = n) (hn : n + k ≤ 64) (hn' : n < 64) (hm : own_isM m k) : own_fld (own_upd w s m f v) s m = ((v.toInt64 - f.toInt64) &&& m) := by
  apply own_ext; intro i hi
  rw [own_fbit hs hn' hm, Int64.toBitVec_and, BitVec.getLsbD_and, own_mbit hm]
  by_cases h : i < k
  · rw [own_ubit hs hn hn' hm _ (by omega), if_pos (by omega)]; congr 2; omega
  · simp [h]
/-- another field is as it was -/
theorem own_fo {w : Int64} {s s' : Int32} {m m' : Int64} {k n k' n' : Nat} {f v : Int32} (hs : s.toBitVec.toNat = n) (hn : n + k ≤ 64) (hn1 : n < 64) (hm : own_isM m k) (hs' : s'.toBitVec.toNat = n') (hn' : n' + k' ≤ 64) (hn1' : n' < 64) (hm' : own_isM m' k') (hd : n' + k' ≤ n ∨ n + k ≤ n') : own_fld (own_upd w s m f v) s' m' = own_fld w s' m' := by
  apply own_ext; intro i hi
  rw [own_fbit hs' hn1' hm', own_fbit hs' hn1' hm']
  by_cases h : i < k'
  · rw [own_ubit hs hn hn1 hm _ (by omega), if_neg (by omega)]
  · simp [h]
/-- set back -/
theorem own_uu {w : Int64} {s : Int32} {m : Int64} {k n : Nat} {f v v' : Int32} (hs : s.toBitVec.toNat = n) (hn : n + k ≤ 64) (hn' : n < 64) (hm : own_isM m k) (hv : ((v'.toInt64 - f.toInt64) &&& m) = own_fld w s m) : own_upd (own_upd w s m f v) s m f v' = w := by
  apply own_ext; intro i hi
  rw [own_ubit hs hn hn' hm _ hi]
  by_cases h : n ≤ i ∧ i < n + k
  · rw [if_pos h]
    have q := congrArg (fun z : Int64 => z.toBitVec.getLsbD (i - n)) hv
    simp only [Int64.toBitVec_and, BitVec.getLsbD_and, own_mbit hm, own_fbit hs hn' hm] at q
    have h1 : i - n < k := by omega
    rw [show n + (i - n) = i by omega] at q
    simpa [h1] using q
  · rw [if_neg h, own_ubit hs hn hn' hm _ hi, if_neg h]
/-- the lowest bit -/
theorem own_low {w : Int64} {s : Int32} {m : Int64} {k n : Nat} {f v : Int32} (hs : s.toBitVec.toNat = n) (hn : n + k ≤ 64) (hn' : n < 64) (hm : own_isM m k) (h1 : 1 ≤ n) : (own_upd (w ||| (1 : Int64)) s m f v &&& (1 : Int64)) = (1 : Int64) := by
  apply own_ext; intro i hi
  have e1 : ∀ j, (1 : Int64).toBitVec.getLsbD j = decide (j = 0) := fun j => by
    rw [show (1 : Int64).toBitVec = 1#64 from rfl, BitVec.getLsbD_one]; simp
  rw [Int64.toBitVec_and, BitVec.getLsbD_and, e1]
  by_cases h : i = 0
  · subst h
    rw [own_ubit hs hn hn' hm _ hi, if_neg (by omega), Int64.toBitVec_or, BitVec.getLsbD_or, e1]; simp
  · simp [h]

/-! the plain law of the bits of a type -/
theorem own_usI (x k : Int32) (n : Nat) (hk : k.toBitVec.toNat % 32 = n) (h0 : 0 < n) (hx : 0 ≤ x.toInt) : (own_us x k).toInt = x.toInt / (2 ^ n : Nat) := by
  have u := c_iushr x k n hk h0
  have r := rng32 x
  rw [show x.toInt % 4294967296 = x.toInt by omega] at u
  exact u
theorem own_d2 (x : Int) (K k : Nat) : x / 2 ^ (K + k) = x / 2 ^ K / 2 ^ k := by
  rw [Int.pow_add, Int.ediv_ediv_of_nonneg (Int.le_of_lt (Int.pow_pos (by decide)))]
theorem own_st16 (x : Int) (X n : Int32) (K : Nat) (h : x / 2 ^ K = X.toInt) (h0 : 0 < X.toInt) (hn : n.toInt = 31 - K) (hK : K ≤ 31) (n' : Int32) (hn' : n'.toInt = n.toInt - 16) : ∃ K' : Nat, K' ≤ K + 16 ∧ x / 2 ^ K' = (if X < (65536 : Int32) then X else own_us X 16).toInt ∧ 0 < (if X < (65536 : Int32) then X else own_us X 16).toInt ∧ (if X < (65536 : Int32) then X else own_us X 16).toInt < 65536 ∧ (if X < (65536 : Int32) then n else n').toInt = 31 - K' := by
  have l : (65536 : Int32).toInt = 65536 := rfl
  have r := rng32 X
  by_cases c : X < (65536 : Int32)
  · rw [if_pos c, if_pos c]; rw [Int32.lt_iff_toInt_lt] at c; exact ⟨K, by omega, h, h0, by omega, hn⟩
  · rw [if_neg c, if_neg c]; rw [Int32.lt_iff_toInt_lt] at c
    have u := own_usI X 16 16 (by decide) (by decide) (by omega)
    simp only [Nat.reducePow] at u
    refine ⟨K + 16, by omega, by rw [own_d2, h, u]; rfl, by omega, by omega, by omega⟩
theorem own_st8 (x : Int) (X n : Int32) (K : Nat) (h : x / 2 ^ K = X.toInt) (h0 : 0 < X.toInt) (hu : X.toInt < 65536) (hn : n.toInt = 31 - K) (hK : K ≤ 100) : ∃ K' : Nat, K' ≤ K + 8 ∧ x / 2 ^ K' = (if X < (256 : Int32) then X else own_us X 8).toInt ∧ 0 < (if X < (256 : Int32) then X else own_us X 8).toInt ∧ (if X < (256 : Int32) then X else own_us X 8).toInt < 256 ∧ (if X < (256 : Int32) then n else (n + (-8 : Int32))).toInt = 31 - K' := by
  have l : (256 : Int32).toInt = 256 := rfl
  have lm : (-8 : Int32).toInt = -8 := rfl
  by_cases c : X < (256 : Int32)
  · rw [if_pos c, if_pos c]; rw [Int32.lt_iff_toInt_lt] at c; exact ⟨K, by omega, h, h0, by omega, hn⟩
  · rw [if_neg c, if_neg c]; rw [Int32.lt_iff_toInt_lt] at c
    have u := own_usI X 8 8 (by decide) (by decide) (by omega)
    simp only [Nat.reducePow] at u
    have a := c_iadd n (-8)
    have ra := rng32 (n + (-8 : Int32))
    have rn := rng32 n
    refine ⟨K + 8, by omega, by rw [own_d2, h, u]; rfl, by omega, by omega, by omega⟩
theorem own_st4 (x : Int) (X n : Int32) (K : Nat) (h : x / 2 ^ K = X.toInt) (h0 : 0 < X.toInt) (hu : X.toInt < 256) (hn : n.toInt = 31 - K) (hK : K ≤ 100) : ∃ K' : Nat, K' ≤ K + 4 ∧ x / 2 ^ K' = (if X < (16 : Int32) then X else own_us X 4).toInt ∧ 0 < (if X < (16 : Int32) then X else own_us X 4).toInt ∧ (if X < (16 : Int32) then X else own_us X 4).toInt < 16 ∧ (if X < (16 : Int32) then n else (n + (-4 : Int32))).toInt = 31 - K' := by
  have l : (16 : Int32).toInt = 16 := rfl
  have lm : (-4 : Int32).toInt = -4 := rfl
  by_cases c : X < (16 : Int32)
  · rw [if_pos c, if_pos c]; rw [Int32.lt_iff_toInt_lt] at c; exact ⟨K, by omega, h, h0, by omega, hn⟩
  · rw [if_neg c, if_neg c]; rw [Int32.lt_iff_toInt_lt] at c
    have u := own_usI X 4 4 (by decide) (by decide) (by omega)
    simp only [Nat.reducePow] at u
    have a := c_iadd n (-4)
    have ra := rng32 (n + (-4 : Int32))
    have rn := rng32 n
    refine ⟨K + 4, by omega, by rw [own_d2, h, u]; rfl, by omega, by omega, by omega⟩
theorem own_st2 (x : Int) (X n : Int32) (K : Nat) (h : x / 2 ^ K = X.toInt) (h0 : 0 < X.toInt) (hu : X.toInt < 16) (hn : n.toInt = 31 - K) (hK : K ≤ 100) : ∃ K' : Nat, K' ≤ K + 2 ∧ x / 2 ^ K' = (if X < (4 : Int32) then X else own_us X 2).toInt ∧ 0 < (if X < (4 : Int32) then X else own_us X 2).toInt ∧ (if X < (4 : Int32) then X else own_us X 2).toInt < 4 ∧ (if X < (4 : Int32) then n else (n + (-2 : Int32))).toInt = 31 - K' := by
  have l : (4 : Int32).toInt = 4 := rfl
  have lm : (-2 : Int32).toInt = -2 := rfl
  by_cases c : X < (4 : Int32)
  · rw [if_pos c, if_pos c]; rw [Int32.lt_iff_toInt_lt] at c; exact ⟨K, by omega, h, h0, by omega, hn⟩
  · rw [if_neg c, if_neg c]; rw [Int32.lt_iff_toInt_lt] at c
    have u := own_usI X 2 2 (by decide) (by decide) (by omega)
    simp only [Nat.reducePow] at u
    have a := c_iadd n (-2)
    have ra := rng32 (n + (-2 : Int32))
    have rn := rng32 n
    refine ⟨K + 2, by omega, by rw [own_d2, h, u]; rfl, by omega, by omega, by omega⟩
theorem own_nlzB (x : Int32) (h : 0 < x.toInt) : ∃ b : Nat, b ≤ 31 ∧ ((32 : Int32) - own_nlz x).toInt = b ∧ x.toInt < 2 ^ b := by
  have l0 : (0 : Int32).toInt = 0 := rfl
  have rx := rng32 x
  obtain ⟨K1, a0, a1, a2, a3, a4⟩ := own_st16 x.toInt x 31 0 (by simp) h rfl (by decide) 15 rfl
  obtain ⟨K2, b0, b1, b2, b3, b4⟩ := own_st8 x.toInt (own_x1 x) (own_n1 x) K1 a1 a2 a3 a4 (by omega)
  obtain ⟨K3, c0, c1, c2, c3, c4⟩ := own_st4 x.toInt (own_x2 x) (own_n2 x) K2 b1 b2 b3 b4 (by omega)
  obtain ⟨K4, d0, d1, d2, d3, d4⟩ := own_st2 x.toInt (own_x3 x) (own_n3 x) K3 c1 c2 c3 c4 (by omega)
  have e1 : x.toInt / 2 ^ K4 = (own_x4 x).toInt := d1
  have e2 : 0 < (own_x4 x).toInt := d2
  have e3 : (own_x4 x).toInt < 4 := d3
  have e4 : (own_n4 x).toInt = 31 - K4 := d4
  have P : (0 : Int) < 2 ^ K4 := Int.pow_pos (by decide)
  have m1 := Int.emod_add_mul_ediv x.toInt (2 ^ K4)
  have m2 := Int.emod_nonneg x.toInt (show (2 : Int) ^ K4 ≠ 0 by omega)
  have m3 := Int.emod_lt_of_pos x.toInt P
  rw [e1] at m1
  have u := own_usI (own_x4 x) 1 1 (by decide) (by decide) (by omega)
  simp only [Nat.reducePow] at u
  have s1 := c_isub (own_n4 x) (own_us (own_x4 x) 1)
  have r1 := rng32 (own_n4 x - own_us (own_x4 x) 1)
  have s2 := c_isub 32 (own_n4 x - own_us (own_x4 x) 1)
  have r2 := rng32 ((32 : Int32) - (own_n4 x - own_us (own_x4 x) 1))
  have r3 := rng32 (own_n4 x)
  have l32 : (32 : Int32).toInt = 32 := rfl
  have hp : (0 : Int32) < x := by rw [Int32.lt_iff_toInt_lt]; omega
  unfold own_nlz
  rw [if_pos hp]
  have K30 : K4 ≤ 30 := by
    by_cases q : K4 ≤ 30
    · exact q
    · exfalso
      have : (2 : Int) ^ 31 ≤ 2 ^ K4 := by exact_mod_cast Nat.pow_le_pow_right (by decide : 0 < 2) (by omega : 31 ≤ K4)
      have : 2 ^ K4 * 1 ≤ 2 ^ K4 * (own_x4 x).toInt := Int.mul_le_mul_of_nonneg_left (by omega) (by omega)
      omega
  by_cases hx4 : (own_x4 x).toInt = 1
  · refine ⟨K4 + 1, by omega, by omega, ?_⟩
    rw [hx4] at m1
    rw [Int.pow_succ]; omega
  · have K29 : K4 ≤ 29 := by
      by_cases q : K4 ≤ 29
      · exact q
      · exfalso
        have e : K4 = 30 := by omega
        subst e
        have : (2 : Int) ^ 30 * 2 ≤ 2 ^ 30 * (own_x4 x).toInt := Int.mul_le_mul_of_nonneg_left (by omega) (by omega)
        omega
    refine ⟨K4 + 2, by omega, by omega, ?_⟩
    have : (2 : Int) ^ K4 * (own_x4 x).toInt ≤ 2 ^ K4 * 3 := Int.mul_le_mul_of_nonneg_left (by omega) (by omega)
    rw [show K4 + 2 = (K4 + 1) + 1 from rfl, Int.pow_succ, Int.pow_succ]; omega
theorem own_bitsB (z : Int32) (h : 1 ≤ z.toInt) : ∃ b : Nat, b ≤ 31 ∧ (own_bits z).toInt = b ∧ z.toInt ≤ 2 ^ b := by
  have s := c_isub z 1
  have r := rng32 (z - 1)
  have rz := rng32 z
  have l1 : (1 : Int32).toInt = 1 := rfl
  have e : (z - 1).toInt = z.toInt - 1 := by omega
  unfold own_bits
  by_cases q : z.toInt = 1
  · have e0 : z - 1 = 0 := Int32.toInt_inj.mp (by rw [e]; show _ = (0 : Int); omega)
    refine ⟨0, by decide, ?_, by omega⟩
    rw [e0]; rfl
  · obtain ⟨b, h1, h2, h3⟩ := own_nlzB (z - 1) (by omega)
    exact ⟨b, h1, h2, by omega⟩
theorem own_mskM (z : Int32) (b : Nat) (hb : b ≤ 31) (h : (own_bits z).toInt = b) : own_isM (own_msk z) b := by
  have n := own_nat32 (own_bits z) (by omega)
  have s := c_lshl 1 (own_bits z) b (by omega)
  have r := rng64 ((1 : Int64) <<< ((own_bits z) &&& 0x3f).toInt64)
  have l1 : (1 : Int64).toInt = 1 := rfl
  have p1 : (2 ^ b : Nat) ≤ 2 ^ 31 := Nat.pow_le_pow_right (by decide) hb
  have p0 : 0 < (2 ^ b : Nat) := Nat.pow_pos (by decide)
  rw [l1] at s
  have e : ((1 : Int64) <<< ((own_bits z) &&& 0x3f).toInt64).toInt = ((2 ^ b : Nat) : Int) := by omega
  have d := c_lsub ((1 : Int64) <<< ((own_bits z) &&& 0x3f).toInt64) 1
  have rd := rng64 (((1 : Int64) <<< ((own_bits z) &&& 0x3f).toInt64) - 1)
  have em : (own_msk z).toInt = ((2 ^ b : Nat) : Int) - 1 := by unfold own_msk; omega
  have nm := own_nat64 (own_msk z) (by omega)
  unfold own_isM
  omega
theorem own_andM {m : Int64} {b : Nat} (hm : own_isM m b) (hb : b ≤ 31) (d : Int64) (h0 : 0 ≤ d.toInt) (h1 : d.toInt < 2 ^ b) : (d &&& m) = d := by
  apply own_ext; intro i hi
  rw [Int64.toBitVec_and, BitVec.getLsbD_and, own_mbit hm]
  by_cases h : i < b
  · simp [h]
  · have n := own_nat64 d h0
    have : d.toBitVec.getLsbD i = false := by
      show d.toBitVec.toNat.testBit i = false
      apply Nat.testBit_lt_two_pow
      have q : (2 : Nat) ^ b ≤ 2 ^ i := Nat.pow_le_pow_right (by decide) (by omega)
      have : ((2 ^ b : Nat) : Int) = 2 ^ b := by simp
      omega
    simp [this, h]
theorem own_fldB {w : Int64} {s : Int32} {m : Int64} {b : Nat} (hm : own_isM m b) (hb : b ≤ 31) : 0 ≤ (own_fld w s m).toInt ∧ (own_fld w s m).toInt < 2 ^ b := by
  unfold own_fld
  generalize ((w.toUInt64 >>> (s &&& 0x3f).toInt64.toUInt64).toInt64) = x
  have := c_maskL x m b (by omega) hm
  have p0 : (0 : Int) < 2 ^ b := Int.pow_pos (by decide)
  have e : ((2 ^ b : Nat) : Int) = 2 ^ b := by simp
  rw [this, e]
  exact ⟨Int.emod_nonneg _ (by omega), Int.emod_lt_of_pos _ p0⟩
theorem own_val {m : Int64} {b : Nat} (hm : own_isM m b) (hb : b ≤ 31) (lo v : Int32) (h0 : 0 ≤ v.toInt - lo.toInt) (h1 : v.toInt - lo.toInt < 2 ^ b) : ((lo + (0 : Int32)) + (((v.toInt64 - (lo + (0 : Int32)).toInt64) &&& m).toInt32)) = v := by
  rw [Int32.add_zero]
  have a := c_i2l v
  have c := c_i2l lo
  have d := c_lsub v.toInt64 lo.toInt64
  have rd := rng64 (v.toInt64 - lo.toInt64)
  have rv := rng32 v
  have rl := rng32 lo
  have e : (v.toInt64 - lo.toInt64).toInt = v.toInt - lo.toInt := by omega
  rw [own_andM hm hb _ (by omega) (by omega)]
  have l := c_l2i (v.toInt64 - lo.toInt64)
  have s := c_iadd lo (v.toInt64 - lo.toInt64).toInt32
  have rs := rng32 (lo + (v.toInt64 - lo.toInt64).toInt32)
  apply Int32.toInt_inj.mp
  omega
theorem own_back {m F : Int64} {b : Nat} (hm : own_isM m b) (hb : b ≤ 31) (lo : Int32) (hF0 : 0 ≤ F.toInt) (hF1 : F.toInt < 2 ^ b) (h0 : ¬ ((((lo + (0 : Int32)) + F.toInt32).toInt64) - (lo.toInt64)) < (0 : Int64)) : ((((lo + (0 : Int32)) + F.toInt32).toInt64 - (lo + (0 : Int32)).toInt64) &&& m) = F := by
  rw [Int32.add_zero] at h0 ⊢
  have l := c_l2i F
  have rF := rng32 F.toInt32
  have p1 : (2 ^ b : Nat) ≤ 2 ^ 31 := Nat.pow_le_pow_right (by decide) hb
  have e2 : ((2 ^ b : Nat) : Int) = 2 ^ b := by simp
  have s := c_iadd lo F.toInt32
  have rs := rng32 (lo + F.toInt32)
  have rl := rng32 lo
  have a := c_i2l (lo + F.toInt32)
  have c := c_i2l lo
  have d := c_lsub (lo + F.toInt32).toInt64 lo.toInt64
  have rd := rng64 ((lo + F.toInt32).toInt64 - lo.toInt64)
  have l0 : (0 : Int64).toInt = 0 := rfl
  rw [Int64.lt_iff_toInt_lt] at h0
  have e : ((lo + F.toInt32).toInt64 - lo.toInt64) = F := Int64.toInt_inj.mp (by omega)
  rw [e]
  exact own_andM hm hb F hF0 hF1
/-! the ranges -/
theorem own_rng (lo z : Int32) (hz : 1 ≤ z.toInt) (hl : lo.toInt + z.toInt - 1 ≤ 2147483647) : ¬ (lo + (z - (1 : Int32))) < lo ∧ ¬ (2147483647 : Int64) < (((lo + (z - (1 : Int32))).toInt64 - lo.toInt64) + (1 : Int64)) ∧ own_size lo (lo + (z - (1 : Int32))) = z := by
  have a := c_isub z 1
  have ra := rng32 (z - 1)
  have rz := rng32 z
  have rl := rng32 lo
  have l1 : (1 : Int32).toInt = 1 := rfl
  have L1 : (1 : Int64).toInt = 1 := rfl
  have LM : (2147483647 : Int64).toInt = 2147483647 := rfl
  have b := c_iadd lo (z - 1)
  have rb := rng32 (lo + (z - 1))
  have e : (lo + (z - 1)).toInt = lo.toInt + z.toInt - 1 := by omega
  have c := c_i2l (lo + (z - 1))
  have d := c_i2l lo
  have f := c_lsub (lo + (z - 1)).toInt64 lo.toInt64
  have rf := rng64 ((lo + (z - 1)).toInt64 - lo.toInt64)
  have g := c_ladd ((lo + (z - 1)).toInt64 - lo.toInt64) 1
  have rg := rng64 (((lo + (z - 1)).toInt64 - lo.toInt64) + 1)
  have h := c_l2i (((lo + (z - 1)).toInt64 - lo.toInt64) + 1)
  have rh := rng32 (((lo + (z - 1)).toInt64 - lo.toInt64) + 1).toInt32
  refine ⟨?_, ?_, ?_⟩
  · rw [Int32.lt_iff_toInt_lt]; omega
  · rw [Int64.lt_iff_toInt_lt]; omega
  · unfold own_size; apply Int32.toInt_inj.mp; omega
/-- where the fields lie -/
theorem own_geo (z0 z1 z2 : Int32) (h0 : 1 ≤ z0.toInt) (h1 : 1 ≤ z1.toInt) (h2 : 1 ≤ z2.toInt) : ∃ b0 b1 b2 : Nat, b0 ≤ 31 ∧ b1 ≤ 31 ∧ b2 ≤ 31 ∧ own_isM (own_msk z0) b0 ∧ own_isM (own_msk z1) b1 ∧ own_isM (own_msk z2) b2 ∧ z0.toInt ≤ 2 ^ b0 ∧ z1.toInt ≤ 2 ^ b1 ∧ z2.toInt ≤ 2 ^ b2 ∧
    ((1 : Int32) + own_bits z0).toBitVec.toNat = 1 + b0 ∧ (((1 : Int32) + own_bits z0) + own_bits z1).toBitVec.toNat = 1 + b0 + b1 ∧ (¬ (64 : Int32) < ((((1 : Int32) + own_bits z0) + own_bits z1) + own_bits z2) → 1 + b0 + b1 + b2 ≤ 64) ∧ ¬ (64 : Int32) < ((1 : Int32) + own_bits z0) ∧ ¬ (64 : Int32) < (((1 : Int32) + own_bits z0) + own_bits z1) := by
  obtain ⟨b0, p0, q0, r0⟩ := own_bitsB z0 h0
  obtain ⟨b1, p1, q1, r1⟩ := own_bitsB z1 h1
  obtain ⟨b2, p2, q2, r2⟩ := own_bitsB z2 h2
  have l1 : (1 : Int32).toInt = 1 := rfl
  have l64 : (64 : Int32).toInt = 64 := rfl
  have a0 := c_iadd 1 (own_bits z0)
  have ra0 := rng32 ((1 : Int32) + own_bits z0)
  have a1 := c_iadd ((1 : Int32) + own_bits z0) (own_bits z1)
  have ra1 := rng32 (((1 : Int32) + own_bits z0) + own_bits z1)
  have a2 := c_iadd (((1 : Int32) + own_bits z0) + own_bits z1) (own_bits z2)
  have ra2 := rng32 ((((1 : Int32) + own_bits z0) + own_bits z1) + own_bits z2)
  have n0 := own_nat32 ((1 : Int32) + own_bits z0) (by omega)
  have n1 := own_nat32 (((1 : Int32) + own_bits z0) + own_bits z1) (by omega)
  refine ⟨b0, b1, b2, p0, p1, p2, own_mskM z0 b0 p0 q0, own_mskM z1 b1 p1 q1, own_mskM z2 b2 p2 q2, r0, r1, r2, by omega, by omega, fun h => ?_, ?_, ?_⟩
  · rw [Int32.lt_iff_toInt_lt] at h; omega
  · rw [Int32.lt_iff_toInt_lt]; omega
  · rw [Int32.lt_iff_toInt_lt]; omega
/-- a field: its shift, its mask, where it lies, how many bits -/
def own_G (s : Int32) (m : Int64) (n k : Nat) : Prop := s.toBitVec.toNat = n ∧ n + k ≤ 64 ∧ n < 64 ∧ own_isM m k
theorem own_fuG {w : Int64} {s : Int32} {m : Int64} {k n : Nat} {f v : Int32} (g : own_G s m n k) : own_fld (own_upd w s m f v) s m = ((v.toInt64 - f.toInt64) &&& m) := own_fu g.1 g.2.1 g.2.2.1 g.2.2.2
theorem own_foG {w : Int64} {s s' : Int32} {m m' : Int64} {k n k' n' : Nat} {f v : Int32} (g : own_G s m n k) (g' : own_G s' m' n' k') (hd : n' + k' ≤ n ∨ n + k ≤ n') : own_fld (own_upd w s m f v) s' m' = own_fld w s' m' := own_fo g.1 g.2.1 g.2.2.1 g.2.2.2 g'.1 g'.2.1 g'.2.2.1 g'.2.2.2 hd
theorem own_uuG {w : Int64} {s : Int32} {m : Int64} {k n : Nat} {f v v' : Int32} (g : own_G s m n k) (hv : ((v'.toInt64 - f.toInt64) &&& m) = own_fld w s m) : own_upd (own_upd w s m f v) s m f v' = w := own_uu g.1 g.2.1 g.2.2.1 g.2.2.2 hv
theorem own_lowG {w : Int64} {s : Int32} {m : Int64} {k n : Nat} {f v : Int32} (g : own_G s m n k) (h1 : 1 ≤ n) : (own_upd (w ||| (1 : Int64)) s m f v &&& (1 : Int64)) = (1 : Int64) := own_low g.1 g.2.1 g.2.2.1 g.2.2.2 h1
theorem own_geoG (z0 z1 z2 : Int32) (h0 : 1 ≤ z0.toInt) (h1 : 1 ≤ z1.toInt) (h2 : 1 ≤ z2.toInt) : ∃ b0 b1 b2 : Nat, (b0 ≤ 31 ∧ b1 ≤ 31 ∧ b2 ≤ 31) ∧ (z0.toInt ≤ 2 ^ b0 ∧ z1.toInt ≤ 2 ^ b1 ∧ z2.toInt ≤ 2 ^ b2) ∧
    own_G (1 : Int32) (own_msk z0) 1 b0 ∧ own_G ((1 : Int32) + own_bits z0) (own_msk z1) (1 + b0) b1 ∧ (¬ (64 : Int32) < ((((1 : Int32) + own_bits z0) + own_bits z1) + own_bits z2) → own_G (((1 : Int32) + own_bits z0) + own_bits z1) (own_msk z2) (1 + b0 + b1) b2) ∧ own_G (0 : Int32) (own_msk z2) 0 b2 ∧
    ¬ (64 : Int32) < ((1 : Int32) + own_bits z0) ∧ ¬ (64 : Int32) < (((1 : Int32) + own_bits z0) + own_bits z1) := by
  obtain ⟨b0, b1, b2, B0, B1, B2, M0, M1, M2, Y0, Y1, Y2, U1, U2, U3, U4, U5⟩ := own_geo z0 z1 z2 h0 h1 h2
  exact ⟨b0, b1, b2, ⟨B0, B1, B2⟩, ⟨Y0, Y1, Y2⟩, ⟨rfl, by omega, by omega, M0⟩, ⟨U1, by omega, by omega, M1⟩, fun h => ⟨U2, U3 h, by have := U3 h; omega, M2⟩, ⟨rfl, by omega, by omega, M2⟩, U4, U5⟩
theorem own_1a (b : Nat) : 1 ≤ 1 + b := by omega
theorem own_1b (b c : Nat) : 1 ≤ 1 + b + c := by omega

theorem d28_0 : decode prog_74_method_6_code 0 = .ok (.iconst 0, 1) := by decide +kernel
theorem d28_1 : decode prog_74_method_6_code 1 = .ok (.istore 4, 2) := by decide +kernel
theorem d28_3 : decode prog_74_method_6_code 3 = .ok (.iload 4, 2) := by decide +kernel
theorem d28_5 : decode prog_74_method_6_code 5 = .ok (.aload_n 3, 1) := by decide +kernel
theorem d28_6 : decode prog_74_method_6_code 6 = .ok (.arraylength, 1) := by decide +kernel
theorem d28_7 : decode prog_74_method_6_code 7 = .ok (.if_icmp .ge 53, 3) := by decide +kernel
theorem d28_10 : decode prog_74_method_6_code 10 = .ok (.aload_n 1, 1) := by decide +kernel
theorem d28_11 : decode prog_74_method_6_code 11 = .ok (.iload_n 2, 1) := by decide +kernel
theorem d28_12 : decode prog_74_method_6_code 12 = .ok (.aload_n 0, 1) := by decide +kernel
theorem d28_13 : decode prog_74_method_6_code 13 = .ok (.getfield 13, 3) := by decide +kernel
theorem d28_16 : decode prog_74_method_6_code 16 = .ok (.iload 4, 2) := by decide +kernel
theorem d28_18 : decode prog_74_method_6_code 18 = .ok (.iaload, 1) := by decide +kernel
theorem d28_19 : decode prog_74_method_6_code 19 = .ok (.iadd, 1) := by decide +kernel
theorem d28_20 : decode prog_74_method_6_code 20 = .ok (.laload, 1) := by decide +kernel
theorem d28_21 : decode prog_74_method_6_code 21 = .ok (.aload_n 0, 1) := by decide +kernel
theorem d28_22 : decode prog_74_method_6_code 22 = .ok (.getfield 19, 3) := by decide +kernel
theorem d28_25 : decode prog_74_method_6_code 25 = .ok (.iload 4, 2) := by decide +kernel
theorem d28_27 : decode prog_74_method_6_code 27 = .ok (.iaload, 1) := by decide +kernel
theorem d28_28 : decode prog_74_method_6_code 28 = .ok (.lushr, 1) := by decide +kernel
theorem d28_29 : decode prog_74_method_6_code 29 = .ok (.aload_n 0, 1) := by decide +kernel
theorem d28_30 : decode prog_74_method_6_code 30 = .ok (.getfield 22, 3) := by decide +kernel
theorem d28_33 : decode prog_74_method_6_code 33 = .ok (.iload 4, 2) := by decide +kernel
theorem d28_35 : decode prog_74_method_6_code 35 = .ok (.laload, 1) := by decide +kernel
theorem d28_36 : decode prog_74_method_6_code 36 = .ok (.land, 1) := by decide +kernel
theorem d28_37 : decode prog_74_method_6_code 37 = .ok (.lstore 5, 2) := by decide +kernel
theorem d28_39 : decode prog_74_method_6_code 39 = .ok (.aload_n 3, 1) := by decide +kernel
theorem d28_40 : decode prog_74_method_6_code 40 = .ok (.iload 4, 2) := by decide +kernel
theorem d28_42 : decode prog_74_method_6_code 42 = .ok (.aload_n 0, 1) := by decide +kernel
theorem d28_43 : decode prog_74_method_6_code 43 = .ok (.getfield 26, 3) := by decide +kernel
theorem d28_46 : decode prog_74_method_6_code 46 = .ok (.iload 4, 2) := by decide +kernel
theorem d28_48 : decode prog_74_method_6_code 48 = .ok (.iaload, 1) := by decide +kernel
theorem d28_49 : decode prog_74_method_6_code 49 = .ok (.lload 5, 2) := by decide +kernel
theorem d28_51 : decode prog_74_method_6_code 51 = .ok (.l2i, 1) := by decide +kernel
theorem d28_52 : decode prog_74_method_6_code 52 = .ok (.iadd, 1) := by decide +kernel
theorem d28_53 : decode prog_74_method_6_code 53 = .ok (.iastore, 1) := by decide +kernel
theorem d28_54 : decode prog_74_method_6_code 54 = .ok (.iinc 4 1, 3) := by decide +kernel
theorem d28_57 : decode prog_74_method_6_code 57 = .ok (.goto (-54), 3) := by decide +kernel
theorem d28_60 : decode prog_74_method_6_code 60 = .ok (.return_, 1) := by decide +kernel
theorem ef_rm_unpA (m : MethodId) (x0 : Addr) (x1 : Addr) (x2 : Int32) (x3 : Addr) : entryFrame m #[(.ref x0), (.ref x1), (.int x2), (.ref x3)] 7 = mkF m 0 #[Sr x0, Sr x1, Si x2, Sr x3, Su, Su, Su] [] := by first | (simp [entryFrame, mkF, argsToLocals, Value.category]; done) | rfl
def Q_rm_unpA (Z : State) (a1 : Addr) (a2 : Addr) (p3 : Int32) (a4 : Addr) (r1 : Addr) (r2 : Addr) (r3 : Addr) (r4 : Addr) (c1 : ClassId) (c2 : ClassId) (c3 : ClassId) (c4 : ClassId) (s0 : Int32) (s1 : Int32) (s2 : Int32) (m0 : Int64) (m1 : Int64) (m2 : Int64) (f0 : Int32) (f1 : Int32) (f2 : Int32) (k2 : ClassId) (k4 : ClassId) (vs : List Value) (gA : Int64) (gB : Int64) (y0 : Int32) (y1 : Int32) (y2 : Int32) (h0 : Heap) (n0 : Nat) (v : Option Value) (h : Heap) (L : List Loc) : Prop := v = none ∧ Fr n0 L ∧ Keep h0 h [a4] ∧ Arv Z h a4 k4 .int (3 : Int32) [(.int (f0 + ((own_fld gA s0 m0).toInt32))), (.int (f1 + ((own_fld gA s1 m1).toInt32))), (.int (f2 + ((own_fld gA s2 m2).toInt32)))] (.int (0 : Int32))
set_option maxRecDepth 65536 in
set_option maxHeartbeats 40000000 in
theorem rm_unpA (l : Launch) (Z : State) (a0 : Array Value) (hw : ∀ d ∈ tables_1, d.before a0 Z = true) (ws : List Jvm.Cond) (a1 : Addr) (a2 : Addr) (p3 : Int32) (a4 : Addr) (r1 : Addr) (r2 : Addr) (r3 : Addr) (r4 : Addr) (c1 : ClassId) (c2 : ClassId) (c3 : ClassId) (c4 : ClassId) (s0 : Int32) (s1 : Int32) (s2 : Int32) (m0 : Int64) (m1 : Int64) (m2 : Int64) (f0 : Int32) (f1 : Int32) (f2 : Int32) (k2 : ClassId) (k4 : ClassId) (vs : List Value) (gA : Int64) (gB : Int64) (y0 : Int32) (y1 : Int32) (y2 : Int32) (h0 : Heap) (n0 : Nat) (Z0 : n0 ≤ h0.size) (F_r1 : Fld Z h0 a1 "com/example/darlington/darlington/core/StateLayout" "wordOf" "[I" (.ref r1)) (V_r1 : Arv Z h0 r1 c1 .int (3 : Int32) [(.int (0 : Int32)), (.int (0 : Int32)), (.int (0 : Int32))] (.int (0 : Int32))) (F_r2 : Fld Z h0 a1 "com/example/darlington/darlington/core/StateLayout" "shiftOf" "[I" (.ref r2)) (V_r2 : Arv Z h0 r2 c2 .int (3 : Int32) [(.int s0), (.int s1), (.int s2)] (.int (0 : Int32))) (F_r3 : Fld Z h0 a1 "com/example/darlington/darlington/core/StateLayout" "maskOf" "[J" (.ref r3)) (V_r3 : Arv Z h0 r3 c3 .long (3 : Int32) [(.long m0), (.long m1), (.long m2)] (.long (0 : Int64))) (F_r4 : Fld Z h0 a1 "com/example/darlington/darlington/core/StateLayout" "firstOf" "[I" (.ref r4)) (V_r4 : Arv Z h0 r4 c4 .int (3 : Int32) [(.int f0), (.int f1), (.int f2)] (.int (0 : Int32))) (V2 : Arv Z h0 a2 k2 .long (6 : Int32) vs (.long (0 : Int64))) (V4 : Arv Z h0 a4 k4 .int (3 : Int32) [(.int y0), (.int y1), (.int y2)] (.int (0 : Int32))) (g4 : n0 ≤ a4) (n14 : a1 ≠ a4) (n24 : a2 ≠ a4) (nr1 : r1 ≠ a4) (nr2 : r2 ≠ a4) (nr3 : r3 ≠ a4) (nr4 : r4 ≠ a4) (hp : 0 ≤ p3.toInt ∧ p3.toInt ≤ 3) (hgA : vs.getD (p3).toNatClampNeg (.long (0 : Int64)) = (.long gA)) (hgB : vs.getD ((p3 + (1 : Int32))).toNatClampNeg (.long (0 : Int64)) = (.long gB)) :
    MetFree l (⟨"com/example/darlington/darlington/core/StateLayout", "unpack", "([JI[I)V"⟩ : MethodName) (head1 (Jvm.Cond.code (⟨"com/example/darlington/darlington/core/StateLayout", "unpack", "([JI[I)V"⟩ : MethodName) prog_74_method_6_code 7 none :: ws) ({ frames := 0, cells := 0, slots := 0, locals := 0 } : Room)) (fun a U => a = #[(.ref a1), (.ref a2), (.int p3), (.ref a4)] ∧ Z.Warmed39 U.vm ∧ U.heap = h0) (fun _ _ _ _ _ => True) (fun _ U o U' => ∃ v L, o = .returned v ∧ Q_rm_unpA Z a1 a2 p3 a4 r1 r2 r3 r4 c1 c2 c3 c4 s0 s1 s2 m0 m1 m2 f0 f1 f2 k2 k4 vs gA gB y0 y1 y2 h0 n0 v U'.heap L ∧ FrameEnd U o U' L ({ frames := 0, cells := 0, slots := 0, locals := 0 } : Room).cells ({ frames := 0, cells := 0, slots := 0, locals := 0 } : Room).slots) := by
  refine MetFree.of_bodySF (plainFor_of_name pn_8) hisR ?_
  intro p e s m args below meth c s₁ Bd hml0 hP hK
  obtain ⟨rfl, hZ, hh⟩ := hP
  have hx := Bd.exec
  have hby := Bd.bytes
  have hml : c.maxLocals = 7 := hml0
  have hown : s.vm.findClass "com/example/darlington/darlington/core/StateLayout" = some m.cls := findClass_of_methodNamed Bd.named
  have hnm := (name_of_methodNamed Bd.named Bd.method).1
  have X0 : Stand p l e ({ frames := 0, cells := 0, slots := 0, locals := 0 } : Room) s m #[(.ref a1), (.ref a2), (.int p3), (.ref a4)] below meth c s₁ [] 0 0 := Stand.of_body Bd
  have e0 : s₁.heap = h0 := by rw [← hh, Bd.state]; rfl
  have N0 := Fr.nil n0
  have pre0 : ∀ t, Steps p.tables e below (s₁.setTop (mkF m 0 #[Sr a1, Sr a2, Si p3, Sr a4, Su, Su, Su] [])) t → Steps p.tables e below (s₁.setTop (entryFrame m #[(.ref a1), (.ref a2), (.int p3), (.ref a4)] 7)) t := fun t k => castTop (ef_rm_unpA m a1 a2 p3 a4) k
  obtain ⟨c51, Arc51, Aqc51, Asc51, Anc51, Ahc51, Agc51⟩ := id V4
  obtain ⟨T52, X52, e52, st52⟩ := getF X0 hx hZ hown (host := "") (Or.inl (ow hw 110 rfl)) Via.refl e0 F_r1 (g := (mkF m 13 #[Sr a1, Sr a2, Si p3, Sr a4, Si (0 : Int32), Su, Su] [(.ref a1), (.int p3), (.ref a2)])) rfl rfl (hb hby d28_13)
  obtain ⟨c53, Arc53, Aqc53, Asc53, Anc53, Ahc53, Agc53⟩ := id V_r1
  have hin54 : ¬ ((0 : Int32) < 0 ∨ c53.slots.size ≤ ((0 : Int32)).toNatClampNeg) := inb_of Asc53 ⟨by decide, by decide⟩
  have hat55 : c53.slots[((0 : Int32)).toNatClampNeg]? = some (.int (0 : Int32)) := Has.at Ahc53 hin54 rfl
  have pre56 : ∀ t, Steps p.tables e below (T52.setTop (mkF m 20 #[Sr a1, Sr a2, Si p3, Sr a4, Si (0 : Int32), Su, Su] [(.int (p3 + (0 : Int32))), (.ref a2)])) t → Steps p.tables e below (s₁.setTop (entryFrame m #[(.ref a1), (.ref a2), (.int p3), (.ref a4)] 7)) t := by
    intro t k
    refine pre0 t ?_
    refine XS.iconst X0.here hx rfl (hb hby d28_0) ?_
    refine XS.istore X0.here hx rfl (hb hby d28_1) rfl (l' := #[Sr a1, Sr a2, Si p3, Sr a4, Si (0 : Int32), Su, Su]) rfl ?_
    refine XS.iload X0.here hx rfl (hb hby d28_3) rfl ?_
    refine XS.aloadN X0.here hx rfl (hb hby d28_5) rfl rfl ?_
    refine X0.arraylength hx (by rw [e0]; exact Arc51.1) (State.isArrayOf_alike hZ.alike Arc51.2.1) (g := (mkF m 6 #[Sr a1, Sr a2, Si p3, Sr a4, Si (0 : Int32), Su, Su] [(.ref a4), (.int (0 : Int32))])) rfl rfl (hb hby d28_6) _ ?_
    rw [len_of Asc51 Anc51]
    refine XS.icmpNo X0.here hx rfl (hb hby d28_7) rfl (tlt (by decide)).2.1 ?_
    refine XS.aloadN X0.here hx rfl (hb hby d28_10) rfl rfl ?_
    refine XS.iloadN X0.here hx rfl (hb hby d28_11) rfl ?_
    show Steps _ _ _ (s₁.setTop (mkF m 12 #[Sr a1, Sr a2, Si p3, Sr a4, Si (0 : Int32), Su, Su] [(.int p3), (.ref a2)])) _
    refine XS.aloadN X0.here hx rfl (hb hby d28_12) rfl rfl ?_
    refine st52 _ ?_
    refine XS.iload X52.here hx rfl (hb hby d28_16) rfl ?_
    refine X52.iaload hx (j := (0 : Int32)) (v := (.int (0 : Int32))) (by rw [e52]; exact Arc53.1) (State.isArrayOf_alike hZ.alike Arc53.2.1) Arc53.2.2 hin54 hat55 (g := (mkF m 18 #[Sr a1, Sr a2, Si p3, Sr a4, Si (0 : Int32), Su, Su] [(.int (0 : Int32)), (.ref r1), (.int p3), (.ref a2)])) rfl rfl (hb hby d28_18) _ ?_
    refine XS.iadd X52.here hx rfl (hb hby d28_19) rfl ?_
    exact k
  rw [Int32.add_zero] at pre56
  obtain ⟨c57, Arc57, Aqc57, Asc57, Anc57, Ahc57, Agc57⟩ := id V2
  have hin58 : ¬ (p3 < 0 ∨ c57.slots.size ≤ (p3).toNatClampNeg) := inb_of Asc57 (own_inA hp)
  have hat59 : c57.slots[(p3).toNatClampNeg]? = some (.long gA) := Has.at Ahc57 hin58 hgA
  obtain ⟨T60, X60, e60, st60⟩ := getF X52 hx hZ hown (host := "") (Or.inl (ow hw 112 rfl)) Via.refl e52 F_r2 (g := (mkF m 22 #[Sr a1, Sr a2, Si p3, Sr a4, Si (0 : Int32), Su, Su] [(.ref a1), (.long gA)])) rfl rfl (hb hby d28_22)
  obtain ⟨c61, Arc61, Aqc61, Asc61, Anc61, Ahc61, Agc61⟩ := id V_r2
  have hin62 : ¬ ((0 : Int32) < 0 ∨ c61.slots.size ≤ ((0 : Int32)).toNatClampNeg) := inb_of Asc61 ⟨by decide, by decide⟩
  have hat63 : c61.slots[((0 : Int32)).toNatClampNeg]? = some (.int s0) := Has.at Ahc61 hin62 rfl
  obtain ⟨T64, X64, e64, st64⟩ := getF X60 hx hZ hown (host := "") (Or.inl (ow hw 115 rfl)) Via.refl e60 F_r3 (g := (mkF m 30 #[Sr a1, Sr a2, Si p3, Sr a4, Si (0 : Int32), Su, Su] [(.ref a1), (.long ((gA.toUInt64 >>> (s0 &&& 0x3f).toInt64.toUInt64).toInt64))])) rfl rfl (hb hby d28_30)
  obtain ⟨c65, Arc65, Aqc65, Asc65, Anc65, Ahc65, Agc65⟩ := id V_r3
  have hin66 : ¬ ((0 : Int32) < 0 ∨ c65.slots.size ≤ ((0 : Int32)).toNatClampNeg) := inb_of Asc65 ⟨by decide, by decide⟩
  have hat67 : c65.slots[((0 : Int32)).toNatClampNeg]? = some (.long m0) := Has.at Ahc65 hin66 rfl
  obtain ⟨T68, X68, e68, st68⟩ := getF X64 hx hZ hown (host := "") (Or.inl (ow hw 117 rfl)) Via.refl e64 F_r4 (g := (mkF m 43 #[Sr a1, Sr a2, Si p3, Sr a4, Si (0 : Int32), Sl (((gA.toUInt64 >>> (s0 &&& 0x3f).toInt64.toUInt64).toInt64) &&& m0), S2] [(.ref a1), (.int (0 : Int32)), (.ref a4)])) rfl rfl (hb hby d28_43)
  obtain ⟨c69, Arc69, Aqc69, Asc69, Anc69, Ahc69, Agc69⟩ := id V_r4
  have hin70 : ¬ ((0 : Int32) < 0 ∨ c69.slots.size ≤ ((0 : Int32)).toNatClampNeg) := inb_of Asc69 ⟨by decide, by decide⟩
  have hat71 : c69.slots[((0 : Int32)).toNatClampNeg]? = some (.int f0) := Has.at Ahc69 hin70 rfl
  obtain ⟨c72, Arc72, Aqc72, Asc72, Anc72, Ahc72, Agc72⟩ := id V4
  have hin73 : ¬ ((0 : Int32) < 0 ∨ c72.slots.size ≤ ((0 : Int32)).toNatClampNeg) := inb_of Asc72 ⟨by decide, by decide⟩
  obtain ⟨T74, h74, X74, e74, W74, st74⟩ := stI X68 hx hZ e68 Arc72 (j := (0 : Int32)) hin73 (g := (mkF m 53 #[Sr a1, Sr a2, Si p3, Sr a4, Si (0 : Int32), Sl (((gA.toUInt64 >>> (s0 &&& 0x3f).toInt64.toUInt64).toInt64) &&& m0), S2] [(.int (f0 + ((((gA.toUInt64 >>> (s0 &&& 0x3f).toInt64.toUInt64).toInt64) &&& m0).toInt32))), (.int (0 : Int32)), (.ref a4)])) rfl rfl (hb hby d28_53)
  have KC75 : Keep h0 h74 [a4] := (Keep.refl h0 [a4]).wr W74 (Or.inl (List.mem_of_getElem? (i := 0) rfl))
  have V74 : Arv Z h74 a4 k4 .int (3 : Int32) [(.int (f0 + ((((gA.toUInt64 >>> (s0 &&& 0x3f).toInt64.toUInt64).toInt64) &&& m0).toInt32))), (.int y1), (.int y2)] (.int (0 : Int32)) := Arv.set Arc72 Aqc72 Asc72 Anc72 Ahc72 Agc72 rfl W74 0 rfl (Nat.le_of_ble_eq_true rfl)
  have N76 := Fr.snoc X74 N0 g4
  obtain ⟨c77, Arc77, Aqc77, Asc77, Anc77, Ahc77, Agc77⟩ := id V74
  have F78 : Fld Z h74 a1 "com/example/darlington/darlington/core/StateLayout" "wordOf" "[I" (.ref r1) := (F_r1.other W74 (Or.inl n14))
  obtain ⟨T79, X79, e79, st79⟩ := getF X74 hx hZ hown (host := "") (Or.inl (ow hw 110 rfl)) Via.refl e74 F78 (g := (mkF m 13 #[Sr a1, Sr a2, Si p3, Sr a4, Si (1 : Int32), Sl (((gA.toUInt64 >>> (s0 &&& 0x3f).toInt64.toUInt64).toInt64) &&& m0), S2] [(.ref a1), (.int p3), (.ref a2)])) rfl rfl (hb hby d28_13)
  have F80 : Arv Z h74 r1 c1 .int (3 : Int32) [(.int (0 : Int32)), (.int (0 : Int32)), (.int (0 : Int32))] (.int (0 : Int32)) := (V_r1.other W74 nr1)
  obtain ⟨c81, Arc81, Aqc81, Asc81, Anc81, Ahc81, Agc81⟩ := id F80
  have hin82 : ¬ ((1 : Int32) < 0 ∨ c81.slots.size ≤ ((1 : Int32)).toNatClampNeg) := inb_of Asc81 ⟨by decide, by decide⟩
  have hat83 : c81.slots[((1 : Int32)).toNatClampNeg]? = some (.int (0 : Int32)) := Has.at Ahc81 hin82 rfl
  have pre84 : ∀ t, Steps p.tables e below (T79.setTop (mkF m 20 #[Sr a1, Sr a2, Si p3, Sr a4, Si (1 : Int32), Sl (((gA.toUInt64 >>> (s0 &&& 0x3f).toInt64.toUInt64).toInt64) &&& m0), S2] [(.int (p3 + (0 : Int32))), (.ref a2)])) t → Steps p.tables e below (s₁.setTop (entryFrame m #[(.ref a1), (.ref a2), (.int p3), (.ref a4)] 7)) t := by
    intro t k
    refine pre56 t ?_
    refine X52.laload hx (j := p3) (v := (.long gA)) (by rw [e52]; exact Arc57.1) (State.isArrayOf_alike hZ.alike Arc57.2.1) Arc57.2.2 hin58 hat59 (g := (mkF m 20 #[Sr a1, Sr a2, Si p3, Sr a4, Si (0 : Int32), Su, Su] [(.int p3), (.ref a2)])) rfl rfl (hb hby d28_20) _ ?_
    refine XS.aloadN X52.here hx rfl (hb hby d28_21) rfl rfl ?_
    refine st60 _ ?_
    show Steps _ _ _ (T60.setTop (mkF m 25 #[Sr a1, Sr a2, Si p3, Sr a4, Si (0 : Int32), Su, Su] [(.ref r2), (.long gA)])) _
    refine XS.iload X60.here hx rfl (hb hby d28_25) rfl ?_
    refine X60.iaload hx (j := (0 : Int32)) (v := (.int s0)) (by rw [e60]; exact Arc61.1) (State.isArrayOf_alike hZ.alike Arc61.2.1) Arc61.2.2 hin62 hat63 (g := (mkF m 27 #[Sr a1, Sr a2, Si p3, Sr a4, Si (0 : Int32), Su, Su] [(.int (0 : Int32)), (.ref r2), (.long gA)])) rfl rfl (hb hby d28_27) _ ?_
    refine XS.lushr X60.here hx rfl (hb hby d28_28) rfl ?_
    refine XS.aloadN X60.here hx rfl (hb hby d28_29) rfl rfl ?_
    refine st64 _ ?_
    refine XS.iload X64.here hx rfl (hb hby d28_33) rfl ?_
    refine X64.laload hx (j := (0 : Int32)) (v := (.long m0)) (by rw [e64]; exact Arc65.1) (State.isArrayOf_alike hZ.alike Arc65.2.1) Arc65.2.2 hin66 hat67 (g := (mkF m 35 #[Sr a1, Sr a2, Si p3, Sr a4, Si (0 : Int32), Su, Su] [(.int (0 : Int32)), (.ref r3), (.long ((gA.toUInt64 >>> (s0 &&& 0x3f).toInt64.toUInt64).toInt64))])) rfl rfl (hb hby d28_35) _ ?_
    refine XS.land X64.here hx rfl (hb hby d28_36) rfl ?_
    show Steps _ _ _ (T64.setTop (mkF m 37 #[Sr a1, Sr a2, Si p3, Sr a4, Si (0 : Int32), Su, Su] [(.long (((gA.toUInt64 >>> (s0 &&& 0x3f).toInt64.toUInt64).toInt64) &&& m0))])) _
    refine XS.lstore X64.here hx rfl (hb hby d28_37) rfl (l' := #[Sr a1, Sr a2, Si p3, Sr a4, Si (0 : Int32), Sl (((gA.toUInt64 >>> (s0 &&& 0x3f).toInt64.toUInt64).toInt64) &&& m0), S2]) rfl ?_
    refine XS.aloadN X64.here hx rfl (hb hby d28_39) rfl rfl ?_
    refine XS.iload X64.here hx rfl (hb hby d28_40) rfl ?_
    refine XS.aloadN X64.here hx rfl (hb hby d28_42) rfl rfl ?_
    refine st68 _ ?_
    refine XS.iload X68.here hx rfl (hb hby d28_46) rfl ?_
    refine X68.iaload hx (j := (0 : Int32)) (v := (.int f0)) (by rw [e68]; exact Arc69.1) (State.isArrayOf_alike hZ.alike Arc69.2.1) Arc69.2.2 hin70 hat71 (g := (mkF m 48 #[Sr a1, Sr a2, Si p3, Sr a4, Si (0 : Int32), Sl (((gA.toUInt64 >>> (s0 &&& 0x3f).toInt64.toUInt64).toInt64) &&& m0), S2] [(.int (0 : Int32)), (.ref r4), (.int (0 : Int32)), (.ref a4)])) rfl rfl (hb hby d28_48) _ ?_
    refine XS.lload X68.here hx rfl (hb hby d28_49) rfl ?_
    show Steps _ _ _ (T68.setTop (mkF m 51 #[Sr a1, Sr a2, Si p3, Sr a4, Si (0 : Int32), Sl (((gA.toUInt64 >>> (s0 &&& 0x3f).toInt64.toUInt64).toInt64) &&& m0), S2] [(.long (((gA.toUInt64 >>> (s0 &&& 0x3f).toInt64.toUInt64).toInt64) &&& m0)), (.int f0), (.int (0 : Int32)), (.ref a4)])) _
    refine XS.l2i X68.here hx rfl (hb hby d28_51) rfl ?_
    refine XS.iadd X68.here hx rfl (hb hby d28_52) rfl ?_
    refine st74 _ ?_
    refine XS.iinc X74.here hx rfl (hb hby d28_54) rfl (l' := #[Sr a1, Sr a2, Si p3, Sr a4, Si (1 : Int32), Sl (((gA.toUInt64 >>> (s0 &&& 0x3f).toInt64.toUInt64).toInt64) &&& m0), S2]) rfl ?_
    refine XS.goto X74.here hx rfl (pc0 := 57) (pc' := 3) rfl (hb hby d28_57) (by decide) (by decide) ?_
    refine XS.iload X74.here hx rfl (hb hby d28_3) rfl ?_
    refine XS.aloadN X74.here hx rfl (hb hby d28_5) rfl rfl ?_
    refine X74.arraylength hx (by rw [e74]; exact Arc77.1) (State.isArrayOf_alike hZ.alike Arc77.2.1) (g := (mkF m 6 #[Sr a1, Sr a2, Si p3, Sr a4, Si (1 : Int32), Sl (((gA.toUInt64 >>> (s0 &&& 0x3f).toInt64.toUInt64).toInt64) &&& m0), S2] [(.ref a4), (.int (1 : Int32))])) rfl rfl (hb hby d28_6) _ ?_
    rw [len_of Asc77 Anc77]
    show Steps _ _ _ (T74.setTop (mkF m 7 #[Sr a1, Sr a2, Si p3, Sr a4, Si (1 : Int32), Sl (((gA.toUInt64 >>> (s0 &&& 0x3f).toInt64.toUInt64).toInt64) &&& m0), S2] [(.int (3 : Int32)), (.int (1 : Int32))])) _
    refine XS.icmpNo X74.here hx rfl (hb hby d28_7) rfl (tlt (by decide)).2.1 ?_
    refine XS.aloadN X74.here hx rfl (hb hby d28_10) rfl rfl ?_
    refine XS.iloadN X74.here hx rfl (hb hby d28_11) rfl ?_
    refine XS.aloadN X74.here hx rfl (hb hby d28_12) rfl rfl ?_
    refine st79 _ ?_
    refine XS.iload X79.here hx rfl (hb hby d28_16) rfl ?_
    refine X79.iaload hx (j := (1 : Int32)) (v := (.int (0 : Int32))) (by rw [e79]; exact Arc81.1) (State.isArrayOf_alike hZ.alike Arc81.2.1) Arc81.2.2 hin82 hat83 (g := (mkF m 18 #[Sr a1, Sr a2, Si p3, Sr a4, Si (1 : Int32), Sl (((gA.toUInt64 >>> (s0 &&& 0x3f).toInt64.toUInt64).toInt64) &&& m0), S2] [(.int (1 : Int32)), (.ref r1), (.int p3), (.ref a2)])) rfl rfl (hb hby d28_18) _ ?_
    refine XS.iadd X79.here hx rfl (hb hby d28_19) rfl ?_
    show Steps _ _ _ (T79.setTop (mkF m 20 #[Sr a1, Sr a2, Si p3, Sr a4, Si (1 : Int32), Sl (((gA.toUInt64 >>> (s0 &&& 0x3f).toInt64.toUInt64).toInt64) &&& m0), S2] [(.int (p3 + (0 : Int32))), (.ref a2)])) _
    exact k
  rw [Int32.add_zero] at pre84
  have F85 : Arv Z h74 a2 k2 .long (6 : Int32) vs (.long (0 : Int64)) := (V2.other W74 n24)
  obtain ⟨c86, Arc86, Aqc86, Asc86, Anc86, Ahc86, Agc86⟩ := id F85
  have hin87 : ¬ (p3 < 0 ∨ c86.slots.size ≤ (p3).toNatClampNeg) := inb_of Asc86 (own_inA hp)
  have hat88 : c86.slots[(p3).toNatClampNeg]? = some (.long gA) := Has.at Ahc86 hin87 hgA
  have F89 : Fld Z h74 a1 "com/example/darlington/darlington/core/StateLayout" "shiftOf" "[I" (.ref r2) := (F_r2.other W74 (Or.inl n14))
  obtain ⟨T90, X90, e90, st90⟩ := getF X79 hx hZ hown (host := "") (Or.inl (ow hw 112 rfl)) Via.refl e79 F89 (g := (mkF m 22 #[Sr a1, Sr a2, Si p3, Sr a4, Si (1 : Int32), Sl (((gA.toUInt64 >>> (s0 &&& 0x3f).toInt64.toUInt64).toInt64) &&& m0), S2] [(.ref a1), (.long gA)])) rfl rfl (hb hby d28_22)
  have F91 : Arv Z h74 r2 c2 .int (3 : Int32) [(.int s0), (.int s1), (.int s2)] (.int (0 : Int32)) := (V_r2.other W74 nr2)
  obtain ⟨c92, Arc92, Aqc92, Asc92, Anc92, Ahc92, Agc92⟩ := id F91
  have hin93 : ¬ ((1 : Int32) < 0 ∨ c92.slots.size ≤ ((1 : Int32)).toNatClampNeg) := inb_of Asc92 ⟨by decide, by decide⟩
  have hat94 : c92.slots[((1 : Int32)).toNatClampNeg]? = some (.int s1) := Has.at Ahc92 hin93 rfl
  have F95 : Fld Z h74 a1 "com/example/darlington/darlington/core/StateLayout" "maskOf" "[J" (.ref r3) := (F_r3.other W74 (Or.inl n14))
  obtain ⟨T96, X96, e96, st96⟩ := getF X90 hx hZ hown (host := "") (Or.inl (ow hw 115 rfl)) Via.refl e90 F95 (g := (mkF m 30 #[Sr a1, Sr a2, Si p3, Sr a4, Si (1 : Int32), Sl (((gA.toUInt64 >>> (s0 &&& 0x3f).toInt64.toUInt64).toInt64) &&& m0), S2] [(.ref a1), (.long ((gA.toUInt64 >>> (s1 &&& 0x3f).toInt64.toUInt64).toInt64))])) rfl rfl (hb hby d28_30)
  have F97 : Arv Z h74 r3 c3 .long (3 : Int32) [(.long m0), (.long m1), (.long m2)] (.long (0 : Int64)) := (V_r3.other W74 nr3)
  obtain ⟨c98, Arc98, Aqc98, Asc98, Anc98, Ahc98, Agc98⟩ := id F97
  have hin99 : ¬ ((1 : Int32) < 0 ∨ c98.slots.size ≤ ((1 : Int32)).toNatClampNeg) := inb_of Asc98 ⟨by decide, by decide⟩
  have hat100 : c98.slots[((1 : Int32)).toNatClampNeg]? = some (.long m1) := Has.at Ahc98 hin99 rfl
  have F101 : Fld Z h74 a1 "com/example/darlington/darlington/core/StateLayout" "firstOf" "[I" (.ref r4) := (F_r4.other W74 (Or.inl n14))
  obtain ⟨T102, X102, e102, st102⟩ := getF X96 hx hZ hown (host := "") (Or.inl (ow hw 117 rfl)) Via.refl e96 F101 (g := (mkF m 43 #[Sr a1, Sr a2, Si p3, Sr a4, Si (1 : Int32), Sl (((gA.toUInt64 >>> (s1 &&& 0x3f).toInt64.toUInt64).toInt64) &&& m1), S2] [(.ref a1), (.int (1 : Int32)), (.ref a4)])) rfl rfl (hb hby d28_43)
  have F103 : Arv Z h74 r4 c4 .int (3 : Int32) [(.int f0), (.int f1), (.int f2)] (.int (0 : Int32)) := (V_r4.other W74 nr4)
  obtain ⟨c104, Arc104, Aqc104, Asc104, Anc104, Ahc104, Agc104⟩ := id F103
  have hin105 : ¬ ((1 : Int32) < 0 ∨ c104.slots.size ≤ ((1 : Int32)).toNatClampNeg) := inb_of Asc104 ⟨by decide, by decide⟩
  have hat106 : c104.slots[((1 : Int32)).toNatClampNeg]? = some (.int f1) := Has.at Ahc104 hin105 rfl
  obtain ⟨c107, Arc107, Aqc107, Asc107, Anc107, Ahc107, Agc107⟩ := id V74
  have hin108 : ¬ ((1 : Int32) < 0 ∨ c107.slots.size ≤ ((1 : Int32)).toNatClampNeg) := inb_of Asc107 ⟨by decide, by decide⟩
  obtain ⟨T109, h109, X109, e109, W109, st109⟩ := stI X102 hx hZ e102 Arc107 (j := (1 : Int32)) hin108 (g := (mkF m 53 #[Sr a1, Sr a2, Si p3, Sr a4, Si (1 : Int32), Sl (((gA.toUInt64 >>> (s1 &&& 0x3f).toInt64.toUInt64).toInt64) &&& m1), S2] [(.int (f1 + ((((gA.toUInt64 >>> (s1 &&& 0x3f).toInt64.toUInt64).toInt64) &&& m1).toInt32))), (.int (1 : Int32)), (.ref a4)])) rfl rfl (hb hby d28_53)
  have KC110 : Keep h0 h109 [a4] := KC75.wr W109 (Or.inl (List.mem_of_getElem? (i := 0) rfl))
  have V109 : Arv Z h109 a4 k4 .int (3 : Int32) [(.int (f0 + ((((gA.toUInt64 >>> (s0 &&& 0x3f).toInt64.toUInt64).toInt64) &&& m0).toInt32))), (.int (f1 + ((((gA.toUInt64 >>> (s1 &&& 0x3f).toInt64.toUInt64).toInt64) &&& m1).toInt32))), (.int y2)] (.int (0 : Int32)) := Arv.set Arc107 Aqc107 Asc107 Anc107 Ahc107 Agc107 rfl W109 1 rfl (Nat.le_of_ble_eq_true rfl)
  have N111 := Fr.snoc X109 N76 g4
  obtain ⟨c112, Arc112, Aqc112, Asc112, Anc112, Ahc112, Agc112⟩ := id V109
  have F113 : Fld Z h109 a1 "com/example/darlington/darlington/core/StateLayout" "wordOf" "[I" (.ref r1) := (F78.other W109 (Or.inl n14))
  obtain ⟨T114, X114, e114, st114⟩ := getF X109 hx hZ hown (host := "") (Or.inl (ow hw 110 rfl)) Via.refl e109 F113 (g := (mkF m 13 #[Sr a1, Sr a2, Si p3, Sr a4, Si (2 : Int32), Sl (((gA.toUInt64 >>> (s1 &&& 0x3f).toInt64.toUInt64).toInt64) &&& m1), S2] [(.ref a1), (.int p3), (.ref a2)])) rfl rfl (hb hby d28_13)
  have F115 : Arv Z h109 r1 c1 .int (3 : Int32) [(.int (0 : Int32)), (.int (0 : Int32)), (.int (0 : Int32))] (.int (0 : Int32)) := (F80.other W109 nr1)
  obtain ⟨c116, Arc116, Aqc116, Asc116, Anc116, Ahc116, Agc116⟩ := id F115
  have hin117 : ¬ ((2 : Int32) < 0 ∨ c116.slots.size ≤ ((2 : Int32)).toNatClampNeg) := inb_of Asc116 ⟨by decide, by decide⟩
  have hat118 : c116.slots[((2 : Int32)).toNatClampNeg]? = some (.int (0 : Int32)) := Has.at Ahc116 hin117 rfl
  have pre119 : ∀ t, Steps p.tables e below (T114.setTop (mkF m 20 #[Sr a1, Sr a2, Si p3, Sr a4, Si (2 : Int32), Sl (((gA.toUInt64 >>> (s1 &&& 0x3f).toInt64.toUInt64).toInt64) &&& m1), S2] [(.int (p3 + (0 : Int32))), (.ref a2)])) t → Steps p.tables e below (s₁.setTop (entryFrame m #[(.ref a1), (.ref a2), (.int p3), (.ref a4)] 7)) t := by
    intro t k
    refine pre84 t ?_
    refine X79.laload hx (j := p3) (v := (.long gA)) (by rw [e79]; exact Arc86.1) (State.isArrayOf_alike hZ.alike Arc86.2.1) Arc86.2.2 hin87 hat88 (g := (mkF m 20 #[Sr a1, Sr a2, Si p3, Sr a4, Si (1 : Int32), Sl (((gA.toUInt64 >>> (s0 &&& 0x3f).toInt64.toUInt64).toInt64) &&& m0), S2] [(.int p3), (.ref a2)])) rfl rfl (hb hby d28_20) _ ?_
    refine XS.aloadN X79.here hx rfl (hb hby d28_21) rfl rfl ?_
    refine st90 _ ?_
    refine XS.iload X90.here hx rfl (hb hby d28_25) rfl ?_
    refine X90.iaload hx (j := (1 : Int32)) (v := (.int s1)) (by rw [e90]; exact Arc92.1) (State.isArrayOf_alike hZ.alike Arc92.2.1) Arc92.2.2 hin93 hat94 (g := (mkF m 27 #[Sr a1, Sr a2, Si p3, Sr a4, Si (1 : Int32), Sl (((gA.toUInt64 >>> (s0 &&& 0x3f).toInt64.toUInt64).toInt64) &&& m0), S2] [(.int (1 : Int32)), (.ref r2), (.long gA)])) rfl rfl (hb hby d28_27) _ ?_
    refine XS.lushr X90.here hx rfl (hb hby d28_28) rfl ?_
    refine XS.aloadN X90.here hx rfl (hb hby d28_29) rfl rfl ?_
    refine st96 _ ?_
    show Steps _ _ _ (T96.setTop (mkF m 33 #[Sr a1, Sr a2, Si p3, Sr a4, Si (1 : Int32), Sl (((gA.toUInt64 >>> (s0 &&& 0x3f).toInt64.toUInt64).toInt64) &&& m0), S2] [(.ref r3), (.long ((gA.toUInt64 >>> (s1 &&& 0x3f).toInt64.toUInt64).toInt64))])) _
    refine XS.iload X96.here hx rfl (hb hby d28_33) rfl ?_
    refine X96.laload hx (j := (1 : Int32)) (v := (.long m1)) (by rw [e96]; exact Arc98.1) (State.isArrayOf_alike hZ.alike Arc98.2.1) Arc98.2.2 hin99 hat100 (g := (mkF m 35 #[Sr a1, Sr a2, Si p3, Sr a4, Si (1 : Int32), Sl (((gA.toUInt64 >>> (s0 &&& 0x3f).toInt64.toUInt64).toInt64) &&& m0), S2] [(.int (1 : Int32)), (.ref r3), (.long ((gA.toUInt64 >>> (s1 &&& 0x3f).toInt64.toUInt64).toInt64))])) rfl rfl (hb hby d28_35) _ ?_
    refine XS.land X96.here hx rfl (hb hby d28_36) rfl ?_
    refine XS.lstore X96.here hx rfl (hb hby d28_37) rfl (l' := #[Sr a1, Sr a2, Si p3, Sr a4, Si (1 : Int32), Sl (((gA.toUInt64 >>> (s1 &&& 0x3f).toInt64.toUInt64).toInt64) &&& m1), S2]) rfl ?_
    refine XS.aloadN X96.here hx rfl (hb hby d28_39) rfl rfl ?_
    refine XS.iload X96.here hx rfl (hb hby d28_40) rfl ?_
    refine XS.aloadN X96.here hx rfl (hb hby d28_42) rfl rfl ?_
    refine st102 _ ?_
    show Steps _ _ _ (T102.setTop (mkF m 46 #[Sr a1, Sr a2, Si p3, Sr a4, Si (1 : Int32), Sl (((gA.toUInt64 >>> (s1 &&& 0x3f).toInt64.toUInt64).toInt64) &&& m1), S2] [(.ref r4), (.int (1 : Int32)), (.ref a4)])) _
    refine XS.iload X102.here hx rfl (hb hby d28_46) rfl ?_
    refine X102.iaload hx (j := (1 : Int32)) (v := (.int f1)) (by rw [e102]; exact Arc104.1) (State.isArrayOf_alike hZ.alike Arc104.2.1) Arc104.2.2 hin105 hat106 (g := (mkF m 48 #[Sr a1, Sr a2, Si p3, Sr a4, Si (1 : Int32), Sl (((gA.toUInt64 >>> (s1 &&& 0x3f).toInt64.toUInt64).toInt64) &&& m1), S2] [(.int (1 : Int32)), (.ref r4), (.int (1 : Int32)), (.ref a4)])) rfl rfl (hb hby d28_48) _ ?_
    refine XS.lload X102.here hx rfl (hb hby d28_49) rfl ?_
    refine XS.l2i X102.here hx rfl (hb hby d28_51) rfl ?_
    refine XS.iadd X102.here hx rfl (hb hby d28_52) rfl ?_
    refine st109 _ ?_
    refine XS.iinc X109.here hx rfl (hb hby d28_54) rfl (l' := #[Sr a1, Sr a2, Si p3, Sr a4, Si (2 : Int32), Sl (((gA.toUInt64 >>> (s1 &&& 0x3f).toInt64.toUInt64).toInt64) &&& m1), S2]) rfl ?_
    refine XS.goto X109.here hx rfl (pc0 := 57) (pc' := 3) rfl (hb hby d28_57) (by decide) (by decide) ?_
    show Steps _ _ _ (T109.setTop (mkF m 3 #[Sr a1, Sr a2, Si p3, Sr a4, Si (2 : Int32), Sl (((gA.toUInt64 >>> (s1 &&& 0x3f).toInt64.toUInt64).toInt64) &&& m1), S2] [])) _
    refine XS.iload X109.here hx rfl (hb hby d28_3) rfl ?_
    refine XS.aloadN X109.here hx rfl (hb hby d28_5) rfl rfl ?_
    refine X109.arraylength hx (by rw [e109]; exact Arc112.1) (State.isArrayOf_alike hZ.alike Arc112.2.1) (g := (mkF m 6 #[Sr a1, Sr a2, Si p3, Sr a4, Si (2 : Int32), Sl (((gA.toUInt64 >>> (s1 &&& 0x3f).toInt64.toUInt64).toInt64) &&& m1), S2] [(.ref a4), (.int (2 : Int32))])) rfl rfl (hb hby d28_6) _ ?_
    rw [len_of Asc112 Anc112]
    refine XS.icmpNo X109.here hx rfl (hb hby d28_7) rfl (tlt (by decide)).2.1 ?_
    refine XS.aloadN X109.here hx rfl (hb hby d28_10) rfl rfl ?_
    refine XS.iloadN X109.here hx rfl (hb hby d28_11) rfl ?_
    refine XS.aloadN X109.here hx rfl (hb hby d28_12) rfl rfl ?_
    refine st114 _ ?_
    show Steps _ _ _ (T114.setTop (mkF m 16 #[Sr a1, Sr a2, Si p3, Sr a4, Si (2 : Int32), Sl (((gA.toUInt64 >>> (s1 &&& 0x3f).toInt64.toUInt64).toInt64) &&& m1), S2] [(.ref r1), (.int p3), (.ref a2)])) _
    refine XS.iload X114.here hx rfl (hb hby d28_16) rfl ?_
    refine X114.iaload hx (j := (2 : Int32)) (v := (.int (0 : Int32))) (by rw [e114]; exact Arc116.1) (State.isArrayOf_alike hZ.alike Arc116.2.1) Arc116.2.2 hin117 hat118 (g := (mkF m 18 #[Sr a1, Sr a2, Si p3, Sr a4, Si (2 : Int32), Sl (((gA.toUInt64 >>> (s1 &&& 0x3f).toInt64.toUInt64).toInt64) &&& m1), S2] [(.int (2 : Int32)), (.ref r1), (.int p3), (.ref a2)])) rfl rfl (hb hby d28_18) _ ?_
    refine XS.iadd X114.here hx rfl (hb hby d28_19) rfl ?_
    exact k
  rw [Int32.add_zero] at pre119
  have F120 : Arv Z h109 a2 k2 .long (6 : Int32) vs (.long (0 : Int64)) := (F85.other W109 n24)
  obtain ⟨c121, Arc121, Aqc121, Asc121, Anc121, Ahc121, Agc121⟩ := id F120
  have hin122 : ¬ (p3 < 0 ∨ c121.slots.size ≤ (p3).toNatClampNeg) := inb_of Asc121 (own_inA hp)
  have hat123 : c121.slots[(p3).toNatClampNeg]? = some (.long gA) := Has.at Ahc121 hin122 hgA
  have F124 : Fld Z h109 a1 "com/example/darlington/darlington/core/StateLayout" "shiftOf" "[I" (.ref r2) := (F89.other W109 (Or.inl n14))
  obtain ⟨T125, X125, e125, st125⟩ := getF X114 hx hZ hown (host := "") (Or.inl (ow hw 112 rfl)) Via.refl e114 F124 (g := (mkF m 22 #[Sr a1, Sr a2, Si p3, Sr a4, Si (2 : Int32), Sl (((gA.toUInt64 >>> (s1 &&& 0x3f).toInt64.toUInt64).toInt64) &&& m1), S2] [(.ref a1), (.long gA)])) rfl rfl (hb hby d28_22)
  have F126 : Arv Z h109 r2 c2 .int (3 : Int32) [(.int s0), (.int s1), (.int s2)] (.int (0 : Int32)) := (F91.other W109 nr2)
  obtain ⟨c127, Arc127, Aqc127, Asc127, Anc127, Ahc127, Agc127⟩ := id F126
  have hin128 : ¬ ((2 : Int32) < 0 ∨ c127.slots.size ≤ ((2 : Int32)).toNatClampNeg) := inb_of Asc127 ⟨by decide, by decide⟩
  have hat129 : c127.slots[((2 : Int32)).toNatClampNeg]? = some (.int s2) := Has.at Ahc127 hin128 rfl
  have F130 : Fld Z h109 a1 "com/example/darlington/darlington/core/StateLayout" "maskOf" "[J" (.ref r3) := (F95.other W109 (Or.inl n14))
  obtain ⟨T131, X131, e131, st131⟩ := getF X125 hx hZ hown (host := "") (Or.inl (ow hw 115 rfl)) Via.refl e125 F130 (g := (mkF m 30 #[Sr a1, Sr a2, Si p3, Sr a4, Si (2 : Int32), Sl (((gA.toUInt64 >>> (s1 &&& 0x3f).toInt64.toUInt64).toInt64) &&& m1), S2] [(.ref a1), (.long ((gA.toUInt64 >>> (s2 &&& 0x3f).toInt64.toUInt64).toInt64))])) rfl rfl (hb hby d28_30)
  have F132 : Arv Z h109 r3 c3 .long (3 : Int32) [(.long m0), (.long m1), (.long m2)] (.long (0 : Int64)) := (F97.other W109 nr3)
  obtain ⟨c133, Arc133, Aqc133, Asc133, Anc133, Ahc133, Agc133⟩ := id F132
  have hin134 : ¬ ((2 : Int32) < 0 ∨ c133.slots.size ≤ ((2 : Int32)).toNatClampNeg) := inb_of Asc133 ⟨by decide, by decide⟩
  have hat135 : c133.slots[((2 : Int32)).toNatClampNeg]? = some (.long m2) := Has.at Ahc133 hin134 rfl
  have F136 : Fld Z h109 a1 "com/example/darlington/darlington/core/StateLayout" "firstOf" "[I" (.ref r4) := (F101.other W109 (Or.inl n14))
  obtain ⟨T137, X137, e137, st137⟩ := getF X131 hx hZ hown (host := "") (Or.inl (ow hw 117 rfl)) Via.refl e131 F136 (g := (mkF m 43 #[Sr a1, Sr a2, Si p3, Sr a4, Si (2 : Int32), Sl (((gA.toUInt64 >>> (s2 &&& 0x3f).toInt64.toUInt64).toInt64) &&& m2), S2] [(.ref a1), (.int (2 : Int32)), (.ref a4)])) rfl rfl (hb hby d28_43)
  have F138 : Arv Z h109 r4 c4 .int (3 : Int32) [(.int f0), (.int f1), (.int f2)] (.int (0 : Int32)) := (F103.other W109 nr4)
  obtain ⟨c139, Arc139, Aqc139, Asc139, Anc139, Ahc139, Agc139⟩ := id F138
  have hin140 : ¬ ((2 : Int32) < 0 ∨ c139.slots.size ≤ ((2 : Int32)).toNatClampNeg) := inb_of Asc139 ⟨by decide, by decide⟩
  have hat141 : c139.slots[((2 : Int32)).toNatClampNeg]? = some (.int f2) := Has.at Ahc139 hin140 rfl
  obtain ⟨c142, Arc142, Aqc142, Asc142, Anc142, Ahc142, Agc142⟩ := id V109
  have hin143 : ¬ ((2 : Int32) < 0 ∨ c142.slots.size ≤ ((2 : Int32)).toNatClampNeg) := inb_of Asc142 ⟨by decide, by decide⟩
  obtain ⟨T144, h144, X144, e144, W144, st144⟩ := stI X137 hx hZ e137 Arc142 (j := (2 : Int32)) hin143 (g := (mkF m 53 #[Sr a1, Sr a2, Si p3, Sr a4, Si (2 : Int32), Sl (((gA.toUInt64 >>> (s2 &&& 0x3f).toInt64.toUInt64).toInt64) &&& m2), S2] [(.int (f2 + ((((gA.toUInt64 >>> (s2 &&& 0x3f).toInt64.toUInt64).toInt64) &&& m2).toInt32))), (.int (2 : Int32)), (.ref a4)])) rfl rfl (hb hby d28_53)
  have KC145 : Keep h0 h144 [a4] := KC110.wr W144 (Or.inl (List.mem_of_getElem? (i := 0) rfl))
  have V144 : Arv Z h144 a4 k4 .int (3 : Int32) [(.int (f0 + ((((gA.toUInt64 >>> (s0 &&& 0x3f).toInt64.toUInt64).toInt64) &&& m0).toInt32))), (.int (f1 + ((((gA.toUInt64 >>> (s1 &&& 0x3f).toInt64.toUInt64).toInt64) &&& m1).toInt32))), (.int (f2 + ((((gA.toUInt64 >>> (s2 &&& 0x3f).toInt64.toUInt64).toInt64) &&& m2).toInt32)))] (.int (0 : Int32)) := Arv.set Arc142 Aqc142 Asc142 Anc142 Ahc142 Agc142 rfl W144 2 rfl (Nat.le_of_ble_eq_true rfl)
  have N146 := Fr.snoc X144 N111 g4
  obtain ⟨c147, Arc147, Aqc147, Asc147, Anc147, Ahc147, Agc147⟩ := id V144
  have pre148 : ∀ t, Steps p.tables e below (T144.setTop (mkF m 60 #[Sr a1, Sr a2, Si p3, Sr a4, Si (3 : Int32), Sl (((gA.toUInt64 >>> (s2 &&& 0x3f).toInt64.toUInt64).toInt64) &&& m2), S2] [])) t → Steps p.tables e below (s₁.setTop (entryFrame m #[(.ref a1), (.ref a2), (.int p3), (.ref a4)] 7)) t := by
    intro t k
    refine pre119 t ?_
    refine X114.laload hx (j := p3) (v := (.long gA)) (by rw [e114]; exact Arc121.1) (State.isArrayOf_alike hZ.alike Arc121.2.1) Arc121.2.2 hin122 hat123 (g := (mkF m 20 #[Sr a1, Sr a2, Si p3, Sr a4, Si (2 : Int32), Sl (((gA.toUInt64 >>> (s1 &&& 0x3f).toInt64.toUInt64).toInt64) &&& m1), S2] [(.int p3), (.ref a2)])) rfl rfl (hb hby d28_20) _ ?_
    refine XS.aloadN X114.here hx rfl (hb hby d28_21) rfl rfl ?_
    refine st125 _ ?_
    refine XS.iload X125.here hx rfl (hb hby d28_25) rfl ?_
    refine X125.iaload hx (j := (2 : Int32)) (v := (.int s2)) (by rw [e125]; exact Arc127.1) (State.isArrayOf_alike hZ.alike Arc127.2.1) Arc127.2.2 hin128 hat129 (g := (mkF m 27 #[Sr a1, Sr a2, Si p3, Sr a4, Si (2 : Int32), Sl (((gA.toUInt64 >>> (s1 &&& 0x3f).toInt64.toUInt64).toInt64) &&& m1), S2] [(.int (2 : Int32)), (.ref r2), (.long gA)])) rfl rfl (hb hby d28_27) _ ?_
    show Steps _ _ _ (T125.setTop (mkF m 28 #[Sr a1, Sr a2, Si p3, Sr a4, Si (2 : Int32), Sl (((gA.toUInt64 >>> (s1 &&& 0x3f).toInt64.toUInt64).toInt64) &&& m1), S2] [(.int s2), (.long gA)])) _
    refine XS.lushr X125.here hx rfl (hb hby d28_28) rfl ?_
    refine XS.aloadN X125.here hx rfl (hb hby d28_29) rfl rfl ?_
    refine st131 _ ?_
    refine XS.iload X131.here hx rfl (hb hby d28_33) rfl ?_
    refine X131.laload hx (j := (2 : Int32)) (v := (.long m2)) (by rw [e131]; exact Arc133.1) (State.isArrayOf_alike hZ.alike Arc133.2.1) Arc133.2.2 hin134 hat135 (g := (mkF m 35 #[Sr a1, Sr a2, Si p3, Sr a4, Si (2 : Int32), Sl (((gA.toUInt64 >>> (s1 &&& 0x3f).toInt64.toUInt64).toInt64) &&& m1), S2] [(.int (2 : Int32)), (.ref r3), (.long ((gA.toUInt64 >>> (s2 &&& 0x3f).toInt64.toUInt64).toInt64))])) rfl rfl (hb hby d28_35) _ ?_
    refine XS.land X131.here hx rfl (hb hby d28_36) rfl ?_
    refine XS.lstore X131.here hx rfl (hb hby d28_37) rfl (l' := #[Sr a1, Sr a2, Si p3, Sr a4, Si (2 : Int32), Sl (((gA.toUInt64 >>> (s2 &&& 0x3f).toInt64.toUInt64).toInt64) &&& m2), S2]) rfl ?_
    refine XS.aloadN X131.here hx rfl (hb hby d28_39) rfl rfl ?_
    show Steps _ _ _ (T131.setTop (mkF m 40 #[Sr a1, Sr a2, Si p3, Sr a4, Si (2 : Int32), Sl (((gA.toUInt64 >>> (s2 &&& 0x3f).toInt64.toUInt64).toInt64) &&& m2), S2] [(.ref a4)])) _
    refine XS.iload X131.here hx rfl (hb hby d28_40) rfl ?_
    refine XS.aloadN X131.here hx rfl (hb hby d28_42) rfl rfl ?_
    refine st137 _ ?_
    refine XS.iload X137.here hx rfl (hb hby d28_46) rfl ?_
    refine X137.iaload hx (j := (2 : Int32)) (v := (.int f2)) (by rw [e137]; exact Arc139.1) (State.isArrayOf_alike hZ.alike Arc139.2.1) Arc139.2.2 hin140 hat141 (g := (mkF m 48 #[Sr a1, Sr a2, Si p3, Sr a4, Si (2 : Int32), Sl (((gA.toUInt64 >>> (s2 &&& 0x3f).toInt64.toUInt64).toInt64) &&& m2), S2] [(.int (2 : Int32)), (.ref r4), (.int (2 : Int32)), (.ref a4)])) rfl rfl (hb hby d28_48) _ ?_
    refine XS.lload X137.here hx rfl (hb hby d28_49) rfl ?_
    refine XS.l2i X137.here hx rfl (hb hby d28_51) rfl ?_
    refine XS.iadd X137.here hx rfl (hb hby d28_52) rfl ?_
    show Steps _ _ _ (T137.setTop (mkF m 53 #[Sr a1, Sr a2, Si p3, Sr a4, Si (2 : Int32), Sl (((gA.toUInt64 >>> (s2 &&& 0x3f).toInt64.toUInt64).toInt64) &&& m2), S2] [(.int (f2 + ((((gA.toUInt64 >>> (s2 &&& 0x3f).toInt64.toUInt64).toInt64) &&& m2).toInt32))), (.int (2 : Int32)), (.ref a4)])) _
    refine st144 _ ?_
    refine XS.iinc X144.here hx rfl (hb hby d28_54) rfl (l' := #[Sr a1, Sr a2, Si p3, Sr a4, Si (3 : Int32), Sl (((gA.toUInt64 >>> (s2 &&& 0x3f).toInt64.toUInt64).toInt64) &&& m2), S2]) rfl ?_
    refine XS.goto X144.here hx rfl (pc0 := 57) (pc' := 3) rfl (hb hby d28_57) (by decide) (by decide) ?_
    refine XS.iload X144.here hx rfl (hb hby d28_3) rfl ?_
    refine XS.aloadN X144.here hx rfl (hb hby d28_5) rfl rfl ?_
    refine X144.arraylength hx (by rw [e144]; exact Arc147.1) (State.isArrayOf_alike hZ.alike Arc147.2.1) (g := (mkF m 6 #[Sr a1, Sr a2, Si p3, Sr a4, Si (3 : Int32), Sl (((gA.toUInt64 >>> (s2 &&& 0x3f).toInt64.toUInt64).toInt64) &&& m2), S2] [(.ref a4), (.int (3 : Int32))])) rfl rfl (hb hby d28_6) _ ?_
    rw [len_of Asc147 Anc147]
    refine XS.icmpYes X144.here hx rfl (pc0 := 7) (pc' := 60) rfl (hb hby d28_7) rfl (flt (by decide)).2.1 (by decide) (by decide) ?_
    exact k
  obtain ⟨fs, hr, hrun, hended, hW, hsame⟩ := X144.leave (v := none) (fun _ => rfl)
  refine ⟨_, _, pre148 _ ?_, hrun, hended, _, _, rfl, ?_, ⟨_, rfl⟩, hW, hsame.mono (by decide) (by decide)⟩
  · exact X144.returnOut hx Bd.returns (hb hby d28_60) hr
  · show Q_rm_unpA Z a1 a2 p3 a4 r1 r2 r3 r4 c1 c2 c3 c4 s0 s1 s2 m0 m1 m2 f0 f1 f2 k2 k4 vs gA gB y0 y1 y2 h0 n0 _ T144.heap _
    rw [e144]
    exact ⟨rfl, N146, KC145, V144⟩
theorem ef_rm_unpB (m : MethodId) (x0 : Addr) (x1 : Addr) (x2 : Int32) (x3 : Addr) : entryFrame m #[(.ref x0), (.ref x1), (.int x2), (.ref x3)] 7 = mkF m 0 #[Sr x0, Sr x1, Si x2, Sr x3, Su, Su, Su] [] := by first | (simp [entryFrame, mkF, argsToLocals, Value.category]; done) | rfl
def Q_rm_unpB (Z : State) (a1 : Addr) (a2 : Addr) (p3 : Int32) (a4 : Addr) (r1 : Addr) (r2 : Addr) (r3 : Addr) (r4 : Addr) (c1 : ClassId) (c2 : ClassId) (c3 : ClassId) (c4 : ClassId) (s0 : Int32) (s1 : Int32) (s2 : Int32) (m0 : Int64) (m1 : Int64) (m2 : Int64) (f0 : Int32) (f1 : Int32) (f2 : Int32) (k2 : ClassId) (k4 : ClassId) (vs : List Value) (gA : Int64) (gB : Int64) (y0 : Int32) (y1 : Int32) (y2 : Int32) (h0 : Heap) (n0 : Nat) (v : Option Value) (h : Heap) (L : List Loc) : Prop := v = none ∧ Fr n0 L ∧ Keep h0 h [a4] ∧ Arv Z h a4 k4 .int (3 : Int32) [(.int (f0 + ((own_fld gA s0 m0).toInt32))), (.int (f1 + ((own_fld gA s1 m1).toInt32))), (.int (f2 + ((own_fld gB s2 m2).toInt32)))] (.int (0 : Int32))
set_option maxRecDepth 65536 in
set_option maxHeartbeats 40000000 in
theorem rm_unpB (l : Launch) (Z : State) (a0 : Array Value) (hw : ∀ d ∈ tables_1, d.before a0 Z = true) (ws : List Jvm.Cond) (a1 : Addr) (a2 : Addr) (p3 : Int32) (a4 : Addr) (r1 : Addr) (r2 : Addr) (r3 : Addr) (r4 : Addr) (c1 : ClassId) (c2 : ClassId) (c3 : ClassId) (c4 : ClassId) (s0 : Int32) (s1 : Int32) (s2 : Int32) (m0 : Int64) (m1 : Int64) (m2 : Int64) (f0 : Int32) (f1 : Int32) (f2 : Int32) (k2 : ClassId) (k4 : ClassId) (vs : List Value) (gA : Int64) (gB : Int64) (y0 : Int32) (y1 : Int32) (y2 : Int32) (h0 : Heap) (n0 : Nat) (Z0 : n0 ≤ h0.size) (F_r1 : Fld Z h0 a1 "com/example/darlington/darlington/core/StateLayout" "wordOf" "[I" (.ref r1)) (V_r1 : Arv Z h0 r1 c1 .int (3 : Int32) [(.int (0 : Int32)), (.int (0 : Int32)), (.int (1 : Int32))] (.int (0 : Int32))) (F_r2 : Fld Z h0 a1 "com/example/darlington/darlington/core/StateLayout" "shiftOf" "[I" (.ref r2)) (V_r2 : Arv Z h0 r2 c2 .int (3 : Int32) [(.int s0), (.int s1), (.int s2)] (.int (0 : Int32))) (F_r3 : Fld Z h0 a1 "com/example/darlington/darlington/core/StateLayout" "maskOf" "[J" (.ref r3)) (V_r3 : Arv Z h0 r3 c3 .long (3 : Int32) [(.long m0), (.long m1), (.long m2)] (.long (0 : Int64))) (F_r4 : Fld Z h0 a1 "com/example/darlington/darlington/core/StateLayout" "firstOf" "[I" (.ref r4)) (V_r4 : Arv Z h0 r4 c4 .int (3 : Int32) [(.int f0), (.int f1), (.int f2)] (.int (0 : Int32))) (V2 : Arv Z h0 a2 k2 .long (6 : Int32) vs (.long (0 : Int64))) (V4 : Arv Z h0 a4 k4 .int (3 : Int32) [(.int y0), (.int y1), (.int y2)] (.int (0 : Int32))) (g4 : n0 ≤ a4) (n14 : a1 ≠ a4) (n24 : a2 ≠ a4) (nr1 : r1 ≠ a4) (nr2 : r2 ≠ a4) (nr3 : r3 ≠ a4) (nr4 : r4 ≠ a4) (hp : 0 ≤ p3.toInt ∧ p3.toInt ≤ 3) (hgA : vs.getD (p3).toNatClampNeg (.long (0 : Int64)) = (.long gA)) (hgB : vs.getD ((p3 + (1 : Int32))).toNatClampNeg (.long (0 : Int64)) = (.long gB)) :
    MetFree l (⟨"com/example/darlington/darlington/core/StateLayout", "unpack", "([JI[I)V"⟩ : MethodName) (head1 (Jvm.Cond.code (⟨"com/example/darlington/darlington/core/StateLayout", "unpack", "([JI[I)V"⟩ : MethodName) prog_74_method_6_code 7 none :: ws) ({ frames := 0, cells := 0, slots := 0, locals := 0 } : Room)) (fun a U => a = #[(.ref a1), (.ref a2), (.int p3), (.ref a4)] ∧ Z.Warmed39 U.vm ∧ U.heap = h0) (fun _ _ _ _ _ => True) (fun _ U o U' => ∃ v L, o = .returned v ∧ Q_rm_unpB Z a1 a2 p3 a4 r1 r2 r3 r4 c1 c2 c3 c4 s0 s1 s2 m0 m1 m2 f0 f1 f2 k2 k4 vs gA gB y0 y1 y2 h0 n0 v U'.heap L ∧ FrameEnd U o U' L ({ frames := 0, cells := 0, slots := 0, locals := 0 } : Room).cells ({ frames := 0, cells := 0, slots := 0, locals := 0 } : Room).slots) := by
  refine MetFree.of_bodySF (plainFor_of_name pn_8) hisR ?_
  intro p e s m args below meth c s₁ Bd hml0 hP hK
  obtain ⟨rfl, hZ, hh⟩ := hP
  have hx := Bd.exec
  have hby := Bd.bytes
  have hml : c.maxLocals = 7 := hml0
  have hown : s.vm.findClass "com/example/darlington/darlington/core/StateLayout" = some m.cls := findClass_of_methodNamed Bd.named
  have hnm := (name_of_methodNamed Bd.named Bd.method).1
  have X0 : Stand p l e ({ frames := 0, cells := 0, slots := 0, locals := 0 } : Room) s m #[(.ref a1), (.ref a2), (.int p3), (.ref a4)] below meth c s₁ [] 0 0 := Stand.of_body Bd
  have e0 : s₁.heap = h0 := by rw [← hh, Bd.state]; rfl
  have N0 := Fr.nil n0
  have pre0 : ∀ t, Steps p.tables e below (s₁.setTop (mkF m 0 #[Sr a1, Sr a2, Si p3, Sr a4, Su, Su, Su] [])) t → Steps p.tables e below (s₁.setTop (entryFrame m #[(.ref a1), (.ref a2), (.int p3), (.ref a4)] 7)) t := fun t k => castTop (ef_rm_unpB m a1 a2 p3 a4) k
  obtain ⟨c51, Arc51, Aqc51, Asc51, Anc51, Ahc51, Agc51⟩ := id V4
  obtain ⟨T52, X52, e52, st52⟩ := getF X0 hx hZ hown (host := "") (Or.inl (ow hw 110 rfl)) Via.refl e0 F_r1 (g := (mkF m 13 #[Sr a1, Sr a2, Si p3, Sr a4, Si (0 : Int32), Su, Su] [(.ref a1), (.int p3), (.ref a2)])) rfl rfl (hb hby d28_13)
  obtain ⟨c53, Arc53, Aqc53, Asc53, Anc53, Ahc53, Agc53⟩ := id V_r1
  have hin54 : ¬ ((0 : Int32) < 0 ∨ c53.slots.size ≤ ((0 : Int32)).toNatClampNeg) := inb_of Asc53 ⟨by decide, by decide⟩
  have hat55 : c53.slots[((0 : Int32)).toNatClampNeg]? = some (.int (0 : Int32)) := Has.at Ahc53 hin54 rfl
  have pre56 : ∀ t, Steps p.tables e below (T52.setTop (mkF m 20 #[Sr a1, Sr a2, Si p3, Sr a4, Si (0 : Int32), Su, Su] [(.int (p3 + (0 : Int32))), (.ref a2)])) t → Steps p.tables e below (s₁.setTop (entryFrame m #[(.ref a1), (.ref a2), (.int p3), (.ref a4)] 7)) t := by
    intro t k
    refine pre0 t ?_
    refine XS.iconst X0.here hx rfl (hb hby d28_0) ?_
    refine XS.istore X0.here hx rfl (hb hby d28_1) rfl (l' := #[Sr a1, Sr a2, Si p3, Sr a4, Si (0 : Int32), Su, Su]) rfl ?_
    refine XS.iload X0.here hx rfl (hb hby d28_3) rfl ?_
    refine XS.aloadN X0.here hx rfl (hb hby d28_5) rfl rfl ?_
    refine X0.arraylength hx (by rw [e0]; exact Arc51.1) (State.isArrayOf_alike hZ.alike Arc51.2.1) (g := (mkF m 6 #[Sr a1, Sr a2, Si p3, Sr a4, Si (0 : Int32), Su, Su] [(.ref a4), (.int (0 : Int32))])) rfl rfl (hb hby d28_6) _ ?_
    rw [len_of Asc51 Anc51]
    refine XS.icmpNo X0.here hx rfl (hb hby d28_7) rfl (tlt (by decide)).2.1 ?_
    refine XS.aloadN X0.here hx rfl (hb hby d28_10) rfl rfl ?_
    refine XS.iloadN X0.here hx rfl (hb hby d28_11) rfl ?_
    show Steps _ _ _ (s₁.setTop (mkF m 12 #[Sr a1, Sr a2, Si p3, Sr a4, Si (0 : Int32), Su, Su] [(.int p3), (.ref a2)])) _
    refine XS.aloadN X0.here hx rfl (hb hby d28_12) rfl rfl ?_
    refine st52 _ ?_
    refine XS.iload X52.here hx rfl (hb hby d28_16) rfl ?_
    refine X52.iaload hx (j := (0 : Int32)) (v := (.int (0 : Int32))) (by rw [e52]; exact Arc53.1) (State.isArrayOf_alike hZ.alike Arc53.2.1) Arc53.2.2 hin54 hat55 (g := (mkF m 18 #[Sr a1, Sr a2, Si p3, Sr a4, Si (0 : Int32), Su, Su] [(.int (0 : Int32)), (.ref r1), (.int p3), (.ref a2)])) rfl rfl (hb hby d28_18) _ ?_
    refine XS.iadd X52.here hx rfl (hb hby d28_19) rfl ?_
    exact k
  rw [Int32.add_zero] at pre56
  obtain ⟨c57, Arc57, Aqc57, Asc57, Anc57, Ahc57, Agc57⟩ := id V2
  have hin58 : ¬ (p3 < 0 ∨ c57.slots.size ≤ (p3).toNatClampNeg) := inb_of Asc57 (own_inA hp)
  have hat59 : c57.slots[(p3).toNatClampNeg]? = some (.long gA) := Has.at Ahc57 hin58 hgA
  obtain ⟨T60, X60, e60, st60⟩ := getF X52 hx hZ hown (host := "") (Or.inl (ow hw 112 rfl)) Via.refl e52 F_r2 (g := (mkF m 22 #[Sr a1, Sr a2, Si p3, Sr a4, Si (0 : Int32), Su, Su] [(.ref a1), (.long gA)])) rfl rfl (hb hby d28_22)
  obtain ⟨c61, Arc61, Aqc61, Asc61, Anc61, Ahc61, Agc61⟩ := id V_r2
  have hin62 : ¬ ((0 : Int32) < 0 ∨ c61.slots.size ≤ ((0 : Int32)).toNatClampNeg) := inb_of Asc61 ⟨by decide, by decide⟩
  have hat63 : c61.slots[((0 : Int32)).toNatClampNeg]? = some (.int s0) := Has.at Ahc61 hin62 rfl
  obtain ⟨T64, X64, e64, st64⟩ := getF X60 hx hZ hown (host := "") (Or.inl (ow hw 115 rfl)) Via.refl e60 F_r3 (g := (mkF m 30 #[Sr a1, Sr a2, Si p3, Sr a4, Si (0 : Int32), Su, Su] [(.ref a1), (.long ((gA.toUInt64 >>> (s0 &&& 0x3f).toInt64.toUInt64).toInt64))])) rfl rfl (hb hby d28_30)
  obtain ⟨c65, Arc65, Aqc65, Asc65, Anc65, Ahc65, Agc65⟩ := id V_r3
  have hin66 : ¬ ((0 : Int32) < 0 ∨ c65.slots.size ≤ ((0 : Int32)).toNatClampNeg) := inb_of Asc65 ⟨by decide, by decide⟩
  have hat67 : c65.slots[((0 : Int32)).toNatClampNeg]? = some (.long m0) := Has.at Ahc65 hin66 rfl
  obtain ⟨T68, X68, e68, st68⟩ := getF X64 hx hZ hown (host := "") (Or.inl (ow hw 117 rfl)) Via.refl e64 F_r4 (g := (mkF m 43 #[Sr a1, Sr a2, Si p3, Sr a4, Si (0 : Int32), Sl (((gA.toUInt64 >>> (s0 &&& 0x3f).toInt64.toUInt64).toInt64) &&& m0), S2] [(.ref a1), (.int (0 : Int32)), (.ref a4)])) rfl rfl (hb hby d28_43)
  obtain ⟨c69, Arc69, Aqc69, Asc69, Anc69, Ahc69, Agc69⟩ := id V_r4
  have hin70 : ¬ ((0 : Int32) < 0 ∨ c69.slots.size ≤ ((0 : Int32)).toNatClampNeg) := inb_of Asc69 ⟨by decide, by decide⟩
  have hat71 : c69.slots[((0 : Int32)).toNatClampNeg]? = some (.int f0) := Has.at Ahc69 hin70 rfl
  obtain ⟨c72, Arc72, Aqc72, Asc72, Anc72, Ahc72, Agc72⟩ := id V4
  have hin73 : ¬ ((0 : Int32) < 0 ∨ c72.slots.size ≤ ((0 : Int32)).toNatClampNeg) := inb_of Asc72 ⟨by decide, by decide⟩
  obtain ⟨T74, h74, X74, e74, W74, st74⟩ := stI X68 hx hZ e68 Arc72 (j := (0 : Int32)) hin73 (g := (mkF m 53 #[Sr a1, Sr a2, Si p3, Sr a4, Si (0 : Int32), Sl (((gA.toUInt64 >>> (s0 &&& 0x3f).toInt64.toUInt64).toInt64) &&& m0), S2] [(.int (f0 + ((((gA.toUInt64 >>> (s0 &&& 0x3f).toInt64.toUInt64).toInt64) &&& m0).toInt32))), (.int (0 : Int32)), (.ref a4)])) rfl rfl (hb hby d28_53)
  have KC75 : Keep h0 h74 [a4] := (Keep.refl h0 [a4]).wr W74 (Or.inl (List.mem_of_getElem? (i := 0) rfl))
  have V74 : Arv Z h74 a4 k4 .int (3 : Int32) [(.int (f0 + ((((gA.toUInt64 >>> (s0 &&& 0x3f).toInt64.toUInt64).toInt64) &&& m0).toInt32))), (.int y1), (.int y2)] (.int (0 : Int32)) := Arv.set Arc72 Aqc72 Asc72 Anc72 Ahc72 Agc72 rfl W74 0 rfl (Nat.le_of_ble_eq_true rfl)
  have N76 := Fr.snoc X74 N0 g4
  obtain ⟨c77, Arc77, Aqc77, Asc77, Anc77, Ahc77, Agc77⟩ := id V74
  have F78 : Fld Z h74 a1 "com/example/darlington/darlington/core/StateLayout" "wordOf" "[I" (.ref r1) := (F_r1.other W74 (Or.inl n14))
  obtain ⟨T79, X79, e79, st79⟩ := getF X74 hx hZ hown (host := "") (Or.inl (ow hw 110 rfl)) Via.refl e74 F78 (g := (mkF m 13 #[Sr a1, Sr a2, Si p3, Sr a4, Si (1 : Int32), Sl (((gA.toUInt64 >>> (s0 &&& 0x3f).toInt64.toUInt64).toInt64) &&& m0), S2] [(.ref a1), (.int p3), (.ref a2)])) rfl rfl (hb hby d28_13)
  have F80 : Arv Z h74 r1 c1 .int (3 : Int32) [(.int (0 : Int32)), (.int (0 : Int32)), (.int (1 : Int32))] (.int (0 : Int32)) := (V_r1.other W74 nr1)
  obtain ⟨c81, Arc81, Aqc81, Asc81, Anc81, Ahc81, Agc81⟩ := id F80
  have hin82 : ¬ ((1 : Int32) < 0 ∨ c81.slots.size ≤ ((1 : Int32)).toNatClampNeg) := inb_of Asc81 ⟨by decide, by decide⟩
  have hat83 : c81.slots[((1 : Int32)).toNatClampNeg]? = some (.int (0 : Int32)) := Has.at Ahc81 hin82 rfl
  have pre84 : ∀ t, Steps p.tables e below (T79.setTop (mkF m 20 #[Sr a1, Sr a2, Si p3, Sr a4, Si (1 : Int32), Sl (((gA.toUInt64 >>> (s0 &&& 0x3f).toInt64.toUInt64).toInt64) &&& m0), S2] [(.int (p3 + (0 : Int32))), (.ref a2)])) t → Steps p.tables e below (s₁.setTop (entryFrame m #[(.ref a1), (.ref a2), (.int p3), (.ref a4)] 7)) t := by
    intro t k
    refine pre56 t ?_
    refine X52.laload hx (j := p3) (v := (.long gA)) (by rw [e52]; exact Arc57.1) (State.isArrayOf_alike hZ.alike Arc57.2.1) Arc57.2.2 hin58 hat59 (g := (mkF m 20 #[Sr a1, Sr a2, Si p3, Sr a4, Si (0 : Int32), Su, Su] [(.int p3), (.ref a2)])) rfl rfl (hb hby d28_20) _ ?_
    refine XS.aloadN X52.here hx rfl (hb hby d28_21) rfl rfl ?_
    refine st60 _ ?_
    show Steps _ _ _ (T60.setTop (mkF m 25 #[Sr a1, Sr a2, Si p3, Sr a4, Si (0 : Int32), Su, Su] [(.ref r2), (.long gA)])) _
    refine XS.iload X60.here hx rfl (hb hby d28_25) rfl ?_
    refine X60.iaload hx (j := (0 : Int32)) (v := (.int s0)) (by rw [e60]; exact Arc61.1) (State.isArrayOf_alike hZ.alike Arc61.2.1) Arc61.2.2 hin62 hat63 (g := (mkF m 27 #[Sr a1, Sr a2, Si p3, Sr a4, Si (0 : Int32), Su, Su] [(.int (0 : Int32)), (.ref r2), (.long gA)])) rfl rfl (hb hby d28_27) _ ?_
    refine XS.lushr X60.here hx rfl (hb hby d28_28) rfl ?_
    refine XS.aloadN X60.here hx rfl (hb hby d28_29) rfl rfl ?_
    refine st64 _ ?_
    refine XS.iload X64.here hx rfl (hb hby d28_33) rfl ?_
    refine X64.laload hx (j := (0 : Int32)) (v := (.long m0)) (by rw [e64]; exact Arc65.1) (State.isArrayOf_alike hZ.alike Arc65.2.1) Arc65.2.2 hin66 hat67 (g := (mkF m 35 #[Sr a1, Sr a2, Si p3, Sr a4, Si (0 : Int32), Su, Su] [(.int (0 : Int32)), (.ref r3), (.long ((gA.toUInt64 >>> (s0 &&& 0x3f).toInt64.toUInt64).toInt64))])) rfl rfl (hb hby d28_35) _ ?_
    refine XS.land X64.here hx rfl (hb hby d28_36) rfl ?_
    show Steps _ _ _ (T64.setTop (mkF m 37 #[Sr a1, Sr a2, Si p3, Sr a4, Si (0 : Int32), Su, Su] [(.long (((gA.toUInt64 >>> (s0 &&& 0x3f).toInt64.toUInt64).toInt64) &&& m0))])) _
    refine XS.lstore X64.here hx rfl (hb hby d28_37) rfl (l' := #[Sr a1, Sr a2, Si p3, Sr a4, Si (0 : Int32), Sl (((gA.toUInt64 >>> (s0 &&& 0x3f).toInt64.toUInt64).toInt64) &&& m0), S2]) rfl ?_
    refine XS.aloadN X64.here hx rfl (hb hby d28_39) rfl rfl ?_
    refine XS.iload X64.here hx rfl (hb hby d28_40) rfl ?_
    refine XS.aloadN X64.here hx rfl (hb hby d28_42) rfl rfl ?_
    refine st68 _ ?_
    refine XS.iload X68.here hx rfl (hb hby d28_46) rfl ?_
    refine X68.iaload hx (j := (0 : Int32)) (v := (.int f0)) (by rw [e68]; exact Arc69.1) (State.isArrayOf_alike hZ.alike Arc69.2.1) Arc69.2.2 hin70 hat71 (g := (mkF m 48 #[Sr a1, Sr a2, Si p3, Sr a4, Si (0 : Int32), Sl (((gA.toUInt64 >>> (s0 &&& 0x3f).toInt64.toUInt64).toInt64) &&& m0), S2] [(.int (0 : Int32)), (.ref r4), (.int (0 : Int32)), (.ref a4)])) rfl rfl (hb hby d28_48) _ ?_
    refine XS.lload X68.here hx rfl (hb hby d28_49) rfl ?_
    show Steps _ _ _ (T68.setTop (mkF m 51 #[Sr a1, Sr a2, Si p3, Sr a4, Si (0 : Int32), Sl (((gA.toUInt64 >>> (s0 &&& 0x3f).toInt64.toUInt64).toInt64) &&& m0), S2] [(.long (((gA.toUInt64 >>> (s0 &&& 0x3f).toInt64.toUInt64).toInt64) &&& m0)), (.int f0), (.int (0 : Int32)), (.ref a4)])) _
    refine XS.l2i X68.here hx rfl (hb hby d28_51) rfl ?_
    refine XS.iadd X68.here hx rfl (hb hby d28_52) rfl ?_
    refine st74 _ ?_
    refine XS.iinc X74.here hx rfl (hb hby d28_54) rfl (l' := #[Sr a1, Sr a2, Si p3, Sr a4, Si (1 : Int32), Sl (((gA.toUInt64 >>> (s0 &&& 0x3f).toInt64.toUInt64).toInt64) &&& m0), S2]) rfl ?_
    refine XS.goto X74.here hx rfl (pc0 := 57) (pc' := 3) rfl (hb hby d28_57) (by decide) (by decide) ?_
    refine XS.iload X74.here hx rfl (hb hby d28_3) rfl ?_
    refine XS.aloadN X74.here hx rfl (hb hby d28_5) rfl rfl ?_
    refine X74.arraylength hx (by rw [e74]; exact Arc77.1) (State.isArrayOf_alike hZ.alike Arc77.2.1) (g := (mkF m 6 #[Sr a1, Sr a2, Si p3, Sr a4, Si (1 : Int32), Sl (((gA.toUInt64 >>> (s0 &&& 0x3f).toInt64.toUInt64).toInt64) &&& m0), S2] [(.ref a4), (.int (1 : Int32))])) rfl rfl (hb hby d28_6) _ ?_
    rw [len_of Asc77 Anc77]
    show Steps _ _ _ (T74.setTop (mkF m 7 #[Sr a1, Sr a2, Si p3, Sr a4, Si (1 : Int32), Sl (((gA.toUInt64 >>> (s0 &&& 0x3f).toInt64.toUInt64).toInt64) &&& m0), S2] [(.int (3 : Int32)), (.int (1 : Int32))])) _
    refine XS.icmpNo X74.here hx rfl (hb hby d28_7) rfl (tlt (by decide)).2.1 ?_
    refine XS.aloadN X74.here hx rfl (hb hby d28_10) rfl rfl ?_
    refine XS.iloadN X74.here hx rfl (hb hby d28_11) rfl ?_
    refine XS.aloadN X74.here hx rfl (hb hby d28_12) rfl rfl ?_
    refine st79 _ ?_
    refine XS.iload X79.here hx rfl (hb hby d28_16) rfl ?_
    refine X79.iaload hx (j := (1 : Int32)) (v := (.int (0 : Int32))) (by rw [e79]; exact Arc81.1) (State.isArrayOf_alike hZ.alike Arc81.2.1) Arc81.2.2 hin82 hat83 (g := (mkF m 18 #[Sr a1, Sr a2, Si p3, Sr a4, Si (1 : Int32), Sl (((gA.toUInt64 >>> (s0 &&& 0x3f).toInt64.toUInt64).toInt64) &&& m0), S2] [(.int (1 : Int32)), (.ref r1), (.int p3), (.ref a2)])) rfl rfl (hb hby d28_18) _ ?_
    refine XS.iadd X79.here hx rfl (hb hby d28_19) rfl ?_
    show Steps _ _ _ (T79.setTop (mkF m 20 #[Sr a1, Sr a2, Si p3, Sr a4, Si (1 : Int32), Sl (((gA.toUInt64 >>> (s0 &&& 0x3f).toInt64.toUInt64).toInt64) &&& m0), S2] [(.int (p3 + (0 : Int32))), (.ref a2)])) _
    exact k
  rw [Int32.add_zero] at pre84
  have F85 : Arv Z h74 a2 k2 .long (6 : Int32) vs (.long (0 : Int64)) := (V2.other W74 n24)
  obtain ⟨c86, Arc86, Aqc86, Asc86, Anc86, Ahc86, Agc86⟩ := id F85
  have hin87 : ¬ (p3 < 0 ∨ c86.slots.size ≤ (p3).toNatClampNeg) := inb_of Asc86 (own_inA hp)
  have hat88 : c86.slots[(p3).toNatClampNeg]? = some (.long gA) := Has.at Ahc86 hin87 hgA
  have F89 : Fld Z h74 a1 "com/example/darlington/darlington/core/StateLayout" "shiftOf" "[I" (.ref r2) := (F_r2.other W74 (Or.inl n14))
  obtain ⟨T90, X90, e90, st90⟩ := getF X79 hx hZ hown (host := "") (Or.inl (ow hw 112 rfl)) Via.refl e79 F89 (g := (mkF m 22 #[Sr a1, Sr a2, Si p3, Sr a4, Si (1 : Int32), Sl (((gA.toUInt64 >>> (s0 &&& 0x3f).toInt64.toUInt64).toInt64) &&& m0), S2] [(.ref a1), (.long gA)])) rfl rfl (hb hby d28_22)
  have F91 : Arv Z h74 r2 c2 .int (3 : Int32) [(.int s0), (.int s1), (.int s2)] (.int (0 : Int32)) := (V_r2.other W74 nr2)
  obtain ⟨c92, Arc92, Aqc92, Asc92, Anc92, Ahc92, Agc92⟩ := id F91
  have hin93 : ¬ ((1 : Int32) < 0 ∨ c92.slots.size ≤ ((1 : Int32)).toNatClampNeg) := inb_of Asc92 ⟨by decide, by decide⟩
  have hat94 : c92.slots[((1 : Int32)).toNatClampNeg]? = some (.int s1) := Has.at Ahc92 hin93 rfl
  have F95 : Fld Z h74 a1 "com/example/darlington/darlington/core/StateLayout" "maskOf" "[J" (.ref r3) := (F_r3.other W74 (Or.inl n14))
  obtain ⟨T96, X96, e96, st96⟩ := getF X90 hx hZ hown (host := "") (Or.inl (ow hw 115 rfl)) Via.refl e90 F95 (g := (mkF m 30 #[Sr a1, Sr a2, Si p3, Sr a4, Si (1 : Int32), Sl (((gA.toUInt64 >>> (s0 &&& 0x3f).toInt64.toUInt64).toInt64) &&& m0), S2] [(.ref a1), (.long ((gA.toUInt64 >>> (s1 &&& 0x3f).toInt64.toUInt64).toInt64))])) rfl rfl (hb hby d28_30)
  have F97 : Arv Z h74 r3 c3 .long (3 : Int32) [(.long m0), (.long m1), (.long m2)] (.long (0 : Int64)) := (V_r3.other W74 nr3)
  obtain ⟨c98, Arc98, Aqc98, Asc98, Anc98, Ahc98, Agc98⟩ := id F97
  have hin99 : ¬ ((1 : Int32) < 0 ∨ c98.slots.size ≤ ((1 : Int32)).toNatClampNeg) := inb_of Asc98 ⟨by decide, by decide⟩
  have hat100 : c98.slots[((1 : Int32)).toNatClampNeg]? = some (.long m1) := Has.at Ahc98 hin99 rfl
  have F101 : Fld Z h74 a1 "com/example/darlington/darlington/core/StateLayout" "firstOf" "[I" (.ref r4) := (F_r4.other W74 (Or.inl n14))
  obtain ⟨T102, X102, e102, st102⟩ := getF X96 hx hZ hown (host := "") (Or.inl (ow hw 117 rfl)) Via.refl e96 F101 (g := (mkF m 43 #[Sr a1, Sr a2, Si p3, Sr a4, Si (1 : Int32), Sl (((gA.toUInt64 >>> (s1 &&& 0x3f).toInt64.toUInt64).toInt64) &&& m1), S2] [(.ref a1), (.int (1 : Int32)), (.ref a4)])) rfl rfl (hb hby d28_43)
  have F103 : Arv Z h74 r4 c4 .int (3 : Int32) [(.int f0), (.int f1), (.int f2)] (.int (0 : Int32)) := (V_r4.other W74 nr4)
  obtain ⟨c104, Arc104, Aqc104, Asc104, Anc104, Ahc104, Agc104⟩ := id F103
  have hin105 : ¬ ((1 : Int32) < 0 ∨ c104.slots.size ≤ ((1 : Int32)).toNatClampNeg) := inb_of Asc104 ⟨by decide, by decide⟩
  have hat106 : c104.slots[((1 : Int32)).toNatClampNeg]? = some (.int f1) := Has.at Ahc104 hin105 rfl
  obtain ⟨c107, Arc107, Aqc107, Asc107, Anc107, Ahc107, Agc107⟩ := id V74
  have hin108 : ¬ ((1 : Int32) < 0 ∨ c107.slots.size ≤ ((1 : Int32)).toNatClampNeg) := inb_of Asc107 ⟨by decide, by decide⟩
  obtain ⟨T109, h109, X109, e109, W109, st109⟩ := stI X102 hx hZ e102 Arc107 (j := (1 : Int32)) hin108 (g := (mkF m 53 #[Sr a1, Sr a2, Si p3, Sr a4, Si (1 : Int32), Sl (((gA.toUInt64 >>> (s1 &&& 0x3f).toInt64.toUInt64).toInt64) &&& m1), S2] [(.int (f1 + ((((gA.toUInt64 >>> (s1 &&& 0x3f).toInt64.toUInt64).toInt64) &&& m1).toInt32))), (.int (1 : Int32)), (.ref a4)])) rfl rfl (hb hby d28_53)
  have KC110 : Keep h0 h109 [a4] := KC75.wr W109 (Or.inl (List.mem_of_getElem? (i := 0) rfl))
  have V109 : Arv Z h109 a4 k4 .int (3 : Int32) [(.int (f0 + ((((gA.toUInt64 >>> (s0 &&& 0x3f).toInt64.toUInt64).toInt64) &&& m0).toInt32))), (.int (f1 + ((((gA.toUInt64 >>> (s1 &&& 0x3f).toInt64.toUInt64).toInt64) &&& m1).toInt32))), (.int y2)] (.int (0 : Int32)) := Arv.set Arc107 Aqc107 Asc107 Anc107 Ahc107 Agc107 rfl W109 1 rfl (Nat.le_of_ble_eq_true rfl)
  have N111 := Fr.snoc X109 N76 g4
  obtain ⟨c112, Arc112, Aqc112, Asc112, Anc112, Ahc112, Agc112⟩ := id V109
  have F113 : Fld Z h109 a1 "com/example/darlington/darlington/core/StateLayout" "wordOf" "[I" (.ref r1) := (F78.other W109 (Or.inl n14))
  obtain ⟨T114, X114, e114, st114⟩ := getF X109 hx hZ hown (host := "") (Or.inl (ow hw 110 rfl)) Via.refl e109 F113 (g := (mkF m 13 #[Sr a1, Sr a2, Si p3, Sr a4, Si (2 : Int32), Sl (((gA.toUInt64 >>> (s1 &&& 0x3f).toInt64.toUInt64).toInt64) &&& m1), S2] [(.ref a1), (.int p3), (.ref a2)])) rfl rfl (hb hby d28_13)
  have F115 : Arv Z h109 r1 c1 .int (3 : Int32) [(.int (0 : Int32)), (.int (0 : Int32)), (.int (1 : Int32))] (.int (0 : Int32)) := (F80.other W109 nr1)
  obtain ⟨c116, Arc116, Aqc116, Asc116, Anc116, Ahc116, Agc116⟩ := id F115
  have hin117 : ¬ ((2 : Int32) < 0 ∨ c116.slots.size ≤ ((2 : Int32)).toNatClampNeg) := inb_of Asc116 ⟨by decide, by decide⟩
  have hat118 : c116.slots[((2 : Int32)).toNatClampNeg]? = some (.int (1 : Int32)) := Has.at Ahc116 hin117 rfl
  have F119 : Arv Z h109 a2 k2 .long (6 : Int32) vs (.long (0 : Int64)) := (F85.other W109 n24)
  obtain ⟨c120, Arc120, Aqc120, Asc120, Anc120, Ahc120, Agc120⟩ := id F119
  have hin121 : ¬ ((p3 + (1 : Int32)) < 0 ∨ c120.slots.size ≤ ((p3 + (1 : Int32))).toNatClampNeg) := inb_of Asc120 (own_inB hp)
  have hat122 : c120.slots[((p3 + (1 : Int32))).toNatClampNeg]? = some (.long gB) := Has.at Ahc120 hin121 hgB
  have F123 : Fld Z h109 a1 "com/example/darlington/darlington/core/StateLayout" "shiftOf" "[I" (.ref r2) := (F89.other W109 (Or.inl n14))
  obtain ⟨T124, X124, e124, st124⟩ := getF X114 hx hZ hown (host := "") (Or.inl (ow hw 112 rfl)) Via.refl e114 F123 (g := (mkF m 22 #[Sr a1, Sr a2, Si p3, Sr a4, Si (2 : Int32), Sl (((gA.toUInt64 >>> (s1 &&& 0x3f).toInt64.toUInt64).toInt64) &&& m1), S2] [(.ref a1), (.long gB)])) rfl rfl (hb hby d28_22)
  have F125 : Arv Z h109 r2 c2 .int (3 : Int32) [(.int s0), (.int s1), (.int s2)] (.int (0 : Int32)) := (F91.other W109 nr2)
  obtain ⟨c126, Arc126, Aqc126, Asc126, Anc126, Ahc126, Agc126⟩ := id F125
  have hin127 : ¬ ((2 : Int32) < 0 ∨ c126.slots.size ≤ ((2 : Int32)).toNatClampNeg) := inb_of Asc126 ⟨by decide, by decide⟩
  have hat128 : c126.slots[((2 : Int32)).toNatClampNeg]? = some (.int s2) := Has.at Ahc126 hin127 rfl
  have F129 : Fld Z h109 a1 "com/example/darlington/darlington/core/StateLayout" "maskOf" "[J" (.ref r3) := (F95.other W109 (Or.inl n14))
  obtain ⟨T130, X130, e130, st130⟩ := getF X124 hx hZ hown (host := "") (Or.inl (ow hw 115 rfl)) Via.refl e124 F129 (g := (mkF m 30 #[Sr a1, Sr a2, Si p3, Sr a4, Si (2 : Int32), Sl (((gA.toUInt64 >>> (s1 &&& 0x3f).toInt64.toUInt64).toInt64) &&& m1), S2] [(.ref a1), (.long ((gB.toUInt64 >>> (s2 &&& 0x3f).toInt64.toUInt64).toInt64))])) rfl rfl (hb hby d28_30)
  have F131 : Arv Z h109 r3 c3 .long (3 : Int32) [(.long m0), (.long m1), (.long m2)] (.long (0 : Int64)) := (F97.other W109 nr3)
  obtain ⟨c132, Arc132, Aqc132, Asc132, Anc132, Ahc132, Agc132⟩ := id F131
  have hin133 : ¬ ((2 : Int32) < 0 ∨ c132.slots.size ≤ ((2 : Int32)).toNatClampNeg) := inb_of Asc132 ⟨by decide, by decide⟩
  have hat134 : c132.slots[((2 : Int32)).toNatClampNeg]? = some (.long m2) := Has.at Ahc132 hin133 rfl
  have F135 : Fld Z h109 a1 "com/example/darlington/darlington/core/StateLayout" "firstOf" "[I" (.ref r4) := (F101.other W109 (Or.inl n14))
  obtain ⟨T136, X136, e136, st136⟩ := getF X130 hx hZ hown (host := "") (Or.inl (ow hw 117 rfl)) Via.refl e130 F135 (g := (mkF m 43 #[Sr a1, Sr a2, Si p3, Sr a4, Si (2 : Int32), Sl (((gB.toUInt64 >>> (s2 &&& 0x3f).toInt64.toUInt64).toInt64) &&& m2), S2] [(.ref a1), (.int (2 : Int32)), (.ref a4)])) rfl rfl (hb hby d28_43)
  have F137 : Arv Z h109 r4 c4 .int (3 : Int32) [(.int f0), (.int f1), (.int f2)] (.int (0 : Int32)) := (F103.other W109 nr4)
  obtain ⟨c138, Arc138, Aqc138, Asc138, Anc138, Ahc138, Agc138⟩ := id F137
  have hin139 : ¬ ((2 : Int32) < 0 ∨ c138.slots.size ≤ ((2 : Int32)).toNatClampNeg) := inb_of Asc138 ⟨by decide, by decide⟩
  have hat140 : c138.slots[((2 : Int32)).toNatClampNeg]? = some (.int f2) := Has.at Ahc138 hin139 rfl
  have pre141 : ∀ t, Steps p.tables e below (T136.setTop (mkF m 51 #[Sr a1, Sr a2, Si p3, Sr a4, Si (2 : Int32), Sl (((gB.toUInt64 >>> (s2 &&& 0x3f).toInt64.toUInt64).toInt64) &&& m2), S2] [(.long (((gB.toUInt64 >>> (s2 &&& 0x3f).toInt64.toUInt64).toInt64) &&& m2)), (.int f2), (.int (2 : Int32)), (.ref a4)])) t → Steps p.tables e below (s₁.setTop (entryFrame m #[(.ref a1), (.ref a2), (.int p3), (.ref a4)] 7)) t := by
    intro t k
    refine pre84 t ?_
    refine X79.laload hx (j := p3) (v := (.long gA)) (by rw [e79]; exact Arc86.1) (State.isArrayOf_alike hZ.alike Arc86.2.1) Arc86.2.2 hin87 hat88 (g := (mkF m 20 #[Sr a1, Sr a2, Si p3, Sr a4, Si (1 : Int32), Sl (((gA.toUInt64 >>> (s0 &&& 0x3f).toInt64.toUInt64).toInt64) &&& m0), S2] [(.int p3), (.ref a2)])) rfl rfl (hb hby d28_20) _ ?_
    refine XS.aloadN X79.here hx rfl (hb hby d28_21) rfl rfl ?_
    refine st90 _ ?_
    refine XS.iload X90.here hx rfl (hb hby d28_25) rfl ?_
    refine X90.iaload hx (j := (1 : Int32)) (v := (.int s1)) (by rw [e90]; exact Arc92.1) (State.isArrayOf_alike hZ.alike Arc92.2.1) Arc92.2.2 hin93 hat94 (g := (mkF m 27 #[Sr a1, Sr a2, Si p3, Sr a4, Si (1 : Int32), Sl (((gA.toUInt64 >>> (s0 &&& 0x3f).toInt64.toUInt64).toInt64) &&& m0), S2] [(.int (1 : Int32)), (.ref r2), (.long gA)])) rfl rfl (hb hby d28_27) _ ?_
    refine XS.lushr X90.here hx rfl (hb hby d28_28) rfl ?_
    refine XS.aloadN X90.here hx rfl (hb hby d28_29) rfl rfl ?_
    refine st96 _ ?_
    show Steps _ _ _ (T96.setTop (mkF m 33 #[Sr a1, Sr a2, Si p3, Sr a4, Si (1 : Int32), Sl (((gA.toUInt64 >>> (s0 &&& 0x3f).toInt64.toUInt64).toInt64) &&& m0), S2] [(.ref r3), (.long ((gA.toUInt64 >>> (s1 &&& 0x3f).toInt64.toUInt64).toInt64))])) _
    refine XS.iload X96.here hx rfl (hb hby d28_33) rfl ?_
    refine X96.laload hx (j := (1 : Int32)) (v := (.long m1)) (by rw [e96]; exact Arc98.1) (State.isArrayOf_alike hZ.alike Arc98.2.1) Arc98.2.2 hin99 hat100 (g := (mkF m 35 #[Sr a1, Sr a2, Si p3, Sr a4, Si (1 : Int32), Sl (((gA.toUInt64 >>> (s0 &&& 0x3f).toInt64.toUInt64).toInt64) &&& m0), S2] [(.int (1 : Int32)), (.ref r3), (.long ((gA.toUInt64 >>> (s1 &&& 0x3f).toInt64.toUInt64).toInt64))])) rfl rfl (hb hby d28_35) _ ?_
    refine XS.land X96.here hx rfl (hb hby d28_36) rfl ?_
    refine XS.lstore X96.here hx rfl (hb hby d28_37) rfl (l' := #[Sr a1, Sr a2, Si p3, Sr a4, Si (1 : Int32), Sl (((gA.toUInt64 >>> (s1 &&& 0x3f).toInt64.toUInt64).toInt64) &&& m1), S2]) rfl ?_
    refine XS.aloadN X96.here hx rfl (hb hby d28_39) rfl rfl ?_
    refine XS.iload X96.here hx rfl (hb hby d28_40) rfl ?_
    refine XS.aloadN X96.here hx rfl (hb hby d28_42) rfl rfl ?_
    refine st102 _ ?_
    show Steps _ _ _ (T102.setTop (mkF m 46 #[Sr a1, Sr a2, Si p3, Sr a4, Si (1 : Int32), Sl (((gA.toUInt64 >>> (s1 &&& 0x3f).toInt64.toUInt64).toInt64) &&& m1), S2] [(.ref r4), (.int (1 : Int32)), (.ref a4)])) _
    refine XS.iload X102.here hx rfl (hb hby d28_46) rfl ?_
    refine X102.iaload hx (j := (1 : Int32)) (v := (.int f1)) (by rw [e102]; exact Arc104.1) (State.isArrayOf_alike hZ.alike Arc104.2.1) Arc104.2.2 hin105 hat106 (g := (mkF m 48 #[Sr a1, Sr a2, Si p3, Sr a4, Si (1 : Int32), Sl (((gA.toUInt64 >>> (s1 &&& 0x3f).toInt64.toUInt64).toInt64) &&& m1), S2] [(.int (1 : Int32)), (.ref r4), (.int (1 : Int32)), (.ref a4)])) rfl rfl (hb hby d28_48) _ ?_
    refine XS.lload X102.here hx rfl (hb hby d28_49) rfl ?_
    refine XS.l2i X102.here hx rfl (hb hby d28_51) rfl ?_
    refine XS.iadd X102.here hx rfl (hb hby d28_52) rfl ?_
    refine st109 _ ?_
    refine XS.iinc X109.here hx rfl (hb hby d28_54) rfl (l' := #[Sr a1, Sr a2, Si p3, Sr a4, Si (2 : Int32), Sl (((gA.toUInt64 >>> (s1 &&& 0x3f).toInt64.toUInt64).toInt64) &&& m1), S2]) rfl ?_
    refine XS.goto X109.here hx rfl (pc0 := 57) (pc' := 3) rfl (hb hby d28_57) (by decide) (by decide) ?_
    show Steps _ _ _ (T109.setTop (mkF m 3 #[Sr a1, Sr a2, Si p3, Sr a4, Si (2 : Int32), Sl (((gA.toUInt64 >>> (s1 &&& 0x3f).toInt64.toUInt64).toInt64) &&& m1), S2] [])) _
    refine XS.iload X109.here hx rfl (hb hby d28_3) rfl ?_
    refine XS.aloadN X109.here hx rfl (hb hby d28_5) rfl rfl ?_
    refine X109.arraylength hx (by rw [e109]; exact Arc112.1) (State.isArrayOf_alike hZ.alike Arc112.2.1) (g := (mkF m 6 #[Sr a1, Sr a2, Si p3, Sr a4, Si (2 : Int32), Sl (((gA.toUInt64 >>> (s1 &&& 0x3f).toInt64.toUInt64).toInt64) &&& m1), S2] [(.ref a4), (.int (2 : Int32))])) rfl rfl (hb hby d28_6) _ ?_
    rw [len_of Asc112 Anc112]
    refine XS.icmpNo X109.here hx rfl (hb hby d28_7) rfl (tlt (by decide)).2.1 ?_
    refine XS.aloadN X109.here hx rfl (hb hby d28_10) rfl rfl ?_
    refine XS.iloadN X109.here hx rfl (hb hby d28_11) rfl ?_
    refine XS.aloadN X109.here hx rfl (hb hby d28_12) rfl rfl ?_
    refine st114 _ ?_
    show Steps _ _ _ (T114.setTop (mkF m 16 #[Sr a1, Sr a2, Si p3, Sr a4, Si (2 : Int32), Sl (((gA.toUInt64 >>> (s1 &&& 0x3f).toInt64.toUInt64).toInt64) &&& m1), S2] [(.ref r1), (.int p3), (.ref a2)])) _
    refine XS.iload X114.here hx rfl (hb hby d28_16) rfl ?_
    refine X114.iaload hx (j := (2 : Int32)) (v := (.int (1 : Int32))) (by rw [e114]; exact Arc116.1) (State.isArrayOf_alike hZ.alike Arc116.2.1) Arc116.2.2 hin117 hat118 (g := (mkF m 18 #[Sr a1, Sr a2, Si p3, Sr a4, Si (2 : Int32), Sl (((gA.toUInt64 >>> (s1 &&& 0x3f).toInt64.toUInt64).toInt64) &&& m1), S2] [(.int (2 : Int32)), (.ref r1), (.int p3), (.ref a2)])) rfl rfl (hb hby d28_18) _ ?_
    refine XS.iadd X114.here hx rfl (hb hby d28_19) rfl ?_
    refine X114.laload hx (j := (p3 + (1 : Int32))) (v := (.long gB)) (by rw [e114]; exact Arc120.1) (State.isArrayOf_alike hZ.alike Arc120.2.1) Arc120.2.2 hin121 hat122 (g := (mkF m 20 #[Sr a1, Sr a2, Si p3, Sr a4, Si (2 : Int32), Sl (((gA.toUInt64 >>> (s1 &&& 0x3f).toInt64.toUInt64).toInt64) &&& m1), S2] [(.int (p3 + (1 : Int32))), (.ref a2)])) rfl rfl (hb hby d28_20) _ ?_
    refine XS.aloadN X114.here hx rfl (hb hby d28_21) rfl rfl ?_
    refine st124 _ ?_
    refine XS.iload X124.here hx rfl (hb hby d28_25) rfl ?_
    refine X124.iaload hx (j := (2 : Int32)) (v := (.int s2)) (by rw [e124]; exact Arc126.1) (State.isArrayOf_alike hZ.alike Arc126.2.1) Arc126.2.2 hin127 hat128 (g := (mkF m 27 #[Sr a1, Sr a2, Si p3, Sr a4, Si (2 : Int32), Sl (((gA.toUInt64 >>> (s1 &&& 0x3f).toInt64.toUInt64).toInt64) &&& m1), S2] [(.int (2 : Int32)), (.ref r2), (.long gB)])) rfl rfl (hb hby d28_27) _ ?_
    show Steps _ _ _ (T124.setTop (mkF m 28 #[Sr a1, Sr a2, Si p3, Sr a4, Si (2 : Int32), Sl (((gA.toUInt64 >>> (s1 &&& 0x3f).toInt64.toUInt64).toInt64) &&& m1), S2] [(.int s2), (.long gB)])) _
    refine XS.lushr X124.here hx rfl (hb hby d28_28) rfl ?_
    refine XS.aloadN X124.here hx rfl (hb hby d28_29) rfl rfl ?_
    refine st130 _ ?_
    refine XS.iload X130.here hx rfl (hb hby d28_33) rfl ?_
    refine X130.laload hx (j := (2 : Int32)) (v := (.long m2)) (by rw [e130]; exact Arc132.1) (State.isArrayOf_alike hZ.alike Arc132.2.1) Arc132.2.2 hin133 hat134 (g := (mkF m 35 #[Sr a1, Sr a2, Si p3, Sr a4, Si (2 : Int32), Sl (((gA.toUInt64 >>> (s1 &&& 0x3f).toInt64.toUInt64).toInt64) &&& m1), S2] [(.int (2 : Int32)), (.ref r3), (.long ((gB.toUInt64 >>> (s2 &&& 0x3f).toInt64.toUInt64).toInt64))])) rfl rfl (hb hby d28_35) _ ?_
    refine XS.land X130.here hx rfl (hb hby d28_36) rfl ?_
    refine XS.lstore X130.here hx rfl (hb hby d28_37) rfl (l' := #[Sr a1, Sr a2, Si p3, Sr a4, Si (2 : Int32), Sl (((gB.toUInt64 >>> (s2 &&& 0x3f).toInt64.toUInt64).toInt64) &&& m2), S2]) rfl ?_
    refine XS.aloadN X130.here hx rfl (hb hby d28_39) rfl rfl ?_
    show Steps _ _ _ (T130.setTop (mkF m 40 #[Sr a1, Sr a2, Si p3, Sr a4, Si (2 : Int32), Sl (((gB.toUInt64 >>> (s2 &&& 0x3f).toInt64.toUInt64).toInt64) &&& m2), S2] [(.ref a4)])) _
    refine XS.iload X130.here hx rfl (hb hby d28_40) rfl ?_
    refine XS.aloadN X130.here hx rfl (hb hby d28_42) rfl rfl ?_
    refine st136 _ ?_
    refine XS.iload X136.here hx rfl (hb hby d28_46) rfl ?_
    refine X136.iaload hx (j := (2 : Int32)) (v := (.int f2)) (by rw [e136]; exact Arc138.1) (State.isArrayOf_alike hZ.alike Arc138.2.1) Arc138.2.2 hin139 hat140 (g := (mkF m 48 #[Sr a1, Sr a2, Si p3, Sr a4, Si (2 : Int32), Sl (((gB.toUInt64 >>> (s2 &&& 0x3f).toInt64.toUInt64).toInt64) &&& m2), S2] [(.int (2 : Int32)), (.ref r4), (.int (2 : Int32)), (.ref a4)])) rfl rfl (hb hby d28_48) _ ?_
    refine XS.lload X136.here hx rfl (hb hby d28_49) rfl ?_
    exact k
  obtain ⟨c142, Arc142, Aqc142, Asc142, Anc142, Ahc142, Agc142⟩ := id V109
  have hin143 : ¬ ((2 : Int32) < 0 ∨ c142.slots.size ≤ ((2 : Int32)).toNatClampNeg) := inb_of Asc142 ⟨by decide, by decide⟩
  obtain ⟨T144, h144, X144, e144, W144, st144⟩ := stI X136 hx hZ e136 Arc142 (j := (2 : Int32)) hin143 (g := (mkF m 53 #[Sr a1, Sr a2, Si p3, Sr a4, Si (2 : Int32), Sl (((gB.toUInt64 >>> (s2 &&& 0x3f).toInt64.toUInt64).toInt64) &&& m2), S2] [(.int (f2 + ((((gB.toUInt64 >>> (s2 &&& 0x3f).toInt64.toUInt64).toInt64) &&& m2).toInt32))), (.int (2 : Int32)), (.ref a4)])) rfl rfl (hb hby d28_53)
  have KC145 : Keep h0 h144 [a4] := KC110.wr W144 (Or.inl (List.mem_of_getElem? (i := 0) rfl))
  have V144 : Arv Z h144 a4 k4 .int (3 : Int32) [(.int (f0 + ((((gA.toUInt64 >>> (s0 &&& 0x3f).toInt64.toUInt64).toInt64) &&& m0).toInt32))), (.int (f1 + ((((gA.toUInt64 >>> (s1 &&& 0x3f).toInt64.toUInt64).toInt64) &&& m1).toInt32))), (.int (f2 + ((((gB.toUInt64 >>> (s2 &&& 0x3f).toInt64.toUInt64).toInt64) &&& m2).toInt32)))] (.int (0 : Int32)) := Arv.set Arc142 Aqc142 Asc142 Anc142 Ahc142 Agc142 rfl W144 2 rfl (Nat.le_of_ble_eq_true rfl)
  have N146 := Fr.snoc X144 N111 g4
  obtain ⟨c147, Arc147, Aqc147, Asc147, Anc147, Ahc147, Agc147⟩ := id V144
  have pre148 : ∀ t, Steps p.tables e below (T144.setTop (mkF m 60 #[Sr a1, Sr a2, Si p3, Sr a4, Si (3 : Int32), Sl (((gB.toUInt64 >>> (s2 &&& 0x3f).toInt64.toUInt64).toInt64) &&& m2), S2] [])) t → Steps p.tables e below (s₁.setTop (entryFrame m #[(.ref a1), (.ref a2), (.int p3), (.ref a4)] 7)) t := by
    intro t k
    refine pre141 t ?_
    refine XS.l2i X136.here hx rfl (hb hby d28_51) rfl ?_
    refine XS.iadd X136.here hx rfl (hb hby d28_52) rfl ?_
    show Steps _ _ _ (T136.setTop (mkF m 53 #[Sr a1, Sr a2, Si p3, Sr a4, Si (2 : Int32), Sl (((gB.toUInt64 >>> (s2 &&& 0x3f).toInt64.toUInt64).toInt64) &&& m2), S2] [(.int (f2 + ((((gB.toUInt64 >>> (s2 &&& 0x3f).toInt64.toUInt64).toInt64) &&& m2).toInt32))), (.int (2 : Int32)), (.ref a4)])) _
    refine st144 _ ?_
    refine XS.iinc X144.here hx rfl (hb hby d28_54) rfl (l' := #[Sr a1, Sr a2, Si p3, Sr a4, Si (3 : Int32), Sl (((gB.toUInt64 >>> (s2 &&& 0x3f).toInt64.toUInt64).toInt64) &&& m2), S2]) rfl ?_
    refine XS.goto X144.here hx rfl (pc0 := 57) (pc' := 3) rfl (hb hby d28_57) (by decide) (by decide) ?_
    refine XS.iload X144.here hx rfl (hb hby d28_3) rfl ?_
    refine XS.aloadN X144.here hx rfl (hb hby d28_5) rfl rfl ?_
    refine X144.arraylength hx (by rw [e144]; exact Arc147.1) (State.isArrayOf_alike hZ.alike Arc147.2.1) (g := (mkF m 6 #[Sr a1, Sr a2, Si p3, Sr a4, Si (3 : Int32), Sl (((gB.toUInt64 >>> (s2 &&& 0x3f).toInt64.toUInt64).toInt64) &&& m2), S2] [(.ref a4), (.int (3 : Int32))])) rfl rfl (hb hby d28_6) _ ?_
    rw [len_of Asc147 Anc147]
    refine XS.icmpYes X144.here hx rfl (pc0 := 7) (pc' := 60) rfl (hb hby d28_7) rfl (flt (by decide)).2.1 (by decide) (by decide) ?_
    exact k
  obtain ⟨fs, hr, hrun, hended, hW, hsame⟩ := X144.leave (v := none) (fun _ => rfl)
  refine ⟨_, _, pre148 _ ?_, hrun, hended, _, _, rfl, ?_, ⟨_, rfl⟩, hW, hsame.mono (by decide) (by decide)⟩
  · exact X144.returnOut hx Bd.returns (hb hby d28_60) hr
  · show Q_rm_unpB Z a1 a2 p3 a4 r1 r2 r3 r4 c1 c2 c3 c4 s0 s1 s2 m0 m1 m2 f0 f1 f2 k2 k4 vs gA gB y0 y1 y2 h0 n0 _ T144.heap _
    rw [e144]
    exact ⟨rfl, N146, KC145, V144⟩
theorem d1_0 : decode method_3_code 0 = .ok (.lload_n 0, 1) := by decide +kernel
theorem d1_1 : decode method_3_code 1 = .ok (.bipush 32, 2) := by decide +kernel
theorem d1_3 : decode method_3_code 3 = .ok (.lushr, 1) := by decide +kernel
theorem d1_4 : decode method_3_code 4 = .ok (.l2i, 1) := by decide +kernel
theorem d1_5 : decode method_3_code 5 = .ok (.ldc 47, 2) := by decide +kernel
theorem d1_7 : decode method_3_code 7 = .ok (.iand, 1) := by decide +kernel
theorem d1_8 : decode method_3_code 8 = .ok (.istore_n 3, 1) := by decide +kernel
theorem d1_9 : decode method_3_code 9 = .ok (.iload_n 3, 1) := by decide +kernel
theorem d1_10 : decode method_3_code 10 = .ok (.iload_n 2, 1) := by decide +kernel
theorem d1_11 : decode method_3_code 11 = .ok (.iushr, 1) := by decide +kernel
theorem d1_12 : decode method_3_code 12 = .ok (.istore_n 3, 1) := by decide +kernel
theorem d1_13 : decode method_3_code 13 = .ok (.iload_n 3, 1) := by decide +kernel
theorem d1_14 : decode method_3_code 14 = .ok (.ldc 47, 2) := by decide +kernel
theorem d1_16 : decode method_3_code 16 = .ok (.if_icmp .ne 6, 3) := by decide +kernel
theorem d1_19 : decode method_3_code 19 = .ok (.ldc 48, 2) := by decide +kernel
theorem d1_21 : decode method_3_code 21 = .ok (.istore_n 3, 1) := by decide +kernel
theorem d1_22 : decode method_3_code 22 = .ok (.iload_n 3, 1) := by decide +kernel
theorem d1_23 : decode method_3_code 23 = .ok (.ireturn, 1) := by decide +kernel
theorem pn_10 : plainName "com/example/darlington/darlington/core/StateLayoutUnpackPinLaw" = true := by first | (simp [plainName, overriddenIn]; done) | decide +kernel
def own_span (q1 : Int64) (p2 : Int32) : Int32 := (if ((((((q1.toUInt64 >>> ((32 : Int32) &&& 0x3f).toInt64.toUInt64).toInt64).toInt32) &&& (2147483647 : Int32)).toUInt32 >>> (p2 &&& 31).toUInt32).toInt32) = (2147483647 : Int32) then (2147483646 : Int32) else ((((((q1.toUInt64 >>> ((32 : Int32) &&& 0x3f).toInt64.toUInt64).toInt64).toInt32) &&& (2147483647 : Int32)).toUInt32 >>> (p2 &&& 31).toUInt32).toInt32))
theorem ef_rm1 (m : MethodId) (x0 : Int64) (x1 : Int32) : entryFrame m #[(.long x0), (.int x1)] 4 = mkF m 0 #[Sl x0, S2, Si x1, Su] [] := by first | (simp [entryFrame, mkF, argsToLocals, Value.category]; done) | rfl
def Q_rm1 (Z : State) (q1 : Int64) (p2 : Int32) (h0 : Heap) (n0 : Nat) (v : Option Value) (h : Heap) (L : List Loc) : Prop := v = some (.int (own_span q1 p2)) ∧ Fr n0 L ∧ h = h0
set_option maxRecDepth 65536 in
set_option maxHeartbeats 40000000 in
theorem rm1 (l : Launch) (Z : State) (a0 : Array Value) (hw : ∀ d ∈ tables_1, d.before a0 Z = true) (ws : List Jvm.Cond) (q1 : Int64) (p2 : Int32) (h0 : Heap) (n0 : Nat) (Z0 : n0 ≤ h0.size) :
    MetFree l (⟨"com/example/darlington/darlington/core/StateLayoutUnpackPinLaw", "span", "(JI)I"⟩ : MethodName) (head1 (Jvm.Cond.code (⟨"com/example/darlington/darlington/core/StateLayoutUnpackPinLaw", "span", "(JI)I"⟩ : MethodName) method_3_code 4 (some .int) :: ws) ({ frames := 0, cells := 0, slots := 0, locals := 0 } : Room)) (fun a U => a = #[(.long q1), (.int p2)] ∧ Z.Warmed39 U.vm ∧ U.heap = h0) (fun _ _ _ _ _ => True) (fun _ U o U' => ∃ v L, o = .returned v ∧ Q_rm1 Z q1 p2 h0 n0 v U'.heap L ∧ FrameEnd U o U' L ({ frames := 0, cells := 0, slots := 0, locals := 0 } : Room).cells ({ frames := 0, cells := 0, slots := 0, locals := 0 } : Room).slots) := by
  refine MetFree.of_bodySF (plainFor_of_name pn_10) hisR ?_
  intro p e s m args below meth c s₁ Bd hml0 hP hK
  obtain ⟨rfl, hZ, hh⟩ := hP
  have hx := Bd.exec
  have hby := Bd.bytes
  have hml : c.maxLocals = 4 := hml0
  have hown : s.vm.findClass "com/example/darlington/darlington/core/StateLayoutUnpackPinLaw" = some m.cls := findClass_of_methodNamed Bd.named
  have hnm := (name_of_methodNamed Bd.named Bd.method).1
  have X0 : Stand p l e ({ frames := 0, cells := 0, slots := 0, locals := 0 } : Room) s m #[(.long q1), (.int p2)] below meth c s₁ [] 0 0 := Stand.of_body Bd
  have e0 : s₁.heap = h0 := by rw [← hh, Bd.state]; rfl
  have N0 := Fr.nil n0
  have pre0 : ∀ t, Steps p.tables e below (s₁.setTop (mkF m 0 #[Sl q1, S2, Si p2, Su] [])) t → Steps p.tables e below (s₁.setTop (entryFrame m #[(.long q1), (.int p2)] 4)) t := fun t k => castTop (ef_rm1 m q1 p2) k
  have pre53 : ∀ t, Steps p.tables e below (s₁.setTop (mkF m 22 #[Sl q1, S2, Si p2, Si (if ((((((q1.toUInt64 >>> ((32 : Int32) &&& 0x3f).toInt64.toUInt64).toInt64).toInt32) &&& (2147483647 : Int32)).toUInt32 >>> (p2 &&& 31).toUInt32).toInt32) = (2147483647 : Int32) then (2147483646 : Int32) else ((((((q1.toUInt64 >>> ((32 : Int32) &&& 0x3f).toInt64.toUInt64).toInt64).toInt32) &&& (2147483647 : Int32)).toUInt32 >>> (p2 &&& 31).toUInt32).toInt32))] [])) t → Steps p.tables e below (s₁.setTop (entryFrame m #[(.long q1), (.int p2)] 4)) t := by
    intro t k
    refine pre0 t ?_
    refine XS.lloadN X0.here hx rfl (hb hby d1_0) rfl ?_
    refine XS.bipush X0.here hx rfl (hb hby d1_1) ?_
    refine XS.lushr X0.here hx rfl (hb hby d1_3) rfl ?_
    refine XS.l2i X0.here hx rfl (hb hby d1_4) rfl ?_
    refine X0.ldcInt hx hown (mvT hZ (ow hw 4 rfl)) (g := (mkF m 5 #[Sl q1, S2, Si p2, Su] [(.int (((q1.toUInt64 >>> ((32 : Int32) &&& 0x3f).toInt64.toUInt64).toInt64).toInt32))])) rfl (hb hby d1_5) _ ?_
    refine XS.iand X0.here hx rfl (hb hby d1_7) rfl ?_
    refine XS.istoreN X0.here hx rfl (hb hby d1_8) rfl (l' := #[Sl q1, S2, Si p2, Si ((((q1.toUInt64 >>> ((32 : Int32) &&& 0x3f).toInt64.toUInt64).toInt64).toInt32) &&& (2147483647 : Int32))]) rfl ?_
    refine XS.iloadN X0.here hx rfl (hb hby d1_9) rfl ?_
    show Steps _ _ _ (s₁.setTop (mkF m 10 #[Sl q1, S2, Si p2, Si ((((q1.toUInt64 >>> ((32 : Int32) &&& 0x3f).toInt64.toUInt64).toInt64).toInt32) &&& (2147483647 : Int32))] [(.int ((((q1.toUInt64 >>> ((32 : Int32) &&& 0x3f).toInt64.toUInt64).toInt64).toInt32) &&& (2147483647 : Int32)))])) _
    refine XS.iloadN X0.here hx rfl (hb hby d1_10) rfl ?_
    refine XS.iushr X0.here hx rfl (hb hby d1_11) rfl ?_
    refine XS.istoreN X0.here hx rfl (hb hby d1_12) rfl (l' := #[Sl q1, S2, Si p2, Si ((((((q1.toUInt64 >>> ((32 : Int32) &&& 0x3f).toInt64.toUInt64).toInt64).toInt32) &&& (2147483647 : Int32)).toUInt32 >>> (p2 &&& 31).toUInt32).toInt32)]) rfl ?_
    refine XS.iloadN X0.here hx rfl (hb hby d1_13) rfl ?_
    refine X0.ldcInt hx hown (mvT hZ (ow hw 4 rfl)) (g := (mkF m 14 #[Sl q1, S2, Si p2, Si ((((((q1.toUInt64 >>> ((32 : Int32) &&& 0x3f).toInt64.toUInt64).toInt64).toInt32) &&& (2147483647 : Int32)).toUInt32 >>> (p2 &&& 31).toUInt32).toInt32)] [(.int ((((((q1.toUInt64 >>> ((32 : Int32) &&& 0x3f).toInt64.toUInt64).toInt64).toInt32) &&& (2147483647 : Int32)).toUInt32 >>> (p2 &&& 31).toUInt32).toInt32))])) rfl (hb hby d1_14) _ ?_
    by_cases hc51 : ((((((q1.toUInt64 >>> ((32 : Int32) &&& 0x3f).toInt64.toUInt64).toInt64).toInt32) &&& (2147483647 : Int32)).toUInt32 >>> (p2 &&& 31).toUInt32).toInt32) = (2147483647 : Int32)
    · simp only [if_pos hc51] at k
      refine XS.icmpNo X0.here hx rfl (hb hby d1_16) rfl (teq hc51).2 ?_
      refine X0.ldcInt hx hown (mvT hZ (ow hw 177 rfl)) (g := (mkF m 19 #[Sl q1, S2, Si p2, Si ((((((q1.toUInt64 >>> ((32 : Int32) &&& 0x3f).toInt64.toUInt64).toInt64).toInt32) &&& (2147483647 : Int32)).toUInt32 >>> (p2 &&& 31).toUInt32).toInt32)] [])) rfl (hb hby d1_19) _ ?_
      refine XS.istoreN X0.here hx rfl (hb hby d1_21) rfl (l' := #[Sl q1, S2, Si p2, Si (2147483646 : Int32)]) rfl ?_
      show Steps _ _ _ (s₁.setTop (mkF m 22 #[Sl q1, S2, Si p2, Si (2147483646 : Int32)] [])) _
      exact k
    · simp only [if_neg hc51] at k
      refine XS.icmpYes X0.here hx rfl (pc0 := 16) (pc' := 22) rfl (hb hby d1_16) rfl (feq hc51).2 (by decide) (by decide) ?_
      exact k
  obtain ⟨z52, hz52⟩ : ∃ z : Int32, z = (if ((((((q1.toUInt64 >>> ((32 : Int32) &&& 0x3f).toInt64.toUInt64).toInt64).toInt32) &&& (2147483647 : Int32)).toUInt32 >>> (p2 &&& 31).toUInt32).toInt32) = (2147483647 : Int32) then (2147483646 : Int32) else ((((((q1.toUInt64 >>> ((32 : Int32) &&& 0x3f).toInt64.toUInt64).toInt64).toInt32) &&& (2147483647 : Int32)).toUInt32 >>> (p2 &&& 31).toUInt32).toInt32)) := ⟨_, rfl⟩
  rw [← hz52] at pre53
  have pre54 : ∀ t, Steps p.tables e below (s₁.setTop (mkF m 23 #[Sl q1, S2, Si p2, Si z52] [(.int z52)])) t → Steps p.tables e below (s₁.setTop (entryFrame m #[(.long q1), (.int p2)] 4)) t := by
    intro t k
    refine pre53 t ?_
    refine XS.iloadN X0.here hx rfl (hb hby d1_22) rfl ?_
    exact k
  obtain ⟨fs, hr, hrun, hended, hW, hsame⟩ := X0.leave (v := some (.int z52)) (fun h => by rw [Bd.returns] at h; cases h)
  refine ⟨_, _, pre54 _ ?_, hrun, hended, _, _, rfl, ?_, ⟨_, rfl⟩, hW, hsame.mono (by decide) (by decide)⟩
  · exact retI X0 hx Bd.returns (hb hby d1_23) hr
  · show Q_rm1 Z q1 p2 h0 n0 _ s₁.heap _
    rw [e0]
    have hvA : z52 = (own_span q1 p2) := by
      subst hz52
      rfl
    have hv55 : z52 = (own_span q1 p2) := hvA
    exact ⟨(congrArg (fun z => some (Value.int z)) hv55), N0, rfl⟩
theorem d2_0 : decode method_4_code 0 = .ok (.lload_n 0, 1) := by decide +kernel
theorem d2_1 : decode method_4_code 1 = .ok (.l2i, 1) := by decide +kernel
theorem d2_2 : decode method_4_code 2 = .ok (.istore_n 3, 1) := by decide +kernel
theorem d2_3 : decode method_4_code 3 = .ok (.iload_n 3, 1) := by decide +kernel
theorem d2_4 : decode method_4_code 4 = .ok (.i2l, 1) := by decide +kernel
theorem d2_5 : decode method_4_code 5 = .ok (.iload_n 2, 1) := by decide +kernel
theorem d2_6 : decode method_4_code 6 = .ok (.i2l, 1) := by decide +kernel
theorem d2_7 : decode method_4_code 7 = .ok (.ladd, 1) := by decide +kernel
theorem d2_8 : decode method_4_code 8 = .ok (.ldc2_w 51, 3) := by decide +kernel
theorem d2_11 : decode method_4_code 11 = .ok (.lcmp, 1) := by decide +kernel
theorem d2_12 : decode method_4_code 12 = .ok (.ifCond .le 8, 3) := by decide +kernel
theorem d2_15 : decode method_4_code 15 = .ok (.ldc 47, 2) := by decide +kernel
theorem d2_17 : decode method_4_code 17 = .ok (.iload_n 2, 1) := by decide +kernel
theorem d2_18 : decode method_4_code 18 = .ok (.isub, 1) := by decide +kernel
theorem d2_19 : decode method_4_code 19 = .ok (.istore_n 3, 1) := by decide +kernel
theorem d2_20 : decode method_4_code 20 = .ok (.iload_n 3, 1) := by decide +kernel
theorem d2_21 : decode method_4_code 21 = .ok (.ireturn, 1) := by decide +kernel
def own_lo (q1 : Int64) (p2 : Int32) : Int32 := (if (2147483647 : Int64) < (((q1.toInt32).toInt64) + (p2.toInt64)) then ((2147483647 : Int32) - p2) else (q1.toInt32))
theorem ef_rm2 (m : MethodId) (x0 : Int64) (x1 : Int32) : entryFrame m #[(.long x0), (.int x1)] 4 = mkF m 0 #[Sl x0, S2, Si x1, Su] [] := by first | (simp [entryFrame, mkF, argsToLocals, Value.category]; done) | rfl
def Q_rm2 (Z : State) (q1 : Int64) (p2 : Int32) (h0 : Heap) (n0 : Nat) (v : Option Value) (h : Heap) (L : List Loc) : Prop := v = some (.int (own_lo q1 p2)) ∧ Fr n0 L ∧ h = h0
set_option maxRecDepth 65536 in
set_option maxHeartbeats 40000000 in
theorem rm2 (l : Launch) (Z : State) (a0 : Array Value) (hw : ∀ d ∈ tables_1, d.before a0 Z = true) (ws : List Jvm.Cond) (q1 : Int64) (p2 : Int32) (h0 : Heap) (n0 : Nat) (Z0 : n0 ≤ h0.size) :
    MetFree l (⟨"com/example/darlington/darlington/core/StateLayoutUnpackPinLaw", "low", "(JI)I"⟩ : MethodName) (head1 (Jvm.Cond.code (⟨"com/example/darlington/darlington/core/StateLayoutUnpackPinLaw", "low", "(JI)I"⟩ : MethodName) method_4_code 4 (some .int) :: ws) ({ frames := 0, cells := 0, slots := 0, locals := 0 } : Room)) (fun a U => a = #[(.long q1), (.int p2)] ∧ Z.Warmed39 U.vm ∧ U.heap = h0) (fun _ _ _ _ _ => True) (fun _ U o U' => ∃ v L, o = .returned v ∧ Q_rm2 Z q1 p2 h0 n0 v U'.heap L ∧ FrameEnd U o U' L ({ frames := 0, cells := 0, slots := 0, locals := 0 } : Room).cells ({ frames := 0, cells := 0, slots := 0, locals := 0 } : Room).slots) := by
  refine MetFree.of_bodySF (plainFor_of_name pn_10) hisR ?_
  intro p e s m args below meth c s₁ Bd hml0 hP hK
  obtain ⟨rfl, hZ, hh⟩ := hP
  have hx := Bd.exec
  have hby := Bd.bytes
  have hml : c.maxLocals = 4 := hml0
  have hown : s.vm.findClass "com/example/darlington/darlington/core/StateLayoutUnpackPinLaw" = some m.cls := findClass_of_methodNamed Bd.named
  have hnm := (name_of_methodNamed Bd.named Bd.method).1
  have X0 : Stand p l e ({ frames := 0, cells := 0, slots := 0, locals := 0 } : Room) s m #[(.long q1), (.int p2)] below meth c s₁ [] 0 0 := Stand.of_body Bd
  have e0 : s₁.heap = h0 := by rw [← hh, Bd.state]; rfl
  have N0 := Fr.nil n0
  have pre0 : ∀ t, Steps p.tables e below (s₁.setTop (mkF m 0 #[Sl q1, S2, Si p2, Su] [])) t → Steps p.tables e below (s₁.setTop (entryFrame m #[(.long q1), (.int p2)] 4)) t := fun t k => castTop (ef_rm2 m q1 p2) k
  have pre53 : ∀ t, Steps p.tables e below (s₁.setTop (mkF m 20 #[Sl q1, S2, Si p2, Si (if (2147483647 : Int64) < (((q1.toInt32).toInt64) + (p2.toInt64)) then ((2147483647 : Int32) - p2) else (q1.toInt32))] [])) t → Steps p.tables e below (s₁.setTop (entryFrame m #[(.long q1), (.int p2)] 4)) t := by
    intro t k
    refine pre0 t ?_
    refine XS.lloadN X0.here hx rfl (hb hby d2_0) rfl ?_
    refine XS.l2i X0.here hx rfl (hb hby d2_1) rfl ?_
    refine XS.istoreN X0.here hx rfl (hb hby d2_2) rfl (l' := #[Sl q1, S2, Si p2, Si (q1.toInt32)]) rfl ?_
    refine XS.iloadN X0.here hx rfl (hb hby d2_3) rfl ?_
    refine XS.i2l X0.here hx rfl (hb hby d2_4) rfl ?_
    refine XS.iloadN X0.here hx rfl (hb hby d2_5) rfl ?_
    refine XS.i2l X0.here hx rfl (hb hby d2_6) rfl ?_
    refine XS.ladd X0.here hx rfl (hb hby d2_7) rfl ?_
    show Steps _ _ _ (s₁.setTop (mkF m 8 #[Sl q1, S2, Si p2, Si (q1.toInt32)] [(.long (((q1.toInt32).toInt64) + (p2.toInt64)))])) _
    refine X0.ldc2Long hx hown (mvT hZ (ow hw 8 rfl)) (g := (mkF m 8 #[Sl q1, S2, Si p2, Si (q1.toInt32)] [(.long (((q1.toInt32).toInt64) + (p2.toInt64)))])) rfl (hb hby d2_8) _ ?_
    refine XS.lcmp X0.here hx rfl (hb hby d2_11) rfl ?_
    by_cases hc51 : (2147483647 : Int64) < (((q1.toInt32).toInt64) + (p2.toInt64))
    · simp only [if_pos hc51] at k
      refine XS.ifNo X0.here hx rfl (hb hby d2_12) rfl ((if0 _ _).trans (tlt ((lw_gt _ _).mpr hc51)).2.2.2) ?_
      refine X0.ldcInt hx hown (mvT hZ (ow hw 4 rfl)) (g := (mkF m 15 #[Sl q1, S2, Si p2, Si (q1.toInt32)] [])) rfl (hb hby d2_15) _ ?_
      refine XS.iloadN X0.here hx rfl (hb hby d2_17) rfl ?_
      refine XS.isub X0.here hx rfl (hb hby d2_18) rfl ?_
      refine XS.istoreN X0.here hx rfl (hb hby d2_19) rfl (l' := #[Sl q1, S2, Si p2, Si ((2147483647 : Int32) - p2)]) rfl ?_
      exact k
    · simp only [if_neg hc51] at k
      refine XS.ifYes X0.here hx rfl (pc0 := 12) (pc' := 20) rfl (hb hby d2_12) rfl ((if0 _ _).trans (flt (fun z => hc51 ((lw_gt _ _).mp z))).2.2.2) (by decide) (by decide) ?_
      exact k
  obtain ⟨z52, hz52⟩ : ∃ z : Int32, z = (if (2147483647 : Int64) < (((q1.toInt32).toInt64) + (p2.toInt64)) then ((2147483647 : Int32) - p2) else (q1.toInt32)) := ⟨_, rfl⟩
  rw [← hz52] at pre53
  have pre54 : ∀ t, Steps p.tables e below (s₁.setTop (mkF m 21 #[Sl q1, S2, Si p2, Si z52] [(.int z52)])) t → Steps p.tables e below (s₁.setTop (entryFrame m #[(.long q1), (.int p2)] 4)) t := by
    intro t k
    refine pre53 t ?_
    refine XS.iloadN X0.here hx rfl (hb hby d2_20) rfl ?_
    exact k
  obtain ⟨fs, hr, hrun, hended, hW, hsame⟩ := X0.leave (v := some (.int z52)) (fun h => by rw [Bd.returns] at h; cases h)
  refine ⟨_, _, pre54 _ ?_, hrun, hended, _, _, rfl, ?_, ⟨_, rfl⟩, hW, hsame.mono (by decide) (by decide)⟩
  · exact retI X0 hx Bd.returns (hb hby d2_21) hr
  · show Q_rm2 Z q1 p2 h0 n0 _ s₁.heap _
    rw [e0]
    have hvA : z52 = (own_lo q1 p2) := by
      subst hz52
      rfl
    have hv55 : z52 = (own_lo q1 p2) := hvA
    exact ⟨(congrArg (fun z => some (Value.int z)) hv55), N0, rfl⟩
theorem d3_0 : decode method_5_code 0 = .ok (.lload_n 2, 1) := by decide +kernel
theorem d3_1 : decode method_5_code 1 = .ok (.ldc2_w 53, 3) := by decide +kernel
theorem d3_4 : decode method_5_code 4 = .ok (.land, 1) := by decide +kernel
theorem d3_5 : decode method_5_code 5 = .ok (.iload_n 1, 1) := by decide +kernel
theorem d3_6 : decode method_5_code 6 = .ok (.i2l, 1) := by decide +kernel
theorem d3_7 : decode method_5_code 7 = .ok (.lconst 1, 1) := by decide +kernel
theorem d3_8 : decode method_5_code 8 = .ok (.ladd, 1) := by decide +kernel
theorem d3_9 : decode method_5_code 9 = .ok (.lrem, 1) := by decide +kernel
theorem d3_10 : decode method_5_code 10 = .ok (.lstore 4, 2) := by decide +kernel
theorem d3_12 : decode method_5_code 12 = .ok (.iload_n 0, 1) := by decide +kernel
theorem d3_13 : decode method_5_code 13 = .ok (.i2l, 1) := by decide +kernel
theorem d3_14 : decode method_5_code 14 = .ok (.lload 4, 2) := by decide +kernel
theorem d3_16 : decode method_5_code 16 = .ok (.ladd, 1) := by decide +kernel
theorem d3_17 : decode method_5_code 17 = .ok (.l2i, 1) := by decide +kernel
theorem d3_18 : decode method_5_code 18 = .ok (.ireturn, 1) := by decide +kernel
def own_vl (p1 : Int32) (p2 : Int32) (q3 : Int64) : Int32 := (((p1.toInt64) + ((q3 &&& (4294967295 : Int64)) - ((q3 &&& (4294967295 : Int64)) / ((p2.toInt64) + (1 : Int64))) * ((p2.toInt64) + (1 : Int64)))).toInt32)
theorem ef_rm3 (m : MethodId) (x0 : Int32) (x1 : Int32) (x2 : Int64) : entryFrame m #[(.int x0), (.int x1), (.long x2)] 6 = mkF m 0 #[Si x0, Si x1, Sl x2, S2, Su, Su] [] := by first | (simp [entryFrame, mkF, argsToLocals, Value.category]; done) | rfl
def Q_rm3 (Z : State) (p1 : Int32) (p2 : Int32) (q3 : Int64) (h0 : Heap) (n0 : Nat) (v : Option Value) (h : Heap) (L : List Loc) : Prop := v = some (.int (own_vl p1 p2 q3)) ∧ Fr n0 L ∧ h = h0
set_option maxRecDepth 65536 in
set_option maxHeartbeats 40000000 in
theorem rm3 (l : Launch) (Z : State) (a0 : Array Value) (hw : ∀ d ∈ tables_1, d.before a0 Z = true) (ws : List Jvm.Cond) (p1 : Int32) (p2 : Int32) (q3 : Int64) (h0 : Heap) (n0 : Nat) (Z0 : n0 ≤ h0.size) (hnz : ((p2.toInt64) + (1 : Int64)) ≠ 0) :
    MetFree l (⟨"com/example/darlington/darlington/core/StateLayoutUnpackPinLaw", "value", "(IIJ)I"⟩ : MethodName) (head1 (Jvm.Cond.code (⟨"com/example/darlington/darlington/core/StateLayoutUnpackPinLaw", "value", "(IIJ)I"⟩ : MethodName) method_5_code 6 (some .int) :: ws) ({ frames := 0, cells := 0, slots := 0, locals := 0 } : Room)) (fun a U => a = #[(.int p1), (.int p2), (.long q3)] ∧ Z.Warmed39 U.vm ∧ U.heap = h0) (fun _ _ _ _ _ => True) (fun _ U o U' => ∃ v L, o = .returned v ∧ Q_rm3 Z p1 p2 q3 h0 n0 v U'.heap L ∧ FrameEnd U o U' L ({ frames := 0, cells := 0, slots := 0, locals := 0 } : Room).cells ({ frames := 0, cells := 0, slots := 0, locals := 0 } : Room).slots) := by
  refine MetFree.of_bodySF (plainFor_of_name pn_10) hisR ?_
  intro p e s m args below meth c s₁ Bd hml0 hP hK
  obtain ⟨rfl, hZ, hh⟩ := hP
  have hx := Bd.exec
  have hby := Bd.bytes
  have hml : c.maxLocals = 6 := hml0
  have hown : s.vm.findClass "com/example/darlington/darlington/core/StateLayoutUnpackPinLaw" = some m.cls := findClass_of_methodNamed Bd.named
  have hnm := (name_of_methodNamed Bd.named Bd.method).1
  have X0 : Stand p l e ({ frames := 0, cells := 0, slots := 0, locals := 0 } : Room) s m #[(.int p1), (.int p2), (.long q3)] below meth c s₁ [] 0 0 := Stand.of_body Bd
  have e0 : s₁.heap = h0 := by rw [← hh, Bd.state]; rfl
  have N0 := Fr.nil n0
  have pre0 : ∀ t, Steps p.tables e below (s₁.setTop (mkF m 0 #[Si p1, Si p2, Sl q3, S2, Su, Su] [])) t → Steps p.tables e below (s₁.setTop (entryFrame m #[(.int p1), (.int p2), (.long q3)] 6)) t := fun t k => castTop (ef_rm3 m p1 p2 q3) k
  have pre51 : ∀ t, Steps p.tables e below (s₁.setTop (mkF m 18 #[Si p1, Si p2, Sl q3, S2, Sl ((q3 &&& (4294967295 : Int64)) - ((q3 &&& (4294967295 : Int64)) / ((p2.toInt64) + (1 : Int64))) * ((p2.toInt64) + (1 : Int64))), S2] [(.int (((p1.toInt64) + ((q3 &&& (4294967295 : Int64)) - ((q3 &&& (4294967295 : Int64)) / ((p2.toInt64) + (1 : Int64))) * ((p2.toInt64) + (1 : Int64)))).toInt32))])) t → Steps p.tables e below (s₁.setTop (entryFrame m #[(.int p1), (.int p2), (.long q3)] 6)) t := by
    intro t k
    refine pre0 t ?_
    refine XS.lloadN X0.here hx rfl (hb hby d3_0) rfl ?_
    refine X0.ldc2Long hx hown (mvT hZ (ow hw 12 rfl)) (g := (mkF m 1 #[Si p1, Si p2, Sl q3, S2, Su, Su] [(.long q3)])) rfl (hb hby d3_1) _ ?_
    refine XS.land X0.here hx rfl (hb hby d3_4) rfl ?_
    refine XS.iloadN X0.here hx rfl (hb hby d3_5) rfl ?_
    refine XS.i2l X0.here hx rfl (hb hby d3_6) rfl ?_
    refine XS.lconst X0.here hx rfl (hb hby d3_7) ?_
    refine XS.ladd X0.here hx rfl (hb hby d3_8) rfl ?_
    refine XS.lrem X0.here hx rfl (hb hby d3_9) rfl hnz ?_
    show Steps _ _ _ (s₁.setTop (mkF m 10 #[Si p1, Si p2, Sl q3, S2, Su, Su] [(.long ((q3 &&& (4294967295 : Int64)) - ((q3 &&& (4294967295 : Int64)) / ((p2.toInt64) + (1 : Int64))) * ((p2.toInt64) + (1 : Int64))))])) _
    refine XS.lstore X0.here hx rfl (hb hby d3_10) rfl (l' := #[Si p1, Si p2, Sl q3, S2, Sl ((q3 &&& (4294967295 : Int64)) - ((q3 &&& (4294967295 : Int64)) / ((p2.toInt64) + (1 : Int64))) * ((p2.toInt64) + (1 : Int64))), S2]) rfl ?_
    refine XS.iloadN X0.here hx rfl (hb hby d3_12) rfl ?_
    refine XS.i2l X0.here hx rfl (hb hby d3_13) rfl ?_
    refine XS.lload X0.here hx rfl (hb hby d3_14) rfl ?_
    refine XS.ladd X0.here hx rfl (hb hby d3_16) rfl ?_
    refine XS.l2i X0.here hx rfl (hb hby d3_17) rfl ?_
    exact k
  obtain ⟨fs, hr, hrun, hended, hW, hsame⟩ := X0.leave (v := some (.int (((p1.toInt64) + ((q3 &&& (4294967295 : Int64)) - ((q3 &&& (4294967295 : Int64)) / ((p2.toInt64) + (1 : Int64))) * ((p2.toInt64) + (1 : Int64)))).toInt32))) (fun h => by rw [Bd.returns] at h; cases h)
  refine ⟨_, _, pre51 _ ?_, hrun, hended, _, _, rfl, ?_, ⟨_, rfl⟩, hW, hsame.mono (by decide) (by decide)⟩
  · exact retI X0 hx Bd.returns (hb hby d3_18) hr
  · show Q_rm3 Z p1 p2 q3 h0 n0 _ s₁.heap _
    rw [e0]
    have hvA : (((p1.toInt64) + ((q3 &&& (4294967295 : Int64)) - ((q3 &&& (4294967295 : Int64)) / ((p2.toInt64) + (1 : Int64))) * ((p2.toInt64) + (1 : Int64)))).toInt32) = (own_vl p1 p2 q3) := by
      rfl
    have hv52 : (((p1.toInt64) + ((q3 &&& (4294967295 : Int64)) - ((q3 &&& (4294967295 : Int64)) / ((p2.toInt64) + (1 : Int64))) * ((p2.toInt64) + (1 : Int64)))).toInt32) = (own_vl p1 p2 q3) := hvA
    exact ⟨(congrArg (fun z => some (Value.int z)) hv52), N0, rfl⟩
theorem own_pbit {w : Int64} {s : Int32} {m : Int64} {k n : Nat} {f v : Int32} (g : own_G s m n k) (i : Nat) (hi : i < 64) :
    (own_por w s m f v).toBitVec.getLsbD i = (w.toBitVec.getLsbD i || (decide (n ≤ i ∧ i < n + k) && (v.toInt64 - f.toInt64).toBitVec.getLsbD (i - n))) := by
  obtain ⟨hs, hn, hn', hm⟩ := g
  unfold own_por
  rw [Int64.toBitVec_or, own_shl _ s n (by omega), Int64.toBitVec_and]
  simp only [BitVec.getLsbD_or, BitVec.getLsbD_and, BitVec.getLsbD_shiftLeft, own_mbit hm, hi, decide_true, Bool.true_and]
  congr 1
  by_cases h1 : i < n
  · have : ¬ (n ≤ i ∧ i < n + k) := by omega
    simp [h1, this]
  · by_cases h2 : i < n + k
    · have : n ≤ i ∧ i < n + k := by omega
      have h3 : i - n < k := by omega
      simp [h1, this, h3]
    · have : ¬ (n ≤ i ∧ i < n + k) := by omega
      have h3 : ¬ i - n < k := by omega
      simp [h1, this, h3]
theorem own_fpG {w : Int64} {s : Int32} {m : Int64} {k n : Nat} {f v : Int32} (g : own_G s m n k) (h : own_fld w s m = 0) : own_fld (own_por w s m f v) s m = ((v.toInt64 - f.toInt64) &&& m) := by
  apply own_ext; intro i hi
  have q := congrArg (fun z : Int64 => z.toBitVec.getLsbD i) h
  simp only [own_fbit g.1 g.2.2.1 g.2.2.2] at q
  have g2 := g.2.1
  rw [own_fbit g.1 g.2.2.1 g.2.2.2, Int64.toBitVec_and, BitVec.getLsbD_and, own_mbit g.2.2.2]
  by_cases hk : i < k
  · rw [own_pbit g _ (by omega)]
    have e : n ≤ n + i ∧ n + i < n + k := by omega
    simp only [hk, decide_true, Bool.and_true] at q ⊢
    rw [q, show n + i - n = i by omega]
    have z : (0 : Int64).toBitVec.getLsbD i = false := by rw [show (0 : Int64).toBitVec = 0#64 from rfl, BitVec.getLsbD_zero]
    rw [z]; simp [e]
  · simp [hk]
theorem own_fpoG {w : Int64} {s s' : Int32} {m m' : Int64} {k n k' n' : Nat} {f v : Int32} (g : own_G s m n k) (g' : own_G s' m' n' k') (hd : n' + k' ≤ n ∨ n + k ≤ n') : own_fld (own_por w s m f v) s' m' = own_fld w s' m' := by
  apply own_ext; intro i hi
  have g2 := g'.2.1
  rw [own_fbit g'.1 g'.2.2.1 g'.2.2.2, own_fbit g'.1 g'.2.2.1 g'.2.2.2]
  by_cases h : i < k'
  · rw [own_pbit g _ (by omega)]
    have : ¬ (n ≤ n' + i ∧ n' + i < n + k) := by omega
    simp [this]
  · simp [h]
theorem own_f1G {s : Int32} {m : Int64} {k n : Nat} (g : own_G s m n k) (h1 : 1 ≤ n) : own_fld (1 : Int64) s m = 0 := by
  apply own_ext; intro i hi
  rw [own_fbit g.1 g.2.2.1 g.2.2.2, show (1 : Int64).toBitVec = 1#64 from rfl, BitVec.getLsbD_one, show (0 : Int64).toBitVec = 0#64 from rfl, BitVec.getLsbD_zero]
  have hn : ¬ n = 0 := by omega
  simp [hn]
theorem own_f0 (s : Int32) (m : Int64) : own_fld (0 : Int64) s m = 0 := by
  unfold own_fld
  apply Int64.toBitVec_inj.mp
  rw [Int64.toBitVec_and, own_shr 0 s _ rfl]
  simp
theorem own_y337 {F m : Int64} {b : Nat} {lo v : Int32} (e : F = ((v.toInt64 - (lo + (0 : Int32)).toInt64) &&& m)) (hm : own_isM m b) (hb : b ≤ 31) (h0 : 0 ≤ v.toInt - lo.toInt) (h1 : v.toInt - lo.toInt < 2 ^ b) : ((lo + (0 : Int32)) + F.toInt32) = v := by
  rw [e]; exact own_val hm hb lo v h0 h1
theorem own_pos0 {z : Int32} (h : 1 ≤ z.toInt) : (0 : Int32) < z := by rw [Int32.lt_iff_toInt_lt]; have : (0 : Int32).toInt = 0 := rfl; omega
theorem own_usr (x p : Int32) (hx : 0 ≤ x.toInt) : 0 ≤ ((x.toUInt32 >>> (p &&& 31).toUInt32).toInt32).toInt ∧ ((x.toUInt32 >>> (p &&& 31).toUInt32).toInt32).toInt ≤ x.toInt := by
  by_cases h : p.toBitVec.toNat % 32 = 0
  · have e : (p &&& 31) = 0 := by
      apply Int32.toBitVec_inj.mp
      apply BitVec.eq_of_toNat_eq
      show (p.toBitVec &&& (31 : Int32).toBitVec).toNat = _
      rw [BitVec.toNat_and, show (31 : Int32).toBitVec.toNat = 2 ^ 5 - 1 from by decide, Nat.and_two_pow_sub_one_eq_mod]; exact h
    rw [e]
    have : ((x.toUInt32 >>> (0 : Int32).toUInt32).toInt32) = x := by rw [show (0 : Int32).toUInt32 = 0 from rfl]; simp
    rw [this]; exact ⟨hx, Int.le_refl _⟩
  · have u := c_iushr x p _ rfl (by omega)
    have r := rng32 x
    rw [show x.toInt % 4294967296 = x.toInt by omega] at u
    rw [u]
    exact ⟨Int.ediv_nonneg hx (Int.natCast_nonneg _), Int.ediv_le_self _ hx⟩
theorem own_spanR (q : Int64) (p : Int32) : 0 ≤ (own_span q p).toInt ∧ (own_span q p).toInt ≤ 2147483646 := by
  unfold own_span
  have m := c_mask (((q.toUInt64 >>> ((32 : Int32) &&& 0x3f).toInt64.toUInt64).toInt64).toInt32) (2147483647 : Int32) 31 (by decide) (by decide)
  have u := own_usr ((((q.toUInt64 >>> ((32 : Int32) &&& 0x3f).toInt64.toUInt64).toInt64).toInt32) &&& (2147483647 : Int32)) p (by omega)
  split
  · exact ⟨by decide, by decide⟩
  · rename_i h
    have n : ¬ (((((((q.toUInt64 >>> ((32 : Int32) &&& 0x3f).toInt64.toUInt64).toInt64).toInt32) &&& (2147483647 : Int32)).toUInt32 >>> (p &&& 31).toUInt32).toInt32)).toInt = 2147483647 := fun z => h (Int32.toInt_inj.mp z)
    omega
theorem own_loR (q : Int64) (s : Int32) (hs : 0 ≤ s.toInt ∧ s.toInt ≤ 2147483646) : (own_lo q s).toInt + s.toInt ≤ 2147483647 := by
  unfold own_lo
  have a := c_i2l q.toInt32
  have b := c_i2l s
  have c := c_ladd q.toInt32.toInt64 s.toInt64
  have rc := rng64 (q.toInt32.toInt64 + s.toInt64)
  have rq := rng32 q.toInt32
  have LM : (2147483647 : Int64).toInt = 2147483647 := rfl
  have lm : (2147483647 : Int32).toInt = 2147483647 := rfl
  have d := c_isub 2147483647 s
  have rd := rng32 ((2147483647 : Int32) - s)
  split
  · omega
  · rename_i h; rw [Int64.lt_iff_toInt_lt] at h; omega
theorem own_vnz {s : Int32} (hs : 0 ≤ s.toInt ∧ s.toInt ≤ 2147483646) : ((s.toInt64) + (1 : Int64)) ≠ 0 := fun z => by
  have b := c_i2l s
  have c := c_ladd s.toInt64 1
  rw [z] at c
  have l1 : (1 : Int64).toInt = 1 := rfl
  have l0 : (0 : Int64).toInt = 0 := rfl
  omega
theorem own_vlR (lo s : Int32) (q : Int64) (hs : 0 ≤ s.toInt ∧ s.toInt ≤ 2147483646) (hl : lo.toInt + s.toInt ≤ 2147483647) : 0 ≤ (own_vl lo s q).toInt - lo.toInt ∧ (own_vl lo s q).toInt - lo.toInt ≤ s.toInt := by
  unfold own_vl
  have m := c_maskL q (4294967295 : Int64) 32 (by decide) (by decide)
  have hR : 0 ≤ (q &&& (4294967295 : Int64)).toInt := by omega
  generalize (q &&& (4294967295 : Int64)) = R at *
  have b := c_i2l s
  have c := c_ladd s.toInt64 1
  have rc := rng64 (s.toInt64 + 1)
  have l1 : (1 : Int64).toInt = 1 := rfl
  have ey : (s.toInt64 + 1).toInt = s.toInt + 1 := by omega
  generalize (s.toInt64 + 1) = y at *
  have e := (c_lrem R y y.toInt rfl).1 hR
  have e1 := Int.emod_nonneg R.toInt (show y.toInt ≠ 0 by omega)
  have e2 := Int.emod_lt_of_pos R.toInt (show 0 < y.toInt by omega)
  rw [← e] at e1 e2
  generalize (R - R / y * y) = r at *
  have a := c_i2l lo
  have d := c_ladd lo.toInt64 r
  have rd := rng64 (lo.toInt64 + r)
  have rl := rng32 lo
  have f := c_l2i (lo.toInt64 + r)
  have rf := rng32 (lo.toInt64 + r).toInt32
  omega
theorem own_rng2 (lo s : Int32) (hs : 0 ≤ s.toInt ∧ s.toInt ≤ 2147483646) (hl : lo.toInt + s.toInt ≤ 2147483647) : ¬ (lo + s) < lo ∧ ¬ (2147483647 : Int64) < (((lo + s).toInt64 - lo.toInt64) + (1 : Int64)) ∧ (own_size lo (lo + s)).toInt = s.toInt + 1 := by
  have rl := rng32 lo
  have L1 : (1 : Int64).toInt = 1 := rfl
  have LM : (2147483647 : Int64).toInt = 2147483647 := rfl
  have b := c_iadd lo s
  have rb := rng32 (lo + s)
  have e : (lo + s).toInt = lo.toInt + s.toInt := by omega
  have c := c_i2l (lo + s)
  have d := c_i2l lo
  have f := c_lsub (lo + s).toInt64 lo.toInt64
  have rf := rng64 ((lo + s).toInt64 - lo.toInt64)
  have g := c_ladd ((lo + s).toInt64 - lo.toInt64) 1
  have rg := rng64 (((lo + s).toInt64 - lo.toInt64) + 1)
  have h := c_l2i (((lo + s).toInt64 - lo.toInt64) + 1)
  have rh := rng32 (((lo + s).toInt64 - lo.toInt64) + 1).toInt32
  refine ⟨?_, ?_, ?_⟩
  · rw [Int32.lt_iff_toInt_lt]; omega
  · rw [Int64.lt_iff_toInt_lt]; omega
  · unfold own_size; omega
theorem own_z1 {z s : Int32} (h : z.toInt = s.toInt + 1) (hs : 0 ≤ s.toInt ∧ s.toInt ≤ 2147483646) : 1 ≤ z.toInt := by omega
theorem own_y2 {a : Int} {z s : Int32} {b : Nat} (h : a ≤ s.toInt) (hz : z.toInt = s.toInt + 1) (hy : z.toInt ≤ 2 ^ b) : a < 2 ^ b := by omega
theorem own_b3 (x : Int32) : 0 ≤ (x &&& (3 : Int32)).toInt ∧ (x &&& (3 : Int32)).toInt ≤ 3 := by
  have m := c_mask x (3 : Int32) 2 (by decide) (by decide)
  omega
theorem own_g6 (g : Int64) {p : Int32} (h : 0 ≤ p.toInt ∧ p.toInt ≤ 3) : ([(.long g), (.long g), (.long g), (.long g), (.long g), (.long g)] : List Value).getD (p).toNatClampNeg (.long (0 : Int64)) = (.long g) ∧ ([(.long g), (.long g), (.long g), (.long g), (.long g), (.long g)] : List Value).getD ((p + (1 : Int32))).toNatClampNeg (.long (0 : Int64)) = (.long g) := by
  have t : p.toInt = 0 ∨ p.toInt = 1 ∨ p.toInt = 2 ∨ p.toInt = 3 := by omega
  have q : p = 0 ∨ p = 1 ∨ p = 2 ∨ p = 3 := t.imp Int32.toInt_inj.mp (Or.imp Int32.toInt_inj.mp (Or.imp Int32.toInt_inj.mp Int32.toInt_inj.mp))
  rcases q with rfl | rfl | rfl | rfl <;> exact ⟨rfl, rfl⟩

theorem pd_12 : parseMethodDescriptor "(JI)I" = some ⟨[.long, .int], some .int⟩ := by decide +kernel
theorem pd_13 : parseMethodDescriptor "(IIJ)I" = some ⟨[.int, .int, .long], some .int⟩ := by decide +kernel
theorem pd_14 : parseMethodDescriptor "(Ljava/lang/Object;)Z" = some ⟨[(.object "java/lang/Object")], some .boolean⟩ := by decide +kernel
theorem pd_15 : parseMethodDescriptor "(Ljava/util/List;)V" = some ⟨[(.object "java/util/List")], none⟩ := by decide +kernel
theorem pd_16 : parseMethodDescriptor "([I[JI)V" = some ⟨[(.array .int), (.array .long), .int], none⟩ := by decide +kernel
theorem pd_17 : parseMethodDescriptor "([JI[I)V" = some ⟨[(.array .long), .int, (.array .int)], none⟩ := by decide +kernel
theorem ef_rm0 (m : MethodId) (x0 : Int64) (x1 : Int64) (x2 : Int64) (x3 : Int64) (x4 : Int64) (x5 : Int32) : entryFrame m #[(.long x0), (.long x1), (.long x2), (.long x3), (.long x4), (.int x5)] maxLocals = mkF m 0 #[Sl x0, S2, Sl x1, S2, Sl x2, S2, Sl x3, S2, Sl x4, S2, Si x5, Su, Su, Su, Su, Su, Su, Su, Su, Su, Su, Su, Su, Su, Su, Su, Su, Su, Su, Su, Su, Su, Su, Su, Su] [] := by first | (simp [entryFrame, mkF, argsToLocals, Value.category, maxLocals]; done) | rfl
def Q_rm0 (Z : State) (q1 : Int64) (q2 : Int64) (q3 : Int64) (q4 : Int64) (q5 : Int64) (p6 : Int32) (wE : Addr) (kE : ClassId) (h0 : Heap) (n0 : Nat) (v : Option Value) (h : Heap) (L : List Loc) : Prop := v = some (.int (1 : Int32)) ∧ Fr n0 L ∧ Keep h0 h []
set_option maxRecDepth 65536 in
set_option maxHeartbeats 40000000 in
theorem rm0 (l : Launch) (Z : State) (a0 : Array Value) (hw : ∀ d ∈ tables_1, d.before a0 Z = true) (ws : List Jvm.Cond) (q1 : Int64) (q2 : Int64) (q3 : Int64) (q4 : Int64) (q5 : Int64) (p6 : Int32) (wE : Addr) (kE : ClassId) (h0 : Heap) (n0 : Nat) (Z0 : n0 ≤ h0.size) (O0 : Old Z n0 h0) (SE : Sta Z Z.heap "java/util/ArrayList" "DEFAULTCAPACITY_EMPTY_ELEMENTDATA" "[Ljava/lang/Object;" (.ref wE)) (VE : Arv Z Z.heap wE kE (.object "java/lang/Object") (0 : Int32) [] .null) :
    MetFree l x (head1 (Jvm.Cond.code x code maxLocals ret :: ws) room_1) (fun a U => a = #[(.long q1), (.long q2), (.long q3), (.long q4), (.long q5), (.int p6)] ∧ Z.Warmed39 U.vm ∧ U.heap = h0) (fun _ _ _ _ _ => True) (fun _ U o U' => ∃ v L, o = .returned v ∧ Q_rm0 Z q1 q2 q3 q4 q5 p6 wE kE h0 n0 v U'.heap L ∧ FrameEnd U o U' L room_1.cells room_1.slots) := by
  refine MetFree.of_bodySF (plainFor_of_name pn_10) hisR ?_
  intro p e s m args below meth c s₁ Bd hml0 hP hK
  obtain ⟨rfl, hZ, hh⟩ := hP
  have hx := Bd.exec
  have hby := Bd.bytes
  have hml : c.maxLocals = 35 := hml0
  have hown : s.vm.findClass "com/example/darlington/darlington/core/StateLayoutUnpackPinLaw" = some m.cls := findClass_of_methodNamed Bd.named
  have hnm := (name_of_methodNamed Bd.named Bd.method).1
  have X0 : Stand p l e room_1 s m #[(.long q1), (.long q2), (.long q3), (.long q4), (.long q5), (.int p6)] below meth c s₁ [] 0 0 := Stand.of_body Bd
  have e0 : s₁.heap = h0 := by rw [← hh, Bd.state]; rfl
  have N0 := Fr.nil n0
  have pre0 : ∀ t, Steps p.tables e below (s₁.setTop (mkF m 0 #[Sl q1, S2, Sl q2, S2, Sl q3, S2, Sl q4, S2, Sl q5, S2, Si p6, Su, Su, Su, Su, Su, Su, Su, Su, Su, Su, Su, Su, Su, Su, Su, Su, Su, Su, Su, Su, Su, Su, Su, Su] [])) t → Steps p.tables e below (s₁.setTop (entryFrame m #[(.long q1), (.long q2), (.long q3), (.long q4), (.long q5), (.int p6)] maxLocals)) t := fun t k => castTop (ef_rm0 m q1 q2 q3 q4 q5 p6) k
  have pre51 : ∀ t, Steps p.tables e below (s₁.setTop (mkF m 11 #[Sl q1, S2, Sl q2, S2, Sl q3, S2, Sl q4, S2, Sl q5, S2, Si p6, Si ((((q5.toUInt64 >>> ((32 : Int32) &&& 0x3f).toInt64.toUInt64).toInt64).toInt32) &&& (31 : Int32)), Su, Su, Su, Su, Su, Su, Su, Su, Su, Su, Su, Su, Su, Su, Su, Su, Su, Su, Su, Su, Su, Su, Su] [])) t → Steps p.tables e below (s₁.setTop (entryFrame m #[(.long q1), (.long q2), (.long q3), (.long q4), (.long q5), (.int p6)] maxLocals)) t := by
    intro t k
    refine pre0 t ?_
    refine XS.lload X0.here hx rfl (hb hby at_0) rfl ?_
    refine XS.bipush X0.here hx rfl (hb hby at_2) ?_
    refine XS.lushr X0.here hx rfl (hb hby at_4) rfl ?_
    refine XS.l2i X0.here hx rfl (hb hby at_5) rfl ?_
    refine XS.bipush X0.here hx rfl (hb hby at_6) ?_
    refine XS.iand X0.here hx rfl (hb hby at_8) rfl ?_
    refine XS.istore X0.here hx rfl (hb hby at_9) rfl (l' := #[Sl q1, S2, Sl q2, S2, Sl q3, S2, Sl q4, S2, Sl q5, S2, Si p6, Si ((((q5.toUInt64 >>> ((32 : Int32) &&& 0x3f).toInt64.toUInt64).toInt64).toInt32) &&& (31 : Int32)), Su, Su, Su, Su, Su, Su, Su, Su, Su, Su, Su, Su, Su, Su, Su, Su, Su, Su, Su, Su, Su, Su, Su]) rfl ?_
    exact k
  obtain ⟨vW0, hvW0⟩ : ∃ z : Int32, z = ((((q5.toUInt64 >>> ((32 : Int32) &&& 0x3f).toInt64.toUInt64).toInt64).toInt32) &&& (31 : Int32)) := ⟨_, rfl⟩
  rw [← hvW0] at pre51
  have pre52 : ∀ t, Steps p.tables e below (s₁.setTop (mkF m 22 #[Sl q1, S2, Sl q2, S2, Sl q3, S2, Sl q4, S2, Sl q5, S2, Si p6, Si vW0, Si ((((q5.toUInt64 >>> ((37 : Int32) &&& 0x3f).toInt64.toUInt64).toInt64).toInt32) &&& (31 : Int32)), Su, Su, Su, Su, Su, Su, Su, Su, Su, Su, Su, Su, Su, Su, Su, Su, Su, Su, Su, Su, Su, Su] [])) t → Steps p.tables e below (s₁.setTop (entryFrame m #[(.long q1), (.long q2), (.long q3), (.long q4), (.long q5), (.int p6)] maxLocals)) t := by
    intro t k
    refine pre51 t ?_
    refine XS.lload X0.here hx rfl (hb hby at_11) rfl ?_
    show Steps _ _ _ (s₁.setTop (mkF m 13 #[Sl q1, S2, Sl q2, S2, Sl q3, S2, Sl q4, S2, Sl q5, S2, Si p6, Si vW0, Su, Su, Su, Su, Su, Su, Su, Su, Su, Su, Su, Su, Su, Su, Su, Su, Su, Su, Su, Su, Su, Su, Su] [(.long q5)])) _
    refine XS.bipush X0.here hx rfl (hb hby at_13) ?_
    refine XS.lushr X0.here hx rfl (hb hby at_15) rfl ?_
    refine XS.l2i X0.here hx rfl (hb hby at_16) rfl ?_
    refine XS.bipush X0.here hx rfl (hb hby at_17) ?_
    refine XS.iand X0.here hx rfl (hb hby at_19) rfl ?_
    refine XS.istore X0.here hx rfl (hb hby at_20) rfl (l' := #[Sl q1, S2, Sl q2, S2, Sl q3, S2, Sl q4, S2, Sl q5, S2, Si p6, Si vW0, Si ((((q5.toUInt64 >>> ((37 : Int32) &&& 0x3f).toInt64.toUInt64).toInt64).toInt32) &&& (31 : Int32)), Su, Su, Su, Su, Su, Su, Su, Su, Su, Su, Su, Su, Su, Su, Su, Su, Su, Su, Su, Su, Su, Su]) rfl ?_
    exact k
  obtain ⟨vW1, hvW1⟩ : ∃ z : Int32, z = ((((q5.toUInt64 >>> ((37 : Int32) &&& 0x3f).toInt64.toUInt64).toInt64).toInt32) &&& (31 : Int32)) := ⟨_, rfl⟩
  rw [← hvW1] at pre52
  have pre53 : ∀ t, Steps p.tables e below (s₁.setTop (mkF m 33 #[Sl q1, S2, Sl q2, S2, Sl q3, S2, Sl q4, S2, Sl q5, S2, Si p6, Si vW0, Si vW1, Si ((((q5.toUInt64 >>> ((42 : Int32) &&& 0x3f).toInt64.toUInt64).toInt64).toInt32) &&& (31 : Int32)), Su, Su, Su, Su, Su, Su, Su, Su, Su, Su, Su, Su, Su, Su, Su, Su, Su, Su, Su, Su, Su] [])) t → Steps p.tables e below (s₁.setTop (entryFrame m #[(.long q1), (.long q2), (.long q3), (.long q4), (.long q5), (.int p6)] maxLocals)) t := by
    intro t k
    refine pre52 t ?_
    refine XS.lload X0.here hx rfl (hb hby at_22) rfl ?_
    refine XS.bipush X0.here hx rfl (hb hby at_24) ?_
    show Steps _ _ _ (s₁.setTop (mkF m 26 #[Sl q1, S2, Sl q2, S2, Sl q3, S2, Sl q4, S2, Sl q5, S2, Si p6, Si vW0, Si vW1, Su, Su, Su, Su, Su, Su, Su, Su, Su, Su, Su, Su, Su, Su, Su, Su, Su, Su, Su, Su, Su, Su] [(.int (42 : Int32)), (.long q5)])) _
    refine XS.lushr X0.here hx rfl (hb hby at_26) rfl ?_
    refine XS.l2i X0.here hx rfl (hb hby at_27) rfl ?_
    refine XS.bipush X0.here hx rfl (hb hby at_28) ?_
    refine XS.iand X0.here hx rfl (hb hby at_30) rfl ?_
    refine XS.istore X0.here hx rfl (hb hby at_31) rfl (l' := #[Sl q1, S2, Sl q2, S2, Sl q3, S2, Sl q4, S2, Sl q5, S2, Si p6, Si vW0, Si vW1, Si ((((q5.toUInt64 >>> ((42 : Int32) &&& 0x3f).toInt64.toUInt64).toInt64).toInt32) &&& (31 : Int32)), Su, Su, Su, Su, Su, Su, Su, Su, Su, Su, Su, Su, Su, Su, Su, Su, Su, Su, Su, Su, Su]) rfl ?_
    exact k
  obtain ⟨vW2, hvW2⟩ : ∃ z : Int32, z = ((((q5.toUInt64 >>> ((42 : Int32) &&& 0x3f).toInt64.toUInt64).toInt64).toInt32) &&& (31 : Int32)) := ⟨_, rfl⟩
  rw [← hvW2] at pre53
  obtain ⟨_, _, ⟨T54, L54, k54, n54⟩, -, X54, ⟨Lc54, hQ54, l54, y54, z54⟩, st54⟩ := Jvm.LawKit.callS X0 hx (y := (⟨"com/example/darlington/darlington/core/StateLayoutUnpackPinLaw", "span", "(JI)I"⟩ : MethodName)) hown (mvT hZ (ow hw 0 rfl)) (mvT hZ (ow hw 1 rfl)) (mvT hZ (ow hw 2 rfl)) (mvT hZ (ow hw 3 rfl)) (by decide) (backOf (W := 0) (rm1 l Z a0 hw [] q1 vW0 h0 n0 Z0) hZ (ow hw 3 rfl) (ow hw 2 rfl) (by decide) (by decide)) (g := (mkF m 36 #[Sl q1, S2, Sl q2, S2, Sl q3, S2, Sl q4, S2, Sl q5, S2, Si p6, Si vW0, Si vW1, Si vW2, Su, Su, Su, Su, Su, Su, Su, Su, Su, Su, Su, Su, Su, Su, Su, Su, Su, Su, Su, Su, Su] [(.int vW0), (.long q1)])) rfl (by rw [hml]; rfl) (argsL := [(.long q1), (.int vW0)]) (rest := []) (lenOf pd_12 rfl) rfl (by show 2 * 0 + _ ≤ _; exact Nat.le_of_eq rfl) (hb hby at_36) (fun _ _ => ⟨rfl, e0, (by decide : 0 + 0 ≤ _), (by decide : 0 + 0 ≤ _)⟩)
  dsimp only [Pt.U, Pt.locs, Pt.cells, Pt.slots] at X54 l54 y54 z54 st54 hQ54
  subst y54 z54
  obtain ⟨rfl, Nq54, q54_0⟩ := hQ54
  have N55 := Eq.subst (motive := fun L => Fr n0 L) l54.symm (Fr.app N0 Nq54)
  have pre56 : ∀ t, Steps p.tables e below (T54.setTop (mkF m 41 #[Sl q1, S2, Sl q2, S2, Sl q3, S2, Sl q4, S2, Sl q5, S2, Si p6, Si vW0, Si vW1, Si vW2, Si (own_span q1 vW0), Su, Su, Su, Su, Su, Su, Su, Su, Su, Su, Su, Su, Su, Su, Su, Su, Su, Su, Su, Su] [])) t → Steps p.tables e below (s₁.setTop (entryFrame m #[(.long q1), (.long q2), (.long q3), (.long q4), (.long q5), (.int p6)] maxLocals)) t := by
    intro t k
    refine pre53 t ?_
    refine XS.lloadN X0.here hx rfl (hb hby at_33) rfl ?_
    refine XS.iload X0.here hx rfl (hb hby at_34) rfl ?_
    refine st54 _ ?_
    show Steps _ _ _ (T54.setTop (mkF m 39 #[Sl q1, S2, Sl q2, S2, Sl q3, S2, Sl q4, S2, Sl q5, S2, Si p6, Si vW0, Si vW1, Si vW2, Su, Su, Su, Su, Su, Su, Su, Su, Su, Su, Su, Su, Su, Su, Su, Su, Su, Su, Su, Su, Su] [(.int (own_span q1 vW0))])) _
    refine XS.istore X54.here hx rfl (hb hby at_39) rfl (l' := #[Sl q1, S2, Sl q2, S2, Sl q3, S2, Sl q4, S2, Sl q5, S2, Si p6, Si vW0, Si vW1, Si vW2, Si (own_span q1 vW0), Su, Su, Su, Su, Su, Su, Su, Su, Su, Su, Su, Su, Su, Su, Su, Su, Su, Su, Su, Su]) rfl ?_
    exact k
  obtain ⟨vS0, hvS0⟩ : ∃ z : Int32, z = (own_span q1 vW0) := ⟨_, rfl⟩
  rw [← hvS0] at pre56
  obtain ⟨_, _, ⟨T57, L57, k57, n57⟩, -, X57, ⟨Lc57, hQ57, l57, y57, z57⟩, st57⟩ := Jvm.LawKit.callS X54 hx (y := (⟨"com/example/darlington/darlington/core/StateLayoutUnpackPinLaw", "span", "(JI)I"⟩ : MethodName)) hown (mvT hZ (ow hw 0 rfl)) (mvT hZ (ow hw 1 rfl)) (mvT hZ (ow hw 2 rfl)) (mvT hZ (ow hw 3 rfl)) (by decide) (backOf (W := 0) (rm1 l Z a0 hw [] q2 vW1 h0 n0 Z0) hZ (ow hw 3 rfl) (ow hw 2 rfl) (by decide) (by decide)) (g := (mkF m 44 #[Sl q1, S2, Sl q2, S2, Sl q3, S2, Sl q4, S2, Sl q5, S2, Si p6, Si vW0, Si vW1, Si vW2, Si vS0, Su, Su, Su, Su, Su, Su, Su, Su, Su, Su, Su, Su, Su, Su, Su, Su, Su, Su, Su, Su] [(.int vW1), (.long q2)])) rfl (by rw [hml]; rfl) (argsL := [(.long q2), (.int vW1)]) (rest := []) (lenOf pd_12 rfl) rfl (by show 2 * 0 + _ ≤ _; exact Nat.le_of_eq rfl) (hb hby at_44) (fun _ _ => ⟨rfl, q54_0, (by decide : 0 + 0 ≤ _), (by decide : 0 + 0 ≤ _)⟩)
  dsimp only [Pt.U, Pt.locs, Pt.cells, Pt.slots] at X57 l57 y57 z57 st57 hQ57
  subst y57 z57
  obtain ⟨rfl, Nq57, q57_0⟩ := hQ57
  have N58 := Eq.subst (motive := fun L => Fr n0 L) l57.symm (Fr.app N55 Nq57)
  have pre59 : ∀ t, Steps p.tables e below (T57.setTop (mkF m 49 #[Sl q1, S2, Sl q2, S2, Sl q3, S2, Sl q4, S2, Sl q5, S2, Si p6, Si vW0, Si vW1, Si vW2, Si vS0, Si (own_span q2 vW1), Su, Su, Su, Su, Su, Su, Su, Su, Su, Su, Su, Su, Su, Su, Su, Su, Su, Su, Su] [])) t → Steps p.tables e below (s₁.setTop (entryFrame m #[(.long q1), (.long q2), (.long q3), (.long q4), (.long q5), (.int p6)] maxLocals)) t := by
    intro t k
    refine pre56 t ?_
    refine XS.lloadN X54.here hx rfl (hb hby at_41) rfl ?_
    refine XS.iload X54.here hx rfl (hb hby at_42) rfl ?_
    refine st57 _ ?_
    refine XS.istore X57.here hx rfl (hb hby at_47) rfl (l' := #[Sl q1, S2, Sl q2, S2, Sl q3, S2, Sl q4, S2, Sl q5, S2, Si p6, Si vW0, Si vW1, Si vW2, Si vS0, Si (own_span q2 vW1), Su, Su, Su, Su, Su, Su, Su, Su, Su, Su, Su, Su, Su, Su, Su, Su, Su, Su, Su]) rfl ?_
    exact k
  obtain ⟨vS1, hvS1⟩ : ∃ z : Int32, z = (own_span q2 vW1) := ⟨_, rfl⟩
  rw [← hvS1] at pre59
  obtain ⟨_, _, ⟨T60, L60, k60, n60⟩, -, X60, ⟨Lc60, hQ60, l60, y60, z60⟩, st60⟩ := Jvm.LawKit.callS X57 hx (y := (⟨"com/example/darlington/darlington/core/StateLayoutUnpackPinLaw", "span", "(JI)I"⟩ : MethodName)) hown (mvT hZ (ow hw 0 rfl)) (mvT hZ (ow hw 1 rfl)) (mvT hZ (ow hw 2 rfl)) (mvT hZ (ow hw 3 rfl)) (by decide) (backOf (W := 0) (rm1 l Z a0 hw [] q3 vW2 h0 n0 Z0) hZ (ow hw 3 rfl) (ow hw 2 rfl) (by decide) (by decide)) (g := (mkF m 53 #[Sl q1, S2, Sl q2, S2, Sl q3, S2, Sl q4, S2, Sl q5, S2, Si p6, Si vW0, Si vW1, Si vW2, Si vS0, Si vS1, Su, Su, Su, Su, Su, Su, Su, Su, Su, Su, Su, Su, Su, Su, Su, Su, Su, Su, Su] [(.int vW2), (.long q3)])) rfl (by rw [hml]; rfl) (argsL := [(.long q3), (.int vW2)]) (rest := []) (lenOf pd_12 rfl) rfl (by show 2 * 0 + _ ≤ _; exact Nat.le_of_eq rfl) (hb hby at_53) (fun _ _ => ⟨rfl, q57_0, (by decide : 0 + 0 ≤ _), (by decide : 0 + 0 ≤ _)⟩)
  dsimp only [Pt.U, Pt.locs, Pt.cells, Pt.slots] at X60 l60 y60 z60 st60 hQ60
  subst y60 z60
  obtain ⟨rfl, Nq60, q60_0⟩ := hQ60
  have N61 := Eq.subst (motive := fun L => Fr n0 L) l60.symm (Fr.app N58 Nq60)
  have pre62 : ∀ t, Steps p.tables e below (T60.setTop (mkF m 58 #[Sl q1, S2, Sl q2, S2, Sl q3, S2, Sl q4, S2, Sl q5, S2, Si p6, Si vW0, Si vW1, Si vW2, Si vS0, Si vS1, Si (own_span q3 vW2), Su, Su, Su, Su, Su, Su, Su, Su, Su, Su, Su, Su, Su, Su, Su, Su, Su, Su] [])) t → Steps p.tables e below (s₁.setTop (entryFrame m #[(.long q1), (.long q2), (.long q3), (.long q4), (.long q5), (.int p6)] maxLocals)) t := by
    intro t k
    refine pre59 t ?_
    refine XS.lload X57.here hx rfl (hb hby at_49) rfl ?_
    refine XS.iload X57.here hx rfl (hb hby at_51) rfl ?_
    refine st60 _ ?_
    show Steps _ _ _ (T60.setTop (mkF m 56 #[Sl q1, S2, Sl q2, S2, Sl q3, S2, Sl q4, S2, Sl q5, S2, Si p6, Si vW0, Si vW1, Si vW2, Si vS0, Si vS1, Su, Su, Su, Su, Su, Su, Su, Su, Su, Su, Su, Su, Su, Su, Su, Su, Su, Su, Su] [(.int (own_span q3 vW2))])) _
    refine XS.istore X60.here hx rfl (hb hby at_56) rfl (l' := #[Sl q1, S2, Sl q2, S2, Sl q3, S2, Sl q4, S2, Sl q5, S2, Si p6, Si vW0, Si vW1, Si vW2, Si vS0, Si vS1, Si (own_span q3 vW2), Su, Su, Su, Su, Su, Su, Su, Su, Su, Su, Su, Su, Su, Su, Su, Su, Su, Su]) rfl ?_
    exact k
  obtain ⟨vS2, hvS2⟩ : ∃ z : Int32, z = (own_span q3 vW2) := ⟨_, rfl⟩
  rw [← hvS2] at pre62
  have hs0 : 0 ≤ vS0.toInt ∧ vS0.toInt ≤ 2147483646 := by rw [hvS0]; exact own_spanR _ _
  have hs1 : 0 ≤ vS1.toInt ∧ vS1.toInt ≤ 2147483646 := by rw [hvS1]; exact own_spanR _ _
  have hs2 : 0 ≤ vS2.toInt ∧ vS2.toInt ≤ 2147483646 := by rw [hvS2]; exact own_spanR _ _
  obtain ⟨_, _, ⟨T63, L63, k63, n63⟩, -, X63, ⟨Lc63, hQ63, l63, y63, z63⟩, st63⟩ := Jvm.LawKit.callS X60 hx (y := (⟨"com/example/darlington/darlington/core/StateLayoutUnpackPinLaw", "low", "(JI)I"⟩ : MethodName)) hown (mvT hZ (ow hw 5 rfl)) (mvT hZ (ow hw 6 rfl)) (mvT hZ (ow hw 2 rfl)) (mvT hZ (ow hw 7 rfl)) (by decide) (backOf (W := 0) (rm2 l Z a0 hw [] q1 vS0 h0 n0 Z0) hZ (ow hw 7 rfl) (ow hw 2 rfl) (by decide) (by decide)) (g := (mkF m 61 #[Sl q1, S2, Sl q2, S2, Sl q3, S2, Sl q4, S2, Sl q5, S2, Si p6, Si vW0, Si vW1, Si vW2, Si vS0, Si vS1, Si vS2, Su, Su, Su, Su, Su, Su, Su, Su, Su, Su, Su, Su, Su, Su, Su, Su, Su, Su] [(.int vS0), (.long q1)])) rfl (by rw [hml]; rfl) (argsL := [(.long q1), (.int vS0)]) (rest := []) (lenOf pd_12 rfl) rfl (by show 2 * 0 + _ ≤ _; exact Nat.le_of_eq rfl) (hb hby at_61) (fun _ _ => ⟨rfl, q60_0, (by decide : 0 + 0 ≤ _), (by decide : 0 + 0 ≤ _)⟩)
  dsimp only [Pt.U, Pt.locs, Pt.cells, Pt.slots] at X63 l63 y63 z63 st63 hQ63
  subst y63 z63
  obtain ⟨rfl, Nq63, q63_0⟩ := hQ63
  have N64 := Eq.subst (motive := fun L => Fr n0 L) l63.symm (Fr.app N61 Nq63)
  have pre65 : ∀ t, Steps p.tables e below (T63.setTop (mkF m 66 #[Sl q1, S2, Sl q2, S2, Sl q3, S2, Sl q4, S2, Sl q5, S2, Si p6, Si vW0, Si vW1, Si vW2, Si vS0, Si vS1, Si vS2, Si (own_lo q1 vS0), Su, Su, Su, Su, Su, Su, Su, Su, Su, Su, Su, Su, Su, Su, Su, Su, Su] [])) t → Steps p.tables e below (s₁.setTop (entryFrame m #[(.long q1), (.long q2), (.long q3), (.long q4), (.long q5), (.int p6)] maxLocals)) t := by
    intro t k
    refine pre62 t ?_
    refine XS.lloadN X60.here hx rfl (hb hby at_58) rfl ?_
    refine XS.iload X60.here hx rfl (hb hby at_59) rfl ?_
    refine st63 _ ?_
    refine XS.istore X63.here hx rfl (hb hby at_64) rfl (l' := #[Sl q1, S2, Sl q2, S2, Sl q3, S2, Sl q4, S2, Sl q5, S2, Si p6, Si vW0, Si vW1, Si vW2, Si vS0, Si vS1, Si vS2, Si (own_lo q1 vS0), Su, Su, Su, Su, Su, Su, Su, Su, Su, Su, Su, Su, Su, Su, Su, Su, Su]) rfl ?_
    exact k
  obtain ⟨vL0, hvL0⟩ : ∃ z : Int32, z = (own_lo q1 vS0) := ⟨_, rfl⟩
  rw [← hvL0] at pre65
  obtain ⟨_, _, ⟨T66, L66, k66, n66⟩, -, X66, ⟨Lc66, hQ66, l66, y66, z66⟩, st66⟩ := Jvm.LawKit.callS X63 hx (y := (⟨"com/example/darlington/darlington/core/StateLayoutUnpackPinLaw", "low", "(JI)I"⟩ : MethodName)) hown (mvT hZ (ow hw 5 rfl)) (mvT hZ (ow hw 6 rfl)) (mvT hZ (ow hw 2 rfl)) (mvT hZ (ow hw 7 rfl)) (by decide) (backOf (W := 0) (rm2 l Z a0 hw [] q2 vS1 h0 n0 Z0) hZ (ow hw 7 rfl) (ow hw 2 rfl) (by decide) (by decide)) (g := (mkF m 69 #[Sl q1, S2, Sl q2, S2, Sl q3, S2, Sl q4, S2, Sl q5, S2, Si p6, Si vW0, Si vW1, Si vW2, Si vS0, Si vS1, Si vS2, Si vL0, Su, Su, Su, Su, Su, Su, Su, Su, Su, Su, Su, Su, Su, Su, Su, Su, Su] [(.int vS1), (.long q2)])) rfl (by rw [hml]; rfl) (argsL := [(.long q2), (.int vS1)]) (rest := []) (lenOf pd_12 rfl) rfl (by show 2 * 0 + _ ≤ _; exact Nat.le_of_eq rfl) (hb hby at_69) (fun _ _ => ⟨rfl, q63_0, (by decide : 0 + 0 ≤ _), (by decide : 0 + 0 ≤ _)⟩)
  dsimp only [Pt.U, Pt.locs, Pt.cells, Pt.slots] at X66 l66 y66 z66 st66 hQ66
  subst y66 z66
  obtain ⟨rfl, Nq66, q66_0⟩ := hQ66
  have N67 := Eq.subst (motive := fun L => Fr n0 L) l66.symm (Fr.app N64 Nq66)
  have pre68 : ∀ t, Steps p.tables e below (T66.setTop (mkF m 74 #[Sl q1, S2, Sl q2, S2, Sl q3, S2, Sl q4, S2, Sl q5, S2, Si p6, Si vW0, Si vW1, Si vW2, Si vS0, Si vS1, Si vS2, Si vL0, Si (own_lo q2 vS1), Su, Su, Su, Su, Su, Su, Su, Su, Su, Su, Su, Su, Su, Su, Su, Su] [])) t → Steps p.tables e below (s₁.setTop (entryFrame m #[(.long q1), (.long q2), (.long q3), (.long q4), (.long q5), (.int p6)] maxLocals)) t := by
    intro t k
    refine pre65 t ?_
    refine XS.lloadN X63.here hx rfl (hb hby at_66) rfl ?_
    refine XS.iload X63.here hx rfl (hb hby at_67) rfl ?_
    refine st66 _ ?_
    show Steps _ _ _ (T66.setTop (mkF m 72 #[Sl q1, S2, Sl q2, S2, Sl q3, S2, Sl q4, S2, Sl q5, S2, Si p6, Si vW0, Si vW1, Si vW2, Si vS0, Si vS1, Si vS2, Si vL0, Su, Su, Su, Su, Su, Su, Su, Su, Su, Su, Su, Su, Su, Su, Su, Su, Su] [(.int (own_lo q2 vS1))])) _
    refine XS.istore X66.here hx rfl (hb hby at_72) rfl (l' := #[Sl q1, S2, Sl q2, S2, Sl q3, S2, Sl q4, S2, Sl q5, S2, Si p6, Si vW0, Si vW1, Si vW2, Si vS0, Si vS1, Si vS2, Si vL0, Si (own_lo q2 vS1), Su, Su, Su, Su, Su, Su, Su, Su, Su, Su, Su, Su, Su, Su, Su, Su]) rfl ?_
    exact k
  obtain ⟨vL1, hvL1⟩ : ∃ z : Int32, z = (own_lo q2 vS1) := ⟨_, rfl⟩
  rw [← hvL1] at pre68
  obtain ⟨_, _, ⟨T69, L69, k69, n69⟩, -, X69, ⟨Lc69, hQ69, l69, y69, z69⟩, st69⟩ := Jvm.LawKit.callS X66 hx (y := (⟨"com/example/darlington/darlington/core/StateLayoutUnpackPinLaw", "low", "(JI)I"⟩ : MethodName)) hown (mvT hZ (ow hw 5 rfl)) (mvT hZ (ow hw 6 rfl)) (mvT hZ (ow hw 2 rfl)) (mvT hZ (ow hw 7 rfl)) (by decide) (backOf (W := 0) (rm2 l Z a0 hw [] q3 vS2 h0 n0 Z0) hZ (ow hw 7 rfl) (ow hw 2 rfl) (by decide) (by decide)) (g := (mkF m 78 #[Sl q1, S2, Sl q2, S2, Sl q3, S2, Sl q4, S2, Sl q5, S2, Si p6, Si vW0, Si vW1, Si vW2, Si vS0, Si vS1, Si vS2, Si vL0, Si vL1, Su, Su, Su, Su, Su, Su, Su, Su, Su, Su, Su, Su, Su, Su, Su, Su] [(.int vS2), (.long q3)])) rfl (by rw [hml]; rfl) (argsL := [(.long q3), (.int vS2)]) (rest := []) (lenOf pd_12 rfl) rfl (by show 2 * 0 + _ ≤ _; exact Nat.le_of_eq rfl) (hb hby at_78) (fun _ _ => ⟨rfl, q66_0, (by decide : 0 + 0 ≤ _), (by decide : 0 + 0 ≤ _)⟩)
  dsimp only [Pt.U, Pt.locs, Pt.cells, Pt.slots] at X69 l69 y69 z69 st69 hQ69
  subst y69 z69
  obtain ⟨rfl, Nq69, q69_0⟩ := hQ69
  have N70 := Eq.subst (motive := fun L => Fr n0 L) l69.symm (Fr.app N67 Nq69)
  have pre71 : ∀ t, Steps p.tables e below (T69.setTop (mkF m 83 #[Sl q1, S2, Sl q2, S2, Sl q3, S2, Sl q4, S2, Sl q5, S2, Si p6, Si vW0, Si vW1, Si vW2, Si vS0, Si vS1, Si vS2, Si vL0, Si vL1, Si (own_lo q3 vS2), Su, Su, Su, Su, Su, Su, Su, Su, Su, Su, Su, Su, Su, Su, Su] [])) t → Steps p.tables e below (s₁.setTop (entryFrame m #[(.long q1), (.long q2), (.long q3), (.long q4), (.long q5), (.int p6)] maxLocals)) t := by
    intro t k
    refine pre68 t ?_
    refine XS.lload X66.here hx rfl (hb hby at_74) rfl ?_
    refine XS.iload X66.here hx rfl (hb hby at_76) rfl ?_
    refine st69 _ ?_
    refine XS.istore X69.here hx rfl (hb hby at_81) rfl (l' := #[Sl q1, S2, Sl q2, S2, Sl q3, S2, Sl q4, S2, Sl q5, S2, Si p6, Si vW0, Si vW1, Si vW2, Si vS0, Si vS1, Si vS2, Si vL0, Si vL1, Si (own_lo q3 vS2), Su, Su, Su, Su, Su, Su, Su, Su, Su, Su, Su, Su, Su, Su, Su]) rfl ?_
    exact k
  obtain ⟨vL2, hvL2⟩ : ∃ z : Int32, z = (own_lo q3 vS2) := ⟨_, rfl⟩
  rw [← hvL2] at pre71
  have hl0 : vL0.toInt + vS0.toInt ≤ 2147483647 := by rw [hvL0]; exact own_loR _ _ hs0
  have hl1 : vL1.toInt + vS1.toInt ≤ 2147483647 := by rw [hvL1]; exact own_loR _ _ hs1
  have hl2 : vL2.toInt + vS2.toInt ≤ 2147483647 := by rw [hvL2]; exact own_loR _ _ hs2
  obtain ⟨_, _, ⟨T72, L72, k72, n72⟩, -, X72, ⟨Lc72, hQ72, l72, y72, z72⟩, st72⟩ := Jvm.LawKit.callS X69 hx (y := (⟨"com/example/darlington/darlington/core/StateLayoutUnpackPinLaw", "value", "(IIJ)I"⟩ : MethodName)) hown (mvT hZ (ow hw 9 rfl)) (mvT hZ (ow hw 10 rfl)) (mvT hZ (ow hw 2 rfl)) (mvT hZ (ow hw 11 rfl)) (by decide) (backOf (W := 0) (rm3 l Z a0 hw [] vL0 vS0 q4 h0 n0 Z0 (own_vnz hs0)) hZ (ow hw 11 rfl) (ow hw 2 rfl) (by decide) (by decide)) (g := (mkF m 89 #[Sl q1, S2, Sl q2, S2, Sl q3, S2, Sl q4, S2, Sl q5, S2, Si p6, Si vW0, Si vW1, Si vW2, Si vS0, Si vS1, Si vS2, Si vL0, Si vL1, Si vL2, Su, Su, Su, Su, Su, Su, Su, Su, Su, Su, Su, Su, Su, Su, Su] [(.long q4), (.int vS0), (.int vL0)])) rfl (by rw [hml]; rfl) (argsL := [(.int vL0), (.int vS0), (.long q4)]) (rest := []) (lenOf pd_13 rfl) rfl (by show 2 * 0 + _ ≤ _; exact Nat.le_of_eq rfl) (hb hby at_89) (fun _ _ => ⟨rfl, q69_0, (by decide : 0 + 0 ≤ _), (by decide : 0 + 0 ≤ _)⟩)
  dsimp only [Pt.U, Pt.locs, Pt.cells, Pt.slots] at X72 l72 y72 z72 st72 hQ72
  subst y72 z72
  obtain ⟨rfl, Nq72, q72_0⟩ := hQ72
  have N73 := Eq.subst (motive := fun L => Fr n0 L) l72.symm (Fr.app N70 Nq72)
  have pre74 : ∀ t, Steps p.tables e below (T72.setTop (mkF m 94 #[Sl q1, S2, Sl q2, S2, Sl q3, S2, Sl q4, S2, Sl q5, S2, Si p6, Si vW0, Si vW1, Si vW2, Si vS0, Si vS1, Si vS2, Si vL0, Si vL1, Si vL2, Si (own_vl vL0 vS0 q4), Su, Su, Su, Su, Su, Su, Su, Su, Su, Su, Su, Su, Su, Su] [])) t → Steps p.tables e below (s₁.setTop (entryFrame m #[(.long q1), (.long q2), (.long q3), (.long q4), (.long q5), (.int p6)] maxLocals)) t := by
    intro t k
    refine pre71 t ?_
    refine XS.iload X69.here hx rfl (hb hby at_83) rfl ?_
    refine XS.iload X69.here hx rfl (hb hby at_85) rfl ?_
    refine XS.lload X69.here hx rfl (hb hby at_87) rfl ?_
    show Steps _ _ _ (T69.setTop (mkF m 89 #[Sl q1, S2, Sl q2, S2, Sl q3, S2, Sl q4, S2, Sl q5, S2, Si p6, Si vW0, Si vW1, Si vW2, Si vS0, Si vS1, Si vS2, Si vL0, Si vL1, Si vL2, Su, Su, Su, Su, Su, Su, Su, Su, Su, Su, Su, Su, Su, Su, Su] [(.long q4), (.int vS0), (.int vL0)])) _
    refine st72 _ ?_
    refine XS.istore X72.here hx rfl (hb hby at_92) rfl (l' := #[Sl q1, S2, Sl q2, S2, Sl q3, S2, Sl q4, S2, Sl q5, S2, Si p6, Si vW0, Si vW1, Si vW2, Si vS0, Si vS1, Si vS2, Si vL0, Si vL1, Si vL2, Si (own_vl vL0 vS0 q4), Su, Su, Su, Su, Su, Su, Su, Su, Su, Su, Su, Su, Su, Su]) rfl ?_
    exact k
  obtain ⟨vX0, hvX0⟩ : ∃ z : Int32, z = (own_vl vL0 vS0 q4) := ⟨_, rfl⟩
  rw [← hvX0] at pre74
  obtain ⟨_, _, ⟨T75, L75, k75, n75⟩, -, X75, ⟨Lc75, hQ75, l75, y75, z75⟩, st75⟩ := Jvm.LawKit.callS X72 hx (y := (⟨"com/example/darlington/darlington/core/StateLayoutUnpackPinLaw", "value", "(IIJ)I"⟩ : MethodName)) hown (mvT hZ (ow hw 9 rfl)) (mvT hZ (ow hw 10 rfl)) (mvT hZ (ow hw 2 rfl)) (mvT hZ (ow hw 11 rfl)) (by decide) (backOf (W := 0) (rm3 l Z a0 hw [] vL1 vS1 ((q4.toUInt64 >>> ((32 : Int32) &&& 0x3f).toInt64.toUInt64).toInt64) h0 n0 Z0 (own_vnz hs1)) hZ (ow hw 11 rfl) (ow hw 2 rfl) (by decide) (by decide)) (g := (mkF m 103 #[Sl q1, S2, Sl q2, S2, Sl q3, S2, Sl q4, S2, Sl q5, S2, Si p6, Si vW0, Si vW1, Si vW2, Si vS0, Si vS1, Si vS2, Si vL0, Si vL1, Si vL2, Si vX0, Su, Su, Su, Su, Su, Su, Su, Su, Su, Su, Su, Su, Su, Su] [(.long ((q4.toUInt64 >>> ((32 : Int32) &&& 0x3f).toInt64.toUInt64).toInt64)), (.int vS1), (.int vL1)])) rfl (by rw [hml]; rfl) (argsL := [(.int vL1), (.int vS1), (.long ((q4.toUInt64 >>> ((32 : Int32) &&& 0x3f).toInt64.toUInt64).toInt64))]) (rest := []) (lenOf pd_13 rfl) rfl (by show 2 * 0 + _ ≤ _; exact Nat.le_of_eq rfl) (hb hby at_103) (fun _ _ => ⟨rfl, q72_0, (by decide : 0 + 0 ≤ _), (by decide : 0 + 0 ≤ _)⟩)
  dsimp only [Pt.U, Pt.locs, Pt.cells, Pt.slots] at X75 l75 y75 z75 st75 hQ75
  subst y75 z75
  obtain ⟨rfl, Nq75, q75_0⟩ := hQ75
  have N76 := Eq.subst (motive := fun L => Fr n0 L) l75.symm (Fr.app N73 Nq75)
  have pre77 : ∀ t, Steps p.tables e below (T75.setTop (mkF m 108 #[Sl q1, S2, Sl q2, S2, Sl q3, S2, Sl q4, S2, Sl q5, S2, Si p6, Si vW0, Si vW1, Si vW2, Si vS0, Si vS1, Si vS2, Si vL0, Si vL1, Si vL2, Si vX0, Si (own_vl vL1 vS1 ((q4.toUInt64 >>> ((32 : Int32) &&& 0x3f).toInt64.toUInt64).toInt64)), Su, Su, Su, Su, Su, Su, Su, Su, Su, Su, Su, Su, Su] [])) t → Steps p.tables e below (s₁.setTop (entryFrame m #[(.long q1), (.long q2), (.long q3), (.long q4), (.long q5), (.int p6)] maxLocals)) t := by
    intro t k
    refine pre74 t ?_
    refine XS.iload X72.here hx rfl (hb hby at_94) rfl ?_
    refine XS.iload X72.here hx rfl (hb hby at_96) rfl ?_
    refine XS.lload X72.here hx rfl (hb hby at_98) rfl ?_
    refine XS.bipush X72.here hx rfl (hb hby at_100) ?_
    refine XS.lushr X72.here hx rfl (hb hby at_102) rfl ?_
    refine st75 _ ?_
    show Steps _ _ _ (T75.setTop (mkF m 106 #[Sl q1, S2, Sl q2, S2, Sl q3, S2, Sl q4, S2, Sl q5, S2, Si p6, Si vW0, Si vW1, Si vW2, Si vS0, Si vS1, Si vS2, Si vL0, Si vL1, Si vL2, Si vX0, Su, Su, Su, Su, Su, Su, Su, Su, Su, Su, Su, Su, Su, Su] [(.int (own_vl vL1 vS1 ((q4.toUInt64 >>> ((32 : Int32) &&& 0x3f).toInt64.toUInt64).toInt64)))])) _
    refine XS.istore X75.here hx rfl (hb hby at_106) rfl (l' := #[Sl q1, S2, Sl q2, S2, Sl q3, S2, Sl q4, S2, Sl q5, S2, Si p6, Si vW0, Si vW1, Si vW2, Si vS0, Si vS1, Si vS2, Si vL0, Si vL1, Si vL2, Si vX0, Si (own_vl vL1 vS1 ((q4.toUInt64 >>> ((32 : Int32) &&& 0x3f).toInt64.toUInt64).toInt64)), Su, Su, Su, Su, Su, Su, Su, Su, Su, Su, Su, Su, Su]) rfl ?_
    exact k
  obtain ⟨vX1, hvX1⟩ : ∃ z : Int32, z = (own_vl vL1 vS1 ((q4.toUInt64 >>> ((32 : Int32) &&& 0x3f).toInt64.toUInt64).toInt64)) := ⟨_, rfl⟩
  rw [← hvX1] at pre77
  obtain ⟨_, _, ⟨T78, L78, k78, n78⟩, -, X78, ⟨Lc78, hQ78, l78, y78, z78⟩, st78⟩ := Jvm.LawKit.callS X75 hx (y := (⟨"com/example/darlington/darlington/core/StateLayoutUnpackPinLaw", "value", "(IIJ)I"⟩ : MethodName)) hown (mvT hZ (ow hw 9 rfl)) (mvT hZ (ow hw 10 rfl)) (mvT hZ (ow hw 2 rfl)) (mvT hZ (ow hw 11 rfl)) (by decide) (backOf (W := 0) (rm3 l Z a0 hw [] vL2 vS2 q5 h0 n0 Z0 (own_vnz hs2)) hZ (ow hw 11 rfl) (ow hw 2 rfl) (by decide) (by decide)) (g := (mkF m 114 #[Sl q1, S2, Sl q2, S2, Sl q3, S2, Sl q4, S2, Sl q5, S2, Si p6, Si vW0, Si vW1, Si vW2, Si vS0, Si vS1, Si vS2, Si vL0, Si vL1, Si vL2, Si vX0, Si vX1, Su, Su, Su, Su, Su, Su, Su, Su, Su, Su, Su, Su, Su] [(.long q5), (.int vS2), (.int vL2)])) rfl (by rw [hml]; rfl) (argsL := [(.int vL2), (.int vS2), (.long q5)]) (rest := []) (lenOf pd_13 rfl) rfl (by show 2 * 0 + _ ≤ _; exact Nat.le_of_eq rfl) (hb hby at_114) (fun _ _ => ⟨rfl, q75_0, (by decide : 0 + 0 ≤ _), (by decide : 0 + 0 ≤ _)⟩)
  dsimp only [Pt.U, Pt.locs, Pt.cells, Pt.slots] at X78 l78 y78 z78 st78 hQ78
  subst y78 z78
  obtain ⟨rfl, Nq78, q78_0⟩ := hQ78
  have N79 := Eq.subst (motive := fun L => Fr n0 L) l78.symm (Fr.app N76 Nq78)
  have pre80 : ∀ t, Steps p.tables e below (T78.setTop (mkF m 119 #[Sl q1, S2, Sl q2, S2, Sl q3, S2, Sl q4, S2, Sl q5, S2, Si p6, Si vW0, Si vW1, Si vW2, Si vS0, Si vS1, Si vS2, Si vL0, Si vL1, Si vL2, Si vX0, Si vX1, Si (own_vl vL2 vS2 q5), Su, Su, Su, Su, Su, Su, Su, Su, Su, Su, Su, Su] [])) t → Steps p.tables e below (s₁.setTop (entryFrame m #[(.long q1), (.long q2), (.long q3), (.long q4), (.long q5), (.int p6)] maxLocals)) t := by
    intro t k
    refine pre77 t ?_
    refine XS.iload X75.here hx rfl (hb hby at_108) rfl ?_
    refine XS.iload X75.here hx rfl (hb hby at_110) rfl ?_
    refine XS.lload X75.here hx rfl (hb hby at_112) rfl ?_
    refine st78 _ ?_
    refine XS.istore X78.here hx rfl (hb hby at_117) rfl (l' := #[Sl q1, S2, Sl q2, S2, Sl q3, S2, Sl q4, S2, Sl q5, S2, Si p6, Si vW0, Si vW1, Si vW2, Si vS0, Si vS1, Si vS2, Si vL0, Si vL1, Si vL2, Si vX0, Si vX1, Si (own_vl vL2 vS2 q5), Su, Su, Su, Su, Su, Su, Su, Su, Su, Su, Su, Su]) rfl ?_
    exact k
  obtain ⟨vX2, hvX2⟩ : ∃ z : Int32, z = (own_vl vL2 vS2 q5) := ⟨_, rfl⟩
  rw [← hvX2] at pre80
  have hx0 : 0 ≤ vX0.toInt - vL0.toInt ∧ vX0.toInt - vL0.toInt ≤ vS0.toInt := by rw [hvX0]; exact own_vlR _ _ _ hs0 hl0
  have hr0 := own_rng2 vL0 vS0 hs0 hl0
  obtain ⟨vZ0, hvZ0⟩ : ∃ z : Int32, z = own_size vL0 (vL0 + vS0) := ⟨_, rfl⟩
  rw [← hvZ0] at hr0
  have hz0 : 1 ≤ vZ0.toInt := own_z1 hr0.2.2 hs0
  have hx1 : 0 ≤ vX1.toInt - vL1.toInt ∧ vX1.toInt - vL1.toInt ≤ vS1.toInt := by rw [hvX1]; exact own_vlR _ _ _ hs1 hl1
  have hr1 := own_rng2 vL1 vS1 hs1 hl1
  obtain ⟨vZ1, hvZ1⟩ : ∃ z : Int32, z = own_size vL1 (vL1 + vS1) := ⟨_, rfl⟩
  rw [← hvZ1] at hr1
  have hz1 : 1 ≤ vZ1.toInt := own_z1 hr1.2.2 hs1
  have hx2 : 0 ≤ vX2.toInt - vL2.toInt ∧ vX2.toInt - vL2.toInt ≤ vS2.toInt := by rw [hvX2]; exact own_vlR _ _ _ hs2 hl2
  have hr2 := own_rng2 vL2 vS2 hs2 hl2
  obtain ⟨vZ2, hvZ2⟩ : ∃ z : Int32, z = own_size vL2 (vL2 + vS2) := ⟨_, rfl⟩
  rw [← hvZ2] at hr2
  have hz2 : 1 ≤ vZ2.toInt := own_z1 hr2.2.2 hs2
  obtain ⟨b0, b1, b2, ⟨B0, B1, B2⟩, ⟨Y0, Y1, Y2⟩, G0, G1, G2a, G2b, U4, U5⟩ := own_geoG vZ0 vZ1 vZ2 hz0 hz1 hz2
  have hy0 : vX0.toInt - vL0.toInt < 2 ^ b0 := own_y2 hx0.2 hr0.2.2 Y0
  have hy1 : vX1.toInt - vL1.toInt < 2 ^ b1 := own_y2 hx1.2 hr1.2.2 Y1
  have hy2 : vX2.toInt - vL2.toInt < 2 ^ b2 := own_y2 hx2.2 hr2.2.2 Y2
  obtain ⟨T81, h81, X81, e81, E81, A81, D81, -, st81⟩ := newO X78 hx hZ hown (ow hw 13 rfl) (ow hw 14 rfl) (ow hw 15 rfl) q78_0 (g := (mkF m 119 #[Sl q1, S2, Sl q2, S2, Sl q3, S2, Sl q4, S2, Sl q5, S2, Si p6, Si vW0, Si vW1, Si vW2, Si vS0, Si vS1, Si vS2, Si vL0, Si vL1, Si vL2, Si vX0, Si vX1, Si vX2, Su, Su, Su, Su, Su, Su, Su, Su, Su, Su, Su, Su] [])) rfl (hb hby at_119) (by decide) (by decide)
  obtain ⟨b81, g81⟩ : ∃ z, z = h0.size := ⟨_, rfl⟩
  rw [← g81] at A81 D81 st81
  have ge82 : n0 ≤ b81 := Nat.le_trans Z0 (Nat.le_of_eq g81.symm)
  have sz83 : h0.size ≤ b81 := Nat.le_trans (Keep.refl h0 []).1 (Nat.le_of_eq g81.symm)
  have KC84 : Keep h0 h81 [] := (Keep.refl h0 []).ext E81
  have F85 : Fld Z h81 b81 "java/util/AbstractList" "modCount" "I" (.int (0 : Int32)) := D81 (Or.inl (ow hw 35 rfl)) (ty := .int) (by decide)
  have F86 : Fld Z h81 b81 "java/util/ArrayList" "elementData" "[Ljava/lang/Object;" .null := D81 (Or.inl (ow hw 38 rfl)) (ty := (.array (.object "java/lang/Object"))) (by decide)
  have F87 : Fld Z h81 b81 "java/util/ArrayList" "size" "I" (.int (0 : Int32)) := D81 (Or.inl (ow hw 71 rfl)) (ty := .int) (by decide)
  have O88 : Old Z n0 h81 := (O0.ext E81)
  obtain ⟨_, _, ⟨T89, L89, k89, n89⟩, -, X89, ⟨Lc89, hQ89, l89, y89, z89⟩, st89⟩ := X81.specialBack hx (y := (⟨"java/util/ArrayList", "<init>", "()V"⟩ : MethodName)) rfl hown (mvT hZ (ow hw 16 rfl)) (mvT hZ (ow hw 17 rfl)) (mvT hZ (ow hw 18 rfl)) (by decide) (backOf (W := 1) (rm4 l Z a0 hw [] b81 (0 : Int32) wE kE h81 n0 (Nat.le_trans Z0 KC84.1) O88 SE VE A81 F85 F87 F86 ge82) hZ (ow hw 18 rfl) (ow hw 15 rfl) (by decide) (by decide)) (g := (mkF m 123 #[Sl q1, S2, Sl q2, S2, Sl q3, S2, Sl q4, S2, Sl q5, S2, Si p6, Si vW0, Si vW1, Si vW2, Si vS0, Si vS1, Si vS2, Si vL0, Si vL1, Si vL2, Si vX0, Si vX1, Si vX2, Su, Su, Su, Su, Su, Su, Su, Su, Su, Su, Su, Su] [(.ref b81), (.ref b81)])) rfl (by rw [hml]; rfl) (Steps.refl _) (a := b81) (argsL := []) (rest := [(.ref b81)]) (lenOf pd_0 rfl) rfl (by show 2 * 0 + _ ≤ _; exact Nat.le_of_eq rfl) (hb hby at_123) (fun _ _ => ⟨rfl, e81, (by decide : 1 + 0 ≤ _), (by decide : 3 + 0 ≤ _)⟩)
  dsimp only [Pt.U, Pt.locs, Pt.cells, Pt.slots] at X89 l89 y89 z89 st89 hQ89
  subst y89 z89
  obtain ⟨rfl, Nq89, q89_0, q89_1, q89_2, q89_3⟩ := hQ89
  have N90 := Eq.subst (motive := fun L => Fr n0 L) l89.symm (Fr.app N79 Nq89)
  have KC91 : Keep h0 T89.heap [] := KC84.trans q89_0 (allS (Or.inr sz83) all0)
  obtain ⟨T92, h92, X92, e92, E92, A92, D92, -, st92⟩ := newO X89 hx hZ hown (ow hw 39 rfl) (ow hw 40 rfl) (ow hw 41 rfl) rfl (g := (mkF m 130 #[Sl q1, S2, Sl q2, S2, Sl q3, S2, Sl q4, S2, Sl q5, S2, Si p6, Si vW0, Si vW1, Si vW2, Si vS0, Si vS1, Si vS2, Si vL0, Si vL1, Si vL2, Si vX0, Si vX1, Si vX2, Sr b81, Su, Su, Su, Su, Su, Su, Su, Su, Su, Su, Su] [(.ref b81)])) rfl (hb hby at_130) (by decide) (by decide)
  obtain ⟨b92, g92⟩ : ∃ z, z = T89.heap.size := ⟨_, rfl⟩
  rw [← g92] at A92 D92 st92
  have F93 : Exa Z T89.heap b81 "java/util/ArrayList" := (A81.keep q89_0)
  have ne94 : b81 ≠ b92 := Nat.ne_of_lt (Nat.lt_of_lt_of_le F93.lt (Nat.le_of_eq g92.symm))
  have ge95 : n0 ≤ b92 := Nat.le_trans (Nat.le_trans Z0 KC91.1) (Nat.le_of_eq g92.symm)
  have sz96 : h0.size ≤ b92 := Nat.le_trans KC91.1 (Nat.le_of_eq g92.symm)
  have KC97 : Keep h0 h92 [] := KC91.ext E92
  have F98 : Fld Z h92 b92 "com/example/darlington/darlington/core/FiniteType" "first" "I" (.int (0 : Int32)) := D92 (Or.inr (ow hw 56 rfl)) (ty := .int) (by decide)
  have F99 : Fld Z h92 b92 "com/example/darlington/darlington/core/FiniteType" "size" "I" (.int (0 : Int32)) := D92 (Or.inr (ow hw 58 rfl)) (ty := .int) (by decide)
  obtain ⟨_, _, ⟨T100, L100, k100, n100⟩, -, X100, ⟨Lc100, hQ100, l100, y100, z100⟩, st100⟩ := X92.specialBack hx (y := (⟨"com/example/darlington/darlington/core/IntegerRange", "<init>", "(II)V"⟩ : MethodName)) rfl hown (mvT hZ (ow hw 42 rfl)) (mvT hZ (ow hw 43 rfl)) (mvT hZ (ow hw 44 rfl)) (by decide) (backOf (W := 2) (rm8 l Z a0 hw [] b92 vL0 (vL0 + vS0) (0 : Int32) (0 : Int32) h92 n0 (Nat.le_trans Z0 KC97.1) A92 F98 F99 ge95 hr0.1 hr0.2.1) hZ (ow hw 44 rfl) (ow hw 41 rfl) (by decide) (by decide)) (g := (mkF m 141 #[Sl q1, S2, Sl q2, S2, Sl q3, S2, Sl q4, S2, Sl q5, S2, Si p6, Si vW0, Si vW1, Si vW2, Si vS0, Si vS1, Si vS2, Si vL0, Si vL1, Si vL2, Si vX0, Si vX1, Si vX2, Sr b81, Su, Su, Su, Su, Su, Su, Su, Su, Su, Su, Su] [(.int (vL0 + vS0)), (.int vL0), (.ref b92), (.ref b92), (.ref b81)])) rfl (by rw [hml]; rfl) (Steps.refl _) (a := b92) (argsL := [(.int vL0), (.int (vL0 + vS0))]) (rest := [(.ref b92), (.ref b81)]) (lenOf pd_7 rfl) rfl (by show 2 * 0 + _ ≤ _; exact Nat.le_of_eq rfl) (hb hby at_141) (fun _ _ => ⟨rfl, e92, (by decide : 2 + 0 ≤ _), (by decide : 5 + 0 ≤ _)⟩)
  dsimp only [Pt.U, Pt.locs, Pt.cells, Pt.slots] at X100 l100 y100 z100 st100 hQ100
  subst y100 z100
  obtain ⟨rfl, Nq100, q100_0, q100_1, q100_2⟩ := hQ100
  have N101 := Eq.subst (motive := fun L => Fr n0 L) l100.symm (Fr.app N90 Nq100)
  have KC102 : Keep h0 T100.heap [] := KC97.trans q100_0 (allS (Or.inr sz96) all0)
  rw [← hvZ0] at q100_2
  have O103 : Old Z n0 T100.heap := (((O88.keep q89_0 (allS ge82 all0)).ext E92).keep q100_0 (allS ge95 all0))
  have F104 : Exa Z T100.heap b92 "com/example/darlington/darlington/core/IntegerRange" := (A92.keep q100_0)
  have F105 : Exa Z T100.heap b81 "java/util/ArrayList" := ((F93.ext E92).keep q100_0)
  have F106 : Fld Z T100.heap b81 "java/util/ArrayList" "size" "I" (.int (0 : Int32)) := ((q89_2.ext E92).keep q100_0 (ninS ne94 nin0))
  have F107 : Fld Z T100.heap b81 "java/util/ArrayList" "elementData" "[Ljava/lang/Object;" (.ref wE) := ((q89_3.ext E92).keep q100_0 (ninS ne94 nin0))
  have F108 : Fld Z T100.heap b81 "java/util/AbstractList" "modCount" "I" (.int (0 : Int32)) := ((q89_1.ext E92).keep q100_0 (ninS ne94 nin0))
  obtain ⟨cq109, kq109, q109a, q109b, q109c⟩ := isOf hZ rfl F105
  obtain ⟨_, _, ⟨T109, L109, k109, n109⟩, -, X109, ⟨Lc109, hQ109, l109, y109, z109⟩, st109⟩ := X100.interfaceBack hx (xi := (⟨"java/util/List", "add", "(Ljava/lang/Object;)Z"⟩ : MethodName)) (y := (⟨"java/util/ArrayList", "add", "(Ljava/lang/Object;)Z"⟩ : MethodName)) hown (mvT hZ (ow hw 59 rfl)) (mvT hZ (ow hw 60 rfl)) (mvT hZ (ow hw 61 rfl)) (mvT hZ (ow hw 62 rfl)) (mvT hZ (ow hw 63 rfl)) (mvT hZ (ow hw 64 rfl)) (mvT hZ (ow hw 65 rfl)) (mvT hZ (ow hw 66 rfl)) (by decide) (backOf (W := 0) (rm_addA0_IntegerRange l Z a0 hw [] b81 b92 wE kE (0 : Int32) T100.heap n0 (Nat.le_trans Z0 KC102.1) O103 SE VE ge82 F104 F105 F106 F107 F108) hZ (ow hw 67 rfl) (ow hw 15 rfl) (by decide) (by decide)) q109a q109b q109c (g := (mkF m 144 #[Sl q1, S2, Sl q2, S2, Sl q3, S2, Sl q4, S2, Sl q5, S2, Si p6, Si vW0, Si vW1, Si vW2, Si vS0, Si vS1, Si vS2, Si vL0, Si vL1, Si vL2, Si vX0, Si vX1, Si vX2, Sr b81, Su, Su, Su, Su, Su, Su, Su, Su, Su, Su, Su] [(.ref b92), (.ref b81)])) rfl (by rw [hml]; rfl) (Steps.refl _) (argsL := [(.ref b92)]) (rest := []) (lenOf pd_14 rfl) rfl (by show 2 * 0 + _ ≤ _; exact Nat.le_of_eq rfl) (hb hby at_144) (fun _ _ => ⟨rfl, rfl, (by decide : 2 + 1 ≤ _), (by decide : 5 + 10 ≤ _)⟩)
  dsimp only [Pt.U, Pt.locs, Pt.cells, Pt.slots] at X109 l109 y109 z109 st109 hQ109
  subst y109 z109
  obtain ⟨r_109, kr_109, rfl, Nq109, q109_0, q109_1, q109_2, q109_3, q109_4, q109_5, q109_6⟩ := hQ109
  have N110 := Eq.subst (motive := fun L => Fr n0 L) l109.symm (Fr.app N101 Nq109)
  have ne111 : b81 ≠ r_109 := Nat.ne_of_lt (Nat.lt_of_lt_of_le F105.lt q109_1)
  have ne112 : b92 ≠ r_109 := Nat.ne_of_lt (Nat.lt_of_lt_of_le F104.lt q109_1)
  have ge113 : n0 ≤ r_109 := Nat.le_trans (Nat.le_trans Z0 KC102.1) q109_1
  have sz114 : h0.size ≤ r_109 := Nat.le_trans KC102.1 q109_1
  have KC115 : Keep h0 T109.heap [] := KC102.trans q109_0 (allS (Or.inr sz83) all0)
  obtain ⟨T116, h116, X116, e116, E116, A116, D116, -, st116⟩ := newO X109 hx hZ hown (ow hw 39 rfl) (ow hw 40 rfl) (ow hw 41 rfl) rfl (g := (mkF m 152 #[Sl q1, S2, Sl q2, S2, Sl q3, S2, Sl q4, S2, Sl q5, S2, Si p6, Si vW0, Si vW1, Si vW2, Si vS0, Si vS1, Si vS2, Si vL0, Si vL1, Si vL2, Si vX0, Si vX1, Si vX2, Sr b81, Su, Su, Su, Su, Su, Su, Su, Su, Su, Su, Su] [(.ref b81)])) rfl (hb hby at_152) (by decide) (by decide)
  obtain ⟨b116, g116⟩ : ∃ z, z = T109.heap.size := ⟨_, rfl⟩
  rw [← g116] at A116 D116 st116
  have F117 : Exa Z T109.heap b81 "java/util/ArrayList" := (F105.keep q109_0)
  have ne118 : b81 ≠ b116 := Nat.ne_of_lt (Nat.lt_of_lt_of_le F117.lt (Nat.le_of_eq g116.symm))
  have F119 : Exa Z T109.heap b92 "com/example/darlington/darlington/core/IntegerRange" := (F104.keep q109_0)
  have ne120 : b92 ≠ b116 := Nat.ne_of_lt (Nat.lt_of_lt_of_le F119.lt (Nat.le_of_eq g116.symm))
  have ne121 : r_109 ≠ b116 := Nat.ne_of_lt (Nat.lt_of_lt_of_le q109_2.lt (Nat.le_of_eq g116.symm))
  have ge122 : n0 ≤ b116 := Nat.le_trans (Nat.le_trans Z0 KC115.1) (Nat.le_of_eq g116.symm)
  have sz123 : h0.size ≤ b116 := Nat.le_trans KC115.1 (Nat.le_of_eq g116.symm)
  have KC124 : Keep h0 h116 [] := KC115.ext E116
  have F125 : Fld Z h116 b116 "com/example/darlington/darlington/core/FiniteType" "first" "I" (.int (0 : Int32)) := D116 (Or.inr (ow hw 56 rfl)) (ty := .int) (by decide)
  have F126 : Fld Z h116 b116 "com/example/darlington/darlington/core/FiniteType" "size" "I" (.int (0 : Int32)) := D116 (Or.inr (ow hw 58 rfl)) (ty := .int) (by decide)
  obtain ⟨_, _, ⟨T127, L127, k127, n127⟩, -, X127, ⟨Lc127, hQ127, l127, y127, z127⟩, st127⟩ := X116.specialBack hx (y := (⟨"com/example/darlington/darlington/core/IntegerRange", "<init>", "(II)V"⟩ : MethodName)) rfl hown (mvT hZ (ow hw 42 rfl)) (mvT hZ (ow hw 43 rfl)) (mvT hZ (ow hw 44 rfl)) (by decide) (backOf (W := 2) (rm8 l Z a0 hw [] b116 vL1 (vL1 + vS1) (0 : Int32) (0 : Int32) h116 n0 (Nat.le_trans Z0 KC124.1) A116 F125 F126 ge122 hr1.1 hr1.2.1) hZ (ow hw 44 rfl) (ow hw 41 rfl) (by decide) (by decide)) (g := (mkF m 163 #[Sl q1, S2, Sl q2, S2, Sl q3, S2, Sl q4, S2, Sl q5, S2, Si p6, Si vW0, Si vW1, Si vW2, Si vS0, Si vS1, Si vS2, Si vL0, Si vL1, Si vL2, Si vX0, Si vX1, Si vX2, Sr b81, Su, Su, Su, Su, Su, Su, Su, Su, Su, Su, Su] [(.int (vL1 + vS1)), (.int vL1), (.ref b116), (.ref b116), (.ref b81)])) rfl (by rw [hml]; rfl) (Steps.refl _) (a := b116) (argsL := [(.int vL1), (.int (vL1 + vS1))]) (rest := [(.ref b116), (.ref b81)]) (lenOf pd_7 rfl) rfl (by show 2 * 0 + _ ≤ _; exact Nat.le_of_eq rfl) (hb hby at_163) (fun _ _ => ⟨rfl, e116, (by decide : 4 + 0 ≤ _), (by decide : 17 + 0 ≤ _)⟩)
  dsimp only [Pt.U, Pt.locs, Pt.cells, Pt.slots] at X127 l127 y127 z127 st127 hQ127
  subst y127 z127
  obtain ⟨rfl, Nq127, q127_0, q127_1, q127_2⟩ := hQ127
  have N128 := Eq.subst (motive := fun L => Fr n0 L) l127.symm (Fr.app N110 Nq127)
  have KC129 : Keep h0 T127.heap [] := KC124.trans q127_0 (allS (Or.inr sz123) all0)
  rw [← hvZ1] at q127_2
  have F130 : Exa Z T127.heap b81 "java/util/ArrayList" := ((F117.ext E116).keep q127_0)
  have F131 : Fld Z T127.heap b81 "java/util/ArrayList" "size" "I" (.int (1 : Int32)) := ((q109_5.ext E116).keep q127_0 (ninS ne118 nin0))
  have F132 : Fld Z T127.heap b81 "java/util/ArrayList" "elementData" "[Ljava/lang/Object;" (.ref r_109) := ((q109_4.ext E116).keep q127_0 (ninS ne118 nin0))
  have F133 : Fld Z T127.heap b81 "java/util/AbstractList" "modCount" "I" (.int ((0 : Int32) + (1 : Int32))) := ((q109_6.ext E116).keep q127_0 (ninS ne118 nin0))
  have F134 : Exa Z T127.heap b116 "com/example/darlington/darlington/core/IntegerRange" := (A116.keep q127_0)
  have F135 : Arv Z T127.heap r_109 kr_109 (.object "java/lang/Object") (10 : Int32) [(.ref b92), .null, .null, .null, .null, .null, .null, .null, .null, .null] .null := ((q109_2.ext E116).keep q127_0 (ninS ne121 nin0))
  obtain ⟨cq136, kq136, q136a, q136b, q136c⟩ := isOf hZ rfl F130
  obtain ⟨_, _, ⟨T136, L136, k136, n136⟩, -, X136, ⟨Lc136, hQ136, l136, y136, z136⟩, st136⟩ := X127.interfaceBack hx (xi := (⟨"java/util/List", "add", "(Ljava/lang/Object;)Z"⟩ : MethodName)) (y := (⟨"java/util/ArrayList", "add", "(Ljava/lang/Object;)Z"⟩ : MethodName)) hown (mvT hZ (ow hw 59 rfl)) (mvT hZ (ow hw 60 rfl)) (mvT hZ (ow hw 61 rfl)) (mvT hZ (ow hw 62 rfl)) (mvT hZ (ow hw 63 rfl)) (mvT hZ (ow hw 64 rfl)) (mvT hZ (ow hw 65 rfl)) (mvT hZ (ow hw 66 rfl)) (by decide) (backOf (W := 0) (rm_addA1_IntegerRange l Z a0 hw [] b81 b116 r_109 kr_109 ((0 : Int32) + (1 : Int32)) b92 T127.heap n0 (Nat.le_trans Z0 KC129.1) F130 F131 F132 F133 ge82 F134 ge113 ne111 (Ne.symm ne121) F135 q109_3) hZ (ow hw 67 rfl) (ow hw 15 rfl) (by decide) (by decide)) q136a q136b q136c (g := (mkF m 166 #[Sl q1, S2, Sl q2, S2, Sl q3, S2, Sl q4, S2, Sl q5, S2, Si p6, Si vW0, Si vW1, Si vW2, Si vS0, Si vS1, Si vS2, Si vL0, Si vL1, Si vL2, Si vX0, Si vX1, Si vX2, Sr b81, Su, Su, Su, Su, Su, Su, Su, Su, Su, Su, Su] [(.ref b116), (.ref b81)])) rfl (by rw [hml]; rfl) (Steps.refl _) (argsL := [(.ref b116)]) (rest := []) (lenOf pd_14 rfl) rfl (by show 2 * 0 + _ ≤ _; exact Nat.le_of_eq rfl) (hb hby at_166) (fun _ _ => ⟨rfl, rfl, (by decide : 4 + 0 ≤ _), (by decide : 17 + 0 ≤ _)⟩)
  dsimp only [Pt.U, Pt.locs, Pt.cells, Pt.slots] at X136 l136 y136 z136 st136 hQ136
  subst y136 z136
  obtain ⟨rfl, Nq136, q136_0, q136_1, q136_2, q136_3, q136_4⟩ := hQ136
  have N137 := Eq.subst (motive := fun L => Fr n0 L) l136.symm (Fr.app N128 Nq136)
  have KC138 : Keep h0 T136.heap [] := KC129.trans q136_0 (allS (Or.inr sz83) (allS (Or.inr sz114) all0))
  obtain ⟨T139, h139, X139, e139, E139, A139, D139, -, st139⟩ := newO X136 hx hZ hown (ow hw 39 rfl) (ow hw 40 rfl) (ow hw 41 rfl) rfl (g := (mkF m 174 #[Sl q1, S2, Sl q2, S2, Sl q3, S2, Sl q4, S2, Sl q5, S2, Si p6, Si vW0, Si vW1, Si vW2, Si vS0, Si vS1, Si vS2, Si vL0, Si vL1, Si vL2, Si vX0, Si vX1, Si vX2, Sr b81, Su, Su, Su, Su, Su, Su, Su, Su, Su, Su, Su] [(.ref b81)])) rfl (hb hby at_174) (by decide) (by decide)
  obtain ⟨b139, g139⟩ : ∃ z, z = T136.heap.size := ⟨_, rfl⟩
  rw [← g139] at A139 D139 st139
  have F140 : Exa Z T136.heap b81 "java/util/ArrayList" := (F130.keep q136_0)
  have ne141 : b81 ≠ b139 := Nat.ne_of_lt (Nat.lt_of_lt_of_le F140.lt (Nat.le_of_eq g139.symm))
  have F142 : Exa Z T136.heap b92 "com/example/darlington/darlington/core/IntegerRange" := (((F119.ext E116).keep q127_0).keep q136_0)
  have ne143 : b92 ≠ b139 := Nat.ne_of_lt (Nat.lt_of_lt_of_le F142.lt (Nat.le_of_eq g139.symm))
  have ne144 : r_109 ≠ b139 := Nat.ne_of_lt (Nat.lt_of_lt_of_le q136_1.lt (Nat.le_of_eq g139.symm))
  have F145 : Exa Z T136.heap b116 "com/example/darlington/darlington/core/IntegerRange" := (F134.keep q136_0)
  have ne146 : b116 ≠ b139 := Nat.ne_of_lt (Nat.lt_of_lt_of_le F145.lt (Nat.le_of_eq g139.symm))
  have ge147 : n0 ≤ b139 := Nat.le_trans (Nat.le_trans Z0 KC138.1) (Nat.le_of_eq g139.symm)
  have sz148 : h0.size ≤ b139 := Nat.le_trans KC138.1 (Nat.le_of_eq g139.symm)
  have KC149 : Keep h0 h139 [] := KC138.ext E139
  have F150 : Fld Z h139 b139 "com/example/darlington/darlington/core/FiniteType" "first" "I" (.int (0 : Int32)) := D139 (Or.inr (ow hw 56 rfl)) (ty := .int) (by decide)
  have F151 : Fld Z h139 b139 "com/example/darlington/darlington/core/FiniteType" "size" "I" (.int (0 : Int32)) := D139 (Or.inr (ow hw 58 rfl)) (ty := .int) (by decide)
  obtain ⟨_, _, ⟨T152, L152, k152, n152⟩, -, X152, ⟨Lc152, hQ152, l152, y152, z152⟩, st152⟩ := X139.specialBack hx (y := (⟨"com/example/darlington/darlington/core/IntegerRange", "<init>", "(II)V"⟩ : MethodName)) rfl hown (mvT hZ (ow hw 42 rfl)) (mvT hZ (ow hw 43 rfl)) (mvT hZ (ow hw 44 rfl)) (by decide) (backOf (W := 2) (rm8 l Z a0 hw [] b139 vL2 (vL2 + vS2) (0 : Int32) (0 : Int32) h139 n0 (Nat.le_trans Z0 KC149.1) A139 F150 F151 ge147 hr2.1 hr2.2.1) hZ (ow hw 44 rfl) (ow hw 41 rfl) (by decide) (by decide)) (g := (mkF m 185 #[Sl q1, S2, Sl q2, S2, Sl q3, S2, Sl q4, S2, Sl q5, S2, Si p6, Si vW0, Si vW1, Si vW2, Si vS0, Si vS1, Si vS2, Si vL0, Si vL1, Si vL2, Si vX0, Si vX1, Si vX2, Sr b81, Su, Su, Su, Su, Su, Su, Su, Su, Su, Su, Su] [(.int (vL2 + vS2)), (.int vL2), (.ref b139), (.ref b139), (.ref b81)])) rfl (by rw [hml]; rfl) (Steps.refl _) (a := b139) (argsL := [(.int vL2), (.int (vL2 + vS2))]) (rest := [(.ref b139), (.ref b81)]) (lenOf pd_7 rfl) rfl (by show 2 * 0 + _ ≤ _; exact Nat.le_of_eq rfl) (hb hby at_185) (fun _ _ => ⟨rfl, e139, (by decide : 5 + 0 ≤ _), (by decide : 19 + 0 ≤ _)⟩)
  dsimp only [Pt.U, Pt.locs, Pt.cells, Pt.slots] at X152 l152 y152 z152 st152 hQ152
  subst y152 z152
  obtain ⟨rfl, Nq152, q152_0, q152_1, q152_2⟩ := hQ152
  have N153 := Eq.subst (motive := fun L => Fr n0 L) l152.symm (Fr.app N137 Nq152)
  have KC154 : Keep h0 T152.heap [] := KC149.trans q152_0 (allS (Or.inr sz148) all0)
  rw [← hvZ2] at q152_2
  have F155 : Exa Z T152.heap b81 "java/util/ArrayList" := ((F140.ext E139).keep q152_0)
  have F156 : Fld Z T152.heap b81 "java/util/ArrayList" "size" "I" (.int (2 : Int32)) := ((q136_3.ext E139).keep q152_0 (ninS ne141 nin0))
  have F157 : Fld Z T152.heap b81 "java/util/ArrayList" "elementData" "[Ljava/lang/Object;" (.ref r_109) := ((q136_2.ext E139).keep q152_0 (ninS ne141 nin0))
  have F158 : Fld Z T152.heap b81 "java/util/AbstractList" "modCount" "I" (.int (((0 : Int32) + (1 : Int32)) + (1 : Int32))) := ((q136_4.ext E139).keep q152_0 (ninS ne141 nin0))
  have F159 : Exa Z T152.heap b139 "com/example/darlington/darlington/core/IntegerRange" := (A139.keep q152_0)
  have F160 : Arv Z T152.heap r_109 kr_109 (.object "java/lang/Object") (10 : Int32) [(.ref b92), (.ref b116), .null, .null, .null, .null, .null, .null, .null, .null] .null := ((q136_1.ext E139).keep q152_0 (ninS ne144 nin0))
  obtain ⟨cq161, kq161, q161a, q161b, q161c⟩ := isOf hZ rfl F155
  obtain ⟨_, _, ⟨T161, L161, k161, n161⟩, -, X161, ⟨Lc161, hQ161, l161, y161, z161⟩, st161⟩ := X152.interfaceBack hx (xi := (⟨"java/util/List", "add", "(Ljava/lang/Object;)Z"⟩ : MethodName)) (y := (⟨"java/util/ArrayList", "add", "(Ljava/lang/Object;)Z"⟩ : MethodName)) hown (mvT hZ (ow hw 59 rfl)) (mvT hZ (ow hw 60 rfl)) (mvT hZ (ow hw 61 rfl)) (mvT hZ (ow hw 62 rfl)) (mvT hZ (ow hw 63 rfl)) (mvT hZ (ow hw 64 rfl)) (mvT hZ (ow hw 65 rfl)) (mvT hZ (ow hw 66 rfl)) (by decide) (backOf (W := 0) (rm_addA2_IntegerRange l Z a0 hw [] b81 b139 r_109 kr_109 (((0 : Int32) + (1 : Int32)) + (1 : Int32)) b92 b116 T152.heap n0 (Nat.le_trans Z0 KC154.1) F155 F156 F157 F158 ge82 F159 ge113 ne111 (Ne.symm ne144) F160 q109_3) hZ (ow hw 67 rfl) (ow hw 15 rfl) (by decide) (by decide)) q161a q161b q161c (g := (mkF m 188 #[Sl q1, S2, Sl q2, S2, Sl q3, S2, Sl q4, S2, Sl q5, S2, Si p6, Si vW0, Si vW1, Si vW2, Si vS0, Si vS1, Si vS2, Si vL0, Si vL1, Si vL2, Si vX0, Si vX1, Si vX2, Sr b81, Su, Su, Su, Su, Su, Su, Su, Su, Su, Su, Su] [(.ref b139), (.ref b81)])) rfl (by rw [hml]; rfl) (Steps.refl _) (argsL := [(.ref b139)]) (rest := []) (lenOf pd_14 rfl) rfl (by show 2 * 0 + _ ≤ _; exact Nat.le_of_eq rfl) (hb hby at_188) (fun _ _ => ⟨rfl, rfl, (by decide : 5 + 0 ≤ _), (by decide : 19 + 0 ≤ _)⟩)
  dsimp only [Pt.U, Pt.locs, Pt.cells, Pt.slots] at X161 l161 y161 z161 st161 hQ161
  subst y161 z161
  obtain ⟨rfl, Nq161, q161_0, q161_1, q161_2, q161_3, q161_4⟩ := hQ161
  have N162 := Eq.subst (motive := fun L => Fr n0 L) l161.symm (Fr.app N153 Nq161)
  have KC163 : Keep h0 T161.heap [] := KC154.trans q161_0 (allS (Or.inr sz83) (allS (Or.inr sz114) all0))
  obtain ⟨T164, h164, X164, e164, E164, A164, D164, -, st164⟩ := newO X161 hx hZ hown (ow hw 94 rfl) (ow hw 95 rfl) (ow hw 96 rfl) rfl (g := (mkF m 194 #[Sl q1, S2, Sl q2, S2, Sl q3, S2, Sl q4, S2, Sl q5, S2, Si p6, Si vW0, Si vW1, Si vW2, Si vS0, Si vS1, Si vS2, Si vL0, Si vL1, Si vL2, Si vX0, Si vX1, Si vX2, Sr b81, Su, Su, Su, Su, Su, Su, Su, Su, Su, Su, Su] [])) rfl (hb hby at_194) (by decide) (by decide)
  obtain ⟨b164, g164⟩ : ∃ z, z = T161.heap.size := ⟨_, rfl⟩
  rw [← g164] at A164 D164 st164
  have F165 : Exa Z T161.heap b81 "java/util/ArrayList" := (F155.keep q161_0)
  have ne166 : b81 ≠ b164 := Nat.ne_of_lt (Nat.lt_of_lt_of_le F165.lt (Nat.le_of_eq g164.symm))
  have F167 : Exa Z T161.heap b92 "com/example/darlington/darlington/core/IntegerRange" := (((F142.ext E139).keep q152_0).keep q161_0)
  have ne168 : b92 ≠ b164 := Nat.ne_of_lt (Nat.lt_of_lt_of_le F167.lt (Nat.le_of_eq g164.symm))
  have ne169 : r_109 ≠ b164 := Nat.ne_of_lt (Nat.lt_of_lt_of_le q161_1.lt (Nat.le_of_eq g164.symm))
  have F170 : Exa Z T161.heap b116 "com/example/darlington/darlington/core/IntegerRange" := (((F145.ext E139).keep q152_0).keep q161_0)
  have ne171 : b116 ≠ b164 := Nat.ne_of_lt (Nat.lt_of_lt_of_le F170.lt (Nat.le_of_eq g164.symm))
  have F172 : Exa Z T161.heap b139 "com/example/darlington/darlington/core/IntegerRange" := (F159.keep q161_0)
  have ne173 : b139 ≠ b164 := Nat.ne_of_lt (Nat.lt_of_lt_of_le F172.lt (Nat.le_of_eq g164.symm))
  have ge174 : n0 ≤ b164 := Nat.le_trans (Nat.le_trans Z0 KC163.1) (Nat.le_of_eq g164.symm)
  have sz175 : h0.size ≤ b164 := Nat.le_trans KC163.1 (Nat.le_of_eq g164.symm)
  have KC176 : Keep h0 h164 [] := KC163.ext E164
  have F177 : Fld Z h164 b164 "com/example/darlington/darlington/core/StateLayout" "wordOf" "[I" .null := D164 (Or.inr (ow hw 111 rfl)) (ty := (.array .int)) (by decide)
  have F178 : Fld Z h164 b164 "com/example/darlington/darlington/core/StateLayout" "shiftOf" "[I" .null := D164 (Or.inr (ow hw 113 rfl)) (ty := (.array .int)) (by decide)
  have F179 : Fld Z h164 b164 "com/example/darlington/darlington/core/StateLayout" "maskOf" "[J" .null := D164 (Or.inr (ow hw 116 rfl)) (ty := (.array .long)) (by decide)
  have F180 : Fld Z h164 b164 "com/example/darlington/darlington/core/StateLayout" "firstOf" "[I" .null := D164 (Or.inr (ow hw 118 rfl)) (ty := (.array .int)) (by decide)
  have F181 : Fld Z h164 b164 "com/example/darlington/darlington/core/StateLayout" "wordsPerState" "I" (.int (0 : Int32)) := D164 (Or.inr (ow hw 159 rfl)) (ty := .int) (by decide)
  have F182 : Exa Z h164 b81 "java/util/ArrayList" := (F165.ext E164)
  have F183 : Fld Z h164 b81 "java/util/ArrayList" "size" "I" (.int (3 : Int32)) := (q161_3.ext E164)
  have F184 : Fld Z h164 b81 "java/util/ArrayList" "elementData" "[Ljava/lang/Object;" (.ref r_109) := (q161_2.ext E164)
  have F185 : Arv Z h164 r_109 kr_109 (.object "java/lang/Object") (10 : Int32) [(.ref b92), (.ref b116), (.ref b139), .null, .null, .null, .null, .null, .null, .null] .null := (q161_1.ext E164)
  have F186 : Exa Z h164 b92 "com/example/darlington/darlington/core/IntegerRange" := (F167.ext E164)
  have F187 : Fld Z h164 b92 "com/example/darlington/darlington/core/FiniteType" "first" "I" (.int vL0) := ((((((((q100_1.keep q109_0 (ninS (Ne.symm ne94) nin0)).ext E116).keep q127_0 (ninS ne120 nin0)).keep q136_0 (ninS (Ne.symm ne94) (ninS ne112 nin0))).ext E139).keep q152_0 (ninS ne143 nin0)).keep q161_0 (ninS (Ne.symm ne94) (ninS ne112 nin0))).ext E164)
  have F188 : Fld Z h164 b92 "com/example/darlington/darlington/core/FiniteType" "size" "I" (.int vZ0) := ((((((((q100_2.keep q109_0 (ninS (Ne.symm ne94) nin0)).ext E116).keep q127_0 (ninS ne120 nin0)).keep q136_0 (ninS (Ne.symm ne94) (ninS ne112 nin0))).ext E139).keep q152_0 (ninS ne143 nin0)).keep q161_0 (ninS (Ne.symm ne94) (ninS ne112 nin0))).ext E164)
  have F189 : Exa Z h164 b116 "com/example/darlington/darlington/core/IntegerRange" := (F170.ext E164)
  have F190 : Fld Z h164 b116 "com/example/darlington/darlington/core/FiniteType" "first" "I" (.int vL1) := (((((q127_1.keep q136_0 (ninS (Ne.symm ne118) (ninS (Ne.symm ne121) nin0))).ext E139).keep q152_0 (ninS ne146 nin0)).keep q161_0 (ninS (Ne.symm ne118) (ninS (Ne.symm ne121) nin0))).ext E164)
  have F191 : Fld Z h164 b116 "com/example/darlington/darlington/core/FiniteType" "size" "I" (.int vZ1) := (((((q127_2.keep q136_0 (ninS (Ne.symm ne118) (ninS (Ne.symm ne121) nin0))).ext E139).keep q152_0 (ninS ne146 nin0)).keep q161_0 (ninS (Ne.symm ne118) (ninS (Ne.symm ne121) nin0))).ext E164)
  have F192 : Exa Z h164 b139 "com/example/darlington/darlington/core/IntegerRange" := (F172.ext E164)
  have F193 : Fld Z h164 b139 "com/example/darlington/darlington/core/FiniteType" "first" "I" (.int vL2) := ((q152_1.keep q161_0 (ninS (Ne.symm ne141) (ninS (Ne.symm ne144) nin0))).ext E164)
  have F194 : Fld Z h164 b139 "com/example/darlington/darlington/core/FiniteType" "size" "I" (.int vZ2) := ((q152_2.keep q161_0 (ninS (Ne.symm ne141) (ninS (Ne.symm ne144) nin0))).ext E164)
  obtain ⟨_, _, ⟨T195, L195, k195, n195⟩, -, X195, ⟨Lc195, hQ195, l195, y195, z195⟩, st195⟩ := X164.specialBack hx (y := (⟨"com/example/darlington/darlington/core/StateLayout", "<init>", "(Ljava/util/List;)V"⟩ : MethodName)) rfl hown (mvT hZ (ow hw 97 rfl)) (mvT hZ (ow hw 98 rfl)) (mvT hZ (ow hw 99 rfl)) (by decide) (backOf (W := 1) (rm_lay l Z a0 hw [] b164 b81 r_109 kr_109 b92 b116 b139 vL0 vL1 vL2 vZ0 vZ1 vZ2 h164 n0 (Nat.le_trans Z0 KC176.1) A164 ge174 F177 F178 F179 F180 F181 F182 F183 F184 F185 ne166 ne169 F186 F187 F188 ne168 (own_pos0 hz0) F189 F190 F191 ne171 (own_pos0 hz1) F192 F193 F194 ne173 (own_pos0 hz2) U4 U5) hZ (ow hw 99 rfl) (ow hw 96 rfl) (by decide) (by decide)) (g := (mkF m 200 #[Sl q1, S2, Sl q2, S2, Sl q3, S2, Sl q4, S2, Sl q5, S2, Si p6, Si vW0, Si vW1, Si vW2, Si vS0, Si vS1, Si vS2, Si vL0, Si vL1, Si vL2, Si vX0, Si vX1, Si vX2, Sr b81, Su, Su, Su, Su, Su, Su, Su, Su, Su, Su, Su] [(.ref b81), (.ref b164), (.ref b164)])) rfl (by rw [hml]; rfl) (Steps.refl _) (a := b164) (argsL := [(.ref b81)]) (rest := [(.ref b164)]) (lenOf pd_15 rfl) rfl (by show 2 * 0 + _ ≤ _; exact Nat.le_of_eq rfl) (hb hby at_200) (fun _ _ => ⟨rfl, e164, (by decide : 6 + 4 ≤ _), (by decide : 24 + 12 ≤ _)⟩)
  dsimp only [Pt.U, Pt.locs, Pt.cells, Pt.slots] at X195 l195 y195 z195 st195 hQ195
  subst y195 z195
  obtain ⟨r1_195, r2_195, r3_195, r4_195, c1_195, c2_195, c3_195, c4_195, rfl, Nq195, q195_0, q195_1, q195_2, q195_3, q195_4, q195_5, q195_6, q195_7, q195_8, q195_9, q195_10, q195_11, q195_12, q195_13⟩ := hQ195
  have N196 := Eq.subst (motive := fun L => Fr n0 L) l195.symm (Fr.app N162 Nq195)
  have ne197 : b81 ≠ r1_195 := Nat.ne_of_lt (Nat.lt_of_lt_of_le F182.lt q195_1)
  have ne198 : b92 ≠ r1_195 := Nat.ne_of_lt (Nat.lt_of_lt_of_le F186.lt q195_1)
  have ne199 : r_109 ≠ r1_195 := Nat.ne_of_lt (Nat.lt_of_lt_of_le F185.lt q195_1)
  have ne200 : b116 ≠ r1_195 := Nat.ne_of_lt (Nat.lt_of_lt_of_le F189.lt q195_1)
  have ne201 : b139 ≠ r1_195 := Nat.ne_of_lt (Nat.lt_of_lt_of_le F192.lt q195_1)
  have ne202 : b164 ≠ r1_195 := Nat.ne_of_lt (Nat.lt_of_lt_of_le A164.lt q195_1)
  have ge203 : n0 ≤ r1_195 := Nat.le_trans (Nat.le_trans Z0 KC176.1) q195_1
  have sz204 : h0.size ≤ r1_195 := Nat.le_trans KC176.1 q195_1
  have ne205 : b81 ≠ r2_195 := Nat.ne_of_lt (Nat.lt_of_lt_of_le F182.lt q195_4)
  have ne206 : b92 ≠ r2_195 := Nat.ne_of_lt (Nat.lt_of_lt_of_le F186.lt q195_4)
  have ne207 : r_109 ≠ r2_195 := Nat.ne_of_lt (Nat.lt_of_lt_of_le F185.lt q195_4)
  have ne208 : b116 ≠ r2_195 := Nat.ne_of_lt (Nat.lt_of_lt_of_le F189.lt q195_4)
  have ne209 : b139 ≠ r2_195 := Nat.ne_of_lt (Nat.lt_of_lt_of_le F192.lt q195_4)
  have ne210 : b164 ≠ r2_195 := Nat.ne_of_lt (Nat.lt_of_lt_of_le A164.lt q195_4)
  have ge211 : n0 ≤ r2_195 := Nat.le_trans (Nat.le_trans Z0 KC176.1) q195_4
  have sz212 : h0.size ≤ r2_195 := Nat.le_trans KC176.1 q195_4
  have ne213 : b81 ≠ r3_195 := Nat.ne_of_lt (Nat.lt_of_lt_of_le F182.lt q195_7)
  have ne214 : b92 ≠ r3_195 := Nat.ne_of_lt (Nat.lt_of_lt_of_le F186.lt q195_7)
  have ne215 : r_109 ≠ r3_195 := Nat.ne_of_lt (Nat.lt_of_lt_of_le F185.lt q195_7)
  have ne216 : b116 ≠ r3_195 := Nat.ne_of_lt (Nat.lt_of_lt_of_le F189.lt q195_7)
  have ne217 : b139 ≠ r3_195 := Nat.ne_of_lt (Nat.lt_of_lt_of_le F192.lt q195_7)
  have ne218 : b164 ≠ r3_195 := Nat.ne_of_lt (Nat.lt_of_lt_of_le A164.lt q195_7)
  have ge219 : n0 ≤ r3_195 := Nat.le_trans (Nat.le_trans Z0 KC176.1) q195_7
  have sz220 : h0.size ≤ r3_195 := Nat.le_trans KC176.1 q195_7
  have ne221 : b81 ≠ r4_195 := Nat.ne_of_lt (Nat.lt_of_lt_of_le F182.lt q195_10)
  have ne222 : b92 ≠ r4_195 := Nat.ne_of_lt (Nat.lt_of_lt_of_le F186.lt q195_10)
  have ne223 : r_109 ≠ r4_195 := Nat.ne_of_lt (Nat.lt_of_lt_of_le F185.lt q195_10)
  have ne224 : b116 ≠ r4_195 := Nat.ne_of_lt (Nat.lt_of_lt_of_le F189.lt q195_10)
  have ne225 : b139 ≠ r4_195 := Nat.ne_of_lt (Nat.lt_of_lt_of_le F192.lt q195_10)
  have ne226 : b164 ≠ r4_195 := Nat.ne_of_lt (Nat.lt_of_lt_of_le A164.lt q195_10)
  have ge227 : n0 ≤ r4_195 := Nat.le_trans (Nat.le_trans Z0 KC176.1) q195_10
  have sz228 : h0.size ≤ r4_195 := Nat.le_trans KC176.1 q195_10
  have KC229 : Keep h0 T195.heap [] := KC176.trans q195_0 (allS (Or.inr sz175) all0)
  have pre230 : ∀ t, Steps p.tables e below (T195.setTop (mkF m 205 #[Sl q1, S2, Sl q2, S2, Sl q3, S2, Sl q4, S2, Sl q5, S2, Si p6, Si vW0, Si vW1, Si vW2, Si vS0, Si vS1, Si vS2, Si vL0, Si vL1, Si vL2, Si vX0, Si vX1, Si vX2, Sr b81, Sr b164, Su, Su, Su, Su, Su, Su, Su, Su, Su, Su] [])) t → Steps p.tables e below (s₁.setTop (entryFrame m #[(.long q1), (.long q2), (.long q3), (.long q4), (.long q5), (.int p6)] maxLocals)) t := by
    intro t k
    refine pre80 t ?_
    refine st81 _ ?_
    refine XS.dup X81.here hx rfl (hb hby at_122) rfl rfl ?_
    show Steps _ _ _ (T81.setTop (mkF m 123 #[Sl q1, S2, Sl q2, S2, Sl q3, S2, Sl q4, S2, Sl q5, S2, Si p6, Si vW0, Si vW1, Si vW2, Si vS0, Si vS1, Si vS2, Si vL0, Si vL1, Si vL2, Si vX0, Si vX1, Si vX2, Su, Su, Su, Su, Su, Su, Su, Su, Su, Su, Su, Su] [(.ref b81), (.ref b81)])) _
    refine st89.trans ?_
    refine XS.astore X89.here hx rfl (hb hby at_126) rfl rfl (l' := #[Sl q1, S2, Sl q2, S2, Sl q3, S2, Sl q4, S2, Sl q5, S2, Si p6, Si vW0, Si vW1, Si vW2, Si vS0, Si vS1, Si vS2, Si vL0, Si vL1, Si vL2, Si vX0, Si vX1, Si vX2, Sr b81, Su, Su, Su, Su, Su, Su, Su, Su, Su, Su, Su]) rfl ?_
    refine XS.aload X89.here hx rfl (hb hby at_128) rfl rfl ?_
    refine st92 _ ?_
    refine XS.dup X92.here hx rfl (hb hby at_133) rfl rfl ?_
    refine XS.iload X92.here hx rfl (hb hby at_134) rfl ?_
    refine XS.iload X92.here hx rfl (hb hby at_136) rfl ?_
    refine XS.iload X92.here hx rfl (hb hby at_138) rfl ?_
    show Steps _ _ _ (T92.setTop (mkF m 140 #[Sl q1, S2, Sl q2, S2, Sl q3, S2, Sl q4, S2, Sl q5, S2, Si p6, Si vW0, Si vW1, Si vW2, Si vS0, Si vS1, Si vS2, Si vL0, Si vL1, Si vL2, Si vX0, Si vX1, Si vX2, Sr b81, Su, Su, Su, Su, Su, Su, Su, Su, Su, Su, Su] [(.int vS0), (.int vL0), (.int vL0), (.ref b92), (.ref b92), (.ref b81)])) _
    refine XS.iadd X92.here hx rfl (hb hby at_140) rfl ?_
    refine st100.trans ?_
    refine st109.trans ?_
    refine XS.pop X109.here hx rfl (hb hby at_149) rfl rfl ?_
    refine XS.aload X109.here hx rfl (hb hby at_150) rfl rfl ?_
    refine st116 _ ?_
    refine XS.dup X116.here hx rfl (hb hby at_155) rfl rfl ?_
    refine XS.iload X116.here hx rfl (hb hby at_156) rfl ?_
    show Steps _ _ _ (T116.setTop (mkF m 158 #[Sl q1, S2, Sl q2, S2, Sl q3, S2, Sl q4, S2, Sl q5, S2, Si p6, Si vW0, Si vW1, Si vW2, Si vS0, Si vS1, Si vS2, Si vL0, Si vL1, Si vL2, Si vX0, Si vX1, Si vX2, Sr b81, Su, Su, Su, Su, Su, Su, Su, Su, Su, Su, Su] [(.int vL1), (.ref b116), (.ref b116), (.ref b81)])) _
    refine XS.iload X116.here hx rfl (hb hby at_158) rfl ?_
    refine XS.iload X116.here hx rfl (hb hby at_160) rfl ?_
    refine XS.iadd X116.here hx rfl (hb hby at_162) rfl ?_
    refine st127.trans ?_
    refine st136.trans ?_
    refine XS.pop X136.here hx rfl (hb hby at_171) rfl rfl ?_
    refine XS.aload X136.here hx rfl (hb hby at_172) rfl rfl ?_
    refine st139 _ ?_
    show Steps _ _ _ (T139.setTop (mkF m 177 #[Sl q1, S2, Sl q2, S2, Sl q3, S2, Sl q4, S2, Sl q5, S2, Si p6, Si vW0, Si vW1, Si vW2, Si vS0, Si vS1, Si vS2, Si vL0, Si vL1, Si vL2, Si vX0, Si vX1, Si vX2, Sr b81, Su, Su, Su, Su, Su, Su, Su, Su, Su, Su, Su] [(.ref b139), (.ref b81)])) _
    refine XS.dup X139.here hx rfl (hb hby at_177) rfl rfl ?_
    refine XS.iload X139.here hx rfl (hb hby at_178) rfl ?_
    refine XS.iload X139.here hx rfl (hb hby at_180) rfl ?_
    refine XS.iload X139.here hx rfl (hb hby at_182) rfl ?_
    refine XS.iadd X139.here hx rfl (hb hby at_184) rfl ?_
    refine st152.trans ?_
    refine st161.trans ?_
    refine XS.pop X161.here hx rfl (hb hby at_193) rfl rfl ?_
    show Steps _ _ _ (T161.setTop (mkF m 194 #[Sl q1, S2, Sl q2, S2, Sl q3, S2, Sl q4, S2, Sl q5, S2, Si p6, Si vW0, Si vW1, Si vW2, Si vS0, Si vS1, Si vS2, Si vL0, Si vL1, Si vL2, Si vX0, Si vX1, Si vX2, Sr b81, Su, Su, Su, Su, Su, Su, Su, Su, Su, Su, Su] [])) _
    refine st164 _ ?_
    refine XS.dup X164.here hx rfl (hb hby at_197) rfl rfl ?_
    refine XS.aload X164.here hx rfl (hb hby at_198) rfl rfl ?_
    refine st195.trans ?_
    refine XS.astore X195.here hx rfl (hb hby at_203) rfl rfl (l' := #[Sl q1, S2, Sl q2, S2, Sl q3, S2, Sl q4, S2, Sl q5, S2, Si p6, Si vW0, Si vW1, Si vW2, Si vS0, Si vS1, Si vS2, Si vL0, Si vL1, Si vL2, Si vX0, Si vX1, Si vX2, Sr b81, Sr b164, Su, Su, Su, Su, Su, Su, Su, Su, Su, Su]) rfl ?_
    exact k
  by_cases hAB : (64 : Int32) < ((((1 : Int32) + (own_bits vZ0)) + (own_bits vZ1)) + (own_bits vZ2))
  · have hw2 : own_w2 vZ0 vZ1 vZ2 = (1 : Int32) := if_pos hAB
    have hs2 : own_s2 vZ0 vZ1 vZ2 = (0 : Int32) := if_pos hAB
    rw [hw2] at q195_2
    rw [hs2] at q195_5
    rw [hw2] at q195_13
    have FW : Fld Z T195.heap b164 "com/example/darlington/darlington/core/StateLayout" "wordsPerState" "I" (.int (2 : Int32)) := q195_13
    have G2 := G2b
    have pre231 : ∀ t, Steps p.tables e below (T195.setTop (mkF m 211 #[Sl q1, S2, Sl q2, S2, Sl q3, S2, Sl q4, S2, Sl q5, S2, Si p6, Si vW0, Si vW1, Si vW2, Si vS0, Si vS1, Si vS2, Si vL0, Si vL1, Si vL2, Si vX0, Si vX1, Si vX2, Sr b81, Sr b164, Si (p6 &&& (3 : Int32)), Su, Su, Su, Su, Su, Su, Su, Su, Su] [])) t → Steps p.tables e below (s₁.setTop (entryFrame m #[(.long q1), (.long q2), (.long q3), (.long q4), (.long q5), (.int p6)] maxLocals)) t := by
      intro t k
      refine pre230 t ?_
      refine XS.iload X195.here hx rfl (hb hby at_205) rfl ?_
      refine XS.iconst X195.here hx rfl (hb hby at_207) ?_
      refine XS.iand X195.here hx rfl (hb hby at_208) rfl ?_
      show Steps _ _ _ (T195.setTop (mkF m 209 #[Sl q1, S2, Sl q2, S2, Sl q3, S2, Sl q4, S2, Sl q5, S2, Si p6, Si vW0, Si vW1, Si vW2, Si vS0, Si vS1, Si vS2, Si vL0, Si vL1, Si vL2, Si vX0, Si vX1, Si vX2, Sr b81, Sr b164, Su, Su, Su, Su, Su, Su, Su, Su, Su, Su] [(.int (p6 &&& (3 : Int32)))])) _
      refine XS.istore X195.here hx rfl (hb hby at_209) rfl (l' := #[Sl q1, S2, Sl q2, S2, Sl q3, S2, Sl q4, S2, Sl q5, S2, Si p6, Si vW0, Si vW1, Si vW2, Si vS0, Si vS1, Si vS2, Si vL0, Si vL1, Si vL2, Si vX0, Si vX1, Si vX2, Sr b81, Sr b164, Si (p6 &&& (3 : Int32)), Su, Su, Su, Su, Su, Su, Su, Su, Su]) rfl ?_
      exact k
    obtain ⟨vF, hvF⟩ : ∃ z : Int32, z = (p6 &&& (3 : Int32)) := ⟨_, rfl⟩
    rw [← hvF] at pre231
    have hF : 0 ≤ vF.toInt ∧ vF.toInt ≤ 3 := by rw [hvF]; exact own_b3 _
    have pre232 : ∀ t, Steps p.tables e below (T195.setTop (mkF m 221 #[Sl q1, S2, Sl q2, S2, Sl q3, S2, Sl q4, S2, Sl q5, S2, Si p6, Si vW0, Si vW1, Si vW2, Si vS0, Si vS1, Si vS2, Si vL0, Si vL1, Si vL2, Si vX0, Si vX1, Si vX2, Sr b81, Sr b164, Si vF, Sl ((q1 ^^^ (q2 <<< ((1 : Int32) &&& 0x3f).toInt64)) ^^^ q4), S2, Su, Su, Su, Su, Su, Su, Su] [])) t → Steps p.tables e below (s₁.setTop (entryFrame m #[(.long q1), (.long q2), (.long q3), (.long q4), (.long q5), (.int p6)] maxLocals)) t := by
      intro t k
      refine pre231 t ?_
      refine XS.lloadN X195.here hx rfl (hb hby at_211) rfl ?_
      refine XS.lloadN X195.here hx rfl (hb hby at_212) rfl ?_
      refine XS.iconst X195.here hx rfl (hb hby at_213) ?_
      refine XS.lshl X195.here hx rfl (hb hby at_214) rfl ?_
      refine XS.lxor X195.here hx rfl (hb hby at_215) rfl ?_
      refine XS.lload X195.here hx rfl (hb hby at_216) rfl ?_
      refine XS.lxor X195.here hx rfl (hb hby at_218) rfl ?_
      show Steps _ _ _ (T195.setTop (mkF m 219 #[Sl q1, S2, Sl q2, S2, Sl q3, S2, Sl q4, S2, Sl q5, S2, Si p6, Si vW0, Si vW1, Si vW2, Si vS0, Si vS1, Si vS2, Si vL0, Si vL1, Si vL2, Si vX0, Si vX1, Si vX2, Sr b81, Sr b164, Si vF, Su, Su, Su, Su, Su, Su, Su, Su, Su] [(.long ((q1 ^^^ (q2 <<< ((1 : Int32) &&& 0x3f).toInt64)) ^^^ q4))])) _
      refine XS.lstore X195.here hx rfl (hb hby at_219) rfl (l' := #[Sl q1, S2, Sl q2, S2, Sl q3, S2, Sl q4, S2, Sl q5, S2, Si p6, Si vW0, Si vW1, Si vW2, Si vS0, Si vS1, Si vS2, Si vL0, Si vL1, Si vL2, Si vX0, Si vX1, Si vX2, Sr b81, Sr b164, Si vF, Sl ((q1 ^^^ (q2 <<< ((1 : Int32) &&& 0x3f).toInt64)) ^^^ q4), S2, Su, Su, Su, Su, Su, Su, Su]) rfl ?_
      exact k
    obtain ⟨vG, hvG⟩ : ∃ z : Int64, z = ((q1 ^^^ (q2 <<< ((1 : Int32) &&& 0x3f).toInt64)) ^^^ q4) := ⟨_, rfl⟩
    rw [← hvG] at pre232
    obtain ⟨T233, h233, k233, X233, e233, E233, A233, st233⟩ := newP X195 hx hZ (ow hw 114 rfl) rfl (g := (mkF m 223 #[Sl q1, S2, Sl q2, S2, Sl q3, S2, Sl q4, S2, Sl q5, S2, Si p6, Si vW0, Si vW1, Si vW2, Si vS0, Si vS1, Si vS2, Si vL0, Si vL1, Si vL2, Si vX0, Si vX1, Si vX2, Sr b81, Sr b164, Si vF, Sl vG, S2, Su, Su, Su, Su, Su, Su, Su] [(.int (6 : Int32))])) rfl (hb hby at_223) rfl (by decide) (cap := 6) (by decide) (by decide) (by decide) (by decide)
    obtain ⟨b233, g233⟩ : ∃ z, z = T195.heap.size := ⟨_, rfl⟩
    rw [← g233] at A233 st233
    have F234 : Exa Z T195.heap b81 "java/util/ArrayList" := (F182.keep q195_0)
    have ne235 : b81 ≠ b233 := Nat.ne_of_lt (Nat.lt_of_lt_of_le F234.lt (Nat.le_of_eq g233.symm))
    have F236 : Exa Z T195.heap b92 "com/example/darlington/darlington/core/IntegerRange" := (F186.keep q195_0)
    have ne237 : b92 ≠ b233 := Nat.ne_of_lt (Nat.lt_of_lt_of_le F236.lt (Nat.le_of_eq g233.symm))
    have F238 : Arv Z T195.heap r_109 kr_109 (.object "java/lang/Object") (10 : Int32) [(.ref b92), (.ref b116), (.ref b139), .null, .null, .null, .null, .null, .null, .null] .null := (F185.keep q195_0 (ninS ne169 nin0))
    have ne239 : r_109 ≠ b233 := Nat.ne_of_lt (Nat.lt_of_lt_of_le F238.lt (Nat.le_of_eq g233.symm))
    have F240 : Exa Z T195.heap b116 "com/example/darlington/darlington/core/IntegerRange" := (F189.keep q195_0)
    have ne241 : b116 ≠ b233 := Nat.ne_of_lt (Nat.lt_of_lt_of_le F240.lt (Nat.le_of_eq g233.symm))
    have F242 : Exa Z T195.heap b139 "com/example/darlington/darlington/core/IntegerRange" := (F192.keep q195_0)
    have ne243 : b139 ≠ b233 := Nat.ne_of_lt (Nat.lt_of_lt_of_le F242.lt (Nat.le_of_eq g233.symm))
    have F244 : Exa Z T195.heap b164 "com/example/darlington/darlington/core/StateLayout" := (A164.keep q195_0)
    have ne245 : b164 ≠ b233 := Nat.ne_of_lt (Nat.lt_of_lt_of_le F244.lt (Nat.le_of_eq g233.symm))
    have ne246 : r1_195 ≠ b233 := Nat.ne_of_lt (Nat.lt_of_lt_of_le q195_2.lt (Nat.le_of_eq g233.symm))
    have ne247 : r2_195 ≠ b233 := Nat.ne_of_lt (Nat.lt_of_lt_of_le q195_5.lt (Nat.le_of_eq g233.symm))
    have ne248 : r3_195 ≠ b233 := Nat.ne_of_lt (Nat.lt_of_lt_of_le q195_8.lt (Nat.le_of_eq g233.symm))
    have ne249 : r4_195 ≠ b233 := Nat.ne_of_lt (Nat.lt_of_lt_of_le q195_11.lt (Nat.le_of_eq g233.symm))
    have ge250 : n0 ≤ b233 := Nat.le_trans (Nat.le_trans Z0 KC229.1) (Nat.le_of_eq g233.symm)
    have sz251 : h0.size ≤ b233 := Nat.le_trans KC229.1 (Nat.le_of_eq g233.symm)
    have KC252 : Keep h0 h233 [] := KC229.ext E233
    have V233 : Arv Z h233 b233 k233 .long (6 : Int32) [(.long (0 : Int64)), (.long (0 : Int64)), (.long (0 : Int64)), (.long (0 : Int64)), (.long (0 : Int64)), (.long (0 : Int64))] (.long (0 : Int64)) := (Arv.new A233 (by decide)).pad (pad_rep [] (.long (0 : Int64)) 6)
    obtain ⟨c253, Arc253, Aqc253, Asc253, Anc253, Ahc253, Agc253⟩ := id V233
    have hin254 : ¬ ((0 : Int32) < 0 ∨ c253.slots.size ≤ ((0 : Int32)).toNatClampNeg) := inb_of Asc253 ⟨by decide, by decide⟩
    obtain ⟨T255, h255, X255, e255, W255, st255⟩ := stJ X233 hx hZ e233 Arc253 (j := (0 : Int32)) hin254 (g := (mkF m 229 #[Sl q1, S2, Sl q2, S2, Sl q3, S2, Sl q4, S2, Sl q5, S2, Si p6, Si vW0, Si vW1, Si vW2, Si vS0, Si vS1, Si vS2, Si vL0, Si vL1, Si vL2, Si vX0, Si vX1, Si vX2, Sr b81, Sr b164, Si vF, Sl vG, S2, Su, Su, Su, Su, Su, Su, Su] [(.long vG), (.int (0 : Int32)), (.ref b233), (.ref b233)])) rfl rfl (hb hby at_229)
    have KC256 : Keep h0 h255 [] := KC252.wr W255 (Or.inr sz251)
    have V255 : Arv Z h255 b233 k233 .long (6 : Int32) [(.long vG), (.long (0 : Int64)), (.long (0 : Int64)), (.long (0 : Int64)), (.long (0 : Int64)), (.long (0 : Int64))] (.long (0 : Int64)) := Arv.set Arc253 Aqc253 Asc253 Anc253 Ahc253 Agc253 rfl W255 0 rfl (Nat.le_of_ble_eq_true rfl)
    have N257 := Fr.snoc X255 N196 ge250
    obtain ⟨c258, Arc258, Aqc258, Asc258, Anc258, Ahc258, Agc258⟩ := id V255
    have hin259 : ¬ ((1 : Int32) < 0 ∨ c258.slots.size ≤ ((1 : Int32)).toNatClampNeg) := inb_of Asc258 ⟨by decide, by decide⟩
    obtain ⟨T260, h260, X260, e260, W260, st260⟩ := stJ X255 hx hZ e255 Arc258 (j := (1 : Int32)) hin259 (g := (mkF m 234 #[Sl q1, S2, Sl q2, S2, Sl q3, S2, Sl q4, S2, Sl q5, S2, Si p6, Si vW0, Si vW1, Si vW2, Si vS0, Si vS1, Si vS2, Si vL0, Si vL1, Si vL2, Si vX0, Si vX1, Si vX2, Sr b81, Sr b164, Si vF, Sl vG, S2, Su, Su, Su, Su, Su, Su, Su] [(.long vG), (.int (1 : Int32)), (.ref b233), (.ref b233)])) rfl rfl (hb hby at_234)
    have KC261 : Keep h0 h260 [] := KC256.wr W260 (Or.inr sz251)
    have V260 : Arv Z h260 b233 k233 .long (6 : Int32) [(.long vG), (.long vG), (.long (0 : Int64)), (.long (0 : Int64)), (.long (0 : Int64)), (.long (0 : Int64))] (.long (0 : Int64)) := Arv.set Arc258 Aqc258 Asc258 Anc258 Ahc258 Agc258 rfl W260 1 rfl (Nat.le_of_ble_eq_true rfl)
    have N262 := Fr.snoc X260 N257 ge250
    obtain ⟨c263, Arc263, Aqc263, Asc263, Anc263, Ahc263, Agc263⟩ := id V260
    have hin264 : ¬ ((2 : Int32) < 0 ∨ c263.slots.size ≤ ((2 : Int32)).toNatClampNeg) := inb_of Asc263 ⟨by decide, by decide⟩
    obtain ⟨T265, h265, X265, e265, W265, st265⟩ := stJ X260 hx hZ e260 Arc263 (j := (2 : Int32)) hin264 (g := (mkF m 239 #[Sl q1, S2, Sl q2, S2, Sl q3, S2, Sl q4, S2, Sl q5, S2, Si p6, Si vW0, Si vW1, Si vW2, Si vS0, Si vS1, Si vS2, Si vL0, Si vL1, Si vL2, Si vX0, Si vX1, Si vX2, Sr b81, Sr b164, Si vF, Sl vG, S2, Su, Su, Su, Su, Su, Su, Su] [(.long vG), (.int (2 : Int32)), (.ref b233), (.ref b233)])) rfl rfl (hb hby at_239)
    have KC266 : Keep h0 h265 [] := KC261.wr W265 (Or.inr sz251)
    have V265 : Arv Z h265 b233 k233 .long (6 : Int32) [(.long vG), (.long vG), (.long vG), (.long (0 : Int64)), (.long (0 : Int64)), (.long (0 : Int64))] (.long (0 : Int64)) := Arv.set Arc263 Aqc263 Asc263 Anc263 Ahc263 Agc263 rfl W265 2 rfl (Nat.le_of_ble_eq_true rfl)
    have N267 := Fr.snoc X265 N262 ge250
    obtain ⟨c268, Arc268, Aqc268, Asc268, Anc268, Ahc268, Agc268⟩ := id V265
    have hin269 : ¬ ((3 : Int32) < 0 ∨ c268.slots.size ≤ ((3 : Int32)).toNatClampNeg) := inb_of Asc268 ⟨by decide, by decide⟩
    obtain ⟨T270, h270, X270, e270, W270, st270⟩ := stJ X265 hx hZ e265 Arc268 (j := (3 : Int32)) hin269 (g := (mkF m 244 #[Sl q1, S2, Sl q2, S2, Sl q3, S2, Sl q4, S2, Sl q5, S2, Si p6, Si vW0, Si vW1, Si vW2, Si vS0, Si vS1, Si vS2, Si vL0, Si vL1, Si vL2, Si vX0, Si vX1, Si vX2, Sr b81, Sr b164, Si vF, Sl vG, S2, Su, Su, Su, Su, Su, Su, Su] [(.long vG), (.int (3 : Int32)), (.ref b233), (.ref b233)])) rfl rfl (hb hby at_244)
    have KC271 : Keep h0 h270 [] := KC266.wr W270 (Or.inr sz251)
    have V270 : Arv Z h270 b233 k233 .long (6 : Int32) [(.long vG), (.long vG), (.long vG), (.long vG), (.long (0 : Int64)), (.long (0 : Int64))] (.long (0 : Int64)) := Arv.set Arc268 Aqc268 Asc268 Anc268 Ahc268 Agc268 rfl W270 3 rfl (Nat.le_of_ble_eq_true rfl)
    have N272 := Fr.snoc X270 N267 ge250
    obtain ⟨c273, Arc273, Aqc273, Asc273, Anc273, Ahc273, Agc273⟩ := id V270
    have hin274 : ¬ ((4 : Int32) < 0 ∨ c273.slots.size ≤ ((4 : Int32)).toNatClampNeg) := inb_of Asc273 ⟨by decide, by decide⟩
    obtain ⟨T275, h275, X275, e275, W275, st275⟩ := stJ X270 hx hZ e270 Arc273 (j := (4 : Int32)) hin274 (g := (mkF m 249 #[Sl q1, S2, Sl q2, S2, Sl q3, S2, Sl q4, S2, Sl q5, S2, Si p6, Si vW0, Si vW1, Si vW2, Si vS0, Si vS1, Si vS2, Si vL0, Si vL1, Si vL2, Si vX0, Si vX1, Si vX2, Sr b81, Sr b164, Si vF, Sl vG, S2, Su, Su, Su, Su, Su, Su, Su] [(.long vG), (.int (4 : Int32)), (.ref b233), (.ref b233)])) rfl rfl (hb hby at_249)
    have KC276 : Keep h0 h275 [] := KC271.wr W275 (Or.inr sz251)
    have V275 : Arv Z h275 b233 k233 .long (6 : Int32) [(.long vG), (.long vG), (.long vG), (.long vG), (.long vG), (.long (0 : Int64))] (.long (0 : Int64)) := Arv.set Arc273 Aqc273 Asc273 Anc273 Ahc273 Agc273 rfl W275 4 rfl (Nat.le_of_ble_eq_true rfl)
    have N277 := Fr.snoc X275 N272 ge250
    obtain ⟨c278, Arc278, Aqc278, Asc278, Anc278, Ahc278, Agc278⟩ := id V275
    have hin279 : ¬ ((5 : Int32) < 0 ∨ c278.slots.size ≤ ((5 : Int32)).toNatClampNeg) := inb_of Asc278 ⟨by decide, by decide⟩
    obtain ⟨T280, h280, X280, e280, W280, st280⟩ := stJ X275 hx hZ e275 Arc278 (j := (5 : Int32)) hin279 (g := (mkF m 254 #[Sl q1, S2, Sl q2, S2, Sl q3, S2, Sl q4, S2, Sl q5, S2, Si p6, Si vW0, Si vW1, Si vW2, Si vS0, Si vS1, Si vS2, Si vL0, Si vL1, Si vL2, Si vX0, Si vX1, Si vX2, Sr b81, Sr b164, Si vF, Sl vG, S2, Su, Su, Su, Su, Su, Su, Su] [(.long vG), (.int (5 : Int32)), (.ref b233), (.ref b233)])) rfl rfl (hb hby at_254)
    have KC281 : Keep h0 h280 [] := KC276.wr W280 (Or.inr sz251)
    have V280 : Arv Z h280 b233 k233 .long (6 : Int32) [(.long vG), (.long vG), (.long vG), (.long vG), (.long vG), (.long vG)] (.long (0 : Int64)) := Arv.set Arc278 Aqc278 Asc278 Anc278 Ahc278 Agc278 rfl W280 5 rfl (Nat.le_of_ble_eq_true rfl)
    have N282 := Fr.snoc X280 N277 ge250
    obtain ⟨T283, h283, k283, X283, e283, E283, A283, st283⟩ := newP X280 hx hZ (ow hw 109 rfl) e280 (g := (mkF m 258 #[Sl q1, S2, Sl q2, S2, Sl q3, S2, Sl q4, S2, Sl q5, S2, Si p6, Si vW0, Si vW1, Si vW2, Si vS0, Si vS1, Si vS2, Si vL0, Si vL1, Si vL2, Si vX0, Si vX1, Si vX2, Sr b81, Sr b164, Si vF, Sl vG, S2, Sr b233, Su, Su, Su, Su, Su, Su] [(.int (3 : Int32))])) rfl (hb hby at_258) rfl (by decide) (cap := 3) (by decide) (by decide) (by decide) (by decide)
    obtain ⟨b283, g283⟩ : ∃ z, z = h280.size := ⟨_, rfl⟩
    rw [← g283] at A283 st283
    have F284 : Exa Z h280 b81 "java/util/ArrayList" := (((((((F234.ext E233).wr W255).wr W260).wr W265).wr W270).wr W275).wr W280)
    have ne285 : b81 ≠ b283 := Nat.ne_of_lt (Nat.lt_of_lt_of_le F284.lt (Nat.le_of_eq g283.symm))
    have F286 : Exa Z h280 b92 "com/example/darlington/darlington/core/IntegerRange" := (((((((F236.ext E233).wr W255).wr W260).wr W265).wr W270).wr W275).wr W280)
    have ne287 : b92 ≠ b283 := Nat.ne_of_lt (Nat.lt_of_lt_of_le F286.lt (Nat.le_of_eq g283.symm))
    have F288 : Arv Z h280 r_109 kr_109 (.object "java/lang/Object") (10 : Int32) [(.ref b92), (.ref b116), (.ref b139), .null, .null, .null, .null, .null, .null, .null] .null := (((((((F238.ext E233).other W255 ne239).other W260 ne239).other W265 ne239).other W270 ne239).other W275 ne239).other W280 ne239)
    have ne289 : r_109 ≠ b283 := Nat.ne_of_lt (Nat.lt_of_lt_of_le F288.lt (Nat.le_of_eq g283.symm))
    have F290 : Exa Z h280 b116 "com/example/darlington/darlington/core/IntegerRange" := (((((((F240.ext E233).wr W255).wr W260).wr W265).wr W270).wr W275).wr W280)
    have ne291 : b116 ≠ b283 := Nat.ne_of_lt (Nat.lt_of_lt_of_le F290.lt (Nat.le_of_eq g283.symm))
    have F292 : Exa Z h280 b139 "com/example/darlington/darlington/core/IntegerRange" := (((((((F242.ext E233).wr W255).wr W260).wr W265).wr W270).wr W275).wr W280)
    have ne293 : b139 ≠ b283 := Nat.ne_of_lt (Nat.lt_of_lt_of_le F292.lt (Nat.le_of_eq g283.symm))
    have F294 : Exa Z h280 b164 "com/example/darlington/darlington/core/StateLayout" := (((((((F244.ext E233).wr W255).wr W260).wr W265).wr W270).wr W275).wr W280)
    have ne295 : b164 ≠ b283 := Nat.ne_of_lt (Nat.lt_of_lt_of_le F294.lt (Nat.le_of_eq g283.symm))
    have F296 : Arv Z h280 r1_195 c1_195 .int (3 : Int32) [(.int (0 : Int32)), (.int (0 : Int32)), (.int (1 : Int32))] (.int (0 : Int32)) := (((((((q195_2.ext E233).other W255 ne246).other W260 ne246).other W265 ne246).other W270 ne246).other W275 ne246).other W280 ne246)
    have ne297 : r1_195 ≠ b283 := Nat.ne_of_lt (Nat.lt_of_lt_of_le F296.lt (Nat.le_of_eq g283.symm))
    have F298 : Arv Z h280 r2_195 c2_195 .int (3 : Int32) [(.int (1 : Int32)), (.int ((1 : Int32) + (own_bits vZ0))), (.int (0 : Int32))] (.int (0 : Int32)) := (((((((q195_5.ext E233).other W255 ne247).other W260 ne247).other W265 ne247).other W270 ne247).other W275 ne247).other W280 ne247)
    have ne299 : r2_195 ≠ b283 := Nat.ne_of_lt (Nat.lt_of_lt_of_le F298.lt (Nat.le_of_eq g283.symm))
    have F300 : Arv Z h280 r3_195 c3_195 .long (3 : Int32) [(.long (own_msk vZ0)), (.long (own_msk vZ1)), (.long (own_msk vZ2))] (.long (0 : Int64)) := (((((((q195_8.ext E233).other W255 ne248).other W260 ne248).other W265 ne248).other W270 ne248).other W275 ne248).other W280 ne248)
    have ne301 : r3_195 ≠ b283 := Nat.ne_of_lt (Nat.lt_of_lt_of_le F300.lt (Nat.le_of_eq g283.symm))
    have F302 : Arv Z h280 r4_195 c4_195 .int (3 : Int32) [(.int (vL0 + (0 : Int32))), (.int (vL1 + (0 : Int32))), (.int (vL2 + (0 : Int32)))] (.int (0 : Int32)) := (((((((q195_11.ext E233).other W255 ne249).other W260 ne249).other W265 ne249).other W270 ne249).other W275 ne249).other W280 ne249)
    have ne303 : r4_195 ≠ b283 := Nat.ne_of_lt (Nat.lt_of_lt_of_le F302.lt (Nat.le_of_eq g283.symm))
    have ne304 : b233 ≠ b283 := Nat.ne_of_lt (Nat.lt_of_lt_of_le V280.lt (Nat.le_of_eq g283.symm))
    have ge305 : n0 ≤ b283 := Nat.le_trans (Nat.le_trans Z0 KC281.1) (Nat.le_of_eq g283.symm)
    have sz306 : h0.size ≤ b283 := Nat.le_trans KC281.1 (Nat.le_of_eq g283.symm)
    have KC307 : Keep h0 h283 [] := KC281.ext E283
    have V283 : Arv Z h283 b283 k283 .int (3 : Int32) [(.int (0 : Int32)), (.int (0 : Int32)), (.int (0 : Int32))] (.int (0 : Int32)) := (Arv.new A283 (by decide)).pad (pad_rep [] (.int (0 : Int32)) 3)
    obtain ⟨c308, Arc308, Aqc308, Asc308, Anc308, Ahc308, Agc308⟩ := id V283
    have hin309 : ¬ ((0 : Int32) < 0 ∨ c308.slots.size ≤ ((0 : Int32)).toNatClampNeg) := inb_of Asc308 ⟨by decide, by decide⟩
    obtain ⟨T310, h310, X310, e310, W310, st310⟩ := stI X283 hx hZ e283 Arc308 (j := (0 : Int32)) hin309 (g := (mkF m 264 #[Sl q1, S2, Sl q2, S2, Sl q3, S2, Sl q4, S2, Sl q5, S2, Si p6, Si vW0, Si vW1, Si vW2, Si vS0, Si vS1, Si vS2, Si vL0, Si vL1, Si vL2, Si vX0, Si vX1, Si vX2, Sr b81, Sr b164, Si vF, Sl vG, S2, Sr b233, Su, Su, Su, Su, Su, Su] [(.int vX0), (.int (0 : Int32)), (.ref b283), (.ref b283)])) rfl rfl (hb hby at_264)
    have KC311 : Keep h0 h310 [] := KC307.wr W310 (Or.inr sz306)
    have V310 : Arv Z h310 b283 k283 .int (3 : Int32) [(.int vX0), (.int (0 : Int32)), (.int (0 : Int32))] (.int (0 : Int32)) := Arv.set Arc308 Aqc308 Asc308 Anc308 Ahc308 Agc308 rfl W310 0 rfl (Nat.le_of_ble_eq_true rfl)
    have N312 := Fr.snoc X310 N282 ge305
    obtain ⟨c313, Arc313, Aqc313, Asc313, Anc313, Ahc313, Agc313⟩ := id V310
    have hin314 : ¬ ((1 : Int32) < 0 ∨ c313.slots.size ≤ ((1 : Int32)).toNatClampNeg) := inb_of Asc313 ⟨by decide, by decide⟩
    obtain ⟨T315, h315, X315, e315, W315, st315⟩ := stI X310 hx hZ e310 Arc313 (j := (1 : Int32)) hin314 (g := (mkF m 269 #[Sl q1, S2, Sl q2, S2, Sl q3, S2, Sl q4, S2, Sl q5, S2, Si p6, Si vW0, Si vW1, Si vW2, Si vS0, Si vS1, Si vS2, Si vL0, Si vL1, Si vL2, Si vX0, Si vX1, Si vX2, Sr b81, Sr b164, Si vF, Sl vG, S2, Sr b233, Su, Su, Su, Su, Su, Su] [(.int vX1), (.int (1 : Int32)), (.ref b283), (.ref b283)])) rfl rfl (hb hby at_269)
    have KC316 : Keep h0 h315 [] := KC311.wr W315 (Or.inr sz306)
    have V315 : Arv Z h315 b283 k283 .int (3 : Int32) [(.int vX0), (.int vX1), (.int (0 : Int32))] (.int (0 : Int32)) := Arv.set Arc313 Aqc313 Asc313 Anc313 Ahc313 Agc313 rfl W315 1 rfl (Nat.le_of_ble_eq_true rfl)
    have N317 := Fr.snoc X315 N312 ge305
    obtain ⟨c318, Arc318, Aqc318, Asc318, Anc318, Ahc318, Agc318⟩ := id V315
    have hin319 : ¬ ((2 : Int32) < 0 ∨ c318.slots.size ≤ ((2 : Int32)).toNatClampNeg) := inb_of Asc318 ⟨by decide, by decide⟩
    obtain ⟨T320, h320, X320, e320, W320, st320⟩ := stI X315 hx hZ e315 Arc318 (j := (2 : Int32)) hin319 (g := (mkF m 274 #[Sl q1, S2, Sl q2, S2, Sl q3, S2, Sl q4, S2, Sl q5, S2, Si p6, Si vW0, Si vW1, Si vW2, Si vS0, Si vS1, Si vS2, Si vL0, Si vL1, Si vL2, Si vX0, Si vX1, Si vX2, Sr b81, Sr b164, Si vF, Sl vG, S2, Sr b233, Su, Su, Su, Su, Su, Su] [(.int vX2), (.int (2 : Int32)), (.ref b283), (.ref b283)])) rfl rfl (hb hby at_274)
    have KC321 : Keep h0 h320 [] := KC316.wr W320 (Or.inr sz306)
    have V320 : Arv Z h320 b283 k283 .int (3 : Int32) [(.int vX0), (.int vX1), (.int vX2)] (.int (0 : Int32)) := Arv.set Arc318 Aqc318 Asc318 Anc318 Ahc318 Agc318 rfl W320 2 rfl (Nat.le_of_ble_eq_true rfl)
    have N322 := Fr.snoc X320 N317 ge305
    have F323 : Fld Z h320 b164 "com/example/darlington/darlington/core/StateLayout" "wordOf" "[I" (.ref r1_195) := (((((((((((q195_3.ext E233).other W255 (Or.inl ne245)).other W260 (Or.inl ne245)).other W265 (Or.inl ne245)).other W270 (Or.inl ne245)).other W275 (Or.inl ne245)).other W280 (Or.inl ne245)).ext E283).other W310 (Or.inl ne295)).other W315 (Or.inl ne295)).other W320 (Or.inl ne295))
    have F324 : Arv Z h320 r1_195 c1_195 .int (3 : Int32) [(.int (0 : Int32)), (.int (0 : Int32)), (.int (1 : Int32))] (.int (0 : Int32)) := ((((F296.ext E283).other W310 ne297).other W315 ne297).other W320 ne297)
    have F325 : Fld Z h320 b164 "com/example/darlington/darlington/core/StateLayout" "shiftOf" "[I" (.ref r2_195) := (((((((((((q195_6.ext E233).other W255 (Or.inl ne245)).other W260 (Or.inl ne245)).other W265 (Or.inl ne245)).other W270 (Or.inl ne245)).other W275 (Or.inl ne245)).other W280 (Or.inl ne245)).ext E283).other W310 (Or.inl ne295)).other W315 (Or.inl ne295)).other W320 (Or.inl ne295))
    have F326 : Arv Z h320 r2_195 c2_195 .int (3 : Int32) [(.int (1 : Int32)), (.int ((1 : Int32) + (own_bits vZ0))), (.int (0 : Int32))] (.int (0 : Int32)) := ((((F298.ext E283).other W310 ne299).other W315 ne299).other W320 ne299)
    have F327 : Fld Z h320 b164 "com/example/darlington/darlington/core/StateLayout" "maskOf" "[J" (.ref r3_195) := (((((((((((q195_9.ext E233).other W255 (Or.inl ne245)).other W260 (Or.inl ne245)).other W265 (Or.inl ne245)).other W270 (Or.inl ne245)).other W275 (Or.inl ne245)).other W280 (Or.inl ne245)).ext E283).other W310 (Or.inl ne295)).other W315 (Or.inl ne295)).other W320 (Or.inl ne295))
    have F328 : Arv Z h320 r3_195 c3_195 .long (3 : Int32) [(.long (own_msk vZ0)), (.long (own_msk vZ1)), (.long (own_msk vZ2))] (.long (0 : Int64)) := ((((F300.ext E283).other W310 ne301).other W315 ne301).other W320 ne301)
    have F329 : Fld Z h320 b164 "com/example/darlington/darlington/core/StateLayout" "firstOf" "[I" (.ref r4_195) := (((((((((((q195_12.ext E233).other W255 (Or.inl ne245)).other W260 (Or.inl ne245)).other W265 (Or.inl ne245)).other W270 (Or.inl ne245)).other W275 (Or.inl ne245)).other W280 (Or.inl ne245)).ext E283).other W310 (Or.inl ne295)).other W315 (Or.inl ne295)).other W320 (Or.inl ne295))
    have F330 : Arv Z h320 r4_195 c4_195 .int (3 : Int32) [(.int (vL0 + (0 : Int32))), (.int (vL1 + (0 : Int32))), (.int (vL2 + (0 : Int32)))] (.int (0 : Int32)) := ((((F302.ext E283).other W310 ne303).other W315 ne303).other W320 ne303)
    have F331 : Fld Z h320 b164 "com/example/darlington/darlington/core/StateLayout" "wordsPerState" "I" (.int (2 : Int32)) := (((((((((((FW.ext E233).other W255 (Or.inl ne245)).other W260 (Or.inl ne245)).other W265 (Or.inl ne245)).other W270 (Or.inl ne245)).other W275 (Or.inl ne245)).other W280 (Or.inl ne245)).ext E283).other W310 (Or.inl ne295)).other W315 (Or.inl ne295)).other W320 (Or.inl ne295))
    have F332 : Arv Z h320 b233 k233 .long (6 : Int32) [(.long vG), (.long vG), (.long vG), (.long vG), (.long vG), (.long vG)] (.long (0 : Int64)) := ((((V280.ext E283).other W310 ne304).other W315 ne304).other W320 ne304)
    have F334 : Exa Z h320 b164 "com/example/darlington/darlington/core/StateLayout" := ((((F294.ext E283).wr W310).wr W315).wr W320)
    obtain ⟨cq333, kq333, q333a, q333b, q333c⟩ := isOf hZ e320 F334
    obtain ⟨_, _, ⟨T333, L333, k333, n333⟩, -, X333, ⟨Lc333, hQ333, l333, y333, z333⟩, st333⟩ := X320.virtualBack hx (y := (⟨"com/example/darlington/darlington/core/StateLayout", "pack", "([I[JI)V"⟩ : MethodName)) (z := (⟨"com/example/darlington/darlington/core/StateLayout", "pack", "([I[JI)V"⟩ : MethodName)) hown (mvT hZ (ow hw 160 rfl)) (mvT hZ (ow hw 161 rfl)) (notFace_of_selects (args := #[]) (mvT hZ (ow hw 163 rfl))) (mvT hZ (ow hw 163 rfl)) (mvT hZ (ow hw 162 rfl)) (by decide) (backOf (W := 0) (rm_packB l Z a0 hw [] b164 b283 b233 vF r1_195 r2_195 r3_195 r4_195 c1_195 c2_195 c3_195 c4_195 (1 : Int32) ((1 : Int32) + (own_bits vZ0)) (0 : Int32) (own_msk vZ0) (own_msk vZ1) (own_msk vZ2) (vL0 + (0 : Int32)) (vL1 + (0 : Int32)) (vL2 + (0 : Int32)) k283 k233 vX0 vX1 vX2 [(.long vG), (.long vG), (.long vG), (.long vG), (.long vG), (.long vG)] vG vG h320 n0 (Nat.le_trans Z0 KC321.1) F323 F324 F325 F326 F327 F328 F329 F330 F331 V320 F332 ge250 ne245 (Ne.symm ne304) ne246 ne247 ne248 ne249 hF rfl (own_g6 vG hF).1 (own_g6 vG hF).2) hZ (ow hw 164 rfl) (ow hw 96 rfl) (by decide) (by decide)) q333a q333c (g := (mkF m 285 #[Sl q1, S2, Sl q2, S2, Sl q3, S2, Sl q4, S2, Sl q5, S2, Si p6, Si vW0, Si vW1, Si vW2, Si vS0, Si vS1, Si vS2, Si vL0, Si vL1, Si vL2, Si vX0, Si vX1, Si vX2, Sr b81, Sr b164, Si vF, Sl vG, S2, Sr b233, Sr b283, Su, Su, Su, Su, Su] [(.int vF), (.ref b233), (.ref b283), (.ref b164)])) rfl (by rw [hml]; rfl) (Steps.refl _) (argsL := [(.ref b283), (.ref b233), (.int vF)]) (rest := []) (lenOf pd_16 rfl) rfl (by show 2 * 0 + _ ≤ _; exact Nat.le_of_eq rfl) (hb hby at_285) (fun _ _ => ⟨rfl, e320, (by decide : 12 + 0 ≤ _), (by decide : 45 + 0 ≤ _)⟩)
    dsimp only [Pt.U, Pt.locs, Pt.cells, Pt.slots] at X333 l333 y333 z333 st333 hQ333
    subst y333 z333
    obtain ⟨vq_333, rfl, Nq333, q333_0, q333_1, q333_2, q333_3, q333_4⟩ := hQ333
    have N335 := Eq.subst (motive := fun L => Fr n0 L) l333.symm (Fr.app N322 Nq333)
    have KC336 : Keep h0 T333.heap [] := KC321.trans q333_0 (allS (Or.inr sz251) all0)
    obtain ⟨vA, hvA⟩ : ∃ z : Int64, z = (own_por (own_por (1 : Int64) (1 : Int32) (own_msk vZ0) (vL0 + (0 : Int32)) vX0) ((1 : Int32) + (own_bits vZ0)) (own_msk vZ1) (vL1 + (0 : Int32)) vX1) := ⟨_, rfl⟩
    rw [← hvA] at q333_3
    obtain ⟨vB, hvB⟩ : ∃ z : Int64, z = (own_por (0 : Int64) (0 : Int32) (own_msk vZ2) (vL2 + (0 : Int32)) vX2) := ⟨_, rfl⟩
    rw [← hvB] at q333_4
    obtain ⟨c337, Arc337, Aqc337, Asc337, Anc337, Ahc337, Agc337⟩ := id q333_1
    have hin338 : ¬ (vF < 0 ∨ c337.slots.size ≤ (vF).toNatClampNeg) := inb_of Asc337 (own_inA hF)
    have hat339 : c337.slots[(vF).toNatClampNeg]? = some (.long vA) := Has.at Ahc337 hin338 q333_3
    have pre340 : ∀ t, Steps p.tables e below (T333.setTop (mkF m 301 #[Sl q1, S2, Sl q2, S2, Sl q3, S2, Sl q4, S2, Sl q5, S2, Si p6, Si vW0, Si vW1, Si vW2, Si vS0, Si vS1, Si vS2, Si vL0, Si vL1, Si vL2, Si vX0, Si vX1, Si vX2, Sr b81, Sr b164, Si vF, Sl vG, S2, Sr b233, Sr b283, Sl vA, S2, Su, Su, Su] [(.int (vF + (1 : Int32))), (.ref b233)])) t → Steps p.tables e below (s₁.setTop (entryFrame m #[(.long q1), (.long q2), (.long q3), (.long q4), (.long q5), (.int p6)] maxLocals)) t := by
      intro t k
      refine pre232 t ?_
      refine XS.bipush X195.here hx rfl (hb hby at_221) ?_
      refine st233 _ ?_
      refine XS.dup X233.here hx rfl (hb hby at_225) rfl rfl ?_
      refine XS.iconst X233.here hx rfl (hb hby at_226) ?_
      refine XS.lload X233.here hx rfl (hb hby at_227) rfl ?_
      refine st255 _ ?_
      refine XS.dup X255.here hx rfl (hb hby at_230) rfl rfl ?_
      show Steps _ _ _ (T255.setTop (mkF m 231 #[Sl q1, S2, Sl q2, S2, Sl q3, S2, Sl q4, S2, Sl q5, S2, Si p6, Si vW0, Si vW1, Si vW2, Si vS0, Si vS1, Si vS2, Si vL0, Si vL1, Si vL2, Si vX0, Si vX1, Si vX2, Sr b81, Sr b164, Si vF, Sl vG, S2, Su, Su, Su, Su, Su, Su, Su] [(.ref b233), (.ref b233)])) _
      refine XS.iconst X255.here hx rfl (hb hby at_231) ?_
      refine XS.lload X255.here hx rfl (hb hby at_232) rfl ?_
      refine st260 _ ?_
      refine XS.dup X260.here hx rfl (hb hby at_235) rfl rfl ?_
      refine XS.iconst X260.here hx rfl (hb hby at_236) ?_
      refine XS.lload X260.here hx rfl (hb hby at_237) rfl ?_
      refine st265 _ ?_
      refine XS.dup X265.here hx rfl (hb hby at_240) rfl rfl ?_
      show Steps _ _ _ (T265.setTop (mkF m 241 #[Sl q1, S2, Sl q2, S2, Sl q3, S2, Sl q4, S2, Sl q5, S2, Si p6, Si vW0, Si vW1, Si vW2, Si vS0, Si vS1, Si vS2, Si vL0, Si vL1, Si vL2, Si vX0, Si vX1, Si vX2, Sr b81, Sr b164, Si vF, Sl vG, S2, Su, Su, Su, Su, Su, Su, Su] [(.ref b233), (.ref b233)])) _
      refine XS.iconst X265.here hx rfl (hb hby at_241) ?_
      refine XS.lload X265.here hx rfl (hb hby at_242) rfl ?_
      refine st270 _ ?_
      refine XS.dup X270.here hx rfl (hb hby at_245) rfl rfl ?_
      refine XS.iconst X270.here hx rfl (hb hby at_246) ?_
      refine XS.lload X270.here hx rfl (hb hby at_247) rfl ?_
      refine st275 _ ?_
      refine XS.dup X275.here hx rfl (hb hby at_250) rfl rfl ?_
      show Steps _ _ _ (T275.setTop (mkF m 251 #[Sl q1, S2, Sl q2, S2, Sl q3, S2, Sl q4, S2, Sl q5, S2, Si p6, Si vW0, Si vW1, Si vW2, Si vS0, Si vS1, Si vS2, Si vL0, Si vL1, Si vL2, Si vX0, Si vX1, Si vX2, Sr b81, Sr b164, Si vF, Sl vG, S2, Su, Su, Su, Su, Su, Su, Su] [(.ref b233), (.ref b233)])) _
      refine XS.iconst X275.here hx rfl (hb hby at_251) ?_
      refine XS.lload X275.here hx rfl (hb hby at_252) rfl ?_
      refine st280 _ ?_
      refine XS.astore X280.here hx rfl (hb hby at_255) rfl rfl (l' := #[Sl q1, S2, Sl q2, S2, Sl q3, S2, Sl q4, S2, Sl q5, S2, Si p6, Si vW0, Si vW1, Si vW2, Si vS0, Si vS1, Si vS2, Si vL0, Si vL1, Si vL2, Si vX0, Si vX1, Si vX2, Sr b81, Sr b164, Si vF, Sl vG, S2, Sr b233, Su, Su, Su, Su, Su, Su]) rfl ?_
      refine XS.iconst X280.here hx rfl (hb hby at_257) ?_
      refine st283 _ ?_
      refine XS.dup X283.here hx rfl (hb hby at_260) rfl rfl ?_
      refine XS.iconst X283.here hx rfl (hb hby at_261) ?_
      show Steps _ _ _ (T283.setTop (mkF m 262 #[Sl q1, S2, Sl q2, S2, Sl q3, S2, Sl q4, S2, Sl q5, S2, Si p6, Si vW0, Si vW1, Si vW2, Si vS0, Si vS1, Si vS2, Si vL0, Si vL1, Si vL2, Si vX0, Si vX1, Si vX2, Sr b81, Sr b164, Si vF, Sl vG, S2, Sr b233, Su, Su, Su, Su, Su, Su] [(.int (0 : Int32)), (.ref b283), (.ref b283)])) _
      refine XS.iload X283.here hx rfl (hb hby at_262) rfl ?_
      refine st310 _ ?_
      refine XS.dup X310.here hx rfl (hb hby at_265) rfl rfl ?_
      refine XS.iconst X310.here hx rfl (hb hby at_266) ?_
      refine XS.iload X310.here hx rfl (hb hby at_267) rfl ?_
      refine st315 _ ?_
      refine XS.dup X315.here hx rfl (hb hby at_270) rfl rfl ?_
      refine XS.iconst X315.here hx rfl (hb hby at_271) ?_
      show Steps _ _ _ (T315.setTop (mkF m 272 #[Sl q1, S2, Sl q2, S2, Sl q3, S2, Sl q4, S2, Sl q5, S2, Si p6, Si vW0, Si vW1, Si vW2, Si vS0, Si vS1, Si vS2, Si vL0, Si vL1, Si vL2, Si vX0, Si vX1, Si vX2, Sr b81, Sr b164, Si vF, Sl vG, S2, Sr b233, Su, Su, Su, Su, Su, Su] [(.int (2 : Int32)), (.ref b283), (.ref b283)])) _
      refine XS.iload X315.here hx rfl (hb hby at_272) rfl ?_
      refine st320 _ ?_
      refine XS.astore X320.here hx rfl (hb hby at_275) rfl rfl (l' := #[Sl q1, S2, Sl q2, S2, Sl q3, S2, Sl q4, S2, Sl q5, S2, Si p6, Si vW0, Si vW1, Si vW2, Si vS0, Si vS1, Si vS2, Si vL0, Si vL1, Si vL2, Si vX0, Si vX1, Si vX2, Sr b81, Sr b164, Si vF, Sl vG, S2, Sr b233, Sr b283, Su, Su, Su, Su, Su]) rfl ?_
      refine XS.aload X320.here hx rfl (hb hby at_277) rfl rfl ?_
      refine XS.aload X320.here hx rfl (hb hby at_279) rfl rfl ?_
      refine XS.aload X320.here hx rfl (hb hby at_281) rfl rfl ?_
      refine XS.iload X320.here hx rfl (hb hby at_283) rfl ?_
      refine st333.trans ?_
      show Steps _ _ _ (T333.setTop (mkF m 288 #[Sl q1, S2, Sl q2, S2, Sl q3, S2, Sl q4, S2, Sl q5, S2, Si p6, Si vW0, Si vW1, Si vW2, Si vS0, Si vS1, Si vS2, Si vL0, Si vL1, Si vL2, Si vX0, Si vX1, Si vX2, Sr b81, Sr b164, Si vF, Sl vG, S2, Sr b233, Sr b283, Su, Su, Su, Su, Su] [])) _
      refine XS.aload X333.here hx rfl (hb hby at_288) rfl rfl ?_
      refine XS.iload X333.here hx rfl (hb hby at_290) rfl ?_
      refine X333.laload hx (j := vF) (v := (.long vA)) Arc337.1 (State.isArrayOf_alike hZ.alike Arc337.2.1) Arc337.2.2 hin338 hat339 (g := (mkF m 292 #[Sl q1, S2, Sl q2, S2, Sl q3, S2, Sl q4, S2, Sl q5, S2, Si p6, Si vW0, Si vW1, Si vW2, Si vS0, Si vS1, Si vS2, Si vL0, Si vL1, Si vL2, Si vX0, Si vX1, Si vX2, Sr b81, Sr b164, Si vF, Sl vG, S2, Sr b233, Sr b283, Su, Su, Su, Su, Su] [(.int vF), (.ref b233)])) rfl rfl (hb hby at_292) _ ?_
      refine XS.lstore X333.here hx rfl (hb hby at_293) rfl (l' := #[Sl q1, S2, Sl q2, S2, Sl q3, S2, Sl q4, S2, Sl q5, S2, Si p6, Si vW0, Si vW1, Si vW2, Si vS0, Si vS1, Si vS2, Si vL0, Si vL1, Si vL2, Si vX0, Si vX1, Si vX2, Sr b81, Sr b164, Si vF, Sl vG, S2, Sr b233, Sr b283, Sl vA, S2, Su, Su, Su]) rfl ?_
      refine XS.aload X333.here hx rfl (hb hby at_295) rfl rfl ?_
      refine XS.iload X333.here hx rfl (hb hby at_297) rfl ?_
      refine XS.iconst X333.here hx rfl (hb hby at_299) ?_
      refine XS.iadd X333.here hx rfl (hb hby at_300) rfl ?_
      show Steps _ _ _ (T333.setTop (mkF m 301 #[Sl q1, S2, Sl q2, S2, Sl q3, S2, Sl q4, S2, Sl q5, S2, Si p6, Si vW0, Si vW1, Si vW2, Si vS0, Si vS1, Si vS2, Si vL0, Si vL1, Si vL2, Si vX0, Si vX1, Si vX2, Sr b81, Sr b164, Si vF, Sl vG, S2, Sr b233, Sr b283, Sl vA, S2, Su, Su, Su] [(.int (vF + (1 : Int32))), (.ref b233)])) _
      exact k
    obtain ⟨c341, Arc341, Aqc341, Asc341, Anc341, Ahc341, Agc341⟩ := id q333_1
    have hin342 : ¬ ((vF + (1 : Int32)) < 0 ∨ c341.slots.size ≤ ((vF + (1 : Int32))).toNatClampNeg) := inb_of Asc341 (own_inB hF)
    have hat343 : c341.slots[((vF + (1 : Int32))).toNatClampNeg]? = some (.long vB) := Has.at Ahc341 hin342 q333_4
    obtain ⟨T344, h344, k344, X344, e344, E344, A344, st344⟩ := newP X333 hx hZ (ow hw 109 rfl) rfl (g := (mkF m 305 #[Sl q1, S2, Sl q2, S2, Sl q3, S2, Sl q4, S2, Sl q5, S2, Si p6, Si vW0, Si vW1, Si vW2, Si vS0, Si vS1, Si vS2, Si vL0, Si vL1, Si vL2, Si vX0, Si vX1, Si vX2, Sr b81, Sr b164, Si vF, Sl vG, S2, Sr b233, Sr b283, Sl vA, S2, Sl vB, S2, Su] [(.int (3 : Int32))])) rfl (hb hby at_305) rfl (by decide) (cap := 3) (by decide) (by decide) (by decide) (by decide)
    obtain ⟨b344, g344⟩ : ∃ z, z = T333.heap.size := ⟨_, rfl⟩
    rw [← g344] at A344 st344
    have F345 : Exa Z T333.heap b81 "java/util/ArrayList" := (((((F284.ext E283).wr W310).wr W315).wr W320).keep q333_0)
    have ne346 : b81 ≠ b344 := Nat.ne_of_lt (Nat.lt_of_lt_of_le F345.lt (Nat.le_of_eq g344.symm))
    have F347 : Exa Z T333.heap b92 "com/example/darlington/darlington/core/IntegerRange" := (((((F286.ext E283).wr W310).wr W315).wr W320).keep q333_0)
    have ne348 : b92 ≠ b344 := Nat.ne_of_lt (Nat.lt_of_lt_of_le F347.lt (Nat.le_of_eq g344.symm))
    have F349 : Arv Z T333.heap r_109 kr_109 (.object "java/lang/Object") (10 : Int32) [(.ref b92), (.ref b116), (.ref b139), .null, .null, .null, .null, .null, .null, .null] .null := (((((F288.ext E283).other W310 ne289).other W315 ne289).other W320 ne289).keep q333_0 (ninS ne239 nin0))
    have ne350 : r_109 ≠ b344 := Nat.ne_of_lt (Nat.lt_of_lt_of_le F349.lt (Nat.le_of_eq g344.symm))
    have F351 : Exa Z T333.heap b116 "com/example/darlington/darlington/core/IntegerRange" := (((((F290.ext E283).wr W310).wr W315).wr W320).keep q333_0)
    have ne352 : b116 ≠ b344 := Nat.ne_of_lt (Nat.lt_of_lt_of_le F351.lt (Nat.le_of_eq g344.symm))
    have F353 : Exa Z T333.heap b139 "com/example/darlington/darlington/core/IntegerRange" := (((((F292.ext E283).wr W310).wr W315).wr W320).keep q333_0)
    have ne354 : b139 ≠ b344 := Nat.ne_of_lt (Nat.lt_of_lt_of_le F353.lt (Nat.le_of_eq g344.symm))
    have F355 : Exa Z T333.heap b164 "com/example/darlington/darlington/core/StateLayout" := (F334.keep q333_0)
    have ne356 : b164 ≠ b344 := Nat.ne_of_lt (Nat.lt_of_lt_of_le F355.lt (Nat.le_of_eq g344.symm))
    have F357 : Arv Z T333.heap r1_195 c1_195 .int (3 : Int32) [(.int (0 : Int32)), (.int (0 : Int32)), (.int (1 : Int32))] (.int (0 : Int32)) := (F324.keep q333_0 (ninS ne246 nin0))
    have ne358 : r1_195 ≠ b344 := Nat.ne_of_lt (Nat.lt_of_lt_of_le F357.lt (Nat.le_of_eq g344.symm))
    have F359 : Arv Z T333.heap r2_195 c2_195 .int (3 : Int32) [(.int (1 : Int32)), (.int ((1 : Int32) + (own_bits vZ0))), (.int (0 : Int32))] (.int (0 : Int32)) := (F326.keep q333_0 (ninS ne247 nin0))
    have ne360 : r2_195 ≠ b344 := Nat.ne_of_lt (Nat.lt_of_lt_of_le F359.lt (Nat.le_of_eq g344.symm))
    have F361 : Arv Z T333.heap r3_195 c3_195 .long (3 : Int32) [(.long (own_msk vZ0)), (.long (own_msk vZ1)), (.long (own_msk vZ2))] (.long (0 : Int64)) := (F328.keep q333_0 (ninS ne248 nin0))
    have ne362 : r3_195 ≠ b344 := Nat.ne_of_lt (Nat.lt_of_lt_of_le F361.lt (Nat.le_of_eq g344.symm))
    have F363 : Arv Z T333.heap r4_195 c4_195 .int (3 : Int32) [(.int (vL0 + (0 : Int32))), (.int (vL1 + (0 : Int32))), (.int (vL2 + (0 : Int32)))] (.int (0 : Int32)) := (F330.keep q333_0 (ninS ne249 nin0))
    have ne364 : r4_195 ≠ b344 := Nat.ne_of_lt (Nat.lt_of_lt_of_le F363.lt (Nat.le_of_eq g344.symm))
    have ne365 : b233 ≠ b344 := Nat.ne_of_lt (Nat.lt_of_lt_of_le q333_1.lt (Nat.le_of_eq g344.symm))
    have F366 : Arv Z T333.heap b283 k283 .int (3 : Int32) [(.int vX0), (.int vX1), (.int vX2)] (.int (0 : Int32)) := (V320.keep q333_0 (ninS (Ne.symm ne304) nin0))
    have ne367 : b283 ≠ b344 := Nat.ne_of_lt (Nat.lt_of_lt_of_le F366.lt (Nat.le_of_eq g344.symm))
    have ge368 : n0 ≤ b344 := Nat.le_trans (Nat.le_trans Z0 KC336.1) (Nat.le_of_eq g344.symm)
    have sz369 : h0.size ≤ b344 := Nat.le_trans KC336.1 (Nat.le_of_eq g344.symm)
    have KC370 : Keep h0 h344 [] := KC336.ext E344
    have V344 : Arv Z h344 b344 k344 .int (3 : Int32) [(.int (0 : Int32)), (.int (0 : Int32)), (.int (0 : Int32))] (.int (0 : Int32)) := (Arv.new A344 (by decide)).pad (pad_rep [] (.int (0 : Int32)) 3)
    obtain ⟨c371, Arc371, Aqc371, Asc371, Anc371, Ahc371, Agc371⟩ := id V344
    have hin372 : ¬ ((0 : Int32) < 0 ∨ c371.slots.size ≤ ((0 : Int32)).toNatClampNeg) := inb_of Asc371 ⟨by decide, by decide⟩
    obtain ⟨T373, h373, X373, e373, W373, st373⟩ := stI X344 hx hZ e344 Arc371 (j := (0 : Int32)) hin372 (g := (mkF m 312 #[Sl q1, S2, Sl q2, S2, Sl q3, S2, Sl q4, S2, Sl q5, S2, Si p6, Si vW0, Si vW1, Si vW2, Si vS0, Si vS1, Si vS2, Si vL0, Si vL1, Si vL2, Si vX0, Si vX1, Si vX2, Sr b81, Sr b164, Si vF, Sl vG, S2, Sr b233, Sr b283, Sl vA, S2, Sl vB, S2, Su] [(.int (vG.toInt32)), (.int (0 : Int32)), (.ref b344), (.ref b344)])) rfl rfl (hb hby at_312)
    have KC374 : Keep h0 h373 [] := KC370.wr W373 (Or.inr sz369)
    have V373 : Arv Z h373 b344 k344 .int (3 : Int32) [(.int (vG.toInt32)), (.int (0 : Int32)), (.int (0 : Int32))] (.int (0 : Int32)) := Arv.set Arc371 Aqc371 Asc371 Anc371 Ahc371 Agc371 rfl W373 0 rfl (Nat.le_of_ble_eq_true rfl)
    have N375 := Fr.snoc X373 N335 ge368
    obtain ⟨c376, Arc376, Aqc376, Asc376, Anc376, Ahc376, Agc376⟩ := id V373
    have hin377 : ¬ ((1 : Int32) < 0 ∨ c376.slots.size ≤ ((1 : Int32)).toNatClampNeg) := inb_of Asc376 ⟨by decide, by decide⟩
    obtain ⟨T378, h378, X378, e378, W378, st378⟩ := stI X373 hx hZ e373 Arc376 (j := (1 : Int32)) hin377 (g := (mkF m 320 #[Sl q1, S2, Sl q2, S2, Sl q3, S2, Sl q4, S2, Sl q5, S2, Si p6, Si vW0, Si vW1, Si vW2, Si vS0, Si vS1, Si vS2, Si vL0, Si vL1, Si vL2, Si vX0, Si vX1, Si vX2, Sr b81, Sr b164, Si vF, Sl vG, S2, Sr b233, Sr b283, Sl vA, S2, Sl vB, S2, Su] [(.int ((vG.toInt32) ^^^ (-1 : Int32))), (.int (1 : Int32)), (.ref b344), (.ref b344)])) rfl rfl (hb hby at_320)
    have KC379 : Keep h0 h378 [] := KC374.wr W378 (Or.inr sz369)
    have V378 : Arv Z h378 b344 k344 .int (3 : Int32) [(.int (vG.toInt32)), (.int ((vG.toInt32) ^^^ (-1 : Int32))), (.int (0 : Int32))] (.int (0 : Int32)) := Arv.set Arc376 Aqc376 Asc376 Anc376 Ahc376 Agc376 rfl W378 1 rfl (Nat.le_of_ble_eq_true rfl)
    have N380 := Fr.snoc X378 N375 ge368
    obtain ⟨c381, Arc381, Aqc381, Asc381, Anc381, Ahc381, Agc381⟩ := id V378
    have hin382 : ¬ ((2 : Int32) < 0 ∨ c381.slots.size ≤ ((2 : Int32)).toNatClampNeg) := inb_of Asc381 ⟨by decide, by decide⟩
    obtain ⟨T383, h383, X383, e383, W383, st383⟩ := stI X378 hx hZ e378 Arc381 (j := (2 : Int32)) hin382 (g := (mkF m 329 #[Sl q1, S2, Sl q2, S2, Sl q3, S2, Sl q4, S2, Sl q5, S2, Si p6, Si vW0, Si vW1, Si vW2, Si vS0, Si vS1, Si vS2, Si vL0, Si vL1, Si vL2, Si vX0, Si vX1, Si vX2, Sr b81, Sr b164, Si vF, Sl vG, S2, Sr b233, Sr b283, Sl vA, S2, Sl vB, S2, Su] [(.int (((vG.toUInt64 >>> ((32 : Int32) &&& 0x3f).toInt64.toUInt64).toInt64).toInt32)), (.int (2 : Int32)), (.ref b344), (.ref b344)])) rfl rfl (hb hby at_329)
    have KC384 : Keep h0 h383 [] := KC379.wr W383 (Or.inr sz369)
    have V383 : Arv Z h383 b344 k344 .int (3 : Int32) [(.int (vG.toInt32)), (.int ((vG.toInt32) ^^^ (-1 : Int32))), (.int (((vG.toUInt64 >>> ((32 : Int32) &&& 0x3f).toInt64.toUInt64).toInt64).toInt32))] (.int (0 : Int32)) := Arv.set Arc381 Aqc381 Asc381 Anc381 Ahc381 Agc381 rfl W383 2 rfl (Nat.le_of_ble_eq_true rfl)
    have N385 := Fr.snoc X383 N380 ge368
    have F386 : Fld Z h383 b164 "com/example/darlington/darlington/core/StateLayout" "wordOf" "[I" (.ref r1_195) := (((((F323.keep q333_0 (ninS ne245 nin0)).ext E344).other W373 (Or.inl ne356)).other W378 (Or.inl ne356)).other W383 (Or.inl ne356))
    have F387 : Arv Z h383 r1_195 c1_195 .int (3 : Int32) [(.int (0 : Int32)), (.int (0 : Int32)), (.int (1 : Int32))] (.int (0 : Int32)) := ((((F357.ext E344).other W373 ne358).other W378 ne358).other W383 ne358)
    have F388 : Fld Z h383 b164 "com/example/darlington/darlington/core/StateLayout" "shiftOf" "[I" (.ref r2_195) := (((((F325.keep q333_0 (ninS ne245 nin0)).ext E344).other W373 (Or.inl ne356)).other W378 (Or.inl ne356)).other W383 (Or.inl ne356))
    have F389 : Arv Z h383 r2_195 c2_195 .int (3 : Int32) [(.int (1 : Int32)), (.int ((1 : Int32) + (own_bits vZ0))), (.int (0 : Int32))] (.int (0 : Int32)) := ((((F359.ext E344).other W373 ne360).other W378 ne360).other W383 ne360)
    have F390 : Fld Z h383 b164 "com/example/darlington/darlington/core/StateLayout" "maskOf" "[J" (.ref r3_195) := (((((F327.keep q333_0 (ninS ne245 nin0)).ext E344).other W373 (Or.inl ne356)).other W378 (Or.inl ne356)).other W383 (Or.inl ne356))
    have F391 : Arv Z h383 r3_195 c3_195 .long (3 : Int32) [(.long (own_msk vZ0)), (.long (own_msk vZ1)), (.long (own_msk vZ2))] (.long (0 : Int64)) := ((((F361.ext E344).other W373 ne362).other W378 ne362).other W383 ne362)
    have F392 : Fld Z h383 b164 "com/example/darlington/darlington/core/StateLayout" "firstOf" "[I" (.ref r4_195) := (((((F329.keep q333_0 (ninS ne245 nin0)).ext E344).other W373 (Or.inl ne356)).other W378 (Or.inl ne356)).other W383 (Or.inl ne356))
    have F393 : Arv Z h383 r4_195 c4_195 .int (3 : Int32) [(.int (vL0 + (0 : Int32))), (.int (vL1 + (0 : Int32))), (.int (vL2 + (0 : Int32)))] (.int (0 : Int32)) := ((((F363.ext E344).other W373 ne364).other W378 ne364).other W383 ne364)
    have F394 : Arv Z h383 b233 k233 .long (6 : Int32) vq_333 (.long (0 : Int64)) := ((((q333_1.ext E344).other W373 ne365).other W378 ne365).other W383 ne365)
    have F396 : Exa Z h383 b164 "com/example/darlington/darlington/core/StateLayout" := ((((F355.ext E344).wr W373).wr W378).wr W383)
    obtain ⟨cq395, kq395, q395a, q395b, q395c⟩ := isOf hZ e383 F396
    obtain ⟨_, _, ⟨T395, L395, k395, n395⟩, -, X395, ⟨Lc395, hQ395, l395, y395, z395⟩, st395⟩ := X383.virtualBack hx (y := (⟨"com/example/darlington/darlington/core/StateLayout", "unpack", "([JI[I)V"⟩ : MethodName)) (z := (⟨"com/example/darlington/darlington/core/StateLayout", "unpack", "([JI[I)V"⟩ : MethodName)) hown (mvT hZ (ow hw 172 rfl)) (mvT hZ (ow hw 173 rfl)) (notFace_of_selects (args := #[]) (mvT hZ (ow hw 175 rfl))) (mvT hZ (ow hw 175 rfl)) (mvT hZ (ow hw 174 rfl)) (by decide) (backOf (W := 0) (rm_unpB l Z a0 hw [] b164 b233 vF b344 r1_195 r2_195 r3_195 r4_195 c1_195 c2_195 c3_195 c4_195 (1 : Int32) ((1 : Int32) + (own_bits vZ0)) (0 : Int32) (own_msk vZ0) (own_msk vZ1) (own_msk vZ2) (vL0 + (0 : Int32)) (vL1 + (0 : Int32)) (vL2 + (0 : Int32)) k233 k344 vq_333 vA vB (vG.toInt32) ((vG.toInt32) ^^^ (-1 : Int32)) (((vG.toUInt64 >>> ((32 : Int32) &&& 0x3f).toInt64.toUInt64).toInt64).toInt32) h383 n0 (Nat.le_trans Z0 KC384.1) F386 F387 F388 F389 F390 F391 F392 F393 F394 V383 ge368 ne356 ne365 ne358 ne360 ne362 ne364 hF q333_3 q333_4) hZ (ow hw 176 rfl) (ow hw 96 rfl) (by decide) (by decide)) q395a q395c (g := (mkF m 340 #[Sl q1, S2, Sl q2, S2, Sl q3, S2, Sl q4, S2, Sl q5, S2, Si p6, Si vW0, Si vW1, Si vW2, Si vS0, Si vS1, Si vS2, Si vL0, Si vL1, Si vL2, Si vX0, Si vX1, Si vX2, Sr b81, Sr b164, Si vF, Sl vG, S2, Sr b233, Sr b283, Sl vA, S2, Sl vB, S2, Sr b344] [(.ref b344), (.int vF), (.ref b233), (.ref b164)])) rfl (by rw [hml]; rfl) (Steps.refl _) (argsL := [(.ref b233), (.int vF), (.ref b344)]) (rest := []) (lenOf pd_17 rfl) rfl (by show 2 * 0 + _ ≤ _; exact Nat.le_of_eq rfl) (hb hby at_340) (fun _ _ => ⟨rfl, e383, (by decide : 13 + 0 ≤ _), (by decide : 48 + 0 ≤ _)⟩)
    dsimp only [Pt.U, Pt.locs, Pt.cells, Pt.slots] at X395 l395 y395 z395 st395 hQ395
    subst y395 z395
    obtain ⟨rfl, Nq395, q395_0, q395_1⟩ := hQ395
    have N397 := Eq.subst (motive := fun L => Fr n0 L) l395.symm (Fr.app N385 Nq395)
    have KC398 : Keep h0 T395.heap [] := KC384.trans q395_0 (allS (Or.inr sz369) all0)
    obtain ⟨c399, Arc399, Aqc399, Asc399, Anc399, Ahc399, Agc399⟩ := id q395_1
    have hin400 : ¬ ((0 : Int32) < 0 ∨ c399.slots.size ≤ ((0 : Int32)).toNatClampNeg) := inb_of Asc399 ⟨by decide, by decide⟩
    have hat401 : c399.slots[((0 : Int32)).toNatClampNeg]? = some (.int ((vL0 + (0 : Int32)) + ((own_fld vA (1 : Int32) (own_msk vZ0)).toInt32))) := Has.at Ahc399 hin400 rfl
    have hc402 : ((vL0 + (0 : Int32)) + ((own_fld vA (1 : Int32) (own_msk vZ0)).toInt32)) = vX0 := by rw [hvA]; exact own_y337 ((own_fpoG G1 G0 (Or.inl (Nat.le_refl _))).trans (own_fpG G0 (own_f1G G0 (Nat.le_refl _)))) G0.2.2.2 B0 hx0.1 hy0
    obtain ⟨c403, Arc403, Aqc403, Asc403, Anc403, Ahc403, Agc403⟩ := id q395_1
    have hin404 : ¬ ((1 : Int32) < 0 ∨ c403.slots.size ≤ ((1 : Int32)).toNatClampNeg) := inb_of Asc403 ⟨by decide, by decide⟩
    have hat405 : c403.slots[((1 : Int32)).toNatClampNeg]? = some (.int ((vL1 + (0 : Int32)) + ((own_fld vA ((1 : Int32) + (own_bits vZ0)) (own_msk vZ1)).toInt32))) := Has.at Ahc403 hin404 rfl
    have hc406 : ((vL1 + (0 : Int32)) + ((own_fld vA ((1 : Int32) + (own_bits vZ0)) (own_msk vZ1)).toInt32)) = vX1 := by rw [hvA]; exact own_y337 (own_fpG G1 ((own_fpoG G0 G1 (Or.inr (Nat.le_refl _))).trans (own_f1G G1 (own_1a _)))) G1.2.2.2 B1 hx1.1 hy1
    obtain ⟨c407, Arc407, Aqc407, Asc407, Anc407, Ahc407, Agc407⟩ := id q395_1
    have hin408 : ¬ ((2 : Int32) < 0 ∨ c407.slots.size ≤ ((2 : Int32)).toNatClampNeg) := inb_of Asc407 ⟨by decide, by decide⟩
    have hat409 : c407.slots[((2 : Int32)).toNatClampNeg]? = some (.int ((vL2 + (0 : Int32)) + ((own_fld vB (0 : Int32) (own_msk vZ2)).toInt32))) := Has.at Ahc407 hin408 rfl
    have hc410 : ((vL2 + (0 : Int32)) + ((own_fld vB (0 : Int32) (own_msk vZ2)).toInt32)) = vX2 := by rw [hvB]; exact own_y337 (own_fpG G2 (own_f0 _ _)) G2.2.2.2 B2 hx2.1 hy2
    have F411 : Arv Z T395.heap b233 k233 .long (6 : Int32) vq_333 (.long (0 : Int64)) := (F394.keep q395_0 (ninS ne365 nin0))
    obtain ⟨c412, Arc412, Aqc412, Asc412, Anc412, Ahc412, Agc412⟩ := id F411
    have hin413 : ¬ (vF < 0 ∨ c412.slots.size ≤ (vF).toNatClampNeg) := inb_of Asc412 (own_inA hF)
    have hat414 : c412.slots[(vF).toNatClampNeg]? = some (.long vA) := Has.at Ahc412 hin413 q333_3
    obtain ⟨c415, Arc415, Aqc415, Asc415, Anc415, Ahc415, Agc415⟩ := id F411
    have hin416 : ¬ ((vF + (1 : Int32)) < 0 ∨ c415.slots.size ≤ ((vF + (1 : Int32))).toNatClampNeg) := inb_of Asc415 (own_inB hF)
    have hat417 : c415.slots[((vF + (1 : Int32))).toNatClampNeg]? = some (.long vB) := Has.at Ahc415 hin416 q333_4
    have pre418 : ∀ t, Steps p.tables e below (T395.setTop (mkF m 388 #[Sl q1, S2, Sl q2, S2, Sl q3, S2, Sl q4, S2, Sl q5, S2, Si p6, Si vW0, Si vW1, Si vW2, Si vS0, Si vS1, Si vS2, Si vL0, Si vL1, Si vL2, Si vX0, Si vX1, Si vX2, Sr b81, Sr b164, Si vF, Sl vG, S2, Sr b233, Sr b283, Sl vA, S2, Sl vB, S2, Sr b344] [(.long vB)])) t → Steps p.tables e below (s₁.setTop (entryFrame m #[(.long q1), (.long q2), (.long q3), (.long q4), (.long q5), (.int p6)] maxLocals)) t := by
      intro t k
      refine pre340 t ?_
      refine X333.laload hx (j := (vF + (1 : Int32))) (v := (.long vB)) Arc341.1 (State.isArrayOf_alike hZ.alike Arc341.2.1) Arc341.2.2 hin342 hat343 (g := (mkF m 301 #[Sl q1, S2, Sl q2, S2, Sl q3, S2, Sl q4, S2, Sl q5, S2, Si p6, Si vW0, Si vW1, Si vW2, Si vS0, Si vS1, Si vS2, Si vL0, Si vL1, Si vL2, Si vX0, Si vX1, Si vX2, Sr b81, Sr b164, Si vF, Sl vG, S2, Sr b233, Sr b283, Sl vA, S2, Su, Su, Su] [(.int (vF + (1 : Int32))), (.ref b233)])) rfl rfl (hb hby at_301) _ ?_
      refine XS.lstore X333.here hx rfl (hb hby at_302) rfl (l' := #[Sl q1, S2, Sl q2, S2, Sl q3, S2, Sl q4, S2, Sl q5, S2, Si p6, Si vW0, Si vW1, Si vW2, Si vS0, Si vS1, Si vS2, Si vL0, Si vL1, Si vL2, Si vX0, Si vX1, Si vX2, Sr b81, Sr b164, Si vF, Sl vG, S2, Sr b233, Sr b283, Sl vA, S2, Sl vB, S2, Su]) rfl ?_
      refine XS.iconst X333.here hx rfl (hb hby at_304) ?_
      refine st344 _ ?_
      refine XS.dup X344.here hx rfl (hb hby at_307) rfl rfl ?_
      refine XS.iconst X344.here hx rfl (hb hby at_308) ?_
      refine XS.lload X344.here hx rfl (hb hby at_309) rfl ?_
      refine XS.l2i X344.here hx rfl (hb hby at_311) rfl ?_
      show Steps _ _ _ (T344.setTop (mkF m 312 #[Sl q1, S2, Sl q2, S2, Sl q3, S2, Sl q4, S2, Sl q5, S2, Si p6, Si vW0, Si vW1, Si vW2, Si vS0, Si vS1, Si vS2, Si vL0, Si vL1, Si vL2, Si vX0, Si vX1, Si vX2, Sr b81, Sr b164, Si vF, Sl vG, S2, Sr b233, Sr b283, Sl vA, S2, Sl vB, S2, Su] [(.int (vG.toInt32)), (.int (0 : Int32)), (.ref b344), (.ref b344)])) _
      refine st373 _ ?_
      refine XS.dup X373.here hx rfl (hb hby at_313) rfl rfl ?_
      refine XS.iconst X373.here hx rfl (hb hby at_314) ?_
      refine XS.lload X373.here hx rfl (hb hby at_315) rfl ?_
      refine XS.l2i X373.here hx rfl (hb hby at_317) rfl ?_
      refine XS.iconst X373.here hx rfl (hb hby at_318) ?_
      refine XS.ixor X373.here hx rfl (hb hby at_319) rfl ?_
      refine st378 _ ?_
      show Steps _ _ _ (T378.setTop (mkF m 321 #[Sl q1, S2, Sl q2, S2, Sl q3, S2, Sl q4, S2, Sl q5, S2, Si p6, Si vW0, Si vW1, Si vW2, Si vS0, Si vS1, Si vS2, Si vL0, Si vL1, Si vL2, Si vX0, Si vX1, Si vX2, Sr b81, Sr b164, Si vF, Sl vG, S2, Sr b233, Sr b283, Sl vA, S2, Sl vB, S2, Su] [(.ref b344)])) _
      refine XS.dup X378.here hx rfl (hb hby at_321) rfl rfl ?_
      refine XS.iconst X378.here hx rfl (hb hby at_322) ?_
      refine XS.lload X378.here hx rfl (hb hby at_323) rfl ?_
      refine XS.bipush X378.here hx rfl (hb hby at_325) ?_
      refine XS.lushr X378.here hx rfl (hb hby at_327) rfl ?_
      refine XS.l2i X378.here hx rfl (hb hby at_328) rfl ?_
      refine st383 _ ?_
      refine XS.astore X383.here hx rfl (hb hby at_330) rfl rfl (l' := #[Sl q1, S2, Sl q2, S2, Sl q3, S2, Sl q4, S2, Sl q5, S2, Si p6, Si vW0, Si vW1, Si vW2, Si vS0, Si vS1, Si vS2, Si vL0, Si vL1, Si vL2, Si vX0, Si vX1, Si vX2, Sr b81, Sr b164, Si vF, Sl vG, S2, Sr b233, Sr b283, Sl vA, S2, Sl vB, S2, Sr b344]) rfl ?_
      show Steps _ _ _ (T383.setTop (mkF m 332 #[Sl q1, S2, Sl q2, S2, Sl q3, S2, Sl q4, S2, Sl q5, S2, Si p6, Si vW0, Si vW1, Si vW2, Si vS0, Si vS1, Si vS2, Si vL0, Si vL1, Si vL2, Si vX0, Si vX1, Si vX2, Sr b81, Sr b164, Si vF, Sl vG, S2, Sr b233, Sr b283, Sl vA, S2, Sl vB, S2, Sr b344] [])) _
      refine XS.aload X383.here hx rfl (hb hby at_332) rfl rfl ?_
      refine XS.aload X383.here hx rfl (hb hby at_334) rfl rfl ?_
      refine XS.iload X383.here hx rfl (hb hby at_336) rfl ?_
      refine XS.aload X383.here hx rfl (hb hby at_338) rfl rfl ?_
      refine st395.trans ?_
      refine XS.aload X395.here hx rfl (hb hby at_343) rfl rfl ?_
      refine XS.iconst X395.here hx rfl (hb hby at_345) ?_
      refine X395.iaload hx (j := (0 : Int32)) (v := (.int ((vL0 + (0 : Int32)) + ((own_fld vA (1 : Int32) (own_msk vZ0)).toInt32)))) Arc399.1 (State.isArrayOf_alike hZ.alike Arc399.2.1) Arc399.2.2 hin400 hat401 (g := (mkF m 346 #[Sl q1, S2, Sl q2, S2, Sl q3, S2, Sl q4, S2, Sl q5, S2, Si p6, Si vW0, Si vW1, Si vW2, Si vS0, Si vS1, Si vS2, Si vL0, Si vL1, Si vL2, Si vX0, Si vX1, Si vX2, Sr b81, Sr b164, Si vF, Sl vG, S2, Sr b233, Sr b283, Sl vA, S2, Sl vB, S2, Sr b344] [(.int (0 : Int32)), (.ref b344)])) rfl rfl (hb hby at_346) _ ?_
      show Steps _ _ _ (T395.setTop (mkF m 347 #[Sl q1, S2, Sl q2, S2, Sl q3, S2, Sl q4, S2, Sl q5, S2, Si p6, Si vW0, Si vW1, Si vW2, Si vS0, Si vS1, Si vS2, Si vL0, Si vL1, Si vL2, Si vX0, Si vX1, Si vX2, Sr b81, Sr b164, Si vF, Sl vG, S2, Sr b233, Sr b283, Sl vA, S2, Sl vB, S2, Sr b344] [(.int ((vL0 + (0 : Int32)) + ((own_fld vA (1 : Int32) (own_msk vZ0)).toInt32)))])) _
      refine XS.iload X395.here hx rfl (hb hby at_347) rfl ?_
      refine XS.icmpNo X395.here hx rfl (hb hby at_349) rfl (teq hc402).2 ?_
      refine XS.aload X395.here hx rfl (hb hby at_352) rfl rfl ?_
      refine XS.iconst X395.here hx rfl (hb hby at_354) ?_
      refine X395.iaload hx (j := (1 : Int32)) (v := (.int ((vL1 + (0 : Int32)) + ((own_fld vA ((1 : Int32) + (own_bits vZ0)) (own_msk vZ1)).toInt32)))) Arc403.1 (State.isArrayOf_alike hZ.alike Arc403.2.1) Arc403.2.2 hin404 hat405 (g := (mkF m 355 #[Sl q1, S2, Sl q2, S2, Sl q3, S2, Sl q4, S2, Sl q5, S2, Si p6, Si vW0, Si vW1, Si vW2, Si vS0, Si vS1, Si vS2, Si vL0, Si vL1, Si vL2, Si vX0, Si vX1, Si vX2, Sr b81, Sr b164, Si vF, Sl vG, S2, Sr b233, Sr b283, Sl vA, S2, Sl vB, S2, Sr b344] [(.int (1 : Int32)), (.ref b344)])) rfl rfl (hb hby at_355) _ ?_
      refine XS.iload X395.here hx rfl (hb hby at_356) rfl ?_
      refine XS.icmpNo X395.here hx rfl (hb hby at_358) rfl (teq hc406).2 ?_
      refine XS.aload X395.here hx rfl (hb hby at_361) rfl rfl ?_
      show Steps _ _ _ (T395.setTop (mkF m 363 #[Sl q1, S2, Sl q2, S2, Sl q3, S2, Sl q4, S2, Sl q5, S2, Si p6, Si vW0, Si vW1, Si vW2, Si vS0, Si vS1, Si vS2, Si vL0, Si vL1, Si vL2, Si vX0, Si vX1, Si vX2, Sr b81, Sr b164, Si vF, Sl vG, S2, Sr b233, Sr b283, Sl vA, S2, Sl vB, S2, Sr b344] [(.ref b344)])) _
      refine XS.iconst X395.here hx rfl (hb hby at_363) ?_
      refine X395.iaload hx (j := (2 : Int32)) (v := (.int ((vL2 + (0 : Int32)) + ((own_fld vB (0 : Int32) (own_msk vZ2)).toInt32)))) Arc407.1 (State.isArrayOf_alike hZ.alike Arc407.2.1) Arc407.2.2 hin408 hat409 (g := (mkF m 364 #[Sl q1, S2, Sl q2, S2, Sl q3, S2, Sl q4, S2, Sl q5, S2, Si p6, Si vW0, Si vW1, Si vW2, Si vS0, Si vS1, Si vS2, Si vL0, Si vL1, Si vL2, Si vX0, Si vX1, Si vX2, Sr b81, Sr b164, Si vF, Sl vG, S2, Sr b233, Sr b283, Sl vA, S2, Sl vB, S2, Sr b344] [(.int (2 : Int32)), (.ref b344)])) rfl rfl (hb hby at_364) _ ?_
      refine XS.iload X395.here hx rfl (hb hby at_365) rfl ?_
      refine XS.icmpNo X395.here hx rfl (hb hby at_367) rfl (teq hc410).2 ?_
      refine XS.aload X395.here hx rfl (hb hby at_370) rfl rfl ?_
      refine XS.iload X395.here hx rfl (hb hby at_372) rfl ?_
      refine X395.laload hx (j := vF) (v := (.long vA)) Arc412.1 (State.isArrayOf_alike hZ.alike Arc412.2.1) Arc412.2.2 hin413 hat414 (g := (mkF m 374 #[Sl q1, S2, Sl q2, S2, Sl q3, S2, Sl q4, S2, Sl q5, S2, Si p6, Si vW0, Si vW1, Si vW2, Si vS0, Si vS1, Si vS2, Si vL0, Si vL1, Si vL2, Si vX0, Si vX1, Si vX2, Sr b81, Sr b164, Si vF, Sl vG, S2, Sr b233, Sr b283, Sl vA, S2, Sl vB, S2, Sr b344] [(.int vF), (.ref b233)])) rfl rfl (hb hby at_374) _ ?_
      refine XS.lload X395.here hx rfl (hb hby at_375) rfl ?_
      show Steps _ _ _ (T395.setTop (mkF m 377 #[Sl q1, S2, Sl q2, S2, Sl q3, S2, Sl q4, S2, Sl q5, S2, Si p6, Si vW0, Si vW1, Si vW2, Si vS0, Si vS1, Si vS2, Si vL0, Si vL1, Si vL2, Si vX0, Si vX1, Si vX2, Sr b81, Sr b164, Si vF, Sl vG, S2, Sr b233, Sr b283, Sl vA, S2, Sl vB, S2, Sr b344] [(.long vA), (.long vA)])) _
      refine XS.lcmp X395.here hx rfl (hb hby at_377) rfl ?_
      refine XS.ifNo X395.here hx rfl (hb hby at_378) rfl ((if0 _ _).trans (teq ((lw_eq _ _).mpr rfl)).2) ?_
      refine XS.aload X395.here hx rfl (hb hby at_381) rfl rfl ?_
      refine XS.iload X395.here hx rfl (hb hby at_383) rfl ?_
      refine XS.iconst X395.here hx rfl (hb hby at_385) ?_
      refine XS.iadd X395.here hx rfl (hb hby at_386) rfl ?_
      refine X395.laload hx (j := (vF + (1 : Int32))) (v := (.long vB)) Arc415.1 (State.isArrayOf_alike hZ.alike Arc415.2.1) Arc415.2.2 hin416 hat417 (g := (mkF m 387 #[Sl q1, S2, Sl q2, S2, Sl q3, S2, Sl q4, S2, Sl q5, S2, Si p6, Si vW0, Si vW1, Si vW2, Si vS0, Si vS1, Si vS2, Si vL0, Si vL1, Si vL2, Si vX0, Si vX1, Si vX2, Sr b81, Sr b164, Si vF, Sl vG, S2, Sr b233, Sr b283, Sl vA, S2, Sl vB, S2, Sr b344] [(.int (vF + (1 : Int32))), (.ref b233)])) rfl rfl (hb hby at_387) _ ?_
      exact k
    have pre419 : ∀ t, Steps p.tables e below (T395.setTop (mkF m 399 #[Sl q1, S2, Sl q2, S2, Sl q3, S2, Sl q4, S2, Sl q5, S2, Si p6, Si vW0, Si vW1, Si vW2, Si vS0, Si vS1, Si vS2, Si vL0, Si vL1, Si vL2, Si vX0, Si vX1, Si vX2, Sr b81, Sr b164, Si vF, Sl vG, S2, Sr b233, Sr b283, Sl vA, S2, Sl vB, S2, Sr b344] [(.int (1 : Int32))])) t → Steps p.tables e below (s₁.setTop (entryFrame m #[(.long q1), (.long q2), (.long q3), (.long q4), (.long q5), (.int p6)] maxLocals)) t := by
      intro t k
      refine pre418 t ?_
      refine XS.lload X395.here hx rfl (hb hby at_388) rfl ?_
      show Steps _ _ _ (T395.setTop (mkF m 390 #[Sl q1, S2, Sl q2, S2, Sl q3, S2, Sl q4, S2, Sl q5, S2, Si p6, Si vW0, Si vW1, Si vW2, Si vS0, Si vS1, Si vS2, Si vL0, Si vL1, Si vL2, Si vX0, Si vX1, Si vX2, Sr b81, Sr b164, Si vF, Sl vG, S2, Sr b233, Sr b283, Sl vA, S2, Sl vB, S2, Sr b344] [(.long vB), (.long vB)])) _
      refine XS.lcmp X395.here hx rfl (hb hby at_390) rfl ?_
      refine XS.ifNo X395.here hx rfl (hb hby at_391) rfl ((if0 _ _).trans (teq ((lw_eq _ _).mpr rfl)).2) ?_
      refine XS.iconst X395.here hx rfl (hb hby at_394) ?_
      refine XS.goto X395.here hx rfl (pc0 := 395) (pc' := 399) rfl (hb hby at_395) (by decide) (by decide) ?_
      exact k
    obtain ⟨fs, hr, hrun, hended, hW, hsame⟩ := X395.leave (v := some (.int (1 : Int32))) (fun h => by rw [Bd.returns] at h; cases h)
    refine ⟨_, _, pre419 _ ?_, hrun, hended, _, _, rfl, ?_, ⟨_, rfl⟩, hW, hsame.mono (by decide) (by decide)⟩
    · exact retN X395 hx (t := .boolean) Bd.returns (by simp) (hb hby at_399) hr
    · show Q_rm0 Z q1 q2 q3 q4 q5 p6 wE kE h0 n0 _ T395.heap _
      exact ⟨rfl, N397, KC398⟩
  · have hw2 : own_w2 vZ0 vZ1 vZ2 = (0 : Int32) := if_neg hAB
    have hs2 : own_s2 vZ0 vZ1 vZ2 = (((1 : Int32) + (own_bits vZ0)) + (own_bits vZ1)) := if_neg hAB
    rw [hw2] at q195_2
    rw [hs2] at q195_5
    rw [hw2] at q195_13
    have FW : Fld Z T195.heap b164 "com/example/darlington/darlington/core/StateLayout" "wordsPerState" "I" (.int (1 : Int32)) := q195_13
    have G2 := G2a hAB
    have pre420 : ∀ t, Steps p.tables e below (T195.setTop (mkF m 211 #[Sl q1, S2, Sl q2, S2, Sl q3, S2, Sl q4, S2, Sl q5, S2, Si p6, Si vW0, Si vW1, Si vW2, Si vS0, Si vS1, Si vS2, Si vL0, Si vL1, Si vL2, Si vX0, Si vX1, Si vX2, Sr b81, Sr b164, Si (p6 &&& (3 : Int32)), Su, Su, Su, Su, Su, Su, Su, Su, Su] [])) t → Steps p.tables e below (s₁.setTop (entryFrame m #[(.long q1), (.long q2), (.long q3), (.long q4), (.long q5), (.int p6)] maxLocals)) t := by
      intro t k
      refine pre230 t ?_
      refine XS.iload X195.here hx rfl (hb hby at_205) rfl ?_
      refine XS.iconst X195.here hx rfl (hb hby at_207) ?_
      refine XS.iand X195.here hx rfl (hb hby at_208) rfl ?_
      show Steps _ _ _ (T195.setTop (mkF m 209 #[Sl q1, S2, Sl q2, S2, Sl q3, S2, Sl q4, S2, Sl q5, S2, Si p6, Si vW0, Si vW1, Si vW2, Si vS0, Si vS1, Si vS2, Si vL0, Si vL1, Si vL2, Si vX0, Si vX1, Si vX2, Sr b81, Sr b164, Su, Su, Su, Su, Su, Su, Su, Su, Su, Su] [(.int (p6 &&& (3 : Int32)))])) _
      refine XS.istore X195.here hx rfl (hb hby at_209) rfl (l' := #[Sl q1, S2, Sl q2, S2, Sl q3, S2, Sl q4, S2, Sl q5, S2, Si p6, Si vW0, Si vW1, Si vW2, Si vS0, Si vS1, Si vS2, Si vL0, Si vL1, Si vL2, Si vX0, Si vX1, Si vX2, Sr b81, Sr b164, Si (p6 &&& (3 : Int32)), Su, Su, Su, Su, Su, Su, Su, Su, Su]) rfl ?_
      exact k
    obtain ⟨vF, hvF⟩ : ∃ z : Int32, z = (p6 &&& (3 : Int32)) := ⟨_, rfl⟩
    rw [← hvF] at pre420
    have hF : 0 ≤ vF.toInt ∧ vF.toInt ≤ 3 := by rw [hvF]; exact own_b3 _
    have pre421 : ∀ t, Steps p.tables e below (T195.setTop (mkF m 221 #[Sl q1, S2, Sl q2, S2, Sl q3, S2, Sl q4, S2, Sl q5, S2, Si p6, Si vW0, Si vW1, Si vW2, Si vS0, Si vS1, Si vS2, Si vL0, Si vL1, Si vL2, Si vX0, Si vX1, Si vX2, Sr b81, Sr b164, Si vF, Sl ((q1 ^^^ (q2 <<< ((1 : Int32) &&& 0x3f).toInt64)) ^^^ q4), S2, Su, Su, Su, Su, Su, Su, Su] [])) t → Steps p.tables e below (s₁.setTop (entryFrame m #[(.long q1), (.long q2), (.long q3), (.long q4), (.long q5), (.int p6)] maxLocals)) t := by
      intro t k
      refine pre420 t ?_
      refine XS.lloadN X195.here hx rfl (hb hby at_211) rfl ?_
      refine XS.lloadN X195.here hx rfl (hb hby at_212) rfl ?_
      refine XS.iconst X195.here hx rfl (hb hby at_213) ?_
      refine XS.lshl X195.here hx rfl (hb hby at_214) rfl ?_
      refine XS.lxor X195.here hx rfl (hb hby at_215) rfl ?_
      refine XS.lload X195.here hx rfl (hb hby at_216) rfl ?_
      refine XS.lxor X195.here hx rfl (hb hby at_218) rfl ?_
      show Steps _ _ _ (T195.setTop (mkF m 219 #[Sl q1, S2, Sl q2, S2, Sl q3, S2, Sl q4, S2, Sl q5, S2, Si p6, Si vW0, Si vW1, Si vW2, Si vS0, Si vS1, Si vS2, Si vL0, Si vL1, Si vL2, Si vX0, Si vX1, Si vX2, Sr b81, Sr b164, Si vF, Su, Su, Su, Su, Su, Su, Su, Su, Su] [(.long ((q1 ^^^ (q2 <<< ((1 : Int32) &&& 0x3f).toInt64)) ^^^ q4))])) _
      refine XS.lstore X195.here hx rfl (hb hby at_219) rfl (l' := #[Sl q1, S2, Sl q2, S2, Sl q3, S2, Sl q4, S2, Sl q5, S2, Si p6, Si vW0, Si vW1, Si vW2, Si vS0, Si vS1, Si vS2, Si vL0, Si vL1, Si vL2, Si vX0, Si vX1, Si vX2, Sr b81, Sr b164, Si vF, Sl ((q1 ^^^ (q2 <<< ((1 : Int32) &&& 0x3f).toInt64)) ^^^ q4), S2, Su, Su, Su, Su, Su, Su, Su]) rfl ?_
      exact k
    obtain ⟨vG, hvG⟩ : ∃ z : Int64, z = ((q1 ^^^ (q2 <<< ((1 : Int32) &&& 0x3f).toInt64)) ^^^ q4) := ⟨_, rfl⟩
    rw [← hvG] at pre421
    obtain ⟨T422, h422, k422, X422, e422, E422, A422, st422⟩ := newP X195 hx hZ (ow hw 114 rfl) rfl (g := (mkF m 223 #[Sl q1, S2, Sl q2, S2, Sl q3, S2, Sl q4, S2, Sl q5, S2, Si p6, Si vW0, Si vW1, Si vW2, Si vS0, Si vS1, Si vS2, Si vL0, Si vL1, Si vL2, Si vX0, Si vX1, Si vX2, Sr b81, Sr b164, Si vF, Sl vG, S2, Su, Su, Su, Su, Su, Su, Su] [(.int (6 : Int32))])) rfl (hb hby at_223) rfl (by decide) (cap := 6) (by decide) (by decide) (by decide) (by decide)
    obtain ⟨b422, g422⟩ : ∃ z, z = T195.heap.size := ⟨_, rfl⟩
    rw [← g422] at A422 st422
    have F423 : Exa Z T195.heap b81 "java/util/ArrayList" := (F182.keep q195_0)
    have ne424 : b81 ≠ b422 := Nat.ne_of_lt (Nat.lt_of_lt_of_le F423.lt (Nat.le_of_eq g422.symm))
    have F425 : Exa Z T195.heap b92 "com/example/darlington/darlington/core/IntegerRange" := (F186.keep q195_0)
    have ne426 : b92 ≠ b422 := Nat.ne_of_lt (Nat.lt_of_lt_of_le F425.lt (Nat.le_of_eq g422.symm))
    have F427 : Arv Z T195.heap r_109 kr_109 (.object "java/lang/Object") (10 : Int32) [(.ref b92), (.ref b116), (.ref b139), .null, .null, .null, .null, .null, .null, .null] .null := (F185.keep q195_0 (ninS ne169 nin0))
    have ne428 : r_109 ≠ b422 := Nat.ne_of_lt (Nat.lt_of_lt_of_le F427.lt (Nat.le_of_eq g422.symm))
    have F429 : Exa Z T195.heap b116 "com/example/darlington/darlington/core/IntegerRange" := (F189.keep q195_0)
    have ne430 : b116 ≠ b422 := Nat.ne_of_lt (Nat.lt_of_lt_of_le F429.lt (Nat.le_of_eq g422.symm))
    have F431 : Exa Z T195.heap b139 "com/example/darlington/darlington/core/IntegerRange" := (F192.keep q195_0)
    have ne432 : b139 ≠ b422 := Nat.ne_of_lt (Nat.lt_of_lt_of_le F431.lt (Nat.le_of_eq g422.symm))
    have F433 : Exa Z T195.heap b164 "com/example/darlington/darlington/core/StateLayout" := (A164.keep q195_0)
    have ne434 : b164 ≠ b422 := Nat.ne_of_lt (Nat.lt_of_lt_of_le F433.lt (Nat.le_of_eq g422.symm))
    have ne435 : r1_195 ≠ b422 := Nat.ne_of_lt (Nat.lt_of_lt_of_le q195_2.lt (Nat.le_of_eq g422.symm))
    have ne436 : r2_195 ≠ b422 := Nat.ne_of_lt (Nat.lt_of_lt_of_le q195_5.lt (Nat.le_of_eq g422.symm))
    have ne437 : r3_195 ≠ b422 := Nat.ne_of_lt (Nat.lt_of_lt_of_le q195_8.lt (Nat.le_of_eq g422.symm))
    have ne438 : r4_195 ≠ b422 := Nat.ne_of_lt (Nat.lt_of_lt_of_le q195_11.lt (Nat.le_of_eq g422.symm))
    have ge439 : n0 ≤ b422 := Nat.le_trans (Nat.le_trans Z0 KC229.1) (Nat.le_of_eq g422.symm)
    have sz440 : h0.size ≤ b422 := Nat.le_trans KC229.1 (Nat.le_of_eq g422.symm)
    have KC441 : Keep h0 h422 [] := KC229.ext E422
    have V422 : Arv Z h422 b422 k422 .long (6 : Int32) [(.long (0 : Int64)), (.long (0 : Int64)), (.long (0 : Int64)), (.long (0 : Int64)), (.long (0 : Int64)), (.long (0 : Int64))] (.long (0 : Int64)) := (Arv.new A422 (by decide)).pad (pad_rep [] (.long (0 : Int64)) 6)
    obtain ⟨c442, Arc442, Aqc442, Asc442, Anc442, Ahc442, Agc442⟩ := id V422
    have hin443 : ¬ ((0 : Int32) < 0 ∨ c442.slots.size ≤ ((0 : Int32)).toNatClampNeg) := inb_of Asc442 ⟨by decide, by decide⟩
    obtain ⟨T444, h444, X444, e444, W444, st444⟩ := stJ X422 hx hZ e422 Arc442 (j := (0 : Int32)) hin443 (g := (mkF m 229 #[Sl q1, S2, Sl q2, S2, Sl q3, S2, Sl q4, S2, Sl q5, S2, Si p6, Si vW0, Si vW1, Si vW2, Si vS0, Si vS1, Si vS2, Si vL0, Si vL1, Si vL2, Si vX0, Si vX1, Si vX2, Sr b81, Sr b164, Si vF, Sl vG, S2, Su, Su, Su, Su, Su, Su, Su] [(.long vG), (.int (0 : Int32)), (.ref b422), (.ref b422)])) rfl rfl (hb hby at_229)
    have KC445 : Keep h0 h444 [] := KC441.wr W444 (Or.inr sz440)
    have V444 : Arv Z h444 b422 k422 .long (6 : Int32) [(.long vG), (.long (0 : Int64)), (.long (0 : Int64)), (.long (0 : Int64)), (.long (0 : Int64)), (.long (0 : Int64))] (.long (0 : Int64)) := Arv.set Arc442 Aqc442 Asc442 Anc442 Ahc442 Agc442 rfl W444 0 rfl (Nat.le_of_ble_eq_true rfl)
    have N446 := Fr.snoc X444 N196 ge439
    obtain ⟨c447, Arc447, Aqc447, Asc447, Anc447, Ahc447, Agc447⟩ := id V444
    have hin448 : ¬ ((1 : Int32) < 0 ∨ c447.slots.size ≤ ((1 : Int32)).toNatClampNeg) := inb_of Asc447 ⟨by decide, by decide⟩
    obtain ⟨T449, h449, X449, e449, W449, st449⟩ := stJ X444 hx hZ e444 Arc447 (j := (1 : Int32)) hin448 (g := (mkF m 234 #[Sl q1, S2, Sl q2, S2, Sl q3, S2, Sl q4, S2, Sl q5, S2, Si p6, Si vW0, Si vW1, Si vW2, Si vS0, Si vS1, Si vS2, Si vL0, Si vL1, Si vL2, Si vX0, Si vX1, Si vX2, Sr b81, Sr b164, Si vF, Sl vG, S2, Su, Su, Su, Su, Su, Su, Su] [(.long vG), (.int (1 : Int32)), (.ref b422), (.ref b422)])) rfl rfl (hb hby at_234)
    have KC450 : Keep h0 h449 [] := KC445.wr W449 (Or.inr sz440)
    have V449 : Arv Z h449 b422 k422 .long (6 : Int32) [(.long vG), (.long vG), (.long (0 : Int64)), (.long (0 : Int64)), (.long (0 : Int64)), (.long (0 : Int64))] (.long (0 : Int64)) := Arv.set Arc447 Aqc447 Asc447 Anc447 Ahc447 Agc447 rfl W449 1 rfl (Nat.le_of_ble_eq_true rfl)
    have N451 := Fr.snoc X449 N446 ge439
    obtain ⟨c452, Arc452, Aqc452, Asc452, Anc452, Ahc452, Agc452⟩ := id V449
    have hin453 : ¬ ((2 : Int32) < 0 ∨ c452.slots.size ≤ ((2 : Int32)).toNatClampNeg) := inb_of Asc452 ⟨by decide, by decide⟩
    obtain ⟨T454, h454, X454, e454, W454, st454⟩ := stJ X449 hx hZ e449 Arc452 (j := (2 : Int32)) hin453 (g := (mkF m 239 #[Sl q1, S2, Sl q2, S2, Sl q3, S2, Sl q4, S2, Sl q5, S2, Si p6, Si vW0, Si vW1, Si vW2, Si vS0, Si vS1, Si vS2, Si vL0, Si vL1, Si vL2, Si vX0, Si vX1, Si vX2, Sr b81, Sr b164, Si vF, Sl vG, S2, Su, Su, Su, Su, Su, Su, Su] [(.long vG), (.int (2 : Int32)), (.ref b422), (.ref b422)])) rfl rfl (hb hby at_239)
    have KC455 : Keep h0 h454 [] := KC450.wr W454 (Or.inr sz440)
    have V454 : Arv Z h454 b422 k422 .long (6 : Int32) [(.long vG), (.long vG), (.long vG), (.long (0 : Int64)), (.long (0 : Int64)), (.long (0 : Int64))] (.long (0 : Int64)) := Arv.set Arc452 Aqc452 Asc452 Anc452 Ahc452 Agc452 rfl W454 2 rfl (Nat.le_of_ble_eq_true rfl)
    have N456 := Fr.snoc X454 N451 ge439
    obtain ⟨c457, Arc457, Aqc457, Asc457, Anc457, Ahc457, Agc457⟩ := id V454
    have hin458 : ¬ ((3 : Int32) < 0 ∨ c457.slots.size ≤ ((3 : Int32)).toNatClampNeg) := inb_of Asc457 ⟨by decide, by decide⟩
    obtain ⟨T459, h459, X459, e459, W459, st459⟩ := stJ X454 hx hZ e454 Arc457 (j := (3 : Int32)) hin458 (g := (mkF m 244 #[Sl q1, S2, Sl q2, S2, Sl q3, S2, Sl q4, S2, Sl q5, S2, Si p6, Si vW0, Si vW1, Si vW2, Si vS0, Si vS1, Si vS2, Si vL0, Si vL1, Si vL2, Si vX0, Si vX1, Si vX2, Sr b81, Sr b164, Si vF, Sl vG, S2, Su, Su, Su, Su, Su, Su, Su] [(.long vG), (.int (3 : Int32)), (.ref b422), (.ref b422)])) rfl rfl (hb hby at_244)
    have KC460 : Keep h0 h459 [] := KC455.wr W459 (Or.inr sz440)
    have V459 : Arv Z h459 b422 k422 .long (6 : Int32) [(.long vG), (.long vG), (.long vG), (.long vG), (.long (0 : Int64)), (.long (0 : Int64))] (.long (0 : Int64)) := Arv.set Arc457 Aqc457 Asc457 Anc457 Ahc457 Agc457 rfl W459 3 rfl (Nat.le_of_ble_eq_true rfl)
    have N461 := Fr.snoc X459 N456 ge439
    obtain ⟨c462, Arc462, Aqc462, Asc462, Anc462, Ahc462, Agc462⟩ := id V459
    have hin463 : ¬ ((4 : Int32) < 0 ∨ c462.slots.size ≤ ((4 : Int32)).toNatClampNeg) := inb_of Asc462 ⟨by decide, by decide⟩
    obtain ⟨T464, h464, X464, e464, W464, st464⟩ := stJ X459 hx hZ e459 Arc462 (j := (4 : Int32)) hin463 (g := (mkF m 249 #[Sl q1, S2, Sl q2, S2, Sl q3, S2, Sl q4, S2, Sl q5, S2, Si p6, Si vW0, Si vW1, Si vW2, Si vS0, Si vS1, Si vS2, Si vL0, Si vL1, Si vL2, Si vX0, Si vX1, Si vX2, Sr b81, Sr b164, Si vF, Sl vG, S2, Su, Su, Su, Su, Su, Su, Su] [(.long vG), (.int (4 : Int32)), (.ref b422), (.ref b422)])) rfl rfl (hb hby at_249)
    have KC465 : Keep h0 h464 [] := KC460.wr W464 (Or.inr sz440)
    have V464 : Arv Z h464 b422 k422 .long (6 : Int32) [(.long vG), (.long vG), (.long vG), (.long vG), (.long vG), (.long (0 : Int64))] (.long (0 : Int64)) := Arv.set Arc462 Aqc462 Asc462 Anc462 Ahc462 Agc462 rfl W464 4 rfl (Nat.le_of_ble_eq_true rfl)
    have N466 := Fr.snoc X464 N461 ge439
    obtain ⟨c467, Arc467, Aqc467, Asc467, Anc467, Ahc467, Agc467⟩ := id V464
    have hin468 : ¬ ((5 : Int32) < 0 ∨ c467.slots.size ≤ ((5 : Int32)).toNatClampNeg) := inb_of Asc467 ⟨by decide, by decide⟩
    obtain ⟨T469, h469, X469, e469, W469, st469⟩ := stJ X464 hx hZ e464 Arc467 (j := (5 : Int32)) hin468 (g := (mkF m 254 #[Sl q1, S2, Sl q2, S2, Sl q3, S2, Sl q4, S2, Sl q5, S2, Si p6, Si vW0, Si vW1, Si vW2, Si vS0, Si vS1, Si vS2, Si vL0, Si vL1, Si vL2, Si vX0, Si vX1, Si vX2, Sr b81, Sr b164, Si vF, Sl vG, S2, Su, Su, Su, Su, Su, Su, Su] [(.long vG), (.int (5 : Int32)), (.ref b422), (.ref b422)])) rfl rfl (hb hby at_254)
    have KC470 : Keep h0 h469 [] := KC465.wr W469 (Or.inr sz440)
    have V469 : Arv Z h469 b422 k422 .long (6 : Int32) [(.long vG), (.long vG), (.long vG), (.long vG), (.long vG), (.long vG)] (.long (0 : Int64)) := Arv.set Arc467 Aqc467 Asc467 Anc467 Ahc467 Agc467 rfl W469 5 rfl (Nat.le_of_ble_eq_true rfl)
    have N471 := Fr.snoc X469 N466 ge439
    obtain ⟨T472, h472, k472, X472, e472, E472, A472, st472⟩ := newP X469 hx hZ (ow hw 109 rfl) e469 (g := (mkF m 258 #[Sl q1, S2, Sl q2, S2, Sl q3, S2, Sl q4, S2, Sl q5, S2, Si p6, Si vW0, Si vW1, Si vW2, Si vS0, Si vS1, Si vS2, Si vL0, Si vL1, Si vL2, Si vX0, Si vX1, Si vX2, Sr b81, Sr b164, Si vF, Sl vG, S2, Sr b422, Su, Su, Su, Su, Su, Su] [(.int (3 : Int32))])) rfl (hb hby at_258) rfl (by decide) (cap := 3) (by decide) (by decide) (by decide) (by decide)
    obtain ⟨b472, g472⟩ : ∃ z, z = h469.size := ⟨_, rfl⟩
    rw [← g472] at A472 st472
    have F473 : Exa Z h469 b81 "java/util/ArrayList" := (((((((F423.ext E422).wr W444).wr W449).wr W454).wr W459).wr W464).wr W469)
    have ne474 : b81 ≠ b472 := Nat.ne_of_lt (Nat.lt_of_lt_of_le F473.lt (Nat.le_of_eq g472.symm))
    have F475 : Exa Z h469 b92 "com/example/darlington/darlington/core/IntegerRange" := (((((((F425.ext E422).wr W444).wr W449).wr W454).wr W459).wr W464).wr W469)
    have ne476 : b92 ≠ b472 := Nat.ne_of_lt (Nat.lt_of_lt_of_le F475.lt (Nat.le_of_eq g472.symm))
    have F477 : Arv Z h469 r_109 kr_109 (.object "java/lang/Object") (10 : Int32) [(.ref b92), (.ref b116), (.ref b139), .null, .null, .null, .null, .null, .null, .null] .null := (((((((F427.ext E422).other W444 ne428).other W449 ne428).other W454 ne428).other W459 ne428).other W464 ne428).other W469 ne428)
    have ne478 : r_109 ≠ b472 := Nat.ne_of_lt (Nat.lt_of_lt_of_le F477.lt (Nat.le_of_eq g472.symm))
    have F479 : Exa Z h469 b116 "com/example/darlington/darlington/core/IntegerRange" := (((((((F429.ext E422).wr W444).wr W449).wr W454).wr W459).wr W464).wr W469)
    have ne480 : b116 ≠ b472 := Nat.ne_of_lt (Nat.lt_of_lt_of_le F479.lt (Nat.le_of_eq g472.symm))
    have F481 : Exa Z h469 b139 "com/example/darlington/darlington/core/IntegerRange" := (((((((F431.ext E422).wr W444).wr W449).wr W454).wr W459).wr W464).wr W469)
    have ne482 : b139 ≠ b472 := Nat.ne_of_lt (Nat.lt_of_lt_of_le F481.lt (Nat.le_of_eq g472.symm))
    have F483 : Exa Z h469 b164 "com/example/darlington/darlington/core/StateLayout" := (((((((F433.ext E422).wr W444).wr W449).wr W454).wr W459).wr W464).wr W469)
    have ne484 : b164 ≠ b472 := Nat.ne_of_lt (Nat.lt_of_lt_of_le F483.lt (Nat.le_of_eq g472.symm))
    have F485 : Arv Z h469 r1_195 c1_195 .int (3 : Int32) [(.int (0 : Int32)), (.int (0 : Int32)), (.int (0 : Int32))] (.int (0 : Int32)) := (((((((q195_2.ext E422).other W444 ne435).other W449 ne435).other W454 ne435).other W459 ne435).other W464 ne435).other W469 ne435)
    have ne486 : r1_195 ≠ b472 := Nat.ne_of_lt (Nat.lt_of_lt_of_le F485.lt (Nat.le_of_eq g472.symm))
    have F487 : Arv Z h469 r2_195 c2_195 .int (3 : Int32) [(.int (1 : Int32)), (.int ((1 : Int32) + (own_bits vZ0))), (.int (((1 : Int32) + (own_bits vZ0)) + (own_bits vZ1)))] (.int (0 : Int32)) := (((((((q195_5.ext E422).other W444 ne436).other W449 ne436).other W454 ne436).other W459 ne436).other W464 ne436).other W469 ne436)
    have ne488 : r2_195 ≠ b472 := Nat.ne_of_lt (Nat.lt_of_lt_of_le F487.lt (Nat.le_of_eq g472.symm))
    have F489 : Arv Z h469 r3_195 c3_195 .long (3 : Int32) [(.long (own_msk vZ0)), (.long (own_msk vZ1)), (.long (own_msk vZ2))] (.long (0 : Int64)) := (((((((q195_8.ext E422).other W444 ne437).other W449 ne437).other W454 ne437).other W459 ne437).other W464 ne437).other W469 ne437)
    have ne490 : r3_195 ≠ b472 := Nat.ne_of_lt (Nat.lt_of_lt_of_le F489.lt (Nat.le_of_eq g472.symm))
    have F491 : Arv Z h469 r4_195 c4_195 .int (3 : Int32) [(.int (vL0 + (0 : Int32))), (.int (vL1 + (0 : Int32))), (.int (vL2 + (0 : Int32)))] (.int (0 : Int32)) := (((((((q195_11.ext E422).other W444 ne438).other W449 ne438).other W454 ne438).other W459 ne438).other W464 ne438).other W469 ne438)
    have ne492 : r4_195 ≠ b472 := Nat.ne_of_lt (Nat.lt_of_lt_of_le F491.lt (Nat.le_of_eq g472.symm))
    have ne493 : b422 ≠ b472 := Nat.ne_of_lt (Nat.lt_of_lt_of_le V469.lt (Nat.le_of_eq g472.symm))
    have ge494 : n0 ≤ b472 := Nat.le_trans (Nat.le_trans Z0 KC470.1) (Nat.le_of_eq g472.symm)
    have sz495 : h0.size ≤ b472 := Nat.le_trans KC470.1 (Nat.le_of_eq g472.symm)
    have KC496 : Keep h0 h472 [] := KC470.ext E472
    have V472 : Arv Z h472 b472 k472 .int (3 : Int32) [(.int (0 : Int32)), (.int (0 : Int32)), (.int (0 : Int32))] (.int (0 : Int32)) := (Arv.new A472 (by decide)).pad (pad_rep [] (.int (0 : Int32)) 3)
    obtain ⟨c497, Arc497, Aqc497, Asc497, Anc497, Ahc497, Agc497⟩ := id V472
    have hin498 : ¬ ((0 : Int32) < 0 ∨ c497.slots.size ≤ ((0 : Int32)).toNatClampNeg) := inb_of Asc497 ⟨by decide, by decide⟩
    obtain ⟨T499, h499, X499, e499, W499, st499⟩ := stI X472 hx hZ e472 Arc497 (j := (0 : Int32)) hin498 (g := (mkF m 264 #[Sl q1, S2, Sl q2, S2, Sl q3, S2, Sl q4, S2, Sl q5, S2, Si p6, Si vW0, Si vW1, Si vW2, Si vS0, Si vS1, Si vS2, Si vL0, Si vL1, Si vL2, Si vX0, Si vX1, Si vX2, Sr b81, Sr b164, Si vF, Sl vG, S2, Sr b422, Su, Su, Su, Su, Su, Su] [(.int vX0), (.int (0 : Int32)), (.ref b472), (.ref b472)])) rfl rfl (hb hby at_264)
    have KC500 : Keep h0 h499 [] := KC496.wr W499 (Or.inr sz495)
    have V499 : Arv Z h499 b472 k472 .int (3 : Int32) [(.int vX0), (.int (0 : Int32)), (.int (0 : Int32))] (.int (0 : Int32)) := Arv.set Arc497 Aqc497 Asc497 Anc497 Ahc497 Agc497 rfl W499 0 rfl (Nat.le_of_ble_eq_true rfl)
    have N501 := Fr.snoc X499 N471 ge494
    obtain ⟨c502, Arc502, Aqc502, Asc502, Anc502, Ahc502, Agc502⟩ := id V499
    have hin503 : ¬ ((1 : Int32) < 0 ∨ c502.slots.size ≤ ((1 : Int32)).toNatClampNeg) := inb_of Asc502 ⟨by decide, by decide⟩
    obtain ⟨T504, h504, X504, e504, W504, st504⟩ := stI X499 hx hZ e499 Arc502 (j := (1 : Int32)) hin503 (g := (mkF m 269 #[Sl q1, S2, Sl q2, S2, Sl q3, S2, Sl q4, S2, Sl q5, S2, Si p6, Si vW0, Si vW1, Si vW2, Si vS0, Si vS1, Si vS2, Si vL0, Si vL1, Si vL2, Si vX0, Si vX1, Si vX2, Sr b81, Sr b164, Si vF, Sl vG, S2, Sr b422, Su, Su, Su, Su, Su, Su] [(.int vX1), (.int (1 : Int32)), (.ref b472), (.ref b472)])) rfl rfl (hb hby at_269)
    have KC505 : Keep h0 h504 [] := KC500.wr W504 (Or.inr sz495)
    have V504 : Arv Z h504 b472 k472 .int (3 : Int32) [(.int vX0), (.int vX1), (.int (0 : Int32))] (.int (0 : Int32)) := Arv.set Arc502 Aqc502 Asc502 Anc502 Ahc502 Agc502 rfl W504 1 rfl (Nat.le_of_ble_eq_true rfl)
    have N506 := Fr.snoc X504 N501 ge494
    obtain ⟨c507, Arc507, Aqc507, Asc507, Anc507, Ahc507, Agc507⟩ := id V504
    have hin508 : ¬ ((2 : Int32) < 0 ∨ c507.slots.size ≤ ((2 : Int32)).toNatClampNeg) := inb_of Asc507 ⟨by decide, by decide⟩
    obtain ⟨T509, h509, X509, e509, W509, st509⟩ := stI X504 hx hZ e504 Arc507 (j := (2 : Int32)) hin508 (g := (mkF m 274 #[Sl q1, S2, Sl q2, S2, Sl q3, S2, Sl q4, S2, Sl q5, S2, Si p6, Si vW0, Si vW1, Si vW2, Si vS0, Si vS1, Si vS2, Si vL0, Si vL1, Si vL2, Si vX0, Si vX1, Si vX2, Sr b81, Sr b164, Si vF, Sl vG, S2, Sr b422, Su, Su, Su, Su, Su, Su] [(.int vX2), (.int (2 : Int32)), (.ref b472), (.ref b472)])) rfl rfl (hb hby at_274)
    have KC510 : Keep h0 h509 [] := KC505.wr W509 (Or.inr sz495)
    have V509 : Arv Z h509 b472 k472 .int (3 : Int32) [(.int vX0), (.int vX1), (.int vX2)] (.int (0 : Int32)) := Arv.set Arc507 Aqc507 Asc507 Anc507 Ahc507 Agc507 rfl W509 2 rfl (Nat.le_of_ble_eq_true rfl)
    have N511 := Fr.snoc X509 N506 ge494
    have F512 : Fld Z h509 b164 "com/example/darlington/darlington/core/StateLayout" "wordOf" "[I" (.ref r1_195) := (((((((((((q195_3.ext E422).other W444 (Or.inl ne434)).other W449 (Or.inl ne434)).other W454 (Or.inl ne434)).other W459 (Or.inl ne434)).other W464 (Or.inl ne434)).other W469 (Or.inl ne434)).ext E472).other W499 (Or.inl ne484)).other W504 (Or.inl ne484)).other W509 (Or.inl ne484))
    have F513 : Arv Z h509 r1_195 c1_195 .int (3 : Int32) [(.int (0 : Int32)), (.int (0 : Int32)), (.int (0 : Int32))] (.int (0 : Int32)) := ((((F485.ext E472).other W499 ne486).other W504 ne486).other W509 ne486)
    have F514 : Fld Z h509 b164 "com/example/darlington/darlington/core/StateLayout" "shiftOf" "[I" (.ref r2_195) := (((((((((((q195_6.ext E422).other W444 (Or.inl ne434)).other W449 (Or.inl ne434)).other W454 (Or.inl ne434)).other W459 (Or.inl ne434)).other W464 (Or.inl ne434)).other W469 (Or.inl ne434)).ext E472).other W499 (Or.inl ne484)).other W504 (Or.inl ne484)).other W509 (Or.inl ne484))
    have F515 : Arv Z h509 r2_195 c2_195 .int (3 : Int32) [(.int (1 : Int32)), (.int ((1 : Int32) + (own_bits vZ0))), (.int (((1 : Int32) + (own_bits vZ0)) + (own_bits vZ1)))] (.int (0 : Int32)) := ((((F487.ext E472).other W499 ne488).other W504 ne488).other W509 ne488)
    have F516 : Fld Z h509 b164 "com/example/darlington/darlington/core/StateLayout" "maskOf" "[J" (.ref r3_195) := (((((((((((q195_9.ext E422).other W444 (Or.inl ne434)).other W449 (Or.inl ne434)).other W454 (Or.inl ne434)).other W459 (Or.inl ne434)).other W464 (Or.inl ne434)).other W469 (Or.inl ne434)).ext E472).other W499 (Or.inl ne484)).other W504 (Or.inl ne484)).other W509 (Or.inl ne484))
    have F517 : Arv Z h509 r3_195 c3_195 .long (3 : Int32) [(.long (own_msk vZ0)), (.long (own_msk vZ1)), (.long (own_msk vZ2))] (.long (0 : Int64)) := ((((F489.ext E472).other W499 ne490).other W504 ne490).other W509 ne490)
    have F518 : Fld Z h509 b164 "com/example/darlington/darlington/core/StateLayout" "firstOf" "[I" (.ref r4_195) := (((((((((((q195_12.ext E422).other W444 (Or.inl ne434)).other W449 (Or.inl ne434)).other W454 (Or.inl ne434)).other W459 (Or.inl ne434)).other W464 (Or.inl ne434)).other W469 (Or.inl ne434)).ext E472).other W499 (Or.inl ne484)).other W504 (Or.inl ne484)).other W509 (Or.inl ne484))
    have F519 : Arv Z h509 r4_195 c4_195 .int (3 : Int32) [(.int (vL0 + (0 : Int32))), (.int (vL1 + (0 : Int32))), (.int (vL2 + (0 : Int32)))] (.int (0 : Int32)) := ((((F491.ext E472).other W499 ne492).other W504 ne492).other W509 ne492)
    have F520 : Fld Z h509 b164 "com/example/darlington/darlington/core/StateLayout" "wordsPerState" "I" (.int (1 : Int32)) := (((((((((((FW.ext E422).other W444 (Or.inl ne434)).other W449 (Or.inl ne434)).other W454 (Or.inl ne434)).other W459 (Or.inl ne434)).other W464 (Or.inl ne434)).other W469 (Or.inl ne434)).ext E472).other W499 (Or.inl ne484)).other W504 (Or.inl ne484)).other W509 (Or.inl ne484))
    have F521 : Arv Z h509 b422 k422 .long (6 : Int32) [(.long vG), (.long vG), (.long vG), (.long vG), (.long vG), (.long vG)] (.long (0 : Int64)) := ((((V469.ext E472).other W499 ne493).other W504 ne493).other W509 ne493)
    have F523 : Exa Z h509 b164 "com/example/darlington/darlington/core/StateLayout" := ((((F483.ext E472).wr W499).wr W504).wr W509)
    obtain ⟨cq522, kq522, q522a, q522b, q522c⟩ := isOf hZ e509 F523
    obtain ⟨_, _, ⟨T522, L522, k522, n522⟩, -, X522, ⟨Lc522, hQ522, l522, y522, z522⟩, st522⟩ := X509.virtualBack hx (y := (⟨"com/example/darlington/darlington/core/StateLayout", "pack", "([I[JI)V"⟩ : MethodName)) (z := (⟨"com/example/darlington/darlington/core/StateLayout", "pack", "([I[JI)V"⟩ : MethodName)) hown (mvT hZ (ow hw 160 rfl)) (mvT hZ (ow hw 161 rfl)) (notFace_of_selects (args := #[]) (mvT hZ (ow hw 163 rfl))) (mvT hZ (ow hw 163 rfl)) (mvT hZ (ow hw 162 rfl)) (by decide) (backOf (W := 0) (rm_packA l Z a0 hw [] b164 b472 b422 vF r1_195 r2_195 r3_195 r4_195 c1_195 c2_195 c3_195 c4_195 (1 : Int32) ((1 : Int32) + (own_bits vZ0)) (((1 : Int32) + (own_bits vZ0)) + (own_bits vZ1)) (own_msk vZ0) (own_msk vZ1) (own_msk vZ2) (vL0 + (0 : Int32)) (vL1 + (0 : Int32)) (vL2 + (0 : Int32)) k472 k422 vX0 vX1 vX2 [(.long vG), (.long vG), (.long vG), (.long vG), (.long vG), (.long vG)] vG vG h509 n0 (Nat.le_trans Z0 KC510.1) F512 F513 F514 F515 F516 F517 F518 F519 F520 V509 F521 ge439 ne434 (Ne.symm ne493) ne435 ne436 ne437 ne438 hF rfl (own_g6 vG hF).1 (own_g6 vG hF).2) hZ (ow hw 164 rfl) (ow hw 96 rfl) (by decide) (by decide)) q522a q522c (g := (mkF m 285 #[Sl q1, S2, Sl q2, S2, Sl q3, S2, Sl q4, S2, Sl q5, S2, Si p6, Si vW0, Si vW1, Si vW2, Si vS0, Si vS1, Si vS2, Si vL0, Si vL1, Si vL2, Si vX0, Si vX1, Si vX2, Sr b81, Sr b164, Si vF, Sl vG, S2, Sr b422, Sr b472, Su, Su, Su, Su, Su] [(.int vF), (.ref b422), (.ref b472), (.ref b164)])) rfl (by rw [hml]; rfl) (Steps.refl _) (argsL := [(.ref b472), (.ref b422), (.int vF)]) (rest := []) (lenOf pd_16 rfl) rfl (by show 2 * 0 + _ ≤ _; exact Nat.le_of_eq rfl) (hb hby at_285) (fun _ _ => ⟨rfl, e509, (by decide : 12 + 0 ≤ _), (by decide : 45 + 0 ≤ _)⟩)
    dsimp only [Pt.U, Pt.locs, Pt.cells, Pt.slots] at X522 l522 y522 z522 st522 hQ522
    subst y522 z522
    obtain ⟨vq_522, rfl, Nq522, q522_0, q522_1, q522_2, q522_3, q522_4⟩ := hQ522
    have N524 := Eq.subst (motive := fun L => Fr n0 L) l522.symm (Fr.app N511 Nq522)
    have KC525 : Keep h0 T522.heap [] := KC510.trans q522_0 (allS (Or.inr sz440) all0)
    obtain ⟨vA, hvA⟩ : ∃ z : Int64, z = (own_por (own_por (own_por (1 : Int64) (1 : Int32) (own_msk vZ0) (vL0 + (0 : Int32)) vX0) ((1 : Int32) + (own_bits vZ0)) (own_msk vZ1) (vL1 + (0 : Int32)) vX1) (((1 : Int32) + (own_bits vZ0)) + (own_bits vZ1)) (own_msk vZ2) (vL2 + (0 : Int32)) vX2) := ⟨_, rfl⟩
    rw [← hvA] at q522_3
    obtain ⟨c526, Arc526, Aqc526, Asc526, Anc526, Ahc526, Agc526⟩ := id q522_1
    have hin527 : ¬ (vF < 0 ∨ c526.slots.size ≤ (vF).toNatClampNeg) := inb_of Asc526 (own_inA hF)
    have hat528 : c526.slots[(vF).toNatClampNeg]? = some (.long vA) := Has.at Ahc526 hin527 q522_3
    have pre529 : ∀ t, Steps p.tables e below (T522.setTop (mkF m 301 #[Sl q1, S2, Sl q2, S2, Sl q3, S2, Sl q4, S2, Sl q5, S2, Si p6, Si vW0, Si vW1, Si vW2, Si vS0, Si vS1, Si vS2, Si vL0, Si vL1, Si vL2, Si vX0, Si vX1, Si vX2, Sr b81, Sr b164, Si vF, Sl vG, S2, Sr b422, Sr b472, Sl vA, S2, Su, Su, Su] [(.int (vF + (1 : Int32))), (.ref b422)])) t → Steps p.tables e below (s₁.setTop (entryFrame m #[(.long q1), (.long q2), (.long q3), (.long q4), (.long q5), (.int p6)] maxLocals)) t := by
      intro t k
      refine pre421 t ?_
      refine XS.bipush X195.here hx rfl (hb hby at_221) ?_
      refine st422 _ ?_
      refine XS.dup X422.here hx rfl (hb hby at_225) rfl rfl ?_
      refine XS.iconst X422.here hx rfl (hb hby at_226) ?_
      refine XS.lload X422.here hx rfl (hb hby at_227) rfl ?_
      refine st444 _ ?_
      refine XS.dup X444.here hx rfl (hb hby at_230) rfl rfl ?_
      show Steps _ _ _ (T444.setTop (mkF m 231 #[Sl q1, S2, Sl q2, S2, Sl q3, S2, Sl q4, S2, Sl q5, S2, Si p6, Si vW0, Si vW1, Si vW2, Si vS0, Si vS1, Si vS2, Si vL0, Si vL1, Si vL2, Si vX0, Si vX1, Si vX2, Sr b81, Sr b164, Si vF, Sl vG, S2, Su, Su, Su, Su, Su, Su, Su] [(.ref b422), (.ref b422)])) _
      refine XS.iconst X444.here hx rfl (hb hby at_231) ?_
      refine XS.lload X444.here hx rfl (hb hby at_232) rfl ?_
      refine st449 _ ?_
      refine XS.dup X449.here hx rfl (hb hby at_235) rfl rfl ?_
      refine XS.iconst X449.here hx rfl (hb hby at_236) ?_
      refine XS.lload X449.here hx rfl (hb hby at_237) rfl ?_
      refine st454 _ ?_
      refine XS.dup X454.here hx rfl (hb hby at_240) rfl rfl ?_
      show Steps _ _ _ (T454.setTop (mkF m 241 #[Sl q1, S2, Sl q2, S2, Sl q3, S2, Sl q4, S2, Sl q5, S2, Si p6, Si vW0, Si vW1, Si vW2, Si vS0, Si vS1, Si vS2, Si vL0, Si vL1, Si vL2, Si vX0, Si vX1, Si vX2, Sr b81, Sr b164, Si vF, Sl vG, S2, Su, Su, Su, Su, Su, Su, Su] [(.ref b422), (.ref b422)])) _
      refine XS.iconst X454.here hx rfl (hb hby at_241) ?_
      refine XS.lload X454.here hx rfl (hb hby at_242) rfl ?_
      refine st459 _ ?_
      refine XS.dup X459.here hx rfl (hb hby at_245) rfl rfl ?_
      refine XS.iconst X459.here hx rfl (hb hby at_246) ?_
      refine XS.lload X459.here hx rfl (hb hby at_247) rfl ?_
      refine st464 _ ?_
      refine XS.dup X464.here hx rfl (hb hby at_250) rfl rfl ?_
      show Steps _ _ _ (T464.setTop (mkF m 251 #[Sl q1, S2, Sl q2, S2, Sl q3, S2, Sl q4, S2, Sl q5, S2, Si p6, Si vW0, Si vW1, Si vW2, Si vS0, Si vS1, Si vS2, Si vL0, Si vL1, Si vL2, Si vX0, Si vX1, Si vX2, Sr b81, Sr b164, Si vF, Sl vG, S2, Su, Su, Su, Su, Su, Su, Su] [(.ref b422), (.ref b422)])) _
      refine XS.iconst X464.here hx rfl (hb hby at_251) ?_
      refine XS.lload X464.here hx rfl (hb hby at_252) rfl ?_
      refine st469 _ ?_
      refine XS.astore X469.here hx rfl (hb hby at_255) rfl rfl (l' := #[Sl q1, S2, Sl q2, S2, Sl q3, S2, Sl q4, S2, Sl q5, S2, Si p6, Si vW0, Si vW1, Si vW2, Si vS0, Si vS1, Si vS2, Si vL0, Si vL1, Si vL2, Si vX0, Si vX1, Si vX2, Sr b81, Sr b164, Si vF, Sl vG, S2, Sr b422, Su, Su, Su, Su, Su, Su]) rfl ?_
      refine XS.iconst X469.here hx rfl (hb hby at_257) ?_
      refine st472 _ ?_
      refine XS.dup X472.here hx rfl (hb hby at_260) rfl rfl ?_
      refine XS.iconst X472.here hx rfl (hb hby at_261) ?_
      show Steps _ _ _ (T472.setTop (mkF m 262 #[Sl q1, S2, Sl q2, S2, Sl q3, S2, Sl q4, S2, Sl q5, S2, Si p6, Si vW0, Si vW1, Si vW2, Si vS0, Si vS1, Si vS2, Si vL0, Si vL1, Si vL2, Si vX0, Si vX1, Si vX2, Sr b81, Sr b164, Si vF, Sl vG, S2, Sr b422, Su, Su, Su, Su, Su, Su] [(.int (0 : Int32)), (.ref b472), (.ref b472)])) _
      refine XS.iload X472.here hx rfl (hb hby at_262) rfl ?_
      refine st499 _ ?_
      refine XS.dup X499.here hx rfl (hb hby at_265) rfl rfl ?_
      refine XS.iconst X499.here hx rfl (hb hby at_266) ?_
      refine XS.iload X499.here hx rfl (hb hby at_267) rfl ?_
      refine st504 _ ?_
      refine XS.dup X504.here hx rfl (hb hby at_270) rfl rfl ?_
      refine XS.iconst X504.here hx rfl (hb hby at_271) ?_
      show Steps _ _ _ (T504.setTop (mkF m 272 #[Sl q1, S2, Sl q2, S2, Sl q3, S2, Sl q4, S2, Sl q5, S2, Si p6, Si vW0, Si vW1, Si vW2, Si vS0, Si vS1, Si vS2, Si vL0, Si vL1, Si vL2, Si vX0, Si vX1, Si vX2, Sr b81, Sr b164, Si vF, Sl vG, S2, Sr b422, Su, Su, Su, Su, Su, Su] [(.int (2 : Int32)), (.ref b472), (.ref b472)])) _
      refine XS.iload X504.here hx rfl (hb hby at_272) rfl ?_
      refine st509 _ ?_
      refine XS.astore X509.here hx rfl (hb hby at_275) rfl rfl (l' := #[Sl q1, S2, Sl q2, S2, Sl q3, S2, Sl q4, S2, Sl q5, S2, Si p6, Si vW0, Si vW1, Si vW2, Si vS0, Si vS1, Si vS2, Si vL0, Si vL1, Si vL2, Si vX0, Si vX1, Si vX2, Sr b81, Sr b164, Si vF, Sl vG, S2, Sr b422, Sr b472, Su, Su, Su, Su, Su]) rfl ?_
      refine XS.aload X509.here hx rfl (hb hby at_277) rfl rfl ?_
      refine XS.aload X509.here hx rfl (hb hby at_279) rfl rfl ?_
      refine XS.aload X509.here hx rfl (hb hby at_281) rfl rfl ?_
      refine XS.iload X509.here hx rfl (hb hby at_283) rfl ?_
      refine st522.trans ?_
      show Steps _ _ _ (T522.setTop (mkF m 288 #[Sl q1, S2, Sl q2, S2, Sl q3, S2, Sl q4, S2, Sl q5, S2, Si p6, Si vW0, Si vW1, Si vW2, Si vS0, Si vS1, Si vS2, Si vL0, Si vL1, Si vL2, Si vX0, Si vX1, Si vX2, Sr b81, Sr b164, Si vF, Sl vG, S2, Sr b422, Sr b472, Su, Su, Su, Su, Su] [])) _
      refine XS.aload X522.here hx rfl (hb hby at_288) rfl rfl ?_
      refine XS.iload X522.here hx rfl (hb hby at_290) rfl ?_
      refine X522.laload hx (j := vF) (v := (.long vA)) Arc526.1 (State.isArrayOf_alike hZ.alike Arc526.2.1) Arc526.2.2 hin527 hat528 (g := (mkF m 292 #[Sl q1, S2, Sl q2, S2, Sl q3, S2, Sl q4, S2, Sl q5, S2, Si p6, Si vW0, Si vW1, Si vW2, Si vS0, Si vS1, Si vS2, Si vL0, Si vL1, Si vL2, Si vX0, Si vX1, Si vX2, Sr b81, Sr b164, Si vF, Sl vG, S2, Sr b422, Sr b472, Su, Su, Su, Su, Su] [(.int vF), (.ref b422)])) rfl rfl (hb hby at_292) _ ?_
      refine XS.lstore X522.here hx rfl (hb hby at_293) rfl (l' := #[Sl q1, S2, Sl q2, S2, Sl q3, S2, Sl q4, S2, Sl q5, S2, Si p6, Si vW0, Si vW1, Si vW2, Si vS0, Si vS1, Si vS2, Si vL0, Si vL1, Si vL2, Si vX0, Si vX1, Si vX2, Sr b81, Sr b164, Si vF, Sl vG, S2, Sr b422, Sr b472, Sl vA, S2, Su, Su, Su]) rfl ?_
      refine XS.aload X522.here hx rfl (hb hby at_295) rfl rfl ?_
      refine XS.iload X522.here hx rfl (hb hby at_297) rfl ?_
      refine XS.iconst X522.here hx rfl (hb hby at_299) ?_
      refine XS.iadd X522.here hx rfl (hb hby at_300) rfl ?_
      show Steps _ _ _ (T522.setTop (mkF m 301 #[Sl q1, S2, Sl q2, S2, Sl q3, S2, Sl q4, S2, Sl q5, S2, Si p6, Si vW0, Si vW1, Si vW2, Si vS0, Si vS1, Si vS2, Si vL0, Si vL1, Si vL2, Si vX0, Si vX1, Si vX2, Sr b81, Sr b164, Si vF, Sl vG, S2, Sr b422, Sr b472, Sl vA, S2, Su, Su, Su] [(.int (vF + (1 : Int32))), (.ref b422)])) _
      exact k
    obtain ⟨c530, Arc530, Aqc530, Asc530, Anc530, Ahc530, Agc530⟩ := id q522_1
    have hin531 : ¬ ((vF + (1 : Int32)) < 0 ∨ c530.slots.size ≤ ((vF + (1 : Int32))).toNatClampNeg) := inb_of Asc530 (own_inB hF)
    have hat532 : c530.slots[((vF + (1 : Int32))).toNatClampNeg]? = some (.long vG) := Has.at Ahc530 hin531 q522_4
    obtain ⟨T533, h533, k533, X533, e533, E533, A533, st533⟩ := newP X522 hx hZ (ow hw 109 rfl) rfl (g := (mkF m 305 #[Sl q1, S2, Sl q2, S2, Sl q3, S2, Sl q4, S2, Sl q5, S2, Si p6, Si vW0, Si vW1, Si vW2, Si vS0, Si vS1, Si vS2, Si vL0, Si vL1, Si vL2, Si vX0, Si vX1, Si vX2, Sr b81, Sr b164, Si vF, Sl vG, S2, Sr b422, Sr b472, Sl vA, S2, Sl vG, S2, Su] [(.int (3 : Int32))])) rfl (hb hby at_305) rfl (by decide) (cap := 3) (by decide) (by decide) (by decide) (by decide)
    obtain ⟨b533, g533⟩ : ∃ z, z = T522.heap.size := ⟨_, rfl⟩
    rw [← g533] at A533 st533
    have F534 : Exa Z T522.heap b81 "java/util/ArrayList" := (((((F473.ext E472).wr W499).wr W504).wr W509).keep q522_0)
    have ne535 : b81 ≠ b533 := Nat.ne_of_lt (Nat.lt_of_lt_of_le F534.lt (Nat.le_of_eq g533.symm))
    have F536 : Exa Z T522.heap b92 "com/example/darlington/darlington/core/IntegerRange" := (((((F475.ext E472).wr W499).wr W504).wr W509).keep q522_0)
    have ne537 : b92 ≠ b533 := Nat.ne_of_lt (Nat.lt_of_lt_of_le F536.lt (Nat.le_of_eq g533.symm))
    have F538 : Arv Z T522.heap r_109 kr_109 (.object "java/lang/Object") (10 : Int32) [(.ref b92), (.ref b116), (.ref b139), .null, .null, .null, .null, .null, .null, .null] .null := (((((F477.ext E472).other W499 ne478).other W504 ne478).other W509 ne478).keep q522_0 (ninS ne428 nin0))
    have ne539 : r_109 ≠ b533 := Nat.ne_of_lt (Nat.lt_of_lt_of_le F538.lt (Nat.le_of_eq g533.symm))
    have F540 : Exa Z T522.heap b116 "com/example/darlington/darlington/core/IntegerRange" := (((((F479.ext E472).wr W499).wr W504).wr W509).keep q522_0)
    have ne541 : b116 ≠ b533 := Nat.ne_of_lt (Nat.lt_of_lt_of_le F540.lt (Nat.le_of_eq g533.symm))
    have F542 : Exa Z T522.heap b139 "com/example/darlington/darlington/core/IntegerRange" := (((((F481.ext E472).wr W499).wr W504).wr W509).keep q522_0)
    have ne543 : b139 ≠ b533 := Nat.ne_of_lt (Nat.lt_of_lt_of_le F542.lt (Nat.le_of_eq g533.symm))
    have F544 : Exa Z T522.heap b164 "com/example/darlington/darlington/core/StateLayout" := (F523.keep q522_0)
    have ne545 : b164 ≠ b533 := Nat.ne_of_lt (Nat.lt_of_lt_of_le F544.lt (Nat.le_of_eq g533.symm))
    have F546 : Arv Z T522.heap r1_195 c1_195 .int (3 : Int32) [(.int (0 : Int32)), (.int (0 : Int32)), (.int (0 : Int32))] (.int (0 : Int32)) := (F513.keep q522_0 (ninS ne435 nin0))
    have ne547 : r1_195 ≠ b533 := Nat.ne_of_lt (Nat.lt_of_lt_of_le F546.lt (Nat.le_of_eq g533.symm))
    have F548 : Arv Z T522.heap r2_195 c2_195 .int (3 : Int32) [(.int (1 : Int32)), (.int ((1 : Int32) + (own_bits vZ0))), (.int (((1 : Int32) + (own_bits vZ0)) + (own_bits vZ1)))] (.int (0 : Int32)) := (F515.keep q522_0 (ninS ne436 nin0))
    have ne549 : r2_195 ≠ b533 := Nat.ne_of_lt (Nat.lt_of_lt_of_le F548.lt (Nat.le_of_eq g533.symm))
    have F550 : Arv Z T522.heap r3_195 c3_195 .long (3 : Int32) [(.long (own_msk vZ0)), (.long (own_msk vZ1)), (.long (own_msk vZ2))] (.long (0 : Int64)) := (F517.keep q522_0 (ninS ne437 nin0))
    have ne551 : r3_195 ≠ b533 := Nat.ne_of_lt (Nat.lt_of_lt_of_le F550.lt (Nat.le_of_eq g533.symm))
    have F552 : Arv Z T522.heap r4_195 c4_195 .int (3 : Int32) [(.int (vL0 + (0 : Int32))), (.int (vL1 + (0 : Int32))), (.int (vL2 + (0 : Int32)))] (.int (0 : Int32)) := (F519.keep q522_0 (ninS ne438 nin0))
    have ne553 : r4_195 ≠ b533 := Nat.ne_of_lt (Nat.lt_of_lt_of_le F552.lt (Nat.le_of_eq g533.symm))
    have ne554 : b422 ≠ b533 := Nat.ne_of_lt (Nat.lt_of_lt_of_le q522_1.lt (Nat.le_of_eq g533.symm))
    have F555 : Arv Z T522.heap b472 k472 .int (3 : Int32) [(.int vX0), (.int vX1), (.int vX2)] (.int (0 : Int32)) := (V509.keep q522_0 (ninS (Ne.symm ne493) nin0))
    have ne556 : b472 ≠ b533 := Nat.ne_of_lt (Nat.lt_of_lt_of_le F555.lt (Nat.le_of_eq g533.symm))
    have ge557 : n0 ≤ b533 := Nat.le_trans (Nat.le_trans Z0 KC525.1) (Nat.le_of_eq g533.symm)
    have sz558 : h0.size ≤ b533 := Nat.le_trans KC525.1 (Nat.le_of_eq g533.symm)
    have KC559 : Keep h0 h533 [] := KC525.ext E533
    have V533 : Arv Z h533 b533 k533 .int (3 : Int32) [(.int (0 : Int32)), (.int (0 : Int32)), (.int (0 : Int32))] (.int (0 : Int32)) := (Arv.new A533 (by decide)).pad (pad_rep [] (.int (0 : Int32)) 3)
    obtain ⟨c560, Arc560, Aqc560, Asc560, Anc560, Ahc560, Agc560⟩ := id V533
    have hin561 : ¬ ((0 : Int32) < 0 ∨ c560.slots.size ≤ ((0 : Int32)).toNatClampNeg) := inb_of Asc560 ⟨by decide, by decide⟩
    obtain ⟨T562, h562, X562, e562, W562, st562⟩ := stI X533 hx hZ e533 Arc560 (j := (0 : Int32)) hin561 (g := (mkF m 312 #[Sl q1, S2, Sl q2, S2, Sl q3, S2, Sl q4, S2, Sl q5, S2, Si p6, Si vW0, Si vW1, Si vW2, Si vS0, Si vS1, Si vS2, Si vL0, Si vL1, Si vL2, Si vX0, Si vX1, Si vX2, Sr b81, Sr b164, Si vF, Sl vG, S2, Sr b422, Sr b472, Sl vA, S2, Sl vG, S2, Su] [(.int (vG.toInt32)), (.int (0 : Int32)), (.ref b533), (.ref b533)])) rfl rfl (hb hby at_312)
    have KC563 : Keep h0 h562 [] := KC559.wr W562 (Or.inr sz558)
    have V562 : Arv Z h562 b533 k533 .int (3 : Int32) [(.int (vG.toInt32)), (.int (0 : Int32)), (.int (0 : Int32))] (.int (0 : Int32)) := Arv.set Arc560 Aqc560 Asc560 Anc560 Ahc560 Agc560 rfl W562 0 rfl (Nat.le_of_ble_eq_true rfl)
    have N564 := Fr.snoc X562 N524 ge557
    obtain ⟨c565, Arc565, Aqc565, Asc565, Anc565, Ahc565, Agc565⟩ := id V562
    have hin566 : ¬ ((1 : Int32) < 0 ∨ c565.slots.size ≤ ((1 : Int32)).toNatClampNeg) := inb_of Asc565 ⟨by decide, by decide⟩
    obtain ⟨T567, h567, X567, e567, W567, st567⟩ := stI X562 hx hZ e562 Arc565 (j := (1 : Int32)) hin566 (g := (mkF m 320 #[Sl q1, S2, Sl q2, S2, Sl q3, S2, Sl q4, S2, Sl q5, S2, Si p6, Si vW0, Si vW1, Si vW2, Si vS0, Si vS1, Si vS2, Si vL0, Si vL1, Si vL2, Si vX0, Si vX1, Si vX2, Sr b81, Sr b164, Si vF, Sl vG, S2, Sr b422, Sr b472, Sl vA, S2, Sl vG, S2, Su] [(.int ((vG.toInt32) ^^^ (-1 : Int32))), (.int (1 : Int32)), (.ref b533), (.ref b533)])) rfl rfl (hb hby at_320)
    have KC568 : Keep h0 h567 [] := KC563.wr W567 (Or.inr sz558)
    have V567 : Arv Z h567 b533 k533 .int (3 : Int32) [(.int (vG.toInt32)), (.int ((vG.toInt32) ^^^ (-1 : Int32))), (.int (0 : Int32))] (.int (0 : Int32)) := Arv.set Arc565 Aqc565 Asc565 Anc565 Ahc565 Agc565 rfl W567 1 rfl (Nat.le_of_ble_eq_true rfl)
    have N569 := Fr.snoc X567 N564 ge557
    obtain ⟨c570, Arc570, Aqc570, Asc570, Anc570, Ahc570, Agc570⟩ := id V567
    have hin571 : ¬ ((2 : Int32) < 0 ∨ c570.slots.size ≤ ((2 : Int32)).toNatClampNeg) := inb_of Asc570 ⟨by decide, by decide⟩
    obtain ⟨T572, h572, X572, e572, W572, st572⟩ := stI X567 hx hZ e567 Arc570 (j := (2 : Int32)) hin571 (g := (mkF m 329 #[Sl q1, S2, Sl q2, S2, Sl q3, S2, Sl q4, S2, Sl q5, S2, Si p6, Si vW0, Si vW1, Si vW2, Si vS0, Si vS1, Si vS2, Si vL0, Si vL1, Si vL2, Si vX0, Si vX1, Si vX2, Sr b81, Sr b164, Si vF, Sl vG, S2, Sr b422, Sr b472, Sl vA, S2, Sl vG, S2, Su] [(.int (((vG.toUInt64 >>> ((32 : Int32) &&& 0x3f).toInt64.toUInt64).toInt64).toInt32)), (.int (2 : Int32)), (.ref b533), (.ref b533)])) rfl rfl (hb hby at_329)
    have KC573 : Keep h0 h572 [] := KC568.wr W572 (Or.inr sz558)
    have V572 : Arv Z h572 b533 k533 .int (3 : Int32) [(.int (vG.toInt32)), (.int ((vG.toInt32) ^^^ (-1 : Int32))), (.int (((vG.toUInt64 >>> ((32 : Int32) &&& 0x3f).toInt64.toUInt64).toInt64).toInt32))] (.int (0 : Int32)) := Arv.set Arc570 Aqc570 Asc570 Anc570 Ahc570 Agc570 rfl W572 2 rfl (Nat.le_of_ble_eq_true rfl)
    have N574 := Fr.snoc X572 N569 ge557
    have F575 : Fld Z h572 b164 "com/example/darlington/darlington/core/StateLayout" "wordOf" "[I" (.ref r1_195) := (((((F512.keep q522_0 (ninS ne434 nin0)).ext E533).other W562 (Or.inl ne545)).other W567 (Or.inl ne545)).other W572 (Or.inl ne545))
    have F576 : Arv Z h572 r1_195 c1_195 .int (3 : Int32) [(.int (0 : Int32)), (.int (0 : Int32)), (.int (0 : Int32))] (.int (0 : Int32)) := ((((F546.ext E533).other W562 ne547).other W567 ne547).other W572 ne547)
    have F577 : Fld Z h572 b164 "com/example/darlington/darlington/core/StateLayout" "shiftOf" "[I" (.ref r2_195) := (((((F514.keep q522_0 (ninS ne434 nin0)).ext E533).other W562 (Or.inl ne545)).other W567 (Or.inl ne545)).other W572 (Or.inl ne545))
    have F578 : Arv Z h572 r2_195 c2_195 .int (3 : Int32) [(.int (1 : Int32)), (.int ((1 : Int32) + (own_bits vZ0))), (.int (((1 : Int32) + (own_bits vZ0)) + (own_bits vZ1)))] (.int (0 : Int32)) := ((((F548.ext E533).other W562 ne549).other W567 ne549).other W572 ne549)
    have F579 : Fld Z h572 b164 "com/example/darlington/darlington/core/StateLayout" "maskOf" "[J" (.ref r3_195) := (((((F516.keep q522_0 (ninS ne434 nin0)).ext E533).other W562 (Or.inl ne545)).other W567 (Or.inl ne545)).other W572 (Or.inl ne545))
    have F580 : Arv Z h572 r3_195 c3_195 .long (3 : Int32) [(.long (own_msk vZ0)), (.long (own_msk vZ1)), (.long (own_msk vZ2))] (.long (0 : Int64)) := ((((F550.ext E533).other W562 ne551).other W567 ne551).other W572 ne551)
    have F581 : Fld Z h572 b164 "com/example/darlington/darlington/core/StateLayout" "firstOf" "[I" (.ref r4_195) := (((((F518.keep q522_0 (ninS ne434 nin0)).ext E533).other W562 (Or.inl ne545)).other W567 (Or.inl ne545)).other W572 (Or.inl ne545))
    have F582 : Arv Z h572 r4_195 c4_195 .int (3 : Int32) [(.int (vL0 + (0 : Int32))), (.int (vL1 + (0 : Int32))), (.int (vL2 + (0 : Int32)))] (.int (0 : Int32)) := ((((F552.ext E533).other W562 ne553).other W567 ne553).other W572 ne553)
    have F583 : Arv Z h572 b422 k422 .long (6 : Int32) vq_522 (.long (0 : Int64)) := ((((q522_1.ext E533).other W562 ne554).other W567 ne554).other W572 ne554)
    have F585 : Exa Z h572 b164 "com/example/darlington/darlington/core/StateLayout" := ((((F544.ext E533).wr W562).wr W567).wr W572)
    obtain ⟨cq584, kq584, q584a, q584b, q584c⟩ := isOf hZ e572 F585
    obtain ⟨_, _, ⟨T584, L584, k584, n584⟩, -, X584, ⟨Lc584, hQ584, l584, y584, z584⟩, st584⟩ := X572.virtualBack hx (y := (⟨"com/example/darlington/darlington/core/StateLayout", "unpack", "([JI[I)V"⟩ : MethodName)) (z := (⟨"com/example/darlington/darlington/core/StateLayout", "unpack", "([JI[I)V"⟩ : MethodName)) hown (mvT hZ (ow hw 172 rfl)) (mvT hZ (ow hw 173 rfl)) (notFace_of_selects (args := #[]) (mvT hZ (ow hw 175 rfl))) (mvT hZ (ow hw 175 rfl)) (mvT hZ (ow hw 174 rfl)) (by decide) (backOf (W := 0) (rm_unpA l Z a0 hw [] b164 b422 vF b533 r1_195 r2_195 r3_195 r4_195 c1_195 c2_195 c3_195 c4_195 (1 : Int32) ((1 : Int32) + (own_bits vZ0)) (((1 : Int32) + (own_bits vZ0)) + (own_bits vZ1)) (own_msk vZ0) (own_msk vZ1) (own_msk vZ2) (vL0 + (0 : Int32)) (vL1 + (0 : Int32)) (vL2 + (0 : Int32)) k422 k533 vq_522 vA vG (vG.toInt32) ((vG.toInt32) ^^^ (-1 : Int32)) (((vG.toUInt64 >>> ((32 : Int32) &&& 0x3f).toInt64.toUInt64).toInt64).toInt32) h572 n0 (Nat.le_trans Z0 KC573.1) F575 F576 F577 F578 F579 F580 F581 F582 F583 V572 ge557 ne545 ne554 ne547 ne549 ne551 ne553 hF q522_3 q522_4) hZ (ow hw 176 rfl) (ow hw 96 rfl) (by decide) (by decide)) q584a q584c (g := (mkF m 340 #[Sl q1, S2, Sl q2, S2, Sl q3, S2, Sl q4, S2, Sl q5, S2, Si p6, Si vW0, Si vW1, Si vW2, Si vS0, Si vS1, Si vS2, Si vL0, Si vL1, Si vL2, Si vX0, Si vX1, Si vX2, Sr b81, Sr b164, Si vF, Sl vG, S2, Sr b422, Sr b472, Sl vA, S2, Sl vG, S2, Sr b533] [(.ref b533), (.int vF), (.ref b422), (.ref b164)])) rfl (by rw [hml]; rfl) (Steps.refl _) (argsL := [(.ref b422), (.int vF), (.ref b533)]) (rest := []) (lenOf pd_17 rfl) rfl (by show 2 * 0 + _ ≤ _; exact Nat.le_of_eq rfl) (hb hby at_340) (fun _ _ => ⟨rfl, e572, (by decide : 13 + 0 ≤ _), (by decide : 48 + 0 ≤ _)⟩)
    dsimp only [Pt.U, Pt.locs, Pt.cells, Pt.slots] at X584 l584 y584 z584 st584 hQ584
    subst y584 z584
    obtain ⟨rfl, Nq584, q584_0, q584_1⟩ := hQ584
    have N586 := Eq.subst (motive := fun L => Fr n0 L) l584.symm (Fr.app N574 Nq584)
    have KC587 : Keep h0 T584.heap [] := KC573.trans q584_0 (allS (Or.inr sz558) all0)
    obtain ⟨c588, Arc588, Aqc588, Asc588, Anc588, Ahc588, Agc588⟩ := id q584_1
    have hin589 : ¬ ((0 : Int32) < 0 ∨ c588.slots.size ≤ ((0 : Int32)).toNatClampNeg) := inb_of Asc588 ⟨by decide, by decide⟩
    have hat590 : c588.slots[((0 : Int32)).toNatClampNeg]? = some (.int ((vL0 + (0 : Int32)) + ((own_fld vA (1 : Int32) (own_msk vZ0)).toInt32))) := Has.at Ahc588 hin589 rfl
    have hc591 : ((vL0 + (0 : Int32)) + ((own_fld vA (1 : Int32) (own_msk vZ0)).toInt32)) = vX0 := by rw [hvA]; exact own_y337 ((own_fpoG G2 G0 (Or.inl (Nat.le_add_right _ _))).trans ((own_fpoG G1 G0 (Or.inl (Nat.le_refl _))).trans (own_fpG G0 (own_f1G G0 (Nat.le_refl _))))) G0.2.2.2 B0 hx0.1 hy0
    obtain ⟨c592, Arc592, Aqc592, Asc592, Anc592, Ahc592, Agc592⟩ := id q584_1
    have hin593 : ¬ ((1 : Int32) < 0 ∨ c592.slots.size ≤ ((1 : Int32)).toNatClampNeg) := inb_of Asc592 ⟨by decide, by decide⟩
    have hat594 : c592.slots[((1 : Int32)).toNatClampNeg]? = some (.int ((vL1 + (0 : Int32)) + ((own_fld vA ((1 : Int32) + (own_bits vZ0)) (own_msk vZ1)).toInt32))) := Has.at Ahc592 hin593 rfl
    have hc595 : ((vL1 + (0 : Int32)) + ((own_fld vA ((1 : Int32) + (own_bits vZ0)) (own_msk vZ1)).toInt32)) = vX1 := by rw [hvA]; exact own_y337 ((own_fpoG G2 G1 (Or.inl (Nat.le_refl _))).trans (own_fpG G1 ((own_fpoG G0 G1 (Or.inr (Nat.le_refl _))).trans (own_f1G G1 (own_1a _))))) G1.2.2.2 B1 hx1.1 hy1
    obtain ⟨c596, Arc596, Aqc596, Asc596, Anc596, Ahc596, Agc596⟩ := id q584_1
    have hin597 : ¬ ((2 : Int32) < 0 ∨ c596.slots.size ≤ ((2 : Int32)).toNatClampNeg) := inb_of Asc596 ⟨by decide, by decide⟩
    have hat598 : c596.slots[((2 : Int32)).toNatClampNeg]? = some (.int ((vL2 + (0 : Int32)) + ((own_fld vA (((1 : Int32) + (own_bits vZ0)) + (own_bits vZ1)) (own_msk vZ2)).toInt32))) := Has.at Ahc596 hin597 rfl
    have hc599 : ((vL2 + (0 : Int32)) + ((own_fld vA (((1 : Int32) + (own_bits vZ0)) + (own_bits vZ1)) (own_msk vZ2)).toInt32)) = vX2 := by rw [hvA]; exact own_y337 (own_fpG G2 ((own_fpoG G1 G2 (Or.inr (Nat.le_refl _))).trans ((own_fpoG G0 G2 (Or.inr (Nat.le_add_right _ _))).trans (own_f1G G2 (own_1b _ _))))) G2.2.2.2 B2 hx2.1 hy2
    have F600 : Arv Z T584.heap b422 k422 .long (6 : Int32) vq_522 (.long (0 : Int64)) := (F583.keep q584_0 (ninS ne554 nin0))
    obtain ⟨c601, Arc601, Aqc601, Asc601, Anc601, Ahc601, Agc601⟩ := id F600
    have hin602 : ¬ (vF < 0 ∨ c601.slots.size ≤ (vF).toNatClampNeg) := inb_of Asc601 (own_inA hF)
    have hat603 : c601.slots[(vF).toNatClampNeg]? = some (.long vA) := Has.at Ahc601 hin602 q522_3
    obtain ⟨c604, Arc604, Aqc604, Asc604, Anc604, Ahc604, Agc604⟩ := id F600
    have hin605 : ¬ ((vF + (1 : Int32)) < 0 ∨ c604.slots.size ≤ ((vF + (1 : Int32))).toNatClampNeg) := inb_of Asc604 (own_inB hF)
    have hat606 : c604.slots[((vF + (1 : Int32))).toNatClampNeg]? = some (.long vG) := Has.at Ahc604 hin605 q522_4
    have pre607 : ∀ t, Steps p.tables e below (T584.setTop (mkF m 388 #[Sl q1, S2, Sl q2, S2, Sl q3, S2, Sl q4, S2, Sl q5, S2, Si p6, Si vW0, Si vW1, Si vW2, Si vS0, Si vS1, Si vS2, Si vL0, Si vL1, Si vL2, Si vX0, Si vX1, Si vX2, Sr b81, Sr b164, Si vF, Sl vG, S2, Sr b422, Sr b472, Sl vA, S2, Sl vG, S2, Sr b533] [(.long vG)])) t → Steps p.tables e below (s₁.setTop (entryFrame m #[(.long q1), (.long q2), (.long q3), (.long q4), (.long q5), (.int p6)] maxLocals)) t := by
      intro t k
      refine pre529 t ?_
      refine X522.laload hx (j := (vF + (1 : Int32))) (v := (.long vG)) Arc530.1 (State.isArrayOf_alike hZ.alike Arc530.2.1) Arc530.2.2 hin531 hat532 (g := (mkF m 301 #[Sl q1, S2, Sl q2, S2, Sl q3, S2, Sl q4, S2, Sl q5, S2, Si p6, Si vW0, Si vW1, Si vW2, Si vS0, Si vS1, Si vS2, Si vL0, Si vL1, Si vL2, Si vX0, Si vX1, Si vX2, Sr b81, Sr b164, Si vF, Sl vG, S2, Sr b422, Sr b472, Sl vA, S2, Su, Su, Su] [(.int (vF + (1 : Int32))), (.ref b422)])) rfl rfl (hb hby at_301) _ ?_
      refine XS.lstore X522.here hx rfl (hb hby at_302) rfl (l' := #[Sl q1, S2, Sl q2, S2, Sl q3, S2, Sl q4, S2, Sl q5, S2, Si p6, Si vW0, Si vW1, Si vW2, Si vS0, Si vS1, Si vS2, Si vL0, Si vL1, Si vL2, Si vX0, Si vX1, Si vX2, Sr b81, Sr b164, Si vF, Sl vG, S2, Sr b422, Sr b472, Sl vA, S2, Sl vG, S2, Su]) rfl ?_
      refine XS.iconst X522.here hx rfl (hb hby at_304) ?_
      refine st533 _ ?_
      refine XS.dup X533.here hx rfl (hb hby at_307) rfl rfl ?_
      refine XS.iconst X533.here hx rfl (hb hby at_308) ?_
      refine XS.lload X533.here hx rfl (hb hby at_309) rfl ?_
      refine XS.l2i X533.here hx rfl (hb hby at_311) rfl ?_
      show Steps _ _ _ (T533.setTop (mkF m 312 #[Sl q1, S2, Sl q2, S2, Sl q3, S2, Sl q4, S2, Sl q5, S2, Si p6, Si vW0, Si vW1, Si vW2, Si vS0, Si vS1, Si vS2, Si vL0, Si vL1, Si vL2, Si vX0, Si vX1, Si vX2, Sr b81, Sr b164, Si vF, Sl vG, S2, Sr b422, Sr b472, Sl vA, S2, Sl vG, S2, Su] [(.int (vG.toInt32)), (.int (0 : Int32)), (.ref b533), (.ref b533)])) _
      refine st562 _ ?_
      refine XS.dup X562.here hx rfl (hb hby at_313) rfl rfl ?_
      refine XS.iconst X562.here hx rfl (hb hby at_314) ?_
      refine XS.lload X562.here hx rfl (hb hby at_315) rfl ?_
      refine XS.l2i X562.here hx rfl (hb hby at_317) rfl ?_
      refine XS.iconst X562.here hx rfl (hb hby at_318) ?_
      refine XS.ixor X562.here hx rfl (hb hby at_319) rfl ?_
      refine st567 _ ?_
      show Steps _ _ _ (T567.setTop (mkF m 321 #[Sl q1, S2, Sl q2, S2, Sl q3, S2, Sl q4, S2, Sl q5, S2, Si p6, Si vW0, Si vW1, Si vW2, Si vS0, Si vS1, Si vS2, Si vL0, Si vL1, Si vL2, Si vX0, Si vX1, Si vX2, Sr b81, Sr b164, Si vF, Sl vG, S2, Sr b422, Sr b472, Sl vA, S2, Sl vG, S2, Su] [(.ref b533)])) _
      refine XS.dup X567.here hx rfl (hb hby at_321) rfl rfl ?_
      refine XS.iconst X567.here hx rfl (hb hby at_322) ?_
      refine XS.lload X567.here hx rfl (hb hby at_323) rfl ?_
      refine XS.bipush X567.here hx rfl (hb hby at_325) ?_
      refine XS.lushr X567.here hx rfl (hb hby at_327) rfl ?_
      refine XS.l2i X567.here hx rfl (hb hby at_328) rfl ?_
      refine st572 _ ?_
      refine XS.astore X572.here hx rfl (hb hby at_330) rfl rfl (l' := #[Sl q1, S2, Sl q2, S2, Sl q3, S2, Sl q4, S2, Sl q5, S2, Si p6, Si vW0, Si vW1, Si vW2, Si vS0, Si vS1, Si vS2, Si vL0, Si vL1, Si vL2, Si vX0, Si vX1, Si vX2, Sr b81, Sr b164, Si vF, Sl vG, S2, Sr b422, Sr b472, Sl vA, S2, Sl vG, S2, Sr b533]) rfl ?_
      show Steps _ _ _ (T572.setTop (mkF m 332 #[Sl q1, S2, Sl q2, S2, Sl q3, S2, Sl q4, S2, Sl q5, S2, Si p6, Si vW0, Si vW1, Si vW2, Si vS0, Si vS1, Si vS2, Si vL0, Si vL1, Si vL2, Si vX0, Si vX1, Si vX2, Sr b81, Sr b164, Si vF, Sl vG, S2, Sr b422, Sr b472, Sl vA, S2, Sl vG, S2, Sr b533] [])) _
      refine XS.aload X572.here hx rfl (hb hby at_332) rfl rfl ?_
      refine XS.aload X572.here hx rfl (hb hby at_334) rfl rfl ?_
      refine XS.iload X572.here hx rfl (hb hby at_336) rfl ?_
      refine XS.aload X572.here hx rfl (hb hby at_338) rfl rfl ?_
      refine st584.trans ?_
      refine XS.aload X584.here hx rfl (hb hby at_343) rfl rfl ?_
      refine XS.iconst X584.here hx rfl (hb hby at_345) ?_
      refine X584.iaload hx (j := (0 : Int32)) (v := (.int ((vL0 + (0 : Int32)) + ((own_fld vA (1 : Int32) (own_msk vZ0)).toInt32)))) Arc588.1 (State.isArrayOf_alike hZ.alike Arc588.2.1) Arc588.2.2 hin589 hat590 (g := (mkF m 346 #[Sl q1, S2, Sl q2, S2, Sl q3, S2, Sl q4, S2, Sl q5, S2, Si p6, Si vW0, Si vW1, Si vW2, Si vS0, Si vS1, Si vS2, Si vL0, Si vL1, Si vL2, Si vX0, Si vX1, Si vX2, Sr b81, Sr b164, Si vF, Sl vG, S2, Sr b422, Sr b472, Sl vA, S2, Sl vG, S2, Sr b533] [(.int (0 : Int32)), (.ref b533)])) rfl rfl (hb hby at_346) _ ?_
      show Steps _ _ _ (T584.setTop (mkF m 347 #[Sl q1, S2, Sl q2, S2, Sl q3, S2, Sl q4, S2, Sl q5, S2, Si p6, Si vW0, Si vW1, Si vW2, Si vS0, Si vS1, Si vS2, Si vL0, Si vL1, Si vL2, Si vX0, Si vX1, Si vX2, Sr b81, Sr b164, Si vF, Sl vG, S2, Sr b422, Sr b472, Sl vA, S2, Sl vG, S2, Sr b533] [(.int ((vL0 + (0 : Int32)) + ((own_fld vA (1 : Int32) (own_msk vZ0)).toInt32)))])) _
      refine XS.iload X584.here hx rfl (hb hby at_347) rfl ?_
      refine XS.icmpNo X584.here hx rfl (hb hby at_349) rfl (teq hc591).2 ?_
      refine XS.aload X584.here hx rfl (hb hby at_352) rfl rfl ?_
      refine XS.iconst X584.here hx rfl (hb hby at_354) ?_
      refine X584.iaload hx (j := (1 : Int32)) (v := (.int ((vL1 + (0 : Int32)) + ((own_fld vA ((1 : Int32) + (own_bits vZ0)) (own_msk vZ1)).toInt32)))) Arc592.1 (State.isArrayOf_alike hZ.alike Arc592.2.1) Arc592.2.2 hin593 hat594 (g := (mkF m 355 #[Sl q1, S2, Sl q2, S2, Sl q3, S2, Sl q4, S2, Sl q5, S2, Si p6, Si vW0, Si vW1, Si vW2, Si vS0, Si vS1, Si vS2, Si vL0, Si vL1, Si vL2, Si vX0, Si vX1, Si vX2, Sr b81, Sr b164, Si vF, Sl vG, S2, Sr b422, Sr b472, Sl vA, S2, Sl vG, S2, Sr b533] [(.int (1 : Int32)), (.ref b533)])) rfl rfl (hb hby at_355) _ ?_
      refine XS.iload X584.here hx rfl (hb hby at_356) rfl ?_
      refine XS.icmpNo X584.here hx rfl (hb hby at_358) rfl (teq hc595).2 ?_
      refine XS.aload X584.here hx rfl (hb hby at_361) rfl rfl ?_
      show Steps _ _ _ (T584.setTop (mkF m 363 #[Sl q1, S2, Sl q2, S2, Sl q3, S2, Sl q4, S2, Sl q5, S2, Si p6, Si vW0, Si vW1, Si vW2, Si vS0, Si vS1, Si vS2, Si vL0, Si vL1, Si vL2, Si vX0, Si vX1, Si vX2, Sr b81, Sr b164, Si vF, Sl vG, S2, Sr b422, Sr b472, Sl vA, S2, Sl vG, S2, Sr b533] [(.ref b533)])) _
      refine XS.iconst X584.here hx rfl (hb hby at_363) ?_
      refine X584.iaload hx (j := (2 : Int32)) (v := (.int ((vL2 + (0 : Int32)) + ((own_fld vA (((1 : Int32) + (own_bits vZ0)) + (own_bits vZ1)) (own_msk vZ2)).toInt32)))) Arc596.1 (State.isArrayOf_alike hZ.alike Arc596.2.1) Arc596.2.2 hin597 hat598 (g := (mkF m 364 #[Sl q1, S2, Sl q2, S2, Sl q3, S2, Sl q4, S2, Sl q5, S2, Si p6, Si vW0, Si vW1, Si vW2, Si vS0, Si vS1, Si vS2, Si vL0, Si vL1, Si vL2, Si vX0, Si vX1, Si vX2, Sr b81, Sr b164, Si vF, Sl vG, S2, Sr b422, Sr b472, Sl vA, S2, Sl vG, S2, Sr b533] [(.int (2 : Int32)), (.ref b533)])) rfl rfl (hb hby at_364) _ ?_
      refine XS.iload X584.here hx rfl (hb hby at_365) rfl ?_
      refine XS.icmpNo X584.here hx rfl (hb hby at_367) rfl (teq hc599).2 ?_
      refine XS.aload X584.here hx rfl (hb hby at_370) rfl rfl ?_
      refine XS.iload X584.here hx rfl (hb hby at_372) rfl ?_
      refine X584.laload hx (j := vF) (v := (.long vA)) Arc601.1 (State.isArrayOf_alike hZ.alike Arc601.2.1) Arc601.2.2 hin602 hat603 (g := (mkF m 374 #[Sl q1, S2, Sl q2, S2, Sl q3, S2, Sl q4, S2, Sl q5, S2, Si p6, Si vW0, Si vW1, Si vW2, Si vS0, Si vS1, Si vS2, Si vL0, Si vL1, Si vL2, Si vX0, Si vX1, Si vX2, Sr b81, Sr b164, Si vF, Sl vG, S2, Sr b422, Sr b472, Sl vA, S2, Sl vG, S2, Sr b533] [(.int vF), (.ref b422)])) rfl rfl (hb hby at_374) _ ?_
      refine XS.lload X584.here hx rfl (hb hby at_375) rfl ?_
      show Steps _ _ _ (T584.setTop (mkF m 377 #[Sl q1, S2, Sl q2, S2, Sl q3, S2, Sl q4, S2, Sl q5, S2, Si p6, Si vW0, Si vW1, Si vW2, Si vS0, Si vS1, Si vS2, Si vL0, Si vL1, Si vL2, Si vX0, Si vX1, Si vX2, Sr b81, Sr b164, Si vF, Sl vG, S2, Sr b422, Sr b472, Sl vA, S2, Sl vG, S2, Sr b533] [(.long vA), (.long vA)])) _
      refine XS.lcmp X584.here hx rfl (hb hby at_377) rfl ?_
      refine XS.ifNo X584.here hx rfl (hb hby at_378) rfl ((if0 _ _).trans (teq ((lw_eq _ _).mpr rfl)).2) ?_
      refine XS.aload X584.here hx rfl (hb hby at_381) rfl rfl ?_
      refine XS.iload X584.here hx rfl (hb hby at_383) rfl ?_
      refine XS.iconst X584.here hx rfl (hb hby at_385) ?_
      refine XS.iadd X584.here hx rfl (hb hby at_386) rfl ?_
      refine X584.laload hx (j := (vF + (1 : Int32))) (v := (.long vG)) Arc604.1 (State.isArrayOf_alike hZ.alike Arc604.2.1) Arc604.2.2 hin605 hat606 (g := (mkF m 387 #[Sl q1, S2, Sl q2, S2, Sl q3, S2, Sl q4, S2, Sl q5, S2, Si p6, Si vW0, Si vW1, Si vW2, Si vS0, Si vS1, Si vS2, Si vL0, Si vL1, Si vL2, Si vX0, Si vX1, Si vX2, Sr b81, Sr b164, Si vF, Sl vG, S2, Sr b422, Sr b472, Sl vA, S2, Sl vG, S2, Sr b533] [(.int (vF + (1 : Int32))), (.ref b422)])) rfl rfl (hb hby at_387) _ ?_
      exact k
    have pre608 : ∀ t, Steps p.tables e below (T584.setTop (mkF m 399 #[Sl q1, S2, Sl q2, S2, Sl q3, S2, Sl q4, S2, Sl q5, S2, Si p6, Si vW0, Si vW1, Si vW2, Si vS0, Si vS1, Si vS2, Si vL0, Si vL1, Si vL2, Si vX0, Si vX1, Si vX2, Sr b81, Sr b164, Si vF, Sl vG, S2, Sr b422, Sr b472, Sl vA, S2, Sl vG, S2, Sr b533] [(.int (1 : Int32))])) t → Steps p.tables e below (s₁.setTop (entryFrame m #[(.long q1), (.long q2), (.long q3), (.long q4), (.long q5), (.int p6)] maxLocals)) t := by
      intro t k
      refine pre607 t ?_
      refine XS.lload X584.here hx rfl (hb hby at_388) rfl ?_
      show Steps _ _ _ (T584.setTop (mkF m 390 #[Sl q1, S2, Sl q2, S2, Sl q3, S2, Sl q4, S2, Sl q5, S2, Si p6, Si vW0, Si vW1, Si vW2, Si vS0, Si vS1, Si vS2, Si vL0, Si vL1, Si vL2, Si vX0, Si vX1, Si vX2, Sr b81, Sr b164, Si vF, Sl vG, S2, Sr b422, Sr b472, Sl vA, S2, Sl vG, S2, Sr b533] [(.long vG), (.long vG)])) _
      refine XS.lcmp X584.here hx rfl (hb hby at_390) rfl ?_
      refine XS.ifNo X584.here hx rfl (hb hby at_391) rfl ((if0 _ _).trans (teq ((lw_eq _ _).mpr rfl)).2) ?_
      refine XS.iconst X584.here hx rfl (hb hby at_394) ?_
      refine XS.goto X584.here hx rfl (pc0 := 395) (pc' := 399) rfl (hb hby at_395) (by decide) (by decide) ?_
      exact k
    obtain ⟨fs, hr, hrun, hended, hW, hsame⟩ := X584.leave (v := some (.int (1 : Int32))) (fun h => by rw [Bd.returns] at h; cases h)
    refine ⟨_, _, pre608 _ ?_, hrun, hended, _, _, rfl, ?_, ⟨_, rfl⟩, hW, hsame.mono (by decide) (by decide)⟩
    · exact retN X584 hx (t := .boolean) Bd.returns (by simp) (hb hby at_399) hr
    · show Q_rm0 Z q1 q2 q3 q4 q5 p6 wE kE h0 n0 _ T584.heap _
      exact ⟨rfl, N586, KC587⟩
set_option maxRecDepth 65536 in
set_option maxHeartbeats 40000000 in
theorem comes_1 {Post : Tables → Env → Array Value → State → Outcome → State → Prop} (hpost : ∀ tb e args s v u, (limb_1_1.after args s (.returned v) u = true ∧ limb_1_2.after args s (.returned v) u = true ∧ True) → FrameEnd s (.returned v) u (Jvm.fieldLocs frame_1_writes args s ++ Jvm.arrayLocs frame_1_arrays args s ++ Jvm.staticLocs frame_1_statics s) 40 192 → Post tb e args s (.returned v) u) :
    ArmFor flags0 classFile x code maxLocals ret World_1 tables_1 room_1 Calls_1 rest_1 Pre_1 Post := by
  intro l hfl _ _ p e ha hc hk s m args below hf hA hF happ hP
  obtain ⟨hcalls, hrest, hpre⟩ := hP
  obtain ⟨-, -, -, hnamed, -, -, -, hat⟩ := (Spec.applies_iff hf).mp happ
  obtain ⟨hg, hn⟩ := and_e (Cond.before_iff.mp (show (Jvm.Cond.and given_1 narrow_1).before args s = true from hpre))
  obtain ⟨g0, r0⟩ := and_e hg
  obtain ⟨g1, r1⟩ := and_e r0
  obtain ⟨g2, r2⟩ := and_e r1
  obtain ⟨g3, r3⟩ := and_e r2
  obtain ⟨g4, r4⟩ := and_e r3
  obtain ⟨g5, r5⟩ := and_e r4
  obtain ⟨w0, w1, w2, w3, w4, w5, rfl⟩ : ∃ w0 w1 w2 w3 w4 w5 : Value, args = #[w0, w1, w2, w3, w4, w5] := by
    have hs : args.size = 6 := by simpa [Cond.value, given_1] using g0
    obtain ⟨L⟩ := args
    match L, hs with
    | [w0, w1, w2, w3, w4, w5], _ => exact ⟨w0, w1, w2, w3, w4, w5, rfl⟩
  have hw := fun d (hd : d ∈ tables_1) => atoms_spec (ws := Jvm.Cond.code x code maxLocals ret :: tables_1) hat d (List.mem_cons_of_mem _ hd)
  have hfit : Fit s := fun {y c} hc i hi => by
    obtain ⟨ha, rfl⟩ := Array.getElem?_eq_some_iff.mp hc
    have q := List.all_eq_true.mp ((Array.all_eq_true_iff_forall_mem.mp hF) _ (Array.getElem_mem ha)) i (List.mem_range.mpr hi)
    simpa [Array.getElem?_eq_getElem hi] using q
  obtain ⟨i0, ei0⟩ := isL_v g1
  obtain rfl : w0 = (.long i0) := Option.some.inj ei0
  obtain ⟨i1, ei1⟩ := isL_v g2
  obtain rfl : w1 = (.long i1) := Option.some.inj ei1
  obtain ⟨i2, ei2⟩ := isL_v g3
  obtain rfl : w2 = (.long i2) := Option.some.inj ei2
  obtain ⟨i3, ei3⟩ := isL_v g4
  obtain rfl : w3 = (.long i3) := Option.some.inj ei3
  obtain ⟨i4, ei4⟩ := isL_v g5
  obtain rfl : w4 = (.long i4) := Option.some.inj ei4
  obtain ⟨i5, ei5⟩ := is_v r5
  obtain rfl : w5 = (.int i5) := Option.some.inj ei5
  obtain ⟨hsets, hown0⟩ := atoms_of _ (rest_1_c_eq ▸ (show rest_1_c.before _ s = true from hrest))
  have y6 := Cond.before_iff.mp (hsets _ (List.mem_of_getElem? (i := 6) rfl))
  have y8 := Cond.before_iff.mp (hsets _ (List.mem_of_getElem? (i := 8) rfl))
  obtain ⟨wE, eE⟩ := arr_v y6
  obtain ⟨clE, hE⟩ := Arr.start eE y6
  obtain ⟨hsz, hsize⟩ := IntBox.length_fwd (Cond.before_iff.mpr y8) eE hE.1 hE.2.1 hE.2.2
  have SE := Sta.start eE (Or.inr ⟨(ow hw 15 rfl), hsets _ (List.mem_of_getElem? (i := 2) rfl)⟩)
  have VE : Arv s s.heap wE clE.cls (.object "java/lang/Object") (0 : Int32) [] .null := Arv.start hfit hE hsz hsize (by decide) rfl trivial
  obtain ⟨n, o, h1, h2, h3, _, L, rfl, ⟨rfl, N, -⟩, hq⟩ := rm0 l s _ hw tables_1 i0 i1 i2 i3 i4 i5 wE clE.cls s.heap s.heap.size (Nat.le_refl _) (Old.start s) SE VE p e ha hc hk s m _ below hf ((Spec.applies_iff_loose hf).mp happ).1 ⟨rfl, State.Warmed39.refl s, rfl⟩ trivial
  refine ⟨n, _, h1, h2, h3, hpost _ _ _ _ _ _ ⟨Cond.after_iff.mpr rfl, Cond.after_iff.mpr (eq_i res_at (Term.int_eval (1)) rfl), trivial⟩ ⟨hq.1, hq.2.1, (hq.2.2.sift fun y hy => Or.inr (N y hy)).mono (by decide) (by decide)⟩⟩
theorem main_1_1 : Claimed_1_1 := comes_1 fun _ _ _ _ _ _ h hF => ⟨h.1, hF⟩
theorem main_1_2 : Claimed_1_2 := comes_1 fun _ _ _ _ _ _ h hF => ⟨h.2.1, hF⟩
end Jvm.Pilot.@@N@@
namespace Jvm.Pilot.@@N@@
open Jvm Jvm.ClassFile Sem Op Lib Jvm.Free Jvm.Stand Jvm.Pilot.@@N@@.Jvm.D
/-! MADE BY PROGRAM (witnessworld.py) out of the Statement's table words and the real class files: 31 classes; the members and pool entries that the words name. The judged class is class 1, her method 1. -/
namespace start1
open Jvm.ClassFile
def u (s : String) : CpInfo := .utf8 (stringToUtf16 s)
/-- a pool by its gaps: so many unusable entries, then the entry; so many at the end -/
def gap : Nat → List CpInfo → List CpInfo
  | 0, r => r
  | n + 1, r => .unusable :: gap n r
def poolList (es : List (Nat × CpInfo)) (last : Nat) : List CpInfo := es.foldr (fun e r => gap e.1 (e.2 :: r)) (gap last [])
def pool (es : List (Nat × CpInfo)) (last : Nat) : Array CpInfo := ⟨poolList es last⟩
def fileOf (pool : Array CpInfo) (this : Nat) (attrs : Array Attribute := #[]) (ms : Array MethodInfo := #[]) (fl : Nat := 33) (sup : Nat := 0) (ifs : Array Nat := #[]) (fds : Array FieldInfo := #[]) : ClassFile where
  minorVersion := 0
  majorVersion := 65
  constantPool := pool
  accessFlags := fl
  thisClass := this
  superClass := sup
  interfaces := ifs
  fields := fds
  methods := ms
  attributes := attrs
def plain (name : String) (sup : Option ClassId) : Class where
  name := name
  kind := .ordinary
  loader := none
  accessFlags := 33
  super := sup
  interfaces := #[]
  cf := none
  fields := #[]
  methods := #[]
  instanceTypes := #[]
  staticTypes := #[]
  resolved := #[]
  callSites := []
  init := .initialized
  statics := none
  mirror := none

def pool0 : Array CpInfo := pool [(5, u "<init>"), (0, u "()V"), (1, .class_ 10), (1, u "java/lang/Object")] 113

def k0c0 : Code := { maxStack := 0, maxLocals := 1, code := object_method_1_code, exceptionTable := #[], attributes := #[] }
def k0m0 : Method := { name := "<init>", desc := "()V", sig := { parameters := [], returnType := none }, accessFlags := 1, code := some k0c0 }
/-- java/lang/Object -/
def k0 : Class := { plain "java/lang/Object" none with
  accessFlags := 33
  interfaces := #[]
  cf := some (fileOf pool0 8 #[] #[{ accessFlags := 1, nameIndex := 5, descriptorIndex := 6, attributes := #[] }] 33 0 #[] #[])
  fields := #[]
  methods := #[k0m0]
  instanceTypes := #[]
  staticTypes := #[]
  resolved := Array.replicate 124 none
  statics := none }

def pool1 : Array CpInfo := pool [(2, .class_ 4), (0, .nameAndType 5 6), (0, u "java/lang/Object"), (0, u "<init>"), (0, u "()V"), (0, .methodref 8 9), (0, .class_ 10), (0, .nameAndType 11 12), (0, u "com/example/darlington/darlington/core/StateLayoutUnpackPinLaw"), (0, u "span"), (0, u "(JI)I"), (0, .methodref 8 14), (0, .nameAndType 15 12), (0, u "low"), (0, .methodref 8 17), (0, .nameAndType 18 19), (0, u "value"), (0, u "(IIJ)I"), (0, .class_ 21), (0, u "java/util/ArrayList"), (0, .methodref 20 3), (0, .class_ 24), (0, u "com/example/darlington/darlington/core/IntegerRange"), (0, .methodref 23 26), (0, .nameAndType 5 27), (0, u "(II)V"), (0, .interfaceMethodref 29 30), (0, .class_ 31), (0, .nameAndType 32 33), (0, u "java/util/List"), (0, u "add"), (0, u "(Ljava/lang/Object;)Z"), (0, .class_ 35), (0, u "com/example/darlington/darlington/core/StateLayout"), (0, .methodref 34 37), (0, .nameAndType 5 38), (0, u "(Ljava/util/List;)V"), (0, .methodref 34 40), (0, .nameAndType 41 42), (0, u "pack"), (0, u "([I[JI)V"), (0, .methodref 34 44), (0, .nameAndType 45 46), (0, u "unpack"), (0, u "([JI[I)V"), (0, .integer 2147483647), (0, .integer 2147483646), (2, .long 2147483647), (1, .long 4294967295), (3, u "law"), (0, u "(JJJJJI)Z")] 7

def k1m0 : Method := { name := "<init>", desc := "()V", sig := { parameters := [], returnType := none }, accessFlags := 1, code := none }
def k1c1 : Code := { maxStack := 6, maxLocals := 35, code := code, exceptionTable := #[], attributes := #[] }
def k1m1 : Method := { name := "law", desc := "(JJJJJI)Z", sig := { parameters := [.long, .long, .long, .long, .long, .int], returnType := some .boolean }, accessFlags := 9, code := some k1c1 }
def k1c2 : Code := { maxStack := 3, maxLocals := 4, code := method_3_code, exceptionTable := #[], attributes := #[] }
def k1m2 : Method := { name := "span", desc := "(JI)I", sig := { parameters := [.long, .int], returnType := some .int }, accessFlags := 10, code := some k1c2 }
def k1c3 : Code := { maxStack := 4, maxLocals := 4, code := method_4_code, exceptionTable := #[], attributes := #[] }
def k1m3 : Method := { name := "low", desc := "(JI)I", sig := { parameters := [.long, .int], returnType := some .int }, accessFlags := 10, code := some k1c3 }
def k1c4 : Code := { maxStack := 6, maxLocals := 6, code := method_5_code, exceptionTable := #[], attributes := #[] }
def k1m4 : Method := { name := "value", desc := "(IIJ)I", sig := { parameters := [.int, .int, .long], returnType := some .int }, accessFlags := 10, code := some k1c4 }
/-- com/example/darlington/darlington/core/StateLayoutUnpackPinLaw -/
def k1 : Class := { plain "com/example/darlington/darlington/core/StateLayoutUnpackPinLaw" (some 0) with
  accessFlags := 49
  interfaces := #[]
  cf := some (fileOf pool1 8 #[] #[{ accessFlags := 1, nameIndex := 5, descriptorIndex := 6, attributes := #[] }, { accessFlags := 9, nameIndex := 57, descriptorIndex := 58, attributes := #[] }, { accessFlags := 10, nameIndex := 11, descriptorIndex := 12, attributes := #[] }, { accessFlags := 10, nameIndex := 15, descriptorIndex := 12, attributes := #[] }, { accessFlags := 10, nameIndex := 18, descriptorIndex := 19, attributes := #[] }] 49 2 #[] #[])
  fields := #[]
  methods := #[k1m0, k1m1, k1m2, k1m3, k1m4]
  instanceTypes := #[]
  staticTypes := #[]
  resolved := Array.replicate 66 none
  statics := none }

def pool2 : Array CpInfo := pool [(8, .class_ 10), (1, u "java/lang/Iterable"), (24, .class_ 36), (0, u "java/lang/Object")] 25

/-- java/lang/Iterable -/
def k2 : Class := { plain "java/lang/Iterable" (some 0) with
  accessFlags := 1537
  interfaces := #[]
  cf := some (fileOf pool2 8 #[] #[] 1537 35 #[] #[])
  fields := #[]
  methods := #[]
  instanceTypes := #[]
  staticTypes := #[]
  resolved := Array.replicate 62 none
  statics := none }

def pool3 : Array CpInfo := pool [(10, .class_ 12), (1, u "java/util/Collection"), (47, .class_ 61), (0, u "java/lang/Object"), (0, .class_ 63), (0, u "java/lang/Iterable")] 51

/-- java/util/Collection -/
def k3 : Class := { plain "java/util/Collection" (some 0) with
  accessFlags := 1537
  interfaces := #[2]
  cf := some (fileOf pool3 10 #[] #[] 1537 60 #[62] #[])
  fields := #[]
  methods := #[]
  instanceTypes := #[]
  staticTypes := #[]
  resolved := Array.replicate 115 none
  statics := none }

def pool4 : Array CpInfo := pool [(1, .methodref 2 3), (0, .class_ 4), (0, .nameAndType 5 6), (0, u "java/lang/Object"), (0, u "<init>"), (0, u "()V"), (1, .class_ 10), (1, u "java/util/AbstractCollection"), (66, .class_ 78), (0, u "java/util/Collection")] 81

def k4c0 : Code := { maxStack := 1, maxLocals := 1, code := jdk_22_method_1_code, exceptionTable := #[], attributes := #[] }
def k4m0 : Method := { name := "<init>", desc := "()V", sig := { parameters := [], returnType := none }, accessFlags := 4, code := some k4c0 }
/-- java/util/AbstractCollection -/
def k4 : Class := { plain "java/util/AbstractCollection" (some 0) with
  accessFlags := 1057
  interfaces := #[3]
  cf := some (fileOf pool4 8 #[] #[{ accessFlags := 4, nameIndex := 5, descriptorIndex := 6, attributes := #[] }] 1057 2 #[77] #[])
  fields := #[]
  methods := #[k4m0]
  instanceTypes := #[]
  staticTypes := #[]
  resolved := Array.replicate 160 none
  statics := none }

def pool5 : Array CpInfo := pool [(8, .class_ 10), (1, u "java/util/SequencedCollection"), (15, .class_ 27), (0, u "java/lang/Object"), (0, .class_ 29), (0, u "java/util/Collection")] 27

/-- java/util/SequencedCollection -/
def k5 : Class := { plain "java/util/SequencedCollection" (some 0) with
  accessFlags := 1537
  interfaces := #[3]
  cf := some (fileOf pool5 8 #[] #[] 1537 26 #[28] #[])
  fields := #[]
  methods := #[]
  instanceTypes := #[]
  staticTypes := #[]
  resolved := Array.replicate 57 none
  statics := none }

def pool6 : Array CpInfo := pool [(8, .class_ 10), (1, u "java/util/List"), (49, u "add"), (3, u "(Ljava/lang/Object;)Z"), (10, u "get"), (0, u "(I)Ljava/lang/Object;"), (2, u "size"), (0, u "()I"), (22, .class_ 104), (0, u "java/lang/Object"), (15, .class_ 121), (0, u "java/util/SequencedCollection")] 129

def k6m0 : Method := { name := "size", desc := "()I", sig := { parameters := [], returnType := some .int }, accessFlags := 1025, code := none }
def k6m1 : Method := { name := "add", desc := "(Ljava/lang/Object;)Z", sig := { parameters := [(.object "java/lang/Object")], returnType := some .boolean }, accessFlags := 1025, code := none }
def k6m2 : Method := { name := "get", desc := "(I)Ljava/lang/Object;", sig := { parameters := [.int], returnType := some (.object "java/lang/Object") }, accessFlags := 1025, code := none }
/-- java/util/List -/
def k6 : Class := { plain "java/util/List" (some 0) with
  accessFlags := 1537
  interfaces := #[5]
  cf := some (fileOf pool6 8 #[] #[{ accessFlags := 1025, nameIndex := 79, descriptorIndex := 80, attributes := #[] }, { accessFlags := 1025, nameIndex := 60, descriptorIndex := 64, attributes := #[] }, { accessFlags := 1025, nameIndex := 75, descriptorIndex := 76, attributes := #[] }] 1537 103 #[120] #[])
  fields := #[]
  methods := #[k6m0, k6m1, k6m2]
  instanceTypes := #[]
  staticTypes := #[]
  resolved := Array.replicate 251 none
  statics := none }

def pool7 : Array CpInfo := pool [(1, .methodref 2 3), (0, .class_ 4), (0, .nameAndType 5 6), (0, u "java/util/AbstractCollection"), (0, u "<init>"), (0, u "()V"), (0, .fieldref 8 9), (0, .class_ 10), (0, .nameAndType 11 12), (0, u "java/util/AbstractList"), (0, u "modCount"), (0, u "I"), (64, .class_ 78), (0, u "java/util/AbstractList$Itr"), (3, .class_ 83), (0, u "java/util/AbstractList$ListItr"), (9, .class_ 94), (0, u "java/util/AbstractList$RandomAccessSubList"), (3, .class_ 99), (0, u "java/util/AbstractList$SubList"), (33, .class_ 134), (0, u "java/util/List"), (73, .class_ 209), (0, u "java/util/AbstractList$SubList$1"), (0, .class_ 211), (0, u "java/util/AbstractList$RandomAccessSpliterator")] 6

def k7c0 : Code := { maxStack := 2, maxLocals := 1, code := jdk_39_method_1_code, exceptionTable := #[], attributes := #[] }
def k7m0 : Method := { name := "<init>", desc := "()V", sig := { parameters := [], returnType := none }, accessFlags := 4, code := some k7c0 }
/-- java/util/AbstractList -/
def k7 : Class := { plain "java/util/AbstractList" (some 4) with
  accessFlags := 1057
  interfaces := #[6]
  cf := some (fileOf pool7 8 #[.nestMembers #[93, 98, 208, 210, 82, 77]] #[{ accessFlags := 4, nameIndex := 5, descriptorIndex := 6, attributes := #[] }] 1057 2 #[133] #[{ accessFlags := 132, nameIndex := 11, descriptorIndex := 12, attributes := #[] }])
  fields := #[{ name := "modCount", type := .int, accessFlags := 132, slot := 0, constantValue := 0 }]
  methods := #[k7m0]
  instanceTypes := #[.int]
  staticTypes := #[]
  resolved := Array.replicate 218 none
  statics := none }

def pool8 : Array CpInfo := pool [(1, .class_ 2), (0, u "java/util/RandomAccess"), (0, .class_ 4), (0, u "java/lang/Object")] 2

/-- java/util/RandomAccess -/
def k8 : Class := { plain "java/util/RandomAccess" (some 0) with
  accessFlags := 1537
  interfaces := #[]
  cf := some (fileOf pool8 1 #[] #[] 1537 3 #[] #[])
  fields := #[]
  methods := #[]
  instanceTypes := #[]
  staticTypes := #[]
  resolved := Array.replicate 7 none
  statics := none }

def pool9 : Array CpInfo := pool [(1, .class_ 2), (0, u "java/lang/Cloneable"), (0, .class_ 4), (0, u "java/lang/Object")] 2

/-- java/lang/Cloneable -/
def k9 : Class := { plain "java/lang/Cloneable" (some 0) with
  accessFlags := 1537
  interfaces := #[]
  cf := some (fileOf pool9 1 #[] #[] 1537 3 #[] #[])
  fields := #[]
  methods := #[]
  instanceTypes := #[]
  staticTypes := #[]
  resolved := Array.replicate 7 none
  statics := none }

def pool10 : Array CpInfo := pool [(1, .class_ 2), (0, u "java/io/Serializable"), (0, .class_ 4), (0, u "java/lang/Object")] 2

/-- java/io/Serializable -/
def k10 : Class := { plain "java/io/Serializable" (some 0) with
  accessFlags := 1537
  interfaces := #[]
  cf := some (fileOf pool10 1 #[] #[] 1537 3 #[] #[])
  fields := #[]
  methods := #[]
  instanceTypes := #[]
  staticTypes := #[]
  resolved := Array.replicate 7 none
  statics := none }

def pool11 : Array CpInfo := pool [(1, .methodref 2 3), (0, .class_ 4), (0, .nameAndType 5 6), (0, u "java/util/AbstractList"), (0, u "<init>"), (0, u "()V"), (0, .class_ 8), (0, u "java/lang/Object"), (0, .fieldref 10 11), (0, .class_ 12), (0, .nameAndType 13 14), (0, u "java/util/ArrayList"), (0, u "elementData"), (0, u "[Ljava/lang/Object;"), (2, u "EMPTY_ELEMENTDATA"), (21, .fieldref 10 40), (0, .nameAndType 41 14), (0, u "DEFAULTCAPACITY_EMPTY_ELEMENTDATA"), (5, u "()[Ljava/lang/Object;"), (0, .fieldref 10 49), (0, .nameAndType 50 51), (0, u "size"), (0, u "I"), (11, .fieldref 10 64), (0, .nameAndType 65 51), (0, u "modCount"), (3, .methodref 10 70), (0, .nameAndType 71 72), (0, u "grow"), (0, u "(I)[Ljava/lang/Object;"), (6, .methodref 80 81), (0, .class_ 82), (0, .nameAndType 83 84), (0, u "java/lang/Math"), (0, u "max"), (0, u "(II)I"), (11, u "(Ljava/lang/Object;)Z"), (21, .methodref 119 120), (0, .class_ 121), (0, .nameAndType 122 84), (0, u "java/util/Objects"), (0, u "checkIndex"), (0, .methodref 10 124), (0, .nameAndType 13 125), (0, u "(I)Ljava/lang/Object;"), (3, .methodref 10 130), (0, .nameAndType 71 47), (0, .methodref 10 132), (0, .nameAndType 133 134), (0, u "add"), (0, u "(Ljava/lang/Object;[Ljava/lang/Object;I)V"), (13, .class_ 149), (0, u "java/util/List"), (36, u "()I"), (75, .class_ 263), (0, u "java/util/ArrayList$ListItr"), (3, .class_ 268), (0, u "java/util/ArrayList$Itr"), (7, .class_ 277), (0, u "java/util/ArrayList$SubList"), (12, .class_ 291), (0, u "java/util/ArrayList$ArrayListSpliterator"), (37, .class_ 330), (0, u "java/util/RandomAccess"), (0, .class_ 332), (0, u "java/lang/Cloneable"), (0, .class_ 334), (0, u "java/io/Serializable"), (0, u "serialVersionUID"), (0, u "J"), (3, u "DEFAULT_CAPACITY"), (40, u "get"), (118, .class_ 501), (0, u "java/util/ArrayList$SubList$2"), (0, .class_ 503), (0, u "java/util/ArrayList$SubList$1")] 5

def k11c0 : Code := { maxStack := 2, maxLocals := 1, code := jdk_38_method_2_code, exceptionTable := #[], attributes := #[] }
def k11m0 : Method := { name := "<init>", desc := "()V", sig := { parameters := [], returnType := none }, accessFlags := 1, code := some k11c0 }
def k11c1 : Code := { maxStack := 4, maxLocals := 4, code := jdk_38_method_6_code, exceptionTable := #[], attributes := #[] }
def k11m1 : Method := { name := "grow", desc := "(I)[Ljava/lang/Object;", sig := { parameters := [.int], returnType := some (.array (.object "java/lang/Object")) }, accessFlags := 2, code := some k11c1 }
def k11c2 : Code := { maxStack := 3, maxLocals := 1, code := jdk_38_method_7_code, exceptionTable := #[], attributes := #[] }
def k11m2 : Method := { name := "grow", desc := "()[Ljava/lang/Object;", sig := { parameters := [], returnType := some (.array (.object "java/lang/Object")) }, accessFlags := 2, code := some k11c2 }
def k11c3 : Code := { maxStack := 1, maxLocals := 1, code := jdk_38_method_8_code, exceptionTable := #[], attributes := #[] }
def k11m3 : Method := { name := "size", desc := "()I", sig := { parameters := [], returnType := some .int }, accessFlags := 1, code := some k11c3 }
def k11c4 : Code := { maxStack := 2, maxLocals := 2, code := jdk_38_method_18_code, exceptionTable := #[], attributes := #[] }
def k11m4 : Method := { name := "elementData", desc := "(I)Ljava/lang/Object;", sig := { parameters := [.int], returnType := some (.object "java/lang/Object") }, accessFlags := 0, code := some k11c4 }
def k11c5 : Code := { maxStack := 2, maxLocals := 2, code := jdk_38_method_20_code, exceptionTable := #[], attributes := #[] }
def k11m5 : Method := { name := "get", desc := "(I)Ljava/lang/Object;", sig := { parameters := [.int], returnType := some (.object "java/lang/Object") }, accessFlags := 1, code := some k11c5 }
def k11c6 : Code := { maxStack := 3, maxLocals := 4, code := jdk_38_method_24_code, exceptionTable := #[], attributes := #[] }
def k11m6 : Method := { name := "add", desc := "(Ljava/lang/Object;[Ljava/lang/Object;I)V", sig := { parameters := [(.object "java/lang/Object"), (.array (.object "java/lang/Object")), .int], returnType := none }, accessFlags := 2, code := some k11c6 }
def k11c7 : Code := { maxStack := 4, maxLocals := 2, code := jdk_38_method_25_code, exceptionTable := #[], attributes := #[] }
def k11m7 : Method := { name := "add", desc := "(Ljava/lang/Object;)Z", sig := { parameters := [(.object "java/lang/Object")], returnType := some .boolean }, accessFlags := 1, code := some k11c7 }
/-- java/util/ArrayList -/
def k11 : Class := { plain "java/util/ArrayList" (some 7) with
  accessFlags := 33
  interfaces := #[6, 8, 9, 10]
  cf := some (fileOf pool11 10 #[.nestMembers #[290, 276, 500, 502, 262, 267]] #[{ accessFlags := 1, nameIndex := 5, descriptorIndex := 6, attributes := #[] }, { accessFlags := 2, nameIndex := 71, descriptorIndex := 72, attributes := #[] }, { accessFlags := 2, nameIndex := 71, descriptorIndex := 47, attributes := #[] }, { accessFlags := 1, nameIndex := 50, descriptorIndex := 186, attributes := #[] }, { accessFlags := 0, nameIndex := 13, descriptorIndex := 125, attributes := #[] }, { accessFlags := 1, nameIndex := 381, descriptorIndex := 125, attributes := #[] }, { accessFlags := 2, nameIndex := 133, descriptorIndex := 134, attributes := #[] }, { accessFlags := 1, nameIndex := 133, descriptorIndex := 96, attributes := #[] }] 33 2 #[148, 329, 331, 333] #[{ accessFlags := 26, nameIndex := 335, descriptorIndex := 336, attributes := #[] }, { accessFlags := 26, nameIndex := 340, descriptorIndex := 51, attributes := #[] }, { accessFlags := 26, nameIndex := 17, descriptorIndex := 14, attributes := #[] }, { accessFlags := 26, nameIndex := 41, descriptorIndex := 14, attributes := #[] }, { accessFlags := 128, nameIndex := 13, descriptorIndex := 14, attributes := #[] }, { accessFlags := 2, nameIndex := 50, descriptorIndex := 51, attributes := #[] }])
  fields := #[{ name := "serialVersionUID", type := .long, accessFlags := 26, slot := 0, constantValue := 0 }, { name := "DEFAULT_CAPACITY", type := .int, accessFlags := 26, slot := 1, constantValue := 0 }, { name := "EMPTY_ELEMENTDATA", type := (.array (.object "java/lang/Object")), accessFlags := 26, slot := 2, constantValue := 0 }, { name := "DEFAULTCAPACITY_EMPTY_ELEMENTDATA", type := (.array (.object "java/lang/Object")), accessFlags := 26, slot := 3, constantValue := 0 }, { name := "elementData", type := (.array (.object "java/lang/Object")), accessFlags := 128, slot := 1, constantValue := 0 }, { name := "size", type := .int, accessFlags := 2, slot := 2, constantValue := 0 }]
  methods := #[k11m0, k11m1, k11m2, k11m3, k11m4, k11m5, k11m6, k11m7]
  instanceTypes := #[.int, (.array (.object "java/lang/Object")), .int]
  staticTypes := #[.long, .int, (.array (.object "java/lang/Object")), (.array (.object "java/lang/Object"))]
  resolved := Array.replicate 509 none
  statics := some 0 }

def pool12 : Array CpInfo := pool [(1, .methodref 2 3), (0, .class_ 4), (0, .nameAndType 5 6), (0, u "java/lang/Object"), (0, u "<init>"), (0, u "()V"), (0, .fieldref 8 9), (0, .class_ 10), (0, .nameAndType 11 12), (0, u "com/example/darlington/darlington/core/FiniteType"), (0, u "first"), (0, u "I"), (0, .fieldref 8 14), (0, .nameAndType 15 12), (0, u "size"), (0, .methodref 17 18), (0, .class_ 19), (0, .nameAndType 20 21), (0, u "java/util/Objects"), (0, u "checkIndex"), (0, u "(II)I"), (22, u "(I)I"), (4, u "(II)V"), (2, u "()I"), (0, u "valueAt")] 28

def k12c0 : Code := { maxStack := 2, maxLocals := 3, code := prog_45_method_1_code, exceptionTable := #[], attributes := #[] }
def k12m0 : Method := { name := "<init>", desc := "(II)V", sig := { parameters := [.int, .int], returnType := none }, accessFlags := 0, code := some k12c0 }
def k12c1 : Code := { maxStack := 1, maxLocals := 1, code := prog_45_method_2_code, exceptionTable := #[], attributes := #[] }
def k12m1 : Method := { name := "size", desc := "()I", sig := { parameters := [], returnType := some .int }, accessFlags := 17, code := some k12c1 }
def k12c2 : Code := { maxStack := 3, maxLocals := 2, code := prog_45_method_3_code, exceptionTable := #[], attributes := #[] }
def k12m2 : Method := { name := "valueAt", desc := "(I)I", sig := { parameters := [.int], returnType := some .int }, accessFlags := 17, code := some k12c2 }
/-- com/example/darlington/darlington/core/FiniteType -/
def k12 : Class := { plain "com/example/darlington/darlington/core/FiniteType" (some 0) with
  accessFlags := 1057
  interfaces := #[]
  cf := some (fileOf pool12 8 #[] #[{ accessFlags := 0, nameIndex := 5, descriptorIndex := 49, attributes := #[] }, { accessFlags := 17, nameIndex := 15, descriptorIndex := 52, attributes := #[] }, { accessFlags := 17, nameIndex := 53, descriptorIndex := 44, attributes := #[] }] 1057 2 #[] #[{ accessFlags := 18, nameIndex := 11, descriptorIndex := 12, attributes := #[] }, { accessFlags := 18, nameIndex := 15, descriptorIndex := 12, attributes := #[] }])
  fields := #[{ name := "first", type := .int, accessFlags := 18, slot := 0, constantValue := 0 }, { name := "size", type := .int, accessFlags := 18, slot := 1, constantValue := 0 }]
  methods := #[k12m0, k12m1, k12m2]
  instanceTypes := #[.int, .int]
  staticTypes := #[]
  resolved := Array.replicate 82 none
  statics := none }

def pool13 : Array CpInfo := pool [(1, .methodref 2 3), (0, .class_ 4), (0, .nameAndType 5 6), (0, u "com/example/darlington/darlington/core/IntegerRange"), (0, u "checkedSize"), (0, u "(II)I"), (0, .methodref 8 9), (0, .class_ 10), (0, .nameAndType 11 12), (0, u "com/example/darlington/darlington/core/FiniteType"), (0, u "<init>"), (0, u "(II)V"), (15, .long 2147483647)] 45

def k13c0 : Code := { maxStack := 4, maxLocals := 3, code := prog_55_method_1_code, exceptionTable := #[], attributes := #[] }
def k13m0 : Method := { name := "<init>", desc := "(II)V", sig := { parameters := [.int, .int], returnType := none }, accessFlags := 1, code := some k13c0 }
def k13c1 : Code := { maxStack := 4, maxLocals := 4, code := prog_55_method_2_code, exceptionTable := #[], attributes := #[] }
def k13m1 : Method := { name := "checkedSize", desc := "(II)I", sig := { parameters := [.int, .int], returnType := some .int }, accessFlags := 10, code := some k13c1 }
/-- com/example/darlington/darlington/core/IntegerRange -/
def k13 : Class := { plain "com/example/darlington/darlington/core/IntegerRange" (some 12) with
  accessFlags := 49
  interfaces := #[]
  cf := some (fileOf pool13 2 #[] #[{ accessFlags := 1, nameIndex := 11, descriptorIndex := 12, attributes := #[] }, { accessFlags := 10, nameIndex := 5, descriptorIndex := 6, attributes := #[] }] 49 8 #[] #[])
  fields := #[]
  methods := #[k13m0, k13m1]
  instanceTypes := #[.int, .int]
  staticTypes := #[]
  resolved := Array.replicate 74 none
  statics := none }

def pool14 : Array CpInfo := pool [(1, .class_ 2), (0, u "java/lang/Math"), (1, .class_ 6), (1, u "java/lang/Object"), (0, u "<init>"), (0, u "()V"), (89, .class_ 100), (1, u "java/lang/Math$RandomNumberGeneratorHolder"), (71, u "negativeZeroFloatBits"), (0, u "J"), (2, u "negativeZeroDoubleBits"), (21, u "max"), (46, u "$assertionsDisabled"), (0, u "Z"), (88, u "(II)I"), (2, u "twoToTheDoubleScaleDown"), (0, u "D"), (4, u "twoToTheDoubleScaleUp"), (9, u "E"), (3, u "PI"), (2, u "TAU"), (2, u "DEGREES_TO_RADIANS"), (0, u "RADIANS_TO_DEGREES")] 94

def k14m0 : Method := { name := "<init>", desc := "()V", sig := { parameters := [], returnType := none }, accessFlags := 2, code := none }
def k14c1 : Code := { maxStack := 2, maxLocals := 2, code := jdk_29_method_65_code, exceptionTable := #[], attributes := #[] }
def k14m1 : Method := { name := "max", desc := "(II)I", sig := { parameters := [.int, .int], returnType := some .int }, accessFlags := 9, code := some k14c1 }
/-- java/lang/Math -/
def k14 : Class := { plain "java/lang/Math" (some 0) with
  accessFlags := 49
  interfaces := #[]
  cf := some (fileOf pool14 1 #[.nestMembers #[98]] #[{ accessFlags := 2, nameIndex := 7, descriptorIndex := 8, attributes := #[] }, { accessFlags := 9, nameIndex := 198, descriptorIndex := 335, attributes := #[] }] 49 4 #[] #[{ accessFlags := 25, nameIndex := 354, descriptorIndex := 339, attributes := #[] }, { accessFlags := 25, nameIndex := 358, descriptorIndex := 339, attributes := #[] }, { accessFlags := 25, nameIndex := 361, descriptorIndex := 339, attributes := #[] }, { accessFlags := 26, nameIndex := 364, descriptorIndex := 339, attributes := #[] }, { accessFlags := 26, nameIndex := 365, descriptorIndex := 339, attributes := #[] }, { accessFlags := 26, nameIndex := 172, descriptorIndex := 173, attributes := #[] }, { accessFlags := 26, nameIndex := 176, descriptorIndex := 173, attributes := #[] }, { accessFlags := 8, nameIndex := 344, descriptorIndex := 339, attributes := #[] }, { accessFlags := 8, nameIndex := 338, descriptorIndex := 339, attributes := #[] }, { accessFlags := 4120, nameIndex := 245, descriptorIndex := 246, attributes := #[] }])
  fields := #[{ name := "E", type := .double, accessFlags := 25, slot := 0, constantValue := 0 }, { name := "PI", type := .double, accessFlags := 25, slot := 1, constantValue := 0 }, { name := "TAU", type := .double, accessFlags := 25, slot := 2, constantValue := 0 }, { name := "DEGREES_TO_RADIANS", type := .double, accessFlags := 26, slot := 3, constantValue := 0 }, { name := "RADIANS_TO_DEGREES", type := .double, accessFlags := 26, slot := 4, constantValue := 0 }, { name := "negativeZeroFloatBits", type := .long, accessFlags := 26, slot := 5, constantValue := 0 }, { name := "negativeZeroDoubleBits", type := .long, accessFlags := 26, slot := 6, constantValue := 0 }, { name := "twoToTheDoubleScaleUp", type := .double, accessFlags := 8, slot := 7, constantValue := 0 }, { name := "twoToTheDoubleScaleDown", type := .double, accessFlags := 8, slot := 8, constantValue := 0 }, { name := "$assertionsDisabled", type := .boolean, accessFlags := 4120, slot := 9, constantValue := 0 }]
  methods := #[k14m0, k14m1]
  instanceTypes := #[]
  staticTypes := #[.double, .double, .double, .double, .double, .long, .long, .double, .double, .boolean]
  resolved := Array.replicate 460 none
  statics := none }

def pool15 : Array CpInfo := pool [(1, .methodref 2 3), (0, .class_ 4), (0, .nameAndType 5 6), (0, u "java/lang/Object"), (0, u "<init>"), (0, u "()V"), (0, .interfaceMethodref 8 9), (0, .class_ 10), (0, .nameAndType 11 12), (0, u "java/util/List"), (0, u "size"), (0, u "()I"), (0, .fieldref 14 15), (0, .class_ 16), (0, .nameAndType 17 18), (0, u "com/example/darlington/darlington/core/StateLayout"), (0, u "wordOf"), (0, u "[I"), (0, .fieldref 14 20), (0, .nameAndType 21 18), (0, u "shiftOf"), (0, .fieldref 14 23), (0, .nameAndType 24 25), (0, u "maskOf"), (0, u "[J"), (0, .fieldref 14 27), (0, .nameAndType 28 18), (0, u "firstOf"), (0, .interfaceMethodref 8 30), (0, .nameAndType 31 32), (0, u "get"), (0, u "(I)Ljava/lang/Object;"), (0, .class_ 34), (0, u "com/example/darlington/darlington/core/FiniteType"), (0, .class_ 36), (0, u "java/lang/Integer"), (0, .methodref 33 9), (0, .methodref 35 39), (0, .nameAndType 40 41), (0, u "numberOfLeadingZeros"), (0, u "(I)I"), (2, .methodref 33 45), (0, .nameAndType 46 41), (0, u "valueAt"), (0, .fieldref 14 48), (0, .nameAndType 49 50), (0, u "wordsPerState"), (0, u "I"), (35, u "(Ljava/util/List;)V"), (0, .methodref 88 89), (0, .class_ 90), (0, .nameAndType 91 92), (0, u "java/util/Arrays"), (0, u "fill"), (0, u "([JIIJ)V"), (21, u "pack"), (0, u "([I[JI)V"), (2, u "unpack"), (0, u "([JI[I)V")] 6

def k15c0 : Code := { maxStack := 6, maxLocals := 8, code := prog_74_method_1_code, exceptionTable := #[], attributes := #[] }
def k15m0 : Method := { name := "<init>", desc := "(Ljava/util/List;)V", sig := { parameters := [(.object "java/util/List")], returnType := none }, accessFlags := 0, code := some k15c0 }
def k15c1 : Code := { maxStack := 8, maxLocals := 5, code := prog_74_method_4_code, exceptionTable := #[], attributes := #[] }
def k15m1 : Method := { name := "pack", desc := "([I[JI)V", sig := { parameters := [(.array .int), (.array .long), .int], returnType := none }, accessFlags := 0, code := some k15c1 }
def k15c2 : Code := { maxStack := 5, maxLocals := 7, code := prog_74_method_6_code, exceptionTable := #[], attributes := #[] }
def k15m2 : Method := { name := "unpack", desc := "([JI[I)V", sig := { parameters := [(.array .long), .int, (.array .int)], returnType := none }, accessFlags := 0, code := some k15c2 }
/-- com/example/darlington/darlington/core/StateLayout -/
def k15 : Class := { plain "com/example/darlington/darlington/core/StateLayout" (some 0) with
  accessFlags := 48
  interfaces := #[]
  cf := some (fileOf pool15 14 #[] #[{ accessFlags := 0, nameIndex := 5, descriptorIndex := 86, attributes := #[] }, { accessFlags := 0, nameIndex := 114, descriptorIndex := 115, attributes := #[] }, { accessFlags := 0, nameIndex := 118, descriptorIndex := 119, attributes := #[] }] 48 2 #[] #[{ accessFlags := 18, nameIndex := 17, descriptorIndex := 18, attributes := #[] }, { accessFlags := 18, nameIndex := 21, descriptorIndex := 18, attributes := #[] }, { accessFlags := 18, nameIndex := 24, descriptorIndex := 25, attributes := #[] }, { accessFlags := 18, nameIndex := 28, descriptorIndex := 18, attributes := #[] }, { accessFlags := 18, nameIndex := 49, descriptorIndex := 50, attributes := #[] }])
  fields := #[{ name := "wordOf", type := (.array .int), accessFlags := 18, slot := 0, constantValue := 0 }, { name := "shiftOf", type := (.array .int), accessFlags := 18, slot := 1, constantValue := 0 }, { name := "maskOf", type := (.array .long), accessFlags := 18, slot := 2, constantValue := 0 }, { name := "firstOf", type := (.array .int), accessFlags := 18, slot := 3, constantValue := 0 }, { name := "wordsPerState", type := .int, accessFlags := 18, slot := 4, constantValue := 0 }]
  methods := #[k15m0, k15m1, k15m2]
  instanceTypes := #[(.array .int), (.array .int), (.array .long), (.array .int), .int]
  staticTypes := #[]
  resolved := Array.replicate 126 none
  statics := none }

def pool16 : Array CpInfo := pool [(2, .class_ 4), (1, u "java/lang/Object"), (0, u "<init>"), (0, u "()V"), (35, .class_ 44), (1, u "java/util/Objects"), (60, .methodref 106 107), (0, .class_ 108), (0, .nameAndType 109 110), (0, u "jdk/internal/util/Preconditions"), (0, u "checkIndex"), (0, u "(IILjava/util/function/BiFunction;)I"), (60, u "(II)I")] 12

def k16m0 : Method := { name := "<init>", desc := "()V", sig := { parameters := [], returnType := none }, accessFlags := 2, code := none }
def k16c1 : Code := { maxStack := 3, maxLocals := 2, code := jdk_31_method_17_code, exceptionTable := #[], attributes := #[] }
def k16m1 : Method := { name := "checkIndex", desc := "(II)I", sig := { parameters := [.int, .int], returnType := some .int }, accessFlags := 9, code := some k16c1 }
/-- java/util/Objects -/
def k16 : Class := { plain "java/util/Objects" (some 0) with
  accessFlags := 49
  interfaces := #[]
  cf := some (fileOf pool16 42 #[] #[{ accessFlags := 2, nameIndex := 5, descriptorIndex := 6, attributes := #[] }, { accessFlags := 9, nameIndex := 109, descriptorIndex := 171, attributes := #[] }] 49 2 #[] #[])
  fields := #[]
  methods := #[k16m0, k16m1]
  instanceTypes := #[]
  staticTypes := #[]
  resolved := Array.replicate 184 none
  statics := none }

def pool17 : Array CpInfo := pool [(2, .class_ 4), (1, u "java/lang/Object"), (0, u "<init>"), (0, u "()V"), (17, .class_ 26), (1, u "jdk/internal/util/Preconditions"), (6, u "checkIndex"), (21, .class_ 56), (0, u "jdk/internal/util/Preconditions$4"), (57, .class_ 115), (0, u "jdk/internal/util/Preconditions$1"), (7, u "SIOOBE_FORMATTER"), (0, u "Ljava/util/function/BiFunction;"), (0, .class_ 126), (0, u "jdk/internal/util/Preconditions$2"), (3, u "AIOOBE_FORMATTER"), (0, .class_ 132), (0, u "jdk/internal/util/Preconditions$3"), (3, u "IOOBE_FORMATTER"), (41, u "(IILjava/util/function/BiFunction;)I")] 15

def k17m0 : Method := { name := "<init>", desc := "()V", sig := { parameters := [], returnType := none }, accessFlags := 1, code := none }
def k17c1 : Code := { maxStack := 3, maxLocals := 3, code := jdk_41_method_11_code, exceptionTable := #[], attributes := #[] }
def k17m1 : Method := { name := "checkIndex", desc := "(IILjava/util/function/BiFunction;)I", sig := { parameters := [.int, .int, (.object "java/util/function/BiFunction")], returnType := some .int }, accessFlags := 9, code := some k17c1 }
/-- jdk/internal/util/Preconditions -/
def k17 : Class := { plain "jdk/internal/util/Preconditions" (some 0) with
  accessFlags := 33
  interfaces := #[]
  cf := some (fileOf pool17 24 #[.nestMembers #[55, 131, 125, 114]] #[{ accessFlags := 1, nameIndex := 5, descriptorIndex := 6, attributes := #[] }, { accessFlags := 9, nameIndex := 33, descriptorIndex := 178, attributes := #[] }] 33 2 #[] #[{ accessFlags := 25, nameIndex := 123, descriptorIndex := 124, attributes := #[] }, { accessFlags := 25, nameIndex := 130, descriptorIndex := 124, attributes := #[] }, { accessFlags := 25, nameIndex := 136, descriptorIndex := 124, attributes := #[] }])
  fields := #[{ name := "SIOOBE_FORMATTER", type := (.object "java/util/function/BiFunction"), accessFlags := 25, slot := 0, constantValue := 0 }, { name := "AIOOBE_FORMATTER", type := (.object "java/util/function/BiFunction"), accessFlags := 25, slot := 1, constantValue := 0 }, { name := "IOOBE_FORMATTER", type := (.object "java/util/function/BiFunction"), accessFlags := 25, slot := 2, constantValue := 0 }]
  methods := #[k17m0, k17m1]
  instanceTypes := #[]
  staticTypes := #[(.object "java/util/function/BiFunction"), (.object "java/util/function/BiFunction"), (.object "java/util/function/BiFunction")]
  resolved := Array.replicate 194 none
  statics := none }

def pool18 : Array CpInfo := pool [(2, .class_ 4), (1, u "java/lang/Object"), (0, u "<init>"), (0, u "()V"), (1, .class_ 10), (1, u "java/lang/Number"), (2, .class_ 14), (0, u "java/io/Serializable"), (0, u "serialVersionUID"), (0, u "J")] 20

def k18m0 : Method := { name := "<init>", desc := "()V", sig := { parameters := [], returnType := none }, accessFlags := 1, code := none }
/-- java/lang/Number -/
def k18 : Class := { plain "java/lang/Number" (some 0) with
  accessFlags := 1057
  interfaces := #[10]
  cf := some (fileOf pool18 8 #[] #[{ accessFlags := 1, nameIndex := 5, descriptorIndex := 6, attributes := #[] }] 1057 2 #[13] #[{ accessFlags := 26, nameIndex := 15, descriptorIndex := 16, attributes := #[] }])
  fields := #[{ name := "serialVersionUID", type := .long, accessFlags := 26, slot := 0, constantValue := 0 }]
  methods := #[k18m0]
  instanceTypes := #[]
  staticTypes := #[.long]
  resolved := Array.replicate 37 none
  statics := none }

def pool19 : Array CpInfo := pool [(1, .class_ 2), (0, u "java/lang/Comparable"), (0, .class_ 4), (0, u "java/lang/Object")] 7

/-- java/lang/Comparable -/
def k19 : Class := { plain "java/lang/Comparable" (some 0) with
  accessFlags := 1537
  interfaces := #[]
  cf := some (fileOf pool19 1 #[] #[] 1537 3 #[] #[])
  fields := #[]
  methods := #[]
  instanceTypes := #[]
  staticTypes := #[]
  resolved := Array.replicate 12 none
  statics := none }

def pool20 : Array CpInfo := pool [(1, .class_ 2), (0, u "java/lang/constant/Constable"), (0, .class_ 4), (0, u "java/lang/Object")] 6

/-- java/lang/constant/Constable -/
def k20 : Class := { plain "java/lang/constant/Constable" (some 0) with
  accessFlags := 1537
  interfaces := #[]
  cf := some (fileOf pool20 1 #[] #[] 1537 3 #[] #[])
  fields := #[]
  methods := #[]
  instanceTypes := #[]
  staticTypes := #[]
  resolved := Array.replicate 11 none
  statics := none }

def pool21 : Array CpInfo := pool [(1, .class_ 2), (0, u "java/lang/constant/ConstantDesc"), (0, .class_ 4), (0, u "java/lang/Object")] 32

/-- java/lang/constant/ConstantDesc -/
def k21 : Class := { plain "java/lang/constant/ConstantDesc" (some 0) with
  accessFlags := 1537
  interfaces := #[]
  cf := some (fileOf pool21 1 #[] #[] 1537 3 #[] #[])
  fields := #[]
  methods := #[]
  instanceTypes := #[]
  staticTypes := #[]
  resolved := Array.replicate 37 none
  statics := none }

def pool22 : Array CpInfo := pool [(1, .class_ 2), (0, u "java/lang/Integer"), (16, u "digits"), (0, u "[C"), (32, u "numberOfLeadingZeros"), (0, u "(I)I"), (30, u "DigitOnes"), (0, u "[B"), (2, u "DigitTens"), (99, .class_ 190), (0, u "java/lang/Integer$IntegerCache"), (3, u "I"), (8, .class_ 204), (0, u "java/lang/Number"), (2, u "value"), (56, .integer 65536), (37, u "TYPE"), (0, u "Ljava/lang/Class;"), (0, .class_ 305), (0, u "java/lang/Comparable"), (0, .class_ 307), (0, u "java/lang/constant/Constable"), (0, .class_ 309), (0, u "java/lang/constant/ConstantDesc"), (0, u "MIN_VALUE"), (1, u "MAX_VALUE"), (3, u "SIZE"), (1, u "BYTES"), (1, u "serialVersionUID"), (0, u "J")] 131

def k22c0 : Code := { maxStack := 3, maxLocals := 2, code := jdk_33_method_47_code, exceptionTable := #[], attributes := #[] }
def k22m0 : Method := { name := "numberOfLeadingZeros", desc := "(I)I", sig := { parameters := [.int], returnType := some .int }, accessFlags := 9, code := some k22c0 }
/-- java/lang/Integer -/
def k22 : Class := { plain "java/lang/Integer" (some 18) with
  accessFlags := 49
  interfaces := #[19, 20, 21]
  cf := some (fileOf pool22 1 #[.nestMembers #[189]] #[{ accessFlags := 9, nameIndex := 53, descriptorIndex := 54, attributes := #[] }] 49 203 #[304, 306, 308] #[{ accessFlags := 25, nameIndex := 310, descriptorIndex := 194, attributes := #[] }, { accessFlags := 25, nameIndex := 312, descriptorIndex := 194, attributes := #[] }, { accessFlags := 25, nameIndex := 302, descriptorIndex := 303, attributes := #[] }, { accessFlags := 24, nameIndex := 19, descriptorIndex := 20, attributes := #[] }, { accessFlags := 24, nameIndex := 89, descriptorIndex := 86, attributes := #[] }, { accessFlags := 24, nameIndex := 85, descriptorIndex := 86, attributes := #[] }, { accessFlags := 18, nameIndex := 207, descriptorIndex := 194, attributes := #[] }, { accessFlags := 25, nameIndex := 316, descriptorIndex := 194, attributes := #[] }, { accessFlags := 25, nameIndex := 318, descriptorIndex := 194, attributes := #[] }, { accessFlags := 26, nameIndex := 320, descriptorIndex := 321, attributes := #[] }])
  fields := #[{ name := "MIN_VALUE", type := .int, accessFlags := 25, slot := 0, constantValue := 0 }, { name := "MAX_VALUE", type := .int, accessFlags := 25, slot := 1, constantValue := 0 }, { name := "TYPE", type := (.object "java/lang/Class"), accessFlags := 25, slot := 2, constantValue := 0 }, { name := "digits", type := (.array .char), accessFlags := 24, slot := 3, constantValue := 0 }, { name := "DigitTens", type := (.array .byte), accessFlags := 24, slot := 4, constantValue := 0 }, { name := "DigitOnes", type := (.array .byte), accessFlags := 24, slot := 5, constantValue := 0 }, { name := "value", type := .int, accessFlags := 18, slot := 0, constantValue := 0 }, { name := "SIZE", type := .int, accessFlags := 25, slot := 6, constantValue := 0 }, { name := "BYTES", type := .int, accessFlags := 25, slot := 7, constantValue := 0 }, { name := "serialVersionUID", type := .long, accessFlags := 26, slot := 8, constantValue := 0 }]
  methods := #[k22m0]
  instanceTypes := #[.int]
  staticTypes := #[.int, .int, (.object "java/lang/Class"), (.array .char), (.array .byte), (.array .byte), .int, .int, .long]
  resolved := Array.replicate 453 none
  statics := none }

def pool23 : Array CpInfo := pool [(2, .class_ 4), (1, u "java/lang/Object"), (0, u "<init>"), (0, u "()V"), (6, .methodref 14 15), (0, .class_ 16), (0, .nameAndType 17 18), (0, u "java/util/Arrays"), (0, u "rangeCheck"), (0, u "(III)V"), (55, .class_ 76), (1, u "java/util/Arrays$NaturalOrder"), (36, .class_ 115), (1, u "java/util/Arrays$LegacyMergeSort"), (1, u "Z"), (257, .class_ 376), (0, u "java/util/Arrays$ArrayList"), (68, u "$assertionsDisabled"), (269, u "MIN_ARRAY_SORT_GRAN"), (0, u "I"), (2, u "INSERTIONSORT_THRESHOLD"), (120, u "fill"), (3, u "([JIIJ)V"), (130, .class_ 976), (0, u "java/util/Arrays$ArrayItr")] 52

def k23m0 : Method := { name := "<init>", desc := "()V", sig := { parameters := [], returnType := none }, accessFlags := 2, code := none }
def k23c1 : Code := { maxStack := 4, maxLocals := 3, code := jdk_65_method_30_code, exceptionTable := #[], attributes := #[] }
def k23m1 : Method := { name := "rangeCheck", desc := "(III)V", sig := { parameters := [.int, .int, .int], returnType := none }, accessFlags := 8, code := some k23c1 }
def k23c2 : Code := { maxStack := 4, maxLocals := 6, code := jdk_65_method_102_code, exceptionTable := #[], attributes := #[] }
def k23m2 : Method := { name := "fill", desc := "([JIIJ)V", sig := { parameters := [(.array .long), .int, .int, .long], returnType := none }, accessFlags := 9, code := some k23c2 }
/-- java/util/Arrays -/
def k23 : Class := { plain "java/util/Arrays" (some 0) with
  accessFlags := 49
  interfaces := #[]
  cf := some (fileOf pool23 14 #[.nestMembers #[975, 375, 113, 74]] #[{ accessFlags := 2, nameIndex := 5, descriptorIndex := 6, attributes := #[] }, { accessFlags := 8, nameIndex := 17, descriptorIndex := 18, attributes := #[] }, { accessFlags := 9, nameIndex := 840, descriptorIndex := 844, attributes := #[] }] 49 2 #[] #[{ accessFlags := 26, nameIndex := 715, descriptorIndex := 716, attributes := #[] }, { accessFlags := 26, nameIndex := 719, descriptorIndex := 716, attributes := #[] }, { accessFlags := 4120, nameIndex := 445, descriptorIndex := 117, attributes := #[] }])
  fields := #[{ name := "MIN_ARRAY_SORT_GRAN", type := .int, accessFlags := 26, slot := 0, constantValue := 0 }, { name := "INSERTIONSORT_THRESHOLD", type := .int, accessFlags := 26, slot := 1, constantValue := 0 }, { name := "$assertionsDisabled", type := .boolean, accessFlags := 4120, slot := 2, constantValue := 0 }]
  methods := #[k23m0, k23m1, k23m2]
  instanceTypes := #[]
  staticTypes := #[.int, .int, .boolean]
  resolved := Array.replicate 1029 none
  statics := none }

/-- the primitive byte -/
def k24 : Class := { plain "byte" none with kind := .primitive 'B', accessFlags := 0x411 }
/-- [B -/
def k25 : Class := { plain "[B" (some 0) with kind := .array 24 .byte, interfaces := #[9, 10], accessFlags := 1041 }

/-- the primitive int -/
def k26 : Class := { plain "int" none with kind := .primitive 'I', accessFlags := 0x411 }
/-- [I -/
def k27 : Class := { plain "[I" (some 0) with kind := .array 26 .int, interfaces := #[9, 10], accessFlags := 1041 }

/-- the primitive long -/
def k28 : Class := { plain "long" none with kind := .primitive 'J', accessFlags := 0x411 }
/-- [J -/
def k29 : Class := { plain "[J" (some 0) with kind := .array 28 .long, interfaces := #[9, 10], accessFlags := 1041 }

/-- [Ljava/lang/Object; -/
def k30 : Class := { plain "[Ljava/lang/Object;" (some 0) with kind := .array 0 (.object "java/lang/Object"), interfaces := #[9, 10], accessFlags := 1041 }

def heap : Heap := #[{ cls := 11, slots := #[.long 0, .int 0, .ref 1, .ref 2], vm := .statics 11 },
  { cls := 30, slots := #[], vm := .none },
  { cls := 30, slots := #[], vm := .none }]
def classes : Array Class := #[k0, k1, k2, k3, k4, k5, k6, k7, k8, k9, k10, k11, k12, k13, k14, k15, k16, k17, k18, k19, k20, k21, k22, k23, k24, k25, k26, k27, k28, k29, k30]
def interned : List (Array UInt16 × Addr) := []
def slotsUsed : Nat := 4
def theMethod : MethodId := ⟨1, 1⟩
def args0 : Array Value := #[.long 5, .long 6, .long 7, .long 8, .long 9, .int 1]
def aboutOver (below : List Frame) : State where
  vm := { classes := classes, interned := interned.toArray }
  heap := heap
  slotsUsed := slotsUsed
  threads := #[{ frames := .invoking theMethod args0 :: below }]
def below0 : List Frame := [.native { method := ⟨0, 0⟩, args := #[] }]
def about1 : State := aboutOver below0
def p0 : Program := .bare "" "" ""
def e0 : Env := launch0.env 0 0 0
theorem w_frames : about1.frames = Frame.invoking theMethod args0 :: below0 := rfl
set_option maxRecDepth 65536 in
theorem w_args : argsFit about1.vm theMethod args0 = true := by decide +kernel
set_option maxRecDepth 65536 in
theorem w_heap : heapFits about1 = true := by decide +kernel
set_option maxRecDepth 65536 in
theorem w_runnable : about1.curStatus? = some .runnable := by decide +kernel
set_option maxRecDepth 65536 in
theorem w_alone : about1.alone = true := by decide +kernel
set_option maxRecDepth 65536 in
theorem w_named : about1.methodNamed? x = some theMethod := by decide +kernel
set_option maxRecDepth 65536 in
theorem w_hears : about1.hears theMethod below0 = true := by decide +kernel
set_option maxRecDepth 65536 in
theorem w_ripe : about1.ripe theMethod args0 below0 = true := by decide +kernel
theorem w_running : about1.status = .running := rfl
set_option maxRecDepth 65536 in
theorem w_room : about1.hasRoom e0.platform room_1 = true :=
  launch0.hasRoom_least _ room_1 (by decide +kernel) (by decide +kernel) (by decide +kernel) (by decide +kernel) (by decide +kernel) (by decide +kernel)
theorem allAtoms_all (ts : List Jvm.Cond) (a : Array Jvm.Value) (st : Jvm.State) : (allAtoms ts).before a st = ts.all (fun c => c.before a st) := by
  induction ts with
  | nil => rfl
  | cons c t ih =>
    show (Jvm.Cond.and c (allAtoms t)).before a st = _
    rw [Jvm.Cond.before_and, ih, List.all_cons]
def words1 : List Jvm.Cond := Jvm.Cond.code x code maxLocals ret :: tables_1
/-- a 'code' word, met by the world's own term for the bytes: nothing is compared byte by byte -/
theorem code_word {y : MethodName} {bytes : ByteArray} {mx : Nat} {rt : Option FieldType} {a : Array Value} {s : State} {m : MethodId} {meth : Method} {c : Code} (h1 : s.methodNamed? y = some m) (h2 : s.vm.method? m = some meth) (h3 : meth.code = some c) (h4 : c.code = bytes)
    (h5 : (c.maxLocals == mx && c.exceptionTable.isEmpty && decide (c.maxStack ≤ mostOperands) && decide (meth.sig.returnType = rt) && !meth.locks && decide (parseMethodDescriptor y.desc = some meth.sig)) = true) : (Jvm.Cond.code y bytes mx rt).before a s = true := by
  simp only [Bool.and_eq_true, beq_iff_eq, Bool.not_eq_true', decide_eq_true_eq] at h5
  obtain ⟨⟨⟨⟨⟨g1, g2⟩, g3⟩, g4⟩, g5⟩, g6⟩ := h5
  simp [Cond.before, Cond.holds, Cond.value, h1, h2, h3, h4, g1, g2, g3, g4, g5, g6]
def isCode : Jvm.Cond → Bool
  | .code _ _ _ _ => true
  | _ => false
theorem all_split {L : List Jvm.Cond} {P : Jvm.Cond → Bool} (h1 : L.all (fun c => isCode c || P c) = true) (h2 : ∀ c ∈ L.filter isCode, P c = true) : L.all P = true := by
  refine List.all_eq_true.mpr fun c hc => ?_
  have h := List.all_eq_true.mp h1 c hc
  rcases Bool.eq_false_or_eq_true (isCode c) with hi | hi
  · exact h2 c (List.mem_filter.mpr ⟨hc, hi⟩)
  · simpa [hi] using h
set_option maxRecDepth 65536 in
theorem w_c0 : (Jvm.Cond.code x code maxLocals ret).before args0 about1 = true := code_word (m := ⟨1, 1⟩) (meth := k1m1) (c := k1c1) (by decide +kernel) rfl rfl rfl (by decide +kernel)
set_option maxRecDepth 65536 in
theorem w_c1 : (Jvm.Cond.code ({ cls := "com/example/darlington/darlington/core/StateLayoutUnpackPinLaw", name := "span", desc := "(JI)I" } : Jvm.MethodName) method_3_code (4 : Nat) (Option.some Jvm.ClassFile.FieldType.int)).before args0 about1 = true := code_word (m := ⟨1, 2⟩) (meth := k1m2) (c := k1c2) (by decide +kernel) rfl rfl rfl (by decide +kernel)
set_option maxRecDepth 65536 in
theorem w_c2 : (Jvm.Cond.code ({ cls := "com/example/darlington/darlington/core/StateLayoutUnpackPinLaw", name := "low", desc := "(JI)I" } : Jvm.MethodName) method_4_code (4 : Nat) (Option.some Jvm.ClassFile.FieldType.int)).before args0 about1 = true := code_word (m := ⟨1, 3⟩) (meth := k1m3) (c := k1c3) (by decide +kernel) rfl rfl rfl (by decide +kernel)
set_option maxRecDepth 65536 in
theorem w_c3 : (Jvm.Cond.code ({ cls := "com/example/darlington/darlington/core/StateLayoutUnpackPinLaw", name := "value", desc := "(IIJ)I" } : Jvm.MethodName) method_5_code (6 : Nat) (Option.some Jvm.ClassFile.FieldType.int)).before args0 about1 = true := code_word (m := ⟨1, 4⟩) (meth := k1m4) (c := k1c4) (by decide +kernel) rfl rfl rfl (by decide +kernel)
set_option maxRecDepth 65536 in
theorem w_c4 : (Jvm.Cond.code ({ cls := "java/util/ArrayList", name := "<init>", desc := "()V" } : Jvm.MethodName) jdk_38_method_2_code (1 : Nat) (Option.none : Option Jvm.ClassFile.FieldType)).before args0 about1 = true := code_word (m := ⟨11, 0⟩) (meth := k11m0) (c := k11c0) (by decide +kernel) rfl rfl rfl (by decide +kernel)
set_option maxRecDepth 65536 in
theorem w_c5 : (Jvm.Cond.code ({ cls := "java/util/AbstractList", name := "<init>", desc := "()V" } : Jvm.MethodName) jdk_39_method_1_code (1 : Nat) (Option.none : Option Jvm.ClassFile.FieldType)).before args0 about1 = true := code_word (m := ⟨7, 0⟩) (meth := k7m0) (c := k7c0) (by decide +kernel) rfl rfl rfl (by decide +kernel)
set_option maxRecDepth 65536 in
theorem w_c6 : (Jvm.Cond.code ({ cls := "java/util/AbstractCollection", name := "<init>", desc := "()V" } : Jvm.MethodName) jdk_22_method_1_code (1 : Nat) (Option.none : Option Jvm.ClassFile.FieldType)).before args0 about1 = true := code_word (m := ⟨4, 0⟩) (meth := k4m0) (c := k4c0) (by decide +kernel) rfl rfl rfl (by decide +kernel)
set_option maxRecDepth 65536 in
theorem w_c7 : (Jvm.Cond.code ({ cls := "java/lang/Object", name := "<init>", desc := "()V" } : Jvm.MethodName) object_method_1_code (1 : Nat) (Option.none : Option Jvm.ClassFile.FieldType)).before args0 about1 = true := code_word (m := ⟨0, 0⟩) (meth := k0m0) (c := k0c0) (by decide +kernel) rfl rfl rfl (by decide +kernel)
set_option maxRecDepth 65536 in
theorem w_c8 : (Jvm.Cond.code ({ cls := "com/example/darlington/darlington/core/IntegerRange", name := "<init>", desc := "(II)V" } : Jvm.MethodName) prog_55_method_1_code (3 : Nat) (Option.none : Option Jvm.ClassFile.FieldType)).before args0 about1 = true := code_word (m := ⟨13, 0⟩) (meth := k13m0) (c := k13c0) (by decide +kernel) rfl rfl rfl (by decide +kernel)
set_option maxRecDepth 65536 in
theorem w_c9 : (Jvm.Cond.code ({ cls := "com/example/darlington/darlington/core/IntegerRange", name := "checkedSize", desc := "(II)I" } : Jvm.MethodName) prog_55_method_2_code (4 : Nat) (Option.some Jvm.ClassFile.FieldType.int)).before args0 about1 = true := code_word (m := ⟨13, 1⟩) (meth := k13m1) (c := k13c1) (by decide +kernel) rfl rfl rfl (by decide +kernel)
set_option maxRecDepth 65536 in
theorem w_c10 : (Jvm.Cond.code ({ cls := "com/example/darlington/darlington/core/FiniteType", name := "<init>", desc := "(II)V" } : Jvm.MethodName) prog_45_method_1_code (3 : Nat) (Option.none : Option Jvm.ClassFile.FieldType)).before args0 about1 = true := code_word (m := ⟨12, 0⟩) (meth := k12m0) (c := k12c0) (by decide +kernel) rfl rfl rfl (by decide +kernel)
set_option maxRecDepth 65536 in
theorem w_c11 : (Jvm.Cond.code ({ cls := "java/util/ArrayList", name := "add", desc := "(Ljava/lang/Object;)Z" } : Jvm.MethodName) jdk_38_method_25_code (2 : Nat) (Option.some Jvm.ClassFile.FieldType.boolean)).before args0 about1 = true := code_word (m := ⟨11, 7⟩) (meth := k11m7) (c := k11c7) (by decide +kernel) rfl rfl rfl (by decide +kernel)
set_option maxRecDepth 65536 in
theorem w_c12 : (Jvm.Cond.code ({ cls := "java/util/ArrayList", name := "add", desc := "(Ljava/lang/Object;[Ljava/lang/Object;I)V" } : Jvm.MethodName) jdk_38_method_24_code (4 : Nat) (Option.none : Option Jvm.ClassFile.FieldType)).before args0 about1 = true := code_word (m := ⟨11, 6⟩) (meth := k11m6) (c := k11c6) (by decide +kernel) rfl rfl rfl (by decide +kernel)
set_option maxRecDepth 65536 in
theorem w_c13 : (Jvm.Cond.code ({ cls := "java/util/ArrayList", name := "grow", desc := "()[Ljava/lang/Object;" } : Jvm.MethodName) jdk_38_method_7_code (1 : Nat) (Option.some (Jvm.ClassFile.FieldType.array (Jvm.ClassFile.FieldType.object "java/lang/Object")))).before args0 about1 = true := code_word (m := ⟨11, 2⟩) (meth := k11m2) (c := k11c2) (by decide +kernel) rfl rfl rfl (by decide +kernel)
set_option maxRecDepth 65536 in
theorem w_c14 : (Jvm.Cond.code ({ cls := "java/util/ArrayList", name := "grow", desc := "(I)[Ljava/lang/Object;" } : Jvm.MethodName) jdk_38_method_6_code (4 : Nat) (Option.some (Jvm.ClassFile.FieldType.array (Jvm.ClassFile.FieldType.object "java/lang/Object")))).before args0 about1 = true := code_word (m := ⟨11, 1⟩) (meth := k11m1) (c := k11c1) (by decide +kernel) rfl rfl rfl (by decide +kernel)
set_option maxRecDepth 65536 in
theorem w_c15 : (Jvm.Cond.code ({ cls := "java/lang/Math", name := "max", desc := "(II)I" } : Jvm.MethodName) jdk_29_method_65_code (2 : Nat) (Option.some Jvm.ClassFile.FieldType.int)).before args0 about1 = true := code_word (m := ⟨14, 1⟩) (meth := k14m1) (c := k14c1) (by decide +kernel) rfl rfl rfl (by decide +kernel)
set_option maxRecDepth 65536 in
theorem w_c16 : (Jvm.Cond.code ({ cls := "com/example/darlington/darlington/core/StateLayout", name := "<init>", desc := "(Ljava/util/List;)V" } : Jvm.MethodName) prog_74_method_1_code (8 : Nat) (Option.none : Option Jvm.ClassFile.FieldType)).before args0 about1 = true := code_word (m := ⟨15, 0⟩) (meth := k15m0) (c := k15c0) (by decide +kernel) rfl rfl rfl (by decide +kernel)
set_option maxRecDepth 65536 in
theorem w_c17 : (Jvm.Cond.code ({ cls := "java/util/ArrayList", name := "size", desc := "()I" } : Jvm.MethodName) jdk_38_method_8_code (1 : Nat) (Option.some Jvm.ClassFile.FieldType.int)).before args0 about1 = true := code_word (m := ⟨11, 3⟩) (meth := k11m3) (c := k11c3) (by decide +kernel) rfl rfl rfl (by decide +kernel)
set_option maxRecDepth 65536 in
theorem w_c18 : (Jvm.Cond.code ({ cls := "java/util/ArrayList", name := "get", desc := "(I)Ljava/lang/Object;" } : Jvm.MethodName) jdk_38_method_20_code (2 : Nat) (Option.some (Jvm.ClassFile.FieldType.object "java/lang/Object"))).before args0 about1 = true := code_word (m := ⟨11, 5⟩) (meth := k11m5) (c := k11c5) (by decide +kernel) rfl rfl rfl (by decide +kernel)
set_option maxRecDepth 65536 in
theorem w_c19 : (Jvm.Cond.code ({ cls := "java/util/Objects", name := "checkIndex", desc := "(II)I" } : Jvm.MethodName) jdk_31_method_17_code (2 : Nat) (Option.some Jvm.ClassFile.FieldType.int)).before args0 about1 = true := code_word (m := ⟨16, 1⟩) (meth := k16m1) (c := k16c1) (by decide +kernel) rfl rfl rfl (by decide +kernel)
set_option maxRecDepth 65536 in
theorem w_c20 : (Jvm.Cond.code ({ cls := "jdk/internal/util/Preconditions", name := "checkIndex", desc := "(IILjava/util/function/BiFunction;)I" } : Jvm.MethodName) jdk_41_method_11_code (3 : Nat) (Option.some Jvm.ClassFile.FieldType.int)).before args0 about1 = true := code_word (m := ⟨17, 1⟩) (meth := k17m1) (c := k17c1) (by decide +kernel) rfl rfl rfl (by decide +kernel)
set_option maxRecDepth 65536 in
theorem w_c21 : (Jvm.Cond.code ({ cls := "java/util/ArrayList", name := "elementData", desc := "(I)Ljava/lang/Object;" } : Jvm.MethodName) jdk_38_method_18_code (2 : Nat) (Option.some (Jvm.ClassFile.FieldType.object "java/lang/Object"))).before args0 about1 = true := code_word (m := ⟨11, 4⟩) (meth := k11m4) (c := k11c4) (by decide +kernel) rfl rfl rfl (by decide +kernel)
set_option maxRecDepth 65536 in
theorem w_c22 : (Jvm.Cond.code ({ cls := "com/example/darlington/darlington/core/FiniteType", name := "size", desc := "()I" } : Jvm.MethodName) prog_45_method_2_code (1 : Nat) (Option.some Jvm.ClassFile.FieldType.int)).before args0 about1 = true := code_word (m := ⟨12, 1⟩) (meth := k12m1) (c := k12c1) (by decide +kernel) rfl rfl rfl (by decide +kernel)
set_option maxRecDepth 65536 in
theorem w_c23 : (Jvm.Cond.code ({ cls := "java/lang/Integer", name := "numberOfLeadingZeros", desc := "(I)I" } : Jvm.MethodName) jdk_33_method_47_code (2 : Nat) (Option.some Jvm.ClassFile.FieldType.int)).before args0 about1 = true := code_word (m := ⟨22, 0⟩) (meth := k22m0) (c := k22c0) (by decide +kernel) rfl rfl rfl (by decide +kernel)
set_option maxRecDepth 65536 in
theorem w_c24 : (Jvm.Cond.code ({ cls := "com/example/darlington/darlington/core/FiniteType", name := "valueAt", desc := "(I)I" } : Jvm.MethodName) prog_45_method_3_code (2 : Nat) (Option.some Jvm.ClassFile.FieldType.int)).before args0 about1 = true := code_word (m := ⟨12, 2⟩) (meth := k12m2) (c := k12c2) (by decide +kernel) rfl rfl rfl (by decide +kernel)
set_option maxRecDepth 65536 in
theorem w_c25 : (Jvm.Cond.code ({ cls := "com/example/darlington/darlington/core/StateLayout", name := "pack", desc := "([I[JI)V" } : Jvm.MethodName) prog_74_method_4_code (5 : Nat) (Option.none : Option Jvm.ClassFile.FieldType)).before args0 about1 = true := code_word (m := ⟨15, 1⟩) (meth := k15m1) (c := k15c1) (by decide +kernel) rfl rfl rfl (by decide +kernel)
set_option maxRecDepth 65536 in
theorem w_c26 : (Jvm.Cond.code ({ cls := "java/util/Arrays", name := "fill", desc := "([JIIJ)V" } : Jvm.MethodName) jdk_65_method_102_code (6 : Nat) (Option.none : Option Jvm.ClassFile.FieldType)).before args0 about1 = true := code_word (m := ⟨23, 2⟩) (meth := k23m2) (c := k23c2) (by decide +kernel) rfl rfl rfl (by decide +kernel)
set_option maxRecDepth 65536 in
theorem w_c27 : (Jvm.Cond.code ({ cls := "java/util/Arrays", name := "rangeCheck", desc := "(III)V" } : Jvm.MethodName) jdk_65_method_30_code (3 : Nat) (Option.none : Option Jvm.ClassFile.FieldType)).before args0 about1 = true := code_word (m := ⟨23, 1⟩) (meth := k23m1) (c := k23c1) (by decide +kernel) rfl rfl rfl (by decide +kernel)
set_option maxRecDepth 65536 in
theorem w_c28 : (Jvm.Cond.code ({ cls := "com/example/darlington/darlington/core/StateLayout", name := "unpack", desc := "([JI[I)V" } : Jvm.MethodName) prog_74_method_6_code (7 : Nat) (Option.none : Option Jvm.ClassFile.FieldType)).before args0 about1 = true := code_word (m := ⟨15, 2⟩) (meth := k15m2) (c := k15c2) (by decide +kernel) rfl rfl rfl (by decide +kernel)
def codes1 : List Jvm.Cond := [Jvm.Cond.code x code maxLocals ret, Jvm.Cond.code ({ cls := "com/example/darlington/darlington/core/StateLayoutUnpackPinLaw", name := "span", desc := "(JI)I" } : Jvm.MethodName) method_3_code (4 : Nat) (Option.some Jvm.ClassFile.FieldType.int), Jvm.Cond.code ({ cls := "com/example/darlington/darlington/core/StateLayoutUnpackPinLaw", name := "low", desc := "(JI)I" } : Jvm.MethodName) method_4_code (4 : Nat) (Option.some Jvm.ClassFile.FieldType.int), Jvm.Cond.code ({ cls := "com/example/darlington/darlington/core/StateLayoutUnpackPinLaw", name := "value", desc := "(IIJ)I" } : Jvm.MethodName) method_5_code (6 : Nat) (Option.some Jvm.ClassFile.FieldType.int), Jvm.Cond.code ({ cls := "java/util/ArrayList", name := "<init>", desc := "()V" } : Jvm.MethodName) jdk_38_method_2_code (1 : Nat) (Option.none : Option Jvm.ClassFile.FieldType), Jvm.Cond.code ({ cls := "java/util/AbstractList", name := "<init>", desc := "()V" } : Jvm.MethodName) jdk_39_method_1_code (1 : Nat) (Option.none : Option Jvm.ClassFile.FieldType), Jvm.Cond.code ({ cls := "java/util/AbstractCollection", name := "<init>", desc := "()V" } : Jvm.MethodName) jdk_22_method_1_code (1 : Nat) (Option.none : Option Jvm.ClassFile.FieldType), Jvm.Cond.code ({ cls := "java/lang/Object", name := "<init>", desc := "()V" } : Jvm.MethodName) object_method_1_code (1 : Nat) (Option.none : Option Jvm.ClassFile.FieldType), Jvm.Cond.code ({ cls := "com/example/darlington/darlington/core/IntegerRange", name := "<init>", desc := "(II)V" } : Jvm.MethodName) prog_55_method_1_code (3 : Nat) (Option.none : Option Jvm.ClassFile.FieldType), Jvm.Cond.code ({ cls := "com/example/darlington/darlington/core/IntegerRange", name := "checkedSize", desc := "(II)I" } : Jvm.MethodName) prog_55_method_2_code (4 : Nat) (Option.some Jvm.ClassFile.FieldType.int), Jvm.Cond.code ({ cls := "com/example/darlington/darlington/core/FiniteType", name := "<init>", desc := "(II)V" } : Jvm.MethodName) prog_45_method_1_code (3 : Nat) (Option.none : Option Jvm.ClassFile.FieldType), Jvm.Cond.code ({ cls := "java/util/ArrayList", name := "add", desc := "(Ljava/lang/Object;)Z" } : Jvm.MethodName) jdk_38_method_25_code (2 : Nat) (Option.some Jvm.ClassFile.FieldType.boolean), Jvm.Cond.code ({ cls := "java/util/ArrayList", name := "add", desc := "(Ljava/lang/Object;[Ljava/lang/Object;I)V" } : Jvm.MethodName) jdk_38_method_24_code (4 : Nat) (Option.none : Option Jvm.ClassFile.FieldType), Jvm.Cond.code ({ cls := "java/util/ArrayList", name := "grow", desc := "()[Ljava/lang/Object;" } : Jvm.MethodName) jdk_38_method_7_code (1 : Nat) (Option.some (Jvm.ClassFile.FieldType.array (Jvm.ClassFile.FieldType.object "java/lang/Object"))), Jvm.Cond.code ({ cls := "java/util/ArrayList", name := "grow", desc := "(I)[Ljava/lang/Object;" } : Jvm.MethodName) jdk_38_method_6_code (4 : Nat) (Option.some (Jvm.ClassFile.FieldType.array (Jvm.ClassFile.FieldType.object "java/lang/Object"))), Jvm.Cond.code ({ cls := "java/lang/Math", name := "max", desc := "(II)I" } : Jvm.MethodName) jdk_29_method_65_code (2 : Nat) (Option.some Jvm.ClassFile.FieldType.int), Jvm.Cond.code ({ cls := "com/example/darlington/darlington/core/StateLayout", name := "<init>", desc := "(Ljava/util/List;)V" } : Jvm.MethodName) prog_74_method_1_code (8 : Nat) (Option.none : Option Jvm.ClassFile.FieldType), Jvm.Cond.code ({ cls := "java/util/ArrayList", name := "size", desc := "()I" } : Jvm.MethodName) jdk_38_method_8_code (1 : Nat) (Option.some Jvm.ClassFile.FieldType.int), Jvm.Cond.code ({ cls := "java/util/ArrayList", name := "get", desc := "(I)Ljava/lang/Object;" } : Jvm.MethodName) jdk_38_method_20_code (2 : Nat) (Option.some (Jvm.ClassFile.FieldType.object "java/lang/Object")), Jvm.Cond.code ({ cls := "java/util/Objects", name := "checkIndex", desc := "(II)I" } : Jvm.MethodName) jdk_31_method_17_code (2 : Nat) (Option.some Jvm.ClassFile.FieldType.int), Jvm.Cond.code ({ cls := "jdk/internal/util/Preconditions", name := "checkIndex", desc := "(IILjava/util/function/BiFunction;)I" } : Jvm.MethodName) jdk_41_method_11_code (3 : Nat) (Option.some Jvm.ClassFile.FieldType.int), Jvm.Cond.code ({ cls := "java/util/ArrayList", name := "elementData", desc := "(I)Ljava/lang/Object;" } : Jvm.MethodName) jdk_38_method_18_code (2 : Nat) (Option.some (Jvm.ClassFile.FieldType.object "java/lang/Object")), Jvm.Cond.code ({ cls := "com/example/darlington/darlington/core/FiniteType", name := "size", desc := "()I" } : Jvm.MethodName) prog_45_method_2_code (1 : Nat) (Option.some Jvm.ClassFile.FieldType.int), Jvm.Cond.code ({ cls := "java/lang/Integer", name := "numberOfLeadingZeros", desc := "(I)I" } : Jvm.MethodName) jdk_33_method_47_code (2 : Nat) (Option.some Jvm.ClassFile.FieldType.int), Jvm.Cond.code ({ cls := "com/example/darlington/darlington/core/FiniteType", name := "valueAt", desc := "(I)I" } : Jvm.MethodName) prog_45_method_3_code (2 : Nat) (Option.some Jvm.ClassFile.FieldType.int), Jvm.Cond.code ({ cls := "com/example/darlington/darlington/core/StateLayout", name := "pack", desc := "([I[JI)V" } : Jvm.MethodName) prog_74_method_4_code (5 : Nat) (Option.none : Option Jvm.ClassFile.FieldType), Jvm.Cond.code ({ cls := "java/util/Arrays", name := "fill", desc := "([JIIJ)V" } : Jvm.MethodName) jdk_65_method_102_code (6 : Nat) (Option.none : Option Jvm.ClassFile.FieldType), Jvm.Cond.code ({ cls := "java/util/Arrays", name := "rangeCheck", desc := "(III)V" } : Jvm.MethodName) jdk_65_method_30_code (3 : Nat) (Option.none : Option Jvm.ClassFile.FieldType), Jvm.Cond.code ({ cls := "com/example/darlington/darlington/core/StateLayout", name := "unpack", desc := "([JI[I)V" } : Jvm.MethodName) prog_74_method_6_code (7 : Nat) (Option.none : Option Jvm.ClassFile.FieldType)]
set_option maxRecDepth 65536 in
theorem codes_eq : words1.filter isCode = codes1 := rfl
theorem w_codes : ∀ c ∈ words1.filter isCode, c.before args0 about1 = true := by
  rw [codes_eq]
  intro c hc
  simp only [codes1, List.mem_cons, List.not_mem_nil, or_false] at hc
  rcases hc with rfl | rfl | rfl | rfl | rfl | rfl | rfl | rfl | rfl | rfl | rfl | rfl | rfl | rfl | rfl | rfl | rfl | rfl | rfl | rfl | rfl | rfl | rfl | rfl | rfl | rfl | rfl | rfl | rfl
  · exact w_c0
  · exact w_c1
  · exact w_c2
  · exact w_c3
  · exact w_c4
  · exact w_c5
  · exact w_c6
  · exact w_c7
  · exact w_c8
  · exact w_c9
  · exact w_c10
  · exact w_c11
  · exact w_c12
  · exact w_c13
  · exact w_c14
  · exact w_c15
  · exact w_c16
  · exact w_c17
  · exact w_c18
  · exact w_c19
  · exact w_c20
  · exact w_c21
  · exact w_c22
  · exact w_c23
  · exact w_c24
  · exact w_c25
  · exact w_c26
  · exact w_c27
  · exact w_c28
set_option maxRecDepth 65536 in
theorem w_t1 : (words1.take 24).all (fun c => isCode c || c.before args0 about1) = true := by decide +kernel
set_option maxRecDepth 65536 in
theorem w_t2 : ((words1.drop 24).take 24).all (fun c => isCode c || c.before args0 about1) = true := by decide +kernel
set_option maxRecDepth 65536 in
theorem w_t3 : (((words1.drop 24).drop 24).take 24).all (fun c => isCode c || c.before args0 about1) = true := by decide +kernel
set_option maxRecDepth 65536 in
theorem w_t4 : ((((words1.drop 24).drop 24).drop 24).take 24).all (fun c => isCode c || c.before args0 about1) = true := by decide +kernel
set_option maxRecDepth 65536 in
theorem w_t5 : (((((words1.drop 24).drop 24).drop 24).drop 24).take 24).all (fun c => isCode c || c.before args0 about1) = true := by decide +kernel
set_option maxRecDepth 65536 in
theorem w_t6 : ((((((words1.drop 24).drop 24).drop 24).drop 24).drop 24).take 24).all (fun c => isCode c || c.before args0 about1) = true := by decide +kernel
set_option maxRecDepth 65536 in
theorem w_t7 : (((((((words1.drop 24).drop 24).drop 24).drop 24).drop 24).drop 24).take 24).all (fun c => isCode c || c.before args0 about1) = true := by decide +kernel
set_option maxRecDepth 65536 in
theorem w_t8 : (((((((words1.drop 24).drop 24).drop 24).drop 24).drop 24).drop 24).drop 24).all (fun c => isCode c || c.before args0 about1) = true := by decide +kernel
theorem w_tables : (allAtoms (Jvm.Cond.code x code maxLocals ret :: tables_1)).before args0 about1 = true := by
  rw [allAtoms_all]
  show words1.all (fun c => c.before args0 about1) = true
  refine all_split ?_ w_codes
  rw [← List.take_append_drop 24 words1, List.all_append, w_t1, ← List.take_append_drop 24 (words1.drop 24), List.all_append, w_t2, ← List.take_append_drop 24 ((words1.drop 24).drop 24), List.all_append, w_t3, ← List.take_append_drop 24 (((words1.drop 24).drop 24).drop 24), List.all_append, w_t4, ← List.take_append_drop 24 ((((words1.drop 24).drop 24).drop 24).drop 24), List.all_append, w_t5, ← List.take_append_drop 24 (((((words1.drop 24).drop 24).drop 24).drop 24).drop 24), List.all_append, w_t6, ← List.take_append_drop 24 ((((((words1.drop 24).drop 24).drop 24).drop 24).drop 24).drop 24), List.all_append, w_t7, w_t8]
  rfl
set_option maxRecDepth 65536 in
theorem w_rest : rest_1_c.before args0 about1 = true := by decide +kernel
set_option maxRecDepth 65536 in
theorem w_case : (Jvm.Cond.and given_1 narrow_1).before args0 about1 = true := by decide +kernel
theorem w_applies : (headSpec (Jvm.Cond.code x code maxLocals ret :: tables_1) room_1).applies x e0.platform about1 = true :=
  (Spec.applies_iff w_frames).mpr ⟨w_running, w_runnable, w_alone, w_named, w_hears, w_ripe, w_room, w_tables⟩
theorem atStart : AtStart classFile x code maxLocals ret World_1 tables_1 room_1 Calls_1 rest_1 Pre_1 launch0 p0 e0 about1 theMethod args0 below0 :=
  ⟨lists_1, trivial, launch0.admits_env _ _ _, launch0.least_env, fairChoices_fair.cas, fairChoices_fair.clock, w_frames, w_args, w_heap, w_applies, trivial, w_rest, w_case⟩
end start1
theorem witness_1 : WitnessClaimed_1 := ⟨start1.p0, start1.e0, start1.about1, start1.theMethod, start1.args0, start1.below0, start1.atStart⟩
end Jvm.Pilot.@@N@@
