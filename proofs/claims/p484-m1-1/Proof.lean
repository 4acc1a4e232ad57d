import JvmDerived
import JvmDerived.Pilot.@@N@@Statement
import JvmDerived.Pilot.@@N@@Code
set_option linter.unusedVariables false
set_option linter.unusedSimpArgs false
namespace Jvm.RoadKit
open Sem ClassFile Op Lib Jvm.Stand Jvm.Free Jvm.LawKit
section New
variable {p : Program} {l : Launch} {e : Env} {R : Room} {s : State} {m : MethodId} {args : Array Value} {below : List Frame} {meth : Method} {c : Code} {T : State} {locs : List Loc} {cells slots : Nat}
theorem retI (X : Stand p l e R s m args below meth c T locs cells slots) (hx : p.tables.exec = Jvm.exec) {pc : Nat} {Ls : Array Slot} {z : Int32} {rest : List Value} (hret : meth.sig.returnType = some .int) (hd : decode c.code pc = .ok (.ireturn, 1)) {fs : List Frame}
    (hl : ∀ (f : JFrame) (acts : List Action), f.method = m → f.locked = none → f.entered = [] → (doReturn e (T.setTop f) acts (some (.int z))).1 = T.setFrames fs) : Steps p.tables e below (T.setTop (mkF m pc Ls (.int z :: rest))) (T.setFrames fs) := by
  have hm' : T.vm.method? m = some meth := X.method'
  have hn : narrow .int (.int z) = .int z := rfl
  show Steps p.tables e below (T.setTop { method := m, pc := pc, locals := Ls, stack := _ :: rest, locked := none }) _
  jvm_step X.here [X.here.top, hx, hd, hm', hret, hn]
  first | (intro acts; rw [hl _ acts rfl rfl rfl]) | rw [hl _ _ rfl rfl rfl]
  exact Steps.refl _
end New
end Jvm.RoadKit
namespace Jvm.Pilot.@@N@@
open Jvm Jvm.ClassFile Sem Op Lib Jvm.Free Jvm.Stand Jvm.LawKit Jvm.RoadKit Bundle Jvm.Pilot.@@N@@.Jvm.D

abbrev Si (x : Int32) : Slot := .val (.int x)
abbrev Sl (x : Int64) : Slot := .val (.long x)
abbrev Sr (x : Addr) : Slot := .val (.ref x)
abbrev Sn : Slot := .val .null
abbrev Su : Slot := .unset
abbrev S2 : Slot := .second
theorem ow {Z : State} {a0 : Array Value} (hw : ∀ d ∈ tables_1, d.before a0 Z = true) (i : Nat) {d : Jvm.Cond} (h : tables_1[i]? = some d) : d.before a0 Z = true := hw _ (List.mem_of_getElem? h)
theorem d5_0 : decode jdk_22_method_1_code 0 = .ok (.aload_n 0, 1) := by decide +kernel
theorem d5_1 : decode jdk_22_method_1_code 1 = .ok (.invokespecial 1, 3) := by decide +kernel
theorem d5_4 : decode jdk_22_method_1_code 4 = .ok (.return_, 1) := by decide +kernel
theorem pn_0 : plainName "java/util/AbstractCollection" = true := by first | (simp [plainName, overriddenIn]; done) | decide +kernel
theorem ef_rm5 (m : MethodId) (x0 : Addr) : entryFrame m #[(.ref x0)] 1 = mkF m 0 #[Sr x0] [] := by first | (simp [entryFrame, mkF, argsToLocals, Value.category]; done) | rfl
def Q_rm5 (Z : State) (a1 : Addr) (h0 : Heap) (n0 : Nat) (v : Option Value) (h : Heap) (L : List Loc) : Prop := v = none ∧ Fr n0 L ∧ h = h0
set_option maxRecDepth 65536 in
set_option maxHeartbeats 40000000 in
theorem rm5 (l : Launch) (Z : State) (a0 : Array Value) (hw : ∀ d ∈ tables_1, d.before a0 Z = true) (ws : List Jvm.Cond) (a1 : Addr) (h0 : Heap) (n0 : Nat) (Z0 : n0 ≤ h0.size) :
    MetFree l (⟨"java/util/AbstractCollection", "<init>", "()V"⟩ : MethodName) (head1 (Jvm.Cond.code (⟨"java/util/AbstractCollection", "<init>", "()V"⟩ : MethodName) jdk_22_method_1_code 1 none :: ws) ({ frames := 1, cells := 0, slots := 0, locals := 12 } : Room)) (fun a U => a = #[(.ref a1)] ∧ Z.Warmed39 U.vm ∧ U.heap = h0) (fun _ _ _ _ _ => True) (fun _ U o U' => ∃ v L, o = .returned v ∧ Q_rm5 Z a1 h0 n0 v U'.heap L ∧ FrameEnd U o U' L ({ frames := 1, cells := 0, slots := 0, locals := 12 } : Room).cells ({ frames := 1, cells := 0, slots := 0, locals := 12 } : Room).slots) := by
  refine MetFree.of_bodySF (plainFor_of_name pn_0) hisR ?_
  intro p e s m args below meth c s₁ Bd hml0 hP hK
  obtain ⟨rfl, hZ, hh⟩ := hP
  have hx := Bd.exec
  have hby := Bd.bytes
  have hml : c.maxLocals = 1 := hml0
  have hown : s.vm.findClass "java/util/AbstractCollection" = some m.cls := findClass_of_methodNamed Bd.named
  have hnm := (name_of_methodNamed Bd.named Bd.method).1
  have X0 : Stand p l e ({ frames := 1, cells := 0, slots := 0, locals := 12 } : Room) s m #[(.ref a1)] below meth c s₁ [] 0 0 := Stand.of_body Bd
  have e0 : s₁.heap = h0 := by rw [← hh, Bd.state]; rfl
  have N0 := Fr.nil n0
  have pre0 : ∀ t, Steps p.tables e below (s₁.setTop (mkF m 0 #[Sr a1] [])) t → Steps p.tables e below (s₁.setTop (entryFrame m #[(.ref a1)] 1)) t := fun t k => castTop (ef_rm5 m a1) k
  obtain ⟨T51, X51, e51, st51⟩ := initO X0 hx hZ hown (ow hw 26 rfl) (ow hw 27 rfl) (ow hw 28 rfl) e0 (g := (mkF m 1 #[Sr a1] [(.ref a1)])) rfl (by rw [hml]; rfl) rfl (hb hby d5_1) (by decide) (W := 0) (by show 2 * 0 + _ ≤ _; exact Nat.le_of_eq rfl) (by decide)
  have pre52 : ∀ t, Steps p.tables e below (T51.setTop (mkF m 4 #[Sr a1] [])) t → Steps p.tables e below (s₁.setTop (entryFrame m #[(.ref a1)] 1)) t := by
    intro t k
    refine pre0 t ?_
    refine XS.aloadN X0.here hx rfl (hb hby d5_0) rfl rfl ?_
    refine st51 _ ?_
    exact k
  obtain ⟨fs, hr, hrun, hended, hW, hsame⟩ := X51.leave (v := none) (fun _ => rfl)
  refine ⟨_, _, pre52 _ ?_, hrun, hended, _, _, rfl, ?_, ⟨_, rfl⟩, hW, hsame.mono (by decide) (by decide)⟩
  · exact X51.returnOut hx Bd.returns (hb hby d5_4) hr
  · show Q_rm5 Z a1 h0 n0 _ T51.heap _
    rw [e51]
    exact ⟨rfl, N0, rfl⟩
theorem d4_0 : decode jdk_39_method_1_code 0 = .ok (.aload_n 0, 1) := by decide +kernel
theorem pd_0 : parseMethodDescriptor "()V" = some ⟨[], none⟩ := by decide +kernel
theorem d4_1 : decode jdk_39_method_1_code 1 = .ok (.invokespecial 1, 3) := by decide +kernel
theorem d4_4 : decode jdk_39_method_1_code 4 = .ok (.aload_n 0, 1) := by decide +kernel
theorem d4_5 : decode jdk_39_method_1_code 5 = .ok (.iconst 0, 1) := by decide +kernel
theorem d4_6 : decode jdk_39_method_1_code 6 = .ok (.putfield 7, 3) := by decide +kernel
theorem d4_9 : decode jdk_39_method_1_code 9 = .ok (.return_, 1) := by decide +kernel
theorem pn_1 : plainName "java/util/AbstractList" = true := by first | (simp [plainName, overriddenIn]; done) | decide +kernel
theorem ef_rm4 (m : MethodId) (x0 : Addr) : entryFrame m #[(.ref x0)] 1 = mkF m 0 #[Sr x0] [] := by first | (simp [entryFrame, mkF, argsToLocals, Value.category]; done) | rfl
def Q_rm4 (Z : State) (a1 : Addr) (u : Int32) (h0 : Heap) (n0 : Nat) (v : Option Value) (h : Heap) (L : List Loc) : Prop := v = none ∧ Fr n0 L ∧ Keep h0 h [a1] ∧ Fld Z h a1 "java/util/AbstractList" "modCount" "I" (.int (0 : Int32)) ∧ Fld Z h a1 "java/util/ArrayList" "size" "I" (.int (0 : Int32)) ∧ Fld Z h a1 "java/util/ArrayList" "elementData" "[Ljava/lang/Object;" .null
set_option maxRecDepth 65536 in
set_option maxHeartbeats 40000000 in
theorem rm4 (l : Launch) (Z : State) (a0 : Array Value) (hw : ∀ d ∈ tables_1, d.before a0 Z = true) (ws : List Jvm.Cond) (a1 : Addr) (u : Int32) (h0 : Heap) (n0 : Nat) (Z0 : n0 ≤ h0.size) (E1 : Exa Z h0 a1 "java/util/ArrayList") (F1 : Fld Z h0 a1 "java/util/AbstractList" "modCount" "I" (.int u)) (F2 : Fld Z h0 a1 "java/util/ArrayList" "size" "I" (.int (0 : Int32))) (F3 : Fld Z h0 a1 "java/util/ArrayList" "elementData" "[Ljava/lang/Object;" .null) (g1 : n0 ≤ a1) :
    MetFree l (⟨"java/util/AbstractList", "<init>", "()V"⟩ : MethodName) (head1 (Jvm.Cond.code (⟨"java/util/AbstractList", "<init>", "()V"⟩ : MethodName) jdk_39_method_1_code 1 none :: ws) ({ frames := 2, cells := 0, slots := 0, locals := 24 } : Room)) (fun a U => a = #[(.ref a1)] ∧ Z.Warmed39 U.vm ∧ U.heap = h0) (fun _ _ _ _ _ => True) (fun _ U o U' => ∃ v L, o = .returned v ∧ Q_rm4 Z a1 u h0 n0 v U'.heap L ∧ FrameEnd U o U' L ({ frames := 2, cells := 0, slots := 0, locals := 24 } : Room).cells ({ frames := 2, cells := 0, slots := 0, locals := 24 } : Room).slots) := by
  refine MetFree.of_bodySF (plainFor_of_name pn_1) hisR ?_
  intro p e s m args below meth c s₁ Bd hml0 hP hK
  obtain ⟨rfl, hZ, hh⟩ := hP
  have hx := Bd.exec
  have hby := Bd.bytes
  have hml : c.maxLocals = 1 := hml0
  have hown : s.vm.findClass "java/util/AbstractList" = some m.cls := findClass_of_methodNamed Bd.named
  have hnm := (name_of_methodNamed Bd.named Bd.method).1
  have X0 : Stand p l e ({ frames := 2, cells := 0, slots := 0, locals := 24 } : Room) s m #[(.ref a1)] below meth c s₁ [] 0 0 := Stand.of_body Bd
  have e0 : s₁.heap = h0 := by rw [← hh, Bd.state]; rfl
  have N0 := Fr.nil n0
  have pre0 : ∀ t, Steps p.tables e below (s₁.setTop (mkF m 0 #[Sr a1] [])) t → Steps p.tables e below (s₁.setTop (entryFrame m #[(.ref a1)] 1)) t := fun t k => castTop (ef_rm4 m a1) k
  obtain ⟨_, _, ⟨T51, L51, k51, n51⟩, -, X51, ⟨Lc51, hQ51, l51, y51, z51⟩, st51⟩ := X0.specialBack hx (y := (⟨"java/util/AbstractCollection", "<init>", "()V"⟩ : MethodName)) rfl hown (mvT hZ (ow hw 20 rfl)) (mvT hZ (ow hw 21 rfl)) (mvT hZ (ow hw 25 rfl)) (by decide) (backOf (W := 0) (rm5 l Z a0 hw [] a1 h0 n0 Z0) hZ (ow hw 25 rfl) (ow hw 24 rfl) (by decide) (by decide)) (g := (mkF m 1 #[Sr a1] [(.ref a1)])) rfl (by rw [hml]; rfl) (Steps.refl _) (a := a1) (argsL := []) (rest := []) (lenOf pd_0 rfl) rfl (by show 2 * 0 + _ ≤ _; exact Nat.le_of_eq rfl) (hb hby d4_1) (fun _ _ => ⟨rfl, e0, (by decide : 0 + 0 ≤ _), (by decide : 0 + 0 ≤ _)⟩)
  dsimp only [Pt.U, Pt.locs, Pt.cells, Pt.slots] at X51 l51 y51 z51 st51 hQ51
  subst y51 z51
  obtain ⟨rfl, Nq51, q51_0⟩ := hQ51
  have N52 := Eq.subst (motive := fun L => Fr n0 L) l51.symm (Fr.app N0 Nq51)
  obtain ⟨T53, h53, X53, e53, W53, st53⟩ := putF X51 hx hZ hown (host := "") (Or.inl (ow hw 29 rfl)) Via.refl q51_0 F1 E1 (Or.inl (ow hw 30 rfl)) (ow hw 9 rfl) (ty := .int) (by decide) rfl rfl (g := (mkF m 6 #[Sr a1] [(.int (0 : Int32)), (.ref a1)])) rfl rfl (hb hby d4_6)
  have KC54 : Keep h0 h53 [a1] := (Keep.refl h0 [a1]).wr W53 (Or.inl (List.mem_of_getElem? (i := 0) rfl))
  have F55 : Fld Z h53 a1 "java/util/AbstractList" "modCount" "I" (.int (0 : Int32)) := F1.same W53
  have N56 := Fr.snoc X53 N52 g1
  have pre57 : ∀ t, Steps p.tables e below (T53.setTop (mkF m 9 #[Sr a1] [])) t → Steps p.tables e below (s₁.setTop (entryFrame m #[(.ref a1)] 1)) t := by
    intro t k
    refine pre0 t ?_
    refine XS.aloadN X0.here hx rfl (hb hby d4_0) rfl rfl ?_
    refine st51.trans ?_
    refine XS.aloadN X51.here hx rfl (hb hby d4_4) rfl rfl ?_
    refine XS.iconst X51.here hx rfl (hb hby d4_5) ?_
    refine st53 _ ?_
    exact k
  obtain ⟨fs, hr, hrun, hended, hW, hsame⟩ := X53.leave (v := none) (fun _ => rfl)
  refine ⟨_, _, pre57 _ ?_, hrun, hended, _, _, rfl, ?_, ⟨_, rfl⟩, hW, hsame.mono (by decide) (by decide)⟩
  · exact X53.returnOut hx Bd.returns (hb hby d4_9) hr
  · show Q_rm4 Z a1 u h0 n0 _ T53.heap _
    rw [e53]
    have F58 : Fld Z h53 a1 "java/util/ArrayList" "size" "I" (.int (0 : Int32)) := (F2.other W53 (Or.inr (slot_ne (Or.inl (ow hw 66 rfl)) (Or.inl (ow hw 30 rfl)) (by decide) (t := .int) (t' := .int) (by decide) (by decide))))
    have F59 : Fld Z h53 a1 "java/util/ArrayList" "elementData" "[Ljava/lang/Object;" .null := (F3.other W53 (Or.inr (slot_ne (Or.inl (ow hw 33 rfl)) (Or.inl (ow hw 30 rfl)) (by decide) (t := (.array (.object "java/lang/Object"))) (t' := .int) (by decide) (by decide))))
    exact ⟨rfl, N56, KC54, F55, F58, F59⟩
theorem d3_0 : decode jdk_38_method_2_code 0 = .ok (.aload_n 0, 1) := by decide +kernel
theorem d3_1 : decode jdk_38_method_2_code 1 = .ok (.invokespecial 1, 3) := by decide +kernel
theorem d3_4 : decode jdk_38_method_2_code 4 = .ok (.aload_n 0, 1) := by decide +kernel
theorem d3_5 : decode jdk_38_method_2_code 5 = .ok (.getstatic 39, 3) := by decide +kernel
theorem d3_8 : decode jdk_38_method_2_code 8 = .ok (.putfield 9, 3) := by decide +kernel
theorem d3_11 : decode jdk_38_method_2_code 11 = .ok (.return_, 1) := by decide +kernel
theorem pn_2 : plainName "java/util/ArrayList" = true := by first | (simp [plainName, overriddenIn]; done) | decide +kernel
theorem ef_rm3 (m : MethodId) (x0 : Addr) : entryFrame m #[(.ref x0)] 1 = mkF m 0 #[Sr x0] [] := by first | (simp [entryFrame, mkF, argsToLocals, Value.category]; done) | rfl
def Q_rm3 (Z : State) (a1 : Addr) (u : Int32) (wE : Addr) (kE : ClassId) (h0 : Heap) (n0 : Nat) (v : Option Value) (h : Heap) (L : List Loc) : Prop := v = none ∧ Fr n0 L ∧ Keep h0 h [a1] ∧ Fld Z h a1 "java/util/AbstractList" "modCount" "I" (.int (0 : Int32)) ∧ Fld Z h a1 "java/util/ArrayList" "size" "I" (.int (0 : Int32)) ∧ Fld Z h a1 "java/util/ArrayList" "elementData" "[Ljava/lang/Object;" (.ref wE)
set_option maxRecDepth 65536 in
set_option maxHeartbeats 40000000 in
theorem rm3 (l : Launch) (Z : State) (a0 : Array Value) (hw : ∀ d ∈ tables_1, d.before a0 Z = true) (ws : List Jvm.Cond) (a1 : Addr) (u : Int32) (wE : Addr) (kE : ClassId) (h0 : Heap) (n0 : Nat) (Z0 : n0 ≤ h0.size) (O0 : Old Z n0 h0) (SE : Sta Z Z.heap "java/util/ArrayList" "DEFAULTCAPACITY_EMPTY_ELEMENTDATA" "[Ljava/lang/Object;" (.ref wE)) (VE : Arv Z Z.heap wE kE (.object "java/lang/Object") (0 : Int32) [] .null) (E1 : Exa Z h0 a1 "java/util/ArrayList") (F1 : Fld Z h0 a1 "java/util/AbstractList" "modCount" "I" (.int u)) (F2 : Fld Z h0 a1 "java/util/ArrayList" "size" "I" (.int (0 : Int32))) (F3 : Fld Z h0 a1 "java/util/ArrayList" "elementData" "[Ljava/lang/Object;" .null) (g1 : n0 ≤ a1) :
    MetFree l (⟨"java/util/ArrayList", "<init>", "()V"⟩ : MethodName) (head1 (Jvm.Cond.code (⟨"java/util/ArrayList", "<init>", "()V"⟩ : MethodName) jdk_38_method_2_code 1 none :: ws) ({ frames := 3, cells := 0, slots := 0, locals := 36 } : Room)) (fun a U => a = #[(.ref a1)] ∧ Z.Warmed39 U.vm ∧ U.heap = h0) (fun _ _ _ _ _ => True) (fun _ U o U' => ∃ v L, o = .returned v ∧ Q_rm3 Z a1 u wE kE h0 n0 v U'.heap L ∧ FrameEnd U o U' L ({ frames := 3, cells := 0, slots := 0, locals := 36 } : Room).cells ({ frames := 3, cells := 0, slots := 0, locals := 36 } : Room).slots) := by
  refine MetFree.of_bodySF (plainFor_of_name pn_2) hisR ?_
  intro p e s m args below meth c s₁ Bd hml0 hP hK
  obtain ⟨rfl, hZ, hh⟩ := hP
  have hx := Bd.exec
  have hby := Bd.bytes
  have hml : c.maxLocals = 1 := hml0
  have hown : s.vm.findClass "java/util/ArrayList" = some m.cls := findClass_of_methodNamed Bd.named
  have hnm := (name_of_methodNamed Bd.named Bd.method).1
  have X0 : Stand p l e ({ frames := 3, cells := 0, slots := 0, locals := 36 } : Room) s m #[(.ref a1)] below meth c s₁ [] 0 0 := Stand.of_body Bd
  have e0 : s₁.heap = h0 := by rw [← hh, Bd.state]; rfl
  have N0 := Fr.nil n0
  have pre0 : ∀ t, Steps p.tables e below (s₁.setTop (mkF m 0 #[Sr a1] [])) t → Steps p.tables e below (s₁.setTop (entryFrame m #[(.ref a1)] 1)) t := fun t k => castTop (ef_rm3 m a1) k
  obtain ⟨_, _, ⟨T51, L51, k51, n51⟩, -, X51, ⟨Lc51, hQ51, l51, y51, z51⟩, st51⟩ := X0.specialBack hx (y := (⟨"java/util/AbstractList", "<init>", "()V"⟩ : MethodName)) rfl hown (mvT hZ (ow hw 14 rfl)) (mvT hZ (ow hw 15 rfl)) (mvT hZ (ow hw 19 rfl)) (by decide) (backOf (W := 0) (rm4 l Z a0 hw [] a1 u h0 n0 Z0 E1 F1 F2 F3 g1) hZ (ow hw 19 rfl) (ow hw 18 rfl) (by decide) (by decide)) (g := (mkF m 1 #[Sr a1] [(.ref a1)])) rfl (by rw [hml]; rfl) (Steps.refl _) (a := a1) (argsL := []) (rest := []) (lenOf pd_0 rfl) rfl (by show 2 * 0 + _ ≤ _; exact Nat.le_of_eq rfl) (hb hby d3_1) (fun _ _ => ⟨rfl, e0, (by decide : 0 + 0 ≤ _), (by decide : 0 + 0 ≤ _)⟩)
  dsimp only [Pt.U, Pt.locs, Pt.cells, Pt.slots] at X51 l51 y51 z51 st51 hQ51
  subst y51 z51
  obtain ⟨rfl, Nq51, q51_0, q51_1, q51_2, q51_3⟩ := hQ51
  have N52 := Eq.subst (motive := fun L => Fr n0 L) l51.symm (Fr.app N0 Nq51)
  have KC53 : Keep h0 T51.heap [a1] := (Keep.refl h0 [a1]).trans q51_0 (allS (Or.inl (List.mem_of_getElem? (i := 0) rfl)) all0)
  have O54 : Old Z n0 T51.heap := (O0.keep q51_0 (allS g1 all0))
  obtain ⟨T55, X55, e55, st55⟩ := getS2 X51 hx hZ hown (host := "") (Or.inl (ow hw 31 rfl)) Via.refl rfl (SE.ext O54.2) (g := (mkF m 5 #[Sr a1] [(.ref a1)])) rfl (hb hby d3_5)
  have F56 : Exa Z T51.heap a1 "java/util/ArrayList" := (E1.keep q51_0)
  obtain ⟨T57, h57, X57, e57, W57, st57⟩ := putF X55 hx hZ hown (host := "") (Or.inl (ow hw 32 rfl)) Via.refl e55 q51_3 F56 (Or.inl (ow hw 33 rfl)) (ow hw 9 rfl) (ty := (.array (.object "java/lang/Object"))) (by decide) rfl rfl (g := (mkF m 8 #[Sr a1] [(.ref wE), (.ref a1)])) rfl rfl (hb hby d3_8)
  have KC58 : Keep h0 h57 [a1] := KC53.wr W57 (Or.inl (List.mem_of_getElem? (i := 0) rfl))
  have F59 : Fld Z h57 a1 "java/util/ArrayList" "elementData" "[Ljava/lang/Object;" (.ref wE) := q51_3.same W57
  have N60 := Fr.snoc X57 N52 g1
  have pre61 : ∀ t, Steps p.tables e below (T57.setTop (mkF m 11 #[Sr a1] [])) t → Steps p.tables e below (s₁.setTop (entryFrame m #[(.ref a1)] 1)) t := by
    intro t k
    refine pre0 t ?_
    refine XS.aloadN X0.here hx rfl (hb hby d3_0) rfl rfl ?_
    refine st51.trans ?_
    refine XS.aloadN X51.here hx rfl (hb hby d3_4) rfl rfl ?_
    refine st55 _ ?_
    refine st57 _ ?_
    exact k
  obtain ⟨fs, hr, hrun, hended, hW, hsame⟩ := X57.leave (v := none) (fun _ => rfl)
  refine ⟨_, _, pre61 _ ?_, hrun, hended, _, _, rfl, ?_, ⟨_, rfl⟩, hW, hsame.mono (by decide) (by decide)⟩
  · exact X57.returnOut hx Bd.returns (hb hby d3_11) hr
  · show Q_rm3 Z a1 u wE kE h0 n0 _ T57.heap _
    rw [e57]
    have F62 : Fld Z h57 a1 "java/util/AbstractList" "modCount" "I" (.int (0 : Int32)) := (q51_1.other W57 (Or.inr (slot_ne (Or.inl (ow hw 30 rfl)) (Or.inl (ow hw 33 rfl)) (by decide) (t := .int) (t' := (.array (.object "java/lang/Object"))) (by decide) (by decide))))
    have F63 : Fld Z h57 a1 "java/util/ArrayList" "size" "I" (.int (0 : Int32)) := (q51_2.other W57 (Or.inr (slot_ne (Or.inl (ow hw 66 rfl)) (Or.inl (ow hw 33 rfl)) (by decide) (t := .int) (t' := (.array (.object "java/lang/Object"))) (by decide) (by decide))))
    exact ⟨rfl, N60, KC58, F62, F63, F59⟩
theorem d1_0 : decode jdk_29_method_65_code 0 = .ok (.iload_n 0, 1) := by decide +kernel
theorem d1_1 : decode jdk_29_method_65_code 1 = .ok (.iload_n 1, 1) := by decide +kernel
theorem d1_2 : decode jdk_29_method_65_code 2 = .ok (.if_icmp .lt 7, 3) := by decide +kernel
theorem d1_9 : decode jdk_29_method_65_code 9 = .ok (.iload_n 1, 1) := by decide +kernel
theorem d1_5 : decode jdk_29_method_65_code 5 = .ok (.iload_n 0, 1) := by decide +kernel
theorem d1_6 : decode jdk_29_method_65_code 6 = .ok (.goto 4, 3) := by decide +kernel
theorem d1_10 : decode jdk_29_method_65_code 10 = .ok (.ireturn, 1) := by decide +kernel
def own_max (p1 : Int32) (p2 : Int32) : Int32 := (if p1 < p2 then p2 else p1)
theorem ef_rm1 (m : MethodId) (x0 : Int32) (x1 : Int32) : entryFrame m #[(.int x0), (.int x1)] 2 = mkF m 0 #[Si x0, Si x1] [] := by first | (simp [entryFrame, mkF, argsToLocals, Value.category]; done) | rfl
def Q_rm1 (Z : State) (p1 : Int32) (p2 : Int32) (h0 : Heap) (n0 : Nat) (v : Option Value) (h : Heap) (L : List Loc) : Prop := v = some (.int (own_max p1 p2)) ∧ Fr n0 L ∧ h = h0
set_option maxRecDepth 65536 in
set_option maxHeartbeats 40000000 in
theorem rm1 (l : Launch) (Z : State) (a0 : Array Value) (hw : ∀ d ∈ tables_1, d.before a0 Z = true) (ws : List Jvm.Cond) (p1 : Int32) (p2 : Int32) (h0 : Heap) (n0 : Nat) (Z0 : n0 ≤ h0.size) :
    MetFree l (⟨"java/lang/Math", "max", "(II)I"⟩ : MethodName) (head1 (Jvm.Cond.code (⟨"java/lang/Math", "max", "(II)I"⟩ : MethodName) jdk_29_method_65_code 2 (some .int) :: ws) ({ frames := 0, cells := 0, slots := 0, locals := 0 } : Room)) (fun a U => a = #[(.int p1), (.int p2)] ∧ Z.Warmed39 U.vm ∧ U.heap = h0) (fun _ _ _ _ _ => True) (fun _ U o U' => ∃ v L, o = .returned v ∧ Q_rm1 Z p1 p2 h0 n0 v U'.heap L ∧ FrameEnd U o U' L ({ frames := 0, cells := 0, slots := 0, locals := 0 } : Room).cells ({ frames := 0, cells := 0, slots := 0, locals := 0 } : Room).slots) := by
  refine MetFree.of_bodySF (Jvm.Free.JP.mathPlain rfl (by decide +kernel)) hisR ?_
  intro p e s m args below meth c s₁ Bd hml0 hP hK
  obtain ⟨rfl, hZ, hh⟩ := hP
  have hx := Bd.exec
  have hby := Bd.bytes
  have hml : c.maxLocals = 2 := hml0
  have hown : s.vm.findClass "java/lang/Math" = some m.cls := findClass_of_methodNamed Bd.named
  have hnm := (name_of_methodNamed Bd.named Bd.method).1
  have X0 : Stand p l e ({ frames := 0, cells := 0, slots := 0, locals := 0 } : Room) s m #[(.int p1), (.int p2)] below meth c s₁ [] 0 0 := Stand.of_body Bd
  have e0 : s₁.heap = h0 := by rw [← hh, Bd.state]; rfl
  have N0 := Fr.nil n0
  have pre0 : ∀ t, Steps p.tables e below (s₁.setTop (mkF m 0 #[Si p1, Si p2] [])) t → Steps p.tables e below (s₁.setTop (entryFrame m #[(.int p1), (.int p2)] 2)) t := fun t k => castTop (ef_rm1 m p1 p2) k
  have pre53 : ∀ t, Steps p.tables e below (s₁.setTop (mkF m 10 #[Si p1, Si p2] [(.int (if p1 < p2 then p2 else p1))])) t → Steps p.tables e below (s₁.setTop (entryFrame m #[(.int p1), (.int p2)] 2)) t := by
    intro t k
    refine pre0 t ?_
    refine XS.iloadN X0.here hx rfl (hb hby d1_0) rfl ?_
    refine XS.iloadN X0.here hx rfl (hb hby d1_1) rfl ?_
    by_cases hc51 : p1 < p2
    · simp only [if_pos hc51] at k
      refine XS.icmpYes X0.here hx rfl (pc0 := 2) (pc' := 9) rfl (hb hby d1_2) rfl (tlt hc51).1 (by decide) (by decide) ?_
      refine XS.iloadN X0.here hx rfl (hb hby d1_9) rfl ?_
      exact k
    · simp only [if_neg hc51] at k
      refine XS.icmpNo X0.here hx rfl (hb hby d1_2) rfl (flt hc51).1 ?_
      refine XS.iloadN X0.here hx rfl (hb hby d1_5) rfl ?_
      refine XS.goto X0.here hx rfl (pc0 := 6) (pc' := 10) rfl (hb hby d1_6) (by decide) (by decide) ?_
      exact k
  obtain ⟨z52, hz52⟩ : ∃ z : Int32, z = (if p1 < p2 then p2 else p1) := ⟨_, rfl⟩
  rw [← hz52] at pre53
  obtain ⟨fs, hr, hrun, hended, hW, hsame⟩ := X0.leave (v := some (.int z52)) (fun h => by rw [Bd.returns] at h; cases h)
  refine ⟨_, _, pre53 _ ?_, hrun, hended, _, _, rfl, ?_, ⟨_, rfl⟩, hW, hsame.mono (by decide) (by decide)⟩
  · exact retI X0 hx Bd.returns (hb hby d1_10) hr
  · show Q_rm1 Z p1 p2 h0 n0 _ s₁.heap _
    rw [e0]
    have hvA : z52 = (own_max p1 p2) := by
      subst hz52
      rfl
    have hv54 : z52 = (own_max p1 p2) := hvA
    exact ⟨(congrArg (fun z => some (Value.int z)) hv54), N0, rfl⟩
theorem d13_0 : decode jdk_38_method_6_code 0 = .ok (.aload_n 0, 1) := by decide +kernel
theorem d13_1 : decode jdk_38_method_6_code 1 = .ok (.getfield 9, 3) := by decide +kernel
theorem d13_4 : decode jdk_38_method_6_code 4 = .ok (.arraylength, 1) := by decide +kernel
theorem d13_5 : decode jdk_38_method_6_code 5 = .ok (.istore_n 2, 1) := by decide +kernel
theorem d13_6 : decode jdk_38_method_6_code 6 = .ok (.iload_n 2, 1) := by decide +kernel
theorem d13_7 : decode jdk_38_method_6_code 7 = .ok (.ifCond .gt 13, 3) := by decide +kernel
theorem d13_10 : decode jdk_38_method_6_code 10 = .ok (.aload_n 0, 1) := by decide +kernel
theorem d13_11 : decode jdk_38_method_6_code 11 = .ok (.getfield 9, 3) := by decide +kernel
theorem d13_14 : decode jdk_38_method_6_code 14 = .ok (.getstatic 39, 3) := by decide +kernel
theorem d13_17 : decode jdk_38_method_6_code 17 = .ok (.if_acmp .eq 28, 3) := by decide +kernel
theorem d13_45 : decode jdk_38_method_6_code 45 = .ok (.aload_n 0, 1) := by decide +kernel
theorem d13_46 : decode jdk_38_method_6_code 46 = .ok (.bipush 10, 2) := by decide +kernel
theorem d13_48 : decode jdk_38_method_6_code 48 = .ok (.iload_n 1, 1) := by decide +kernel
theorem pd_1 : parseMethodDescriptor "(II)I" = some ⟨[.int, .int], some .int⟩ := by decide +kernel
theorem d13_49 : decode jdk_38_method_6_code 49 = .ok (.invokestatic 79, 3) := by decide +kernel
theorem d13_52 : decode jdk_38_method_6_code 52 = .ok (.anewarray 7, 3) := by decide +kernel
theorem d13_55 : decode jdk_38_method_6_code 55 = .ok (.dup_x1, 1) := by decide +kernel
theorem d13_56 : decode jdk_38_method_6_code 56 = .ok (.putfield 9, 3) := by decide +kernel
theorem d13_59 : decode jdk_38_method_6_code 59 = .ok (.areturn, 1) := by decide +kernel
theorem ef_rm13 (m : MethodId) (x0 : Addr) : entryFrame m #[(.ref x0), (.int (1 : Int32))] 4 = mkF m 0 #[Sr x0, Si (1 : Int32), Su, Su] [] := by first | (simp [entryFrame, mkF, argsToLocals, Value.category]; done) | rfl
def Q_rm13 (Z : State) (a1 : Addr) (wE : Addr) (kE : ClassId) (mc : Int32) (h0 : Heap) (n0 : Nat) (v : Option Value) (h : Heap) (L : List Loc) : Prop := ∃ (r : Addr) (kr : ClassId), v = some (.ref r) ∧ Fr n0 L ∧ Keep h0 h [a1] ∧ h0.size ≤ r ∧ Arv Z h r kr (.object "java/lang/Object") (10 : Int32) [.null, .null, .null, .null, .null, .null, .null, .null, .null, .null] .null ∧ Ovr Z kr "java/lang/Object" ∧ Fld Z h a1 "java/util/ArrayList" "elementData" "[Ljava/lang/Object;" (.ref r) ∧ Fld Z h a1 "java/util/ArrayList" "size" "I" (.int (0 : Int32)) ∧ Fld Z h a1 "java/util/AbstractList" "modCount" "I" (.int mc)
set_option maxRecDepth 65536 in
set_option maxHeartbeats 40000000 in
theorem rm13 (l : Launch) (Z : State) (a0 : Array Value) (hw : ∀ d ∈ tables_1, d.before a0 Z = true) (ws : List Jvm.Cond) (a1 : Addr) (wE : Addr) (kE : ClassId) (mc : Int32) (h0 : Heap) (n0 : Nat) (Z0 : n0 ≤ h0.size) (O0 : Old Z n0 h0) (SE : Sta Z Z.heap "java/util/ArrayList" "DEFAULTCAPACITY_EMPTY_ELEMENTDATA" "[Ljava/lang/Object;" (.ref wE)) (VE : Arv Z Z.heap wE kE (.object "java/lang/Object") (0 : Int32) [] .null) (g1 : n0 ≤ a1) (Es : Exa Z h0 a1 "java/util/ArrayList") (Fs : Fld Z h0 a1 "java/util/ArrayList" "size" "I" (.int (0 : Int32))) (Fd : Fld Z h0 a1 "java/util/ArrayList" "elementData" "[Ljava/lang/Object;" (.ref wE)) (Fm : Fld Z h0 a1 "java/util/AbstractList" "modCount" "I" (.int mc)) :
    MetFree l (⟨"java/util/ArrayList", "grow", "(I)[Ljava/lang/Object;"⟩ : MethodName) (head1 (Jvm.Cond.code (⟨"java/util/ArrayList", "grow", "(I)[Ljava/lang/Object;"⟩ : MethodName) jdk_38_method_6_code 4 (some (.array (.object "java/lang/Object"))) :: ws) ({ frames := 1, cells := 1, slots := 10, locals := 14 } : Room)) (fun a U => a = #[(.ref a1), (.int (1 : Int32))] ∧ Z.Warmed39 U.vm ∧ U.heap = h0) (fun _ _ _ _ _ => True) (fun _ U o U' => ∃ v L, o = .returned v ∧ Q_rm13 Z a1 wE kE mc h0 n0 v U'.heap L ∧ FrameEnd U o U' L ({ frames := 1, cells := 1, slots := 10, locals := 14 } : Room).cells ({ frames := 1, cells := 1, slots := 10, locals := 14 } : Room).slots) := by
  refine MetFree.of_bodySF (plainFor_of_name pn_2) hisR ?_
  intro p e s m args below meth c s₁ Bd hml0 hP hK
  obtain ⟨rfl, hZ, hh⟩ := hP
  have hx := Bd.exec
  have hby := Bd.bytes
  have hml : c.maxLocals = 4 := hml0
  have hown : s.vm.findClass "java/util/ArrayList" = some m.cls := findClass_of_methodNamed Bd.named
  have hnm := (name_of_methodNamed Bd.named Bd.method).1
  have X0 : Stand p l e ({ frames := 1, cells := 1, slots := 10, locals := 14 } : Room) s m #[(.ref a1), (.int (1 : Int32))] below meth c s₁ [] 0 0 := Stand.of_body Bd
  have e0 : s₁.heap = h0 := by rw [← hh, Bd.state]; rfl
  have N0 := Fr.nil n0
  have pre0 : ∀ t, Steps p.tables e below (s₁.setTop (mkF m 0 #[Sr a1, Si (1 : Int32), Su, Su] [])) t → Steps p.tables e below (s₁.setTop (entryFrame m #[(.ref a1), (.int (1 : Int32))] 4)) t := fun t k => castTop (ef_rm13 m a1) k
  obtain ⟨T51, X51, e51, st51⟩ := getF X0 hx hZ hown (host := "") (Or.inl (ow hw 32 rfl)) Via.refl e0 Fd (g := (mkF m 1 #[Sr a1, Si (1 : Int32), Su, Su] [(.ref a1)])) rfl rfl (hb hby d13_1)
  obtain ⟨c52, Arc52, Aqc52, Asc52, Anc52, Ahc52, Agc52⟩ := id (VE.ext O0.2)
  obtain ⟨T53, X53, e53, st53⟩ := getF X51 hx hZ hown (host := "") (Or.inl (ow hw 32 rfl)) Via.refl e51 Fd (g := (mkF m 11 #[Sr a1, Si (1 : Int32), Si (0 : Int32), Su] [(.ref a1)])) rfl rfl (hb hby d13_11)
  obtain ⟨T54, X54, e54, st54⟩ := getS2 X53 hx hZ hown (host := "") (Or.inl (ow hw 31 rfl)) Via.refl e53 (SE.ext O0.2) (g := (mkF m 14 #[Sr a1, Si (1 : Int32), Si (0 : Int32), Su] [(.ref wE)])) rfl (hb hby d13_14)
  have hc55 : wE = wE := rfl
  obtain ⟨_, _, ⟨T56, L56, k56, n56⟩, -, X56, ⟨Lc56, hQ56, l56, y56, z56⟩, st56⟩ := Jvm.LawKit.callS X54 hx (y := (⟨"java/lang/Math", "max", "(II)I"⟩ : MethodName)) hown (mvT hZ (ow hw 82 rfl)) (mvT hZ (ow hw 2 rfl)) (mvT hZ (ow hw 3 rfl)) (mvT hZ (ow hw 4 rfl)) (by decide) (backOf (W := 1) (rm1 l Z a0 hw [] (10 : Int32) (1 : Int32) h0 n0 Z0) hZ (ow hw 4 rfl) (ow hw 3 rfl) (by decide) (by decide)) (g := (mkF m 49 #[Sr a1, Si (1 : Int32), Si (0 : Int32), Su] [(.int (1 : Int32)), (.int (10 : Int32)), (.ref a1)])) rfl (by rw [hml]; rfl) (argsL := [(.int (10 : Int32)), (.int (1 : Int32))]) (rest := [(.ref a1)]) (lenOf pd_1 rfl) rfl (by show 2 * 0 + _ ≤ _; exact Nat.le_of_eq rfl) (hb hby d13_49) (fun _ _ => ⟨rfl, e54, (by decide : 0 + 0 ≤ _), (by decide : 0 + 0 ≤ _)⟩)
  dsimp only [Pt.U, Pt.locs, Pt.cells, Pt.slots] at X56 l56 y56 z56 st56 hQ56
  subst y56 z56
  obtain ⟨rfl, Nq56, q56_0⟩ := hQ56
  have N57 := Eq.subst (motive := fun L => Fr n0 L) l56.symm (Fr.app N0 Nq56)
  have pre58 : ∀ t, Steps p.tables e below (T56.setTop (mkF m 52 #[Sr a1, Si (1 : Int32), Si (0 : Int32), Su] [(.int (own_max (10 : Int32) (1 : Int32))), (.ref a1)])) t → Steps p.tables e below (s₁.setTop (entryFrame m #[(.ref a1), (.int (1 : Int32))] 4)) t := by
    intro t k
    refine pre0 t ?_
    refine XS.aloadN X0.here hx rfl (hb hby d13_0) rfl rfl ?_
    refine st51 _ ?_
    refine X51.arraylength hx (by rw [e51]; exact Arc52.1) (State.isArrayOf_alike hZ.alike Arc52.2.1) (g := (mkF m 4 #[Sr a1, Si (1 : Int32), Su, Su] [(.ref wE)])) rfl rfl (hb hby d13_4) _ ?_
    rw [len_of Asc52 Anc52]
    refine XS.istoreN X51.here hx rfl (hb hby d13_5) rfl (l' := #[Sr a1, Si (1 : Int32), Si (0 : Int32), Su]) rfl ?_
    refine XS.iloadN X51.here hx rfl (hb hby d13_6) rfl ?_
    refine XS.ifNo X51.here hx rfl (hb hby d13_7) rfl ((if0 _ _).trans (flt (by decide)).2.2.1) ?_
    refine XS.aloadN X51.here hx rfl (hb hby d13_10) rfl rfl ?_
    refine st53 _ ?_
    refine st54 _ ?_
    refine Jvm.RoadKit.acmp (g := (mkF m 17 #[Sr a1, Si (1 : Int32), Si (0 : Int32), Su] [(.ref wE), (.ref wE)])) X54 hx rfl rfl rfl (pc0 := 17) (pc' := 45) (same := true) rfl (hb hby d13_17) rfl (decide_eq_true (congrArg Value.ref hc55)) (by decide) (by decide) ?_
    show Steps _ _ _ (T54.setTop (mkF m 45 #[Sr a1, Si (1 : Int32), Si (0 : Int32), Su] [])) _
    refine XS.aloadN X54.here hx rfl (hb hby d13_45) rfl rfl ?_
    refine XS.bipush X54.here hx rfl (hb hby d13_46) ?_
    refine XS.iloadN X54.here hx rfl (hb hby d13_48) rfl ?_
    refine st56 _ ?_
    exact k
  have hmx : (own_max (10 : Int32) (1 : Int32)) = (10 : Int32) := by decide
  rw [hmx] at pre58
  obtain ⟨T59, h59, k59, X59, e59, E59, A59, O59, st59⟩ := newR X56 hx hZ hown (ow hw 83 rfl) (ow hw 84 rfl) q56_0 (g := (mkF m 52 #[Sr a1, Si (1 : Int32), Si (0 : Int32), Su] [(.int (10 : Int32)), (.ref a1)])) rfl (hb hby d13_52) rfl (by decide) (cap := 10) (by decide) (by decide) (by decide) (by decide)
  obtain ⟨b59, g59⟩ : ∃ z, z = h0.size := ⟨_, rfl⟩
  rw [← g59] at A59 st59
  have ne60 : a1 ≠ b59 := Nat.ne_of_lt (Nat.lt_of_lt_of_le Es.lt (Nat.le_of_eq g59.symm))
  have ge61 : n0 ≤ b59 := Nat.le_trans Z0 (Nat.le_of_eq g59.symm)
  have sz62 : h0.size ≤ b59 := Nat.le_trans (Keep.refl h0 [a1]).1 (Nat.le_of_eq g59.symm)
  have KC63 : Keep h0 h59 [a1] := (Keep.refl h0 [a1]).ext E59
  have V59 : Arv Z h59 b59 k59 (.object "java/lang/Object") (10 : Int32) [.null, .null, .null, .null, .null, .null, .null, .null, .null, .null] .null := (Arv.new A59 (by decide)).pad (pad_rep [] .null 10)
  have F64 : Exa Z h59 a1 "java/util/ArrayList" := (Es.ext E59)
  have F65 : Fld Z h59 a1 "java/util/ArrayList" "elementData" "[Ljava/lang/Object;" (.ref wE) := (Fd.ext E59)
  obtain ⟨T66, h66, X66, e66, W66, st66⟩ := putF X59 hx hZ hown (host := "") (Or.inl (ow hw 32 rfl)) Via.refl e59 F65 F64 (Or.inl (ow hw 33 rfl)) (ow hw 9 rfl) (ty := (.array (.object "java/lang/Object"))) (by decide) rfl rfl (g := (mkF m 56 #[Sr a1, Si (1 : Int32), Si (0 : Int32), Su] [(.ref b59), (.ref a1), (.ref b59)])) rfl rfl (hb hby d13_56)
  have KC67 : Keep h0 h66 [a1] := KC63.wr W66 (Or.inl (List.mem_of_getElem? (i := 0) rfl))
  have F68 : Fld Z h66 a1 "java/util/ArrayList" "elementData" "[Ljava/lang/Object;" (.ref b59) := F65.same W66
  have N69 := Fr.snoc X66 N57 g1
  have pre70 : ∀ t, Steps p.tables e below (T66.setTop (mkF m 59 #[Sr a1, Si (1 : Int32), Si (0 : Int32), Su] [(.ref b59)])) t → Steps p.tables e below (s₁.setTop (entryFrame m #[(.ref a1), (.int (1 : Int32))] 4)) t := by
    intro t k
    refine pre58 t ?_
    refine st59 _ ?_
    refine XS.dupX1 X59.here hx rfl (hb hby d13_55) rfl rfl rfl ?_
    refine st66 _ ?_
    exact k
  obtain ⟨fs, hr, hrun, hended, hW, hsame⟩ := X66.leave (v := some (.ref b59)) (fun h => by rw [Bd.returns] at h; cases h)
  refine ⟨_, _, pre70 _ ?_, hrun, hended, _, _, rfl, ?_, ⟨_, rfl⟩, hW, hsame.mono (by decide) (by decide)⟩
  · exact X66.areturnOut hx (w := (.ref b59)) rfl Bd.returns rfl (hb hby d13_59) hr
  · show Q_rm13 Z a1 wE kE mc h0 n0 _ T66.heap _
    rw [e66]
    have F71 : Arv Z h66 b59 k59 (.object "java/lang/Object") (10 : Int32) [.null, .null, .null, .null, .null, .null, .null, .null, .null, .null] .null := (V59.other W66 (Ne.symm ne60))
    have F72 : Fld Z h66 a1 "java/util/ArrayList" "size" "I" (.int (0 : Int32)) := ((Fs.ext E59).other W66 (Or.inr (slot_ne (Or.inl (ow hw 66 rfl)) (Or.inl (ow hw 33 rfl)) (by decide) (t := .int) (t' := (.array (.object "java/lang/Object"))) (by decide) (by decide))))
    have F73 : Fld Z h66 a1 "java/util/AbstractList" "modCount" "I" (.int mc) := ((Fm.ext E59).other W66 (Or.inr (slot_ne (Or.inl (ow hw 30 rfl)) (Or.inl (ow hw 33 rfl)) (by decide) (t := .int) (t' := (.array (.object "java/lang/Object"))) (by decide) (by decide))))
    exact ⟨b59, k59, rfl, N69, KC67, sz62, F71, O59, F68, F72, F73⟩
theorem d12_0 : decode jdk_38_method_7_code 0 = .ok (.aload_n 0, 1) := by decide +kernel
theorem d12_1 : decode jdk_38_method_7_code 1 = .ok (.aload_n 0, 1) := by decide +kernel
theorem d12_2 : decode jdk_38_method_7_code 2 = .ok (.getfield 48, 3) := by decide +kernel
theorem d12_5 : decode jdk_38_method_7_code 5 = .ok (.iconst 1, 1) := by decide +kernel
theorem d12_6 : decode jdk_38_method_7_code 6 = .ok (.iadd, 1) := by decide +kernel
theorem pd_2 : parseMethodDescriptor "(I)[Ljava/lang/Object;" = some ⟨[.int], some (.array (.object "java/lang/Object"))⟩ := by decide +kernel
theorem d12_7 : decode jdk_38_method_7_code 7 = .ok (.invokevirtual 69, 3) := by decide +kernel
theorem d12_10 : decode jdk_38_method_7_code 10 = .ok (.areturn, 1) := by decide +kernel
theorem ef_rm12 (m : MethodId) (x0 : Addr) : entryFrame m #[(.ref x0)] 1 = mkF m 0 #[Sr x0] [] := by first | (simp [entryFrame, mkF, argsToLocals, Value.category]; done) | rfl
def Q_rm12 (Z : State) (a1 : Addr) (wE : Addr) (kE : ClassId) (mc : Int32) (h0 : Heap) (n0 : Nat) (v : Option Value) (h : Heap) (L : List Loc) : Prop := ∃ (r : Addr) (kr : ClassId), v = some (.ref r) ∧ Fr n0 L ∧ Keep h0 h [a1] ∧ h0.size ≤ r ∧ Arv Z h r kr (.object "java/lang/Object") (10 : Int32) [.null, .null, .null, .null, .null, .null, .null, .null, .null, .null] .null ∧ Ovr Z kr "java/lang/Object" ∧ Fld Z h a1 "java/util/ArrayList" "elementData" "[Ljava/lang/Object;" (.ref r) ∧ Fld Z h a1 "java/util/ArrayList" "size" "I" (.int (0 : Int32)) ∧ Fld Z h a1 "java/util/AbstractList" "modCount" "I" (.int mc)
set_option maxRecDepth 65536 in
set_option maxHeartbeats 40000000 in
theorem rm12 (l : Launch) (Z : State) (a0 : Array Value) (hw : ∀ d ∈ tables_1, d.before a0 Z = true) (ws : List Jvm.Cond) (a1 : Addr) (wE : Addr) (kE : ClassId) (mc : Int32) (h0 : Heap) (n0 : Nat) (Z0 : n0 ≤ h0.size) (O0 : Old Z n0 h0) (SE : Sta Z Z.heap "java/util/ArrayList" "DEFAULTCAPACITY_EMPTY_ELEMENTDATA" "[Ljava/lang/Object;" (.ref wE)) (VE : Arv Z Z.heap wE kE (.object "java/lang/Object") (0 : Int32) [] .null) (g1 : n0 ≤ a1) (Es : Exa Z h0 a1 "java/util/ArrayList") (Fs : Fld Z h0 a1 "java/util/ArrayList" "size" "I" (.int (0 : Int32))) (Fd : Fld Z h0 a1 "java/util/ArrayList" "elementData" "[Ljava/lang/Object;" (.ref wE)) (Fm : Fld Z h0 a1 "java/util/AbstractList" "modCount" "I" (.int mc)) :
    MetFree l (⟨"java/util/ArrayList", "grow", "()[Ljava/lang/Object;"⟩ : MethodName) (head1 (Jvm.Cond.code (⟨"java/util/ArrayList", "grow", "()[Ljava/lang/Object;"⟩ : MethodName) jdk_38_method_7_code 1 (some (.array (.object "java/lang/Object"))) :: ws) ({ frames := 2, cells := 1, slots := 10, locals := 29 } : Room)) (fun a U => a = #[(.ref a1)] ∧ Z.Warmed39 U.vm ∧ U.heap = h0) (fun _ _ _ _ _ => True) (fun _ U o U' => ∃ v L, o = .returned v ∧ Q_rm12 Z a1 wE kE mc h0 n0 v U'.heap L ∧ FrameEnd U o U' L ({ frames := 2, cells := 1, slots := 10, locals := 29 } : Room).cells ({ frames := 2, cells := 1, slots := 10, locals := 29 } : Room).slots) := by
  refine MetFree.of_bodySF (plainFor_of_name pn_2) hisR ?_
  intro p e s m args below meth c s₁ Bd hml0 hP hK
  obtain ⟨rfl, hZ, hh⟩ := hP
  have hx := Bd.exec
  have hby := Bd.bytes
  have hml : c.maxLocals = 1 := hml0
  have hown : s.vm.findClass "java/util/ArrayList" = some m.cls := findClass_of_methodNamed Bd.named
  have hnm := (name_of_methodNamed Bd.named Bd.method).1
  have X0 : Stand p l e ({ frames := 2, cells := 1, slots := 10, locals := 29 } : Room) s m #[(.ref a1)] below meth c s₁ [] 0 0 := Stand.of_body Bd
  have e0 : s₁.heap = h0 := by rw [← hh, Bd.state]; rfl
  have N0 := Fr.nil n0
  have pre0 : ∀ t, Steps p.tables e below (s₁.setTop (mkF m 0 #[Sr a1] [])) t → Steps p.tables e below (s₁.setTop (entryFrame m #[(.ref a1)] 1)) t := fun t k => castTop (ef_rm12 m a1) k
  obtain ⟨T51, X51, e51, st51⟩ := getF X0 hx hZ hown (host := "") (Or.inl (ow hw 65 rfl)) Via.refl e0 Fs (g := (mkF m 2 #[Sr a1] [(.ref a1), (.ref a1)])) rfl rfl (hb hby d12_2)
  obtain ⟨cq52, q52, q52'⟩ := Es.cell
  obtain ⟨_, _, ⟨T52, L52, k52, n52⟩, -, X52, ⟨Lc52, hQ52, l52, y52, z52⟩, st52⟩ := X51.privateBack hx (y := (⟨"java/util/ArrayList", "grow", "(I)[Ljava/lang/Object;"⟩ : MethodName)) hown (mvT hZ (ow hw 77 rfl)) (mvT hZ (ow hw 78 rfl)) (mvT hZ (ow hw 80 rfl)) (Cond.privateMethod_at (mvP hZ (ow hw 79 rfl) (args := #[]))) (mvT hZ (ow hw 81 rfl)) (by decide) (backOf (W := 0) (rm13 l Z a0 hw [] a1 wE kE mc h0 n0 Z0 O0 SE VE g1 Es Fs Fd Fm) hZ (ow hw 81 rfl) (ow hw 10 rfl) (by decide) (by decide)) (g := (mkF m 7 #[Sr a1] [(.int (1 : Int32)), (.ref a1)])) rfl (by rw [hml]; rfl) (Steps.refl _) (a := a1) (by rw [e51]; exact q52) q52' (argsL := [(.int (1 : Int32))]) (rest := []) (lenOf pd_2 rfl) rfl (by show 2 * 0 + _ ≤ _; exact Nat.le_of_eq rfl) (hb hby d12_7) (fun _ _ => ⟨rfl, e51, (by decide : 0 + 1 ≤ _), (by decide : 0 + 10 ≤ _)⟩)
  dsimp only [Pt.U, Pt.locs, Pt.cells, Pt.slots] at X52 l52 y52 z52 st52 hQ52
  subst y52 z52
  obtain ⟨r_52, kr_52, rfl, Nq52, q52_0, q52_1, q52_2, q52_3, q52_4, q52_5, q52_6⟩ := hQ52
  have N53 := Eq.subst (motive := fun L => Fr n0 L) l52.symm (Fr.app N0 Nq52)
  have ne54 : a1 ≠ r_52 := Nat.ne_of_lt (Nat.lt_of_lt_of_le Es.lt q52_1)
  have ge55 : n0 ≤ r_52 := Nat.le_trans Z0 q52_1
  have sz56 : h0.size ≤ r_52 := Nat.le_trans (Keep.refl h0 [a1]).1 q52_1
  have KC57 : Keep h0 T52.heap [a1] := (Keep.refl h0 [a1]).trans q52_0 (allS (Or.inl (List.mem_of_getElem? (i := 0) rfl)) all0)
  have pre58 : ∀ t, Steps p.tables e below (T52.setTop (mkF m 10 #[Sr a1] [(.ref r_52)])) t → Steps p.tables e below (s₁.setTop (entryFrame m #[(.ref a1)] 1)) t := by
    intro t k
    refine pre0 t ?_
    refine XS.aloadN X0.here hx rfl (hb hby d12_0) rfl rfl ?_
    refine XS.aloadN X0.here hx rfl (hb hby d12_1) rfl rfl ?_
    refine st51 _ ?_
    refine XS.iconst X51.here hx rfl (hb hby d12_5) ?_
    refine XS.iadd X51.here hx rfl (hb hby d12_6) rfl ?_
    refine st52.trans ?_
    exact k
  obtain ⟨fs, hr, hrun, hended, hW, hsame⟩ := X52.leave (v := some (.ref r_52)) (fun h => by rw [Bd.returns] at h; cases h)
  refine ⟨_, _, pre58 _ ?_, hrun, hended, _, _, rfl, ?_, ⟨_, rfl⟩, hW, hsame.mono (by decide) (by decide)⟩
  · exact X52.areturnOut hx (w := (.ref r_52)) rfl Bd.returns rfl (hb hby d12_10) hr
  · show Q_rm12 Z a1 wE kE mc h0 n0 _ T52.heap _
    exact ⟨r_52, kr_52, rfl, N53, KC57, sz56, q52_2, q52_3, q52_4, q52_5, q52_6⟩
theorem d11_0 : decode jdk_38_method_24_code 0 = .ok (.iload_n 3, 1) := by decide +kernel
theorem d11_1 : decode jdk_38_method_24_code 1 = .ok (.aload_n 2, 1) := by decide +kernel
theorem d11_2 : decode jdk_38_method_24_code 2 = .ok (.arraylength, 1) := by decide +kernel
theorem d11_3 : decode jdk_38_method_24_code 3 = .ok (.if_icmp .ne 8, 3) := by decide +kernel
theorem d11_6 : decode jdk_38_method_24_code 6 = .ok (.aload_n 0, 1) := by decide +kernel
theorem pd_3 : parseMethodDescriptor "()[Ljava/lang/Object;" = some ⟨[], some (.array (.object "java/lang/Object"))⟩ := by decide +kernel
theorem d11_7 : decode jdk_38_method_24_code 7 = .ok (.invokevirtual 129, 3) := by decide +kernel
theorem d11_10 : decode jdk_38_method_24_code 10 = .ok (.astore_n 2, 1) := by decide +kernel
theorem d11_11 : decode jdk_38_method_24_code 11 = .ok (.aload_n 2, 1) := by decide +kernel
theorem d11_12 : decode jdk_38_method_24_code 12 = .ok (.iload_n 3, 1) := by decide +kernel
theorem d11_13 : decode jdk_38_method_24_code 13 = .ok (.aload_n 1, 1) := by decide +kernel
theorem d11_14 : decode jdk_38_method_24_code 14 = .ok (.aastore, 1) := by decide +kernel
theorem d11_15 : decode jdk_38_method_24_code 15 = .ok (.aload_n 0, 1) := by decide +kernel
theorem d11_16 : decode jdk_38_method_24_code 16 = .ok (.iload_n 3, 1) := by decide +kernel
theorem d11_17 : decode jdk_38_method_24_code 17 = .ok (.iconst 1, 1) := by decide +kernel
theorem d11_18 : decode jdk_38_method_24_code 18 = .ok (.iadd, 1) := by decide +kernel
theorem d11_19 : decode jdk_38_method_24_code 19 = .ok (.putfield 48, 3) := by decide +kernel
theorem d11_22 : decode jdk_38_method_24_code 22 = .ok (.return_, 1) := by decide +kernel
theorem ef_rm_addB0_IntegerRange (m : MethodId) (x0 : Addr) (x1 : Addr) (x2 : Addr) : entryFrame m #[(.ref x0), (.ref x1), (.ref x2), (.int (0 : Int32))] 4 = mkF m 0 #[Sr x0, Sr x1, Sr x2, Si (0 : Int32)] [] := by first | (simp [entryFrame, mkF, argsToLocals, Value.category]; done) | rfl
def Q_rm_addB0_IntegerRange (Z : State) (a1 : Addr) (a2 : Addr) (wE : Addr) (kE : ClassId) (mc : Int32) (h0 : Heap) (n0 : Nat) (v : Option Value) (h : Heap) (L : List Loc) : Prop := ∃ (r : Addr) (kr : ClassId), v = none ∧ Fr n0 L ∧ Keep h0 h [a1] ∧ h0.size ≤ r ∧ Arv Z h r kr (.object "java/lang/Object") (10 : Int32) [(.ref a2), .null, .null, .null, .null, .null, .null, .null, .null, .null] .null ∧ Ovr Z kr "java/lang/Object" ∧ Fld Z h a1 "java/util/ArrayList" "elementData" "[Ljava/lang/Object;" (.ref r) ∧ Fld Z h a1 "java/util/ArrayList" "size" "I" (.int (1 : Int32)) ∧ Fld Z h a1 "java/util/AbstractList" "modCount" "I" (.int mc)
set_option maxRecDepth 65536 in
set_option maxHeartbeats 40000000 in
theorem rm_addB0_IntegerRange (l : Launch) (Z : State) (a0 : Array Value) (hw : ∀ d ∈ tables_1, d.before a0 Z = true) (ws : List Jvm.Cond) (a1 : Addr) (a2 : Addr) (wE : Addr) (kE : ClassId) (mc : Int32) (h0 : Heap) (n0 : Nat) (Z0 : n0 ≤ h0.size) (O0 : Old Z n0 h0) (SE : Sta Z Z.heap "java/util/ArrayList" "DEFAULTCAPACITY_EMPTY_ELEMENTDATA" "[Ljava/lang/Object;" (.ref wE)) (VE : Arv Z Z.heap wE kE (.object "java/lang/Object") (0 : Int32) [] .null) (g1 : n0 ≤ a1) (E2 : Exa Z h0 a2 "com/example/darlington/darlington/core/IntegerRange") (Es : Exa Z h0 a1 "java/util/ArrayList") (Fs : Fld Z h0 a1 "java/util/ArrayList" "size" "I" (.int (0 : Int32))) (Fd : Fld Z h0 a1 "java/util/ArrayList" "elementData" "[Ljava/lang/Object;" (.ref wE)) (Fm : Fld Z h0 a1 "java/util/AbstractList" "modCount" "I" (.int mc)) :
    MetFree l (⟨"java/util/ArrayList", "add", "(Ljava/lang/Object;[Ljava/lang/Object;I)V"⟩ : MethodName) (head1 (Jvm.Cond.code (⟨"java/util/ArrayList", "add", "(Ljava/lang/Object;[Ljava/lang/Object;I)V"⟩ : MethodName) jdk_38_method_24_code 4 none :: ws) ({ frames := 3, cells := 1, slots := 10, locals := 41 } : Room)) (fun a U => a = #[(.ref a1), (.ref a2), (.ref wE), (.int (0 : Int32))] ∧ Z.Warmed39 U.vm ∧ U.heap = h0) (fun _ _ _ _ _ => True) (fun _ U o U' => ∃ v L, o = .returned v ∧ Q_rm_addB0_IntegerRange Z a1 a2 wE kE mc h0 n0 v U'.heap L ∧ FrameEnd U o U' L ({ frames := 3, cells := 1, slots := 10, locals := 41 } : Room).cells ({ frames := 3, cells := 1, slots := 10, locals := 41 } : Room).slots) := by
  refine MetFree.of_bodySF (plainFor_of_name pn_2) hisR ?_
  intro p e s m args below meth c s₁ Bd hml0 hP hK
  obtain ⟨rfl, hZ, hh⟩ := hP
  have hx := Bd.exec
  have hby := Bd.bytes
  have hml : c.maxLocals = 4 := hml0
  have hown : s.vm.findClass "java/util/ArrayList" = some m.cls := findClass_of_methodNamed Bd.named
  have hnm := (name_of_methodNamed Bd.named Bd.method).1
  have X0 : Stand p l e ({ frames := 3, cells := 1, slots := 10, locals := 41 } : Room) s m #[(.ref a1), (.ref a2), (.ref wE), (.int (0 : Int32))] below meth c s₁ [] 0 0 := Stand.of_body Bd
  have e0 : s₁.heap = h0 := by rw [← hh, Bd.state]; rfl
  have N0 := Fr.nil n0
  have pre0 : ∀ t, Steps p.tables e below (s₁.setTop (mkF m 0 #[Sr a1, Sr a2, Sr wE, Si (0 : Int32)] [])) t → Steps p.tables e below (s₁.setTop (entryFrame m #[(.ref a1), (.ref a2), (.ref wE), (.int (0 : Int32))] 4)) t := fun t k => castTop (ef_rm_addB0_IntegerRange m a1 a2 wE) k
  obtain ⟨c51, Arc51, Aqc51, Asc51, Anc51, Ahc51, Agc51⟩ := id (VE.ext O0.2)
  obtain ⟨cq52, q52, q52'⟩ := Es.cell
  obtain ⟨_, _, ⟨T52, L52, k52, n52⟩, -, X52, ⟨Lc52, hQ52, l52, y52, z52⟩, st52⟩ := X0.privateBack hx (y := (⟨"java/util/ArrayList", "grow", "()[Ljava/lang/Object;"⟩ : MethodName)) hown (mvT hZ (ow hw 72 rfl)) (mvT hZ (ow hw 73 rfl)) (mvT hZ (ow hw 75 rfl)) (Cond.privateMethod_at (mvP hZ (ow hw 74 rfl) (args := #[]))) (mvT hZ (ow hw 76 rfl)) (by decide) (backOf (W := 0) (rm12 l Z a0 hw [] a1 wE kE mc h0 n0 Z0 O0 SE VE g1 Es Fs Fd Fm) hZ (ow hw 76 rfl) (ow hw 10 rfl) (by decide) (by decide)) (g := (mkF m 7 #[Sr a1, Sr a2, Sr wE, Si (0 : Int32)] [(.ref a1)])) rfl (by rw [hml]; rfl) (Steps.refl _) (a := a1) (by rw [e0]; exact q52) q52' (argsL := []) (rest := []) (lenOf pd_3 rfl) rfl (by show 2 * 0 + _ ≤ _; exact Nat.le_of_eq rfl) (hb hby d11_7) (fun _ _ => ⟨rfl, e0, (by decide : 0 + 1 ≤ _), (by decide : 0 + 10 ≤ _)⟩)
  dsimp only [Pt.U, Pt.locs, Pt.cells, Pt.slots] at X52 l52 y52 z52 st52 hQ52
  subst y52 z52
  obtain ⟨r_52, kr_52, rfl, Nq52, q52_0, q52_1, q52_2, q52_3, q52_4, q52_5, q52_6⟩ := hQ52
  have N53 := Eq.subst (motive := fun L => Fr n0 L) l52.symm (Fr.app N0 Nq52)
  have ne54 : a2 ≠ r_52 := Nat.ne_of_lt (Nat.lt_of_lt_of_le E2.lt q52_1)
  have ne55 : a1 ≠ r_52 := Nat.ne_of_lt (Nat.lt_of_lt_of_le Es.lt q52_1)
  have ge56 : n0 ≤ r_52 := Nat.le_trans Z0 q52_1
  have sz57 : h0.size ≤ r_52 := Nat.le_trans (Keep.refl h0 [a1]).1 q52_1
  have KC58 : Keep h0 T52.heap [a1] := (Keep.refl h0 [a1]).trans q52_0 (allS (Or.inl (List.mem_of_getElem? (i := 0) rfl)) all0)
  obtain ⟨c59, Arc59, Aqc59, Asc59, Anc59, Ahc59, Agc59⟩ := id q52_2
  have hin60 : ¬ ((0 : Int32) < 0 ∨ c59.slots.size ≤ ((0 : Int32)).toNatClampNeg) := inb_of Asc59 ⟨by decide, by decide⟩
  have F61 : Exa Z T52.heap a2 "com/example/darlington/darlington/core/IntegerRange" := (E2.keep q52_0)
  obtain ⟨T62, h62, X62, e62, W62, st62⟩ := stR X52 hx hZ rfl Arc59 (j := (0 : Int32)) hin60 rfl (Sto.ofV Arc59 Aqc59 q52_3 (Ins.of_exa F61 (ow hw 85 rfl))) (g := (mkF m 14 #[Sr a1, Sr a2, Sr r_52, Si (0 : Int32)] [(.ref a2), (.int (0 : Int32)), (.ref r_52)])) rfl rfl (hb hby d11_14)
  have KC63 : Keep h0 h62 [a1] := KC58.wr W62 (Or.inr sz57)
  have V62 : Arv Z h62 r_52 kr_52 (.object "java/lang/Object") (10 : Int32) [(.ref a2), .null, .null, .null, .null, .null, .null, .null, .null, .null] .null := Arv.set Arc59 Aqc59 Asc59 Anc59 Ahc59 Agc59 rfl W62 0 rfl (Nat.le_of_ble_eq_true rfl)
  have N64 := Fr.snoc X62 N53 ge56
  have F65 : Exa Z h62 a1 "java/util/ArrayList" := ((Es.keep q52_0).wr W62)
  have F66 : Fld Z h62 a1 "java/util/ArrayList" "size" "I" (.int (0 : Int32)) := (q52_5.other W62 (Or.inl ne55))
  obtain ⟨T67, h67, X67, e67, W67, st67⟩ := putF X62 hx hZ hown (host := "") (Or.inl (ow hw 65 rfl)) Via.refl e62 F66 F65 (Or.inl (ow hw 66 rfl)) (ow hw 9 rfl) (ty := .int) (by decide) rfl rfl (g := (mkF m 19 #[Sr a1, Sr a2, Sr r_52, Si (0 : Int32)] [(.int (1 : Int32)), (.ref a1)])) rfl rfl (hb hby d11_19)
  have KC68 : Keep h0 h67 [a1] := KC63.wr W67 (Or.inl (List.mem_of_getElem? (i := 0) rfl))
  have F69 : Fld Z h67 a1 "java/util/ArrayList" "size" "I" (.int (1 : Int32)) := F66.same W67
  have N70 := Fr.snoc X67 N64 g1
  have pre71 : ∀ t, Steps p.tables e below (T67.setTop (mkF m 22 #[Sr a1, Sr a2, Sr r_52, Si (0 : Int32)] [])) t → Steps p.tables e below (s₁.setTop (entryFrame m #[(.ref a1), (.ref a2), (.ref wE), (.int (0 : Int32))] 4)) t := by
    intro t k
    refine pre0 t ?_
    refine XS.iloadN X0.here hx rfl (hb hby d11_0) rfl ?_
    refine XS.aloadN X0.here hx rfl (hb hby d11_1) rfl rfl ?_
    refine X0.arraylength hx (by rw [e0]; exact Arc51.1) (State.isArrayOf_alike hZ.alike Arc51.2.1) (g := (mkF m 2 #[Sr a1, Sr a2, Sr wE, Si (0 : Int32)] [(.ref wE), (.int (0 : Int32))])) rfl rfl (hb hby d11_2) _ ?_
    rw [len_of Asc51 Anc51]
    refine XS.icmpNo X0.here hx rfl (hb hby d11_3) rfl (teq rfl).2 ?_
    refine XS.aloadN X0.here hx rfl (hb hby d11_6) rfl rfl ?_
    refine st52.trans ?_
    refine XS.astoreN X52.here hx rfl (hb hby d11_10) rfl rfl (l' := #[Sr a1, Sr a2, Sr r_52, Si (0 : Int32)]) rfl ?_
    refine XS.aloadN X52.here hx rfl (hb hby d11_11) rfl rfl ?_
    refine XS.iloadN X52.here hx rfl (hb hby d11_12) rfl ?_
    refine XS.aloadN X52.here hx rfl (hb hby d11_13) rfl rfl ?_
    show Steps _ _ _ (T52.setTop (mkF m 14 #[Sr a1, Sr a2, Sr r_52, Si (0 : Int32)] [(.ref a2), (.int (0 : Int32)), (.ref r_52)])) _
    refine st62 _ ?_
    refine XS.aloadN X62.here hx rfl (hb hby d11_15) rfl rfl ?_
    refine XS.iloadN X62.here hx rfl (hb hby d11_16) rfl ?_
    refine XS.iconst X62.here hx rfl (hb hby d11_17) ?_
    refine XS.iadd X62.here hx rfl (hb hby d11_18) rfl ?_
    refine st67 _ ?_
    exact k
  obtain ⟨fs, hr, hrun, hended, hW, hsame⟩ := X67.leave (v := none) (fun _ => rfl)
  refine ⟨_, _, pre71 _ ?_, hrun, hended, _, _, rfl, ?_, ⟨_, rfl⟩, hW, hsame.mono (by decide) (by decide)⟩
  · exact X67.returnOut hx Bd.returns (hb hby d11_22) hr
  · show Q_rm_addB0_IntegerRange Z a1 a2 wE kE mc h0 n0 _ T67.heap _
    rw [e67]
    have F72 : Arv Z h67 r_52 kr_52 (.object "java/lang/Object") (10 : Int32) [(.ref a2), .null, .null, .null, .null, .null, .null, .null, .null, .null] .null := (V62.other W67 (Ne.symm ne55))
    have F73 : Fld Z h67 a1 "java/util/ArrayList" "elementData" "[Ljava/lang/Object;" (.ref r_52) := ((q52_4.other W62 (Or.inl ne55)).other W67 (Or.inr (slot_ne (Or.inl (ow hw 33 rfl)) (Or.inl (ow hw 66 rfl)) (by decide) (t := (.array (.object "java/lang/Object"))) (t' := .int) (by decide) (by decide))))
    have F74 : Fld Z h67 a1 "java/util/AbstractList" "modCount" "I" (.int mc) := ((q52_6.other W62 (Or.inl ne55)).other W67 (Or.inr (slot_ne (Or.inl (ow hw 30 rfl)) (Or.inl (ow hw 66 rfl)) (by decide) (t := .int) (t' := .int) (by decide) (by decide))))
    exact ⟨r_52, kr_52, rfl, N70, KC68, sz57, F72, q52_3, F73, F69, F74⟩
theorem d10_0 : decode jdk_38_method_25_code 0 = .ok (.aload_n 0, 1) := by decide +kernel
theorem d10_1 : decode jdk_38_method_25_code 1 = .ok (.dup, 1) := by decide +kernel
theorem d10_2 : decode jdk_38_method_25_code 2 = .ok (.getfield 63, 3) := by decide +kernel
theorem d10_5 : decode jdk_38_method_25_code 5 = .ok (.iconst 1, 1) := by decide +kernel
theorem d10_6 : decode jdk_38_method_25_code 6 = .ok (.iadd, 1) := by decide +kernel
theorem d10_7 : decode jdk_38_method_25_code 7 = .ok (.putfield 63, 3) := by decide +kernel
theorem d10_10 : decode jdk_38_method_25_code 10 = .ok (.aload_n 0, 1) := by decide +kernel
theorem d10_11 : decode jdk_38_method_25_code 11 = .ok (.aload_n 1, 1) := by decide +kernel
theorem d10_12 : decode jdk_38_method_25_code 12 = .ok (.aload_n 0, 1) := by decide +kernel
theorem d10_13 : decode jdk_38_method_25_code 13 = .ok (.getfield 9, 3) := by decide +kernel
theorem d10_16 : decode jdk_38_method_25_code 16 = .ok (.aload_n 0, 1) := by decide +kernel
theorem d10_17 : decode jdk_38_method_25_code 17 = .ok (.getfield 48, 3) := by decide +kernel
theorem pd_4 : parseMethodDescriptor "(Ljava/lang/Object;[Ljava/lang/Object;I)V" = some ⟨[(.object "java/lang/Object"), (.array (.object "java/lang/Object")), .int], none⟩ := by decide +kernel
theorem d10_20 : decode jdk_38_method_25_code 20 = .ok (.invokevirtual 131, 3) := by decide +kernel
theorem d10_23 : decode jdk_38_method_25_code 23 = .ok (.iconst 1, 1) := by decide +kernel
theorem d10_24 : decode jdk_38_method_25_code 24 = .ok (.ireturn, 1) := by decide +kernel
theorem ef_rm_addA0_IntegerRange (m : MethodId) (x0 : Addr) (x1 : Addr) : entryFrame m #[(.ref x0), (.ref x1)] 2 = mkF m 0 #[Sr x0, Sr x1] [] := by first | (simp [entryFrame, mkF, argsToLocals, Value.category]; done) | rfl
def Q_rm_addA0_IntegerRange (Z : State) (a1 : Addr) (a2 : Addr) (wE : Addr) (kE : ClassId) (mc : Int32) (h0 : Heap) (n0 : Nat) (v : Option Value) (h : Heap) (L : List Loc) : Prop := ∃ (r : Addr) (kr : ClassId), v = some (.int (1 : Int32)) ∧ Fr n0 L ∧ Keep h0 h [a1] ∧ h0.size ≤ r ∧ Arv Z h r kr (.object "java/lang/Object") (10 : Int32) [(.ref a2), .null, .null, .null, .null, .null, .null, .null, .null, .null] .null ∧ Ovr Z kr "java/lang/Object" ∧ Fld Z h a1 "java/util/ArrayList" "elementData" "[Ljava/lang/Object;" (.ref r) ∧ Fld Z h a1 "java/util/ArrayList" "size" "I" (.int (1 : Int32)) ∧ Fld Z h a1 "java/util/AbstractList" "modCount" "I" (.int (mc + (1 : Int32)))
set_option maxRecDepth 65536 in
set_option maxHeartbeats 40000000 in
theorem rm_addA0_IntegerRange (l : Launch) (Z : State) (a0 : Array Value) (hw : ∀ d ∈ tables_1, d.before a0 Z = true) (ws : List Jvm.Cond) (a1 : Addr) (a2 : Addr) (wE : Addr) (kE : ClassId) (mc : Int32) (h0 : Heap) (n0 : Nat) (Z0 : n0 ≤ h0.size) (O0 : Old Z n0 h0) (SE : Sta Z Z.heap "java/util/ArrayList" "DEFAULTCAPACITY_EMPTY_ELEMENTDATA" "[Ljava/lang/Object;" (.ref wE)) (VE : Arv Z Z.heap wE kE (.object "java/lang/Object") (0 : Int32) [] .null) (g1 : n0 ≤ a1) (E2 : Exa Z h0 a2 "com/example/darlington/darlington/core/IntegerRange") (Es : Exa Z h0 a1 "java/util/ArrayList") (Fs : Fld Z h0 a1 "java/util/ArrayList" "size" "I" (.int (0 : Int32))) (Fd : Fld Z h0 a1 "java/util/ArrayList" "elementData" "[Ljava/lang/Object;" (.ref wE)) (Fm : Fld Z h0 a1 "java/util/AbstractList" "modCount" "I" (.int mc)) :
    MetFree l (⟨"java/util/ArrayList", "add", "(Ljava/lang/Object;)Z"⟩ : MethodName) (head1 (Jvm.Cond.code (⟨"java/util/ArrayList", "add", "(Ljava/lang/Object;)Z"⟩ : MethodName) jdk_38_method_25_code 2 (some .boolean) :: ws) ({ frames := 4, cells := 1, slots := 10, locals := 56 } : Room)) (fun a U => a = #[(.ref a1), (.ref a2)] ∧ Z.Warmed39 U.vm ∧ U.heap = h0) (fun _ _ _ _ _ => True) (fun _ U o U' => ∃ v L, o = .returned v ∧ Q_rm_addA0_IntegerRange Z a1 a2 wE kE mc h0 n0 v U'.heap L ∧ FrameEnd U o U' L ({ frames := 4, cells := 1, slots := 10, locals := 56 } : Room).cells ({ frames := 4, cells := 1, slots := 10, locals := 56 } : Room).slots) := by
  refine MetFree.of_bodySF (plainFor_of_name pn_2) hisR ?_
  intro p e s m args below meth c s₁ Bd hml0 hP hK
  obtain ⟨rfl, hZ, hh⟩ := hP
  have hx := Bd.exec
  have hby := Bd.bytes
  have hml : c.maxLocals = 2 := hml0
  have hown : s.vm.findClass "java/util/ArrayList" = some m.cls := findClass_of_methodNamed Bd.named
  have hnm := (name_of_methodNamed Bd.named Bd.method).1
  have X0 : Stand p l e ({ frames := 4, cells := 1, slots := 10, locals := 56 } : Room) s m #[(.ref a1), (.ref a2)] below meth c s₁ [] 0 0 := Stand.of_body Bd
  have e0 : s₁.heap = h0 := by rw [← hh, Bd.state]; rfl
  have N0 := Fr.nil n0
  have pre0 : ∀ t, Steps p.tables e below (s₁.setTop (mkF m 0 #[Sr a1, Sr a2] [])) t → Steps p.tables e below (s₁.setTop (entryFrame m #[(.ref a1), (.ref a2)] 2)) t := fun t k => castTop (ef_rm_addA0_IntegerRange m a1 a2) k
  obtain ⟨T51, X51, e51, st51⟩ := getF X0 hx hZ hown (host := "") (Or.inl (ow hw 63 rfl)) (Via.of (ow hw 64 rfl)) e0 Fm (g := (mkF m 2 #[Sr a1, Sr a2] [(.ref a1), (.ref a1)])) rfl rfl (hb hby d10_2)
  obtain ⟨T52, h52, X52, e52, W52, st52⟩ := putF X51 hx hZ hown (host := "") (Or.inl (ow hw 63 rfl)) (Via.of (ow hw 64 rfl)) e51 Fm Es (Or.inl (ow hw 30 rfl)) (ow hw 9 rfl) (ty := .int) (by decide) rfl rfl (g := (mkF m 7 #[Sr a1, Sr a2] [(.int (mc + (1 : Int32))), (.ref a1)])) rfl rfl (hb hby d10_7)
  have KC53 : Keep h0 h52 [a1] := (Keep.refl h0 [a1]).wr W52 (Or.inl (List.mem_of_getElem? (i := 0) rfl))
  have F54 : Fld Z h52 a1 "java/util/AbstractList" "modCount" "I" (.int (mc + (1 : Int32))) := Fm.same W52
  have N55 := Fr.snoc X52 N0 g1
  have F56 : Fld Z h52 a1 "java/util/ArrayList" "elementData" "[Ljava/lang/Object;" (.ref wE) := (Fd.other W52 (Or.inr (slot_ne (Or.inl (ow hw 33 rfl)) (Or.inl (ow hw 30 rfl)) (by decide) (t := (.array (.object "java/lang/Object"))) (t' := .int) (by decide) (by decide))))
  obtain ⟨T57, X57, e57, st57⟩ := getF X52 hx hZ hown (host := "") (Or.inl (ow hw 32 rfl)) Via.refl e52 F56 (g := (mkF m 13 #[Sr a1, Sr a2] [(.ref a1), (.ref a2), (.ref a1)])) rfl rfl (hb hby d10_13)
  have F58 : Fld Z h52 a1 "java/util/ArrayList" "size" "I" (.int (0 : Int32)) := (Fs.other W52 (Or.inr (slot_ne (Or.inl (ow hw 66 rfl)) (Or.inl (ow hw 30 rfl)) (by decide) (t := .int) (t' := .int) (by decide) (by decide))))
  obtain ⟨T59, X59, e59, st59⟩ := getF X57 hx hZ hown (host := "") (Or.inl (ow hw 65 rfl)) Via.refl e57 F58 (g := (mkF m 17 #[Sr a1, Sr a2] [(.ref a1), (.ref wE), (.ref a2), (.ref a1)])) rfl rfl (hb hby d10_17)
  have O60 : Old Z n0 h52 := (O0.wr W52 g1)
  have F61 : Exa Z h52 a2 "com/example/darlington/darlington/core/IntegerRange" := (E2.wr W52)
  have F62 : Exa Z h52 a1 "java/util/ArrayList" := (Es.wr W52)
  obtain ⟨cq63, q63, q63'⟩ := F62.cell
  obtain ⟨_, _, ⟨T63, L63, k63, n63⟩, -, X63, ⟨Lc63, hQ63, l63, y63, z63⟩, st63⟩ := X59.privateBack hx (y := (⟨"java/util/ArrayList", "add", "(Ljava/lang/Object;[Ljava/lang/Object;I)V"⟩ : MethodName)) hown (mvT hZ (ow hw 67 rfl)) (mvT hZ (ow hw 68 rfl)) (mvT hZ (ow hw 70 rfl)) (Cond.privateMethod_at (mvP hZ (ow hw 69 rfl) (args := #[]))) (mvT hZ (ow hw 71 rfl)) (by decide) (backOf (W := 0) (rm_addB0_IntegerRange l Z a0 hw [] a1 a2 wE kE (mc + (1 : Int32)) h52 n0 (Nat.le_trans Z0 KC53.1) O60 SE VE g1 F61 F62 F58 F56 F54) hZ (ow hw 71 rfl) (ow hw 10 rfl) (by decide) (by decide)) (g := (mkF m 20 #[Sr a1, Sr a2] [(.int (0 : Int32)), (.ref wE), (.ref a2), (.ref a1)])) rfl (by rw [hml]; rfl) (Steps.refl _) (a := a1) (by rw [e59]; exact q63) q63' (argsL := [(.ref a2), (.ref wE), (.int (0 : Int32))]) (rest := []) (lenOf pd_4 rfl) rfl (by show 2 * 0 + _ ≤ _; exact Nat.le_of_eq rfl) (hb hby d10_20) (fun _ _ => ⟨rfl, e59, (by decide : 0 + 1 ≤ _), (by decide : 0 + 10 ≤ _)⟩)
  dsimp only [Pt.U, Pt.locs, Pt.cells, Pt.slots] at X63 l63 y63 z63 st63 hQ63
  subst y63 z63
  obtain ⟨r_63, kr_63, rfl, Nq63, q63_0, q63_1, q63_2, q63_3, q63_4, q63_5, q63_6⟩ := hQ63
  have N64 := Eq.subst (motive := fun L => Fr n0 L) l63.symm (Fr.app N55 Nq63)
  have ne65 : a2 ≠ r_63 := Nat.ne_of_lt (Nat.lt_of_lt_of_le F61.lt q63_1)
  have ne66 : a1 ≠ r_63 := Nat.ne_of_lt (Nat.lt_of_lt_of_le F62.lt q63_1)
  have ge67 : n0 ≤ r_63 := Nat.le_trans (Nat.le_trans Z0 KC53.1) q63_1
  have sz68 : h0.size ≤ r_63 := Nat.le_trans KC53.1 q63_1
  have KC69 : Keep h0 T63.heap [a1] := KC53.trans q63_0 (allS (Or.inl (List.mem_of_getElem? (i := 0) rfl)) all0)
  have pre70 : ∀ t, Steps p.tables e below (T63.setTop (mkF m 24 #[Sr a1, Sr a2] [(.int (1 : Int32))])) t → Steps p.tables e below (s₁.setTop (entryFrame m #[(.ref a1), (.ref a2)] 2)) t := by
    intro t k
    refine pre0 t ?_
    refine XS.aloadN X0.here hx rfl (hb hby d10_0) rfl rfl ?_
    refine XS.dup X0.here hx rfl (hb hby d10_1) rfl rfl ?_
    refine st51 _ ?_
    refine XS.iconst X51.here hx rfl (hb hby d10_5) ?_
    refine XS.iadd X51.here hx rfl (hb hby d10_6) rfl ?_
    refine st52 _ ?_
    refine XS.aloadN X52.here hx rfl (hb hby d10_10) rfl rfl ?_
    refine XS.aloadN X52.here hx rfl (hb hby d10_11) rfl rfl ?_
    refine XS.aloadN X52.here hx rfl (hb hby d10_12) rfl rfl ?_
    refine st57 _ ?_
    show Steps _ _ _ (T57.setTop (mkF m 16 #[Sr a1, Sr a2] [(.ref wE), (.ref a2), (.ref a1)])) _
    refine XS.aloadN X57.here hx rfl (hb hby d10_16) rfl rfl ?_
    refine st59 _ ?_
    refine st63.trans ?_
    refine XS.iconst X63.here hx rfl (hb hby d10_23) ?_
    exact k
  obtain ⟨fs, hr, hrun, hended, hW, hsame⟩ := X63.leave (v := some (.int (1 : Int32))) (fun h => by rw [Bd.returns] at h; cases h)
  refine ⟨_, _, pre70 _ ?_, hrun, hended, _, _, rfl, ?_, ⟨_, rfl⟩, hW, hsame.mono (by decide) (by decide)⟩
  · exact retN X63 hx (t := .boolean) Bd.returns (by simp) (hb hby d10_24) hr
  · show Q_rm_addA0_IntegerRange Z a1 a2 wE kE mc h0 n0 _ T63.heap _
    exact ⟨r_63, kr_63, rfl, N64, KC69, sz68, q63_2, q63_3, q63_4, q63_5, q63_6⟩
theorem ef_rm_addB1_IntegerRange (m : MethodId) (x0 : Addr) (x1 : Addr) (x2 : Addr) : entryFrame m #[(.ref x0), (.ref x1), (.ref x2), (.int (1 : Int32))] 4 = mkF m 0 #[Sr x0, Sr x1, Sr x2, Si (1 : Int32)] [] := by first | (simp [entryFrame, mkF, argsToLocals, Value.category]; done) | rfl
def Q_rm_addB1_IntegerRange (Z : State) (a1 : Addr) (a2 : Addr) (a3 : Addr) (k3 : ClassId) (mc : Int32) (x0 : Addr) (h0 : Heap) (n0 : Nat) (v : Option Value) (h : Heap) (L : List Loc) : Prop := v = none ∧ Fr n0 L ∧ Keep h0 h [a1, a3] ∧ Arv Z h a3 k3 (.object "java/lang/Object") (10 : Int32) [(.ref x0), (.ref a2), .null, .null, .null, .null, .null, .null, .null, .null] .null ∧ Fld Z h a1 "java/util/ArrayList" "elementData" "[Ljava/lang/Object;" (.ref a3) ∧ Fld Z h a1 "java/util/ArrayList" "size" "I" (.int (2 : Int32)) ∧ Fld Z h a1 "java/util/AbstractList" "modCount" "I" (.int mc)
set_option maxRecDepth 65536 in
set_option maxHeartbeats 40000000 in
theorem rm_addB1_IntegerRange (l : Launch) (Z : State) (a0 : Array Value) (hw : ∀ d ∈ tables_1, d.before a0 Z = true) (ws : List Jvm.Cond) (a1 : Addr) (a2 : Addr) (a3 : Addr) (k3 : ClassId) (mc : Int32) (x0 : Addr) (h0 : Heap) (n0 : Nat) (Z0 : n0 ≤ h0.size) (g1 : n0 ≤ a1) (E2 : Exa Z h0 a2 "com/example/darlington/darlington/core/IntegerRange") (g3 : n0 ≤ a3) (n13 : a1 ≠ a3) (n23 : a2 ≠ a3) (V3 : Arv Z h0 a3 k3 (.object "java/lang/Object") (10 : Int32) [(.ref x0), .null, .null, .null, .null, .null, .null, .null, .null, .null] .null) (OV3 : Ovr Z k3 "java/lang/Object") (Es : Exa Z h0 a1 "java/util/ArrayList") (Fs : Fld Z h0 a1 "java/util/ArrayList" "size" "I" (.int (1 : Int32))) (Fd : Fld Z h0 a1 "java/util/ArrayList" "elementData" "[Ljava/lang/Object;" (.ref a3)) (Fm : Fld Z h0 a1 "java/util/AbstractList" "modCount" "I" (.int mc)) :
    MetFree l (⟨"java/util/ArrayList", "add", "(Ljava/lang/Object;[Ljava/lang/Object;I)V"⟩ : MethodName) (head1 (Jvm.Cond.code (⟨"java/util/ArrayList", "add", "(Ljava/lang/Object;[Ljava/lang/Object;I)V"⟩ : MethodName) jdk_38_method_24_code 4 none :: ws) ({ frames := 0, cells := 0, slots := 0, locals := 0 } : Room)) (fun a U => a = #[(.ref a1), (.ref a2), (.ref a3), (.int (1 : Int32))] ∧ Z.Warmed39 U.vm ∧ U.heap = h0) (fun _ _ _ _ _ => True) (fun _ U o U' => ∃ v L, o = .returned v ∧ Q_rm_addB1_IntegerRange Z a1 a2 a3 k3 mc x0 h0 n0 v U'.heap L ∧ FrameEnd U o U' L ({ frames := 0, cells := 0, slots := 0, locals := 0 } : Room).cells ({ frames := 0, cells := 0, slots := 0, locals := 0 } : Room).slots) := by
  refine MetFree.of_bodySF (plainFor_of_name pn_2) hisR ?_
  intro p e s m args below meth c s₁ Bd hml0 hP hK
  obtain ⟨rfl, hZ, hh⟩ := hP
  have hx := Bd.exec
  have hby := Bd.bytes
  have hml : c.maxLocals = 4 := hml0
  have hown : s.vm.findClass "java/util/ArrayList" = some m.cls := findClass_of_methodNamed Bd.named
  have hnm := (name_of_methodNamed Bd.named Bd.method).1
  have X0 : Stand p l e ({ frames := 0, cells := 0, slots := 0, locals := 0 } : Room) s m #[(.ref a1), (.ref a2), (.ref a3), (.int (1 : Int32))] below meth c s₁ [] 0 0 := Stand.of_body Bd
  have e0 : s₁.heap = h0 := by rw [← hh, Bd.state]; rfl
  have N0 := Fr.nil n0
  have pre0 : ∀ t, Steps p.tables e below (s₁.setTop (mkF m 0 #[Sr a1, Sr a2, Sr a3, Si (1 : Int32)] [])) t → Steps p.tables e below (s₁.setTop (entryFrame m #[(.ref a1), (.ref a2), (.ref a3), (.int (1 : Int32))] 4)) t := fun t k => castTop (ef_rm_addB1_IntegerRange m a1 a2 a3) k
  obtain ⟨c51, Arc51, Aqc51, Asc51, Anc51, Ahc51, Agc51⟩ := id V3
  obtain ⟨c52, Arc52, Aqc52, Asc52, Anc52, Ahc52, Agc52⟩ := id V3
  have hin53 : ¬ ((1 : Int32) < 0 ∨ c52.slots.size ≤ ((1 : Int32)).toNatClampNeg) := inb_of Asc52 ⟨by decide, by decide⟩
  obtain ⟨T54, h54, X54, e54, W54, st54⟩ := stR X0 hx hZ e0 Arc52 (j := (1 : Int32)) hin53 rfl (Sto.ofV Arc52 Aqc52 OV3 (Ins.of_exa E2 (ow hw 85 rfl))) (g := (mkF m 14 #[Sr a1, Sr a2, Sr a3, Si (1 : Int32)] [(.ref a2), (.int (1 : Int32)), (.ref a3)])) rfl rfl (hb hby d11_14)
  have KC55 : Keep h0 h54 [a1, a3] := (Keep.refl h0 [a1, a3]).wr W54 (Or.inl (List.mem_of_getElem? (i := 1) rfl))
  have V54 : Arv Z h54 a3 k3 (.object "java/lang/Object") (10 : Int32) [(.ref x0), (.ref a2), .null, .null, .null, .null, .null, .null, .null, .null] .null := Arv.set Arc52 Aqc52 Asc52 Anc52 Ahc52 Agc52 rfl W54 1 rfl (Nat.le_of_ble_eq_true rfl)
  have N56 := Fr.snoc X54 N0 g3
  have F57 : Exa Z h54 a1 "java/util/ArrayList" := (Es.wr W54)
  have F58 : Fld Z h54 a1 "java/util/ArrayList" "size" "I" (.int (1 : Int32)) := (Fs.other W54 (Or.inl n13))
  obtain ⟨T59, h59, X59, e59, W59, st59⟩ := putF X54 hx hZ hown (host := "") (Or.inl (ow hw 65 rfl)) Via.refl e54 F58 F57 (Or.inl (ow hw 66 rfl)) (ow hw 9 rfl) (ty := .int) (by decide) rfl rfl (g := (mkF m 19 #[Sr a1, Sr a2, Sr a3, Si (1 : Int32)] [(.int (2 : Int32)), (.ref a1)])) rfl rfl (hb hby d11_19)
  have KC60 : Keep h0 h59 [a1, a3] := KC55.wr W59 (Or.inl (List.mem_of_getElem? (i := 0) rfl))
  have F61 : Fld Z h59 a1 "java/util/ArrayList" "size" "I" (.int (2 : Int32)) := F58.same W59
  have N62 := Fr.snoc X59 N56 g1
  have pre63 : ∀ t, Steps p.tables e below (T59.setTop (mkF m 22 #[Sr a1, Sr a2, Sr a3, Si (1 : Int32)] [])) t → Steps p.tables e below (s₁.setTop (entryFrame m #[(.ref a1), (.ref a2), (.ref a3), (.int (1 : Int32))] 4)) t := by
    intro t k
    refine pre0 t ?_
    refine XS.iloadN X0.here hx rfl (hb hby d11_0) rfl ?_
    refine XS.aloadN X0.here hx rfl (hb hby d11_1) rfl rfl ?_
    refine X0.arraylength hx (by rw [e0]; exact Arc51.1) (State.isArrayOf_alike hZ.alike Arc51.2.1) (g := (mkF m 2 #[Sr a1, Sr a2, Sr a3, Si (1 : Int32)] [(.ref a3), (.int (1 : Int32))])) rfl rfl (hb hby d11_2) _ ?_
    rw [len_of Asc51 Anc51]
    refine XS.icmpYes X0.here hx rfl (pc0 := 3) (pc' := 11) rfl (hb hby d11_3) rfl (feq (by decide)).2 (by decide) (by decide) ?_
    refine XS.aloadN X0.here hx rfl (hb hby d11_11) rfl rfl ?_
    refine XS.iloadN X0.here hx rfl (hb hby d11_12) rfl ?_
    refine XS.aloadN X0.here hx rfl (hb hby d11_13) rfl rfl ?_
    refine st54 _ ?_
    refine XS.aloadN X54.here hx rfl (hb hby d11_15) rfl rfl ?_
    refine XS.iloadN X54.here hx rfl (hb hby d11_16) rfl ?_
    show Steps _ _ _ (T54.setTop (mkF m 17 #[Sr a1, Sr a2, Sr a3, Si (1 : Int32)] [(.int (1 : Int32)), (.ref a1)])) _
    refine XS.iconst X54.here hx rfl (hb hby d11_17) ?_
    refine XS.iadd X54.here hx rfl (hb hby d11_18) rfl ?_
    refine st59 _ ?_
    exact k
  obtain ⟨fs, hr, hrun, hended, hW, hsame⟩ := X59.leave (v := none) (fun _ => rfl)
  refine ⟨_, _, pre63 _ ?_, hrun, hended, _, _, rfl, ?_, ⟨_, rfl⟩, hW, hsame.mono (by decide) (by decide)⟩
  · exact X59.returnOut hx Bd.returns (hb hby d11_22) hr
  · show Q_rm_addB1_IntegerRange Z a1 a2 a3 k3 mc x0 h0 n0 _ T59.heap _
    rw [e59]
    have F64 : Arv Z h59 a3 k3 (.object "java/lang/Object") (10 : Int32) [(.ref x0), (.ref a2), .null, .null, .null, .null, .null, .null, .null, .null] .null := (V54.other W59 (Ne.symm n13))
    have F65 : Fld Z h59 a1 "java/util/ArrayList" "elementData" "[Ljava/lang/Object;" (.ref a3) := ((Fd.other W54 (Or.inl n13)).other W59 (Or.inr (slot_ne (Or.inl (ow hw 33 rfl)) (Or.inl (ow hw 66 rfl)) (by decide) (t := (.array (.object "java/lang/Object"))) (t' := .int) (by decide) (by decide))))
    have F66 : Fld Z h59 a1 "java/util/AbstractList" "modCount" "I" (.int mc) := ((Fm.other W54 (Or.inl n13)).other W59 (Or.inr (slot_ne (Or.inl (ow hw 30 rfl)) (Or.inl (ow hw 66 rfl)) (by decide) (t := .int) (t' := .int) (by decide) (by decide))))
    exact ⟨rfl, N62, KC60, F64, F65, F61, F66⟩
theorem ef_rm_addA1_IntegerRange (m : MethodId) (x0 : Addr) (x1 : Addr) : entryFrame m #[(.ref x0), (.ref x1)] 2 = mkF m 0 #[Sr x0, Sr x1] [] := by first | (simp [entryFrame, mkF, argsToLocals, Value.category]; done) | rfl
def Q_rm_addA1_IntegerRange (Z : State) (a1 : Addr) (a2 : Addr) (a3 : Addr) (k3 : ClassId) (mc : Int32) (x0 : Addr) (h0 : Heap) (n0 : Nat) (v : Option Value) (h : Heap) (L : List Loc) : Prop := v = some (.int (1 : Int32)) ∧ Fr n0 L ∧ Keep h0 h [a1, a3] ∧ Arv Z h a3 k3 (.object "java/lang/Object") (10 : Int32) [(.ref x0), (.ref a2), .null, .null, .null, .null, .null, .null, .null, .null] .null ∧ Fld Z h a1 "java/util/ArrayList" "elementData" "[Ljava/lang/Object;" (.ref a3) ∧ Fld Z h a1 "java/util/ArrayList" "size" "I" (.int (2 : Int32)) ∧ Fld Z h a1 "java/util/AbstractList" "modCount" "I" (.int (mc + (1 : Int32)))
set_option maxRecDepth 65536 in
set_option maxHeartbeats 40000000 in
theorem rm_addA1_IntegerRange (l : Launch) (Z : State) (a0 : Array Value) (hw : ∀ d ∈ tables_1, d.before a0 Z = true) (ws : List Jvm.Cond) (a1 : Addr) (a2 : Addr) (a3 : Addr) (k3 : ClassId) (mc : Int32) (x0 : Addr) (h0 : Heap) (n0 : Nat) (Z0 : n0 ≤ h0.size) (Es : Exa Z h0 a1 "java/util/ArrayList") (Fs : Fld Z h0 a1 "java/util/ArrayList" "size" "I" (.int (1 : Int32))) (Fd : Fld Z h0 a1 "java/util/ArrayList" "elementData" "[Ljava/lang/Object;" (.ref a3)) (Fm : Fld Z h0 a1 "java/util/AbstractList" "modCount" "I" (.int mc)) (g1 : n0 ≤ a1) (E2 : Exa Z h0 a2 "com/example/darlington/darlington/core/IntegerRange") (g3 : n0 ≤ a3) (n13 : a1 ≠ a3) (n23 : a2 ≠ a3) (V3 : Arv Z h0 a3 k3 (.object "java/lang/Object") (10 : Int32) [(.ref x0), .null, .null, .null, .null, .null, .null, .null, .null, .null] .null) (OV3 : Ovr Z k3 "java/lang/Object") :
    MetFree l (⟨"java/util/ArrayList", "add", "(Ljava/lang/Object;)Z"⟩ : MethodName) (head1 (Jvm.Cond.code (⟨"java/util/ArrayList", "add", "(Ljava/lang/Object;)Z"⟩ : MethodName) jdk_38_method_25_code 2 (some .boolean) :: ws) ({ frames := 1, cells := 0, slots := 0, locals := 15 } : Room)) (fun a U => a = #[(.ref a1), (.ref a2)] ∧ Z.Warmed39 U.vm ∧ U.heap = h0) (fun _ _ _ _ _ => True) (fun _ U o U' => ∃ v L, o = .returned v ∧ Q_rm_addA1_IntegerRange Z a1 a2 a3 k3 mc x0 h0 n0 v U'.heap L ∧ FrameEnd U o U' L ({ frames := 1, cells := 0, slots := 0, locals := 15 } : Room).cells ({ frames := 1, cells := 0, slots := 0, locals := 15 } : Room).slots) := by
  refine MetFree.of_bodySF (plainFor_of_name pn_2) hisR ?_
  intro p e s m args below meth c s₁ Bd hml0 hP hK
  obtain ⟨rfl, hZ, hh⟩ := hP
  have hx := Bd.exec
  have hby := Bd.bytes
  have hml : c.maxLocals = 2 := hml0
  have hown : s.vm.findClass "java/util/ArrayList" = some m.cls := findClass_of_methodNamed Bd.named
  have hnm := (name_of_methodNamed Bd.named Bd.method).1
  have X0 : Stand p l e ({ frames := 1, cells := 0, slots := 0, locals := 15 } : Room) s m #[(.ref a1), (.ref a2)] below meth c s₁ [] 0 0 := Stand.of_body Bd
  have e0 : s₁.heap = h0 := by rw [← hh, Bd.state]; rfl
  have N0 := Fr.nil n0
  have pre0 : ∀ t, Steps p.tables e below (s₁.setTop (mkF m 0 #[Sr a1, Sr a2] [])) t → Steps p.tables e below (s₁.setTop (entryFrame m #[(.ref a1), (.ref a2)] 2)) t := fun t k => castTop (ef_rm_addA1_IntegerRange m a1 a2) k
  obtain ⟨T51, X51, e51, st51⟩ := getF X0 hx hZ hown (host := "") (Or.inl (ow hw 63 rfl)) (Via.of (ow hw 64 rfl)) e0 Fm (g := (mkF m 2 #[Sr a1, Sr a2] [(.ref a1), (.ref a1)])) rfl rfl (hb hby d10_2)
  obtain ⟨T52, h52, X52, e52, W52, st52⟩ := putF X51 hx hZ hown (host := "") (Or.inl (ow hw 63 rfl)) (Via.of (ow hw 64 rfl)) e51 Fm Es (Or.inl (ow hw 30 rfl)) (ow hw 9 rfl) (ty := .int) (by decide) rfl rfl (g := (mkF m 7 #[Sr a1, Sr a2] [(.int (mc + (1 : Int32))), (.ref a1)])) rfl rfl (hb hby d10_7)
  have KC53 : Keep h0 h52 [a1, a3] := (Keep.refl h0 [a1, a3]).wr W52 (Or.inl (List.mem_of_getElem? (i := 0) rfl))
  have F54 : Fld Z h52 a1 "java/util/AbstractList" "modCount" "I" (.int (mc + (1 : Int32))) := Fm.same W52
  have N55 := Fr.snoc X52 N0 g1
  have F56 : Fld Z h52 a1 "java/util/ArrayList" "elementData" "[Ljava/lang/Object;" (.ref a3) := (Fd.other W52 (Or.inr (slot_ne (Or.inl (ow hw 33 rfl)) (Or.inl (ow hw 30 rfl)) (by decide) (t := (.array (.object "java/lang/Object"))) (t' := .int) (by decide) (by decide))))
  obtain ⟨T57, X57, e57, st57⟩ := getF X52 hx hZ hown (host := "") (Or.inl (ow hw 32 rfl)) Via.refl e52 F56 (g := (mkF m 13 #[Sr a1, Sr a2] [(.ref a1), (.ref a2), (.ref a1)])) rfl rfl (hb hby d10_13)
  have F58 : Fld Z h52 a1 "java/util/ArrayList" "size" "I" (.int (1 : Int32)) := (Fs.other W52 (Or.inr (slot_ne (Or.inl (ow hw 66 rfl)) (Or.inl (ow hw 30 rfl)) (by decide) (t := .int) (t' := .int) (by decide) (by decide))))
  obtain ⟨T59, X59, e59, st59⟩ := getF X57 hx hZ hown (host := "") (Or.inl (ow hw 65 rfl)) Via.refl e57 F58 (g := (mkF m 17 #[Sr a1, Sr a2] [(.ref a1), (.ref a3), (.ref a2), (.ref a1)])) rfl rfl (hb hby d10_17)
  have F60 : Exa Z h52 a2 "com/example/darlington/darlington/core/IntegerRange" := (E2.wr W52)
  have F61 : Arv Z h52 a3 k3 (.object "java/lang/Object") (10 : Int32) [(.ref x0), .null, .null, .null, .null, .null, .null, .null, .null, .null] .null := (V3.other W52 (Ne.symm n13))
  have F62 : Exa Z h52 a1 "java/util/ArrayList" := (Es.wr W52)
  obtain ⟨cq63, q63, q63'⟩ := F62.cell
  obtain ⟨_, _, ⟨T63, L63, k63, n63⟩, -, X63, ⟨Lc63, hQ63, l63, y63, z63⟩, st63⟩ := X59.privateBack hx (y := (⟨"java/util/ArrayList", "add", "(Ljava/lang/Object;[Ljava/lang/Object;I)V"⟩ : MethodName)) hown (mvT hZ (ow hw 67 rfl)) (mvT hZ (ow hw 68 rfl)) (mvT hZ (ow hw 70 rfl)) (Cond.privateMethod_at (mvP hZ (ow hw 69 rfl) (args := #[]))) (mvT hZ (ow hw 71 rfl)) (by decide) (backOf (W := 0) (rm_addB1_IntegerRange l Z a0 hw [] a1 a2 a3 k3 (mc + (1 : Int32)) x0 h52 n0 (Nat.le_trans Z0 KC53.1) g1 F60 g3 n13 n23 F61 OV3 F62 F58 F56 F54) hZ (ow hw 71 rfl) (ow hw 10 rfl) (by decide) (by decide)) (g := (mkF m 20 #[Sr a1, Sr a2] [(.int (1 : Int32)), (.ref a3), (.ref a2), (.ref a1)])) rfl (by rw [hml]; rfl) (Steps.refl _) (a := a1) (by rw [e59]; exact q63) q63' (argsL := [(.ref a2), (.ref a3), (.int (1 : Int32))]) (rest := []) (lenOf pd_4 rfl) rfl (by show 2 * 0 + _ ≤ _; exact Nat.le_of_eq rfl) (hb hby d10_20) (fun _ _ => ⟨rfl, e59, (by decide : 0 + 0 ≤ _), (by decide : 0 + 0 ≤ _)⟩)
  dsimp only [Pt.U, Pt.locs, Pt.cells, Pt.slots] at X63 l63 y63 z63 st63 hQ63
  subst y63 z63
  obtain ⟨rfl, Nq63, q63_0, q63_1, q63_2, q63_3, q63_4⟩ := hQ63
  have N64 := Eq.subst (motive := fun L => Fr n0 L) l63.symm (Fr.app N55 Nq63)
  have KC65 : Keep h0 T63.heap [a1, a3] := KC53.trans q63_0 (allS (Or.inl (List.mem_of_getElem? (i := 0) rfl)) (allS (Or.inl (List.mem_of_getElem? (i := 1) rfl)) all0))
  have pre66 : ∀ t, Steps p.tables e below (T63.setTop (mkF m 24 #[Sr a1, Sr a2] [(.int (1 : Int32))])) t → Steps p.tables e below (s₁.setTop (entryFrame m #[(.ref a1), (.ref a2)] 2)) t := by
    intro t k
    refine pre0 t ?_
    refine XS.aloadN X0.here hx rfl (hb hby d10_0) rfl rfl ?_
    refine XS.dup X0.here hx rfl (hb hby d10_1) rfl rfl ?_
    refine st51 _ ?_
    refine XS.iconst X51.here hx rfl (hb hby d10_5) ?_
    refine XS.iadd X51.here hx rfl (hb hby d10_6) rfl ?_
    refine st52 _ ?_
    refine XS.aloadN X52.here hx rfl (hb hby d10_10) rfl rfl ?_
    refine XS.aloadN X52.here hx rfl (hb hby d10_11) rfl rfl ?_
    refine XS.aloadN X52.here hx rfl (hb hby d10_12) rfl rfl ?_
    refine st57 _ ?_
    show Steps _ _ _ (T57.setTop (mkF m 16 #[Sr a1, Sr a2] [(.ref a3), (.ref a2), (.ref a1)])) _
    refine XS.aloadN X57.here hx rfl (hb hby d10_16) rfl rfl ?_
    refine st59 _ ?_
    refine st63.trans ?_
    refine XS.iconst X63.here hx rfl (hb hby d10_23) ?_
    exact k
  obtain ⟨fs, hr, hrun, hended, hW, hsame⟩ := X63.leave (v := some (.int (1 : Int32))) (fun h => by rw [Bd.returns] at h; cases h)
  refine ⟨_, _, pre66 _ ?_, hrun, hended, _, _, rfl, ?_, ⟨_, rfl⟩, hW, hsame.mono (by decide) (by decide)⟩
  · exact retN X63 hx (t := .boolean) Bd.returns (by simp) (hb hby d10_24) hr
  · show Q_rm_addA1_IntegerRange Z a1 a2 a3 k3 mc x0 h0 n0 _ T63.heap _
    exact ⟨rfl, N64, KC65, q63_1, q63_2, q63_3, q63_4⟩
theorem ef_rm_addB2_IntegerRange (m : MethodId) (x0 : Addr) (x1 : Addr) (x2 : Addr) : entryFrame m #[(.ref x0), (.ref x1), (.ref x2), (.int (2 : Int32))] 4 = mkF m 0 #[Sr x0, Sr x1, Sr x2, Si (2 : Int32)] [] := by first | (simp [entryFrame, mkF, argsToLocals, Value.category]; done) | rfl
def Q_rm_addB2_IntegerRange (Z : State) (a1 : Addr) (a2 : Addr) (a3 : Addr) (k3 : ClassId) (mc : Int32) (x0 : Addr) (x1 : Addr) (h0 : Heap) (n0 : Nat) (v : Option Value) (h : Heap) (L : List Loc) : Prop := v = none ∧ Fr n0 L ∧ Keep h0 h [a1, a3] ∧ Arv Z h a3 k3 (.object "java/lang/Object") (10 : Int32) [(.ref x0), (.ref x1), (.ref a2), .null, .null, .null, .null, .null, .null, .null] .null ∧ Fld Z h a1 "java/util/ArrayList" "elementData" "[Ljava/lang/Object;" (.ref a3) ∧ Fld Z h a1 "java/util/ArrayList" "size" "I" (.int (3 : Int32)) ∧ Fld Z h a1 "java/util/AbstractList" "modCount" "I" (.int mc)
set_option maxRecDepth 65536 in
set_option maxHeartbeats 40000000 in
theorem rm_addB2_IntegerRange (l : Launch) (Z : State) (a0 : Array Value) (hw : ∀ d ∈ tables_1, d.before a0 Z = true) (ws : List Jvm.Cond) (a1 : Addr) (a2 : Addr) (a3 : Addr) (k3 : ClassId) (mc : Int32) (x0 : Addr) (x1 : Addr) (h0 : Heap) (n0 : Nat) (Z0 : n0 ≤ h0.size) (g1 : n0 ≤ a1) (E2 : Exa Z h0 a2 "com/example/darlington/darlington/core/IntegerRange") (g3 : n0 ≤ a3) (n13 : a1 ≠ a3) (n23 : a2 ≠ a3) (V3 : Arv Z h0 a3 k3 (.object "java/lang/Object") (10 : Int32) [(.ref x0), (.ref x1), .null, .null, .null, .null, .null, .null, .null, .null] .null) (OV3 : Ovr Z k3 "java/lang/Object") (Es : Exa Z h0 a1 "java/util/ArrayList") (Fs : Fld Z h0 a1 "java/util/ArrayList" "size" "I" (.int (2 : Int32))) (Fd : Fld Z h0 a1 "java/util/ArrayList" "elementData" "[Ljava/lang/Object;" (.ref a3)) (Fm : Fld Z h0 a1 "java/util/AbstractList" "modCount" "I" (.int mc)) :
    MetFree l (⟨"java/util/ArrayList", "add", "(Ljava/lang/Object;[Ljava/lang/Object;I)V"⟩ : MethodName) (head1 (Jvm.Cond.code (⟨"java/util/ArrayList", "add", "(Ljava/lang/Object;[Ljava/lang/Object;I)V"⟩ : MethodName) jdk_38_method_24_code 4 none :: ws) ({ frames := 0, cells := 0, slots := 0, locals := 0 } : Room)) (fun a U => a = #[(.ref a1), (.ref a2), (.ref a3), (.int (2 : Int32))] ∧ Z.Warmed39 U.vm ∧ U.heap = h0) (fun _ _ _ _ _ => True) (fun _ U o U' => ∃ v L, o = .returned v ∧ Q_rm_addB2_IntegerRange Z a1 a2 a3 k3 mc x0 x1 h0 n0 v U'.heap L ∧ FrameEnd U o U' L ({ frames := 0, cells := 0, slots := 0, locals := 0 } : Room).cells ({ frames := 0, cells := 0, slots := 0, locals := 0 } : Room).slots) := by
  refine MetFree.of_bodySF (plainFor_of_name pn_2) hisR ?_
  intro p e s m args below meth c s₁ Bd hml0 hP hK
  obtain ⟨rfl, hZ, hh⟩ := hP
  have hx := Bd.exec
  have hby := Bd.bytes
  have hml : c.maxLocals = 4 := hml0
  have hown : s.vm.findClass "java/util/ArrayList" = some m.cls := findClass_of_methodNamed Bd.named
  have hnm := (name_of_methodNamed Bd.named Bd.method).1
  have X0 : Stand p l e ({ frames := 0, cells := 0, slots := 0, locals := 0 } : Room) s m #[(.ref a1), (.ref a2), (.ref a3), (.int (2 : Int32))] below meth c s₁ [] 0 0 := Stand.of_body Bd
  have e0 : s₁.heap = h0 := by rw [← hh, Bd.state]; rfl
  have N0 := Fr.nil n0
  have pre0 : ∀ t, Steps p.tables e below (s₁.setTop (mkF m 0 #[Sr a1, Sr a2, Sr a3, Si (2 : Int32)] [])) t → Steps p.tables e below (s₁.setTop (entryFrame m #[(.ref a1), (.ref a2), (.ref a3), (.int (2 : Int32))] 4)) t := fun t k => castTop (ef_rm_addB2_IntegerRange m a1 a2 a3) k
  obtain ⟨c51, Arc51, Aqc51, Asc51, Anc51, Ahc51, Agc51⟩ := id V3
  obtain ⟨c52, Arc52, Aqc52, Asc52, Anc52, Ahc52, Agc52⟩ := id V3
  have hin53 : ¬ ((2 : Int32) < 0 ∨ c52.slots.size ≤ ((2 : Int32)).toNatClampNeg) := inb_of Asc52 ⟨by decide, by decide⟩
  obtain ⟨T54, h54, X54, e54, W54, st54⟩ := stR X0 hx hZ e0 Arc52 (j := (2 : Int32)) hin53 rfl (Sto.ofV Arc52 Aqc52 OV3 (Ins.of_exa E2 (ow hw 85 rfl))) (g := (mkF m 14 #[Sr a1, Sr a2, Sr a3, Si (2 : Int32)] [(.ref a2), (.int (2 : Int32)), (.ref a3)])) rfl rfl (hb hby d11_14)
  have KC55 : Keep h0 h54 [a1, a3] := (Keep.refl h0 [a1, a3]).wr W54 (Or.inl (List.mem_of_getElem? (i := 1) rfl))
  have V54 : Arv Z h54 a3 k3 (.object "java/lang/Object") (10 : Int32) [(.ref x0), (.ref x1), (.ref a2), .null, .null, .null, .null, .null, .null, .null] .null := Arv.set Arc52 Aqc52 Asc52 Anc52 Ahc52 Agc52 rfl W54 2 rfl (Nat.le_of_ble_eq_true rfl)
  have N56 := Fr.snoc X54 N0 g3
  have F57 : Exa Z h54 a1 "java/util/ArrayList" := (Es.wr W54)
  have F58 : Fld Z h54 a1 "java/util/ArrayList" "size" "I" (.int (2 : Int32)) := (Fs.other W54 (Or.inl n13))
  obtain ⟨T59, h59, X59, e59, W59, st59⟩ := putF X54 hx hZ hown (host := "") (Or.inl (ow hw 65 rfl)) Via.refl e54 F58 F57 (Or.inl (ow hw 66 rfl)) (ow hw 9 rfl) (ty := .int) (by decide) rfl rfl (g := (mkF m 19 #[Sr a1, Sr a2, Sr a3, Si (2 : Int32)] [(.int (3 : Int32)), (.ref a1)])) rfl rfl (hb hby d11_19)
  have KC60 : Keep h0 h59 [a1, a3] := KC55.wr W59 (Or.inl (List.mem_of_getElem? (i := 0) rfl))
  have F61 : Fld Z h59 a1 "java/util/ArrayList" "size" "I" (.int (3 : Int32)) := F58.same W59
  have N62 := Fr.snoc X59 N56 g1
  have pre63 : ∀ t, Steps p.tables e below (T59.setTop (mkF m 22 #[Sr a1, Sr a2, Sr a3, Si (2 : Int32)] [])) t → Steps p.tables e below (s₁.setTop (entryFrame m #[(.ref a1), (.ref a2), (.ref a3), (.int (2 : Int32))] 4)) t := by
    intro t k
    refine pre0 t ?_
    refine XS.iloadN X0.here hx rfl (hb hby d11_0) rfl ?_
    refine XS.aloadN X0.here hx rfl (hb hby d11_1) rfl rfl ?_
    refine X0.arraylength hx (by rw [e0]; exact Arc51.1) (State.isArrayOf_alike hZ.alike Arc51.2.1) (g := (mkF m 2 #[Sr a1, Sr a2, Sr a3, Si (2 : Int32)] [(.ref a3), (.int (2 : Int32))])) rfl rfl (hb hby d11_2) _ ?_
    rw [len_of Asc51 Anc51]
    refine XS.icmpYes X0.here hx rfl (pc0 := 3) (pc' := 11) rfl (hb hby d11_3) rfl (feq (by decide)).2 (by decide) (by decide) ?_
    refine XS.aloadN X0.here hx rfl (hb hby d11_11) rfl rfl ?_
    refine XS.iloadN X0.here hx rfl (hb hby d11_12) rfl ?_
    refine XS.aloadN X0.here hx rfl (hb hby d11_13) rfl rfl ?_
    refine st54 _ ?_
    refine XS.aloadN X54.here hx rfl (hb hby d11_15) rfl rfl ?_
    refine XS.iloadN X54.here hx rfl (hb hby d11_16) rfl ?_
    show Steps _ _ _ (T54.setTop (mkF m 17 #[Sr a1, Sr a2, Sr a3, Si (2 : Int32)] [(.int (2 : Int32)), (.ref a1)])) _
    refine XS.iconst X54.here hx rfl (hb hby d11_17) ?_
    refine XS.iadd X54.here hx rfl (hb hby d11_18) rfl ?_
    refine st59 _ ?_
    exact k
  obtain ⟨fs, hr, hrun, hended, hW, hsame⟩ := X59.leave (v := none) (fun _ => rfl)
  refine ⟨_, _, pre63 _ ?_, hrun, hended, _, _, rfl, ?_, ⟨_, rfl⟩, hW, hsame.mono (by decide) (by decide)⟩
  · exact X59.returnOut hx Bd.returns (hb hby d11_22) hr
  · show Q_rm_addB2_IntegerRange Z a1 a2 a3 k3 mc x0 x1 h0 n0 _ T59.heap _
    rw [e59]
    have F64 : Arv Z h59 a3 k3 (.object "java/lang/Object") (10 : Int32) [(.ref x0), (.ref x1), (.ref a2), .null, .null, .null, .null, .null, .null, .null] .null := (V54.other W59 (Ne.symm n13))
    have F65 : Fld Z h59 a1 "java/util/ArrayList" "elementData" "[Ljava/lang/Object;" (.ref a3) := ((Fd.other W54 (Or.inl n13)).other W59 (Or.inr (slot_ne (Or.inl (ow hw 33 rfl)) (Or.inl (ow hw 66 rfl)) (by decide) (t := (.array (.object "java/lang/Object"))) (t' := .int) (by decide) (by decide))))
    have F66 : Fld Z h59 a1 "java/util/AbstractList" "modCount" "I" (.int mc) := ((Fm.other W54 (Or.inl n13)).other W59 (Or.inr (slot_ne (Or.inl (ow hw 30 rfl)) (Or.inl (ow hw 66 rfl)) (by decide) (t := .int) (t' := .int) (by decide) (by decide))))
    exact ⟨rfl, N62, KC60, F64, F65, F61, F66⟩
theorem ef_rm_addA2_IntegerRange (m : MethodId) (x0 : Addr) (x1 : Addr) : entryFrame m #[(.ref x0), (.ref x1)] 2 = mkF m 0 #[Sr x0, Sr x1] [] := by first | (simp [entryFrame, mkF, argsToLocals, Value.category]; done) | rfl
def Q_rm_addA2_IntegerRange (Z : State) (a1 : Addr) (a2 : Addr) (a3 : Addr) (k3 : ClassId) (mc : Int32) (x0 : Addr) (x1 : Addr) (h0 : Heap) (n0 : Nat) (v : Option Value) (h : Heap) (L : List Loc) : Prop := v = some (.int (1 : Int32)) ∧ Fr n0 L ∧ Keep h0 h [a1, a3] ∧ Arv Z h a3 k3 (.object "java/lang/Object") (10 : Int32) [(.ref x0), (.ref x1), (.ref a2), .null, .null, .null, .null, .null, .null, .null] .null ∧ Fld Z h a1 "java/util/ArrayList" "elementData" "[Ljava/lang/Object;" (.ref a3) ∧ Fld Z h a1 "java/util/ArrayList" "size" "I" (.int (3 : Int32)) ∧ Fld Z h a1 "java/util/AbstractList" "modCount" "I" (.int (mc + (1 : Int32)))
set_option maxRecDepth 65536 in
set_option maxHeartbeats 40000000 in
theorem rm_addA2_IntegerRange (l : Launch) (Z : State) (a0 : Array Value) (hw : ∀ d ∈ tables_1, d.before a0 Z = true) (ws : List Jvm.Cond) (a1 : Addr) (a2 : Addr) (a3 : Addr) (k3 : ClassId) (mc : Int32) (x0 : Addr) (x1 : Addr) (h0 : Heap) (n0 : Nat) (Z0 : n0 ≤ h0.size) (Es : Exa Z h0 a1 "java/util/ArrayList") (Fs : Fld Z h0 a1 "java/util/ArrayList" "size" "I" (.int (2 : Int32))) (Fd : Fld Z h0 a1 "java/util/ArrayList" "elementData" "[Ljava/lang/Object;" (.ref a3)) (Fm : Fld Z h0 a1 "java/util/AbstractList" "modCount" "I" (.int mc)) (g1 : n0 ≤ a1) (E2 : Exa Z h0 a2 "com/example/darlington/darlington/core/IntegerRange") (g3 : n0 ≤ a3) (n13 : a1 ≠ a3) (n23 : a2 ≠ a3) (V3 : Arv Z h0 a3 k3 (.object "java/lang/Object") (10 : Int32) [(.ref x0), (.ref x1), .null, .null, .null, .null, .null, .null, .null, .null] .null) (OV3 : Ovr Z k3 "java/lang/Object") :
    MetFree l (⟨"java/util/ArrayList", "add", "(Ljava/lang/Object;)Z"⟩ : MethodName) (head1 (Jvm.Cond.code (⟨"java/util/ArrayList", "add", "(Ljava/lang/Object;)Z"⟩ : MethodName) jdk_38_method_25_code 2 (some .boolean) :: ws) ({ frames := 1, cells := 0, slots := 0, locals := 15 } : Room)) (fun a U => a = #[(.ref a1), (.ref a2)] ∧ Z.Warmed39 U.vm ∧ U.heap = h0) (fun _ _ _ _ _ => True) (fun _ U o U' => ∃ v L, o = .returned v ∧ Q_rm_addA2_IntegerRange Z a1 a2 a3 k3 mc x0 x1 h0 n0 v U'.heap L ∧ FrameEnd U o U' L ({ frames := 1, cells := 0, slots := 0, locals := 15 } : Room).cells ({ frames := 1, cells := 0, slots := 0, locals := 15 } : Room).slots) := by
  refine MetFree.of_bodySF (plainFor_of_name pn_2) hisR ?_
  intro p e s m args below meth c s₁ Bd hml0 hP hK
  obtain ⟨rfl, hZ, hh⟩ := hP
  have hx := Bd.exec
  have hby := Bd.bytes
  have hml : c.maxLocals = 2 := hml0
  have hown : s.vm.findClass "java/util/ArrayList" = some m.cls := findClass_of_methodNamed Bd.named
  have hnm := (name_of_methodNamed Bd.named Bd.method).1
  have X0 : Stand p l e ({ frames := 1, cells := 0, slots := 0, locals := 15 } : Room) s m #[(.ref a1), (.ref a2)] below meth c s₁ [] 0 0 := Stand.of_body Bd
  have e0 : s₁.heap = h0 := by rw [← hh, Bd.state]; rfl
  have N0 := Fr.nil n0
  have pre0 : ∀ t, Steps p.tables e below (s₁.setTop (mkF m 0 #[Sr a1, Sr a2] [])) t → Steps p.tables e below (s₁.setTop (entryFrame m #[(.ref a1), (.ref a2)] 2)) t := fun t k => castTop (ef_rm_addA2_IntegerRange m a1 a2) k
  obtain ⟨T51, X51, e51, st51⟩ := getF X0 hx hZ hown (host := "") (Or.inl (ow hw 63 rfl)) (Via.of (ow hw 64 rfl)) e0 Fm (g := (mkF m 2 #[Sr a1, Sr a2] [(.ref a1), (.ref a1)])) rfl rfl (hb hby d10_2)
  obtain ⟨T52, h52, X52, e52, W52, st52⟩ := putF X51 hx hZ hown (host := "") (Or.inl (ow hw 63 rfl)) (Via.of (ow hw 64 rfl)) e51 Fm Es (Or.inl (ow hw 30 rfl)) (ow hw 9 rfl) (ty := .int) (by decide) rfl rfl (g := (mkF m 7 #[Sr a1, Sr a2] [(.int (mc + (1 : Int32))), (.ref a1)])) rfl rfl (hb hby d10_7)
  have KC53 : Keep h0 h52 [a1, a3] := (Keep.refl h0 [a1, a3]).wr W52 (Or.inl (List.mem_of_getElem? (i := 0) rfl))
  have F54 : Fld Z h52 a1 "java/util/AbstractList" "modCount" "I" (.int (mc + (1 : Int32))) := Fm.same W52
  have N55 := Fr.snoc X52 N0 g1
  have F56 : Fld Z h52 a1 "java/util/ArrayList" "elementData" "[Ljava/lang/Object;" (.ref a3) := (Fd.other W52 (Or.inr (slot_ne (Or.inl (ow hw 33 rfl)) (Or.inl (ow hw 30 rfl)) (by decide) (t := (.array (.object "java/lang/Object"))) (t' := .int) (by decide) (by decide))))
  obtain ⟨T57, X57, e57, st57⟩ := getF X52 hx hZ hown (host := "") (Or.inl (ow hw 32 rfl)) Via.refl e52 F56 (g := (mkF m 13 #[Sr a1, Sr a2] [(.ref a1), (.ref a2), (.ref a1)])) rfl rfl (hb hby d10_13)
  have F58 : Fld Z h52 a1 "java/util/ArrayList" "size" "I" (.int (2 : Int32)) := (Fs.other W52 (Or.inr (slot_ne (Or.inl (ow hw 66 rfl)) (Or.inl (ow hw 30 rfl)) (by decide) (t := .int) (t' := .int) (by decide) (by decide))))
  obtain ⟨T59, X59, e59, st59⟩ := getF X57 hx hZ hown (host := "") (Or.inl (ow hw 65 rfl)) Via.refl e57 F58 (g := (mkF m 17 #[Sr a1, Sr a2] [(.ref a1), (.ref a3), (.ref a2), (.ref a1)])) rfl rfl (hb hby d10_17)
  have F60 : Exa Z h52 a2 "com/example/darlington/darlington/core/IntegerRange" := (E2.wr W52)
  have F61 : Arv Z h52 a3 k3 (.object "java/lang/Object") (10 : Int32) [(.ref x0), (.ref x1), .null, .null, .null, .null, .null, .null, .null, .null] .null := (V3.other W52 (Ne.symm n13))
  have F62 : Exa Z h52 a1 "java/util/ArrayList" := (Es.wr W52)
  obtain ⟨cq63, q63, q63'⟩ := F62.cell
  obtain ⟨_, _, ⟨T63, L63, k63, n63⟩, -, X63, ⟨Lc63, hQ63, l63, y63, z63⟩, st63⟩ := X59.privateBack hx (y := (⟨"java/util/ArrayList", "add", "(Ljava/lang/Object;[Ljava/lang/Object;I)V"⟩ : MethodName)) hown (mvT hZ (ow hw 67 rfl)) (mvT hZ (ow hw 68 rfl)) (mvT hZ (ow hw 70 rfl)) (Cond.privateMethod_at (mvP hZ (ow hw 69 rfl) (args := #[]))) (mvT hZ (ow hw 71 rfl)) (by decide) (backOf (W := 0) (rm_addB2_IntegerRange l Z a0 hw [] a1 a2 a3 k3 (mc + (1 : Int32)) x0 x1 h52 n0 (Nat.le_trans Z0 KC53.1) g1 F60 g3 n13 n23 F61 OV3 F62 F58 F56 F54) hZ (ow hw 71 rfl) (ow hw 10 rfl) (by decide) (by decide)) (g := (mkF m 20 #[Sr a1, Sr a2] [(.int (2 : Int32)), (.ref a3), (.ref a2), (.ref a1)])) rfl (by rw [hml]; rfl) (Steps.refl _) (a := a1) (by rw [e59]; exact q63) q63' (argsL := [(.ref a2), (.ref a3), (.int (2 : Int32))]) (rest := []) (lenOf pd_4 rfl) rfl (by show 2 * 0 + _ ≤ _; exact Nat.le_of_eq rfl) (hb hby d10_20) (fun _ _ => ⟨rfl, e59, (by decide : 0 + 0 ≤ _), (by decide : 0 + 0 ≤ _)⟩)
  dsimp only [Pt.U, Pt.locs, Pt.cells, Pt.slots] at X63 l63 y63 z63 st63 hQ63
  subst y63 z63
  obtain ⟨rfl, Nq63, q63_0, q63_1, q63_2, q63_3, q63_4⟩ := hQ63
  have N64 := Eq.subst (motive := fun L => Fr n0 L) l63.symm (Fr.app N55 Nq63)
  have KC65 : Keep h0 T63.heap [a1, a3] := KC53.trans q63_0 (allS (Or.inl (List.mem_of_getElem? (i := 0) rfl)) (allS (Or.inl (List.mem_of_getElem? (i := 1) rfl)) all0))
  have pre66 : ∀ t, Steps p.tables e below (T63.setTop (mkF m 24 #[Sr a1, Sr a2] [(.int (1 : Int32))])) t → Steps p.tables e below (s₁.setTop (entryFrame m #[(.ref a1), (.ref a2)] 2)) t := by
    intro t k
    refine pre0 t ?_
    refine XS.aloadN X0.here hx rfl (hb hby d10_0) rfl rfl ?_
    refine XS.dup X0.here hx rfl (hb hby d10_1) rfl rfl ?_
    refine st51 _ ?_
    refine XS.iconst X51.here hx rfl (hb hby d10_5) ?_
    refine XS.iadd X51.here hx rfl (hb hby d10_6) rfl ?_
    refine st52 _ ?_
    refine XS.aloadN X52.here hx rfl (hb hby d10_10) rfl rfl ?_
    refine XS.aloadN X52.here hx rfl (hb hby d10_11) rfl rfl ?_
    refine XS.aloadN X52.here hx rfl (hb hby d10_12) rfl rfl ?_
    refine st57 _ ?_
    show Steps _ _ _ (T57.setTop (mkF m 16 #[Sr a1, Sr a2] [(.ref a3), (.ref a2), (.ref a1)])) _
    refine XS.aloadN X57.here hx rfl (hb hby d10_16) rfl rfl ?_
    refine st59 _ ?_
    refine st63.trans ?_
    refine XS.iconst X63.here hx rfl (hb hby d10_23) ?_
    exact k
  obtain ⟨fs, hr, hrun, hended, hW, hsame⟩ := X63.leave (v := some (.int (1 : Int32))) (fun h => by rw [Bd.returns] at h; cases h)
  refine ⟨_, _, pre66 _ ?_, hrun, hended, _, _, rfl, ?_, ⟨_, rfl⟩, hW, hsame.mono (by decide) (by decide)⟩
  · exact retN X63 hx (t := .boolean) Bd.returns (by simp) (hb hby d10_24) hr
  · show Q_rm_addA2_IntegerRange Z a1 a2 a3 k3 mc x0 x1 h0 n0 _ T63.heap _
    exact ⟨rfl, N64, KC65, q63_1, q63_2, q63_3, q63_4⟩
theorem d15_0 : decode jdk_38_method_8_code 0 = .ok (.aload_n 0, 1) := by decide +kernel
theorem d15_1 : decode jdk_38_method_8_code 1 = .ok (.getfield 48, 3) := by decide +kernel
theorem d15_4 : decode jdk_38_method_8_code 4 = .ok (.ireturn, 1) := by decide +kernel
theorem ef_rm15 (m : MethodId) (x0 : Addr) : entryFrame m #[(.ref x0)] 1 = mkF m 0 #[Sr x0] [] := by first | (simp [entryFrame, mkF, argsToLocals, Value.category]; done) | rfl
def Q_rm15 (Z : State) (a1 : Addr) (z : Int32) (h0 : Heap) (n0 : Nat) (v : Option Value) (h : Heap) (L : List Loc) : Prop := v = some (.int z) ∧ Fr n0 L ∧ h = h0
set_option maxRecDepth 65536 in
set_option maxHeartbeats 40000000 in
theorem rm15 (l : Launch) (Z : State) (a0 : Array Value) (hw : ∀ d ∈ tables_1, d.before a0 Z = true) (ws : List Jvm.Cond) (a1 : Addr) (z : Int32) (h0 : Heap) (n0 : Nat) (Z0 : n0 ≤ h0.size) (F1 : Fld Z h0 a1 "java/util/ArrayList" "size" "I" (.int z)) :
    MetFree l (⟨"java/util/ArrayList", "size", "()I"⟩ : MethodName) (head1 (Jvm.Cond.code (⟨"java/util/ArrayList", "size", "()I"⟩ : MethodName) jdk_38_method_8_code 1 (some .int) :: ws) ({ frames := 0, cells := 0, slots := 0, locals := 0 } : Room)) (fun a U => a = #[(.ref a1)] ∧ Z.Warmed39 U.vm ∧ U.heap = h0) (fun _ _ _ _ _ => True) (fun _ U o U' => ∃ v L, o = .returned v ∧ Q_rm15 Z a1 z h0 n0 v U'.heap L ∧ FrameEnd U o U' L ({ frames := 0, cells := 0, slots := 0, locals := 0 } : Room).cells ({ frames := 0, cells := 0, slots := 0, locals := 0 } : Room).slots) := by
  refine MetFree.of_bodySF (plainFor_of_name pn_2) hisR ?_
  intro p e s m args below meth c s₁ Bd hml0 hP hK
  obtain ⟨rfl, hZ, hh⟩ := hP
  have hx := Bd.exec
  have hby := Bd.bytes
  have hml : c.maxLocals = 1 := hml0
  have hown : s.vm.findClass "java/util/ArrayList" = some m.cls := findClass_of_methodNamed Bd.named
  have hnm := (name_of_methodNamed Bd.named Bd.method).1
  have X0 : Stand p l e ({ frames := 0, cells := 0, slots := 0, locals := 0 } : Room) s m #[(.ref a1)] below meth c s₁ [] 0 0 := Stand.of_body Bd
  have e0 : s₁.heap = h0 := by rw [← hh, Bd.state]; rfl
  have N0 := Fr.nil n0
  have pre0 : ∀ t, Steps p.tables e below (s₁.setTop (mkF m 0 #[Sr a1] [])) t → Steps p.tables e below (s₁.setTop (entryFrame m #[(.ref a1)] 1)) t := fun t k => castTop (ef_rm15 m a1) k
  obtain ⟨T51, X51, e51, st51⟩ := getF X0 hx hZ hown (host := "") (Or.inl (ow hw 65 rfl)) Via.refl e0 F1 (g := (mkF m 1 #[Sr a1] [(.ref a1)])) rfl rfl (hb hby d15_1)
  have pre52 : ∀ t, Steps p.tables e below (T51.setTop (mkF m 4 #[Sr a1] [(.int z)])) t → Steps p.tables e below (s₁.setTop (entryFrame m #[(.ref a1)] 1)) t := by
    intro t k
    refine pre0 t ?_
    refine XS.aloadN X0.here hx rfl (hb hby d15_0) rfl rfl ?_
    refine st51 _ ?_
    exact k
  obtain ⟨fs, hr, hrun, hended, hW, hsame⟩ := X51.leave (v := some (.int z)) (fun h => by rw [Bd.returns] at h; cases h)
  refine ⟨_, _, pre52 _ ?_, hrun, hended, _, _, rfl, ?_, ⟨_, rfl⟩, hW, hsame.mono (by decide) (by decide)⟩
  · exact retI X51 hx Bd.returns (hb hby d15_4) hr
  · show Q_rm15 Z a1 z h0 n0 _ T51.heap _
    rw [e51]
    exact ⟨rfl, N0, rfl⟩
theorem d18_0 : decode jdk_41_method_11_code 0 = .ok (.iload_n 0, 1) := by decide +kernel
theorem d18_1 : decode jdk_41_method_11_code 1 = .ok (.ifCond .lt 8, 3) := by decide +kernel
theorem d18_4 : decode jdk_41_method_11_code 4 = .ok (.iload_n 0, 1) := by decide +kernel
theorem d18_5 : decode jdk_41_method_11_code 5 = .ok (.iload_n 1, 1) := by decide +kernel
theorem d18_6 : decode jdk_41_method_11_code 6 = .ok (.if_icmp .lt 10, 3) := by decide +kernel
theorem d18_16 : decode jdk_41_method_11_code 16 = .ok (.iload_n 0, 1) := by decide +kernel
theorem d18_17 : decode jdk_41_method_11_code 17 = .ok (.ireturn, 1) := by decide +kernel
theorem pn_3 : plainName "jdk/internal/util/Preconditions" = true := by first | (simp [plainName, overriddenIn]; done) | decide +kernel
theorem ef_rm18 (m : MethodId) (x0 : Int32) (x1 : Int32) : entryFrame m #[(.int x0), (.int x1), .null] 3 = mkF m 0 #[Si x0, Si x1, Sn] [] := by first | (simp [entryFrame, mkF, argsToLocals, Value.category]; done) | rfl
def Q_rm18 (Z : State) (p1 : Int32) (p2 : Int32) (h0 : Heap) (n0 : Nat) (v : Option Value) (h : Heap) (L : List Loc) : Prop := v = some (.int p1) ∧ Fr n0 L ∧ h = h0
set_option maxRecDepth 65536 in
set_option maxHeartbeats 40000000 in
theorem rm18 (l : Launch) (Z : State) (a0 : Array Value) (hw : ∀ d ∈ tables_1, d.before a0 Z = true) (ws : List Jvm.Cond) (p1 : Int32) (p2 : Int32) (h0 : Heap) (n0 : Nat) (Z0 : n0 ≤ h0.size) (h1 : ¬ p1 < (0 : Int32)) (h2 : p1 < p2) :
    MetFree l (⟨"jdk/internal/util/Preconditions", "checkIndex", "(IILjava/util/function/BiFunction;)I"⟩ : MethodName) (head1 (Jvm.Cond.code (⟨"jdk/internal/util/Preconditions", "checkIndex", "(IILjava/util/function/BiFunction;)I"⟩ : MethodName) jdk_41_method_11_code 3 (some .int) :: ws) ({ frames := 0, cells := 0, slots := 0, locals := 0 } : Room)) (fun a U => a = #[(.int p1), (.int p2), .null] ∧ Z.Warmed39 U.vm ∧ U.heap = h0) (fun _ _ _ _ _ => True) (fun _ U o U' => ∃ v L, o = .returned v ∧ Q_rm18 Z p1 p2 h0 n0 v U'.heap L ∧ FrameEnd U o U' L ({ frames := 0, cells := 0, slots := 0, locals := 0 } : Room).cells ({ frames := 0, cells := 0, slots := 0, locals := 0 } : Room).slots) := by
  refine MetFree.of_bodySF (plainFor_of_name pn_3) hisR ?_
  intro p e s m args below meth c s₁ Bd hml0 hP hK
  obtain ⟨rfl, hZ, hh⟩ := hP
  have hx := Bd.exec
  have hby := Bd.bytes
  have hml : c.maxLocals = 3 := hml0
  have hown : s.vm.findClass "jdk/internal/util/Preconditions" = some m.cls := findClass_of_methodNamed Bd.named
  have hnm := (name_of_methodNamed Bd.named Bd.method).1
  have X0 : Stand p l e ({ frames := 0, cells := 0, slots := 0, locals := 0 } : Room) s m #[(.int p1), (.int p2), .null] below meth c s₁ [] 0 0 := Stand.of_body Bd
  have e0 : s₁.heap = h0 := by rw [← hh, Bd.state]; rfl
  have N0 := Fr.nil n0
  have pre0 : ∀ t, Steps p.tables e below (s₁.setTop (mkF m 0 #[Si p1, Si p2, Sn] [])) t → Steps p.tables e below (s₁.setTop (entryFrame m #[(.int p1), (.int p2), .null] 3)) t := fun t k => castTop (ef_rm18 m p1 p2) k
  have hc51 : ¬ (p1 < (0 : Int32)) := h1
  have hc52 : p1 < p2 := h2
  have pre53 : ∀ t, Steps p.tables e below (s₁.setTop (mkF m 17 #[Si p1, Si p2, Sn] [(.int p1)])) t → Steps p.tables e below (s₁.setTop (entryFrame m #[(.int p1), (.int p2), .null] 3)) t := by
    intro t k
    refine pre0 t ?_
    refine XS.iloadN X0.here hx rfl (hb hby d18_0) rfl ?_
    refine XS.ifNo X0.here hx rfl (hb hby d18_1) rfl ((if0 _ _).trans (flt hc51).1) ?_
    refine XS.iloadN X0.here hx rfl (hb hby d18_4) rfl ?_
    refine XS.iloadN X0.here hx rfl (hb hby d18_5) rfl ?_
    refine XS.icmpYes X0.here hx rfl (pc0 := 6) (pc' := 16) rfl (hb hby d18_6) rfl (tlt hc52).1 (by decide) (by decide) ?_
    refine XS.iloadN X0.here hx rfl (hb hby d18_16) rfl ?_
    exact k
  obtain ⟨fs, hr, hrun, hended, hW, hsame⟩ := X0.leave (v := some (.int p1)) (fun h => by rw [Bd.returns] at h; cases h)
  refine ⟨_, _, pre53 _ ?_, hrun, hended, _, _, rfl, ?_, ⟨_, rfl⟩, hW, hsame.mono (by decide) (by decide)⟩
  · exact retI X0 hx Bd.returns (hb hby d18_17) hr
  · show Q_rm18 Z p1 p2 h0 n0 _ s₁.heap _
    rw [e0]
    exact ⟨rfl, N0, rfl⟩
theorem d17_0 : decode jdk_31_method_17_code 0 = .ok (.iload_n 0, 1) := by decide +kernel
theorem d17_1 : decode jdk_31_method_17_code 1 = .ok (.iload_n 1, 1) := by decide +kernel
theorem d17_2 : decode jdk_31_method_17_code 2 = .ok (.aconst_null, 1) := by decide +kernel
theorem pd_5 : parseMethodDescriptor "(IILjava/util/function/BiFunction;)I" = some ⟨[.int, .int, (.object "java/util/function/BiFunction")], some .int⟩ := by decide +kernel
theorem d17_3 : decode jdk_31_method_17_code 3 = .ok (.invokestatic 105, 3) := by decide +kernel
theorem d17_6 : decode jdk_31_method_17_code 6 = .ok (.ireturn, 1) := by decide +kernel
theorem pn_4 : plainName "java/util/Objects" = true := by first | (simp [plainName, overriddenIn]; done) | decide +kernel
theorem ef_rm17 (m : MethodId) (x0 : Int32) (x1 : Int32) : entryFrame m #[(.int x0), (.int x1)] 2 = mkF m 0 #[Si x0, Si x1] [] := by first | (simp [entryFrame, mkF, argsToLocals, Value.category]; done) | rfl
def Q_rm17 (Z : State) (p1 : Int32) (p2 : Int32) (h0 : Heap) (n0 : Nat) (v : Option Value) (h : Heap) (L : List Loc) : Prop := v = some (.int p1) ∧ Fr n0 L ∧ h = h0
set_option maxRecDepth 65536 in
set_option maxHeartbeats 40000000 in
theorem rm17 (l : Launch) (Z : State) (a0 : Array Value) (hw : ∀ d ∈ tables_1, d.before a0 Z = true) (ws : List Jvm.Cond) (p1 : Int32) (p2 : Int32) (h0 : Heap) (n0 : Nat) (Z0 : n0 ≤ h0.size) (h1 : ¬ p1 < (0 : Int32)) (h2 : p1 < p2) :
    MetFree l (⟨"java/util/Objects", "checkIndex", "(II)I"⟩ : MethodName) (head1 (Jvm.Cond.code (⟨"java/util/Objects", "checkIndex", "(II)I"⟩ : MethodName) jdk_31_method_17_code 2 (some .int) :: ws) ({ frames := 1, cells := 0, slots := 0, locals := 14 } : Room)) (fun a U => a = #[(.int p1), (.int p2)] ∧ Z.Warmed39 U.vm ∧ U.heap = h0) (fun _ _ _ _ _ => True) (fun _ U o U' => ∃ v L, o = .returned v ∧ Q_rm17 Z p1 p2 h0 n0 v U'.heap L ∧ FrameEnd U o U' L ({ frames := 1, cells := 0, slots := 0, locals := 14 } : Room).cells ({ frames := 1, cells := 0, slots := 0, locals := 14 } : Room).slots) := by
  refine MetFree.of_bodySF (plainFor_of_name pn_4) hisR ?_
  intro p e s m args below meth c s₁ Bd hml0 hP hK
  obtain ⟨rfl, hZ, hh⟩ := hP
  have hx := Bd.exec
  have hby := Bd.bytes
  have hml : c.maxLocals = 2 := hml0
  have hown : s.vm.findClass "java/util/Objects" = some m.cls := findClass_of_methodNamed Bd.named
  have hnm := (name_of_methodNamed Bd.named Bd.method).1
  have X0 : Stand p l e ({ frames := 1, cells := 0, slots := 0, locals := 14 } : Room) s m #[(.int p1), (.int p2)] below meth c s₁ [] 0 0 := Stand.of_body Bd
  have e0 : s₁.heap = h0 := by rw [← hh, Bd.state]; rfl
  have N0 := Fr.nil n0
  have pre0 : ∀ t, Steps p.tables e below (s₁.setTop (mkF m 0 #[Si p1, Si p2] [])) t → Steps p.tables e below (s₁.setTop (entryFrame m #[(.int p1), (.int p2)] 2)) t := fun t k => castTop (ef_rm17 m p1 p2) k
  obtain ⟨_, _, ⟨T51, L51, k51, n51⟩, -, X51, ⟨Lc51, hQ51, l51, y51, z51⟩, st51⟩ := Jvm.LawKit.callS X0 hx (y := (⟨"jdk/internal/util/Preconditions", "checkIndex", "(IILjava/util/function/BiFunction;)I"⟩ : MethodName)) hown (mvT hZ (ow hw 123 rfl)) (mvT hZ (ow hw 124 rfl)) (mvT hZ (ow hw 125 rfl)) (mvT hZ (ow hw 126 rfl)) (by decide) (backOf (W := 0) (rm18 l Z a0 hw [] p1 p2 h0 n0 Z0 h1 h2) hZ (ow hw 126 rfl) (ow hw 125 rfl) (by decide) (by decide)) (g := (mkF m 3 #[Si p1, Si p2] [.null, (.int p2), (.int p1)])) rfl (by rw [hml]; rfl) (argsL := [(.int p1), (.int p2), .null]) (rest := []) (lenOf pd_5 rfl) rfl (by show 2 * 0 + _ ≤ _; exact Nat.le_of_eq rfl) (hb hby d17_3) (fun _ _ => ⟨rfl, e0, (by decide : 0 + 0 ≤ _), (by decide : 0 + 0 ≤ _)⟩)
  dsimp only [Pt.U, Pt.locs, Pt.cells, Pt.slots] at X51 l51 y51 z51 st51 hQ51
  subst y51 z51
  obtain ⟨rfl, Nq51, q51_0⟩ := hQ51
  have N52 := Eq.subst (motive := fun L => Fr n0 L) l51.symm (Fr.app N0 Nq51)
  have pre53 : ∀ t, Steps p.tables e below (T51.setTop (mkF m 6 #[Si p1, Si p2] [(.int p1)])) t → Steps p.tables e below (s₁.setTop (entryFrame m #[(.int p1), (.int p2)] 2)) t := by
    intro t k
    refine pre0 t ?_
    refine XS.iloadN X0.here hx rfl (hb hby d17_0) rfl ?_
    refine XS.iloadN X0.here hx rfl (hb hby d17_1) rfl ?_
    refine XS.aconstNull X0.here hx rfl (hb hby d17_2) ?_
    refine st51 _ ?_
    exact k
  obtain ⟨fs, hr, hrun, hended, hW, hsame⟩ := X51.leave (v := some (.int p1)) (fun h => by rw [Bd.returns] at h; cases h)
  refine ⟨_, _, pre53 _ ?_, hrun, hended, _, _, rfl, ?_, ⟨_, rfl⟩, hW, hsame.mono (by decide) (by decide)⟩
  · exact retI X51 hx Bd.returns (hb hby d17_6) hr
  · show Q_rm17 Z p1 p2 h0 n0 _ T51.heap _
    rw [q51_0]
    exact ⟨rfl, N52, rfl⟩
theorem d19_0 : decode jdk_38_method_18_code 0 = .ok (.aload_n 0, 1) := by decide +kernel
theorem d19_1 : decode jdk_38_method_18_code 1 = .ok (.getfield 9, 3) := by decide +kernel
theorem d19_4 : decode jdk_38_method_18_code 4 = .ok (.iload_n 1, 1) := by decide +kernel
theorem d19_5 : decode jdk_38_method_18_code 5 = .ok (.aaload, 1) := by decide +kernel
theorem d19_6 : decode jdk_38_method_18_code 6 = .ok (.areturn, 1) := by decide +kernel
theorem ef_rm_ed0 (m : MethodId) (x0 : Addr) : entryFrame m #[(.ref x0), (.int (0 : Int32))] 2 = mkF m 0 #[Sr x0, Si (0 : Int32)] [] := by first | (simp [entryFrame, mkF, argsToLocals, Value.category]; done) | rfl
def Q_rm_ed0 (Z : State) (a1 : Addr) (a3 : Addr) (k3 : ClassId) (x0 : Addr) (x1 : Addr) (x2 : Addr) (h0 : Heap) (n0 : Nat) (v : Option Value) (h : Heap) (L : List Loc) : Prop := v = some (.ref x0) ∧ Fr n0 L ∧ h = h0
set_option maxRecDepth 65536 in
set_option maxHeartbeats 40000000 in
theorem rm_ed0 (l : Launch) (Z : State) (a0 : Array Value) (hw : ∀ d ∈ tables_1, d.before a0 Z = true) (ws : List Jvm.Cond) (a1 : Addr) (a3 : Addr) (k3 : ClassId) (x0 : Addr) (x1 : Addr) (x2 : Addr) (h0 : Heap) (n0 : Nat) (Z0 : n0 ≤ h0.size) (Fd : Fld Z h0 a1 "java/util/ArrayList" "elementData" "[Ljava/lang/Object;" (.ref a3)) (V3 : Arv Z h0 a3 k3 (.object "java/lang/Object") (10 : Int32) [(.ref x0), (.ref x1), (.ref x2), .null, .null, .null, .null, .null, .null, .null] .null) :
    MetFree l (⟨"java/util/ArrayList", "elementData", "(I)Ljava/lang/Object;"⟩ : MethodName) (head1 (Jvm.Cond.code (⟨"java/util/ArrayList", "elementData", "(I)Ljava/lang/Object;"⟩ : MethodName) jdk_38_method_18_code 2 (some (.object "java/lang/Object")) :: ws) ({ frames := 0, cells := 0, slots := 0, locals := 0 } : Room)) (fun a U => a = #[(.ref a1), (.int (0 : Int32))] ∧ Z.Warmed39 U.vm ∧ U.heap = h0) (fun _ _ _ _ _ => True) (fun _ U o U' => ∃ v L, o = .returned v ∧ Q_rm_ed0 Z a1 a3 k3 x0 x1 x2 h0 n0 v U'.heap L ∧ FrameEnd U o U' L ({ frames := 0, cells := 0, slots := 0, locals := 0 } : Room).cells ({ frames := 0, cells := 0, slots := 0, locals := 0 } : Room).slots) := by
  refine MetFree.of_bodySF (plainFor_of_name pn_2) hisR ?_
  intro p e s m args below meth c s₁ Bd hml0 hP hK
  obtain ⟨rfl, hZ, hh⟩ := hP
  have hx := Bd.exec
  have hby := Bd.bytes
  have hml : c.maxLocals = 2 := hml0
  have hown : s.vm.findClass "java/util/ArrayList" = some m.cls := findClass_of_methodNamed Bd.named
  have hnm := (name_of_methodNamed Bd.named Bd.method).1
  have X0 : Stand p l e ({ frames := 0, cells := 0, slots := 0, locals := 0 } : Room) s m #[(.ref a1), (.int (0 : Int32))] below meth c s₁ [] 0 0 := Stand.of_body Bd
  have e0 : s₁.heap = h0 := by rw [← hh, Bd.state]; rfl
  have N0 := Fr.nil n0
  have pre0 : ∀ t, Steps p.tables e below (s₁.setTop (mkF m 0 #[Sr a1, Si (0 : Int32)] [])) t → Steps p.tables e below (s₁.setTop (entryFrame m #[(.ref a1), (.int (0 : Int32))] 2)) t := fun t k => castTop (ef_rm_ed0 m a1) k
  obtain ⟨T51, X51, e51, st51⟩ := getF X0 hx hZ hown (host := "") (Or.inl (ow hw 32 rfl)) Via.refl e0 Fd (g := (mkF m 1 #[Sr a1, Si (0 : Int32)] [(.ref a1)])) rfl rfl (hb hby d19_1)
  obtain ⟨c52, Arc52, Aqc52, Asc52, Anc52, Ahc52, Agc52⟩ := id V3
  have hin53 : ¬ ((0 : Int32) < 0 ∨ c52.slots.size ≤ ((0 : Int32)).toNatClampNeg) := inb_of Asc52 ⟨by decide, by decide⟩
  have hat54 : c52.slots[((0 : Int32)).toNatClampNeg]? = some (.ref x0) := Has.at Ahc52 hin53 rfl
  have pre55 : ∀ t, Steps p.tables e below (T51.setTop (mkF m 6 #[Sr a1, Si (0 : Int32)] [(.ref x0)])) t → Steps p.tables e below (s₁.setTop (entryFrame m #[(.ref a1), (.int (0 : Int32))] 2)) t := by
    intro t k
    refine pre0 t ?_
    refine XS.aloadN X0.here hx rfl (hb hby d19_0) rfl rfl ?_
    refine st51 _ ?_
    refine XS.iloadN X51.here hx rfl (hb hby d19_4) rfl ?_
    refine X51.aaload hx (j := (0 : Int32)) (v := (.ref x0)) (by rw [e51]; exact Arc52.1) (State.isArrayOf_alike hZ.alike Arc52.2.1) rfl Arc52.2.2 hin53 hat54 (g := (mkF m 5 #[Sr a1, Si (0 : Int32)] [(.int (0 : Int32)), (.ref a3)])) rfl rfl (hb hby d19_5) _ ?_
    exact k
  obtain ⟨fs, hr, hrun, hended, hW, hsame⟩ := X51.leave (v := some (.ref x0)) (fun h => by rw [Bd.returns] at h; cases h)
  refine ⟨_, _, pre55 _ ?_, hrun, hended, _, _, rfl, ?_, ⟨_, rfl⟩, hW, hsame.mono (by decide) (by decide)⟩
  · exact X51.areturnOut hx (w := (.ref x0)) rfl Bd.returns rfl (hb hby d19_6) hr
  · show Q_rm_ed0 Z a1 a3 k3 x0 x1 x2 h0 n0 _ T51.heap _
    rw [e51]
    exact ⟨rfl, N0, rfl⟩
theorem d16_0 : decode jdk_38_method_20_code 0 = .ok (.iload_n 1, 1) := by decide +kernel
theorem d16_1 : decode jdk_38_method_20_code 1 = .ok (.aload_n 0, 1) := by decide +kernel
theorem d16_2 : decode jdk_38_method_20_code 2 = .ok (.getfield 48, 3) := by decide +kernel
theorem d16_5 : decode jdk_38_method_20_code 5 = .ok (.invokestatic 118, 3) := by decide +kernel
theorem d16_8 : decode jdk_38_method_20_code 8 = .ok (.pop, 1) := by decide +kernel
theorem d16_9 : decode jdk_38_method_20_code 9 = .ok (.aload_n 0, 1) := by decide +kernel
theorem d16_10 : decode jdk_38_method_20_code 10 = .ok (.iload_n 1, 1) := by decide +kernel
theorem pd_6 : parseMethodDescriptor "(I)Ljava/lang/Object;" = some ⟨[.int], some (.object "java/lang/Object")⟩ := by decide +kernel
theorem d16_11 : decode jdk_38_method_20_code 11 = .ok (.invokevirtual 123, 3) := by decide +kernel
theorem d16_14 : decode jdk_38_method_20_code 14 = .ok (.areturn, 1) := by decide +kernel
theorem ef_rm_get0 (m : MethodId) (x0 : Addr) : entryFrame m #[(.ref x0), (.int (0 : Int32))] 2 = mkF m 0 #[Sr x0, Si (0 : Int32)] [] := by first | (simp [entryFrame, mkF, argsToLocals, Value.category]; done) | rfl
def Q_rm_get0 (Z : State) (a1 : Addr) (a3 : Addr) (k3 : ClassId) (x0 : Addr) (x1 : Addr) (x2 : Addr) (h0 : Heap) (n0 : Nat) (v : Option Value) (h : Heap) (L : List Loc) : Prop := v = some (.ref x0) ∧ Fr n0 L ∧ h = h0
set_option maxRecDepth 65536 in
set_option maxHeartbeats 40000000 in
theorem rm_get0 (l : Launch) (Z : State) (a0 : Array Value) (hw : ∀ d ∈ tables_1, d.before a0 Z = true) (ws : List Jvm.Cond) (a1 : Addr) (a3 : Addr) (k3 : ClassId) (x0 : Addr) (x1 : Addr) (x2 : Addr) (h0 : Heap) (n0 : Nat) (Z0 : n0 ≤ h0.size) (Es : Exa Z h0 a1 "java/util/ArrayList") (Fs : Fld Z h0 a1 "java/util/ArrayList" "size" "I" (.int (3 : Int32))) (Fd : Fld Z h0 a1 "java/util/ArrayList" "elementData" "[Ljava/lang/Object;" (.ref a3)) (V3 : Arv Z h0 a3 k3 (.object "java/lang/Object") (10 : Int32) [(.ref x0), (.ref x1), (.ref x2), .null, .null, .null, .null, .null, .null, .null] .null) :
    MetFree l (⟨"java/util/ArrayList", "get", "(I)Ljava/lang/Object;"⟩ : MethodName) (head1 (Jvm.Cond.code (⟨"java/util/ArrayList", "get", "(I)Ljava/lang/Object;"⟩ : MethodName) jdk_38_method_20_code 2 (some (.object "java/lang/Object")) :: ws) ({ frames := 2, cells := 0, slots := 0, locals := 27 } : Room)) (fun a U => a = #[(.ref a1), (.int (0 : Int32))] ∧ Z.Warmed39 U.vm ∧ U.heap = h0) (fun _ _ _ _ _ => True) (fun _ U o U' => ∃ v L, o = .returned v ∧ Q_rm_get0 Z a1 a3 k3 x0 x1 x2 h0 n0 v U'.heap L ∧ FrameEnd U o U' L ({ frames := 2, cells := 0, slots := 0, locals := 27 } : Room).cells ({ frames := 2, cells := 0, slots := 0, locals := 27 } : Room).slots) := by
  refine MetFree.of_bodySF (plainFor_of_name pn_2) hisR ?_
  intro p e s m args below meth c s₁ Bd hml0 hP hK
  obtain ⟨rfl, hZ, hh⟩ := hP
  have hx := Bd.exec
  have hby := Bd.bytes
  have hml : c.maxLocals = 2 := hml0
  have hown : s.vm.findClass "java/util/ArrayList" = some m.cls := findClass_of_methodNamed Bd.named
  have hnm := (name_of_methodNamed Bd.named Bd.method).1
  have X0 : Stand p l e ({ frames := 2, cells := 0, slots := 0, locals := 27 } : Room) s m #[(.ref a1), (.int (0 : Int32))] below meth c s₁ [] 0 0 := Stand.of_body Bd
  have e0 : s₁.heap = h0 := by rw [← hh, Bd.state]; rfl
  have N0 := Fr.nil n0
  have pre0 : ∀ t, Steps p.tables e below (s₁.setTop (mkF m 0 #[Sr a1, Si (0 : Int32)] [])) t → Steps p.tables e below (s₁.setTop (entryFrame m #[(.ref a1), (.int (0 : Int32))] 2)) t := fun t k => castTop (ef_rm_get0 m a1) k
  obtain ⟨T51, X51, e51, st51⟩ := getF X0 hx hZ hown (host := "") (Or.inl (ow hw 65 rfl)) Via.refl e0 Fs (g := (mkF m 2 #[Sr a1, Si (0 : Int32)] [(.ref a1), (.int (0 : Int32))])) rfl rfl (hb hby d16_2)
  obtain ⟨_, _, ⟨T52, L52, k52, n52⟩, -, X52, ⟨Lc52, hQ52, l52, y52, z52⟩, st52⟩ := Jvm.LawKit.callS X51 hx (y := (⟨"java/util/Objects", "checkIndex", "(II)I"⟩ : MethodName)) hown (mvT hZ (ow hw 119 rfl)) (mvT hZ (ow hw 120 rfl)) (mvT hZ (ow hw 121 rfl)) (mvT hZ (ow hw 122 rfl)) (by decide) (backOf (W := 0) (rm17 l Z a0 hw [] (0 : Int32) (3 : Int32) h0 n0 Z0 (by decide) (by decide)) hZ (ow hw 122 rfl) (ow hw 121 rfl) (by decide) (by decide)) (g := (mkF m 5 #[Sr a1, Si (0 : Int32)] [(.int (3 : Int32)), (.int (0 : Int32))])) rfl (by rw [hml]; rfl) (argsL := [(.int (0 : Int32)), (.int (3 : Int32))]) (rest := []) (lenOf pd_1 rfl) rfl (by show 2 * 0 + _ ≤ _; exact Nat.le_of_eq rfl) (hb hby d16_5) (fun _ _ => ⟨rfl, e51, (by decide : 0 + 0 ≤ _), (by decide : 0 + 0 ≤ _)⟩)
  dsimp only [Pt.U, Pt.locs, Pt.cells, Pt.slots] at X52 l52 y52 z52 st52 hQ52
  subst y52 z52
  obtain ⟨rfl, Nq52, q52_0⟩ := hQ52
  have N53 := Eq.subst (motive := fun L => Fr n0 L) l52.symm (Fr.app N0 Nq52)
  obtain ⟨cq54, kq54, q54a, q54b, q54c⟩ := isOf hZ q52_0 Es
  obtain ⟨_, _, ⟨T54, L54, k54, n54⟩, -, X54, ⟨Lc54, hQ54, l54, y54, z54⟩, st54⟩ := X52.virtualBack hx (y := (⟨"java/util/ArrayList", "elementData", "(I)Ljava/lang/Object;"⟩ : MethodName)) (z := (⟨"java/util/ArrayList", "elementData", "(I)Ljava/lang/Object;"⟩ : MethodName)) hown (mvT hZ (ow hw 127 rfl)) (mvT hZ (ow hw 128 rfl)) (notFace_of_selects (args := #[]) (mvT hZ (ow hw 130 rfl))) (mvT hZ (ow hw 130 rfl)) (mvT hZ (ow hw 129 rfl)) (by decide) (backOf (W := 0) (rm_ed0 l Z a0 hw [] a1 a3 k3 x0 x1 x2 h0 n0 Z0 Fd V3) hZ (ow hw 131 rfl) (ow hw 10 rfl) (by decide) (by decide)) q54a q54c (g := (mkF m 11 #[Sr a1, Si (0 : Int32)] [(.int (0 : Int32)), (.ref a1)])) rfl (by rw [hml]; rfl) (Steps.refl _) (argsL := [(.int (0 : Int32))]) (rest := []) (lenOf pd_6 rfl) rfl (by show 2 * 0 + _ ≤ _; exact Nat.le_of_eq rfl) (hb hby d16_11) (fun _ _ => ⟨rfl, q52_0, (by decide : 0 + 0 ≤ _), (by decide : 0 + 0 ≤ _)⟩)
  dsimp only [Pt.U, Pt.locs, Pt.cells, Pt.slots] at X54 l54 y54 z54 st54 hQ54
  subst y54 z54
  obtain ⟨rfl, Nq54, q54_0⟩ := hQ54
  have N55 := Eq.subst (motive := fun L => Fr n0 L) l54.symm (Fr.app N53 Nq54)
  have pre56 : ∀ t, Steps p.tables e below (T54.setTop (mkF m 14 #[Sr a1, Si (0 : Int32)] [(.ref x0)])) t → Steps p.tables e below (s₁.setTop (entryFrame m #[(.ref a1), (.int (0 : Int32))] 2)) t := by
    intro t k
    refine pre0 t ?_
    refine XS.iloadN X0.here hx rfl (hb hby d16_0) rfl ?_
    refine XS.aloadN X0.here hx rfl (hb hby d16_1) rfl rfl ?_
    refine st51 _ ?_
    refine st52 _ ?_
    refine XS.pop X52.here hx rfl (hb hby d16_8) rfl rfl ?_
    refine XS.aloadN X52.here hx rfl (hb hby d16_9) rfl rfl ?_
    refine XS.iloadN X52.here hx rfl (hb hby d16_10) rfl ?_
    refine st54.trans ?_
    exact k
  obtain ⟨fs, hr, hrun, hended, hW, hsame⟩ := X54.leave (v := some (.ref x0)) (fun h => by rw [Bd.returns] at h; cases h)
  refine ⟨_, _, pre56 _ ?_, hrun, hended, _, _, rfl, ?_, ⟨_, rfl⟩, hW, hsame.mono (by decide) (by decide)⟩
  · exact X54.areturnOut hx (w := (.ref x0)) rfl Bd.returns rfl (hb hby d16_14) hr
  · show Q_rm_get0 Z a1 a3 k3 x0 x1 x2 h0 n0 _ T54.heap _
    rw [q54_0]
    exact ⟨rfl, N55, rfl⟩
theorem ef_rm_ed1 (m : MethodId) (x0 : Addr) : entryFrame m #[(.ref x0), (.int (1 : Int32))] 2 = mkF m 0 #[Sr x0, Si (1 : Int32)] [] := by first | (simp [entryFrame, mkF, argsToLocals, Value.category]; done) | rfl
def Q_rm_ed1 (Z : State) (a1 : Addr) (a3 : Addr) (k3 : ClassId) (x0 : Addr) (x1 : Addr) (x2 : Addr) (h0 : Heap) (n0 : Nat) (v : Option Value) (h : Heap) (L : List Loc) : Prop := v = some (.ref x1) ∧ Fr n0 L ∧ h = h0
set_option maxRecDepth 65536 in
set_option maxHeartbeats 40000000 in
theorem rm_ed1 (l : Launch) (Z : State) (a0 : Array Value) (hw : ∀ d ∈ tables_1, d.before a0 Z = true) (ws : List Jvm.Cond) (a1 : Addr) (a3 : Addr) (k3 : ClassId) (x0 : Addr) (x1 : Addr) (x2 : Addr) (h0 : Heap) (n0 : Nat) (Z0 : n0 ≤ h0.size) (Fd : Fld Z h0 a1 "java/util/ArrayList" "elementData" "[Ljava/lang/Object;" (.ref a3)) (V3 : Arv Z h0 a3 k3 (.object "java/lang/Object") (10 : Int32) [(.ref x0), (.ref x1), (.ref x2), .null, .null, .null, .null, .null, .null, .null] .null) :
    MetFree l (⟨"java/util/ArrayList", "elementData", "(I)Ljava/lang/Object;"⟩ : MethodName) (head1 (Jvm.Cond.code (⟨"java/util/ArrayList", "elementData", "(I)Ljava/lang/Object;"⟩ : MethodName) jdk_38_method_18_code 2 (some (.object "java/lang/Object")) :: ws) ({ frames := 0, cells := 0, slots := 0, locals := 0 } : Room)) (fun a U => a = #[(.ref a1), (.int (1 : Int32))] ∧ Z.Warmed39 U.vm ∧ U.heap = h0) (fun _ _ _ _ _ => True) (fun _ U o U' => ∃ v L, o = .returned v ∧ Q_rm_ed1 Z a1 a3 k3 x0 x1 x2 h0 n0 v U'.heap L ∧ FrameEnd U o U' L ({ frames := 0, cells := 0, slots := 0, locals := 0 } : Room).cells ({ frames := 0, cells := 0, slots := 0, locals := 0 } : Room).slots) := by
  refine MetFree.of_bodySF (plainFor_of_name pn_2) hisR ?_
  intro p e s m args below meth c s₁ Bd hml0 hP hK
  obtain ⟨rfl, hZ, hh⟩ := hP
  have hx := Bd.exec
  have hby := Bd.bytes
  have hml : c.maxLocals = 2 := hml0
  have hown : s.vm.findClass "java/util/ArrayList" = some m.cls := findClass_of_methodNamed Bd.named
  have hnm := (name_of_methodNamed Bd.named Bd.method).1
  have X0 : Stand p l e ({ frames := 0, cells := 0, slots := 0, locals := 0 } : Room) s m #[(.ref a1), (.int (1 : Int32))] below meth c s₁ [] 0 0 := Stand.of_body Bd
  have e0 : s₁.heap = h0 := by rw [← hh, Bd.state]; rfl
  have N0 := Fr.nil n0
  have pre0 : ∀ t, Steps p.tables e below (s₁.setTop (mkF m 0 #[Sr a1, Si (1 : Int32)] [])) t → Steps p.tables e below (s₁.setTop (entryFrame m #[(.ref a1), (.int (1 : Int32))] 2)) t := fun t k => castTop (ef_rm_ed1 m a1) k
  obtain ⟨T51, X51, e51, st51⟩ := getF X0 hx hZ hown (host := "") (Or.inl (ow hw 32 rfl)) Via.refl e0 Fd (g := (mkF m 1 #[Sr a1, Si (1 : Int32)] [(.ref a1)])) rfl rfl (hb hby d19_1)
  obtain ⟨c52, Arc52, Aqc52, Asc52, Anc52, Ahc52, Agc52⟩ := id V3
  have hin53 : ¬ ((1 : Int32) < 0 ∨ c52.slots.size ≤ ((1 : Int32)).toNatClampNeg) := inb_of Asc52 ⟨by decide, by decide⟩
  have hat54 : c52.slots[((1 : Int32)).toNatClampNeg]? = some (.ref x1) := Has.at Ahc52 hin53 rfl
  have pre55 : ∀ t, Steps p.tables e below (T51.setTop (mkF m 6 #[Sr a1, Si (1 : Int32)] [(.ref x1)])) t → Steps p.tables e below (s₁.setTop (entryFrame m #[(.ref a1), (.int (1 : Int32))] 2)) t := by
    intro t k
    refine pre0 t ?_
    refine XS.aloadN X0.here hx rfl (hb hby d19_0) rfl rfl ?_
    refine st51 _ ?_
    refine XS.iloadN X51.here hx rfl (hb hby d19_4) rfl ?_
    refine X51.aaload hx (j := (1 : Int32)) (v := (.ref x1)) (by rw [e51]; exact Arc52.1) (State.isArrayOf_alike hZ.alike Arc52.2.1) rfl Arc52.2.2 hin53 hat54 (g := (mkF m 5 #[Sr a1, Si (1 : Int32)] [(.int (1 : Int32)), (.ref a3)])) rfl rfl (hb hby d19_5) _ ?_
    exact k
  obtain ⟨fs, hr, hrun, hended, hW, hsame⟩ := X51.leave (v := some (.ref x1)) (fun h => by rw [Bd.returns] at h; cases h)
  refine ⟨_, _, pre55 _ ?_, hrun, hended, _, _, rfl, ?_, ⟨_, rfl⟩, hW, hsame.mono (by decide) (by decide)⟩
  · exact X51.areturnOut hx (w := (.ref x1)) rfl Bd.returns rfl (hb hby d19_6) hr
  · show Q_rm_ed1 Z a1 a3 k3 x0 x1 x2 h0 n0 _ T51.heap _
    rw [e51]
    exact ⟨rfl, N0, rfl⟩
theorem ef_rm_get1 (m : MethodId) (x0 : Addr) : entryFrame m #[(.ref x0), (.int (1 : Int32))] 2 = mkF m 0 #[Sr x0, Si (1 : Int32)] [] := by first | (simp [entryFrame, mkF, argsToLocals, Value.category]; done) | rfl
def Q_rm_get1 (Z : State) (a1 : Addr) (a3 : Addr) (k3 : ClassId) (x0 : Addr) (x1 : Addr) (x2 : Addr) (h0 : Heap) (n0 : Nat) (v : Option Value) (h : Heap) (L : List Loc) : Prop := v = some (.ref x1) ∧ Fr n0 L ∧ h = h0
set_option maxRecDepth 65536 in
set_option maxHeartbeats 40000000 in
theorem rm_get1 (l : Launch) (Z : State) (a0 : Array Value) (hw : ∀ d ∈ tables_1, d.before a0 Z = true) (ws : List Jvm.Cond) (a1 : Addr) (a3 : Addr) (k3 : ClassId) (x0 : Addr) (x1 : Addr) (x2 : Addr) (h0 : Heap) (n0 : Nat) (Z0 : n0 ≤ h0.size) (Es : Exa Z h0 a1 "java/util/ArrayList") (Fs : Fld Z h0 a1 "java/util/ArrayList" "size" "I" (.int (3 : Int32))) (Fd : Fld Z h0 a1 "java/util/ArrayList" "elementData" "[Ljava/lang/Object;" (.ref a3)) (V3 : Arv Z h0 a3 k3 (.object "java/lang/Object") (10 : Int32) [(.ref x0), (.ref x1), (.ref x2), .null, .null, .null, .null, .null, .null, .null] .null) :
    MetFree l (⟨"java/util/ArrayList", "get", "(I)Ljava/lang/Object;"⟩ : MethodName) (head1 (Jvm.Cond.code (⟨"java/util/ArrayList", "get", "(I)Ljava/lang/Object;"⟩ : MethodName) jdk_38_method_20_code 2 (some (.object "java/lang/Object")) :: ws) ({ frames := 2, cells := 0, slots := 0, locals := 27 } : Room)) (fun a U => a = #[(.ref a1), (.int (1 : Int32))] ∧ Z.Warmed39 U.vm ∧ U.heap = h0) (fun _ _ _ _ _ => True) (fun _ U o U' => ∃ v L, o = .returned v ∧ Q_rm_get1 Z a1 a3 k3 x0 x1 x2 h0 n0 v U'.heap L ∧ FrameEnd U o U' L ({ frames := 2, cells := 0, slots := 0, locals := 27 } : Room).cells ({ frames := 2, cells := 0, slots := 0, locals := 27 } : Room).slots) := by
  refine MetFree.of_bodySF (plainFor_of_name pn_2) hisR ?_
  intro p e s m args below meth c s₁ Bd hml0 hP hK
  obtain ⟨rfl, hZ, hh⟩ := hP
  have hx := Bd.exec
  have hby := Bd.bytes
  have hml : c.maxLocals = 2 := hml0
  have hown : s.vm.findClass "java/util/ArrayList" = some m.cls := findClass_of_methodNamed Bd.named
  have hnm := (name_of_methodNamed Bd.named Bd.method).1
  have X0 : Stand p l e ({ frames := 2, cells := 0, slots := 0, locals := 27 } : Room) s m #[(.ref a1), (.int (1 : Int32))] below meth c s₁ [] 0 0 := Stand.of_body Bd
  have e0 : s₁.heap = h0 := by rw [← hh, Bd.state]; rfl
  have N0 := Fr.nil n0
  have pre0 : ∀ t, Steps p.tables e below (s₁.setTop (mkF m 0 #[Sr a1, Si (1 : Int32)] [])) t → Steps p.tables e below (s₁.setTop (entryFrame m #[(.ref a1), (.int (1 : Int32))] 2)) t := fun t k => castTop (ef_rm_get1 m a1) k
  obtain ⟨T51, X51, e51, st51⟩ := getF X0 hx hZ hown (host := "") (Or.inl (ow hw 65 rfl)) Via.refl e0 Fs (g := (mkF m 2 #[Sr a1, Si (1 : Int32)] [(.ref a1), (.int (1 : Int32))])) rfl rfl (hb hby d16_2)
  obtain ⟨_, _, ⟨T52, L52, k52, n52⟩, -, X52, ⟨Lc52, hQ52, l52, y52, z52⟩, st52⟩ := Jvm.LawKit.callS X51 hx (y := (⟨"java/util/Objects", "checkIndex", "(II)I"⟩ : MethodName)) hown (mvT hZ (ow hw 119 rfl)) (mvT hZ (ow hw 120 rfl)) (mvT hZ (ow hw 121 rfl)) (mvT hZ (ow hw 122 rfl)) (by decide) (backOf (W := 0) (rm17 l Z a0 hw [] (1 : Int32) (3 : Int32) h0 n0 Z0 (by decide) (by decide)) hZ (ow hw 122 rfl) (ow hw 121 rfl) (by decide) (by decide)) (g := (mkF m 5 #[Sr a1, Si (1 : Int32)] [(.int (3 : Int32)), (.int (1 : Int32))])) rfl (by rw [hml]; rfl) (argsL := [(.int (1 : Int32)), (.int (3 : Int32))]) (rest := []) (lenOf pd_1 rfl) rfl (by show 2 * 0 + _ ≤ _; exact Nat.le_of_eq rfl) (hb hby d16_5) (fun _ _ => ⟨rfl, e51, (by decide : 0 + 0 ≤ _), (by decide : 0 + 0 ≤ _)⟩)
  dsimp only [Pt.U, Pt.locs, Pt.cells, Pt.slots] at X52 l52 y52 z52 st52 hQ52
  subst y52 z52
  obtain ⟨rfl, Nq52, q52_0⟩ := hQ52
  have N53 := Eq.subst (motive := fun L => Fr n0 L) l52.symm (Fr.app N0 Nq52)
  obtain ⟨cq54, kq54, q54a, q54b, q54c⟩ := isOf hZ q52_0 Es
  obtain ⟨_, _, ⟨T54, L54, k54, n54⟩, -, X54, ⟨Lc54, hQ54, l54, y54, z54⟩, st54⟩ := X52.virtualBack hx (y := (⟨"java/util/ArrayList", "elementData", "(I)Ljava/lang/Object;"⟩ : MethodName)) (z := (⟨"java/util/ArrayList", "elementData", "(I)Ljava/lang/Object;"⟩ : MethodName)) hown (mvT hZ (ow hw 127 rfl)) (mvT hZ (ow hw 128 rfl)) (notFace_of_selects (args := #[]) (mvT hZ (ow hw 130 rfl))) (mvT hZ (ow hw 130 rfl)) (mvT hZ (ow hw 129 rfl)) (by decide) (backOf (W := 0) (rm_ed1 l Z a0 hw [] a1 a3 k3 x0 x1 x2 h0 n0 Z0 Fd V3) hZ (ow hw 131 rfl) (ow hw 10 rfl) (by decide) (by decide)) q54a q54c (g := (mkF m 11 #[Sr a1, Si (1 : Int32)] [(.int (1 : Int32)), (.ref a1)])) rfl (by rw [hml]; rfl) (Steps.refl _) (argsL := [(.int (1 : Int32))]) (rest := []) (lenOf pd_6 rfl) rfl (by show 2 * 0 + _ ≤ _; exact Nat.le_of_eq rfl) (hb hby d16_11) (fun _ _ => ⟨rfl, q52_0, (by decide : 0 + 0 ≤ _), (by decide : 0 + 0 ≤ _)⟩)
  dsimp only [Pt.U, Pt.locs, Pt.cells, Pt.slots] at X54 l54 y54 z54 st54 hQ54
  subst y54 z54
  obtain ⟨rfl, Nq54, q54_0⟩ := hQ54
  have N55 := Eq.subst (motive := fun L => Fr n0 L) l54.symm (Fr.app N53 Nq54)
  have pre56 : ∀ t, Steps p.tables e below (T54.setTop (mkF m 14 #[Sr a1, Si (1 : Int32)] [(.ref x1)])) t → Steps p.tables e below (s₁.setTop (entryFrame m #[(.ref a1), (.int (1 : Int32))] 2)) t := by
    intro t k
    refine pre0 t ?_
    refine XS.iloadN X0.here hx rfl (hb hby d16_0) rfl ?_
    refine XS.aloadN X0.here hx rfl (hb hby d16_1) rfl rfl ?_
    refine st51 _ ?_
    refine st52 _ ?_
    refine XS.pop X52.here hx rfl (hb hby d16_8) rfl rfl ?_
    refine XS.aloadN X52.here hx rfl (hb hby d16_9) rfl rfl ?_
    refine XS.iloadN X52.here hx rfl (hb hby d16_10) rfl ?_
    refine st54.trans ?_
    exact k
  obtain ⟨fs, hr, hrun, hended, hW, hsame⟩ := X54.leave (v := some (.ref x1)) (fun h => by rw [Bd.returns] at h; cases h)
  refine ⟨_, _, pre56 _ ?_, hrun, hended, _, _, rfl, ?_, ⟨_, rfl⟩, hW, hsame.mono (by decide) (by decide)⟩
  · exact X54.areturnOut hx (w := (.ref x1)) rfl Bd.returns rfl (hb hby d16_14) hr
  · show Q_rm_get1 Z a1 a3 k3 x0 x1 x2 h0 n0 _ T54.heap _
    rw [q54_0]
    exact ⟨rfl, N55, rfl⟩
theorem ef_rm_ed2 (m : MethodId) (x0 : Addr) : entryFrame m #[(.ref x0), (.int (2 : Int32))] 2 = mkF m 0 #[Sr x0, Si (2 : Int32)] [] := by first | (simp [entryFrame, mkF, argsToLocals, Value.category]; done) | rfl
def Q_rm_ed2 (Z : State) (a1 : Addr) (a3 : Addr) (k3 : ClassId) (x0 : Addr) (x1 : Addr) (x2 : Addr) (h0 : Heap) (n0 : Nat) (v : Option Value) (h : Heap) (L : List Loc) : Prop := v = some (.ref x2) ∧ Fr n0 L ∧ h = h0
set_option maxRecDepth 65536 in
set_option maxHeartbeats 40000000 in
theorem rm_ed2 (l : Launch) (Z : State) (a0 : Array Value) (hw : ∀ d ∈ tables_1, d.before a0 Z = true) (ws : List Jvm.Cond) (a1 : Addr) (a3 : Addr) (k3 : ClassId) (x0 : Addr) (x1 : Addr) (x2 : Addr) (h0 : Heap) (n0 : Nat) (Z0 : n0 ≤ h0.size) (Fd : Fld Z h0 a1 "java/util/ArrayList" "elementData" "[Ljava/lang/Object;" (.ref a3)) (V3 : Arv Z h0 a3 k3 (.object "java/lang/Object") (10 : Int32) [(.ref x0), (.ref x1), (.ref x2), .null, .null, .null, .null, .null, .null, .null] .null) :
    MetFree l (⟨"java/util/ArrayList", "elementData", "(I)Ljava/lang/Object;"⟩ : MethodName) (head1 (Jvm.Cond.code (⟨"java/util/ArrayList", "elementData", "(I)Ljava/lang/Object;"⟩ : MethodName) jdk_38_method_18_code 2 (some (.object "java/lang/Object")) :: ws) ({ frames := 0, cells := 0, slots := 0, locals := 0 } : Room)) (fun a U => a = #[(.ref a1), (.int (2 : Int32))] ∧ Z.Warmed39 U.vm ∧ U.heap = h0) (fun _ _ _ _ _ => True) (fun _ U o U' => ∃ v L, o = .returned v ∧ Q_rm_ed2 Z a1 a3 k3 x0 x1 x2 h0 n0 v U'.heap L ∧ FrameEnd U o U' L ({ frames := 0, cells := 0, slots := 0, locals := 0 } : Room).cells ({ frames := 0, cells := 0, slots := 0, locals := 0 } : Room).slots) := by
  refine MetFree.of_bodySF (plainFor_of_name pn_2) hisR ?_
  intro p e s m args below meth c s₁ Bd hml0 hP hK
  obtain ⟨rfl, hZ, hh⟩ := hP
  have hx := Bd.exec
  have hby := Bd.bytes
  have hml : c.maxLocals = 2 := hml0
  have hown : s.vm.findClass "java/util/ArrayList" = some m.cls := findClass_of_methodNamed Bd.named
  have hnm := (name_of_methodNamed Bd.named Bd.method).1
  have X0 : Stand p l e ({ frames := 0, cells := 0, slots := 0, locals := 0 } : Room) s m #[(.ref a1), (.int (2 : Int32))] below meth c s₁ [] 0 0 := Stand.of_body Bd
  have e0 : s₁.heap = h0 := by rw [← hh, Bd.state]; rfl
  have N0 := Fr.nil n0
  have pre0 : ∀ t, Steps p.tables e below (s₁.setTop (mkF m 0 #[Sr a1, Si (2 : Int32)] [])) t → Steps p.tables e below (s₁.setTop (entryFrame m #[(.ref a1), (.int (2 : Int32))] 2)) t := fun t k => castTop (ef_rm_ed2 m a1) k
  obtain ⟨T51, X51, e51, st51⟩ := getF X0 hx hZ hown (host := "") (Or.inl (ow hw 32 rfl)) Via.refl e0 Fd (g := (mkF m 1 #[Sr a1, Si (2 : Int32)] [(.ref a1)])) rfl rfl (hb hby d19_1)
  obtain ⟨c52, Arc52, Aqc52, Asc52, Anc52, Ahc52, Agc52⟩ := id V3
  have hin53 : ¬ ((2 : Int32) < 0 ∨ c52.slots.size ≤ ((2 : Int32)).toNatClampNeg) := inb_of Asc52 ⟨by decide, by decide⟩
  have hat54 : c52.slots[((2 : Int32)).toNatClampNeg]? = some (.ref x2) := Has.at Ahc52 hin53 rfl
  have pre55 : ∀ t, Steps p.tables e below (T51.setTop (mkF m 6 #[Sr a1, Si (2 : Int32)] [(.ref x2)])) t → Steps p.tables e below (s₁.setTop (entryFrame m #[(.ref a1), (.int (2 : Int32))] 2)) t := by
    intro t k
    refine pre0 t ?_
    refine XS.aloadN X0.here hx rfl (hb hby d19_0) rfl rfl ?_
    refine st51 _ ?_
    refine XS.iloadN X51.here hx rfl (hb hby d19_4) rfl ?_
    refine X51.aaload hx (j := (2 : Int32)) (v := (.ref x2)) (by rw [e51]; exact Arc52.1) (State.isArrayOf_alike hZ.alike Arc52.2.1) rfl Arc52.2.2 hin53 hat54 (g := (mkF m 5 #[Sr a1, Si (2 : Int32)] [(.int (2 : Int32)), (.ref a3)])) rfl rfl (hb hby d19_5) _ ?_
    exact k
  obtain ⟨fs, hr, hrun, hended, hW, hsame⟩ := X51.leave (v := some (.ref x2)) (fun h => by rw [Bd.returns] at h; cases h)
  refine ⟨_, _, pre55 _ ?_, hrun, hended, _, _, rfl, ?_, ⟨_, rfl⟩, hW, hsame.mono (by decide) (by decide)⟩
  · exact X51.areturnOut hx (w := (.ref x2)) rfl Bd.returns rfl (hb hby d19_6) hr
  · show Q_rm_ed2 Z a1 a3 k3 x0 x1 x2 h0 n0 _ T51.heap _
    rw [e51]
    exact ⟨rfl, N0, rfl⟩
theorem ef_rm_get2 (m : MethodId) (x0 : Addr) : entryFrame m #[(.ref x0), (.int (2 : Int32))] 2 = mkF m 0 #[Sr x0, Si (2 : Int32)] [] := by first | (simp [entryFrame, mkF, argsToLocals, Value.category]; done) | rfl
def Q_rm_get2 (Z : State) (a1 : Addr) (a3 : Addr) (k3 : ClassId) (x0 : Addr) (x1 : Addr) (x2 : Addr) (h0 : Heap) (n0 : Nat) (v : Option Value) (h : Heap) (L : List Loc) : Prop := v = some (.ref x2) ∧ Fr n0 L ∧ h = h0
set_option maxRecDepth 65536 in
set_option maxHeartbeats 40000000 in
theorem rm_get2 (l : Launch) (Z : State) (a0 : Array Value) (hw : ∀ d ∈ tables_1, d.before a0 Z = true) (ws : List Jvm.Cond) (a1 : Addr) (a3 : Addr) (k3 : ClassId) (x0 : Addr) (x1 : Addr) (x2 : Addr) (h0 : Heap) (n0 : Nat) (Z0 : n0 ≤ h0.size) (Es : Exa Z h0 a1 "java/util/ArrayList") (Fs : Fld Z h0 a1 "java/util/ArrayList" "size" "I" (.int (3 : Int32))) (Fd : Fld Z h0 a1 "java/util/ArrayList" "elementData" "[Ljava/lang/Object;" (.ref a3)) (V3 : Arv Z h0 a3 k3 (.object "java/lang/Object") (10 : Int32) [(.ref x0), (.ref x1), (.ref x2), .null, .null, .null, .null, .null, .null, .null] .null) :
    MetFree l (⟨"java/util/ArrayList", "get", "(I)Ljava/lang/Object;"⟩ : MethodName) (head1 (Jvm.Cond.code (⟨"java/util/ArrayList", "get", "(I)Ljava/lang/Object;"⟩ : MethodName) jdk_38_method_20_code 2 (some (.object "java/lang/Object")) :: ws) ({ frames := 2, cells := 0, slots := 0, locals := 27 } : Room)) (fun a U => a = #[(.ref a1), (.int (2 : Int32))] ∧ Z.Warmed39 U.vm ∧ U.heap = h0) (fun _ _ _ _ _ => True) (fun _ U o U' => ∃ v L, o = .returned v ∧ Q_rm_get2 Z a1 a3 k3 x0 x1 x2 h0 n0 v U'.heap L ∧ FrameEnd U o U' L ({ frames := 2, cells := 0, slots := 0, locals := 27 } : Room).cells ({ frames := 2, cells := 0, slots := 0, locals := 27 } : Room).slots) := by
  refine MetFree.of_bodySF (plainFor_of_name pn_2) hisR ?_
  intro p e s m args below meth c s₁ Bd hml0 hP hK
  obtain ⟨rfl, hZ, hh⟩ := hP
  have hx := Bd.exec
  have hby := Bd.bytes
  have hml : c.maxLocals = 2 := hml0
  have hown : s.vm.findClass "java/util/ArrayList" = some m.cls := findClass_of_methodNamed Bd.named
  have hnm := (name_of_methodNamed Bd.named Bd.method).1
  have X0 : Stand p l e ({ frames := 2, cells := 0, slots := 0, locals := 27 } : Room) s m #[(.ref a1), (.int (2 : Int32))] below meth c s₁ [] 0 0 := Stand.of_body Bd
  have e0 : s₁.heap = h0 := by rw [← hh, Bd.state]; rfl
  have N0 := Fr.nil n0
  have pre0 : ∀ t, Steps p.tables e below (s₁.setTop (mkF m 0 #[Sr a1, Si (2 : Int32)] [])) t → Steps p.tables e below (s₁.setTop (entryFrame m #[(.ref a1), (.int (2 : Int32))] 2)) t := fun t k => castTop (ef_rm_get2 m a1) k
  obtain ⟨T51, X51, e51, st51⟩ := getF X0 hx hZ hown (host := "") (Or.inl (ow hw 65 rfl)) Via.refl e0 Fs (g := (mkF m 2 #[Sr a1, Si (2 : Int32)] [(.ref a1), (.int (2 : Int32))])) rfl rfl (hb hby d16_2)
  obtain ⟨_, _, ⟨T52, L52, k52, n52⟩, -, X52, ⟨Lc52, hQ52, l52, y52, z52⟩, st52⟩ := Jvm.LawKit.callS X51 hx (y := (⟨"java/util/Objects", "checkIndex", "(II)I"⟩ : MethodName)) hown (mvT hZ (ow hw 119 rfl)) (mvT hZ (ow hw 120 rfl)) (mvT hZ (ow hw 121 rfl)) (mvT hZ (ow hw 122 rfl)) (by decide) (backOf (W := 0) (rm17 l Z a0 hw [] (2 : Int32) (3 : Int32) h0 n0 Z0 (by decide) (by decide)) hZ (ow hw 122 rfl) (ow hw 121 rfl) (by decide) (by decide)) (g := (mkF m 5 #[Sr a1, Si (2 : Int32)] [(.int (3 : Int32)), (.int (2 : Int32))])) rfl (by rw [hml]; rfl) (argsL := [(.int (2 : Int32)), (.int (3 : Int32))]) (rest := []) (lenOf pd_1 rfl) rfl (by show 2 * 0 + _ ≤ _; exact Nat.le_of_eq rfl) (hb hby d16_5) (fun _ _ => ⟨rfl, e51, (by decide : 0 + 0 ≤ _), (by decide : 0 + 0 ≤ _)⟩)
  dsimp only [Pt.U, Pt.locs, Pt.cells, Pt.slots] at X52 l52 y52 z52 st52 hQ52
  subst y52 z52
  obtain ⟨rfl, Nq52, q52_0⟩ := hQ52
  have N53 := Eq.subst (motive := fun L => Fr n0 L) l52.symm (Fr.app N0 Nq52)
  obtain ⟨cq54, kq54, q54a, q54b, q54c⟩ := isOf hZ q52_0 Es
  obtain ⟨_, _, ⟨T54, L54, k54, n54⟩, -, X54, ⟨Lc54, hQ54, l54, y54, z54⟩, st54⟩ := X52.virtualBack hx (y := (⟨"java/util/ArrayList", "elementData", "(I)Ljava/lang/Object;"⟩ : MethodName)) (z := (⟨"java/util/ArrayList", "elementData", "(I)Ljava/lang/Object;"⟩ : MethodName)) hown (mvT hZ (ow hw 127 rfl)) (mvT hZ (ow hw 128 rfl)) (notFace_of_selects (args := #[]) (mvT hZ (ow hw 130 rfl))) (mvT hZ (ow hw 130 rfl)) (mvT hZ (ow hw 129 rfl)) (by decide) (backOf (W := 0) (rm_ed2 l Z a0 hw [] a1 a3 k3 x0 x1 x2 h0 n0 Z0 Fd V3) hZ (ow hw 131 rfl) (ow hw 10 rfl) (by decide) (by decide)) q54a q54c (g := (mkF m 11 #[Sr a1, Si (2 : Int32)] [(.int (2 : Int32)), (.ref a1)])) rfl (by rw [hml]; rfl) (Steps.refl _) (argsL := [(.int (2 : Int32))]) (rest := []) (lenOf pd_6 rfl) rfl (by show 2 * 0 + _ ≤ _; exact Nat.le_of_eq rfl) (hb hby d16_11) (fun _ _ => ⟨rfl, q52_0, (by decide : 0 + 0 ≤ _), (by decide : 0 + 0 ≤ _)⟩)
  dsimp only [Pt.U, Pt.locs, Pt.cells, Pt.slots] at X54 l54 y54 z54 st54 hQ54
  subst y54 z54
  obtain ⟨rfl, Nq54, q54_0⟩ := hQ54
  have N55 := Eq.subst (motive := fun L => Fr n0 L) l54.symm (Fr.app N53 Nq54)
  have pre56 : ∀ t, Steps p.tables e below (T54.setTop (mkF m 14 #[Sr a1, Si (2 : Int32)] [(.ref x2)])) t → Steps p.tables e below (s₁.setTop (entryFrame m #[(.ref a1), (.int (2 : Int32))] 2)) t := by
    intro t k
    refine pre0 t ?_
    refine XS.iloadN X0.here hx rfl (hb hby d16_0) rfl ?_
    refine XS.aloadN X0.here hx rfl (hb hby d16_1) rfl rfl ?_
    refine st51 _ ?_
    refine st52 _ ?_
    refine XS.pop X52.here hx rfl (hb hby d16_8) rfl rfl ?_
    refine XS.aloadN X52.here hx rfl (hb hby d16_9) rfl rfl ?_
    refine XS.iloadN X52.here hx rfl (hb hby d16_10) rfl ?_
    refine st54.trans ?_
    exact k
  obtain ⟨fs, hr, hrun, hended, hW, hsame⟩ := X54.leave (v := some (.ref x2)) (fun h => by rw [Bd.returns] at h; cases h)
  refine ⟨_, _, pre56 _ ?_, hrun, hended, _, _, rfl, ?_, ⟨_, rfl⟩, hW, hsame.mono (by decide) (by decide)⟩
  · exact X54.areturnOut hx (w := (.ref x2)) rfl Bd.returns rfl (hb hby d16_14) hr
  · show Q_rm_get2 Z a1 a3 k3 x0 x1 x2 h0 n0 _ T54.heap _
    rw [q54_0]
    exact ⟨rfl, N55, rfl⟩
theorem d9_0 : decode prog_45_method_1_code 0 = .ok (.aload_n 0, 1) := by decide +kernel
theorem d9_1 : decode prog_45_method_1_code 1 = .ok (.invokespecial 1, 3) := by decide +kernel
theorem d9_4 : decode prog_45_method_1_code 4 = .ok (.aload_n 0, 1) := by decide +kernel
theorem d9_5 : decode prog_45_method_1_code 5 = .ok (.iload_n 1, 1) := by decide +kernel
theorem d9_6 : decode prog_45_method_1_code 6 = .ok (.putfield 7, 3) := by decide +kernel
theorem d9_9 : decode prog_45_method_1_code 9 = .ok (.aload_n 0, 1) := by decide +kernel
theorem d9_10 : decode prog_45_method_1_code 10 = .ok (.iload_n 2, 1) := by decide +kernel
theorem d9_11 : decode prog_45_method_1_code 11 = .ok (.putfield 13, 3) := by decide +kernel
theorem d9_14 : decode prog_45_method_1_code 14 = .ok (.return_, 1) := by decide +kernel
theorem pn_5 : plainName "com/example/darlington/darlington/core/FiniteType" = true := by first | (simp [plainName, overriddenIn]; done) | decide +kernel
theorem ef_rm9 (m : MethodId) (x0 : Addr) (x1 : Int32) (x2 : Int32) : entryFrame m #[(.ref x0), (.int x1), (.int x2)] 3 = mkF m 0 #[Sr x0, Si x1, Si x2] [] := by first | (simp [entryFrame, mkF, argsToLocals, Value.category]; done) | rfl
def Q_rm9 (Z : State) (a1 : Addr) (p2 : Int32) (p3 : Int32) (u1 : Int32) (u2 : Int32) (h0 : Heap) (n0 : Nat) (v : Option Value) (h : Heap) (L : List Loc) : Prop := v = none ∧ Fr n0 L ∧ Keep h0 h [a1] ∧ Fld Z h a1 "com/example/darlington/darlington/core/FiniteType" "first" "I" (.int p2) ∧ Fld Z h a1 "com/example/darlington/darlington/core/FiniteType" "size" "I" (.int p3)
set_option maxRecDepth 65536 in
set_option maxHeartbeats 40000000 in
theorem rm9 (l : Launch) (Z : State) (a0 : Array Value) (hw : ∀ d ∈ tables_1, d.before a0 Z = true) (ws : List Jvm.Cond) (a1 : Addr) (p2 : Int32) (p3 : Int32) (u1 : Int32) (u2 : Int32) (h0 : Heap) (n0 : Nat) (Z0 : n0 ≤ h0.size) (E1 : Exa Z h0 a1 "com/example/darlington/darlington/core/IntegerRange") (F1 : Fld Z h0 a1 "com/example/darlington/darlington/core/FiniteType" "first" "I" (.int u1)) (F2 : Fld Z h0 a1 "com/example/darlington/darlington/core/FiniteType" "size" "I" (.int u2)) (g1 : n0 ≤ a1) :
    MetFree l (⟨"com/example/darlington/darlington/core/FiniteType", "<init>", "(II)V"⟩ : MethodName) (head1 (Jvm.Cond.code (⟨"com/example/darlington/darlington/core/FiniteType", "<init>", "(II)V"⟩ : MethodName) prog_45_method_1_code 3 none :: ws) ({ frames := 1, cells := 0, slots := 0, locals := 12 } : Room)) (fun a U => a = #[(.ref a1), (.int p2), (.int p3)] ∧ Z.Warmed39 U.vm ∧ U.heap = h0) (fun _ _ _ _ _ => True) (fun _ U o U' => ∃ v L, o = .returned v ∧ Q_rm9 Z a1 p2 p3 u1 u2 h0 n0 v U'.heap L ∧ FrameEnd U o U' L ({ frames := 1, cells := 0, slots := 0, locals := 12 } : Room).cells ({ frames := 1, cells := 0, slots := 0, locals := 12 } : Room).slots) := by
  refine MetFree.of_bodySF (plainFor_of_name pn_5) hisR ?_
  intro p e s m args below meth c s₁ Bd hml0 hP hK
  obtain ⟨rfl, hZ, hh⟩ := hP
  have hx := Bd.exec
  have hby := Bd.bytes
  have hml : c.maxLocals = 3 := hml0
  have hown : s.vm.findClass "com/example/darlington/darlington/core/FiniteType" = some m.cls := findClass_of_methodNamed Bd.named
  have hnm := (name_of_methodNamed Bd.named Bd.method).1
  have X0 : Stand p l e ({ frames := 1, cells := 0, slots := 0, locals := 12 } : Room) s m #[(.ref a1), (.int p2), (.int p3)] below meth c s₁ [] 0 0 := Stand.of_body Bd
  have e0 : s₁.heap = h0 := by rw [← hh, Bd.state]; rfl
  have N0 := Fr.nil n0
  have pre0 : ∀ t, Steps p.tables e below (s₁.setTop (mkF m 0 #[Sr a1, Si p2, Si p3] [])) t → Steps p.tables e below (s₁.setTop (entryFrame m #[(.ref a1), (.int p2), (.int p3)] 3)) t := fun t k => castTop (ef_rm9 m a1 p2 p3) k
  obtain ⟨T51, X51, e51, st51⟩ := initO X0 hx hZ hown (ow hw 49 rfl) (ow hw 27 rfl) (ow hw 28 rfl) e0 (g := (mkF m 1 #[Sr a1, Si p2, Si p3] [(.ref a1)])) rfl (by rw [hml]; rfl) rfl (hb hby d9_1) (by decide) (W := 0) (by show 2 * 0 + _ ≤ _; exact Nat.le_of_eq rfl) (by decide)
  obtain ⟨T52, h52, X52, e52, W52, st52⟩ := putF X51 hx hZ hown (host := "") (Or.inl (ow hw 50 rfl)) Via.refl e51 F1 E1 (Or.inr ⟨(ow hw 51 rfl), rfl, hnm⟩) (ow hw 35 rfl) (ty := .int) (by decide) rfl rfl (g := (mkF m 6 #[Sr a1, Si p2, Si p3] [(.int p2), (.ref a1)])) rfl rfl (hb hby d9_6)
  have KC53 : Keep h0 h52 [a1] := (Keep.refl h0 [a1]).wr W52 (Or.inl (List.mem_of_getElem? (i := 0) rfl))
  have F54 : Fld Z h52 a1 "com/example/darlington/darlington/core/FiniteType" "first" "I" (.int p2) := F1.same W52
  have N55 := Fr.snoc X52 N0 g1
  have F56 : Exa Z h52 a1 "com/example/darlington/darlington/core/IntegerRange" := (E1.wr W52)
  have F57 : Fld Z h52 a1 "com/example/darlington/darlington/core/FiniteType" "size" "I" (.int u2) := (F2.other W52 (Or.inr (slot_ne (Or.inr (ow hw 53 rfl)) (Or.inr (ow hw 51 rfl)) (by decide) (t := .int) (t' := .int) (by decide) (by decide))))
  obtain ⟨T58, h58, X58, e58, W58, st58⟩ := putF X52 hx hZ hown (host := "") (Or.inl (ow hw 52 rfl)) Via.refl e52 F57 F56 (Or.inr ⟨(ow hw 53 rfl), rfl, hnm⟩) (ow hw 35 rfl) (ty := .int) (by decide) rfl rfl (g := (mkF m 11 #[Sr a1, Si p2, Si p3] [(.int p3), (.ref a1)])) rfl rfl (hb hby d9_11)
  have KC59 : Keep h0 h58 [a1] := KC53.wr W58 (Or.inl (List.mem_of_getElem? (i := 0) rfl))
  have F60 : Fld Z h58 a1 "com/example/darlington/darlington/core/FiniteType" "size" "I" (.int p3) := F57.same W58
  have N61 := Fr.snoc X58 N55 g1
  have pre62 : ∀ t, Steps p.tables e below (T58.setTop (mkF m 14 #[Sr a1, Si p2, Si p3] [])) t → Steps p.tables e below (s₁.setTop (entryFrame m #[(.ref a1), (.int p2), (.int p3)] 3)) t := by
    intro t k
    refine pre0 t ?_
    refine XS.aloadN X0.here hx rfl (hb hby d9_0) rfl rfl ?_
    refine st51 _ ?_
    refine XS.aloadN X51.here hx rfl (hb hby d9_4) rfl rfl ?_
    refine XS.iloadN X51.here hx rfl (hb hby d9_5) rfl ?_
    refine st52 _ ?_
    refine XS.aloadN X52.here hx rfl (hb hby d9_9) rfl rfl ?_
    refine XS.iloadN X52.here hx rfl (hb hby d9_10) rfl ?_
    refine st58 _ ?_
    exact k
  obtain ⟨fs, hr, hrun, hended, hW, hsame⟩ := X58.leave (v := none) (fun _ => rfl)
  refine ⟨_, _, pre62 _ ?_, hrun, hended, _, _, rfl, ?_, ⟨_, rfl⟩, hW, hsame.mono (by decide) (by decide)⟩
  · exact X58.returnOut hx Bd.returns (hb hby d9_14) hr
  · show Q_rm9 Z a1 p2 p3 u1 u2 h0 n0 _ T58.heap _
    rw [e58]
    have F63 : Fld Z h58 a1 "com/example/darlington/darlington/core/FiniteType" "first" "I" (.int p2) := (F54.other W58 (Or.inr (slot_ne (Or.inr (ow hw 51 rfl)) (Or.inr (ow hw 53 rfl)) (by decide) (t := .int) (t' := .int) (by decide) (by decide))))
    exact ⟨rfl, N61, KC59, F63, F60⟩
def own_size (lo hi : Int32) : Int32 := (((hi.toInt64 - lo.toInt64) + (1 : Int64)).toInt32)
theorem d8_0 : decode prog_55_method_2_code 0 = .ok (.iload_n 0, 1) := by decide +kernel
theorem d8_1 : decode prog_55_method_2_code 1 = .ok (.iload_n 1, 1) := by decide +kernel
theorem d8_2 : decode prog_55_method_2_code 2 = .ok (.if_icmp .le 21, 3) := by decide +kernel
theorem d8_23 : decode prog_55_method_2_code 23 = .ok (.iload_n 1, 1) := by decide +kernel
theorem d8_24 : decode prog_55_method_2_code 24 = .ok (.i2l, 1) := by decide +kernel
theorem d8_25 : decode prog_55_method_2_code 25 = .ok (.iload_n 0, 1) := by decide +kernel
theorem d8_26 : decode prog_55_method_2_code 26 = .ok (.i2l, 1) := by decide +kernel
theorem d8_27 : decode prog_55_method_2_code 27 = .ok (.lsub, 1) := by decide +kernel
theorem d8_28 : decode prog_55_method_2_code 28 = .ok (.lconst 1, 1) := by decide +kernel
theorem d8_29 : decode prog_55_method_2_code 29 = .ok (.ladd, 1) := by decide +kernel
theorem d8_30 : decode prog_55_method_2_code 30 = .ok (.lstore_n 2, 1) := by decide +kernel
theorem d8_31 : decode prog_55_method_2_code 31 = .ok (.lload_n 2, 1) := by decide +kernel
theorem d8_32 : decode prog_55_method_2_code 32 = .ok (.ldc2_w 28, 3) := by decide +kernel
theorem d8_35 : decode prog_55_method_2_code 35 = .ok (.lcmp, 1) := by decide +kernel
theorem d8_36 : decode prog_55_method_2_code 36 = .ok (.ifCond .le 21, 3) := by decide +kernel
theorem d8_57 : decode prog_55_method_2_code 57 = .ok (.lload_n 2, 1) := by decide +kernel
theorem d8_58 : decode prog_55_method_2_code 58 = .ok (.l2i, 1) := by decide +kernel
theorem d8_59 : decode prog_55_method_2_code 59 = .ok (.ireturn, 1) := by decide +kernel
theorem pn_6 : plainName "com/example/darlington/darlington/core/IntegerRange" = true := by first | (simp [plainName, overriddenIn]; done) | decide +kernel
theorem ef_rm8 (m : MethodId) (x0 : Int32) (x1 : Int32) : entryFrame m #[(.int x0), (.int x1)] 4 = mkF m 0 #[Si x0, Si x1, Su, Su] [] := by first | (simp [entryFrame, mkF, argsToLocals, Value.category]; done) | rfl
def Q_rm8 (Z : State) (p1 : Int32) (p2 : Int32) (h0 : Heap) (n0 : Nat) (v : Option Value) (h : Heap) (L : List Loc) : Prop := v = some (.int (own_size p1 p2)) ∧ Fr n0 L ∧ h = h0
set_option maxRecDepth 65536 in
set_option maxHeartbeats 40000000 in
theorem rm8 (l : Launch) (Z : State) (a0 : Array Value) (hw : ∀ d ∈ tables_1, d.before a0 Z = true) (ws : List Jvm.Cond) (p1 : Int32) (p2 : Int32) (h0 : Heap) (n0 : Nat) (Z0 : n0 ≤ h0.size) (h1 : ¬ p2 < p1) (h2 : ¬ (2147483647 : Int64) < ((p2.toInt64 - p1.toInt64) + (1 : Int64))) :
    MetFree l (⟨"com/example/darlington/darlington/core/IntegerRange", "checkedSize", "(II)I"⟩ : MethodName) (head1 (Jvm.Cond.code (⟨"com/example/darlington/darlington/core/IntegerRange", "checkedSize", "(II)I"⟩ : MethodName) prog_55_method_2_code 4 (some .int) :: ws) ({ frames := 0, cells := 0, slots := 0, locals := 0 } : Room)) (fun a U => a = #[(.int p1), (.int p2)] ∧ Z.Warmed39 U.vm ∧ U.heap = h0) (fun _ _ _ _ _ => True) (fun _ U o U' => ∃ v L, o = .returned v ∧ Q_rm8 Z p1 p2 h0 n0 v U'.heap L ∧ FrameEnd U o U' L ({ frames := 0, cells := 0, slots := 0, locals := 0 } : Room).cells ({ frames := 0, cells := 0, slots := 0, locals := 0 } : Room).slots) := by
  refine MetFree.of_bodySF (plainFor_of_name pn_6) hisR ?_
  intro p e s m args below meth c s₁ Bd hml0 hP hK
  obtain ⟨rfl, hZ, hh⟩ := hP
  have hx := Bd.exec
  have hby := Bd.bytes
  have hml : c.maxLocals = 4 := hml0
  have hown : s.vm.findClass "com/example/darlington/darlington/core/IntegerRange" = some m.cls := findClass_of_methodNamed Bd.named
  have hnm := (name_of_methodNamed Bd.named Bd.method).1
  have X0 : Stand p l e ({ frames := 0, cells := 0, slots := 0, locals := 0 } : Room) s m #[(.int p1), (.int p2)] below meth c s₁ [] 0 0 := Stand.of_body Bd
  have e0 : s₁.heap = h0 := by rw [← hh, Bd.state]; rfl
  have N0 := Fr.nil n0
  have pre0 : ∀ t, Steps p.tables e below (s₁.setTop (mkF m 0 #[Si p1, Si p2, Su, Su] [])) t → Steps p.tables e below (s₁.setTop (entryFrame m #[(.int p1), (.int p2)] 4)) t := fun t k => castTop (ef_rm8 m p1 p2) k
  have hc51 : ¬ (p2 < p1) := h1
  have hc52 : ¬ ((2147483647 : Int64) < (((p2.toInt64) - (p1.toInt64)) + (1 : Int64))) := h2
  have pre53 : ∀ t, Steps p.tables e below (s₁.setTop (mkF m 59 #[Si p1, Si p2, Sl (((p2.toInt64) - (p1.toInt64)) + (1 : Int64)), S2] [(.int ((((p2.toInt64) - (p1.toInt64)) + (1 : Int64)).toInt32))])) t → Steps p.tables e below (s₁.setTop (entryFrame m #[(.int p1), (.int p2)] 4)) t := by
    intro t k
    refine pre0 t ?_
    refine XS.iloadN X0.here hx rfl (hb hby d8_0) rfl ?_
    refine XS.iloadN X0.here hx rfl (hb hby d8_1) rfl ?_
    refine XS.icmpYes X0.here hx rfl (pc0 := 2) (pc' := 23) rfl (hb hby d8_2) rfl (flt hc51).2.2.2 (by decide) (by decide) ?_
    refine XS.iloadN X0.here hx rfl (hb hby d8_23) rfl ?_
    refine XS.i2l X0.here hx rfl (hb hby d8_24) rfl ?_
    refine XS.iloadN X0.here hx rfl (hb hby d8_25) rfl ?_
    refine XS.i2l X0.here hx rfl (hb hby d8_26) rfl ?_
    refine XS.lsub X0.here hx rfl (hb hby d8_27) rfl ?_
    refine XS.lconst X0.here hx rfl (hb hby d8_28) ?_
    refine XS.ladd X0.here hx rfl (hb hby d8_29) rfl ?_
    show Steps _ _ _ (s₁.setTop (mkF m 30 #[Si p1, Si p2, Su, Su] [(.long (((p2.toInt64) - (p1.toInt64)) + (1 : Int64)))])) _
    refine XS.lstoreN X0.here hx rfl (hb hby d8_30) rfl (l' := #[Si p1, Si p2, Sl (((p2.toInt64) - (p1.toInt64)) + (1 : Int64)), S2]) rfl ?_
    refine XS.lloadN X0.here hx rfl (hb hby d8_31) rfl ?_
    refine X0.ldc2Long hx hown (mvT hZ (ow hw 43 rfl)) (g := (mkF m 32 #[Si p1, Si p2, Sl (((p2.toInt64) - (p1.toInt64)) + (1 : Int64)), S2] [(.long (((p2.toInt64) - (p1.toInt64)) + (1 : Int64)))])) rfl (hb hby d8_32) _ ?_
    refine XS.lcmp X0.here hx rfl (hb hby d8_35) rfl ?_
    refine XS.ifYes X0.here hx rfl (pc0 := 36) (pc' := 57) rfl (hb hby d8_36) rfl ((if0 _ _).trans (flt (fun z => hc52 ((lw_gt _ _).mp z))).2.2.2) (by decide) (by decide) ?_
    refine XS.lloadN X0.here hx rfl (hb hby d8_57) rfl ?_
    refine XS.l2i X0.here hx rfl (hb hby d8_58) rfl ?_
    exact k
  obtain ⟨fs, hr, hrun, hended, hW, hsame⟩ := X0.leave (v := some (.int ((((p2.toInt64) - (p1.toInt64)) + (1 : Int64)).toInt32))) (fun h => by rw [Bd.returns] at h; cases h)
  refine ⟨_, _, pre53 _ ?_, hrun, hended, _, _, rfl, ?_, ⟨_, rfl⟩, hW, hsame.mono (by decide) (by decide)⟩
  · exact retI X0 hx Bd.returns (hb hby d8_59) hr
  · show Q_rm8 Z p1 p2 h0 n0 _ s₁.heap _
    rw [e0]
    have hv54 : ((((p2.toInt64) - (p1.toInt64)) + (1 : Int64)).toInt32) = (own_size p1 p2) := rfl
    exact ⟨(congrArg (fun z => some (Value.int z)) hv54), N0, rfl⟩
theorem d7_0 : decode prog_55_method_1_code 0 = .ok (.aload_n 0, 1) := by decide +kernel
theorem d7_1 : decode prog_55_method_1_code 1 = .ok (.iload_n 1, 1) := by decide +kernel
theorem d7_2 : decode prog_55_method_1_code 2 = .ok (.iload_n 1, 1) := by decide +kernel
theorem d7_3 : decode prog_55_method_1_code 3 = .ok (.iload_n 2, 1) := by decide +kernel
theorem d7_4 : decode prog_55_method_1_code 4 = .ok (.invokestatic 1, 3) := by decide +kernel
theorem pd_7 : parseMethodDescriptor "(II)V" = some ⟨[.int, .int], none⟩ := by decide +kernel
theorem d7_7 : decode prog_55_method_1_code 7 = .ok (.invokespecial 7, 3) := by decide +kernel
theorem d7_10 : decode prog_55_method_1_code 10 = .ok (.return_, 1) := by decide +kernel
theorem ef_rm7 (m : MethodId) (x0 : Addr) (x1 : Int32) (x2 : Int32) : entryFrame m #[(.ref x0), (.int x1), (.int x2)] 3 = mkF m 0 #[Sr x0, Si x1, Si x2] [] := by first | (simp [entryFrame, mkF, argsToLocals, Value.category]; done) | rfl
def Q_rm7 (Z : State) (a1 : Addr) (p2 : Int32) (p3 : Int32) (u1 : Int32) (u2 : Int32) (h0 : Heap) (n0 : Nat) (v : Option Value) (h : Heap) (L : List Loc) : Prop := v = none ∧ Fr n0 L ∧ Keep h0 h [a1] ∧ Fld Z h a1 "com/example/darlington/darlington/core/FiniteType" "first" "I" (.int p2) ∧ Fld Z h a1 "com/example/darlington/darlington/core/FiniteType" "size" "I" (.int (own_size p2 p3))
set_option maxRecDepth 65536 in
set_option maxHeartbeats 40000000 in
theorem rm7 (l : Launch) (Z : State) (a0 : Array Value) (hw : ∀ d ∈ tables_1, d.before a0 Z = true) (ws : List Jvm.Cond) (a1 : Addr) (p2 : Int32) (p3 : Int32) (u1 : Int32) (u2 : Int32) (h0 : Heap) (n0 : Nat) (Z0 : n0 ≤ h0.size) (E1 : Exa Z h0 a1 "com/example/darlington/darlington/core/IntegerRange") (F1 : Fld Z h0 a1 "com/example/darlington/darlington/core/FiniteType" "first" "I" (.int u1)) (F2 : Fld Z h0 a1 "com/example/darlington/darlington/core/FiniteType" "size" "I" (.int u2)) (g1 : n0 ≤ a1) (h1 : ¬ p3 < p2) (h2 : ¬ (2147483647 : Int64) < ((p3.toInt64 - p2.toInt64) + (1 : Int64))) :
    MetFree l (⟨"com/example/darlington/darlington/core/IntegerRange", "<init>", "(II)V"⟩ : MethodName) (head1 (Jvm.Cond.code (⟨"com/example/darlington/darlington/core/IntegerRange", "<init>", "(II)V"⟩ : MethodName) prog_55_method_1_code 3 none :: ws) ({ frames := 2, cells := 0, slots := 0, locals := 26 } : Room)) (fun a U => a = #[(.ref a1), (.int p2), (.int p3)] ∧ Z.Warmed39 U.vm ∧ U.heap = h0) (fun _ _ _ _ _ => True) (fun _ U o U' => ∃ v L, o = .returned v ∧ Q_rm7 Z a1 p2 p3 u1 u2 h0 n0 v U'.heap L ∧ FrameEnd U o U' L ({ frames := 2, cells := 0, slots := 0, locals := 26 } : Room).cells ({ frames := 2, cells := 0, slots := 0, locals := 26 } : Room).slots) := by
  refine MetFree.of_bodySF (plainFor_of_name pn_6) hisR ?_
  intro p e s m args below meth c s₁ Bd hml0 hP hK
  obtain ⟨rfl, hZ, hh⟩ := hP
  have hx := Bd.exec
  have hby := Bd.bytes
  have hml : c.maxLocals = 3 := hml0
  have hown : s.vm.findClass "com/example/darlington/darlington/core/IntegerRange" = some m.cls := findClass_of_methodNamed Bd.named
  have hnm := (name_of_methodNamed Bd.named Bd.method).1
  have X0 : Stand p l e ({ frames := 2, cells := 0, slots := 0, locals := 26 } : Room) s m #[(.ref a1), (.int p2), (.int p3)] below meth c s₁ [] 0 0 := Stand.of_body Bd
  have e0 : s₁.heap = h0 := by rw [← hh, Bd.state]; rfl
  have N0 := Fr.nil n0
  have pre0 : ∀ t, Steps p.tables e below (s₁.setTop (mkF m 0 #[Sr a1, Si p2, Si p3] [])) t → Steps p.tables e below (s₁.setTop (entryFrame m #[(.ref a1), (.int p2), (.int p3)] 3)) t := fun t k => castTop (ef_rm7 m a1 p2 p3) k
  obtain ⟨_, _, ⟨T51, L51, k51, n51⟩, -, X51, ⟨Lc51, hQ51, l51, y51, z51⟩, st51⟩ := Jvm.LawKit.callS X0 hx (y := (⟨"com/example/darlington/darlington/core/IntegerRange", "checkedSize", "(II)I"⟩ : MethodName)) hown (mvT hZ (ow hw 40 rfl)) (mvT hZ (ow hw 41 rfl)) (mvT hZ (ow hw 36 rfl)) (mvT hZ (ow hw 42 rfl)) (by decide) (backOf (W := 2) (rm8 l Z a0 hw [] p2 p3 h0 n0 Z0 h1 h2) hZ (ow hw 42 rfl) (ow hw 36 rfl) (by decide) (by decide)) (g := (mkF m 4 #[Sr a1, Si p2, Si p3] [(.int p3), (.int p2), (.int p2), (.ref a1)])) rfl (by rw [hml]; rfl) (argsL := [(.int p2), (.int p3)]) (rest := [(.int p2), (.ref a1)]) (lenOf pd_1 rfl) rfl (by show 2 * 0 + _ ≤ _; exact Nat.le_of_eq rfl) (hb hby d7_4) (fun _ _ => ⟨rfl, e0, (by decide : 0 + 0 ≤ _), (by decide : 0 + 0 ≤ _)⟩)
  dsimp only [Pt.U, Pt.locs, Pt.cells, Pt.slots] at X51 l51 y51 z51 st51 hQ51
  subst y51 z51
  obtain ⟨rfl, Nq51, q51_0⟩ := hQ51
  have N52 := Eq.subst (motive := fun L => Fr n0 L) l51.symm (Fr.app N0 Nq51)
  obtain ⟨_, _, ⟨T53, L53, k53, n53⟩, -, X53, ⟨Lc53, hQ53, l53, y53, z53⟩, st53⟩ := X51.specialBack hx (y := (⟨"com/example/darlington/darlington/core/FiniteType", "<init>", "(II)V"⟩ : MethodName)) rfl hown (mvT hZ (ow hw 44 rfl)) (mvT hZ (ow hw 45 rfl)) (mvT hZ (ow hw 48 rfl)) (by decide) (backOf (W := 0) (rm9 l Z a0 hw [] a1 p2 (own_size p2 p3) u1 u2 h0 n0 Z0 E1 F1 F2 g1) hZ (ow hw 48 rfl) (ow hw 47 rfl) (by decide) (by decide)) (g := (mkF m 7 #[Sr a1, Si p2, Si p3] [(.int (own_size p2 p3)), (.int p2), (.ref a1)])) rfl (by rw [hml]; rfl) (Steps.refl _) (a := a1) (argsL := [(.int p2), (.int (own_size p2 p3))]) (rest := []) (lenOf pd_7 rfl) rfl (by show 2 * 0 + _ ≤ _; exact Nat.le_of_eq rfl) (hb hby d7_7) (fun _ _ => ⟨rfl, q51_0, (by decide : 0 + 0 ≤ _), (by decide : 0 + 0 ≤ _)⟩)
  dsimp only [Pt.U, Pt.locs, Pt.cells, Pt.slots] at X53 l53 y53 z53 st53 hQ53
  subst y53 z53
  obtain ⟨rfl, Nq53, q53_0, q53_1, q53_2⟩ := hQ53
  have N54 := Eq.subst (motive := fun L => Fr n0 L) l53.symm (Fr.app N52 Nq53)
  have KC55 : Keep h0 T53.heap [a1] := (Keep.refl h0 [a1]).trans q53_0 (allS (Or.inl (List.mem_of_getElem? (i := 0) rfl)) all0)
  have pre56 : ∀ t, Steps p.tables e below (T53.setTop (mkF m 10 #[Sr a1, Si p2, Si p3] [])) t → Steps p.tables e below (s₁.setTop (entryFrame m #[(.ref a1), (.int p2), (.int p3)] 3)) t := by
    intro t k
    refine pre0 t ?_
    refine XS.aloadN X0.here hx rfl (hb hby d7_0) rfl rfl ?_
    refine XS.iloadN X0.here hx rfl (hb hby d7_1) rfl ?_
    refine XS.iloadN X0.here hx rfl (hb hby d7_2) rfl ?_
    refine XS.iloadN X0.here hx rfl (hb hby d7_3) rfl ?_
    refine st51 _ ?_
    refine st53.trans ?_
    exact k
  obtain ⟨fs, hr, hrun, hended, hW, hsame⟩ := X53.leave (v := none) (fun _ => rfl)
  refine ⟨_, _, pre56 _ ?_, hrun, hended, _, _, rfl, ?_, ⟨_, rfl⟩, hW, hsame.mono (by decide) (by decide)⟩
  · exact X53.returnOut hx Bd.returns (hb hby d7_10) hr
  · show Q_rm7 Z a1 p2 p3 u1 u2 h0 n0 _ T53.heap _
    exact ⟨rfl, N54, KC55, q53_1, q53_2⟩
theorem d20_0 : decode prog_45_method_2_code 0 = .ok (.aload_n 0, 1) := by decide +kernel
theorem d20_1 : decode prog_45_method_2_code 1 = .ok (.getfield 13, 3) := by decide +kernel
theorem d20_4 : decode prog_45_method_2_code 4 = .ok (.ireturn, 1) := by decide +kernel
theorem ef_rm20 (m : MethodId) (x0 : Addr) : entryFrame m #[(.ref x0)] 1 = mkF m 0 #[Sr x0] [] := by first | (simp [entryFrame, mkF, argsToLocals, Value.category]; done) | rfl
def Q_rm20 (Z : State) (a1 : Addr) (z : Int32) (h0 : Heap) (n0 : Nat) (v : Option Value) (h : Heap) (L : List Loc) : Prop := v = some (.int z) ∧ Fr n0 L ∧ h = h0
set_option maxRecDepth 65536 in
set_option maxHeartbeats 40000000 in
theorem rm20 (l : Launch) (Z : State) (a0 : Array Value) (hw : ∀ d ∈ tables_1, d.before a0 Z = true) (ws : List Jvm.Cond) (a1 : Addr) (z : Int32) (h0 : Heap) (n0 : Nat) (Z0 : n0 ≤ h0.size) (F1 : Fld Z h0 a1 "com/example/darlington/darlington/core/FiniteType" "size" "I" (.int z)) :
    MetFree l (⟨"com/example/darlington/darlington/core/FiniteType", "size", "()I"⟩ : MethodName) (head1 (Jvm.Cond.code (⟨"com/example/darlington/darlington/core/FiniteType", "size", "()I"⟩ : MethodName) prog_45_method_2_code 1 (some .int) :: ws) ({ frames := 0, cells := 0, slots := 0, locals := 0 } : Room)) (fun a U => a = #[(.ref a1)] ∧ Z.Warmed39 U.vm ∧ U.heap = h0) (fun _ _ _ _ _ => True) (fun _ U o U' => ∃ v L, o = .returned v ∧ Q_rm20 Z a1 z h0 n0 v U'.heap L ∧ FrameEnd U o U' L ({ frames := 0, cells := 0, slots := 0, locals := 0 } : Room).cells ({ frames := 0, cells := 0, slots := 0, locals := 0 } : Room).slots) := by
  refine MetFree.of_bodySF (plainFor_of_name pn_5) hisR ?_
  intro p e s m args below meth c s₁ Bd hml0 hP hK
  obtain ⟨rfl, hZ, hh⟩ := hP
  have hx := Bd.exec
  have hby := Bd.bytes
  have hml : c.maxLocals = 1 := hml0
  have hown : s.vm.findClass "com/example/darlington/darlington/core/FiniteType" = some m.cls := findClass_of_methodNamed Bd.named
  have hnm := (name_of_methodNamed Bd.named Bd.method).1
  have X0 : Stand p l e ({ frames := 0, cells := 0, slots := 0, locals := 0 } : Room) s m #[(.ref a1)] below meth c s₁ [] 0 0 := Stand.of_body Bd
  have e0 : s₁.heap = h0 := by rw [← hh, Bd.state]; rfl
  have N0 := Fr.nil n0
  have pre0 : ∀ t, Steps p.tables e below (s₁.setTop (mkF m 0 #[Sr a1] [])) t → Steps p.tables e below (s₁.setTop (entryFrame m #[(.ref a1)] 1)) t := fun t k => castTop (ef_rm20 m a1) k
  obtain ⟨T51, X51, e51, st51⟩ := getF X0 hx hZ hown (host := "") (Or.inl (ow hw 52 rfl)) Via.refl e0 F1 (g := (mkF m 1 #[Sr a1] [(.ref a1)])) rfl rfl (hb hby d20_1)
  have pre52 : ∀ t, Steps p.tables e below (T51.setTop (mkF m 4 #[Sr a1] [(.int z)])) t → Steps p.tables e below (s₁.setTop (entryFrame m #[(.ref a1)] 1)) t := by
    intro t k
    refine pre0 t ?_
    refine XS.aloadN X0.here hx rfl (hb hby d20_0) rfl rfl ?_
    refine st51 _ ?_
    exact k
  obtain ⟨fs, hr, hrun, hended, hW, hsame⟩ := X51.leave (v := some (.int z)) (fun h => by rw [Bd.returns] at h; cases h)
  refine ⟨_, _, pre52 _ ?_, hrun, hended, _, _, rfl, ?_, ⟨_, rfl⟩, hW, hsame.mono (by decide) (by decide)⟩
  · exact retI X51 hx Bd.returns (hb hby d20_4) hr
  · show Q_rm20 Z a1 z h0 n0 _ T51.heap _
    rw [e51]
    exact ⟨rfl, N0, rfl⟩
def own_us (x : Int32) (k : Int32) : Int32 := ((x.toUInt32 >>> (k &&& 31).toUInt32).toInt32)
def own_x1 (x : Int32) : Int32 := if x < (65536 : Int32) then x else own_us x 16
def own_n1 (x : Int32) : Int32 := if x < (65536 : Int32) then (31 : Int32) else (15 : Int32)
def own_x2 (x : Int32) : Int32 := if own_x1 x < (256 : Int32) then own_x1 x else own_us (own_x1 x) 8
def own_n2 (x : Int32) : Int32 := if own_x1 x < (256 : Int32) then own_n1 x else (own_n1 x + (-8 : Int32))
def own_x3 (x : Int32) : Int32 := if own_x2 x < (16 : Int32) then own_x2 x else own_us (own_x2 x) 4
def own_n3 (x : Int32) : Int32 := if own_x2 x < (16 : Int32) then own_n2 x else (own_n2 x + (-4 : Int32))
def own_x4 (x : Int32) : Int32 := if own_x3 x < (4 : Int32) then own_x3 x else own_us (own_x3 x) 2
def own_n4 (x : Int32) : Int32 := if own_x3 x < (4 : Int32) then own_n3 x else (own_n3 x + (-2 : Int32))
def own_nlz (x : Int32) : Int32 := if (0 : Int32) < x then (own_n4 x - own_us (own_x4 x) 1) else (if x = (0 : Int32) then (32 : Int32) else (0 : Int32))
theorem d21_0 : decode jdk_33_method_47_code 0 = .ok (.iload_n 0, 1) := by decide +kernel
theorem d21_1 : decode jdk_33_method_47_code 1 = .ok (.ifCond .gt 14, 3) := by decide +kernel
theorem d21_15 : decode jdk_33_method_47_code 15 = .ok (.bipush 31, 2) := by decide +kernel
theorem d21_17 : decode jdk_33_method_47_code 17 = .ok (.istore_n 1, 1) := by decide +kernel
theorem d21_18 : decode jdk_33_method_47_code 18 = .ok (.iload_n 0, 1) := by decide +kernel
theorem d21_19 : decode jdk_33_method_47_code 19 = .ok (.ldc_w 264, 3) := by decide +kernel
theorem d21_22 : decode jdk_33_method_47_code 22 = .ok (.if_icmp .lt 11, 3) := by decide +kernel
theorem d21_25 : decode jdk_33_method_47_code 25 = .ok (.iinc 1 (-16), 3) := by decide +kernel
theorem d21_28 : decode jdk_33_method_47_code 28 = .ok (.iload_n 0, 1) := by decide +kernel
theorem d21_29 : decode jdk_33_method_47_code 29 = .ok (.bipush 16, 2) := by decide +kernel
theorem d21_31 : decode jdk_33_method_47_code 31 = .ok (.iushr, 1) := by decide +kernel
theorem d21_32 : decode jdk_33_method_47_code 32 = .ok (.istore_n 0, 1) := by decide +kernel
theorem d21_33 : decode jdk_33_method_47_code 33 = .ok (.iload_n 0, 1) := by decide +kernel
theorem d21_34 : decode jdk_33_method_47_code 34 = .ok (.sipush 256, 3) := by decide +kernel
theorem d21_37 : decode jdk_33_method_47_code 37 = .ok (.if_icmp .lt 11, 3) := by decide +kernel
theorem d21_40 : decode jdk_33_method_47_code 40 = .ok (.iinc 1 (-8), 3) := by decide +kernel
theorem d21_43 : decode jdk_33_method_47_code 43 = .ok (.iload_n 0, 1) := by decide +kernel
theorem d21_44 : decode jdk_33_method_47_code 44 = .ok (.bipush 8, 2) := by decide +kernel
theorem d21_46 : decode jdk_33_method_47_code 46 = .ok (.iushr, 1) := by decide +kernel
theorem d21_47 : decode jdk_33_method_47_code 47 = .ok (.istore_n 0, 1) := by decide +kernel
theorem d21_48 : decode jdk_33_method_47_code 48 = .ok (.iload_n 0, 1) := by decide +kernel
theorem d21_49 : decode jdk_33_method_47_code 49 = .ok (.bipush 16, 2) := by decide +kernel
theorem d21_51 : decode jdk_33_method_47_code 51 = .ok (.if_icmp .lt 10, 3) := by decide +kernel
theorem d21_54 : decode jdk_33_method_47_code 54 = .ok (.iinc 1 (-4), 3) := by decide +kernel
theorem d21_57 : decode jdk_33_method_47_code 57 = .ok (.iload_n 0, 1) := by decide +kernel
theorem d21_58 : decode jdk_33_method_47_code 58 = .ok (.iconst 4, 1) := by decide +kernel
theorem d21_59 : decode jdk_33_method_47_code 59 = .ok (.iushr, 1) := by decide +kernel
theorem d21_60 : decode jdk_33_method_47_code 60 = .ok (.istore_n 0, 1) := by decide +kernel
theorem d21_61 : decode jdk_33_method_47_code 61 = .ok (.iload_n 0, 1) := by decide +kernel
theorem d21_62 : decode jdk_33_method_47_code 62 = .ok (.iconst 4, 1) := by decide +kernel
theorem d21_63 : decode jdk_33_method_47_code 63 = .ok (.if_icmp .lt 10, 3) := by decide +kernel
theorem d21_66 : decode jdk_33_method_47_code 66 = .ok (.iinc 1 (-2), 3) := by decide +kernel
theorem d21_69 : decode jdk_33_method_47_code 69 = .ok (.iload_n 0, 1) := by decide +kernel
theorem d21_70 : decode jdk_33_method_47_code 70 = .ok (.iconst 2, 1) := by decide +kernel
theorem d21_71 : decode jdk_33_method_47_code 71 = .ok (.iushr, 1) := by decide +kernel
theorem d21_72 : decode jdk_33_method_47_code 72 = .ok (.istore_n 0, 1) := by decide +kernel
theorem d21_73 : decode jdk_33_method_47_code 73 = .ok (.iload_n 1, 1) := by decide +kernel
theorem d21_74 : decode jdk_33_method_47_code 74 = .ok (.iload_n 0, 1) := by decide +kernel
theorem d21_75 : decode jdk_33_method_47_code 75 = .ok (.iconst 1, 1) := by decide +kernel
theorem d21_76 : decode jdk_33_method_47_code 76 = .ok (.iushr, 1) := by decide +kernel
theorem d21_77 : decode jdk_33_method_47_code 77 = .ok (.isub, 1) := by decide +kernel
theorem d21_78 : decode jdk_33_method_47_code 78 = .ok (.ireturn, 1) := by decide +kernel
theorem d21_4 : decode jdk_33_method_47_code 4 = .ok (.iload_n 0, 1) := by decide +kernel
theorem d21_5 : decode jdk_33_method_47_code 5 = .ok (.ifCond .ne 8, 3) := by decide +kernel
theorem d21_8 : decode jdk_33_method_47_code 8 = .ok (.bipush 32, 2) := by decide +kernel
theorem d21_10 : decode jdk_33_method_47_code 10 = .ok (.goto 4, 3) := by decide +kernel
theorem d21_13 : decode jdk_33_method_47_code 13 = .ok (.iconst 0, 1) := by decide +kernel
theorem d21_14 : decode jdk_33_method_47_code 14 = .ok (.ireturn, 1) := by decide +kernel
theorem pn_7 : plainName "java/lang/Integer" = true := by first | (simp [plainName, overriddenIn]; done) | decide +kernel
theorem ef_rm21 (m : MethodId) (x0 : Int32) : entryFrame m #[(.int x0)] 2 = mkF m 0 #[Si x0, Su] [] := by first | (simp [entryFrame, mkF, argsToLocals, Value.category]; done) | rfl
def Q_rm21 (Z : State) (p1 : Int32) (h0 : Heap) (n0 : Nat) (v : Option Value) (h : Heap) (L : List Loc) : Prop := v = some (.int (own_nlz p1)) ∧ Fr n0 L ∧ h = h0
set_option maxRecDepth 65536 in
set_option maxHeartbeats 40000000 in
theorem rm21 (l : Launch) (Z : State) (a0 : Array Value) (hw : ∀ d ∈ tables_1, d.before a0 Z = true) (ws : List Jvm.Cond) (p1 : Int32) (h0 : Heap) (n0 : Nat) (Z0 : n0 ≤ h0.size) :
    MetFree l (⟨"java/lang/Integer", "numberOfLeadingZeros", "(I)I"⟩ : MethodName) (head1 (Jvm.Cond.code (⟨"java/lang/Integer", "numberOfLeadingZeros", "(I)I"⟩ : MethodName) jdk_33_method_47_code 2 (some .int) :: ws) ({ frames := 0, cells := 0, slots := 0, locals := 0 } : Room)) (fun a U => a = #[(.int p1)] ∧ Z.Warmed39 U.vm ∧ U.heap = h0) (fun _ _ _ _ _ => True) (fun _ U o U' => ∃ v L, o = .returned v ∧ Q_rm21 Z p1 h0 n0 v U'.heap L ∧ FrameEnd U o U' L ({ frames := 0, cells := 0, slots := 0, locals := 0 } : Room).cells ({ frames := 0, cells := 0, slots := 0, locals := 0 } : Room).slots) := by
  refine MetFree.of_bodySF (plainFor_of_name pn_7) hisR ?_
  intro p e s m args below meth c s₁ Bd hml0 hP hK
  obtain ⟨rfl, hZ, hh⟩ := hP
  have hx := Bd.exec
  have hby := Bd.bytes
  have hml : c.maxLocals = 2 := hml0
  have hown : s.vm.findClass "java/lang/Integer" = some m.cls := findClass_of_methodNamed Bd.named
  have hnm := (name_of_methodNamed Bd.named Bd.method).1
  have X0 : Stand p l e ({ frames := 0, cells := 0, slots := 0, locals := 0 } : Room) s m #[(.int p1)] below meth c s₁ [] 0 0 := Stand.of_body Bd
  have e0 : s₁.heap = h0 := by rw [← hh, Bd.state]; rfl
  have N0 := Fr.nil n0
  have pre0 : ∀ t, Steps p.tables e below (s₁.setTop (mkF m 0 #[Si p1, Su] [])) t → Steps p.tables e below (s₁.setTop (entryFrame m #[(.int p1)] 2)) t := fun t k => castTop (ef_rm21 m p1) k
  have pre51 : ∀ t, Steps p.tables e below (s₁.setTop (mkF m 1 #[Si p1, Su] [(.int p1)])) t → Steps p.tables e below (s₁.setTop (entryFrame m #[(.int p1)] 2)) t := by
    intro t k
    refine pre0 t ?_
    refine XS.iloadN X0.here hx rfl (hb hby d21_0) rfl ?_
    exact k
  by_cases hc52 : (0 : Int32) < p1
  · have pre56 : ∀ t, Steps p.tables e below (s₁.setTop (mkF m 33 #[Si (if p1 < (65536 : Int32) then p1 else ((p1.toUInt32 >>> ((16 : Int32) &&& 31).toUInt32).toInt32)), Si (if p1 < (65536 : Int32) then (31 : Int32) else (15 : Int32))] [])) t → Steps p.tables e below (s₁.setTop (entryFrame m #[(.int p1)] 2)) t := by
      intro t k
      refine pre51 t ?_
      refine XS.ifYes X0.here hx rfl (pc0 := 1) (pc' := 15) rfl (hb hby d21_1) rfl ((if0 _ _).trans (tlt hc52).2.2.1) (by decide) (by decide) ?_
      refine XS.bipush X0.here hx rfl (hb hby d21_15) ?_
      refine XS.istoreN X0.here hx rfl (hb hby d21_17) rfl (l' := #[Si p1, Si (31 : Int32)]) rfl ?_
      refine XS.iloadN X0.here hx rfl (hb hby d21_18) rfl ?_
      refine X0.ldcwInt hx hown (mvT hZ (ow hw 149 rfl)) (g := (mkF m 19 #[Si p1, Si (31 : Int32)] [(.int p1)])) rfl (hb hby d21_19) _ ?_
      by_cases hc53 : p1 < (65536 : Int32)
      · simp only [if_pos hc53] at k
        refine XS.icmpYes X0.here hx rfl (pc0 := 22) (pc' := 33) rfl (hb hby d21_22) rfl (tlt hc53).1 (by decide) (by decide) ?_
        exact k
      · simp only [if_neg hc53] at k
        refine XS.icmpNo X0.here hx rfl (hb hby d21_22) rfl (flt hc53).1 ?_
        refine XS.iinc X0.here hx rfl (hb hby d21_25) rfl (l' := #[Si p1, Si (15 : Int32)]) rfl ?_
        refine XS.iloadN X0.here hx rfl (hb hby d21_28) rfl ?_
        refine XS.bipush X0.here hx rfl (hb hby d21_29) ?_
        show Steps _ _ _ (s₁.setTop (mkF m 31 #[Si p1, Si (15 : Int32)] [(.int (16 : Int32)), (.int p1)])) _
        refine XS.iushr X0.here hx rfl (hb hby d21_31) rfl ?_
        refine XS.istoreN X0.here hx rfl (hb hby d21_32) rfl (l' := #[Si ((p1.toUInt32 >>> ((16 : Int32) &&& 31).toUInt32).toInt32), Si (15 : Int32)]) rfl ?_
        exact k
    obtain ⟨z54, hz54⟩ : ∃ z : Int32, z = (if p1 < (65536 : Int32) then p1 else ((p1.toUInt32 >>> ((16 : Int32) &&& 31).toUInt32).toInt32)) := ⟨_, rfl⟩
    rw [← hz54] at pre56
    obtain ⟨z55, hz55⟩ : ∃ z : Int32, z = (if p1 < (65536 : Int32) then (31 : Int32) else (15 : Int32)) := ⟨_, rfl⟩
    rw [← hz55] at pre56
    have pre60 : ∀ t, Steps p.tables e below (s₁.setTop (mkF m 48 #[Si (if z54 < (256 : Int32) then z54 else ((z54.toUInt32 >>> ((8 : Int32) &&& 31).toUInt32).toInt32)), Si (if z54 < (256 : Int32) then z55 else (z55 + (-8 : Int32)))] [])) t → Steps p.tables e below (s₁.setTop (entryFrame m #[(.int p1)] 2)) t := by
      intro t k
      refine pre56 t ?_
      refine XS.iloadN X0.here hx rfl (hb hby d21_33) rfl ?_
      refine XS.sipush X0.here hx rfl (hb hby d21_34) ?_
      by_cases hc57 : z54 < (256 : Int32)
      · simp only [if_pos hc57] at k
        refine XS.icmpYes X0.here hx rfl (pc0 := 37) (pc' := 48) rfl (hb hby d21_37) rfl (tlt hc57).1 (by decide) (by decide) ?_
        exact k
      · simp only [if_neg hc57] at k
        refine XS.icmpNo X0.here hx rfl (hb hby d21_37) rfl (flt hc57).1 ?_
        refine XS.iinc X0.here hx rfl (hb hby d21_40) rfl (l' := #[Si z54, Si (z55 + (-8 : Int32))]) rfl ?_
        show Steps _ _ _ (s₁.setTop (mkF m 43 #[Si z54, Si (z55 + (-8 : Int32))] [])) _
        refine XS.iloadN X0.here hx rfl (hb hby d21_43) rfl ?_
        refine XS.bipush X0.here hx rfl (hb hby d21_44) ?_
        refine XS.iushr X0.here hx rfl (hb hby d21_46) rfl ?_
        refine XS.istoreN X0.here hx rfl (hb hby d21_47) rfl (l' := #[Si ((z54.toUInt32 >>> ((8 : Int32) &&& 31).toUInt32).toInt32), Si (z55 + (-8 : Int32))]) rfl ?_
        exact k
    obtain ⟨z58, hz58⟩ : ∃ z : Int32, z = (if z54 < (256 : Int32) then z54 else ((z54.toUInt32 >>> ((8 : Int32) &&& 31).toUInt32).toInt32)) := ⟨_, rfl⟩
    rw [← hz58] at pre60
    obtain ⟨z59, hz59⟩ : ∃ z : Int32, z = (if z54 < (256 : Int32) then z55 else (z55 + (-8 : Int32))) := ⟨_, rfl⟩
    rw [← hz59] at pre60
    have pre64 : ∀ t, Steps p.tables e below (s₁.setTop (mkF m 61 #[Si (if z58 < (16 : Int32) then z58 else ((z58.toUInt32 >>> ((4 : Int32) &&& 31).toUInt32).toInt32)), Si (if z58 < (16 : Int32) then z59 else (z59 + (-4 : Int32)))] [])) t → Steps p.tables e below (s₁.setTop (entryFrame m #[(.int p1)] 2)) t := by
      intro t k
      refine pre60 t ?_
      refine XS.iloadN X0.here hx rfl (hb hby d21_48) rfl ?_
      refine XS.bipush X0.here hx rfl (hb hby d21_49) ?_
      show Steps _ _ _ (s₁.setTop (mkF m 51 #[Si z58, Si z59] [(.int (16 : Int32)), (.int z58)])) _
      by_cases hc61 : z58 < (16 : Int32)
      · simp only [if_pos hc61] at k
        refine XS.icmpYes X0.here hx rfl (pc0 := 51) (pc' := 61) rfl (hb hby d21_51) rfl (tlt hc61).1 (by decide) (by decide) ?_
        exact k
      · simp only [if_neg hc61] at k
        refine XS.icmpNo X0.here hx rfl (hb hby d21_51) rfl (flt hc61).1 ?_
        refine XS.iinc X0.here hx rfl (hb hby d21_54) rfl (l' := #[Si z58, Si (z59 + (-4 : Int32))]) rfl ?_
        refine XS.iloadN X0.here hx rfl (hb hby d21_57) rfl ?_
        refine XS.iconst X0.here hx rfl (hb hby d21_58) ?_
        refine XS.iushr X0.here hx rfl (hb hby d21_59) rfl ?_
        refine XS.istoreN X0.here hx rfl (hb hby d21_60) rfl (l' := #[Si ((z58.toUInt32 >>> ((4 : Int32) &&& 31).toUInt32).toInt32), Si (z59 + (-4 : Int32))]) rfl ?_
        exact k
    obtain ⟨z62, hz62⟩ : ∃ z : Int32, z = (if z58 < (16 : Int32) then z58 else ((z58.toUInt32 >>> ((4 : Int32) &&& 31).toUInt32).toInt32)) := ⟨_, rfl⟩
    rw [← hz62] at pre64
    obtain ⟨z63, hz63⟩ : ∃ z : Int32, z = (if z58 < (16 : Int32) then z59 else (z59 + (-4 : Int32))) := ⟨_, rfl⟩
    rw [← hz63] at pre64
    have pre68 : ∀ t, Steps p.tables e below (s₁.setTop (mkF m 73 #[Si (if z62 < (4 : Int32) then z62 else ((z62.toUInt32 >>> ((2 : Int32) &&& 31).toUInt32).toInt32)), Si (if z62 < (4 : Int32) then z63 else (z63 + (-2 : Int32)))] [])) t → Steps p.tables e below (s₁.setTop (entryFrame m #[(.int p1)] 2)) t := by
      intro t k
      refine pre64 t ?_
      refine XS.iloadN X0.here hx rfl (hb hby d21_61) rfl ?_
      refine XS.iconst X0.here hx rfl (hb hby d21_62) ?_
      by_cases hc65 : z62 < (4 : Int32)
      · simp only [if_pos hc65] at k
        refine XS.icmpYes X0.here hx rfl (pc0 := 63) (pc' := 73) rfl (hb hby d21_63) rfl (tlt hc65).1 (by decide) (by decide) ?_
        exact k
      · simp only [if_neg hc65] at k
        refine XS.icmpNo X0.here hx rfl (hb hby d21_63) rfl (flt hc65).1 ?_
        refine XS.iinc X0.here hx rfl (hb hby d21_66) rfl (l' := #[Si z62, Si (z63 + (-2 : Int32))]) rfl ?_
        refine XS.iloadN X0.here hx rfl (hb hby d21_69) rfl ?_
        refine XS.iconst X0.here hx rfl (hb hby d21_70) ?_
        refine XS.iushr X0.here hx rfl (hb hby d21_71) rfl ?_
        refine XS.istoreN X0.here hx rfl (hb hby d21_72) rfl (l' := #[Si ((z62.toUInt32 >>> ((2 : Int32) &&& 31).toUInt32).toInt32), Si (z63 + (-2 : Int32))]) rfl ?_
        exact k
    obtain ⟨z66, hz66⟩ : ∃ z : Int32, z = (if z62 < (4 : Int32) then z62 else ((z62.toUInt32 >>> ((2 : Int32) &&& 31).toUInt32).toInt32)) := ⟨_, rfl⟩
    rw [← hz66] at pre68
    obtain ⟨z67, hz67⟩ : ∃ z : Int32, z = (if z62 < (4 : Int32) then z63 else (z63 + (-2 : Int32))) := ⟨_, rfl⟩
    rw [← hz67] at pre68
    have pre69 : ∀ t, Steps p.tables e below (s₁.setTop (mkF m 78 #[Si z66, Si z67] [(.int (z67 - ((z66.toUInt32 >>> ((1 : Int32) &&& 31).toUInt32).toInt32)))])) t → Steps p.tables e below (s₁.setTop (entryFrame m #[(.int p1)] 2)) t := by
      intro t k
      refine pre68 t ?_
      refine XS.iloadN X0.here hx rfl (hb hby d21_73) rfl ?_
      refine XS.iloadN X0.here hx rfl (hb hby d21_74) rfl ?_
      refine XS.iconst X0.here hx rfl (hb hby d21_75) ?_
      refine XS.iushr X0.here hx rfl (hb hby d21_76) rfl ?_
      refine XS.isub X0.here hx rfl (hb hby d21_77) rfl ?_
      exact k
    obtain ⟨fs, hr, hrun, hended, hW, hsame⟩ := X0.leave (v := some (.int (z67 - ((z66.toUInt32 >>> ((1 : Int32) &&& 31).toUInt32).toInt32)))) (fun h => by rw [Bd.returns] at h; cases h)
    refine ⟨_, _, pre69 _ ?_, hrun, hended, _, _, rfl, ?_, ⟨_, rfl⟩, hW, hsame.mono (by decide) (by decide)⟩
    · exact retI X0 hx Bd.returns (hb hby d21_78) hr
    · show Q_rm21 Z p1 h0 n0 _ s₁.heap _
      rw [e0]
      have hv70 : (z67 - ((z66.toUInt32 >>> ((1 : Int32) &&& 31).toUInt32).toInt32)) = (own_nlz p1) := by
        unfold own_nlz
        simp only [if_pos hc52]
        subst hz67
        subst hz66
        subst hz63
        subst hz62
        subst hz59
        subst hz58
        subst hz55
        subst hz54
        rfl
      exact ⟨(congrArg (fun z => some (Value.int z)) hv70), N0, rfl⟩
  · have pre73 : ∀ t, Steps p.tables e below (s₁.setTop (mkF m 14 #[Si p1, Su] [(.int (if p1 = (0 : Int32) then (32 : Int32) else (0 : Int32)))])) t → Steps p.tables e below (s₁.setTop (entryFrame m #[(.int p1)] 2)) t := by
      intro t k
      refine pre51 t ?_
      refine XS.ifNo X0.here hx rfl (hb hby d21_1) rfl ((if0 _ _).trans (flt hc52).2.2.1) ?_
      refine XS.iloadN X0.here hx rfl (hb hby d21_4) rfl ?_
      by_cases hc71 : p1 = (0 : Int32)
      · simp only [if_pos hc71] at k
        refine XS.ifNo X0.here hx rfl (hb hby d21_5) rfl ((if0 _ _).trans (teq hc71).2) ?_
        refine XS.bipush X0.here hx rfl (hb hby d21_8) ?_
        refine XS.goto X0.here hx rfl (pc0 := 10) (pc' := 14) rfl (hb hby d21_10) (by decide) (by decide) ?_
        exact k
      · simp only [if_neg hc71] at k
        refine XS.ifYes X0.here hx rfl (pc0 := 5) (pc' := 13) rfl (hb hby d21_5) rfl ((if0 _ _).trans (feq hc71).2) (by decide) (by decide) ?_
        refine XS.iconst X0.here hx rfl (hb hby d21_13) ?_
        exact k
    obtain ⟨z72, hz72⟩ : ∃ z : Int32, z = (if p1 = (0 : Int32) then (32 : Int32) else (0 : Int32)) := ⟨_, rfl⟩
    rw [← hz72] at pre73
    obtain ⟨fs, hr, hrun, hended, hW, hsame⟩ := X0.leave (v := some (.int z72)) (fun h => by rw [Bd.returns] at h; cases h)
    refine ⟨_, _, pre73 _ ?_, hrun, hended, _, _, rfl, ?_, ⟨_, rfl⟩, hW, hsame.mono (by decide) (by decide)⟩
    · exact retI X0 hx Bd.returns (hb hby d21_14) hr
    · show Q_rm21 Z p1 h0 n0 _ s₁.heap _
      rw [e0]
      have hv74 : z72 = (own_nlz p1) := by
        unfold own_nlz
        simp only [if_neg hc52]
        subst hz72
        rfl
      exact ⟨(congrArg (fun z => some (Value.int z)) hv74), N0, rfl⟩
theorem d22_0 : decode prog_45_method_3_code 0 = .ok (.aload_n 0, 1) := by decide +kernel
theorem d22_1 : decode prog_45_method_3_code 1 = .ok (.getfield 7, 3) := by decide +kernel
theorem d22_4 : decode prog_45_method_3_code 4 = .ok (.iload_n 1, 1) := by decide +kernel
theorem d22_5 : decode prog_45_method_3_code 5 = .ok (.aload_n 0, 1) := by decide +kernel
theorem d22_6 : decode prog_45_method_3_code 6 = .ok (.getfield 13, 3) := by decide +kernel
theorem d22_9 : decode prog_45_method_3_code 9 = .ok (.invokestatic 16, 3) := by decide +kernel
theorem d22_12 : decode prog_45_method_3_code 12 = .ok (.iadd, 1) := by decide +kernel
theorem d22_13 : decode prog_45_method_3_code 13 = .ok (.ireturn, 1) := by decide +kernel
theorem ef_rm22 (m : MethodId) (x0 : Addr) : entryFrame m #[(.ref x0), (.int (0 : Int32))] 2 = mkF m 0 #[Sr x0, Si (0 : Int32)] [] := by first | (simp [entryFrame, mkF, argsToLocals, Value.category]; done) | rfl
def Q_rm22 (Z : State) (a1 : Addr) (f : Int32) (z : Int32) (h0 : Heap) (n0 : Nat) (v : Option Value) (h : Heap) (L : List Loc) : Prop := v = some (.int (f + (0 : Int32))) ∧ Fr n0 L ∧ h = h0
set_option maxRecDepth 65536 in
set_option maxHeartbeats 40000000 in
theorem rm22 (l : Launch) (Z : State) (a0 : Array Value) (hw : ∀ d ∈ tables_1, d.before a0 Z = true) (ws : List Jvm.Cond) (a1 : Addr) (f : Int32) (z : Int32) (h0 : Heap) (n0 : Nat) (Z0 : n0 ≤ h0.size) (F1 : Fld Z h0 a1 "com/example/darlington/darlington/core/FiniteType" "first" "I" (.int f)) (F2 : Fld Z h0 a1 "com/example/darlington/darlington/core/FiniteType" "size" "I" (.int z)) (hz : (0 : Int32) < z) :
    MetFree l (⟨"com/example/darlington/darlington/core/FiniteType", "valueAt", "(I)I"⟩ : MethodName) (head1 (Jvm.Cond.code (⟨"com/example/darlington/darlington/core/FiniteType", "valueAt", "(I)I"⟩ : MethodName) prog_45_method_3_code 2 (some .int) :: ws) ({ frames := 2, cells := 0, slots := 0, locals := 28 } : Room)) (fun a U => a = #[(.ref a1), (.int (0 : Int32))] ∧ Z.Warmed39 U.vm ∧ U.heap = h0) (fun _ _ _ _ _ => True) (fun _ U o U' => ∃ v L, o = .returned v ∧ Q_rm22 Z a1 f z h0 n0 v U'.heap L ∧ FrameEnd U o U' L ({ frames := 2, cells := 0, slots := 0, locals := 28 } : Room).cells ({ frames := 2, cells := 0, slots := 0, locals := 28 } : Room).slots) := by
  refine MetFree.of_bodySF (plainFor_of_name pn_5) hisR ?_
  intro p e s m args below meth c s₁ Bd hml0 hP hK
  obtain ⟨rfl, hZ, hh⟩ := hP
  have hx := Bd.exec
  have hby := Bd.bytes
  have hml : c.maxLocals = 2 := hml0
  have hown : s.vm.findClass "com/example/darlington/darlington/core/FiniteType" = some m.cls := findClass_of_methodNamed Bd.named
  have hnm := (name_of_methodNamed Bd.named Bd.method).1
  have X0 : Stand p l e ({ frames := 2, cells := 0, slots := 0, locals := 28 } : Room) s m #[(.ref a1), (.int (0 : Int32))] below meth c s₁ [] 0 0 := Stand.of_body Bd
  have e0 : s₁.heap = h0 := by rw [← hh, Bd.state]; rfl
  have N0 := Fr.nil n0
  have pre0 : ∀ t, Steps p.tables e below (s₁.setTop (mkF m 0 #[Sr a1, Si (0 : Int32)] [])) t → Steps p.tables e below (s₁.setTop (entryFrame m #[(.ref a1), (.int (0 : Int32))] 2)) t := fun t k => castTop (ef_rm22 m a1) k
  obtain ⟨T51, X51, e51, st51⟩ := getF X0 hx hZ hown (host := "") (Or.inl (ow hw 50 rfl)) Via.refl e0 F1 (g := (mkF m 1 #[Sr a1, Si (0 : Int32)] [(.ref a1)])) rfl rfl (hb hby d22_1)
  obtain ⟨T52, X52, e52, st52⟩ := getF X51 hx hZ hown (host := "") (Or.inl (ow hw 52 rfl)) Via.refl e51 F2 (g := (mkF m 6 #[Sr a1, Si (0 : Int32)] [(.ref a1), (.int (0 : Int32)), (.int f)])) rfl rfl (hb hby d22_6)
  obtain ⟨_, _, ⟨T53, L53, k53, n53⟩, -, X53, ⟨Lc53, hQ53, l53, y53, z53⟩, st53⟩ := Jvm.LawKit.callS X52 hx (y := (⟨"java/util/Objects", "checkIndex", "(II)I"⟩ : MethodName)) hown (mvT hZ (ow hw 148 rfl)) (mvT hZ (ow hw 120 rfl)) (mvT hZ (ow hw 121 rfl)) (mvT hZ (ow hw 122 rfl)) (by decide) (backOf (W := 1) (rm17 l Z a0 hw [] (0 : Int32) z h0 n0 Z0 (by decide) hz) hZ (ow hw 122 rfl) (ow hw 121 rfl) (by decide) (by decide)) (g := (mkF m 9 #[Sr a1, Si (0 : Int32)] [(.int z), (.int (0 : Int32)), (.int f)])) rfl (by rw [hml]; rfl) (argsL := [(.int (0 : Int32)), (.int z)]) (rest := [(.int f)]) (lenOf pd_1 rfl) rfl (by show 2 * 0 + _ ≤ _; exact Nat.le_of_eq rfl) (hb hby d22_9) (fun _ _ => ⟨rfl, e52, (by decide : 0 + 0 ≤ _), (by decide : 0 + 0 ≤ _)⟩)
  dsimp only [Pt.U, Pt.locs, Pt.cells, Pt.slots] at X53 l53 y53 z53 st53 hQ53
  subst y53 z53
  obtain ⟨rfl, Nq53, q53_0⟩ := hQ53
  have N54 := Eq.subst (motive := fun L => Fr n0 L) l53.symm (Fr.app N0 Nq53)
  have pre55 : ∀ t, Steps p.tables e below (T53.setTop (mkF m 13 #[Sr a1, Si (0 : Int32)] [(.int (f + (0 : Int32)))])) t → Steps p.tables e below (s₁.setTop (entryFrame m #[(.ref a1), (.int (0 : Int32))] 2)) t := by
    intro t k
    refine pre0 t ?_
    refine XS.aloadN X0.here hx rfl (hb hby d22_0) rfl rfl ?_
    refine st51 _ ?_
    refine XS.iloadN X51.here hx rfl (hb hby d22_4) rfl ?_
    refine XS.aloadN X51.here hx rfl (hb hby d22_5) rfl rfl ?_
    refine st52 _ ?_
    refine st53 _ ?_
    refine XS.iadd X53.here hx rfl (hb hby d22_12) rfl ?_
    exact k
  obtain ⟨fs, hr, hrun, hended, hW, hsame⟩ := X53.leave (v := some (.int (f + (0 : Int32)))) (fun h => by rw [Bd.returns] at h; cases h)
  refine ⟨_, _, pre55 _ ?_, hrun, hended, _, _, rfl, ?_, ⟨_, rfl⟩, hW, hsame.mono (by decide) (by decide)⟩
  · exact retI X53 hx Bd.returns (hb hby d22_13) hr
  · show Q_rm22 Z a1 f z h0 n0 _ T53.heap _
    rw [q53_0]
    exact ⟨rfl, N54, rfl⟩
def own_bits (z : Int32) : Int32 := ((32 : Int32) - own_nlz (z - (1 : Int32)))
def own_msk (z : Int32) : Int64 := (((1 : Int64) <<< ((own_bits z) &&& 0x3f).toInt64) - (1 : Int64))
def own_w2 (z0 z1 z2 : Int32) : Int32 := if (64 : Int32) < ((((1 : Int32) + (own_bits z0)) + (own_bits z1)) + (own_bits z2)) then (1 : Int32) else (0 : Int32)
def own_s2 (z0 z1 z2 : Int32) : Int32 := if (64 : Int32) < ((((1 : Int32) + (own_bits z0)) + (own_bits z1)) + (own_bits z2)) then (0 : Int32) else (((1 : Int32) + (own_bits z0)) + (own_bits z1))
theorem d14_0 : decode prog_74_method_1_code 0 = .ok (.aload_n 0, 1) := by decide +kernel
theorem d14_1 : decode prog_74_method_1_code 1 = .ok (.invokespecial 1, 3) := by decide +kernel
theorem d14_4 : decode prog_74_method_1_code 4 = .ok (.aload_n 1, 1) := by decide +kernel
theorem pd_8 : parseMethodDescriptor "()I" = some ⟨[], some .int⟩ := by decide +kernel
theorem d14_5 : decode prog_74_method_1_code 5 = .ok (.invokeinterface 7 1, 5) := by decide +kernel
theorem d14_10 : decode prog_74_method_1_code 10 = .ok (.istore_n 2, 1) := by decide +kernel
theorem d14_11 : decode prog_74_method_1_code 11 = .ok (.aload_n 0, 1) := by decide +kernel
theorem d14_12 : decode prog_74_method_1_code 12 = .ok (.iload_n 2, 1) := by decide +kernel
theorem d14_13 : decode prog_74_method_1_code 13 = .ok (.newarray .int, 2) := by decide +kernel
theorem d14_15 : decode prog_74_method_1_code 15 = .ok (.putfield 13, 3) := by decide +kernel
theorem d14_18 : decode prog_74_method_1_code 18 = .ok (.aload_n 0, 1) := by decide +kernel
theorem d14_19 : decode prog_74_method_1_code 19 = .ok (.iload_n 2, 1) := by decide +kernel
theorem d14_20 : decode prog_74_method_1_code 20 = .ok (.newarray .int, 2) := by decide +kernel
theorem d14_22 : decode prog_74_method_1_code 22 = .ok (.putfield 19, 3) := by decide +kernel
theorem d14_25 : decode prog_74_method_1_code 25 = .ok (.aload_n 0, 1) := by decide +kernel
theorem d14_26 : decode prog_74_method_1_code 26 = .ok (.iload_n 2, 1) := by decide +kernel
theorem d14_27 : decode prog_74_method_1_code 27 = .ok (.newarray .long, 2) := by decide +kernel
theorem d14_29 : decode prog_74_method_1_code 29 = .ok (.putfield 22, 3) := by decide +kernel
theorem d14_32 : decode prog_74_method_1_code 32 = .ok (.aload_n 0, 1) := by decide +kernel
theorem d14_33 : decode prog_74_method_1_code 33 = .ok (.iload_n 2, 1) := by decide +kernel
theorem d14_34 : decode prog_74_method_1_code 34 = .ok (.newarray .int, 2) := by decide +kernel
theorem d14_36 : decode prog_74_method_1_code 36 = .ok (.putfield 26, 3) := by decide +kernel
theorem d14_39 : decode prog_74_method_1_code 39 = .ok (.iconst 0, 1) := by decide +kernel
theorem d14_40 : decode prog_74_method_1_code 40 = .ok (.istore_n 3, 1) := by decide +kernel
theorem d14_41 : decode prog_74_method_1_code 41 = .ok (.iconst 1, 1) := by decide +kernel
theorem d14_42 : decode prog_74_method_1_code 42 = .ok (.istore 4, 2) := by decide +kernel
theorem d14_44 : decode prog_74_method_1_code 44 = .ok (.iconst 0, 1) := by decide +kernel
theorem d14_45 : decode prog_74_method_1_code 45 = .ok (.istore 5, 2) := by decide +kernel
theorem d14_47 : decode prog_74_method_1_code 47 = .ok (.iload 5, 2) := by decide +kernel
theorem d14_49 : decode prog_74_method_1_code 49 = .ok (.iload_n 2, 1) := by decide +kernel
theorem d14_50 : decode prog_74_method_1_code 50 = .ok (.if_icmp .ge 103, 3) := by decide +kernel
theorem d14_53 : decode prog_74_method_1_code 53 = .ok (.aload_n 1, 1) := by decide +kernel
theorem d14_54 : decode prog_74_method_1_code 54 = .ok (.iload 5, 2) := by decide +kernel
theorem d14_56 : decode prog_74_method_1_code 56 = .ok (.invokeinterface 29 2, 5) := by decide +kernel
theorem d14_61 : decode prog_74_method_1_code 61 = .ok (.checkcast 33, 3) := by decide +kernel
theorem d14_64 : decode prog_74_method_1_code 64 = .ok (.astore 6, 2) := by decide +kernel
theorem d14_66 : decode prog_74_method_1_code 66 = .ok (.bipush 32, 2) := by decide +kernel
theorem d14_68 : decode prog_74_method_1_code 68 = .ok (.aload 6, 2) := by decide +kernel
theorem d14_70 : decode prog_74_method_1_code 70 = .ok (.invokevirtual 37, 3) := by decide +kernel
theorem d14_73 : decode prog_74_method_1_code 73 = .ok (.iconst 1, 1) := by decide +kernel
theorem d14_74 : decode prog_74_method_1_code 74 = .ok (.isub, 1) := by decide +kernel
theorem pd_9 : parseMethodDescriptor "(I)I" = some ⟨[.int], some .int⟩ := by decide +kernel
theorem d14_75 : decode prog_74_method_1_code 75 = .ok (.invokestatic 38, 3) := by decide +kernel
theorem d14_78 : decode prog_74_method_1_code 78 = .ok (.isub, 1) := by decide +kernel
theorem d14_79 : decode prog_74_method_1_code 79 = .ok (.istore 7, 2) := by decide +kernel
theorem d14_81 : decode prog_74_method_1_code 81 = .ok (.iload 4, 2) := by decide +kernel
theorem d14_83 : decode prog_74_method_1_code 83 = .ok (.iload 7, 2) := by decide +kernel
theorem d14_85 : decode prog_74_method_1_code 85 = .ok (.iadd, 1) := by decide +kernel
theorem d14_86 : decode prog_74_method_1_code 86 = .ok (.bipush 64, 2) := by decide +kernel
theorem d14_88 : decode prog_74_method_1_code 88 = .ok (.if_icmp .le 9, 3) := by decide +kernel
theorem d14_97 : decode prog_74_method_1_code 97 = .ok (.aload_n 0, 1) := by decide +kernel
theorem d14_98 : decode prog_74_method_1_code 98 = .ok (.getfield 13, 3) := by decide +kernel
theorem d14_101 : decode prog_74_method_1_code 101 = .ok (.iload 5, 2) := by decide +kernel
theorem d14_103 : decode prog_74_method_1_code 103 = .ok (.iload_n 3, 1) := by decide +kernel
theorem d14_104 : decode prog_74_method_1_code 104 = .ok (.iastore, 1) := by decide +kernel
theorem d14_105 : decode prog_74_method_1_code 105 = .ok (.aload_n 0, 1) := by decide +kernel
theorem d14_106 : decode prog_74_method_1_code 106 = .ok (.getfield 19, 3) := by decide +kernel
theorem d14_109 : decode prog_74_method_1_code 109 = .ok (.iload 5, 2) := by decide +kernel
theorem d14_111 : decode prog_74_method_1_code 111 = .ok (.iload 4, 2) := by decide +kernel
theorem d14_113 : decode prog_74_method_1_code 113 = .ok (.iastore, 1) := by decide +kernel
theorem d14_114 : decode prog_74_method_1_code 114 = .ok (.aload_n 0, 1) := by decide +kernel
theorem d14_115 : decode prog_74_method_1_code 115 = .ok (.getfield 22, 3) := by decide +kernel
theorem d14_118 : decode prog_74_method_1_code 118 = .ok (.iload 5, 2) := by decide +kernel
theorem d14_120 : decode prog_74_method_1_code 120 = .ok (.lconst 1, 1) := by decide +kernel
theorem d14_121 : decode prog_74_method_1_code 121 = .ok (.iload 7, 2) := by decide +kernel
theorem d14_123 : decode prog_74_method_1_code 123 = .ok (.lshl, 1) := by decide +kernel
theorem d14_124 : decode prog_74_method_1_code 124 = .ok (.lconst 1, 1) := by decide +kernel
theorem d14_125 : decode prog_74_method_1_code 125 = .ok (.lsub, 1) := by decide +kernel
theorem d14_126 : decode prog_74_method_1_code 126 = .ok (.lastore, 1) := by decide +kernel
theorem d14_127 : decode prog_74_method_1_code 127 = .ok (.aload_n 0, 1) := by decide +kernel
theorem d14_128 : decode prog_74_method_1_code 128 = .ok (.getfield 26, 3) := by decide +kernel
theorem d14_131 : decode prog_74_method_1_code 131 = .ok (.iload 5, 2) := by decide +kernel
theorem d14_133 : decode prog_74_method_1_code 133 = .ok (.aload 6, 2) := by decide +kernel
theorem d14_135 : decode prog_74_method_1_code 135 = .ok (.iconst 0, 1) := by decide +kernel
theorem d14_136 : decode prog_74_method_1_code 136 = .ok (.invokevirtual 44, 3) := by decide +kernel
theorem d14_139 : decode prog_74_method_1_code 139 = .ok (.iastore, 1) := by decide +kernel
theorem d14_140 : decode prog_74_method_1_code 140 = .ok (.iload 4, 2) := by decide +kernel
theorem d14_142 : decode prog_74_method_1_code 142 = .ok (.iload 7, 2) := by decide +kernel
theorem d14_144 : decode prog_74_method_1_code 144 = .ok (.iadd, 1) := by decide +kernel
theorem d14_145 : decode prog_74_method_1_code 145 = .ok (.istore 4, 2) := by decide +kernel
theorem d14_147 : decode prog_74_method_1_code 147 = .ok (.iinc 5 1, 3) := by decide +kernel
theorem d14_150 : decode prog_74_method_1_code 150 = .ok (.goto (-103), 3) := by decide +kernel
theorem d14_91 : decode prog_74_method_1_code 91 = .ok (.iinc 3 1, 3) := by decide +kernel
theorem d14_94 : decode prog_74_method_1_code 94 = .ok (.iconst 0, 1) := by decide +kernel
theorem d14_95 : decode prog_74_method_1_code 95 = .ok (.istore 4, 2) := by decide +kernel
theorem d14_153 : decode prog_74_method_1_code 153 = .ok (.aload_n 0, 1) := by decide +kernel
theorem d14_154 : decode prog_74_method_1_code 154 = .ok (.iload_n 3, 1) := by decide +kernel
theorem d14_155 : decode prog_74_method_1_code 155 = .ok (.iconst 1, 1) := by decide +kernel
theorem d14_156 : decode prog_74_method_1_code 156 = .ok (.iadd, 1) := by decide +kernel
theorem d14_157 : decode prog_74_method_1_code 157 = .ok (.putfield 47, 3) := by decide +kernel
theorem d14_160 : decode prog_74_method_1_code 160 = .ok (.return_, 1) := by decide +kernel
theorem pn_8 : plainName "com/example/darlington/darlington/core/StateLayout" = true := by first | (simp [plainName, overriddenIn]; done) | decide +kernel
theorem ef_rm_lay (m : MethodId) (x0 : Addr) (x1 : Addr) : entryFrame m #[(.ref x0), (.ref x1)] 8 = mkF m 0 #[Sr x0, Sr x1, Su, Su, Su, Su, Su, Su] [] := by first | (simp [entryFrame, mkF, argsToLocals, Value.category]; done) | rfl
def Q_rm_lay (Z : State) (a1 : Addr) (a2 : Addr) (a3 : Addr) (k3 : ClassId) (x0 : Addr) (x1 : Addr) (x2 : Addr) (f0 : Int32) (f1 : Int32) (f2 : Int32) (z0 : Int32) (z1 : Int32) (z2 : Int32) (h0 : Heap) (n0 : Nat) (v : Option Value) (h : Heap) (L : List Loc) : Prop := ∃ (r1 : Addr) (r2 : Addr) (r3 : Addr) (r4 : Addr) (c1 : ClassId) (c2 : ClassId) (c3 : ClassId) (c4 : ClassId), v = none ∧ Fr n0 L ∧ Keep h0 h [a1] ∧ h0.size ≤ r1 ∧ Arv Z h r1 c1 .int (3 : Int32) [(.int (0 : Int32)), (.int (0 : Int32)), (.int (own_w2 z0 z1 z2))] (.int (0 : Int32)) ∧ Fld Z h a1 "com/example/darlington/darlington/core/StateLayout" "wordOf" "[I" (.ref r1) ∧ h0.size ≤ r2 ∧ Arv Z h r2 c2 .int (3 : Int32) [(.int (1 : Int32)), (.int ((1 : Int32) + (own_bits z0))), (.int (own_s2 z0 z1 z2))] (.int (0 : Int32)) ∧ Fld Z h a1 "com/example/darlington/darlington/core/StateLayout" "shiftOf" "[I" (.ref r2) ∧ h0.size ≤ r3 ∧ Arv Z h r3 c3 .long (3 : Int32) [(.long (own_msk z0)), (.long (own_msk z1)), (.long (own_msk z2))] (.long (0 : Int64)) ∧ Fld Z h a1 "com/example/darlington/darlington/core/StateLayout" "maskOf" "[J" (.ref r3) ∧ h0.size ≤ r4 ∧ Arv Z h r4 c4 .int (3 : Int32) [(.int (f0 + (0 : Int32))), (.int (f1 + (0 : Int32))), (.int (f2 + (0 : Int32)))] (.int (0 : Int32)) ∧ Fld Z h a1 "com/example/darlington/darlington/core/StateLayout" "firstOf" "[I" (.ref r4) ∧ Fld Z h a1 "com/example/darlington/darlington/core/StateLayout" "wordsPerState" "I" (.int ((own_w2 z0 z1 z2) + (1 : Int32)))
set_option maxRecDepth 65536 in
set_option maxHeartbeats 40000000 in
theorem rm_lay (l : Launch) (Z : State) (a0 : Array Value) (hw : ∀ d ∈ tables_1, d.before a0 Z = true) (ws : List Jvm.Cond) (a1 : Addr) (a2 : Addr) (a3 : Addr) (k3 : ClassId) (x0 : Addr) (x1 : Addr) (x2 : Addr) (f0 : Int32) (f1 : Int32) (f2 : Int32) (z0 : Int32) (z1 : Int32) (z2 : Int32) (h0 : Heap) (n0 : Nat) (Z0 : n0 ≤ h0.size) (E1 : Exa Z h0 a1 "com/example/darlington/darlington/core/StateLayout") (g1 : n0 ≤ a1) (U0 : Fld Z h0 a1 "com/example/darlington/darlington/core/StateLayout" "wordOf" "[I" .null) (U1 : Fld Z h0 a1 "com/example/darlington/darlington/core/StateLayout" "shiftOf" "[I" .null) (U2 : Fld Z h0 a1 "com/example/darlington/darlington/core/StateLayout" "maskOf" "[J" .null) (U3 : Fld Z h0 a1 "com/example/darlington/darlington/core/StateLayout" "firstOf" "[I" .null) (U4 : Fld Z h0 a1 "com/example/darlington/darlington/core/StateLayout" "wordsPerState" "I" (.int (0 : Int32))) (Es : Exa Z h0 a2 "java/util/ArrayList") (Fs : Fld Z h0 a2 "java/util/ArrayList" "size" "I" (.int (3 : Int32))) (Fd : Fld Z h0 a2 "java/util/ArrayList" "elementData" "[Ljava/lang/Object;" (.ref a3)) (V3 : Arv Z h0 a3 k3 (.object "java/lang/Object") (10 : Int32) [(.ref x0), (.ref x1), (.ref x2), .null, .null, .null, .null, .null, .null, .null] .null) (n12 : a2 ≠ a1) (n13 : a3 ≠ a1) (EX0 : Exa Z h0 x0 "com/example/darlington/darlington/core/IntegerRange") (Xf0 : Fld Z h0 x0 "com/example/darlington/darlington/core/FiniteType" "first" "I" (.int f0)) (Xz0 : Fld Z h0 x0 "com/example/darlington/darlington/core/FiniteType" "size" "I" (.int z0)) (nx0 : x0 ≠ a1) (hz0 : (0 : Int32) < z0) (EX1 : Exa Z h0 x1 "com/example/darlington/darlington/core/IntegerRange") (Xf1 : Fld Z h0 x1 "com/example/darlington/darlington/core/FiniteType" "first" "I" (.int f1)) (Xz1 : Fld Z h0 x1 "com/example/darlington/darlington/core/FiniteType" "size" "I" (.int z1)) (nx1 : x1 ≠ a1) (hz1 : (0 : Int32) < z1) (EX2 : Exa Z h0 x2 "com/example/darlington/darlington/core/IntegerRange") (Xf2 : Fld Z h0 x2 "com/example/darlington/darlington/core/FiniteType" "first" "I" (.int f2)) (Xz2 : Fld Z h0 x2 "com/example/darlington/darlington/core/FiniteType" "size" "I" (.int z2)) (nx2 : x2 ≠ a1) (hz2 : (0 : Int32) < z2) (hu0 : ¬ (64 : Int32) < ((1 : Int32) + (own_bits z0))) (hu1 : ¬ (64 : Int32) < (((1 : Int32) + (own_bits z0)) + (own_bits z1))) :
    MetFree l (⟨"com/example/darlington/darlington/core/StateLayout", "<init>", "(Ljava/util/List;)V"⟩ : MethodName) (head1 (Jvm.Cond.code (⟨"com/example/darlington/darlington/core/StateLayout", "<init>", "(Ljava/util/List;)V"⟩ : MethodName) prog_74_method_1_code 8 none :: ws) ({ frames := 3, cells := 4, slots := 12, locals := 43 } : Room)) (fun a U => a = #[(.ref a1), (.ref a2)] ∧ Z.Warmed39 U.vm ∧ U.heap = h0) (fun _ _ _ _ _ => True) (fun _ U o U' => ∃ v L, o = .returned v ∧ Q_rm_lay Z a1 a2 a3 k3 x0 x1 x2 f0 f1 f2 z0 z1 z2 h0 n0 v U'.heap L ∧ FrameEnd U o U' L ({ frames := 3, cells := 4, slots := 12, locals := 43 } : Room).cells ({ frames := 3, cells := 4, slots := 12, locals := 43 } : Room).slots) := by
  refine MetFree.of_bodySF (plainFor_of_name pn_8) hisR ?_
  intro p e s m args below meth c s₁ Bd hml0 hP hK
  obtain ⟨rfl, hZ, hh⟩ := hP
  have hx := Bd.exec
  have hby := Bd.bytes
  have hml : c.maxLocals = 8 := hml0
  have hown : s.vm.findClass "com/example/darlington/darlington/core/StateLayout" = some m.cls := findClass_of_methodNamed Bd.named
  have hnm := (name_of_methodNamed Bd.named Bd.method).1
  have X0 : Stand p l e ({ frames := 3, cells := 4, slots := 12, locals := 43 } : Room) s m #[(.ref a1), (.ref a2)] below meth c s₁ [] 0 0 := Stand.of_body Bd
  have e0 : s₁.heap = h0 := by rw [← hh, Bd.state]; rfl
  have N0 := Fr.nil n0
  have pre0 : ∀ t, Steps p.tables e below (s₁.setTop (mkF m 0 #[Sr a1, Sr a2, Su, Su, Su, Su, Su, Su] [])) t → Steps p.tables e below (s₁.setTop (entryFrame m #[(.ref a1), (.ref a2)] 8)) t := fun t k => castTop (ef_rm_lay m a1 a2) k
  obtain ⟨T51, X51, e51, st51⟩ := initO X0 hx hZ hown (ow hw 92 rfl) (ow hw 27 rfl) (ow hw 28 rfl) e0 (g := (mkF m 1 #[Sr a1, Sr a2, Su, Su, Su, Su, Su, Su] [(.ref a1)])) rfl (by rw [hml]; rfl) rfl (hb hby d14_1) (by decide) (W := 0) (by show 2 * 0 + _ ≤ _; exact Nat.le_of_eq rfl) (by decide)
  obtain ⟨cq52, kq52, q52a, q52b, q52c⟩ := isOf hZ e51 Es
  obtain ⟨_, _, ⟨T52, L52, k52, n52⟩, -, X52, ⟨Lc52, hQ52, l52, y52, z52⟩, st52⟩ := X51.interfaceBack hx (xi := (⟨"java/util/List", "size", "()I"⟩ : MethodName)) (y := (⟨"java/util/ArrayList", "size", "()I"⟩ : MethodName)) hown (mvT hZ (ow hw 93 rfl)) (mvT hZ (ow hw 94 rfl)) (mvT hZ (ow hw 95 rfl)) (mvT hZ (ow hw 96 rfl)) (mvT hZ (ow hw 97 rfl)) (mvT hZ (ow hw 98 rfl)) (mvT hZ (ow hw 99 rfl)) (mvT hZ (ow hw 61 rfl)) (by decide) (backOf (W := 0) (rm15 l Z a0 hw [] a2 (3 : Int32) h0 n0 Z0 Fs) hZ (ow hw 100 rfl) (ow hw 10 rfl) (by decide) (by decide)) q52a q52b q52c (g := (mkF m 5 #[Sr a1, Sr a2, Su, Su, Su, Su, Su, Su] [(.ref a2)])) rfl (by rw [hml]; rfl) (Steps.refl _) (argsL := []) (rest := []) (lenOf pd_8 rfl) rfl (by show 2 * 0 + _ ≤ _; exact Nat.le_of_eq rfl) (hb hby d14_5) (fun _ _ => ⟨rfl, e51, (by decide : 0 + 0 ≤ _), (by decide : 0 + 0 ≤ _)⟩)
  dsimp only [Pt.U, Pt.locs, Pt.cells, Pt.slots] at X52 l52 y52 z52 st52 hQ52
  subst y52 z52
  obtain ⟨rfl, Nq52, q52_0⟩ := hQ52
  have N53 := Eq.subst (motive := fun L => Fr n0 L) l52.symm (Fr.app N0 Nq52)
  obtain ⟨T54, h54, k54, X54, e54, E54, A54, st54⟩ := newP X52 hx hZ (ow hw 101 rfl) q52_0 (g := (mkF m 13 #[Sr a1, Sr a2, Si (3 : Int32), Su, Su, Su, Su, Su] [(.int (3 : Int32)), (.ref a1)])) rfl (hb hby d14_13) rfl (by decide) (cap := 3) (by decide) (by decide) (by decide) (by decide)
  obtain ⟨b54, g54⟩ : ∃ z, z = h0.size := ⟨_, rfl⟩
  rw [← g54] at A54 st54
  have ne55 : a1 ≠ b54 := Nat.ne_of_lt (Nat.lt_of_lt_of_le E1.lt (Nat.le_of_eq g54.symm))
  have ne56 : a2 ≠ b54 := Nat.ne_of_lt (Nat.lt_of_lt_of_le Es.lt (Nat.le_of_eq g54.symm))
  have ne57 : a3 ≠ b54 := Nat.ne_of_lt (Nat.lt_of_lt_of_le V3.lt (Nat.le_of_eq g54.symm))
  have ne58 : x0 ≠ b54 := Nat.ne_of_lt (Nat.lt_of_lt_of_le EX0.lt (Nat.le_of_eq g54.symm))
  have ne59 : x1 ≠ b54 := Nat.ne_of_lt (Nat.lt_of_lt_of_le EX1.lt (Nat.le_of_eq g54.symm))
  have ne60 : x2 ≠ b54 := Nat.ne_of_lt (Nat.lt_of_lt_of_le EX2.lt (Nat.le_of_eq g54.symm))
  have ge61 : n0 ≤ b54 := Nat.le_trans Z0 (Nat.le_of_eq g54.symm)
  have sz62 : h0.size ≤ b54 := Nat.le_trans (Keep.refl h0 [a1]).1 (Nat.le_of_eq g54.symm)
  have KC63 : Keep h0 h54 [a1] := (Keep.refl h0 [a1]).ext E54
  have V54 : Arv Z h54 b54 k54 .int (3 : Int32) [(.int (0 : Int32)), (.int (0 : Int32)), (.int (0 : Int32))] (.int (0 : Int32)) := (Arv.new A54 (by decide)).pad (pad_rep [] (.int (0 : Int32)) 3)
  have F64 : Exa Z h54 a1 "com/example/darlington/darlington/core/StateLayout" := (E1.ext E54)
  have F65 : Fld Z h54 a1 "com/example/darlington/darlington/core/StateLayout" "wordOf" "[I" .null := (U0.ext E54)
  obtain ⟨T66, h66, X66, e66, W66, st66⟩ := putF X54 hx hZ hown (host := "") (Or.inl (ow hw 102 rfl)) Via.refl e54 F65 F64 (Or.inr ⟨(ow hw 103 rfl), rfl, hnm⟩) (ow hw 87 rfl) (ty := (.array .int)) (by decide) rfl rfl (g := (mkF m 15 #[Sr a1, Sr a2, Si (3 : Int32), Su, Su, Su, Su, Su] [(.ref b54), (.ref a1)])) rfl rfl (hb hby d14_15)
  have KC67 : Keep h0 h66 [a1] := KC63.wr W66 (Or.inl (List.mem_of_getElem? (i := 0) rfl))
  have F68 : Fld Z h66 a1 "com/example/darlington/darlington/core/StateLayout" "wordOf" "[I" (.ref b54) := F65.same W66
  have N69 := Fr.snoc X66 N53 g1
  obtain ⟨T70, h70, k70, X70, e70, E70, A70, st70⟩ := newP X66 hx hZ (ow hw 101 rfl) e66 (g := (mkF m 20 #[Sr a1, Sr a2, Si (3 : Int32), Su, Su, Su, Su, Su] [(.int (3 : Int32)), (.ref a1)])) rfl (hb hby d14_20) rfl (by decide) (cap := 3) (by decide) (by decide) (by decide) (by decide)
  obtain ⟨b70, g70⟩ : ∃ z, z = h66.size := ⟨_, rfl⟩
  rw [← g70] at A70 st70
  have F71 : Exa Z h66 a1 "com/example/darlington/darlington/core/StateLayout" := (F64.wr W66)
  have ne72 : a1 ≠ b70 := Nat.ne_of_lt (Nat.lt_of_lt_of_le F71.lt (Nat.le_of_eq g70.symm))
  have F73 : Exa Z h66 a2 "java/util/ArrayList" := ((Es.ext E54).wr W66)
  have ne74 : a2 ≠ b70 := Nat.ne_of_lt (Nat.lt_of_lt_of_le F73.lt (Nat.le_of_eq g70.symm))
  have F75 : Arv Z h66 a3 k3 (.object "java/lang/Object") (10 : Int32) [(.ref x0), (.ref x1), (.ref x2), .null, .null, .null, .null, .null, .null, .null] .null := ((V3.ext E54).other W66 n13)
  have ne76 : a3 ≠ b70 := Nat.ne_of_lt (Nat.lt_of_lt_of_le F75.lt (Nat.le_of_eq g70.symm))
  have F77 : Exa Z h66 x0 "com/example/darlington/darlington/core/IntegerRange" := ((EX0.ext E54).wr W66)
  have ne78 : x0 ≠ b70 := Nat.ne_of_lt (Nat.lt_of_lt_of_le F77.lt (Nat.le_of_eq g70.symm))
  have F79 : Exa Z h66 x1 "com/example/darlington/darlington/core/IntegerRange" := ((EX1.ext E54).wr W66)
  have ne80 : x1 ≠ b70 := Nat.ne_of_lt (Nat.lt_of_lt_of_le F79.lt (Nat.le_of_eq g70.symm))
  have F81 : Exa Z h66 x2 "com/example/darlington/darlington/core/IntegerRange" := ((EX2.ext E54).wr W66)
  have ne82 : x2 ≠ b70 := Nat.ne_of_lt (Nat.lt_of_lt_of_le F81.lt (Nat.le_of_eq g70.symm))
  have F83 : Arv Z h66 b54 k54 .int (3 : Int32) [(.int (0 : Int32)), (.int (0 : Int32)), (.int (0 : Int32))] (.int (0 : Int32)) := (V54.other W66 (Ne.symm ne55))
  have ne84 : b54 ≠ b70 := Nat.ne_of_lt (Nat.lt_of_lt_of_le F83.lt (Nat.le_of_eq g70.symm))
  have ge85 : n0 ≤ b70 := Nat.le_trans (Nat.le_trans Z0 KC67.1) (Nat.le_of_eq g70.symm)
  have sz86 : h0.size ≤ b70 := Nat.le_trans KC67.1 (Nat.le_of_eq g70.symm)
  have KC87 : Keep h0 h70 [a1] := KC67.ext E70
  have V70 : Arv Z h70 b70 k70 .int (3 : Int32) [(.int (0 : Int32)), (.int (0 : Int32)), (.int (0 : Int32))] (.int (0 : Int32)) := (Arv.new A70 (by decide)).pad (pad_rep [] (.int (0 : Int32)) 3)
  have F88 : Exa Z h70 a1 "com/example/darlington/darlington/core/StateLayout" := (F71.ext E70)
  have F89 : Fld Z h70 a1 "com/example/darlington/darlington/core/StateLayout" "shiftOf" "[I" .null := (((U1.ext E54).other W66 (Or.inr (slot_ne (Or.inr (ow hw 105 rfl)) (Or.inr (ow hw 103 rfl)) (by decide) (t := (.array .int)) (t' := (.array .int)) (by decide) (by decide)))).ext E70)
  obtain ⟨T90, h90, X90, e90, W90, st90⟩ := putF X70 hx hZ hown (host := "") (Or.inl (ow hw 104 rfl)) Via.refl e70 F89 F88 (Or.inr ⟨(ow hw 105 rfl), rfl, hnm⟩) (ow hw 87 rfl) (ty := (.array .int)) (by decide) rfl rfl (g := (mkF m 22 #[Sr a1, Sr a2, Si (3 : Int32), Su, Su, Su, Su, Su] [(.ref b70), (.ref a1)])) rfl rfl (hb hby d14_22)
  have KC91 : Keep h0 h90 [a1] := KC87.wr W90 (Or.inl (List.mem_of_getElem? (i := 0) rfl))
  have F92 : Fld Z h90 a1 "com/example/darlington/darlington/core/StateLayout" "shiftOf" "[I" (.ref b70) := F89.same W90
  have N93 := Fr.snoc X90 N69 g1
  obtain ⟨T94, h94, k94, X94, e94, E94, A94, st94⟩ := newP X90 hx hZ (ow hw 106 rfl) e90 (g := (mkF m 27 #[Sr a1, Sr a2, Si (3 : Int32), Su, Su, Su, Su, Su] [(.int (3 : Int32)), (.ref a1)])) rfl (hb hby d14_27) rfl (by decide) (cap := 3) (by decide) (by decide) (by decide) (by decide)
  obtain ⟨b94, g94⟩ : ∃ z, z = h90.size := ⟨_, rfl⟩
  rw [← g94] at A94 st94
  have F95 : Exa Z h90 a1 "com/example/darlington/darlington/core/StateLayout" := (F88.wr W90)
  have ne96 : a1 ≠ b94 := Nat.ne_of_lt (Nat.lt_of_lt_of_le F95.lt (Nat.le_of_eq g94.symm))
  have F97 : Exa Z h90 a2 "java/util/ArrayList" := ((F73.ext E70).wr W90)
  have ne98 : a2 ≠ b94 := Nat.ne_of_lt (Nat.lt_of_lt_of_le F97.lt (Nat.le_of_eq g94.symm))
  have F99 : Arv Z h90 a3 k3 (.object "java/lang/Object") (10 : Int32) [(.ref x0), (.ref x1), (.ref x2), .null, .null, .null, .null, .null, .null, .null] .null := ((F75.ext E70).other W90 n13)
  have ne100 : a3 ≠ b94 := Nat.ne_of_lt (Nat.lt_of_lt_of_le F99.lt (Nat.le_of_eq g94.symm))
  have F101 : Exa Z h90 x0 "com/example/darlington/darlington/core/IntegerRange" := ((F77.ext E70).wr W90)
  have ne102 : x0 ≠ b94 := Nat.ne_of_lt (Nat.lt_of_lt_of_le F101.lt (Nat.le_of_eq g94.symm))
  have F103 : Exa Z h90 x1 "com/example/darlington/darlington/core/IntegerRange" := ((F79.ext E70).wr W90)
  have ne104 : x1 ≠ b94 := Nat.ne_of_lt (Nat.lt_of_lt_of_le F103.lt (Nat.le_of_eq g94.symm))
  have F105 : Exa Z h90 x2 "com/example/darlington/darlington/core/IntegerRange" := ((F81.ext E70).wr W90)
  have ne106 : x2 ≠ b94 := Nat.ne_of_lt (Nat.lt_of_lt_of_le F105.lt (Nat.le_of_eq g94.symm))
  have F107 : Arv Z h90 b54 k54 .int (3 : Int32) [(.int (0 : Int32)), (.int (0 : Int32)), (.int (0 : Int32))] (.int (0 : Int32)) := ((F83.ext E70).other W90 (Ne.symm ne55))
  have ne108 : b54 ≠ b94 := Nat.ne_of_lt (Nat.lt_of_lt_of_le F107.lt (Nat.le_of_eq g94.symm))
  have F109 : Arv Z h90 b70 k70 .int (3 : Int32) [(.int (0 : Int32)), (.int (0 : Int32)), (.int (0 : Int32))] (.int (0 : Int32)) := (V70.other W90 (Ne.symm ne72))
  have ne110 : b70 ≠ b94 := Nat.ne_of_lt (Nat.lt_of_lt_of_le F109.lt (Nat.le_of_eq g94.symm))
  have ge111 : n0 ≤ b94 := Nat.le_trans (Nat.le_trans Z0 KC91.1) (Nat.le_of_eq g94.symm)
  have sz112 : h0.size ≤ b94 := Nat.le_trans KC91.1 (Nat.le_of_eq g94.symm)
  have KC113 : Keep h0 h94 [a1] := KC91.ext E94
  have V94 : Arv Z h94 b94 k94 .long (3 : Int32) [(.long (0 : Int64)), (.long (0 : Int64)), (.long (0 : Int64))] (.long (0 : Int64)) := (Arv.new A94 (by decide)).pad (pad_rep [] (.long (0 : Int64)) 3)
  have F114 : Exa Z h94 a1 "com/example/darlington/darlington/core/StateLayout" := (F95.ext E94)
  have F115 : Fld Z h94 a1 "com/example/darlington/darlington/core/StateLayout" "maskOf" "[J" .null := (((((U2.ext E54).other W66 (Or.inr (slot_ne (Or.inr (ow hw 108 rfl)) (Or.inr (ow hw 103 rfl)) (by decide) (t := (.array .long)) (t' := (.array .int)) (by decide) (by decide)))).ext E70).other W90 (Or.inr (slot_ne (Or.inr (ow hw 108 rfl)) (Or.inr (ow hw 105 rfl)) (by decide) (t := (.array .long)) (t' := (.array .int)) (by decide) (by decide)))).ext E94)
  obtain ⟨T116, h116, X116, e116, W116, st116⟩ := putF X94 hx hZ hown (host := "") (Or.inl (ow hw 107 rfl)) Via.refl e94 F115 F114 (Or.inr ⟨(ow hw 108 rfl), rfl, hnm⟩) (ow hw 87 rfl) (ty := (.array .long)) (by decide) rfl rfl (g := (mkF m 29 #[Sr a1, Sr a2, Si (3 : Int32), Su, Su, Su, Su, Su] [(.ref b94), (.ref a1)])) rfl rfl (hb hby d14_29)
  have KC117 : Keep h0 h116 [a1] := KC113.wr W116 (Or.inl (List.mem_of_getElem? (i := 0) rfl))
  have F118 : Fld Z h116 a1 "com/example/darlington/darlington/core/StateLayout" "maskOf" "[J" (.ref b94) := F115.same W116
  have N119 := Fr.snoc X116 N93 g1
  obtain ⟨T120, h120, k120, X120, e120, E120, A120, st120⟩ := newP X116 hx hZ (ow hw 101 rfl) e116 (g := (mkF m 34 #[Sr a1, Sr a2, Si (3 : Int32), Su, Su, Su, Su, Su] [(.int (3 : Int32)), (.ref a1)])) rfl (hb hby d14_34) rfl (by decide) (cap := 3) (by decide) (by decide) (by decide) (by decide)
  obtain ⟨b120, g120⟩ : ∃ z, z = h116.size := ⟨_, rfl⟩
  rw [← g120] at A120 st120
  have F121 : Exa Z h116 a1 "com/example/darlington/darlington/core/StateLayout" := (F114.wr W116)
  have ne122 : a1 ≠ b120 := Nat.ne_of_lt (Nat.lt_of_lt_of_le F121.lt (Nat.le_of_eq g120.symm))
  have F123 : Exa Z h116 a2 "java/util/ArrayList" := ((F97.ext E94).wr W116)
  have ne124 : a2 ≠ b120 := Nat.ne_of_lt (Nat.lt_of_lt_of_le F123.lt (Nat.le_of_eq g120.symm))
  have F125 : Arv Z h116 a3 k3 (.object "java/lang/Object") (10 : Int32) [(.ref x0), (.ref x1), (.ref x2), .null, .null, .null, .null, .null, .null, .null] .null := ((F99.ext E94).other W116 n13)
  have ne126 : a3 ≠ b120 := Nat.ne_of_lt (Nat.lt_of_lt_of_le F125.lt (Nat.le_of_eq g120.symm))
  have F127 : Exa Z h116 x0 "com/example/darlington/darlington/core/IntegerRange" := ((F101.ext E94).wr W116)
  have ne128 : x0 ≠ b120 := Nat.ne_of_lt (Nat.lt_of_lt_of_le F127.lt (Nat.le_of_eq g120.symm))
  have F129 : Exa Z h116 x1 "com/example/darlington/darlington/core/IntegerRange" := ((F103.ext E94).wr W116)
  have ne130 : x1 ≠ b120 := Nat.ne_of_lt (Nat.lt_of_lt_of_le F129.lt (Nat.le_of_eq g120.symm))
  have F131 : Exa Z h116 x2 "com/example/darlington/darlington/core/IntegerRange" := ((F105.ext E94).wr W116)
  have ne132 : x2 ≠ b120 := Nat.ne_of_lt (Nat.lt_of_lt_of_le F131.lt (Nat.le_of_eq g120.symm))
  have F133 : Arv Z h116 b54 k54 .int (3 : Int32) [(.int (0 : Int32)), (.int (0 : Int32)), (.int (0 : Int32))] (.int (0 : Int32)) := ((F107.ext E94).other W116 (Ne.symm ne55))
  have ne134 : b54 ≠ b120 := Nat.ne_of_lt (Nat.lt_of_lt_of_le F133.lt (Nat.le_of_eq g120.symm))
  have F135 : Arv Z h116 b70 k70 .int (3 : Int32) [(.int (0 : Int32)), (.int (0 : Int32)), (.int (0 : Int32))] (.int (0 : Int32)) := ((F109.ext E94).other W116 (Ne.symm ne72))
  have ne136 : b70 ≠ b120 := Nat.ne_of_lt (Nat.lt_of_lt_of_le F135.lt (Nat.le_of_eq g120.symm))
  have F137 : Arv Z h116 b94 k94 .long (3 : Int32) [(.long (0 : Int64)), (.long (0 : Int64)), (.long (0 : Int64))] (.long (0 : Int64)) := (V94.other W116 (Ne.symm ne96))
  have ne138 : b94 ≠ b120 := Nat.ne_of_lt (Nat.lt_of_lt_of_le F137.lt (Nat.le_of_eq g120.symm))
  have ge139 : n0 ≤ b120 := Nat.le_trans (Nat.le_trans Z0 KC117.1) (Nat.le_of_eq g120.symm)
  have sz140 : h0.size ≤ b120 := Nat.le_trans KC117.1 (Nat.le_of_eq g120.symm)
  have KC141 : Keep h0 h120 [a1] := KC117.ext E120
  have V120 : Arv Z h120 b120 k120 .int (3 : Int32) [(.int (0 : Int32)), (.int (0 : Int32)), (.int (0 : Int32))] (.int (0 : Int32)) := (Arv.new A120 (by decide)).pad (pad_rep [] (.int (0 : Int32)) 3)
  have F142 : Exa Z h120 a1 "com/example/darlington/darlington/core/StateLayout" := (F121.ext E120)
  have F143 : Fld Z h120 a1 "com/example/darlington/darlington/core/StateLayout" "firstOf" "[I" .null := (((((((U3.ext E54).other W66 (Or.inr (slot_ne (Or.inr (ow hw 110 rfl)) (Or.inr (ow hw 103 rfl)) (by decide) (t := (.array .int)) (t' := (.array .int)) (by decide) (by decide)))).ext E70).other W90 (Or.inr (slot_ne (Or.inr (ow hw 110 rfl)) (Or.inr (ow hw 105 rfl)) (by decide) (t := (.array .int)) (t' := (.array .int)) (by decide) (by decide)))).ext E94).other W116 (Or.inr (slot_ne (Or.inr (ow hw 110 rfl)) (Or.inr (ow hw 108 rfl)) (by decide) (t := (.array .int)) (t' := (.array .long)) (by decide) (by decide)))).ext E120)
  obtain ⟨T144, h144, X144, e144, W144, st144⟩ := putF X120 hx hZ hown (host := "") (Or.inl (ow hw 109 rfl)) Via.refl e120 F143 F142 (Or.inr ⟨(ow hw 110 rfl), rfl, hnm⟩) (ow hw 87 rfl) (ty := (.array .int)) (by decide) rfl rfl (g := (mkF m 36 #[Sr a1, Sr a2, Si (3 : Int32), Su, Su, Su, Su, Su] [(.ref b120), (.ref a1)])) rfl rfl (hb hby d14_36)
  have KC145 : Keep h0 h144 [a1] := KC141.wr W144 (Or.inl (List.mem_of_getElem? (i := 0) rfl))
  have F146 : Fld Z h144 a1 "com/example/darlington/darlington/core/StateLayout" "firstOf" "[I" (.ref b120) := F143.same W144
  have N147 := Fr.snoc X144 N119 g1
  have F148 : Exa Z h144 a2 "java/util/ArrayList" := ((F123.ext E120).wr W144)
  have F149 : Fld Z h144 a2 "java/util/ArrayList" "size" "I" (.int (3 : Int32)) := ((((((((Fs.ext E54).other W66 (Or.inl n12)).ext E70).other W90 (Or.inl n12)).ext E94).other W116 (Or.inl n12)).ext E120).other W144 (Or.inl n12))
  have F150 : Fld Z h144 a2 "java/util/ArrayList" "elementData" "[Ljava/lang/Object;" (.ref a3) := ((((((((Fd.ext E54).other W66 (Or.inl n12)).ext E70).other W90 (Or.inl n12)).ext E94).other W116 (Or.inl n12)).ext E120).other W144 (Or.inl n12))
  have F151 : Arv Z h144 a3 k3 (.object "java/lang/Object") (10 : Int32) [(.ref x0), (.ref x1), (.ref x2), .null, .null, .null, .null, .null, .null, .null] .null := ((F125.ext E120).other W144 n13)
  obtain ⟨cq152, kq152, q152a, q152b, q152c⟩ := isOf hZ e144 F148
  obtain ⟨_, _, ⟨T152, L152, k152, n152⟩, -, X152, ⟨Lc152, hQ152, l152, y152, z152⟩, st152⟩ := X144.interfaceBack hx (xi := (⟨"java/util/List", "get", "(I)Ljava/lang/Object;"⟩ : MethodName)) (y := (⟨"java/util/ArrayList", "get", "(I)Ljava/lang/Object;"⟩ : MethodName)) hown (mvT hZ (ow hw 111 rfl)) (mvT hZ (ow hw 112 rfl)) (mvT hZ (ow hw 113 rfl)) (mvT hZ (ow hw 114 rfl)) (mvT hZ (ow hw 115 rfl)) (mvT hZ (ow hw 116 rfl)) (mvT hZ (ow hw 117 rfl)) (mvT hZ (ow hw 61 rfl)) (by decide) (backOf (W := 0) (rm_get0 l Z a0 hw [] a2 a3 k3 x0 x1 x2 h144 n0 (Nat.le_trans Z0 KC145.1) F148 F149 F150 F151) hZ (ow hw 118 rfl) (ow hw 10 rfl) (by decide) (by decide)) q152a q152b q152c (g := (mkF m 56 #[Sr a1, Sr a2, Si (3 : Int32), Si (0 : Int32), Si (1 : Int32), Si (0 : Int32), Su, Su] [(.int (0 : Int32)), (.ref a2)])) rfl (by rw [hml]; rfl) (Steps.refl _) (argsL := [(.int (0 : Int32))]) (rest := []) (lenOf pd_6 rfl) rfl (by show 2 * 0 + _ ≤ _; exact Nat.le_of_eq rfl) (hb hby d14_56) (fun _ _ => ⟨rfl, e144, (by decide : 4 + 0 ≤ _), (by decide : 12 + 0 ≤ _)⟩)
  dsimp only [Pt.U, Pt.locs, Pt.cells, Pt.slots] at X152 l152 y152 z152 st152 hQ152
  subst y152 z152
  obtain ⟨rfl, Nq152, q152_0⟩ := hQ152
  have N153 := Eq.subst (motive := fun L => Fr n0 L) l152.symm (Fr.app N147 Nq152)
  have F154 : Exa Z h144 x0 "com/example/darlington/darlington/core/IntegerRange" := ((F127.ext E120).wr W144)
  obtain ⟨T155, X155, e155, st155⟩ := castY X152 hx hZ hown (ow hw 132 rfl) q152_0 (Ins.of_exa F154 (ow hw 133 rfl)) (g := (mkF m 61 #[Sr a1, Sr a2, Si (3 : Int32), Si (0 : Int32), Si (1 : Int32), Si (0 : Int32), Su, Su] [(.ref x0)])) rfl rfl (hb hby d14_61)
  have F156 : Fld Z h144 x0 "com/example/darlington/darlington/core/FiniteType" "size" "I" (.int z0) := ((((((((Xz0.ext E54).other W66 (Or.inl nx0)).ext E70).other W90 (Or.inl nx0)).ext E94).other W116 (Or.inl nx0)).ext E120).other W144 (Or.inl nx0))
  obtain ⟨cq157, kq157, q157a, q157b, q157c⟩ := isOf hZ e155 F154
  obtain ⟨_, _, ⟨T157, L157, k157, n157⟩, -, X157, ⟨Lc157, hQ157, l157, y157, z157⟩, st157⟩ := X155.virtualBack hx (y := (⟨"com/example/darlington/darlington/core/FiniteType", "size", "()I"⟩ : MethodName)) (z := (⟨"com/example/darlington/darlington/core/FiniteType", "size", "()I"⟩ : MethodName)) hown (mvT hZ (ow hw 134 rfl)) (mvT hZ (ow hw 135 rfl)) (notFace_of_selects (args := #[]) (mvT hZ (ow hw 137 rfl))) (mvT hZ (ow hw 137 rfl)) (mvT hZ (ow hw 136 rfl)) (by decide) (backOf (W := 1) (rm20 l Z a0 hw [] x0 z0 h144 n0 (Nat.le_trans Z0 KC145.1) F156) hZ (ow hw 138 rfl) (ow hw 47 rfl) (by decide) (by decide)) q157a q157c (g := (mkF m 70 #[Sr a1, Sr a2, Si (3 : Int32), Si (0 : Int32), Si (1 : Int32), Si (0 : Int32), Sr x0, Su] [(.ref x0), (.int (32 : Int32))])) rfl (by rw [hml]; rfl) (Steps.refl _) (argsL := []) (rest := [(.int (32 : Int32))]) (lenOf pd_8 rfl) rfl (by show 2 * 0 + _ ≤ _; exact Nat.le_of_eq rfl) (hb hby d14_70) (fun _ _ => ⟨rfl, e155, (by decide : 4 + 0 ≤ _), (by decide : 12 + 0 ≤ _)⟩)
  dsimp only [Pt.U, Pt.locs, Pt.cells, Pt.slots] at X157 l157 y157 z157 st157 hQ157
  subst y157 z157
  obtain ⟨rfl, Nq157, q157_0⟩ := hQ157
  have N158 := Eq.subst (motive := fun L => Fr n0 L) l157.symm (Fr.app N153 Nq157)
  obtain ⟨_, _, ⟨T159, L159, k159, n159⟩, -, X159, ⟨Lc159, hQ159, l159, y159, z159⟩, st159⟩ := Jvm.LawKit.callS X157 hx (y := (⟨"java/lang/Integer", "numberOfLeadingZeros", "(I)I"⟩ : MethodName)) hown (mvT hZ (ow hw 139 rfl)) (mvT hZ (ow hw 140 rfl)) (mvT hZ (ow hw 141 rfl)) (mvT hZ (ow hw 142 rfl)) (by decide) (backOf (W := 1) (rm21 l Z a0 hw [] (z0 - (1 : Int32)) h144 n0 (Nat.le_trans Z0 KC145.1)) hZ (ow hw 142 rfl) (ow hw 141 rfl) (by decide) (by decide)) (g := (mkF m 75 #[Sr a1, Sr a2, Si (3 : Int32), Si (0 : Int32), Si (1 : Int32), Si (0 : Int32), Sr x0, Su] [(.int (z0 - (1 : Int32))), (.int (32 : Int32))])) rfl (by rw [hml]; rfl) (argsL := [(.int (z0 - (1 : Int32)))]) (rest := [(.int (32 : Int32))]) (lenOf pd_9 rfl) rfl (by show 2 * 0 + _ ≤ _; exact Nat.le_of_eq rfl) (hb hby d14_75) (fun _ _ => ⟨rfl, q157_0, (by decide : 4 + 0 ≤ _), (by decide : 12 + 0 ≤ _)⟩)
  dsimp only [Pt.U, Pt.locs, Pt.cells, Pt.slots] at X159 l159 y159 z159 st159 hQ159
  subst y159 z159
  obtain ⟨rfl, Nq159, q159_0⟩ := hQ159
  have N160 := Eq.subst (motive := fun L => Fr n0 L) l159.symm (Fr.app N158 Nq159)
  have pre161 : ∀ t, Steps p.tables e below (T159.setTop (mkF m 81 #[Sr a1, Sr a2, Si (3 : Int32), Si (0 : Int32), Si (1 : Int32), Si (0 : Int32), Sr x0, Si ((32 : Int32) - (own_nlz (z0 - (1 : Int32))))] [])) t → Steps p.tables e below (s₁.setTop (entryFrame m #[(.ref a1), (.ref a2)] 8)) t := by
    intro t k
    refine pre0 t ?_
    refine XS.aloadN X0.here hx rfl (hb hby d14_0) rfl rfl ?_
    refine st51 _ ?_
    refine XS.aloadN X51.here hx rfl (hb hby d14_4) rfl rfl ?_
    refine st52.trans ?_
    refine XS.istoreN X52.here hx rfl (hb hby d14_10) rfl (l' := #[Sr a1, Sr a2, Si (3 : Int32), Su, Su, Su, Su, Su]) rfl ?_
    refine XS.aloadN X52.here hx rfl (hb hby d14_11) rfl rfl ?_
    refine XS.iloadN X52.here hx rfl (hb hby d14_12) rfl ?_
    refine st54 _ ?_
    refine st66 _ ?_
    refine XS.aloadN X66.here hx rfl (hb hby d14_18) rfl rfl ?_
    show Steps _ _ _ (T66.setTop (mkF m 19 #[Sr a1, Sr a2, Si (3 : Int32), Su, Su, Su, Su, Su] [(.ref a1)])) _
    refine XS.iloadN X66.here hx rfl (hb hby d14_19) rfl ?_
    refine st70 _ ?_
    refine st90 _ ?_
    refine XS.aloadN X90.here hx rfl (hb hby d14_25) rfl rfl ?_
    refine XS.iloadN X90.here hx rfl (hb hby d14_26) rfl ?_
    refine st94 _ ?_
    refine st116 _ ?_
    refine XS.aloadN X116.here hx rfl (hb hby d14_32) rfl rfl ?_
    refine XS.iloadN X116.here hx rfl (hb hby d14_33) rfl ?_
    refine st120 _ ?_
    show Steps _ _ _ (T120.setTop (mkF m 36 #[Sr a1, Sr a2, Si (3 : Int32), Su, Su, Su, Su, Su] [(.ref b120), (.ref a1)])) _
    refine st144 _ ?_
    refine XS.iconst X144.here hx rfl (hb hby d14_39) ?_
    refine XS.istoreN X144.here hx rfl (hb hby d14_40) rfl (l' := #[Sr a1, Sr a2, Si (3 : Int32), Si (0 : Int32), Su, Su, Su, Su]) rfl ?_
    refine XS.iconst X144.here hx rfl (hb hby d14_41) ?_
    refine XS.istore X144.here hx rfl (hb hby d14_42) rfl (l' := #[Sr a1, Sr a2, Si (3 : Int32), Si (0 : Int32), Si (1 : Int32), Su, Su, Su]) rfl ?_
    refine XS.iconst X144.here hx rfl (hb hby d14_44) ?_
    refine XS.istore X144.here hx rfl (hb hby d14_45) rfl (l' := #[Sr a1, Sr a2, Si (3 : Int32), Si (0 : Int32), Si (1 : Int32), Si (0 : Int32), Su, Su]) rfl ?_
    refine XS.iload X144.here hx rfl (hb hby d14_47) rfl ?_
    refine XS.iloadN X144.here hx rfl (hb hby d14_49) rfl ?_
    refine XS.icmpNo X144.here hx rfl (hb hby d14_50) rfl (tlt (by decide)).2.1 ?_
    show Steps _ _ _ (T144.setTop (mkF m 53 #[Sr a1, Sr a2, Si (3 : Int32), Si (0 : Int32), Si (1 : Int32), Si (0 : Int32), Su, Su] [])) _
    refine XS.aloadN X144.here hx rfl (hb hby d14_53) rfl rfl ?_
    refine XS.iload X144.here hx rfl (hb hby d14_54) rfl ?_
    refine st152.trans ?_
    refine st155 _ ?_
    refine XS.astore X155.here hx rfl (hb hby d14_64) rfl rfl (l' := #[Sr a1, Sr a2, Si (3 : Int32), Si (0 : Int32), Si (1 : Int32), Si (0 : Int32), Sr x0, Su]) rfl ?_
    refine XS.bipush X155.here hx rfl (hb hby d14_66) ?_
    refine XS.aload X155.here hx rfl (hb hby d14_68) rfl rfl ?_
    refine st157.trans ?_
    refine XS.iconst X157.here hx rfl (hb hby d14_73) ?_
    refine XS.isub X157.here hx rfl (hb hby d14_74) rfl ?_
    show Steps _ _ _ (T157.setTop (mkF m 75 #[Sr a1, Sr a2, Si (3 : Int32), Si (0 : Int32), Si (1 : Int32), Si (0 : Int32), Sr x0, Su] [(.int (z0 - (1 : Int32))), (.int (32 : Int32))])) _
    refine st159 _ ?_
    refine XS.isub X159.here hx rfl (hb hby d14_78) rfl ?_
    refine XS.istore X159.here hx rfl (hb hby d14_79) rfl (l' := #[Sr a1, Sr a2, Si (3 : Int32), Si (0 : Int32), Si (1 : Int32), Si (0 : Int32), Sr x0, Si ((32 : Int32) - (own_nlz (z0 - (1 : Int32))))]) rfl ?_
    exact k
  have pre162 : ∀ t, Steps p.tables e below (T159.setTop (mkF m 81 #[Sr a1, Sr a2, Si (3 : Int32), Si (0 : Int32), Si (1 : Int32), Si (0 : Int32), Sr x0, Si (own_bits z0)] [])) t → Steps p.tables e below (s₁.setTop (entryFrame m #[(.ref a1), (.ref a2)] 8)) t := pre161
  have hc163 : ¬ ((64 : Int32) < ((1 : Int32) + (own_bits z0))) := hu0
  have F164 : Fld Z h144 a1 "com/example/darlington/darlington/core/StateLayout" "wordOf" "[I" (.ref b54) := ((((((F68.ext E70).other W90 (Or.inr (slot_ne (Or.inr (ow hw 103 rfl)) (Or.inr (ow hw 105 rfl)) (by decide) (t := (.array .int)) (t' := (.array .int)) (by decide) (by decide)))).ext E94).other W116 (Or.inr (slot_ne (Or.inr (ow hw 103 rfl)) (Or.inr (ow hw 108 rfl)) (by decide) (t := (.array .int)) (t' := (.array .long)) (by decide) (by decide)))).ext E120).other W144 (Or.inr (slot_ne (Or.inr (ow hw 103 rfl)) (Or.inr (ow hw 110 rfl)) (by decide) (t := (.array .int)) (t' := (.array .int)) (by decide) (by decide))))
  obtain ⟨T165, X165, e165, st165⟩ := getF X159 hx hZ hown (host := "") (Or.inl (ow hw 102 rfl)) Via.refl q159_0 F164 (g := (mkF m 98 #[Sr a1, Sr a2, Si (3 : Int32), Si (0 : Int32), Si (1 : Int32), Si (0 : Int32), Sr x0, Si (own_bits z0)] [(.ref a1)])) rfl rfl (hb hby d14_98)
  have F166 : Arv Z h144 b54 k54 .int (3 : Int32) [(.int (0 : Int32)), (.int (0 : Int32)), (.int (0 : Int32))] (.int (0 : Int32)) := ((F133.ext E120).other W144 (Ne.symm ne55))
  obtain ⟨c167, Arc167, Aqc167, Asc167, Anc167, Ahc167, Agc167⟩ := id F166
  have hin168 : ¬ ((0 : Int32) < 0 ∨ c167.slots.size ≤ ((0 : Int32)).toNatClampNeg) := inb_of Asc167 ⟨by decide, by decide⟩
  obtain ⟨T169, h169, X169, e169, W169, st169⟩ := stI X165 hx hZ e165 Arc167 (j := (0 : Int32)) hin168 (g := (mkF m 104 #[Sr a1, Sr a2, Si (3 : Int32), Si (0 : Int32), Si (1 : Int32), Si (0 : Int32), Sr x0, Si (own_bits z0)] [(.int (0 : Int32)), (.int (0 : Int32)), (.ref b54)])) rfl rfl (hb hby d14_104)
  have KC170 : Keep h0 h169 [a1] := KC145.wr W169 (Or.inr sz62)
  have V169 : Arv Z h169 b54 k54 .int (3 : Int32) [(.int (0 : Int32)), (.int (0 : Int32)), (.int (0 : Int32))] (.int (0 : Int32)) := Arv.set Arc167 Aqc167 Asc167 Anc167 Ahc167 Agc167 rfl W169 0 rfl (Nat.le_of_ble_eq_true rfl)
  have N171 := Fr.snoc X169 N160 ge61
  have F172 : Fld Z h169 a1 "com/example/darlington/darlington/core/StateLayout" "shiftOf" "[I" (.ref b70) := (((((F92.ext E94).other W116 (Or.inr (slot_ne (Or.inr (ow hw 105 rfl)) (Or.inr (ow hw 108 rfl)) (by decide) (t := (.array .int)) (t' := (.array .long)) (by decide) (by decide)))).ext E120).other W144 (Or.inr (slot_ne (Or.inr (ow hw 105 rfl)) (Or.inr (ow hw 110 rfl)) (by decide) (t := (.array .int)) (t' := (.array .int)) (by decide) (by decide)))).other W169 (Or.inl ne55))
  obtain ⟨T173, X173, e173, st173⟩ := getF X169 hx hZ hown (host := "") (Or.inl (ow hw 104 rfl)) Via.refl e169 F172 (g := (mkF m 106 #[Sr a1, Sr a2, Si (3 : Int32), Si (0 : Int32), Si (1 : Int32), Si (0 : Int32), Sr x0, Si (own_bits z0)] [(.ref a1)])) rfl rfl (hb hby d14_106)
  have F174 : Arv Z h169 b70 k70 .int (3 : Int32) [(.int (0 : Int32)), (.int (0 : Int32)), (.int (0 : Int32))] (.int (0 : Int32)) := (((F135.ext E120).other W144 (Ne.symm ne72)).other W169 (Ne.symm ne84))
  obtain ⟨c175, Arc175, Aqc175, Asc175, Anc175, Ahc175, Agc175⟩ := id F174
  have hin176 : ¬ ((0 : Int32) < 0 ∨ c175.slots.size ≤ ((0 : Int32)).toNatClampNeg) := inb_of Asc175 ⟨by decide, by decide⟩
  obtain ⟨T177, h177, X177, e177, W177, st177⟩ := stI X173 hx hZ e173 Arc175 (j := (0 : Int32)) hin176 (g := (mkF m 113 #[Sr a1, Sr a2, Si (3 : Int32), Si (0 : Int32), Si (1 : Int32), Si (0 : Int32), Sr x0, Si (own_bits z0)] [(.int (1 : Int32)), (.int (0 : Int32)), (.ref b70)])) rfl rfl (hb hby d14_113)
  have KC178 : Keep h0 h177 [a1] := KC170.wr W177 (Or.inr sz86)
  have V177 : Arv Z h177 b70 k70 .int (3 : Int32) [(.int (1 : Int32)), (.int (0 : Int32)), (.int (0 : Int32))] (.int (0 : Int32)) := Arv.set Arc175 Aqc175 Asc175 Anc175 Ahc175 Agc175 rfl W177 0 rfl (Nat.le_of_ble_eq_true rfl)
  have N179 := Fr.snoc X177 N171 ge85
  have F180 : Fld Z h177 a1 "com/example/darlington/darlington/core/StateLayout" "maskOf" "[J" (.ref b94) := ((((F118.ext E120).other W144 (Or.inr (slot_ne (Or.inr (ow hw 108 rfl)) (Or.inr (ow hw 110 rfl)) (by decide) (t := (.array .long)) (t' := (.array .int)) (by decide) (by decide)))).other W169 (Or.inl ne55)).other W177 (Or.inl ne72))
  obtain ⟨T181, X181, e181, st181⟩ := getF X177 hx hZ hown (host := "") (Or.inl (ow hw 107 rfl)) Via.refl e177 F180 (g := (mkF m 115 #[Sr a1, Sr a2, Si (3 : Int32), Si (0 : Int32), Si (1 : Int32), Si (0 : Int32), Sr x0, Si (own_bits z0)] [(.ref a1)])) rfl rfl (hb hby d14_115)
  have pre182 : ∀ t, Steps p.tables e below (T181.setTop (mkF m 126 #[Sr a1, Sr a2, Si (3 : Int32), Si (0 : Int32), Si (1 : Int32), Si (0 : Int32), Sr x0, Si (own_bits z0)] [(.long (((1 : Int64) <<< ((own_bits z0) &&& 0x3f).toInt64) - (1 : Int64))), (.int (0 : Int32)), (.ref b94)])) t → Steps p.tables e below (s₁.setTop (entryFrame m #[(.ref a1), (.ref a2)] 8)) t := by
    intro t k
    refine pre162 t ?_
    refine XS.iload X159.here hx rfl (hb hby d14_81) rfl ?_
    refine XS.iload X159.here hx rfl (hb hby d14_83) rfl ?_
    refine XS.iadd X159.here hx rfl (hb hby d14_85) rfl ?_
    refine XS.bipush X159.here hx rfl (hb hby d14_86) ?_
    refine XS.icmpYes X159.here hx rfl (pc0 := 88) (pc' := 97) rfl (hb hby d14_88) rfl (flt hc163).2.2.2 (by decide) (by decide) ?_
    refine XS.aloadN X159.here hx rfl (hb hby d14_97) rfl rfl ?_
    refine st165 _ ?_
    show Steps _ _ _ (T165.setTop (mkF m 101 #[Sr a1, Sr a2, Si (3 : Int32), Si (0 : Int32), Si (1 : Int32), Si (0 : Int32), Sr x0, Si (own_bits z0)] [(.ref b54)])) _
    refine XS.iload X165.here hx rfl (hb hby d14_101) rfl ?_
    refine XS.iloadN X165.here hx rfl (hb hby d14_103) rfl ?_
    refine st169 _ ?_
    refine XS.aloadN X169.here hx rfl (hb hby d14_105) rfl rfl ?_
    refine st173 _ ?_
    refine XS.iload X173.here hx rfl (hb hby d14_109) rfl ?_
    refine XS.iload X173.here hx rfl (hb hby d14_111) rfl ?_
    refine st177 _ ?_
    refine XS.aloadN X177.here hx rfl (hb hby d14_114) rfl rfl ?_
    refine st181 _ ?_
    show Steps _ _ _ (T181.setTop (mkF m 118 #[Sr a1, Sr a2, Si (3 : Int32), Si (0 : Int32), Si (1 : Int32), Si (0 : Int32), Sr x0, Si (own_bits z0)] [(.ref b94)])) _
    refine XS.iload X181.here hx rfl (hb hby d14_118) rfl ?_
    refine XS.lconst X181.here hx rfl (hb hby d14_120) ?_
    refine XS.iload X181.here hx rfl (hb hby d14_121) rfl ?_
    refine XS.lshl X181.here hx rfl (hb hby d14_123) rfl ?_
    refine XS.lconst X181.here hx rfl (hb hby d14_124) ?_
    refine XS.lsub X181.here hx rfl (hb hby d14_125) rfl ?_
    exact k
  have pre183 : ∀ t, Steps p.tables e below (T181.setTop (mkF m 126 #[Sr a1, Sr a2, Si (3 : Int32), Si (0 : Int32), Si (1 : Int32), Si (0 : Int32), Sr x0, Si (own_bits z0)] [(.long (own_msk z0)), (.int (0 : Int32)), (.ref b94)])) t → Steps p.tables e below (s₁.setTop (entryFrame m #[(.ref a1), (.ref a2)] 8)) t := pre182
  have F184 : Arv Z h177 b94 k94 .long (3 : Int32) [(.long (0 : Int64)), (.long (0 : Int64)), (.long (0 : Int64))] (.long (0 : Int64)) := ((((F137.ext E120).other W144 (Ne.symm ne96)).other W169 (Ne.symm ne108)).other W177 (Ne.symm ne110))
  obtain ⟨c185, Arc185, Aqc185, Asc185, Anc185, Ahc185, Agc185⟩ := id F184
  have hin186 : ¬ ((0 : Int32) < 0 ∨ c185.slots.size ≤ ((0 : Int32)).toNatClampNeg) := inb_of Asc185 ⟨by decide, by decide⟩
  obtain ⟨T187, h187, X187, e187, W187, st187⟩ := stJ X181 hx hZ e181 Arc185 (j := (0 : Int32)) hin186 (g := (mkF m 126 #[Sr a1, Sr a2, Si (3 : Int32), Si (0 : Int32), Si (1 : Int32), Si (0 : Int32), Sr x0, Si (own_bits z0)] [(.long (own_msk z0)), (.int (0 : Int32)), (.ref b94)])) rfl rfl (hb hby d14_126)
  have KC188 : Keep h0 h187 [a1] := KC178.wr W187 (Or.inr sz112)
  have V187 : Arv Z h187 b94 k94 .long (3 : Int32) [(.long (own_msk z0)), (.long (0 : Int64)), (.long (0 : Int64))] (.long (0 : Int64)) := Arv.set Arc185 Aqc185 Asc185 Anc185 Ahc185 Agc185 rfl W187 0 rfl (Nat.le_of_ble_eq_true rfl)
  have N189 := Fr.snoc X187 N179 ge111
  have F190 : Fld Z h187 a1 "com/example/darlington/darlington/core/StateLayout" "firstOf" "[I" (.ref b120) := (((F146.other W169 (Or.inl ne55)).other W177 (Or.inl ne72)).other W187 (Or.inl ne96))
  obtain ⟨T191, X191, e191, st191⟩ := getF X187 hx hZ hown (host := "") (Or.inl (ow hw 109 rfl)) Via.refl e187 F190 (g := (mkF m 128 #[Sr a1, Sr a2, Si (3 : Int32), Si (0 : Int32), Si (1 : Int32), Si (0 : Int32), Sr x0, Si (own_bits z0)] [(.ref a1)])) rfl rfl (hb hby d14_128)
  have F192 : Fld Z h187 x0 "com/example/darlington/darlington/core/FiniteType" "first" "I" (.int f0) := (((((((((((Xf0.ext E54).other W66 (Or.inl nx0)).ext E70).other W90 (Or.inl nx0)).ext E94).other W116 (Or.inl nx0)).ext E120).other W144 (Or.inl nx0)).other W169 (Or.inl ne58)).other W177 (Or.inl ne78)).other W187 (Or.inl ne102))
  have F193 : Fld Z h187 x0 "com/example/darlington/darlington/core/FiniteType" "size" "I" (.int z0) := (((F156.other W169 (Or.inl ne58)).other W177 (Or.inl ne78)).other W187 (Or.inl ne102))
  have F195 : Exa Z h187 x0 "com/example/darlington/darlington/core/IntegerRange" := (((F154.wr W169).wr W177).wr W187)
  obtain ⟨cq194, kq194, q194a, q194b, q194c⟩ := isOf hZ e191 F195
  obtain ⟨_, _, ⟨T194, L194, k194, n194⟩, -, X194, ⟨Lc194, hQ194, l194, y194, z194⟩, st194⟩ := X191.virtualBack hx (y := (⟨"com/example/darlington/darlington/core/FiniteType", "valueAt", "(I)I"⟩ : MethodName)) (z := (⟨"com/example/darlington/darlington/core/FiniteType", "valueAt", "(I)I"⟩ : MethodName)) hown (mvT hZ (ow hw 143 rfl)) (mvT hZ (ow hw 144 rfl)) (notFace_of_selects (args := #[]) (mvT hZ (ow hw 146 rfl))) (mvT hZ (ow hw 146 rfl)) (mvT hZ (ow hw 145 rfl)) (by decide) (backOf (W := 2) (rm22 l Z a0 hw [] x0 f0 z0 h187 n0 (Nat.le_trans Z0 KC188.1) F192 F193 hz0) hZ (ow hw 147 rfl) (ow hw 47 rfl) (by decide) (by decide)) q194a q194c (g := (mkF m 136 #[Sr a1, Sr a2, Si (3 : Int32), Si (0 : Int32), Si (1 : Int32), Si (0 : Int32), Sr x0, Si (own_bits z0)] [(.int (0 : Int32)), (.ref x0), (.int (0 : Int32)), (.ref b120)])) rfl (by rw [hml]; rfl) (Steps.refl _) (argsL := [(.int (0 : Int32))]) (rest := [(.int (0 : Int32)), (.ref b120)]) (lenOf pd_9 rfl) rfl (by show 2 * 0 + _ ≤ _; exact Nat.le_of_eq rfl) (hb hby d14_136) (fun _ _ => ⟨rfl, e191, (by decide : 4 + 0 ≤ _), (by decide : 12 + 0 ≤ _)⟩)
  dsimp only [Pt.U, Pt.locs, Pt.cells, Pt.slots] at X194 l194 y194 z194 st194 hQ194
  subst y194 z194
  obtain ⟨rfl, Nq194, q194_0⟩ := hQ194
  have N196 := Eq.subst (motive := fun L => Fr n0 L) l194.symm (Fr.app N189 Nq194)
  have F197 : Arv Z h187 b120 k120 .int (3 : Int32) [(.int (0 : Int32)), (.int (0 : Int32)), (.int (0 : Int32))] (.int (0 : Int32)) := ((((V120.other W144 (Ne.symm ne122)).other W169 (Ne.symm ne134)).other W177 (Ne.symm ne136)).other W187 (Ne.symm ne138))
  obtain ⟨c198, Arc198, Aqc198, Asc198, Anc198, Ahc198, Agc198⟩ := id F197
  have hin199 : ¬ ((0 : Int32) < 0 ∨ c198.slots.size ≤ ((0 : Int32)).toNatClampNeg) := inb_of Asc198 ⟨by decide, by decide⟩
  obtain ⟨T200, h200, X200, e200, W200, st200⟩ := stI X194 hx hZ q194_0 Arc198 (j := (0 : Int32)) hin199 (g := (mkF m 139 #[Sr a1, Sr a2, Si (3 : Int32), Si (0 : Int32), Si (1 : Int32), Si (0 : Int32), Sr x0, Si (own_bits z0)] [(.int (f0 + (0 : Int32))), (.int (0 : Int32)), (.ref b120)])) rfl rfl (hb hby d14_139)
  have KC201 : Keep h0 h200 [a1] := KC188.wr W200 (Or.inr sz140)
  have V200 : Arv Z h200 b120 k120 .int (3 : Int32) [(.int (f0 + (0 : Int32))), (.int (0 : Int32)), (.int (0 : Int32))] (.int (0 : Int32)) := Arv.set Arc198 Aqc198 Asc198 Anc198 Ahc198 Agc198 rfl W200 0 rfl (Nat.le_of_ble_eq_true rfl)
  have N202 := Fr.snoc X200 N196 ge139
  have F203 : Exa Z h200 a2 "java/util/ArrayList" := ((((F148.wr W169).wr W177).wr W187).wr W200)
  have F204 : Fld Z h200 a2 "java/util/ArrayList" "size" "I" (.int (3 : Int32)) := ((((F149.other W169 (Or.inl ne56)).other W177 (Or.inl ne74)).other W187 (Or.inl ne98)).other W200 (Or.inl ne124))
  have F205 : Fld Z h200 a2 "java/util/ArrayList" "elementData" "[Ljava/lang/Object;" (.ref a3) := ((((F150.other W169 (Or.inl ne56)).other W177 (Or.inl ne74)).other W187 (Or.inl ne98)).other W200 (Or.inl ne124))
  have F206 : Arv Z h200 a3 k3 (.object "java/lang/Object") (10 : Int32) [(.ref x0), (.ref x1), (.ref x2), .null, .null, .null, .null, .null, .null, .null] .null := ((((F151.other W169 ne57).other W177 ne76).other W187 ne100).other W200 ne126)
  obtain ⟨cq207, kq207, q207a, q207b, q207c⟩ := isOf hZ e200 F203
  obtain ⟨_, _, ⟨T207, L207, k207, n207⟩, -, X207, ⟨Lc207, hQ207, l207, y207, z207⟩, st207⟩ := X200.interfaceBack hx (xi := (⟨"java/util/List", "get", "(I)Ljava/lang/Object;"⟩ : MethodName)) (y := (⟨"java/util/ArrayList", "get", "(I)Ljava/lang/Object;"⟩ : MethodName)) hown (mvT hZ (ow hw 111 rfl)) (mvT hZ (ow hw 112 rfl)) (mvT hZ (ow hw 113 rfl)) (mvT hZ (ow hw 114 rfl)) (mvT hZ (ow hw 115 rfl)) (mvT hZ (ow hw 116 rfl)) (mvT hZ (ow hw 117 rfl)) (mvT hZ (ow hw 61 rfl)) (by decide) (backOf (W := 0) (rm_get1 l Z a0 hw [] a2 a3 k3 x0 x1 x2 h200 n0 (Nat.le_trans Z0 KC201.1) F203 F204 F205 F206) hZ (ow hw 118 rfl) (ow hw 10 rfl) (by decide) (by decide)) q207a q207b q207c (g := (mkF m 56 #[Sr a1, Sr a2, Si (3 : Int32), Si (0 : Int32), Si ((1 : Int32) + (own_bits z0)), Si (1 : Int32), Sr x0, Si (own_bits z0)] [(.int (1 : Int32)), (.ref a2)])) rfl (by rw [hml]; rfl) (Steps.refl _) (argsL := [(.int (1 : Int32))]) (rest := []) (lenOf pd_6 rfl) rfl (by show 2 * 0 + _ ≤ _; exact Nat.le_of_eq rfl) (hb hby d14_56) (fun _ _ => ⟨rfl, e200, (by decide : 4 + 0 ≤ _), (by decide : 12 + 0 ≤ _)⟩)
  dsimp only [Pt.U, Pt.locs, Pt.cells, Pt.slots] at X207 l207 y207 z207 st207 hQ207
  subst y207 z207
  obtain ⟨rfl, Nq207, q207_0⟩ := hQ207
  have N208 := Eq.subst (motive := fun L => Fr n0 L) l207.symm (Fr.app N202 Nq207)
  have F209 : Exa Z h200 x1 "com/example/darlington/darlington/core/IntegerRange" := ((((((F129.ext E120).wr W144).wr W169).wr W177).wr W187).wr W200)
  obtain ⟨T210, X210, e210, st210⟩ := castY X207 hx hZ hown (ow hw 132 rfl) q207_0 (Ins.of_exa F209 (ow hw 133 rfl)) (g := (mkF m 61 #[Sr a1, Sr a2, Si (3 : Int32), Si (0 : Int32), Si ((1 : Int32) + (own_bits z0)), Si (1 : Int32), Sr x0, Si (own_bits z0)] [(.ref x1)])) rfl rfl (hb hby d14_61)
  have F211 : Fld Z h200 x1 "com/example/darlington/darlington/core/FiniteType" "size" "I" (.int z1) := ((((((((((((Xz1.ext E54).other W66 (Or.inl nx1)).ext E70).other W90 (Or.inl nx1)).ext E94).other W116 (Or.inl nx1)).ext E120).other W144 (Or.inl nx1)).other W169 (Or.inl ne59)).other W177 (Or.inl ne80)).other W187 (Or.inl ne104)).other W200 (Or.inl ne130))
  obtain ⟨cq212, kq212, q212a, q212b, q212c⟩ := isOf hZ e210 F209
  obtain ⟨_, _, ⟨T212, L212, k212, n212⟩, -, X212, ⟨Lc212, hQ212, l212, y212, z212⟩, st212⟩ := X210.virtualBack hx (y := (⟨"com/example/darlington/darlington/core/FiniteType", "size", "()I"⟩ : MethodName)) (z := (⟨"com/example/darlington/darlington/core/FiniteType", "size", "()I"⟩ : MethodName)) hown (mvT hZ (ow hw 134 rfl)) (mvT hZ (ow hw 135 rfl)) (notFace_of_selects (args := #[]) (mvT hZ (ow hw 137 rfl))) (mvT hZ (ow hw 137 rfl)) (mvT hZ (ow hw 136 rfl)) (by decide) (backOf (W := 1) (rm20 l Z a0 hw [] x1 z1 h200 n0 (Nat.le_trans Z0 KC201.1) F211) hZ (ow hw 138 rfl) (ow hw 47 rfl) (by decide) (by decide)) q212a q212c (g := (mkF m 70 #[Sr a1, Sr a2, Si (3 : Int32), Si (0 : Int32), Si ((1 : Int32) + (own_bits z0)), Si (1 : Int32), Sr x1, Si (own_bits z0)] [(.ref x1), (.int (32 : Int32))])) rfl (by rw [hml]; rfl) (Steps.refl _) (argsL := []) (rest := [(.int (32 : Int32))]) (lenOf pd_8 rfl) rfl (by show 2 * 0 + _ ≤ _; exact Nat.le_of_eq rfl) (hb hby d14_70) (fun _ _ => ⟨rfl, e210, (by decide : 4 + 0 ≤ _), (by decide : 12 + 0 ≤ _)⟩)
  dsimp only [Pt.U, Pt.locs, Pt.cells, Pt.slots] at X212 l212 y212 z212 st212 hQ212
  subst y212 z212
  obtain ⟨rfl, Nq212, q212_0⟩ := hQ212
  have N213 := Eq.subst (motive := fun L => Fr n0 L) l212.symm (Fr.app N208 Nq212)
  obtain ⟨_, _, ⟨T214, L214, k214, n214⟩, -, X214, ⟨Lc214, hQ214, l214, y214, z214⟩, st214⟩ := Jvm.LawKit.callS X212 hx (y := (⟨"java/lang/Integer", "numberOfLeadingZeros", "(I)I"⟩ : MethodName)) hown (mvT hZ (ow hw 139 rfl)) (mvT hZ (ow hw 140 rfl)) (mvT hZ (ow hw 141 rfl)) (mvT hZ (ow hw 142 rfl)) (by decide) (backOf (W := 1) (rm21 l Z a0 hw [] (z1 - (1 : Int32)) h200 n0 (Nat.le_trans Z0 KC201.1)) hZ (ow hw 142 rfl) (ow hw 141 rfl) (by decide) (by decide)) (g := (mkF m 75 #[Sr a1, Sr a2, Si (3 : Int32), Si (0 : Int32), Si ((1 : Int32) + (own_bits z0)), Si (1 : Int32), Sr x1, Si (own_bits z0)] [(.int (z1 - (1 : Int32))), (.int (32 : Int32))])) rfl (by rw [hml]; rfl) (argsL := [(.int (z1 - (1 : Int32)))]) (rest := [(.int (32 : Int32))]) (lenOf pd_9 rfl) rfl (by show 2 * 0 + _ ≤ _; exact Nat.le_of_eq rfl) (hb hby d14_75) (fun _ _ => ⟨rfl, q212_0, (by decide : 4 + 0 ≤ _), (by decide : 12 + 0 ≤ _)⟩)
  dsimp only [Pt.U, Pt.locs, Pt.cells, Pt.slots] at X214 l214 y214 z214 st214 hQ214
  subst y214 z214
  obtain ⟨rfl, Nq214, q214_0⟩ := hQ214
  have N215 := Eq.subst (motive := fun L => Fr n0 L) l214.symm (Fr.app N213 Nq214)
  have pre216 : ∀ t, Steps p.tables e below (T214.setTop (mkF m 81 #[Sr a1, Sr a2, Si (3 : Int32), Si (0 : Int32), Si ((1 : Int32) + (own_bits z0)), Si (1 : Int32), Sr x1, Si ((32 : Int32) - (own_nlz (z1 - (1 : Int32))))] [])) t → Steps p.tables e below (s₁.setTop (entryFrame m #[(.ref a1), (.ref a2)] 8)) t := by
    intro t k
    refine pre183 t ?_
    refine st187 _ ?_
    refine XS.aloadN X187.here hx rfl (hb hby d14_127) rfl rfl ?_
    refine st191 _ ?_
    refine XS.iload X191.here hx rfl (hb hby d14_131) rfl ?_
    show Steps _ _ _ (T191.setTop (mkF m 133 #[Sr a1, Sr a2, Si (3 : Int32), Si (0 : Int32), Si (1 : Int32), Si (0 : Int32), Sr x0, Si (own_bits z0)] [(.int (0 : Int32)), (.ref b120)])) _
    refine XS.aload X191.here hx rfl (hb hby d14_133) rfl rfl ?_
    refine XS.iconst X191.here hx rfl (hb hby d14_135) ?_
    refine st194.trans ?_
    refine st200 _ ?_
    refine XS.iload X200.here hx rfl (hb hby d14_140) rfl ?_
    refine XS.iload X200.here hx rfl (hb hby d14_142) rfl ?_
    refine XS.iadd X200.here hx rfl (hb hby d14_144) rfl ?_
    refine XS.istore X200.here hx rfl (hb hby d14_145) rfl (l' := #[Sr a1, Sr a2, Si (3 : Int32), Si (0 : Int32), Si ((1 : Int32) + (own_bits z0)), Si (0 : Int32), Sr x0, Si (own_bits z0)]) rfl ?_
    refine XS.iinc X200.here hx rfl (hb hby d14_147) rfl (l' := #[Sr a1, Sr a2, Si (3 : Int32), Si (0 : Int32), Si ((1 : Int32) + (own_bits z0)), Si (1 : Int32), Sr x0, Si (own_bits z0)]) rfl ?_
    refine XS.goto X200.here hx rfl (pc0 := 150) (pc' := 47) rfl (hb hby d14_150) (by decide) (by decide) ?_
    show Steps _ _ _ (T200.setTop (mkF m 47 #[Sr a1, Sr a2, Si (3 : Int32), Si (0 : Int32), Si ((1 : Int32) + (own_bits z0)), Si (1 : Int32), Sr x0, Si (own_bits z0)] [])) _
    refine XS.iload X200.here hx rfl (hb hby d14_47) rfl ?_
    refine XS.iloadN X200.here hx rfl (hb hby d14_49) rfl ?_
    refine XS.icmpNo X200.here hx rfl (hb hby d14_50) rfl (tlt (by decide)).2.1 ?_
    refine XS.aloadN X200.here hx rfl (hb hby d14_53) rfl rfl ?_
    refine XS.iload X200.here hx rfl (hb hby d14_54) rfl ?_
    refine st207.trans ?_
    refine st210 _ ?_
    refine XS.astore X210.here hx rfl (hb hby d14_64) rfl rfl (l' := #[Sr a1, Sr a2, Si (3 : Int32), Si (0 : Int32), Si ((1 : Int32) + (own_bits z0)), Si (1 : Int32), Sr x1, Si (own_bits z0)]) rfl ?_
    refine XS.bipush X210.here hx rfl (hb hby d14_66) ?_
    refine XS.aload X210.here hx rfl (hb hby d14_68) rfl rfl ?_
    show Steps _ _ _ (T210.setTop (mkF m 70 #[Sr a1, Sr a2, Si (3 : Int32), Si (0 : Int32), Si ((1 : Int32) + (own_bits z0)), Si (1 : Int32), Sr x1, Si (own_bits z0)] [(.ref x1), (.int (32 : Int32))])) _
    refine st212.trans ?_
    refine XS.iconst X212.here hx rfl (hb hby d14_73) ?_
    refine XS.isub X212.here hx rfl (hb hby d14_74) rfl ?_
    refine st214 _ ?_
    refine XS.isub X214.here hx rfl (hb hby d14_78) rfl ?_
    refine XS.istore X214.here hx rfl (hb hby d14_79) rfl (l' := #[Sr a1, Sr a2, Si (3 : Int32), Si (0 : Int32), Si ((1 : Int32) + (own_bits z0)), Si (1 : Int32), Sr x1, Si ((32 : Int32) - (own_nlz (z1 - (1 : Int32))))]) rfl ?_
    exact k
  have pre217 : ∀ t, Steps p.tables e below (T214.setTop (mkF m 81 #[Sr a1, Sr a2, Si (3 : Int32), Si (0 : Int32), Si ((1 : Int32) + (own_bits z0)), Si (1 : Int32), Sr x1, Si (own_bits z1)] [])) t → Steps p.tables e below (s₁.setTop (entryFrame m #[(.ref a1), (.ref a2)] 8)) t := pre216
  have hc218 : ¬ ((64 : Int32) < (((1 : Int32) + (own_bits z0)) + (own_bits z1))) := hu1
  have F219 : Fld Z h200 a1 "com/example/darlington/darlington/core/StateLayout" "wordOf" "[I" (.ref b54) := ((((F164.other W169 (Or.inl ne55)).other W177 (Or.inl ne72)).other W187 (Or.inl ne96)).other W200 (Or.inl ne122))
  obtain ⟨T220, X220, e220, st220⟩ := getF X214 hx hZ hown (host := "") (Or.inl (ow hw 102 rfl)) Via.refl q214_0 F219 (g := (mkF m 98 #[Sr a1, Sr a2, Si (3 : Int32), Si (0 : Int32), Si ((1 : Int32) + (own_bits z0)), Si (1 : Int32), Sr x1, Si (own_bits z1)] [(.ref a1)])) rfl rfl (hb hby d14_98)
  have F221 : Arv Z h200 b54 k54 .int (3 : Int32) [(.int (0 : Int32)), (.int (0 : Int32)), (.int (0 : Int32))] (.int (0 : Int32)) := (((V169.other W177 ne84).other W187 ne108).other W200 ne134)
  obtain ⟨c222, Arc222, Aqc222, Asc222, Anc222, Ahc222, Agc222⟩ := id F221
  have hin223 : ¬ ((1 : Int32) < 0 ∨ c222.slots.size ≤ ((1 : Int32)).toNatClampNeg) := inb_of Asc222 ⟨by decide, by decide⟩
  obtain ⟨T224, h224, X224, e224, W224, st224⟩ := stI X220 hx hZ e220 Arc222 (j := (1 : Int32)) hin223 (g := (mkF m 104 #[Sr a1, Sr a2, Si (3 : Int32), Si (0 : Int32), Si ((1 : Int32) + (own_bits z0)), Si (1 : Int32), Sr x1, Si (own_bits z1)] [(.int (0 : Int32)), (.int (1 : Int32)), (.ref b54)])) rfl rfl (hb hby d14_104)
  have KC225 : Keep h0 h224 [a1] := KC201.wr W224 (Or.inr sz62)
  have V224 : Arv Z h224 b54 k54 .int (3 : Int32) [(.int (0 : Int32)), (.int (0 : Int32)), (.int (0 : Int32))] (.int (0 : Int32)) := Arv.set Arc222 Aqc222 Asc222 Anc222 Ahc222 Agc222 rfl W224 1 rfl (Nat.le_of_ble_eq_true rfl)
  have N226 := Fr.snoc X224 N215 ge61
  have F227 : Fld Z h224 a1 "com/example/darlington/darlington/core/StateLayout" "shiftOf" "[I" (.ref b70) := ((((F172.other W177 (Or.inl ne72)).other W187 (Or.inl ne96)).other W200 (Or.inl ne122)).other W224 (Or.inl ne55))
  obtain ⟨T228, X228, e228, st228⟩ := getF X224 hx hZ hown (host := "") (Or.inl (ow hw 104 rfl)) Via.refl e224 F227 (g := (mkF m 106 #[Sr a1, Sr a2, Si (3 : Int32), Si (0 : Int32), Si ((1 : Int32) + (own_bits z0)), Si (1 : Int32), Sr x1, Si (own_bits z1)] [(.ref a1)])) rfl rfl (hb hby d14_106)
  have F229 : Arv Z h224 b70 k70 .int (3 : Int32) [(.int (1 : Int32)), (.int (0 : Int32)), (.int (0 : Int32))] (.int (0 : Int32)) := (((V177.other W187 ne110).other W200 ne136).other W224 (Ne.symm ne84))
  obtain ⟨c230, Arc230, Aqc230, Asc230, Anc230, Ahc230, Agc230⟩ := id F229
  have hin231 : ¬ ((1 : Int32) < 0 ∨ c230.slots.size ≤ ((1 : Int32)).toNatClampNeg) := inb_of Asc230 ⟨by decide, by decide⟩
  obtain ⟨T232, h232, X232, e232, W232, st232⟩ := stI X228 hx hZ e228 Arc230 (j := (1 : Int32)) hin231 (g := (mkF m 113 #[Sr a1, Sr a2, Si (3 : Int32), Si (0 : Int32), Si ((1 : Int32) + (own_bits z0)), Si (1 : Int32), Sr x1, Si (own_bits z1)] [(.int ((1 : Int32) + (own_bits z0))), (.int (1 : Int32)), (.ref b70)])) rfl rfl (hb hby d14_113)
  have KC233 : Keep h0 h232 [a1] := KC225.wr W232 (Or.inr sz86)
  have V232 : Arv Z h232 b70 k70 .int (3 : Int32) [(.int (1 : Int32)), (.int ((1 : Int32) + (own_bits z0))), (.int (0 : Int32))] (.int (0 : Int32)) := Arv.set Arc230 Aqc230 Asc230 Anc230 Ahc230 Agc230 rfl W232 1 rfl (Nat.le_of_ble_eq_true rfl)
  have N234 := Fr.snoc X232 N226 ge85
  have F235 : Fld Z h232 a1 "com/example/darlington/darlington/core/StateLayout" "maskOf" "[J" (.ref b94) := ((((F180.other W187 (Or.inl ne96)).other W200 (Or.inl ne122)).other W224 (Or.inl ne55)).other W232 (Or.inl ne72))
  obtain ⟨T236, X236, e236, st236⟩ := getF X232 hx hZ hown (host := "") (Or.inl (ow hw 107 rfl)) Via.refl e232 F235 (g := (mkF m 115 #[Sr a1, Sr a2, Si (3 : Int32), Si (0 : Int32), Si ((1 : Int32) + (own_bits z0)), Si (1 : Int32), Sr x1, Si (own_bits z1)] [(.ref a1)])) rfl rfl (hb hby d14_115)
  have pre237 : ∀ t, Steps p.tables e below (T236.setTop (mkF m 126 #[Sr a1, Sr a2, Si (3 : Int32), Si (0 : Int32), Si ((1 : Int32) + (own_bits z0)), Si (1 : Int32), Sr x1, Si (own_bits z1)] [(.long (((1 : Int64) <<< ((own_bits z1) &&& 0x3f).toInt64) - (1 : Int64))), (.int (1 : Int32)), (.ref b94)])) t → Steps p.tables e below (s₁.setTop (entryFrame m #[(.ref a1), (.ref a2)] 8)) t := by
    intro t k
    refine pre217 t ?_
    refine XS.iload X214.here hx rfl (hb hby d14_81) rfl ?_
    refine XS.iload X214.here hx rfl (hb hby d14_83) rfl ?_
    refine XS.iadd X214.here hx rfl (hb hby d14_85) rfl ?_
    refine XS.bipush X214.here hx rfl (hb hby d14_86) ?_
    show Steps _ _ _ (T214.setTop (mkF m 88 #[Sr a1, Sr a2, Si (3 : Int32), Si (0 : Int32), Si ((1 : Int32) + (own_bits z0)), Si (1 : Int32), Sr x1, Si (own_bits z1)] [(.int (64 : Int32)), (.int (((1 : Int32) + (own_bits z0)) + (own_bits z1)))])) _
    refine XS.icmpYes X214.here hx rfl (pc0 := 88) (pc' := 97) rfl (hb hby d14_88) rfl (flt hc218).2.2.2 (by decide) (by decide) ?_
    refine XS.aloadN X214.here hx rfl (hb hby d14_97) rfl rfl ?_
    refine st220 _ ?_
    refine XS.iload X220.here hx rfl (hb hby d14_101) rfl ?_
    refine XS.iloadN X220.here hx rfl (hb hby d14_103) rfl ?_
    refine st224 _ ?_
    refine XS.aloadN X224.here hx rfl (hb hby d14_105) rfl rfl ?_
    refine st228 _ ?_
    refine XS.iload X228.here hx rfl (hb hby d14_109) rfl ?_
    refine XS.iload X228.here hx rfl (hb hby d14_111) rfl ?_
    show Steps _ _ _ (T228.setTop (mkF m 113 #[Sr a1, Sr a2, Si (3 : Int32), Si (0 : Int32), Si ((1 : Int32) + (own_bits z0)), Si (1 : Int32), Sr x1, Si (own_bits z1)] [(.int ((1 : Int32) + (own_bits z0))), (.int (1 : Int32)), (.ref b70)])) _
    refine st232 _ ?_
    refine XS.aloadN X232.here hx rfl (hb hby d14_114) rfl rfl ?_
    refine st236 _ ?_
    refine XS.iload X236.here hx rfl (hb hby d14_118) rfl ?_
    refine XS.lconst X236.here hx rfl (hb hby d14_120) ?_
    refine XS.iload X236.here hx rfl (hb hby d14_121) rfl ?_
    refine XS.lshl X236.here hx rfl (hb hby d14_123) rfl ?_
    refine XS.lconst X236.here hx rfl (hb hby d14_124) ?_
    refine XS.lsub X236.here hx rfl (hb hby d14_125) rfl ?_
    exact k
  have pre238 : ∀ t, Steps p.tables e below (T236.setTop (mkF m 126 #[Sr a1, Sr a2, Si (3 : Int32), Si (0 : Int32), Si ((1 : Int32) + (own_bits z0)), Si (1 : Int32), Sr x1, Si (own_bits z1)] [(.long (own_msk z1)), (.int (1 : Int32)), (.ref b94)])) t → Steps p.tables e below (s₁.setTop (entryFrame m #[(.ref a1), (.ref a2)] 8)) t := pre237
  have F239 : Arv Z h232 b94 k94 .long (3 : Int32) [(.long (own_msk z0)), (.long (0 : Int64)), (.long (0 : Int64))] (.long (0 : Int64)) := (((V187.other W200 ne138).other W224 (Ne.symm ne108)).other W232 (Ne.symm ne110))
  obtain ⟨c240, Arc240, Aqc240, Asc240, Anc240, Ahc240, Agc240⟩ := id F239
  have hin241 : ¬ ((1 : Int32) < 0 ∨ c240.slots.size ≤ ((1 : Int32)).toNatClampNeg) := inb_of Asc240 ⟨by decide, by decide⟩
  obtain ⟨T242, h242, X242, e242, W242, st242⟩ := stJ X236 hx hZ e236 Arc240 (j := (1 : Int32)) hin241 (g := (mkF m 126 #[Sr a1, Sr a2, Si (3 : Int32), Si (0 : Int32), Si ((1 : Int32) + (own_bits z0)), Si (1 : Int32), Sr x1, Si (own_bits z1)] [(.long (own_msk z1)), (.int (1 : Int32)), (.ref b94)])) rfl rfl (hb hby d14_126)
  have KC243 : Keep h0 h242 [a1] := KC233.wr W242 (Or.inr sz112)
  have V242 : Arv Z h242 b94 k94 .long (3 : Int32) [(.long (own_msk z0)), (.long (own_msk z1)), (.long (0 : Int64))] (.long (0 : Int64)) := Arv.set Arc240 Aqc240 Asc240 Anc240 Ahc240 Agc240 rfl W242 1 rfl (Nat.le_of_ble_eq_true rfl)
  have N244 := Fr.snoc X242 N234 ge111
  have F245 : Fld Z h242 a1 "com/example/darlington/darlington/core/StateLayout" "firstOf" "[I" (.ref b120) := ((((F190.other W200 (Or.inl ne122)).other W224 (Or.inl ne55)).other W232 (Or.inl ne72)).other W242 (Or.inl ne96))
  obtain ⟨T246, X246, e246, st246⟩ := getF X242 hx hZ hown (host := "") (Or.inl (ow hw 109 rfl)) Via.refl e242 F245 (g := (mkF m 128 #[Sr a1, Sr a2, Si (3 : Int32), Si (0 : Int32), Si ((1 : Int32) + (own_bits z0)), Si (1 : Int32), Sr x1, Si (own_bits z1)] [(.ref a1)])) rfl rfl (hb hby d14_128)
  have F247 : Fld Z h242 x1 "com/example/darlington/darlington/core/FiniteType" "first" "I" (.int f1) := (((((((((((((((Xf1.ext E54).other W66 (Or.inl nx1)).ext E70).other W90 (Or.inl nx1)).ext E94).other W116 (Or.inl nx1)).ext E120).other W144 (Or.inl nx1)).other W169 (Or.inl ne59)).other W177 (Or.inl ne80)).other W187 (Or.inl ne104)).other W200 (Or.inl ne130)).other W224 (Or.inl ne59)).other W232 (Or.inl ne80)).other W242 (Or.inl ne104))
  have F248 : Fld Z h242 x1 "com/example/darlington/darlington/core/FiniteType" "size" "I" (.int z1) := (((F211.other W224 (Or.inl ne59)).other W232 (Or.inl ne80)).other W242 (Or.inl ne104))
  have F250 : Exa Z h242 x1 "com/example/darlington/darlington/core/IntegerRange" := (((F209.wr W224).wr W232).wr W242)
  obtain ⟨cq249, kq249, q249a, q249b, q249c⟩ := isOf hZ e246 F250
  obtain ⟨_, _, ⟨T249, L249, k249, n249⟩, -, X249, ⟨Lc249, hQ249, l249, y249, z249⟩, st249⟩ := X246.virtualBack hx (y := (⟨"com/example/darlington/darlington/core/FiniteType", "valueAt", "(I)I"⟩ : MethodName)) (z := (⟨"com/example/darlington/darlington/core/FiniteType", "valueAt", "(I)I"⟩ : MethodName)) hown (mvT hZ (ow hw 143 rfl)) (mvT hZ (ow hw 144 rfl)) (notFace_of_selects (args := #[]) (mvT hZ (ow hw 146 rfl))) (mvT hZ (ow hw 146 rfl)) (mvT hZ (ow hw 145 rfl)) (by decide) (backOf (W := 2) (rm22 l Z a0 hw [] x1 f1 z1 h242 n0 (Nat.le_trans Z0 KC243.1) F247 F248 hz1) hZ (ow hw 147 rfl) (ow hw 47 rfl) (by decide) (by decide)) q249a q249c (g := (mkF m 136 #[Sr a1, Sr a2, Si (3 : Int32), Si (0 : Int32), Si ((1 : Int32) + (own_bits z0)), Si (1 : Int32), Sr x1, Si (own_bits z1)] [(.int (0 : Int32)), (.ref x1), (.int (1 : Int32)), (.ref b120)])) rfl (by rw [hml]; rfl) (Steps.refl _) (argsL := [(.int (0 : Int32))]) (rest := [(.int (1 : Int32)), (.ref b120)]) (lenOf pd_9 rfl) rfl (by show 2 * 0 + _ ≤ _; exact Nat.le_of_eq rfl) (hb hby d14_136) (fun _ _ => ⟨rfl, e246, (by decide : 4 + 0 ≤ _), (by decide : 12 + 0 ≤ _)⟩)
  dsimp only [Pt.U, Pt.locs, Pt.cells, Pt.slots] at X249 l249 y249 z249 st249 hQ249
  subst y249 z249
  obtain ⟨rfl, Nq249, q249_0⟩ := hQ249
  have N251 := Eq.subst (motive := fun L => Fr n0 L) l249.symm (Fr.app N244 Nq249)
  have F252 : Arv Z h242 b120 k120 .int (3 : Int32) [(.int (f0 + (0 : Int32))), (.int (0 : Int32)), (.int (0 : Int32))] (.int (0 : Int32)) := (((V200.other W224 (Ne.symm ne134)).other W232 (Ne.symm ne136)).other W242 (Ne.symm ne138))
  obtain ⟨c253, Arc253, Aqc253, Asc253, Anc253, Ahc253, Agc253⟩ := id F252
  have hin254 : ¬ ((1 : Int32) < 0 ∨ c253.slots.size ≤ ((1 : Int32)).toNatClampNeg) := inb_of Asc253 ⟨by decide, by decide⟩
  obtain ⟨T255, h255, X255, e255, W255, st255⟩ := stI X249 hx hZ q249_0 Arc253 (j := (1 : Int32)) hin254 (g := (mkF m 139 #[Sr a1, Sr a2, Si (3 : Int32), Si (0 : Int32), Si ((1 : Int32) + (own_bits z0)), Si (1 : Int32), Sr x1, Si (own_bits z1)] [(.int (f1 + (0 : Int32))), (.int (1 : Int32)), (.ref b120)])) rfl rfl (hb hby d14_139)
  have KC256 : Keep h0 h255 [a1] := KC243.wr W255 (Or.inr sz140)
  have V255 : Arv Z h255 b120 k120 .int (3 : Int32) [(.int (f0 + (0 : Int32))), (.int (f1 + (0 : Int32))), (.int (0 : Int32))] (.int (0 : Int32)) := Arv.set Arc253 Aqc253 Asc253 Anc253 Ahc253 Agc253 rfl W255 1 rfl (Nat.le_of_ble_eq_true rfl)
  have N257 := Fr.snoc X255 N251 ge139
  have F258 : Exa Z h255 a2 "java/util/ArrayList" := ((((F203.wr W224).wr W232).wr W242).wr W255)
  have F259 : Fld Z h255 a2 "java/util/ArrayList" "size" "I" (.int (3 : Int32)) := ((((F204.other W224 (Or.inl ne56)).other W232 (Or.inl ne74)).other W242 (Or.inl ne98)).other W255 (Or.inl ne124))
  have F260 : Fld Z h255 a2 "java/util/ArrayList" "elementData" "[Ljava/lang/Object;" (.ref a3) := ((((F205.other W224 (Or.inl ne56)).other W232 (Or.inl ne74)).other W242 (Or.inl ne98)).other W255 (Or.inl ne124))
  have F261 : Arv Z h255 a3 k3 (.object "java/lang/Object") (10 : Int32) [(.ref x0), (.ref x1), (.ref x2), .null, .null, .null, .null, .null, .null, .null] .null := ((((F206.other W224 ne57).other W232 ne76).other W242 ne100).other W255 ne126)
  obtain ⟨cq262, kq262, q262a, q262b, q262c⟩ := isOf hZ e255 F258
  obtain ⟨_, _, ⟨T262, L262, k262, n262⟩, -, X262, ⟨Lc262, hQ262, l262, y262, z262⟩, st262⟩ := X255.interfaceBack hx (xi := (⟨"java/util/List", "get", "(I)Ljava/lang/Object;"⟩ : MethodName)) (y := (⟨"java/util/ArrayList", "get", "(I)Ljava/lang/Object;"⟩ : MethodName)) hown (mvT hZ (ow hw 111 rfl)) (mvT hZ (ow hw 112 rfl)) (mvT hZ (ow hw 113 rfl)) (mvT hZ (ow hw 114 rfl)) (mvT hZ (ow hw 115 rfl)) (mvT hZ (ow hw 116 rfl)) (mvT hZ (ow hw 117 rfl)) (mvT hZ (ow hw 61 rfl)) (by decide) (backOf (W := 0) (rm_get2 l Z a0 hw [] a2 a3 k3 x0 x1 x2 h255 n0 (Nat.le_trans Z0 KC256.1) F258 F259 F260 F261) hZ (ow hw 118 rfl) (ow hw 10 rfl) (by decide) (by decide)) q262a q262b q262c (g := (mkF m 56 #[Sr a1, Sr a2, Si (3 : Int32), Si (0 : Int32), Si (((1 : Int32) + (own_bits z0)) + (own_bits z1)), Si (2 : Int32), Sr x1, Si (own_bits z1)] [(.int (2 : Int32)), (.ref a2)])) rfl (by rw [hml]; rfl) (Steps.refl _) (argsL := [(.int (2 : Int32))]) (rest := []) (lenOf pd_6 rfl) rfl (by show 2 * 0 + _ ≤ _; exact Nat.le_of_eq rfl) (hb hby d14_56) (fun _ _ => ⟨rfl, e255, (by decide : 4 + 0 ≤ _), (by decide : 12 + 0 ≤ _)⟩)
  dsimp only [Pt.U, Pt.locs, Pt.cells, Pt.slots] at X262 l262 y262 z262 st262 hQ262
  subst y262 z262
  obtain ⟨rfl, Nq262, q262_0⟩ := hQ262
  have N263 := Eq.subst (motive := fun L => Fr n0 L) l262.symm (Fr.app N257 Nq262)
  have F264 : Exa Z h255 x2 "com/example/darlington/darlington/core/IntegerRange" := ((((((((((F131.ext E120).wr W144).wr W169).wr W177).wr W187).wr W200).wr W224).wr W232).wr W242).wr W255)
  obtain ⟨T265, X265, e265, st265⟩ := castY X262 hx hZ hown (ow hw 132 rfl) q262_0 (Ins.of_exa F264 (ow hw 133 rfl)) (g := (mkF m 61 #[Sr a1, Sr a2, Si (3 : Int32), Si (0 : Int32), Si (((1 : Int32) + (own_bits z0)) + (own_bits z1)), Si (2 : Int32), Sr x1, Si (own_bits z1)] [(.ref x2)])) rfl rfl (hb hby d14_61)
  have F266 : Fld Z h255 x2 "com/example/darlington/darlington/core/FiniteType" "size" "I" (.int z2) := ((((((((((((((((Xz2.ext E54).other W66 (Or.inl nx2)).ext E70).other W90 (Or.inl nx2)).ext E94).other W116 (Or.inl nx2)).ext E120).other W144 (Or.inl nx2)).other W169 (Or.inl ne60)).other W177 (Or.inl ne82)).other W187 (Or.inl ne106)).other W200 (Or.inl ne132)).other W224 (Or.inl ne60)).other W232 (Or.inl ne82)).other W242 (Or.inl ne106)).other W255 (Or.inl ne132))
  obtain ⟨cq267, kq267, q267a, q267b, q267c⟩ := isOf hZ e265 F264
  obtain ⟨_, _, ⟨T267, L267, k267, n267⟩, -, X267, ⟨Lc267, hQ267, l267, y267, z267⟩, st267⟩ := X265.virtualBack hx (y := (⟨"com/example/darlington/darlington/core/FiniteType", "size", "()I"⟩ : MethodName)) (z := (⟨"com/example/darlington/darlington/core/FiniteType", "size", "()I"⟩ : MethodName)) hown (mvT hZ (ow hw 134 rfl)) (mvT hZ (ow hw 135 rfl)) (notFace_of_selects (args := #[]) (mvT hZ (ow hw 137 rfl))) (mvT hZ (ow hw 137 rfl)) (mvT hZ (ow hw 136 rfl)) (by decide) (backOf (W := 1) (rm20 l Z a0 hw [] x2 z2 h255 n0 (Nat.le_trans Z0 KC256.1) F266) hZ (ow hw 138 rfl) (ow hw 47 rfl) (by decide) (by decide)) q267a q267c (g := (mkF m 70 #[Sr a1, Sr a2, Si (3 : Int32), Si (0 : Int32), Si (((1 : Int32) + (own_bits z0)) + (own_bits z1)), Si (2 : Int32), Sr x2, Si (own_bits z1)] [(.ref x2), (.int (32 : Int32))])) rfl (by rw [hml]; rfl) (Steps.refl _) (argsL := []) (rest := [(.int (32 : Int32))]) (lenOf pd_8 rfl) rfl (by show 2 * 0 + _ ≤ _; exact Nat.le_of_eq rfl) (hb hby d14_70) (fun _ _ => ⟨rfl, e265, (by decide : 4 + 0 ≤ _), (by decide : 12 + 0 ≤ _)⟩)
  dsimp only [Pt.U, Pt.locs, Pt.cells, Pt.slots] at X267 l267 y267 z267 st267 hQ267
  subst y267 z267
  obtain ⟨rfl, Nq267, q267_0⟩ := hQ267
  have N268 := Eq.subst (motive := fun L => Fr n0 L) l267.symm (Fr.app N263 Nq267)
  obtain ⟨_, _, ⟨T269, L269, k269, n269⟩, -, X269, ⟨Lc269, hQ269, l269, y269, z269⟩, st269⟩ := Jvm.LawKit.callS X267 hx (y := (⟨"java/lang/Integer", "numberOfLeadingZeros", "(I)I"⟩ : MethodName)) hown (mvT hZ (ow hw 139 rfl)) (mvT hZ (ow hw 140 rfl)) (mvT hZ (ow hw 141 rfl)) (mvT hZ (ow hw 142 rfl)) (by decide) (backOf (W := 1) (rm21 l Z a0 hw [] (z2 - (1 : Int32)) h255 n0 (Nat.le_trans Z0 KC256.1)) hZ (ow hw 142 rfl) (ow hw 141 rfl) (by decide) (by decide)) (g := (mkF m 75 #[Sr a1, Sr a2, Si (3 : Int32), Si (0 : Int32), Si (((1 : Int32) + (own_bits z0)) + (own_bits z1)), Si (2 : Int32), Sr x2, Si (own_bits z1)] [(.int (z2 - (1 : Int32))), (.int (32 : Int32))])) rfl (by rw [hml]; rfl) (argsL := [(.int (z2 - (1 : Int32)))]) (rest := [(.int (32 : Int32))]) (lenOf pd_9 rfl) rfl (by show 2 * 0 + _ ≤ _; exact Nat.le_of_eq rfl) (hb hby d14_75) (fun _ _ => ⟨rfl, q267_0, (by decide : 4 + 0 ≤ _), (by decide : 12 + 0 ≤ _)⟩)
  dsimp only [Pt.U, Pt.locs, Pt.cells, Pt.slots] at X269 l269 y269 z269 st269 hQ269
  subst y269 z269
  obtain ⟨rfl, Nq269, q269_0⟩ := hQ269
  have N270 := Eq.subst (motive := fun L => Fr n0 L) l269.symm (Fr.app N268 Nq269)
  have pre271 : ∀ t, Steps p.tables e below (T269.setTop (mkF m 81 #[Sr a1, Sr a2, Si (3 : Int32), Si (0 : Int32), Si (((1 : Int32) + (own_bits z0)) + (own_bits z1)), Si (2 : Int32), Sr x2, Si ((32 : Int32) - (own_nlz (z2 - (1 : Int32))))] [])) t → Steps p.tables e below (s₁.setTop (entryFrame m #[(.ref a1), (.ref a2)] 8)) t := by
    intro t k
    refine pre238 t ?_
    refine st242 _ ?_
    show Steps _ _ _ (T242.setTop (mkF m 127 #[Sr a1, Sr a2, Si (3 : Int32), Si (0 : Int32), Si ((1 : Int32) + (own_bits z0)), Si (1 : Int32), Sr x1, Si (own_bits z1)] [])) _
    refine XS.aloadN X242.here hx rfl (hb hby d14_127) rfl rfl ?_
    refine st246 _ ?_
    refine XS.iload X246.here hx rfl (hb hby d14_131) rfl ?_
    refine XS.aload X246.here hx rfl (hb hby d14_133) rfl rfl ?_
    refine XS.iconst X246.here hx rfl (hb hby d14_135) ?_
    refine st249.trans ?_
    refine st255 _ ?_
    refine XS.iload X255.here hx rfl (hb hby d14_140) rfl ?_
    refine XS.iload X255.here hx rfl (hb hby d14_142) rfl ?_
    refine XS.iadd X255.here hx rfl (hb hby d14_144) rfl ?_
    show Steps _ _ _ (T255.setTop (mkF m 145 #[Sr a1, Sr a2, Si (3 : Int32), Si (0 : Int32), Si ((1 : Int32) + (own_bits z0)), Si (1 : Int32), Sr x1, Si (own_bits z1)] [(.int (((1 : Int32) + (own_bits z0)) + (own_bits z1)))])) _
    refine XS.istore X255.here hx rfl (hb hby d14_145) rfl (l' := #[Sr a1, Sr a2, Si (3 : Int32), Si (0 : Int32), Si (((1 : Int32) + (own_bits z0)) + (own_bits z1)), Si (1 : Int32), Sr x1, Si (own_bits z1)]) rfl ?_
    refine XS.iinc X255.here hx rfl (hb hby d14_147) rfl (l' := #[Sr a1, Sr a2, Si (3 : Int32), Si (0 : Int32), Si (((1 : Int32) + (own_bits z0)) + (own_bits z1)), Si (2 : Int32), Sr x1, Si (own_bits z1)]) rfl ?_
    refine XS.goto X255.here hx rfl (pc0 := 150) (pc' := 47) rfl (hb hby d14_150) (by decide) (by decide) ?_
    refine XS.iload X255.here hx rfl (hb hby d14_47) rfl ?_
    refine XS.iloadN X255.here hx rfl (hb hby d14_49) rfl ?_
    refine XS.icmpNo X255.here hx rfl (hb hby d14_50) rfl (tlt (by decide)).2.1 ?_
    refine XS.aloadN X255.here hx rfl (hb hby d14_53) rfl rfl ?_
    refine XS.iload X255.here hx rfl (hb hby d14_54) rfl ?_
    refine st262.trans ?_
    refine st265 _ ?_
    show Steps _ _ _ (T265.setTop (mkF m 64 #[Sr a1, Sr a2, Si (3 : Int32), Si (0 : Int32), Si (((1 : Int32) + (own_bits z0)) + (own_bits z1)), Si (2 : Int32), Sr x1, Si (own_bits z1)] [(.ref x2)])) _
    refine XS.astore X265.here hx rfl (hb hby d14_64) rfl rfl (l' := #[Sr a1, Sr a2, Si (3 : Int32), Si (0 : Int32), Si (((1 : Int32) + (own_bits z0)) + (own_bits z1)), Si (2 : Int32), Sr x2, Si (own_bits z1)]) rfl ?_
    refine XS.bipush X265.here hx rfl (hb hby d14_66) ?_
    refine XS.aload X265.here hx rfl (hb hby d14_68) rfl rfl ?_
    refine st267.trans ?_
    refine XS.iconst X267.here hx rfl (hb hby d14_73) ?_
    refine XS.isub X267.here hx rfl (hb hby d14_74) rfl ?_
    refine st269 _ ?_
    refine XS.isub X269.here hx rfl (hb hby d14_78) rfl ?_
    refine XS.istore X269.here hx rfl (hb hby d14_79) rfl (l' := #[Sr a1, Sr a2, Si (3 : Int32), Si (0 : Int32), Si (((1 : Int32) + (own_bits z0)) + (own_bits z1)), Si (2 : Int32), Sr x2, Si ((32 : Int32) - (own_nlz (z2 - (1 : Int32))))]) rfl ?_
    exact k
  have pre272 : ∀ t, Steps p.tables e below (T269.setTop (mkF m 81 #[Sr a1, Sr a2, Si (3 : Int32), Si (0 : Int32), Si (((1 : Int32) + (own_bits z0)) + (own_bits z1)), Si (2 : Int32), Sr x2, Si (own_bits z2)] [])) t → Steps p.tables e below (s₁.setTop (entryFrame m #[(.ref a1), (.ref a2)] 8)) t := pre271
  have pre274 : ∀ t, Steps p.tables e below (T269.setTop (mkF m 97 #[Sr a1, Sr a2, Si (3 : Int32), Si (if (64 : Int32) < ((((1 : Int32) + (own_bits z0)) + (own_bits z1)) + (own_bits z2)) then (1 : Int32) else (0 : Int32)), Si (if (64 : Int32) < ((((1 : Int32) + (own_bits z0)) + (own_bits z1)) + (own_bits z2)) then (0 : Int32) else (((1 : Int32) + (own_bits z0)) + (own_bits z1))), Si (2 : Int32), Sr x2, Si (own_bits z2)] [])) t → Steps p.tables e below (s₁.setTop (entryFrame m #[(.ref a1), (.ref a2)] 8)) t := by
    intro t k
    refine pre272 t ?_
    refine XS.iload X269.here hx rfl (hb hby d14_81) rfl ?_
    show Steps _ _ _ (T269.setTop (mkF m 83 #[Sr a1, Sr a2, Si (3 : Int32), Si (0 : Int32), Si (((1 : Int32) + (own_bits z0)) + (own_bits z1)), Si (2 : Int32), Sr x2, Si (own_bits z2)] [(.int (((1 : Int32) + (own_bits z0)) + (own_bits z1)))])) _
    refine XS.iload X269.here hx rfl (hb hby d14_83) rfl ?_
    refine XS.iadd X269.here hx rfl (hb hby d14_85) rfl ?_
    refine XS.bipush X269.here hx rfl (hb hby d14_86) ?_
    by_cases hc273 : (64 : Int32) < ((((1 : Int32) + (own_bits z0)) + (own_bits z1)) + (own_bits z2))
    · simp only [if_pos hc273] at k
      refine XS.icmpNo X269.here hx rfl (hb hby d14_88) rfl (tlt hc273).2.2.2 ?_
      refine XS.iinc X269.here hx rfl (hb hby d14_91) rfl (l' := #[Sr a1, Sr a2, Si (3 : Int32), Si (1 : Int32), Si (((1 : Int32) + (own_bits z0)) + (own_bits z1)), Si (2 : Int32), Sr x2, Si (own_bits z2)]) rfl ?_
      refine XS.iconst X269.here hx rfl (hb hby d14_94) ?_
      refine XS.istore X269.here hx rfl (hb hby d14_95) rfl (l' := #[Sr a1, Sr a2, Si (3 : Int32), Si (1 : Int32), Si (0 : Int32), Si (2 : Int32), Sr x2, Si (own_bits z2)]) rfl ?_
      exact k
    · simp only [if_neg hc273] at k
      refine XS.icmpYes X269.here hx rfl (pc0 := 88) (pc' := 97) rfl (hb hby d14_88) rfl (flt hc273).2.2.2 (by decide) (by decide) ?_
      exact k
  obtain ⟨vw, hvw⟩ : ∃ z : Int32, z = (if (64 : Int32) < ((((1 : Int32) + (own_bits z0)) + (own_bits z1)) + (own_bits z2)) then (1 : Int32) else (0 : Int32)) := ⟨_, rfl⟩
  rw [← hvw] at pre274
  obtain ⟨vs, hvs⟩ : ∃ z : Int32, z = (if (64 : Int32) < ((((1 : Int32) + (own_bits z0)) + (own_bits z1)) + (own_bits z2)) then (0 : Int32) else (((1 : Int32) + (own_bits z0)) + (own_bits z1))) := ⟨_, rfl⟩
  rw [← hvs] at pre274
  subst hvw hvs
  have pre275 : ∀ t, Steps p.tables e below (T269.setTop (mkF m 97 #[Sr a1, Sr a2, Si (3 : Int32), Si (own_w2 z0 z1 z2), Si (own_s2 z0 z1 z2), Si (2 : Int32), Sr x2, Si (own_bits z2)] [])) t → Steps p.tables e below (s₁.setTop (entryFrame m #[(.ref a1), (.ref a2)] 8)) t := pre274
  have F276 : Fld Z h255 a1 "com/example/darlington/darlington/core/StateLayout" "wordOf" "[I" (.ref b54) := ((((F219.other W224 (Or.inl ne55)).other W232 (Or.inl ne72)).other W242 (Or.inl ne96)).other W255 (Or.inl ne122))
  obtain ⟨T277, X277, e277, st277⟩ := getF X269 hx hZ hown (host := "") (Or.inl (ow hw 102 rfl)) Via.refl q269_0 F276 (g := (mkF m 98 #[Sr a1, Sr a2, Si (3 : Int32), Si (own_w2 z0 z1 z2), Si (own_s2 z0 z1 z2), Si (2 : Int32), Sr x2, Si (own_bits z2)] [(.ref a1)])) rfl rfl (hb hby d14_98)
  have F278 : Arv Z h255 b54 k54 .int (3 : Int32) [(.int (0 : Int32)), (.int (0 : Int32)), (.int (0 : Int32))] (.int (0 : Int32)) := (((V224.other W232 ne84).other W242 ne108).other W255 ne134)
  obtain ⟨c279, Arc279, Aqc279, Asc279, Anc279, Ahc279, Agc279⟩ := id F278
  have hin280 : ¬ ((2 : Int32) < 0 ∨ c279.slots.size ≤ ((2 : Int32)).toNatClampNeg) := inb_of Asc279 ⟨by decide, by decide⟩
  obtain ⟨T281, h281, X281, e281, W281, st281⟩ := stI X277 hx hZ e277 Arc279 (j := (2 : Int32)) hin280 (g := (mkF m 104 #[Sr a1, Sr a2, Si (3 : Int32), Si (own_w2 z0 z1 z2), Si (own_s2 z0 z1 z2), Si (2 : Int32), Sr x2, Si (own_bits z2)] [(.int (own_w2 z0 z1 z2)), (.int (2 : Int32)), (.ref b54)])) rfl rfl (hb hby d14_104)
  have KC282 : Keep h0 h281 [a1] := KC256.wr W281 (Or.inr sz62)
  have V281 : Arv Z h281 b54 k54 .int (3 : Int32) [(.int (0 : Int32)), (.int (0 : Int32)), (.int (own_w2 z0 z1 z2))] (.int (0 : Int32)) := Arv.set Arc279 Aqc279 Asc279 Anc279 Ahc279 Agc279 rfl W281 2 rfl (Nat.le_of_ble_eq_true rfl)
  have N283 := Fr.snoc X281 N270 ge61
  have F284 : Fld Z h281 a1 "com/example/darlington/darlington/core/StateLayout" "shiftOf" "[I" (.ref b70) := ((((F227.other W232 (Or.inl ne72)).other W242 (Or.inl ne96)).other W255 (Or.inl ne122)).other W281 (Or.inl ne55))
  obtain ⟨T285, X285, e285, st285⟩ := getF X281 hx hZ hown (host := "") (Or.inl (ow hw 104 rfl)) Via.refl e281 F284 (g := (mkF m 106 #[Sr a1, Sr a2, Si (3 : Int32), Si (own_w2 z0 z1 z2), Si (own_s2 z0 z1 z2), Si (2 : Int32), Sr x2, Si (own_bits z2)] [(.ref a1)])) rfl rfl (hb hby d14_106)
  have F286 : Arv Z h281 b70 k70 .int (3 : Int32) [(.int (1 : Int32)), (.int ((1 : Int32) + (own_bits z0))), (.int (0 : Int32))] (.int (0 : Int32)) := (((V232.other W242 ne110).other W255 ne136).other W281 (Ne.symm ne84))
  obtain ⟨c287, Arc287, Aqc287, Asc287, Anc287, Ahc287, Agc287⟩ := id F286
  have hin288 : ¬ ((2 : Int32) < 0 ∨ c287.slots.size ≤ ((2 : Int32)).toNatClampNeg) := inb_of Asc287 ⟨by decide, by decide⟩
  obtain ⟨T289, h289, X289, e289, W289, st289⟩ := stI X285 hx hZ e285 Arc287 (j := (2 : Int32)) hin288 (g := (mkF m 113 #[Sr a1, Sr a2, Si (3 : Int32), Si (own_w2 z0 z1 z2), Si (own_s2 z0 z1 z2), Si (2 : Int32), Sr x2, Si (own_bits z2)] [(.int (own_s2 z0 z1 z2)), (.int (2 : Int32)), (.ref b70)])) rfl rfl (hb hby d14_113)
  have KC290 : Keep h0 h289 [a1] := KC282.wr W289 (Or.inr sz86)
  have V289 : Arv Z h289 b70 k70 .int (3 : Int32) [(.int (1 : Int32)), (.int ((1 : Int32) + (own_bits z0))), (.int (own_s2 z0 z1 z2))] (.int (0 : Int32)) := Arv.set Arc287 Aqc287 Asc287 Anc287 Ahc287 Agc287 rfl W289 2 rfl (Nat.le_of_ble_eq_true rfl)
  have N291 := Fr.snoc X289 N283 ge85
  have F292 : Fld Z h289 a1 "com/example/darlington/darlington/core/StateLayout" "maskOf" "[J" (.ref b94) := ((((F235.other W242 (Or.inl ne96)).other W255 (Or.inl ne122)).other W281 (Or.inl ne55)).other W289 (Or.inl ne72))
  obtain ⟨T293, X293, e293, st293⟩ := getF X289 hx hZ hown (host := "") (Or.inl (ow hw 107 rfl)) Via.refl e289 F292 (g := (mkF m 115 #[Sr a1, Sr a2, Si (3 : Int32), Si (own_w2 z0 z1 z2), Si (own_s2 z0 z1 z2), Si (2 : Int32), Sr x2, Si (own_bits z2)] [(.ref a1)])) rfl rfl (hb hby d14_115)
  have pre294 : ∀ t, Steps p.tables e below (T293.setTop (mkF m 126 #[Sr a1, Sr a2, Si (3 : Int32), Si (own_w2 z0 z1 z2), Si (own_s2 z0 z1 z2), Si (2 : Int32), Sr x2, Si (own_bits z2)] [(.long (((1 : Int64) <<< ((own_bits z2) &&& 0x3f).toInt64) - (1 : Int64))), (.int (2 : Int32)), (.ref b94)])) t → Steps p.tables e below (s₁.setTop (entryFrame m #[(.ref a1), (.ref a2)] 8)) t := by
    intro t k
    refine pre275 t ?_
    refine XS.aloadN X269.here hx rfl (hb hby d14_97) rfl rfl ?_
    refine st277 _ ?_
    refine XS.iload X277.here hx rfl (hb hby d14_101) rfl ?_
    refine XS.iloadN X277.here hx rfl (hb hby d14_103) rfl ?_
    refine st281 _ ?_
    refine XS.aloadN X281.here hx rfl (hb hby d14_105) rfl rfl ?_
    refine st285 _ ?_
    show Steps _ _ _ (T285.setTop (mkF m 109 #[Sr a1, Sr a2, Si (3 : Int32), Si (own_w2 z0 z1 z2), Si (own_s2 z0 z1 z2), Si (2 : Int32), Sr x2, Si (own_bits z2)] [(.ref b70)])) _
    refine XS.iload X285.here hx rfl (hb hby d14_109) rfl ?_
    refine XS.iload X285.here hx rfl (hb hby d14_111) rfl ?_
    refine st289 _ ?_
    refine XS.aloadN X289.here hx rfl (hb hby d14_114) rfl rfl ?_
    refine st293 _ ?_
    refine XS.iload X293.here hx rfl (hb hby d14_118) rfl ?_
    refine XS.lconst X293.here hx rfl (hb hby d14_120) ?_
    refine XS.iload X293.here hx rfl (hb hby d14_121) rfl ?_
    refine XS.lshl X293.here hx rfl (hb hby d14_123) rfl ?_
    refine XS.lconst X293.here hx rfl (hb hby d14_124) ?_
    show Steps _ _ _ (T293.setTop (mkF m 125 #[Sr a1, Sr a2, Si (3 : Int32), Si (own_w2 z0 z1 z2), Si (own_s2 z0 z1 z2), Si (2 : Int32), Sr x2, Si (own_bits z2)] [(.long (1 : Int64)), (.long ((1 : Int64) <<< ((own_bits z2) &&& 0x3f).toInt64)), (.int (2 : Int32)), (.ref b94)])) _
    refine XS.lsub X293.here hx rfl (hb hby d14_125) rfl ?_
    exact k
  have pre295 : ∀ t, Steps p.tables e below (T293.setTop (mkF m 126 #[Sr a1, Sr a2, Si (3 : Int32), Si (own_w2 z0 z1 z2), Si (own_s2 z0 z1 z2), Si (2 : Int32), Sr x2, Si (own_bits z2)] [(.long (own_msk z2)), (.int (2 : Int32)), (.ref b94)])) t → Steps p.tables e below (s₁.setTop (entryFrame m #[(.ref a1), (.ref a2)] 8)) t := pre294
  have F296 : Arv Z h289 b94 k94 .long (3 : Int32) [(.long (own_msk z0)), (.long (own_msk z1)), (.long (0 : Int64))] (.long (0 : Int64)) := (((V242.other W255 ne138).other W281 (Ne.symm ne108)).other W289 (Ne.symm ne110))
  obtain ⟨c297, Arc297, Aqc297, Asc297, Anc297, Ahc297, Agc297⟩ := id F296
  have hin298 : ¬ ((2 : Int32) < 0 ∨ c297.slots.size ≤ ((2 : Int32)).toNatClampNeg) := inb_of Asc297 ⟨by decide, by decide⟩
  obtain ⟨T299, h299, X299, e299, W299, st299⟩ := stJ X293 hx hZ e293 Arc297 (j := (2 : Int32)) hin298 (g := (mkF m 126 #[Sr a1, Sr a2, Si (3 : Int32), Si (own_w2 z0 z1 z2), Si (own_s2 z0 z1 z2), Si (2 : Int32), Sr x2, Si (own_bits z2)] [(.long (own_msk z2)), (.int (2 : Int32)), (.ref b94)])) rfl rfl (hb hby d14_126)
  have KC300 : Keep h0 h299 [a1] := KC290.wr W299 (Or.inr sz112)
  have V299 : Arv Z h299 b94 k94 .long (3 : Int32) [(.long (own_msk z0)), (.long (own_msk z1)), (.long (own_msk z2))] (.long (0 : Int64)) := Arv.set Arc297 Aqc297 Asc297 Anc297 Ahc297 Agc297 rfl W299 2 rfl (Nat.le_of_ble_eq_true rfl)
  have N301 := Fr.snoc X299 N291 ge111
  have F302 : Fld Z h299 a1 "com/example/darlington/darlington/core/StateLayout" "firstOf" "[I" (.ref b120) := ((((F245.other W255 (Or.inl ne122)).other W281 (Or.inl ne55)).other W289 (Or.inl ne72)).other W299 (Or.inl ne96))
  obtain ⟨T303, X303, e303, st303⟩ := getF X299 hx hZ hown (host := "") (Or.inl (ow hw 109 rfl)) Via.refl e299 F302 (g := (mkF m 128 #[Sr a1, Sr a2, Si (3 : Int32), Si (own_w2 z0 z1 z2), Si (own_s2 z0 z1 z2), Si (2 : Int32), Sr x2, Si (own_bits z2)] [(.ref a1)])) rfl rfl (hb hby d14_128)
  have F304 : Fld Z h299 x2 "com/example/darlington/darlington/core/FiniteType" "first" "I" (.int f2) := (((((((((((((((((((Xf2.ext E54).other W66 (Or.inl nx2)).ext E70).other W90 (Or.inl nx2)).ext E94).other W116 (Or.inl nx2)).ext E120).other W144 (Or.inl nx2)).other W169 (Or.inl ne60)).other W177 (Or.inl ne82)).other W187 (Or.inl ne106)).other W200 (Or.inl ne132)).other W224 (Or.inl ne60)).other W232 (Or.inl ne82)).other W242 (Or.inl ne106)).other W255 (Or.inl ne132)).other W281 (Or.inl ne60)).other W289 (Or.inl ne82)).other W299 (Or.inl ne106))
  have F305 : Fld Z h299 x2 "com/example/darlington/darlington/core/FiniteType" "size" "I" (.int z2) := (((F266.other W281 (Or.inl ne60)).other W289 (Or.inl ne82)).other W299 (Or.inl ne106))
  have F307 : Exa Z h299 x2 "com/example/darlington/darlington/core/IntegerRange" := (((F264.wr W281).wr W289).wr W299)
  obtain ⟨cq306, kq306, q306a, q306b, q306c⟩ := isOf hZ e303 F307
  obtain ⟨_, _, ⟨T306, L306, k306, n306⟩, -, X306, ⟨Lc306, hQ306, l306, y306, z306⟩, st306⟩ := X303.virtualBack hx (y := (⟨"com/example/darlington/darlington/core/FiniteType", "valueAt", "(I)I"⟩ : MethodName)) (z := (⟨"com/example/darlington/darlington/core/FiniteType", "valueAt", "(I)I"⟩ : MethodName)) hown (mvT hZ (ow hw 143 rfl)) (mvT hZ (ow hw 144 rfl)) (notFace_of_selects (args := #[]) (mvT hZ (ow hw 146 rfl))) (mvT hZ (ow hw 146 rfl)) (mvT hZ (ow hw 145 rfl)) (by decide) (backOf (W := 2) (rm22 l Z a0 hw [] x2 f2 z2 h299 n0 (Nat.le_trans Z0 KC300.1) F304 F305 hz2) hZ (ow hw 147 rfl) (ow hw 47 rfl) (by decide) (by decide)) q306a q306c (g := (mkF m 136 #[Sr a1, Sr a2, Si (3 : Int32), Si (own_w2 z0 z1 z2), Si (own_s2 z0 z1 z2), Si (2 : Int32), Sr x2, Si (own_bits z2)] [(.int (0 : Int32)), (.ref x2), (.int (2 : Int32)), (.ref b120)])) rfl (by rw [hml]; rfl) (Steps.refl _) (argsL := [(.int (0 : Int32))]) (rest := [(.int (2 : Int32)), (.ref b120)]) (lenOf pd_9 rfl) rfl (by show 2 * 0 + _ ≤ _; exact Nat.le_of_eq rfl) (hb hby d14_136) (fun _ _ => ⟨rfl, e303, (by decide : 4 + 0 ≤ _), (by decide : 12 + 0 ≤ _)⟩)
  dsimp only [Pt.U, Pt.locs, Pt.cells, Pt.slots] at X306 l306 y306 z306 st306 hQ306
  subst y306 z306
  obtain ⟨rfl, Nq306, q306_0⟩ := hQ306
  have N308 := Eq.subst (motive := fun L => Fr n0 L) l306.symm (Fr.app N301 Nq306)
  have F309 : Arv Z h299 b120 k120 .int (3 : Int32) [(.int (f0 + (0 : Int32))), (.int (f1 + (0 : Int32))), (.int (0 : Int32))] (.int (0 : Int32)) := (((V255.other W281 (Ne.symm ne134)).other W289 (Ne.symm ne136)).other W299 (Ne.symm ne138))
  obtain ⟨c310, Arc310, Aqc310, Asc310, Anc310, Ahc310, Agc310⟩ := id F309
  have hin311 : ¬ ((2 : Int32) < 0 ∨ c310.slots.size ≤ ((2 : Int32)).toNatClampNeg) := inb_of Asc310 ⟨by decide, by decide⟩
  obtain ⟨T312, h312, X312, e312, W312, st312⟩ := stI X306 hx hZ q306_0 Arc310 (j := (2 : Int32)) hin311 (g := (mkF m 139 #[Sr a1, Sr a2, Si (3 : Int32), Si (own_w2 z0 z1 z2), Si (own_s2 z0 z1 z2), Si (2 : Int32), Sr x2, Si (own_bits z2)] [(.int (f2 + (0 : Int32))), (.int (2 : Int32)), (.ref b120)])) rfl rfl (hb hby d14_139)
  have KC313 : Keep h0 h312 [a1] := KC300.wr W312 (Or.inr sz140)
  have V312 : Arv Z h312 b120 k120 .int (3 : Int32) [(.int (f0 + (0 : Int32))), (.int (f1 + (0 : Int32))), (.int (f2 + (0 : Int32)))] (.int (0 : Int32)) := Arv.set Arc310 Aqc310 Asc310 Anc310 Ahc310 Agc310 rfl W312 2 rfl (Nat.le_of_ble_eq_true rfl)
  have N314 := Fr.snoc X312 N308 ge139
  have F315 : Exa Z h312 a1 "com/example/darlington/darlington/core/StateLayout" := (((((((((((((F142.wr W144).wr W169).wr W177).wr W187).wr W200).wr W224).wr W232).wr W242).wr W255).wr W281).wr W289).wr W299).wr W312)
  have F316 : Fld Z h312 a1 "com/example/darlington/darlington/core/StateLayout" "wordsPerState" "I" (.int (0 : Int32)) := ((((((((((((((((((((U4.ext E54).other W66 (Or.inr (slot_ne (Or.inr (ow hw 151 rfl)) (Or.inr (ow hw 103 rfl)) (by decide) (t := .int) (t' := (.array .int)) (by decide) (by decide)))).ext E70).other W90 (Or.inr (slot_ne (Or.inr (ow hw 151 rfl)) (Or.inr (ow hw 105 rfl)) (by decide) (t := .int) (t' := (.array .int)) (by decide) (by decide)))).ext E94).other W116 (Or.inr (slot_ne (Or.inr (ow hw 151 rfl)) (Or.inr (ow hw 108 rfl)) (by decide) (t := .int) (t' := (.array .long)) (by decide) (by decide)))).ext E120).other W144 (Or.inr (slot_ne (Or.inr (ow hw 151 rfl)) (Or.inr (ow hw 110 rfl)) (by decide) (t := .int) (t' := (.array .int)) (by decide) (by decide)))).other W169 (Or.inl ne55)).other W177 (Or.inl ne72)).other W187 (Or.inl ne96)).other W200 (Or.inl ne122)).other W224 (Or.inl ne55)).other W232 (Or.inl ne72)).other W242 (Or.inl ne96)).other W255 (Or.inl ne122)).other W281 (Or.inl ne55)).other W289 (Or.inl ne72)).other W299 (Or.inl ne96)).other W312 (Or.inl ne122))
  obtain ⟨T317, h317, X317, e317, W317, st317⟩ := putF X312 hx hZ hown (host := "") (Or.inl (ow hw 150 rfl)) Via.refl e312 F316 F315 (Or.inr ⟨(ow hw 151 rfl), rfl, hnm⟩) (ow hw 87 rfl) (ty := .int) (by decide) rfl rfl (g := (mkF m 157 #[Sr a1, Sr a2, Si (3 : Int32), Si (own_w2 z0 z1 z2), Si ((own_s2 z0 z1 z2) + (own_bits z2)), Si (3 : Int32), Sr x2, Si (own_bits z2)] [(.int ((own_w2 z0 z1 z2) + (1 : Int32))), (.ref a1)])) rfl rfl (hb hby d14_157)
  have KC318 : Keep h0 h317 [a1] := KC313.wr W317 (Or.inl (List.mem_of_getElem? (i := 0) rfl))
  have F319 : Fld Z h317 a1 "com/example/darlington/darlington/core/StateLayout" "wordsPerState" "I" (.int ((own_w2 z0 z1 z2) + (1 : Int32))) := F316.same W317
  have N320 := Fr.snoc X317 N314 g1
  have pre321 : ∀ t, Steps p.tables e below (T317.setTop (mkF m 160 #[Sr a1, Sr a2, Si (3 : Int32), Si (own_w2 z0 z1 z2), Si ((own_s2 z0 z1 z2) + (own_bits z2)), Si (3 : Int32), Sr x2, Si (own_bits z2)] [])) t → Steps p.tables e below (s₁.setTop (entryFrame m #[(.ref a1), (.ref a2)] 8)) t := by
    intro t k
    refine pre295 t ?_
    refine st299 _ ?_
    refine XS.aloadN X299.here hx rfl (hb hby d14_127) rfl rfl ?_
    refine st303 _ ?_
    refine XS.iload X303.here hx rfl (hb hby d14_131) rfl ?_
    refine XS.aload X303.here hx rfl (hb hby d14_133) rfl rfl ?_
    refine XS.iconst X303.here hx rfl (hb hby d14_135) ?_
    refine st306.trans ?_
    refine st312 _ ?_
    refine XS.iload X312.here hx rfl (hb hby d14_140) rfl ?_
    show Steps _ _ _ (T312.setTop (mkF m 142 #[Sr a1, Sr a2, Si (3 : Int32), Si (own_w2 z0 z1 z2), Si (own_s2 z0 z1 z2), Si (2 : Int32), Sr x2, Si (own_bits z2)] [(.int (own_s2 z0 z1 z2))])) _
    refine XS.iload X312.here hx rfl (hb hby d14_142) rfl ?_
    refine XS.iadd X312.here hx rfl (hb hby d14_144) rfl ?_
    refine XS.istore X312.here hx rfl (hb hby d14_145) rfl (l' := #[Sr a1, Sr a2, Si (3 : Int32), Si (own_w2 z0 z1 z2), Si ((own_s2 z0 z1 z2) + (own_bits z2)), Si (2 : Int32), Sr x2, Si (own_bits z2)]) rfl ?_
    refine XS.iinc X312.here hx rfl (hb hby d14_147) rfl (l' := #[Sr a1, Sr a2, Si (3 : Int32), Si (own_w2 z0 z1 z2), Si ((own_s2 z0 z1 z2) + (own_bits z2)), Si (3 : Int32), Sr x2, Si (own_bits z2)]) rfl ?_
    refine XS.goto X312.here hx rfl (pc0 := 150) (pc' := 47) rfl (hb hby d14_150) (by decide) (by decide) ?_
    refine XS.iload X312.here hx rfl (hb hby d14_47) rfl ?_
    refine XS.iloadN X312.here hx rfl (hb hby d14_49) rfl ?_
    refine XS.icmpYes X312.here hx rfl (pc0 := 50) (pc' := 153) rfl (hb hby d14_50) rfl (flt (by decide)).2.1 (by decide) (by decide) ?_
    refine XS.aloadN X312.here hx rfl (hb hby d14_153) rfl rfl ?_
    refine XS.iloadN X312.here hx rfl (hb hby d14_154) rfl ?_
    show Steps _ _ _ (T312.setTop (mkF m 155 #[Sr a1, Sr a2, Si (3 : Int32), Si (own_w2 z0 z1 z2), Si ((own_s2 z0 z1 z2) + (own_bits z2)), Si (3 : Int32), Sr x2, Si (own_bits z2)] [(.int (own_w2 z0 z1 z2)), (.ref a1)])) _
    refine XS.iconst X312.here hx rfl (hb hby d14_155) ?_
    refine XS.iadd X312.here hx rfl (hb hby d14_156) rfl ?_
    refine st317 _ ?_
    exact k
  obtain ⟨fs, hr, hrun, hended, hW, hsame⟩ := X317.leave (v := none) (fun _ => rfl)
  refine ⟨_, _, pre321 _ ?_, hrun, hended, _, _, rfl, ?_, ⟨_, rfl⟩, hW, hsame.mono (by decide) (by decide)⟩
  · exact X317.returnOut hx Bd.returns (hb hby d14_160) hr
  · show Q_rm_lay Z a1 a2 a3 k3 x0 x1 x2 f0 f1 f2 z0 z1 z2 h0 n0 _ T317.heap _
    rw [e317]
    have F322 : Arv Z h317 b54 k54 .int (3 : Int32) [(.int (0 : Int32)), (.int (0 : Int32)), (.int (own_w2 z0 z1 z2))] (.int (0 : Int32)) := ((((V281.other W289 ne84).other W299 ne108).other W312 ne134).other W317 (Ne.symm ne55))
    have F323 : Fld Z h317 a1 "com/example/darlington/darlington/core/StateLayout" "wordOf" "[I" (.ref b54) := (((((F276.other W281 (Or.inl ne55)).other W289 (Or.inl ne72)).other W299 (Or.inl ne96)).other W312 (Or.inl ne122)).other W317 (Or.inr (slot_ne (Or.inr (ow hw 103 rfl)) (Or.inr (ow hw 151 rfl)) (by decide) (t := (.array .int)) (t' := .int) (by decide) (by decide))))
    have F324 : Arv Z h317 b70 k70 .int (3 : Int32) [(.int (1 : Int32)), (.int ((1 : Int32) + (own_bits z0))), (.int (own_s2 z0 z1 z2))] (.int (0 : Int32)) := (((V289.other W299 ne110).other W312 ne136).other W317 (Ne.symm ne72))
    have F325 : Fld Z h317 a1 "com/example/darlington/darlington/core/StateLayout" "shiftOf" "[I" (.ref b70) := ((((F284.other W289 (Or.inl ne72)).other W299 (Or.inl ne96)).other W312 (Or.inl ne122)).other W317 (Or.inr (slot_ne (Or.inr (ow hw 105 rfl)) (Or.inr (ow hw 151 rfl)) (by decide) (t := (.array .int)) (t' := .int) (by decide) (by decide))))
    have F326 : Arv Z h317 b94 k94 .long (3 : Int32) [(.long (own_msk z0)), (.long (own_msk z1)), (.long (own_msk z2))] (.long (0 : Int64)) := ((V299.other W312 ne138).other W317 (Ne.symm ne96))
    have F327 : Fld Z h317 a1 "com/example/darlington/darlington/core/StateLayout" "maskOf" "[J" (.ref b94) := (((F292.other W299 (Or.inl ne96)).other W312 (Or.inl ne122)).other W317 (Or.inr (slot_ne (Or.inr (ow hw 108 rfl)) (Or.inr (ow hw 151 rfl)) (by decide) (t := (.array .long)) (t' := .int) (by decide) (by decide))))
    have F328 : Arv Z h317 b120 k120 .int (3 : Int32) [(.int (f0 + (0 : Int32))), (.int (f1 + (0 : Int32))), (.int (f2 + (0 : Int32)))] (.int (0 : Int32)) := (V312.other W317 (Ne.symm ne122))
    have F329 : Fld Z h317 a1 "com/example/darlington/darlington/core/StateLayout" "firstOf" "[I" (.ref b120) := ((F302.other W312 (Or.inl ne122)).other W317 (Or.inr (slot_ne (Or.inr (ow hw 110 rfl)) (Or.inr (ow hw 151 rfl)) (by decide) (t := (.array .int)) (t' := .int) (by decide) (by decide))))
    exact ⟨b54, b70, b94, b120, k54, k70, k94, k120, rfl, N320, KC318, sz62, F322, F323, sz86, F324, F325, sz112, F326, F327, sz140, F328, F329, F319⟩
def own_upd (w : Int64) (s : Int32) (m : Int64) (f v : Int32) : Int64 := ((w &&& ((m <<< (s &&& 0x3f).toInt64) ^^^ (-1 : Int64))) ||| (((v.toInt64 - f.toInt64) &&& m) <<< (s &&& 0x3f).toInt64))
theorem d23_0 : decode prog_74_method_6_code 0 = .ok (.iconst 0, 1) := by decide +kernel
theorem d23_1 : decode prog_74_method_6_code 1 = .ok (.istore 4, 2) := by decide +kernel
theorem d23_3 : decode prog_74_method_6_code 3 = .ok (.iload 4, 2) := by decide +kernel
theorem d23_5 : decode prog_74_method_6_code 5 = .ok (.aload_n 3, 1) := by decide +kernel
theorem d23_6 : decode prog_74_method_6_code 6 = .ok (.arraylength, 1) := by decide +kernel
theorem d23_7 : decode prog_74_method_6_code 7 = .ok (.if_icmp .ge 53, 3) := by decide +kernel
theorem d23_10 : decode prog_74_method_6_code 10 = .ok (.aload_n 1, 1) := by decide +kernel
theorem d23_11 : decode prog_74_method_6_code 11 = .ok (.iload_n 2, 1) := by decide +kernel
theorem d23_12 : decode prog_74_method_6_code 12 = .ok (.aload_n 0, 1) := by decide +kernel
theorem d23_13 : decode prog_74_method_6_code 13 = .ok (.getfield 13, 3) := by decide +kernel
theorem d23_16 : decode prog_74_method_6_code 16 = .ok (.iload 4, 2) := by decide +kernel
theorem d23_18 : decode prog_74_method_6_code 18 = .ok (.iaload, 1) := by decide +kernel
theorem d23_19 : decode prog_74_method_6_code 19 = .ok (.iadd, 1) := by decide +kernel
theorem d23_20 : decode prog_74_method_6_code 20 = .ok (.laload, 1) := by decide +kernel
theorem d23_21 : decode prog_74_method_6_code 21 = .ok (.aload_n 0, 1) := by decide +kernel
theorem d23_22 : decode prog_74_method_6_code 22 = .ok (.getfield 19, 3) := by decide +kernel
theorem d23_25 : decode prog_74_method_6_code 25 = .ok (.iload 4, 2) := by decide +kernel
theorem d23_27 : decode prog_74_method_6_code 27 = .ok (.iaload, 1) := by decide +kernel
theorem d23_28 : decode prog_74_method_6_code 28 = .ok (.lushr, 1) := by decide +kernel
theorem d23_29 : decode prog_74_method_6_code 29 = .ok (.aload_n 0, 1) := by decide +kernel
theorem d23_30 : decode prog_74_method_6_code 30 = .ok (.getfield 22, 3) := by decide +kernel
theorem d23_33 : decode prog_74_method_6_code 33 = .ok (.iload 4, 2) := by decide +kernel
theorem d23_35 : decode prog_74_method_6_code 35 = .ok (.laload, 1) := by decide +kernel
theorem d23_36 : decode prog_74_method_6_code 36 = .ok (.land, 1) := by decide +kernel
theorem d23_37 : decode prog_74_method_6_code 37 = .ok (.lstore 5, 2) := by decide +kernel
theorem d23_39 : decode prog_74_method_6_code 39 = .ok (.aload_n 3, 1) := by decide +kernel
theorem d23_40 : decode prog_74_method_6_code 40 = .ok (.iload 4, 2) := by decide +kernel
theorem d23_42 : decode prog_74_method_6_code 42 = .ok (.aload_n 0, 1) := by decide +kernel
theorem d23_43 : decode prog_74_method_6_code 43 = .ok (.getfield 26, 3) := by decide +kernel
theorem d23_46 : decode prog_74_method_6_code 46 = .ok (.iload 4, 2) := by decide +kernel
theorem d23_48 : decode prog_74_method_6_code 48 = .ok (.iaload, 1) := by decide +kernel
theorem d23_49 : decode prog_74_method_6_code 49 = .ok (.lload 5, 2) := by decide +kernel
theorem d23_51 : decode prog_74_method_6_code 51 = .ok (.l2i, 1) := by decide +kernel
theorem d23_52 : decode prog_74_method_6_code 52 = .ok (.iadd, 1) := by decide +kernel
theorem d23_53 : decode prog_74_method_6_code 53 = .ok (.iastore, 1) := by decide +kernel
theorem d23_54 : decode prog_74_method_6_code 54 = .ok (.iinc 4 1, 3) := by decide +kernel
theorem d23_57 : decode prog_74_method_6_code 57 = .ok (.goto (-54), 3) := by decide +kernel
theorem d23_60 : decode prog_74_method_6_code 60 = .ok (.return_, 1) := by decide +kernel
theorem ef_rm_unpA (m : MethodId) (x0 : Addr) (x1 : Addr) (x3 : Addr) : entryFrame m #[(.ref x0), (.ref x1), (.int (0 : Int32)), (.ref x3)] 7 = mkF m 0 #[Sr x0, Sr x1, Si (0 : Int32), Sr x3, Su, Su, Su] [] := by first | (simp [entryFrame, mkF, argsToLocals, Value.category]; done) | rfl
def Q_rm_unpA (Z : State) (a1 : Addr) (a2 : Addr) (a4 : Addr) (r1 : Addr) (r2 : Addr) (r3 : Addr) (r4 : Addr) (c1 : ClassId) (c2 : ClassId) (c3 : ClassId) (c4 : ClassId) (s0 : Int32) (s1 : Int32) (s2 : Int32) (m0 : Int64) (m1 : Int64) (m2 : Int64) (f0 : Int32) (f1 : Int32) (f2 : Int32) (k2 : ClassId) (k4 : ClassId) (w0 : Int64) (w1 : Int64) (w2 : Int64) (y0 : Int32) (y1 : Int32) (y2 : Int32) (h0 : Heap) (n0 : Nat) (v : Option Value) (h : Heap) (L : List Loc) : Prop := v = none ∧ Fr n0 L ∧ Keep h0 h [a4] ∧ Arv Z h a4 k4 .int (3 : Int32) [(.int (f0 + ((((w0.toUInt64 >>> (s0 &&& 0x3f).toInt64.toUInt64).toInt64) &&& m0).toInt32))), (.int (f1 + ((((w0.toUInt64 >>> (s1 &&& 0x3f).toInt64.toUInt64).toInt64) &&& m1).toInt32))), (.int (f2 + ((((w0.toUInt64 >>> (s2 &&& 0x3f).toInt64.toUInt64).toInt64) &&& m2).toInt32)))] (.int (0 : Int32))
set_option maxRecDepth 65536 in
set_option maxHeartbeats 40000000 in
theorem rm_unpA (l : Launch) (Z : State) (a0 : Array Value) (hw : ∀ d ∈ tables_1, d.before a0 Z = true) (ws : List Jvm.Cond) (a1 : Addr) (a2 : Addr) (a4 : Addr) (r1 : Addr) (r2 : Addr) (r3 : Addr) (r4 : Addr) (c1 : ClassId) (c2 : ClassId) (c3 : ClassId) (c4 : ClassId) (s0 : Int32) (s1 : Int32) (s2 : Int32) (m0 : Int64) (m1 : Int64) (m2 : Int64) (f0 : Int32) (f1 : Int32) (f2 : Int32) (k2 : ClassId) (k4 : ClassId) (w0 : Int64) (w1 : Int64) (w2 : Int64) (y0 : Int32) (y1 : Int32) (y2 : Int32) (h0 : Heap) (n0 : Nat) (Z0 : n0 ≤ h0.size) (F_r1 : Fld Z h0 a1 "com/example/darlington/darlington/core/StateLayout" "wordOf" "[I" (.ref r1)) (V_r1 : Arv Z h0 r1 c1 .int (3 : Int32) [(.int (0 : Int32)), (.int (0 : Int32)), (.int (0 : Int32))] (.int (0 : Int32))) (F_r2 : Fld Z h0 a1 "com/example/darlington/darlington/core/StateLayout" "shiftOf" "[I" (.ref r2)) (V_r2 : Arv Z h0 r2 c2 .int (3 : Int32) [(.int s0), (.int s1), (.int s2)] (.int (0 : Int32))) (F_r3 : Fld Z h0 a1 "com/example/darlington/darlington/core/StateLayout" "maskOf" "[J" (.ref r3)) (V_r3 : Arv Z h0 r3 c3 .long (3 : Int32) [(.long m0), (.long m1), (.long m2)] (.long (0 : Int64))) (F_r4 : Fld Z h0 a1 "com/example/darlington/darlington/core/StateLayout" "firstOf" "[I" (.ref r4)) (V_r4 : Arv Z h0 r4 c4 .int (3 : Int32) [(.int f0), (.int f1), (.int f2)] (.int (0 : Int32))) (V2 : Arv Z h0 a2 k2 .long (3 : Int32) [(.long w0), (.long w1), (.long w2)] (.long (0 : Int64))) (V4 : Arv Z h0 a4 k4 .int (3 : Int32) [(.int y0), (.int y1), (.int y2)] (.int (0 : Int32))) (g4 : n0 ≤ a4) (n14 : a1 ≠ a4) (n24 : a2 ≠ a4) (nr1 : r1 ≠ a4) (nr2 : r2 ≠ a4) (nr3 : r3 ≠ a4) (nr4 : r4 ≠ a4) :
    MetFree l (⟨"com/example/darlington/darlington/core/StateLayout", "unpack", "([JI[I)V"⟩ : MethodName) (head1 (Jvm.Cond.code (⟨"com/example/darlington/darlington/core/StateLayout", "unpack", "([JI[I)V"⟩ : MethodName) prog_74_method_6_code 7 none :: ws) ({ frames := 0, cells := 0, slots := 0, locals := 0 } : Room)) (fun a U => a = #[(.ref a1), (.ref a2), (.int (0 : Int32)), (.ref a4)] ∧ Z.Warmed39 U.vm ∧ U.heap = h0) (fun _ _ _ _ _ => True) (fun _ U o U' => ∃ v L, o = .returned v ∧ Q_rm_unpA Z a1 a2 a4 r1 r2 r3 r4 c1 c2 c3 c4 s0 s1 s2 m0 m1 m2 f0 f1 f2 k2 k4 w0 w1 w2 y0 y1 y2 h0 n0 v U'.heap L ∧ FrameEnd U o U' L ({ frames := 0, cells := 0, slots := 0, locals := 0 } : Room).cells ({ frames := 0, cells := 0, slots := 0, locals := 0 } : Room).slots) := by
  refine MetFree.of_bodySF (plainFor_of_name pn_8) hisR ?_
  intro p e s m args below meth c s₁ Bd hml0 hP hK
  obtain ⟨rfl, hZ, hh⟩ := hP
  have hx := Bd.exec
  have hby := Bd.bytes
  have hml : c.maxLocals = 7 := hml0
  have hown : s.vm.findClass "com/example/darlington/darlington/core/StateLayout" = some m.cls := findClass_of_methodNamed Bd.named
  have hnm := (name_of_methodNamed Bd.named Bd.method).1
  have X0 : Stand p l e ({ frames := 0, cells := 0, slots := 0, locals := 0 } : Room) s m #[(.ref a1), (.ref a2), (.int (0 : Int32)), (.ref a4)] below meth c s₁ [] 0 0 := Stand.of_body Bd
  have e0 : s₁.heap = h0 := by rw [← hh, Bd.state]; rfl
  have N0 := Fr.nil n0
  have pre0 : ∀ t, Steps p.tables e below (s₁.setTop (mkF m 0 #[Sr a1, Sr a2, Si (0 : Int32), Sr a4, Su, Su, Su] [])) t → Steps p.tables e below (s₁.setTop (entryFrame m #[(.ref a1), (.ref a2), (.int (0 : Int32)), (.ref a4)] 7)) t := fun t k => castTop (ef_rm_unpA m a1 a2 a4) k
  obtain ⟨c51, Arc51, Aqc51, Asc51, Anc51, Ahc51, Agc51⟩ := id V4
  obtain ⟨T52, X52, e52, st52⟩ := getF X0 hx hZ hown (host := "") (Or.inl (ow hw 102 rfl)) Via.refl e0 F_r1 (g := (mkF m 13 #[Sr a1, Sr a2, Si (0 : Int32), Sr a4, Si (0 : Int32), Su, Su] [(.ref a1), (.int (0 : Int32)), (.ref a2)])) rfl rfl (hb hby d23_13)
  obtain ⟨c53, Arc53, Aqc53, Asc53, Anc53, Ahc53, Agc53⟩ := id V_r1
  have hin54 : ¬ ((0 : Int32) < 0 ∨ c53.slots.size ≤ ((0 : Int32)).toNatClampNeg) := inb_of Asc53 ⟨by decide, by decide⟩
  have hat55 : c53.slots[((0 : Int32)).toNatClampNeg]? = some (.int (0 : Int32)) := Has.at Ahc53 hin54 rfl
  obtain ⟨c56, Arc56, Aqc56, Asc56, Anc56, Ahc56, Agc56⟩ := id V2
  have hin57 : ¬ ((0 : Int32) < 0 ∨ c56.slots.size ≤ ((0 : Int32)).toNatClampNeg) := inb_of Asc56 ⟨by decide, by decide⟩
  have hat58 : c56.slots[((0 : Int32)).toNatClampNeg]? = some (.long w0) := Has.at Ahc56 hin57 rfl
  obtain ⟨T59, X59, e59, st59⟩ := getF X52 hx hZ hown (host := "") (Or.inl (ow hw 104 rfl)) Via.refl e52 F_r2 (g := (mkF m 22 #[Sr a1, Sr a2, Si (0 : Int32), Sr a4, Si (0 : Int32), Su, Su] [(.ref a1), (.long w0)])) rfl rfl (hb hby d23_22)
  obtain ⟨c60, Arc60, Aqc60, Asc60, Anc60, Ahc60, Agc60⟩ := id V_r2
  have hin61 : ¬ ((0 : Int32) < 0 ∨ c60.slots.size ≤ ((0 : Int32)).toNatClampNeg) := inb_of Asc60 ⟨by decide, by decide⟩
  have hat62 : c60.slots[((0 : Int32)).toNatClampNeg]? = some (.int s0) := Has.at Ahc60 hin61 rfl
  obtain ⟨T63, X63, e63, st63⟩ := getF X59 hx hZ hown (host := "") (Or.inl (ow hw 107 rfl)) Via.refl e59 F_r3 (g := (mkF m 30 #[Sr a1, Sr a2, Si (0 : Int32), Sr a4, Si (0 : Int32), Su, Su] [(.ref a1), (.long ((w0.toUInt64 >>> (s0 &&& 0x3f).toInt64.toUInt64).toInt64))])) rfl rfl (hb hby d23_30)
  obtain ⟨c64, Arc64, Aqc64, Asc64, Anc64, Ahc64, Agc64⟩ := id V_r3
  have hin65 : ¬ ((0 : Int32) < 0 ∨ c64.slots.size ≤ ((0 : Int32)).toNatClampNeg) := inb_of Asc64 ⟨by decide, by decide⟩
  have hat66 : c64.slots[((0 : Int32)).toNatClampNeg]? = some (.long m0) := Has.at Ahc64 hin65 rfl
  obtain ⟨T67, X67, e67, st67⟩ := getF X63 hx hZ hown (host := "") (Or.inl (ow hw 109 rfl)) Via.refl e63 F_r4 (g := (mkF m 43 #[Sr a1, Sr a2, Si (0 : Int32), Sr a4, Si (0 : Int32), Sl (((w0.toUInt64 >>> (s0 &&& 0x3f).toInt64.toUInt64).toInt64) &&& m0), S2] [(.ref a1), (.int (0 : Int32)), (.ref a4)])) rfl rfl (hb hby d23_43)
  obtain ⟨c68, Arc68, Aqc68, Asc68, Anc68, Ahc68, Agc68⟩ := id V_r4
  have hin69 : ¬ ((0 : Int32) < 0 ∨ c68.slots.size ≤ ((0 : Int32)).toNatClampNeg) := inb_of Asc68 ⟨by decide, by decide⟩
  have hat70 : c68.slots[((0 : Int32)).toNatClampNeg]? = some (.int f0) := Has.at Ahc68 hin69 rfl
  obtain ⟨c71, Arc71, Aqc71, Asc71, Anc71, Ahc71, Agc71⟩ := id V4
  have hin72 : ¬ ((0 : Int32) < 0 ∨ c71.slots.size ≤ ((0 : Int32)).toNatClampNeg) := inb_of Asc71 ⟨by decide, by decide⟩
  obtain ⟨T73, h73, X73, e73, W73, st73⟩ := stI X67 hx hZ e67 Arc71 (j := (0 : Int32)) hin72 (g := (mkF m 53 #[Sr a1, Sr a2, Si (0 : Int32), Sr a4, Si (0 : Int32), Sl (((w0.toUInt64 >>> (s0 &&& 0x3f).toInt64.toUInt64).toInt64) &&& m0), S2] [(.int (f0 + ((((w0.toUInt64 >>> (s0 &&& 0x3f).toInt64.toUInt64).toInt64) &&& m0).toInt32))), (.int (0 : Int32)), (.ref a4)])) rfl rfl (hb hby d23_53)
  have KC74 : Keep h0 h73 [a4] := (Keep.refl h0 [a4]).wr W73 (Or.inl (List.mem_of_getElem? (i := 0) rfl))
  have V73 : Arv Z h73 a4 k4 .int (3 : Int32) [(.int (f0 + ((((w0.toUInt64 >>> (s0 &&& 0x3f).toInt64.toUInt64).toInt64) &&& m0).toInt32))), (.int y1), (.int y2)] (.int (0 : Int32)) := Arv.set Arc71 Aqc71 Asc71 Anc71 Ahc71 Agc71 rfl W73 0 rfl (Nat.le_of_ble_eq_true rfl)
  have N75 := Fr.snoc X73 N0 g4
  obtain ⟨c76, Arc76, Aqc76, Asc76, Anc76, Ahc76, Agc76⟩ := id V73
  have F77 : Fld Z h73 a1 "com/example/darlington/darlington/core/StateLayout" "wordOf" "[I" (.ref r1) := (F_r1.other W73 (Or.inl n14))
  obtain ⟨T78, X78, e78, st78⟩ := getF X73 hx hZ hown (host := "") (Or.inl (ow hw 102 rfl)) Via.refl e73 F77 (g := (mkF m 13 #[Sr a1, Sr a2, Si (0 : Int32), Sr a4, Si (1 : Int32), Sl (((w0.toUInt64 >>> (s0 &&& 0x3f).toInt64.toUInt64).toInt64) &&& m0), S2] [(.ref a1), (.int (0 : Int32)), (.ref a2)])) rfl rfl (hb hby d23_13)
  have F79 : Arv Z h73 r1 c1 .int (3 : Int32) [(.int (0 : Int32)), (.int (0 : Int32)), (.int (0 : Int32))] (.int (0 : Int32)) := (V_r1.other W73 nr1)
  obtain ⟨c80, Arc80, Aqc80, Asc80, Anc80, Ahc80, Agc80⟩ := id F79
  have hin81 : ¬ ((1 : Int32) < 0 ∨ c80.slots.size ≤ ((1 : Int32)).toNatClampNeg) := inb_of Asc80 ⟨by decide, by decide⟩
  have hat82 : c80.slots[((1 : Int32)).toNatClampNeg]? = some (.int (0 : Int32)) := Has.at Ahc80 hin81 rfl
  have F83 : Arv Z h73 a2 k2 .long (3 : Int32) [(.long w0), (.long w1), (.long w2)] (.long (0 : Int64)) := (V2.other W73 n24)
  obtain ⟨c84, Arc84, Aqc84, Asc84, Anc84, Ahc84, Agc84⟩ := id F83
  have hin85 : ¬ ((0 : Int32) < 0 ∨ c84.slots.size ≤ ((0 : Int32)).toNatClampNeg) := inb_of Asc84 ⟨by decide, by decide⟩
  have hat86 : c84.slots[((0 : Int32)).toNatClampNeg]? = some (.long w0) := Has.at Ahc84 hin85 rfl
  have F87 : Fld Z h73 a1 "com/example/darlington/darlington/core/StateLayout" "shiftOf" "[I" (.ref r2) := (F_r2.other W73 (Or.inl n14))
  obtain ⟨T88, X88, e88, st88⟩ := getF X78 hx hZ hown (host := "") (Or.inl (ow hw 104 rfl)) Via.refl e78 F87 (g := (mkF m 22 #[Sr a1, Sr a2, Si (0 : Int32), Sr a4, Si (1 : Int32), Sl (((w0.toUInt64 >>> (s0 &&& 0x3f).toInt64.toUInt64).toInt64) &&& m0), S2] [(.ref a1), (.long w0)])) rfl rfl (hb hby d23_22)
  have F89 : Arv Z h73 r2 c2 .int (3 : Int32) [(.int s0), (.int s1), (.int s2)] (.int (0 : Int32)) := (V_r2.other W73 nr2)
  obtain ⟨c90, Arc90, Aqc90, Asc90, Anc90, Ahc90, Agc90⟩ := id F89
  have hin91 : ¬ ((1 : Int32) < 0 ∨ c90.slots.size ≤ ((1 : Int32)).toNatClampNeg) := inb_of Asc90 ⟨by decide, by decide⟩
  have hat92 : c90.slots[((1 : Int32)).toNatClampNeg]? = some (.int s1) := Has.at Ahc90 hin91 rfl
  have pre93 : ∀ t, Steps p.tables e below (T88.setTop (mkF m 29 #[Sr a1, Sr a2, Si (0 : Int32), Sr a4, Si (1 : Int32), Sl (((w0.toUInt64 >>> (s0 &&& 0x3f).toInt64.toUInt64).toInt64) &&& m0), S2] [(.long ((w0.toUInt64 >>> (s1 &&& 0x3f).toInt64.toUInt64).toInt64))])) t → Steps p.tables e below (s₁.setTop (entryFrame m #[(.ref a1), (.ref a2), (.int (0 : Int32)), (.ref a4)] 7)) t := by
    intro t k
    refine pre0 t ?_
    refine XS.iconst X0.here hx rfl (hb hby d23_0) ?_
    refine XS.istore X0.here hx rfl (hb hby d23_1) rfl (l' := #[Sr a1, Sr a2, Si (0 : Int32), Sr a4, Si (0 : Int32), Su, Su]) rfl ?_
    refine XS.iload X0.here hx rfl (hb hby d23_3) rfl ?_
    refine XS.aloadN X0.here hx rfl (hb hby d23_5) rfl rfl ?_
    refine X0.arraylength hx (by rw [e0]; exact Arc51.1) (State.isArrayOf_alike hZ.alike Arc51.2.1) (g := (mkF m 6 #[Sr a1, Sr a2, Si (0 : Int32), Sr a4, Si (0 : Int32), Su, Su] [(.ref a4), (.int (0 : Int32))])) rfl rfl (hb hby d23_6) _ ?_
    rw [len_of Asc51 Anc51]
    refine XS.icmpNo X0.here hx rfl (hb hby d23_7) rfl (tlt (by decide)).2.1 ?_
    refine XS.aloadN X0.here hx rfl (hb hby d23_10) rfl rfl ?_
    refine XS.iloadN X0.here hx rfl (hb hby d23_11) rfl ?_
    refine XS.aloadN X0.here hx rfl (hb hby d23_12) rfl rfl ?_
    refine st52 _ ?_
    show Steps _ _ _ (T52.setTop (mkF m 16 #[Sr a1, Sr a2, Si (0 : Int32), Sr a4, Si (0 : Int32), Su, Su] [(.ref r1), (.int (0 : Int32)), (.ref a2)])) _
    refine XS.iload X52.here hx rfl (hb hby d23_16) rfl ?_
    refine X52.iaload hx (j := (0 : Int32)) (v := (.int (0 : Int32))) (by rw [e52]; exact Arc53.1) (State.isArrayOf_alike hZ.alike Arc53.2.1) Arc53.2.2 hin54 hat55 (g := (mkF m 18 #[Sr a1, Sr a2, Si (0 : Int32), Sr a4, Si (0 : Int32), Su, Su] [(.int (0 : Int32)), (.ref r1), (.int (0 : Int32)), (.ref a2)])) rfl rfl (hb hby d23_18) _ ?_
    refine XS.iadd X52.here hx rfl (hb hby d23_19) rfl ?_
    refine X52.laload hx (j := (0 : Int32)) (v := (.long w0)) (by rw [e52]; exact Arc56.1) (State.isArrayOf_alike hZ.alike Arc56.2.1) Arc56.2.2 hin57 hat58 (g := (mkF m 20 #[Sr a1, Sr a2, Si (0 : Int32), Sr a4, Si (0 : Int32), Su, Su] [(.int (0 : Int32)), (.ref a2)])) rfl rfl (hb hby d23_20) _ ?_
    refine XS.aloadN X52.here hx rfl (hb hby d23_21) rfl rfl ?_
    refine st59 _ ?_
    refine XS.iload X59.here hx rfl (hb hby d23_25) rfl ?_
    refine X59.iaload hx (j := (0 : Int32)) (v := (.int s0)) (by rw [e59]; exact Arc60.1) (State.isArrayOf_alike hZ.alike Arc60.2.1) Arc60.2.2 hin61 hat62 (g := (mkF m 27 #[Sr a1, Sr a2, Si (0 : Int32), Sr a4, Si (0 : Int32), Su, Su] [(.int (0 : Int32)), (.ref r2), (.long w0)])) rfl rfl (hb hby d23_27) _ ?_
    refine XS.lushr X59.here hx rfl (hb hby d23_28) rfl ?_
    refine XS.aloadN X59.here hx rfl (hb hby d23_29) rfl rfl ?_
    show Steps _ _ _ (T59.setTop (mkF m 30 #[Sr a1, Sr a2, Si (0 : Int32), Sr a4, Si (0 : Int32), Su, Su] [(.ref a1), (.long ((w0.toUInt64 >>> (s0 &&& 0x3f).toInt64.toUInt64).toInt64))])) _
    refine st63 _ ?_
    refine XS.iload X63.here hx rfl (hb hby d23_33) rfl ?_
    refine X63.laload hx (j := (0 : Int32)) (v := (.long m0)) (by rw [e63]; exact Arc64.1) (State.isArrayOf_alike hZ.alike Arc64.2.1) Arc64.2.2 hin65 hat66 (g := (mkF m 35 #[Sr a1, Sr a2, Si (0 : Int32), Sr a4, Si (0 : Int32), Su, Su] [(.int (0 : Int32)), (.ref r3), (.long ((w0.toUInt64 >>> (s0 &&& 0x3f).toInt64.toUInt64).toInt64))])) rfl rfl (hb hby d23_35) _ ?_
    refine XS.land X63.here hx rfl (hb hby d23_36) rfl ?_
    refine XS.lstore X63.here hx rfl (hb hby d23_37) rfl (l' := #[Sr a1, Sr a2, Si (0 : Int32), Sr a4, Si (0 : Int32), Sl (((w0.toUInt64 >>> (s0 &&& 0x3f).toInt64.toUInt64).toInt64) &&& m0), S2]) rfl ?_
    refine XS.aloadN X63.here hx rfl (hb hby d23_39) rfl rfl ?_
    refine XS.iload X63.here hx rfl (hb hby d23_40) rfl ?_
    refine XS.aloadN X63.here hx rfl (hb hby d23_42) rfl rfl ?_
    refine st67 _ ?_
    refine XS.iload X67.here hx rfl (hb hby d23_46) rfl ?_
    show Steps _ _ _ (T67.setTop (mkF m 48 #[Sr a1, Sr a2, Si (0 : Int32), Sr a4, Si (0 : Int32), Sl (((w0.toUInt64 >>> (s0 &&& 0x3f).toInt64.toUInt64).toInt64) &&& m0), S2] [(.int (0 : Int32)), (.ref r4), (.int (0 : Int32)), (.ref a4)])) _
    refine X67.iaload hx (j := (0 : Int32)) (v := (.int f0)) (by rw [e67]; exact Arc68.1) (State.isArrayOf_alike hZ.alike Arc68.2.1) Arc68.2.2 hin69 hat70 (g := (mkF m 48 #[Sr a1, Sr a2, Si (0 : Int32), Sr a4, Si (0 : Int32), Sl (((w0.toUInt64 >>> (s0 &&& 0x3f).toInt64.toUInt64).toInt64) &&& m0), S2] [(.int (0 : Int32)), (.ref r4), (.int (0 : Int32)), (.ref a4)])) rfl rfl (hb hby d23_48) _ ?_
    refine XS.lload X67.here hx rfl (hb hby d23_49) rfl ?_
    refine XS.l2i X67.here hx rfl (hb hby d23_51) rfl ?_
    refine XS.iadd X67.here hx rfl (hb hby d23_52) rfl ?_
    refine st73 _ ?_
    refine XS.iinc X73.here hx rfl (hb hby d23_54) rfl (l' := #[Sr a1, Sr a2, Si (0 : Int32), Sr a4, Si (1 : Int32), Sl (((w0.toUInt64 >>> (s0 &&& 0x3f).toInt64.toUInt64).toInt64) &&& m0), S2]) rfl ?_
    refine XS.goto X73.here hx rfl (pc0 := 57) (pc' := 3) rfl (hb hby d23_57) (by decide) (by decide) ?_
    refine XS.iload X73.here hx rfl (hb hby d23_3) rfl ?_
    refine XS.aloadN X73.here hx rfl (hb hby d23_5) rfl rfl ?_
    refine X73.arraylength hx (by rw [e73]; exact Arc76.1) (State.isArrayOf_alike hZ.alike Arc76.2.1) (g := (mkF m 6 #[Sr a1, Sr a2, Si (0 : Int32), Sr a4, Si (1 : Int32), Sl (((w0.toUInt64 >>> (s0 &&& 0x3f).toInt64.toUInt64).toInt64) &&& m0), S2] [(.ref a4), (.int (1 : Int32))])) rfl rfl (hb hby d23_6) _ ?_
    rw [len_of Asc76 Anc76]
    show Steps _ _ _ (T73.setTop (mkF m 7 #[Sr a1, Sr a2, Si (0 : Int32), Sr a4, Si (1 : Int32), Sl (((w0.toUInt64 >>> (s0 &&& 0x3f).toInt64.toUInt64).toInt64) &&& m0), S2] [(.int (3 : Int32)), (.int (1 : Int32))])) _
    refine XS.icmpNo X73.here hx rfl (hb hby d23_7) rfl (tlt (by decide)).2.1 ?_
    refine XS.aloadN X73.here hx rfl (hb hby d23_10) rfl rfl ?_
    refine XS.iloadN X73.here hx rfl (hb hby d23_11) rfl ?_
    refine XS.aloadN X73.here hx rfl (hb hby d23_12) rfl rfl ?_
    refine st78 _ ?_
    refine XS.iload X78.here hx rfl (hb hby d23_16) rfl ?_
    refine X78.iaload hx (j := (1 : Int32)) (v := (.int (0 : Int32))) (by rw [e78]; exact Arc80.1) (State.isArrayOf_alike hZ.alike Arc80.2.1) Arc80.2.2 hin81 hat82 (g := (mkF m 18 #[Sr a1, Sr a2, Si (0 : Int32), Sr a4, Si (1 : Int32), Sl (((w0.toUInt64 >>> (s0 &&& 0x3f).toInt64.toUInt64).toInt64) &&& m0), S2] [(.int (1 : Int32)), (.ref r1), (.int (0 : Int32)), (.ref a2)])) rfl rfl (hb hby d23_18) _ ?_
    refine XS.iadd X78.here hx rfl (hb hby d23_19) rfl ?_
    refine X78.laload hx (j := (0 : Int32)) (v := (.long w0)) (by rw [e78]; exact Arc84.1) (State.isArrayOf_alike hZ.alike Arc84.2.1) Arc84.2.2 hin85 hat86 (g := (mkF m 20 #[Sr a1, Sr a2, Si (0 : Int32), Sr a4, Si (1 : Int32), Sl (((w0.toUInt64 >>> (s0 &&& 0x3f).toInt64.toUInt64).toInt64) &&& m0), S2] [(.int (0 : Int32)), (.ref a2)])) rfl rfl (hb hby d23_20) _ ?_
    refine XS.aloadN X78.here hx rfl (hb hby d23_21) rfl rfl ?_
    show Steps _ _ _ (T78.setTop (mkF m 22 #[Sr a1, Sr a2, Si (0 : Int32), Sr a4, Si (1 : Int32), Sl (((w0.toUInt64 >>> (s0 &&& 0x3f).toInt64.toUInt64).toInt64) &&& m0), S2] [(.ref a1), (.long w0)])) _
    refine st88 _ ?_
    refine XS.iload X88.here hx rfl (hb hby d23_25) rfl ?_
    refine X88.iaload hx (j := (1 : Int32)) (v := (.int s1)) (by rw [e88]; exact Arc90.1) (State.isArrayOf_alike hZ.alike Arc90.2.1) Arc90.2.2 hin91 hat92 (g := (mkF m 27 #[Sr a1, Sr a2, Si (0 : Int32), Sr a4, Si (1 : Int32), Sl (((w0.toUInt64 >>> (s0 &&& 0x3f).toInt64.toUInt64).toInt64) &&& m0), S2] [(.int (1 : Int32)), (.ref r2), (.long w0)])) rfl rfl (hb hby d23_27) _ ?_
    refine XS.lushr X88.here hx rfl (hb hby d23_28) rfl ?_
    exact k
  have F94 : Fld Z h73 a1 "com/example/darlington/darlington/core/StateLayout" "maskOf" "[J" (.ref r3) := (F_r3.other W73 (Or.inl n14))
  obtain ⟨T95, X95, e95, st95⟩ := getF X88 hx hZ hown (host := "") (Or.inl (ow hw 107 rfl)) Via.refl e88 F94 (g := (mkF m 30 #[Sr a1, Sr a2, Si (0 : Int32), Sr a4, Si (1 : Int32), Sl (((w0.toUInt64 >>> (s0 &&& 0x3f).toInt64.toUInt64).toInt64) &&& m0), S2] [(.ref a1), (.long ((w0.toUInt64 >>> (s1 &&& 0x3f).toInt64.toUInt64).toInt64))])) rfl rfl (hb hby d23_30)
  have F96 : Arv Z h73 r3 c3 .long (3 : Int32) [(.long m0), (.long m1), (.long m2)] (.long (0 : Int64)) := (V_r3.other W73 nr3)
  obtain ⟨c97, Arc97, Aqc97, Asc97, Anc97, Ahc97, Agc97⟩ := id F96
  have hin98 : ¬ ((1 : Int32) < 0 ∨ c97.slots.size ≤ ((1 : Int32)).toNatClampNeg) := inb_of Asc97 ⟨by decide, by decide⟩
  have hat99 : c97.slots[((1 : Int32)).toNatClampNeg]? = some (.long m1) := Has.at Ahc97 hin98 rfl
  have F100 : Fld Z h73 a1 "com/example/darlington/darlington/core/StateLayout" "firstOf" "[I" (.ref r4) := (F_r4.other W73 (Or.inl n14))
  obtain ⟨T101, X101, e101, st101⟩ := getF X95 hx hZ hown (host := "") (Or.inl (ow hw 109 rfl)) Via.refl e95 F100 (g := (mkF m 43 #[Sr a1, Sr a2, Si (0 : Int32), Sr a4, Si (1 : Int32), Sl (((w0.toUInt64 >>> (s1 &&& 0x3f).toInt64.toUInt64).toInt64) &&& m1), S2] [(.ref a1), (.int (1 : Int32)), (.ref a4)])) rfl rfl (hb hby d23_43)
  have F102 : Arv Z h73 r4 c4 .int (3 : Int32) [(.int f0), (.int f1), (.int f2)] (.int (0 : Int32)) := (V_r4.other W73 nr4)
  obtain ⟨c103, Arc103, Aqc103, Asc103, Anc103, Ahc103, Agc103⟩ := id F102
  have hin104 : ¬ ((1 : Int32) < 0 ∨ c103.slots.size ≤ ((1 : Int32)).toNatClampNeg) := inb_of Asc103 ⟨by decide, by decide⟩
  have hat105 : c103.slots[((1 : Int32)).toNatClampNeg]? = some (.int f1) := Has.at Ahc103 hin104 rfl
  obtain ⟨c106, Arc106, Aqc106, Asc106, Anc106, Ahc106, Agc106⟩ := id V73
  have hin107 : ¬ ((1 : Int32) < 0 ∨ c106.slots.size ≤ ((1 : Int32)).toNatClampNeg) := inb_of Asc106 ⟨by decide, by decide⟩
  obtain ⟨T108, h108, X108, e108, W108, st108⟩ := stI X101 hx hZ e101 Arc106 (j := (1 : Int32)) hin107 (g := (mkF m 53 #[Sr a1, Sr a2, Si (0 : Int32), Sr a4, Si (1 : Int32), Sl (((w0.toUInt64 >>> (s1 &&& 0x3f).toInt64.toUInt64).toInt64) &&& m1), S2] [(.int (f1 + ((((w0.toUInt64 >>> (s1 &&& 0x3f).toInt64.toUInt64).toInt64) &&& m1).toInt32))), (.int (1 : Int32)), (.ref a4)])) rfl rfl (hb hby d23_53)
  have KC109 : Keep h0 h108 [a4] := KC74.wr W108 (Or.inl (List.mem_of_getElem? (i := 0) rfl))
  have V108 : Arv Z h108 a4 k4 .int (3 : Int32) [(.int (f0 + ((((w0.toUInt64 >>> (s0 &&& 0x3f).toInt64.toUInt64).toInt64) &&& m0).toInt32))), (.int (f1 + ((((w0.toUInt64 >>> (s1 &&& 0x3f).toInt64.toUInt64).toInt64) &&& m1).toInt32))), (.int y2)] (.int (0 : Int32)) := Arv.set Arc106 Aqc106 Asc106 Anc106 Ahc106 Agc106 rfl W108 1 rfl (Nat.le_of_ble_eq_true rfl)
  have N110 := Fr.snoc X108 N75 g4
  obtain ⟨c111, Arc111, Aqc111, Asc111, Anc111, Ahc111, Agc111⟩ := id V108
  have F112 : Fld Z h108 a1 "com/example/darlington/darlington/core/StateLayout" "wordOf" "[I" (.ref r1) := (F77.other W108 (Or.inl n14))
  obtain ⟨T113, X113, e113, st113⟩ := getF X108 hx hZ hown (host := "") (Or.inl (ow hw 102 rfl)) Via.refl e108 F112 (g := (mkF m 13 #[Sr a1, Sr a2, Si (0 : Int32), Sr a4, Si (2 : Int32), Sl (((w0.toUInt64 >>> (s1 &&& 0x3f).toInt64.toUInt64).toInt64) &&& m1), S2] [(.ref a1), (.int (0 : Int32)), (.ref a2)])) rfl rfl (hb hby d23_13)
  have F114 : Arv Z h108 r1 c1 .int (3 : Int32) [(.int (0 : Int32)), (.int (0 : Int32)), (.int (0 : Int32))] (.int (0 : Int32)) := (F79.other W108 nr1)
  obtain ⟨c115, Arc115, Aqc115, Asc115, Anc115, Ahc115, Agc115⟩ := id F114
  have hin116 : ¬ ((2 : Int32) < 0 ∨ c115.slots.size ≤ ((2 : Int32)).toNatClampNeg) := inb_of Asc115 ⟨by decide, by decide⟩
  have hat117 : c115.slots[((2 : Int32)).toNatClampNeg]? = some (.int (0 : Int32)) := Has.at Ahc115 hin116 rfl
  have F118 : Arv Z h108 a2 k2 .long (3 : Int32) [(.long w0), (.long w1), (.long w2)] (.long (0 : Int64)) := (F83.other W108 n24)
  obtain ⟨c119, Arc119, Aqc119, Asc119, Anc119, Ahc119, Agc119⟩ := id F118
  have hin120 : ¬ ((0 : Int32) < 0 ∨ c119.slots.size ≤ ((0 : Int32)).toNatClampNeg) := inb_of Asc119 ⟨by decide, by decide⟩
  have hat121 : c119.slots[((0 : Int32)).toNatClampNeg]? = some (.long w0) := Has.at Ahc119 hin120 rfl
  have F122 : Fld Z h108 a1 "com/example/darlington/darlington/core/StateLayout" "shiftOf" "[I" (.ref r2) := (F87.other W108 (Or.inl n14))
  obtain ⟨T123, X123, e123, st123⟩ := getF X113 hx hZ hown (host := "") (Or.inl (ow hw 104 rfl)) Via.refl e113 F122 (g := (mkF m 22 #[Sr a1, Sr a2, Si (0 : Int32), Sr a4, Si (2 : Int32), Sl (((w0.toUInt64 >>> (s1 &&& 0x3f).toInt64.toUInt64).toInt64) &&& m1), S2] [(.ref a1), (.long w0)])) rfl rfl (hb hby d23_22)
  have F124 : Arv Z h108 r2 c2 .int (3 : Int32) [(.int s0), (.int s1), (.int s2)] (.int (0 : Int32)) := (F89.other W108 nr2)
  obtain ⟨c125, Arc125, Aqc125, Asc125, Anc125, Ahc125, Agc125⟩ := id F124
  have hin126 : ¬ ((2 : Int32) < 0 ∨ c125.slots.size ≤ ((2 : Int32)).toNatClampNeg) := inb_of Asc125 ⟨by decide, by decide⟩
  have hat127 : c125.slots[((2 : Int32)).toNatClampNeg]? = some (.int s2) := Has.at Ahc125 hin126 rfl
  have F128 : Fld Z h108 a1 "com/example/darlington/darlington/core/StateLayout" "maskOf" "[J" (.ref r3) := (F94.other W108 (Or.inl n14))
  obtain ⟨T129, X129, e129, st129⟩ := getF X123 hx hZ hown (host := "") (Or.inl (ow hw 107 rfl)) Via.refl e123 F128 (g := (mkF m 30 #[Sr a1, Sr a2, Si (0 : Int32), Sr a4, Si (2 : Int32), Sl (((w0.toUInt64 >>> (s1 &&& 0x3f).toInt64.toUInt64).toInt64) &&& m1), S2] [(.ref a1), (.long ((w0.toUInt64 >>> (s2 &&& 0x3f).toInt64.toUInt64).toInt64))])) rfl rfl (hb hby d23_30)
  have F130 : Arv Z h108 r3 c3 .long (3 : Int32) [(.long m0), (.long m1), (.long m2)] (.long (0 : Int64)) := (F96.other W108 nr3)
  obtain ⟨c131, Arc131, Aqc131, Asc131, Anc131, Ahc131, Agc131⟩ := id F130
  have hin132 : ¬ ((2 : Int32) < 0 ∨ c131.slots.size ≤ ((2 : Int32)).toNatClampNeg) := inb_of Asc131 ⟨by decide, by decide⟩
  have hat133 : c131.slots[((2 : Int32)).toNatClampNeg]? = some (.long m2) := Has.at Ahc131 hin132 rfl
  have F134 : Fld Z h108 a1 "com/example/darlington/darlington/core/StateLayout" "firstOf" "[I" (.ref r4) := (F100.other W108 (Or.inl n14))
  obtain ⟨T135, X135, e135, st135⟩ := getF X129 hx hZ hown (host := "") (Or.inl (ow hw 109 rfl)) Via.refl e129 F134 (g := (mkF m 43 #[Sr a1, Sr a2, Si (0 : Int32), Sr a4, Si (2 : Int32), Sl (((w0.toUInt64 >>> (s2 &&& 0x3f).toInt64.toUInt64).toInt64) &&& m2), S2] [(.ref a1), (.int (2 : Int32)), (.ref a4)])) rfl rfl (hb hby d23_43)
  have F136 : Arv Z h108 r4 c4 .int (3 : Int32) [(.int f0), (.int f1), (.int f2)] (.int (0 : Int32)) := (F102.other W108 nr4)
  obtain ⟨c137, Arc137, Aqc137, Asc137, Anc137, Ahc137, Agc137⟩ := id F136
  have hin138 : ¬ ((2 : Int32) < 0 ∨ c137.slots.size ≤ ((2 : Int32)).toNatClampNeg) := inb_of Asc137 ⟨by decide, by decide⟩
  have hat139 : c137.slots[((2 : Int32)).toNatClampNeg]? = some (.int f2) := Has.at Ahc137 hin138 rfl
  obtain ⟨c140, Arc140, Aqc140, Asc140, Anc140, Ahc140, Agc140⟩ := id V108
  have hin141 : ¬ ((2 : Int32) < 0 ∨ c140.slots.size ≤ ((2 : Int32)).toNatClampNeg) := inb_of Asc140 ⟨by decide, by decide⟩
  obtain ⟨T142, h142, X142, e142, W142, st142⟩ := stI X135 hx hZ e135 Arc140 (j := (2 : Int32)) hin141 (g := (mkF m 53 #[Sr a1, Sr a2, Si (0 : Int32), Sr a4, Si (2 : Int32), Sl (((w0.toUInt64 >>> (s2 &&& 0x3f).toInt64.toUInt64).toInt64) &&& m2), S2] [(.int (f2 + ((((w0.toUInt64 >>> (s2 &&& 0x3f).toInt64.toUInt64).toInt64) &&& m2).toInt32))), (.int (2 : Int32)), (.ref a4)])) rfl rfl (hb hby d23_53)
  have KC143 : Keep h0 h142 [a4] := KC109.wr W142 (Or.inl (List.mem_of_getElem? (i := 0) rfl))
  have V142 : Arv Z h142 a4 k4 .int (3 : Int32) [(.int (f0 + ((((w0.toUInt64 >>> (s0 &&& 0x3f).toInt64.toUInt64).toInt64) &&& m0).toInt32))), (.int (f1 + ((((w0.toUInt64 >>> (s1 &&& 0x3f).toInt64.toUInt64).toInt64) &&& m1).toInt32))), (.int (f2 + ((((w0.toUInt64 >>> (s2 &&& 0x3f).toInt64.toUInt64).toInt64) &&& m2).toInt32)))] (.int (0 : Int32)) := Arv.set Arc140 Aqc140 Asc140 Anc140 Ahc140 Agc140 rfl W142 2 rfl (Nat.le_of_ble_eq_true rfl)
  have N144 := Fr.snoc X142 N110 g4
  have pre145 : ∀ t, Steps p.tables e below (T142.setTop (mkF m 6 #[Sr a1, Sr a2, Si (0 : Int32), Sr a4, Si (3 : Int32), Sl (((w0.toUInt64 >>> (s2 &&& 0x3f).toInt64.toUInt64).toInt64) &&& m2), S2] [(.ref a4), (.int (3 : Int32))])) t → Steps p.tables e below (s₁.setTop (entryFrame m #[(.ref a1), (.ref a2), (.int (0 : Int32)), (.ref a4)] 7)) t := by
    intro t k
    refine pre93 t ?_
    refine XS.aloadN X88.here hx rfl (hb hby d23_29) rfl rfl ?_
    refine st95 _ ?_
    refine XS.iload X95.here hx rfl (hb hby d23_33) rfl ?_
    refine X95.laload hx (j := (1 : Int32)) (v := (.long m1)) (by rw [e95]; exact Arc97.1) (State.isArrayOf_alike hZ.alike Arc97.2.1) Arc97.2.2 hin98 hat99 (g := (mkF m 35 #[Sr a1, Sr a2, Si (0 : Int32), Sr a4, Si (1 : Int32), Sl (((w0.toUInt64 >>> (s0 &&& 0x3f).toInt64.toUInt64).toInt64) &&& m0), S2] [(.int (1 : Int32)), (.ref r3), (.long ((w0.toUInt64 >>> (s1 &&& 0x3f).toInt64.toUInt64).toInt64))])) rfl rfl (hb hby d23_35) _ ?_
    refine XS.land X95.here hx rfl (hb hby d23_36) rfl ?_
    refine XS.lstore X95.here hx rfl (hb hby d23_37) rfl (l' := #[Sr a1, Sr a2, Si (0 : Int32), Sr a4, Si (1 : Int32), Sl (((w0.toUInt64 >>> (s1 &&& 0x3f).toInt64.toUInt64).toInt64) &&& m1), S2]) rfl ?_
    show Steps _ _ _ (T95.setTop (mkF m 39 #[Sr a1, Sr a2, Si (0 : Int32), Sr a4, Si (1 : Int32), Sl (((w0.toUInt64 >>> (s1 &&& 0x3f).toInt64.toUInt64).toInt64) &&& m1), S2] [])) _
    refine XS.aloadN X95.here hx rfl (hb hby d23_39) rfl rfl ?_
    refine XS.iload X95.here hx rfl (hb hby d23_40) rfl ?_
    refine XS.aloadN X95.here hx rfl (hb hby d23_42) rfl rfl ?_
    refine st101 _ ?_
    refine XS.iload X101.here hx rfl (hb hby d23_46) rfl ?_
    refine X101.iaload hx (j := (1 : Int32)) (v := (.int f1)) (by rw [e101]; exact Arc103.1) (State.isArrayOf_alike hZ.alike Arc103.2.1) Arc103.2.2 hin104 hat105 (g := (mkF m 48 #[Sr a1, Sr a2, Si (0 : Int32), Sr a4, Si (1 : Int32), Sl (((w0.toUInt64 >>> (s1 &&& 0x3f).toInt64.toUInt64).toInt64) &&& m1), S2] [(.int (1 : Int32)), (.ref r4), (.int (1 : Int32)), (.ref a4)])) rfl rfl (hb hby d23_48) _ ?_
    refine XS.lload X101.here hx rfl (hb hby d23_49) rfl ?_
    refine XS.l2i X101.here hx rfl (hb hby d23_51) rfl ?_
    refine XS.iadd X101.here hx rfl (hb hby d23_52) rfl ?_
    refine st108 _ ?_
    show Steps _ _ _ (T108.setTop (mkF m 54 #[Sr a1, Sr a2, Si (0 : Int32), Sr a4, Si (1 : Int32), Sl (((w0.toUInt64 >>> (s1 &&& 0x3f).toInt64.toUInt64).toInt64) &&& m1), S2] [])) _
    refine XS.iinc X108.here hx rfl (hb hby d23_54) rfl (l' := #[Sr a1, Sr a2, Si (0 : Int32), Sr a4, Si (2 : Int32), Sl (((w0.toUInt64 >>> (s1 &&& 0x3f).toInt64.toUInt64).toInt64) &&& m1), S2]) rfl ?_
    refine XS.goto X108.here hx rfl (pc0 := 57) (pc' := 3) rfl (hb hby d23_57) (by decide) (by decide) ?_
    refine XS.iload X108.here hx rfl (hb hby d23_3) rfl ?_
    refine XS.aloadN X108.here hx rfl (hb hby d23_5) rfl rfl ?_
    refine X108.arraylength hx (by rw [e108]; exact Arc111.1) (State.isArrayOf_alike hZ.alike Arc111.2.1) (g := (mkF m 6 #[Sr a1, Sr a2, Si (0 : Int32), Sr a4, Si (2 : Int32), Sl (((w0.toUInt64 >>> (s1 &&& 0x3f).toInt64.toUInt64).toInt64) &&& m1), S2] [(.ref a4), (.int (2 : Int32))])) rfl rfl (hb hby d23_6) _ ?_
    rw [len_of Asc111 Anc111]
    refine XS.icmpNo X108.here hx rfl (hb hby d23_7) rfl (tlt (by decide)).2.1 ?_
    refine XS.aloadN X108.here hx rfl (hb hby d23_10) rfl rfl ?_
    refine XS.iloadN X108.here hx rfl (hb hby d23_11) rfl ?_
    refine XS.aloadN X108.here hx rfl (hb hby d23_12) rfl rfl ?_
    refine st113 _ ?_
    show Steps _ _ _ (T113.setTop (mkF m 16 #[Sr a1, Sr a2, Si (0 : Int32), Sr a4, Si (2 : Int32), Sl (((w0.toUInt64 >>> (s1 &&& 0x3f).toInt64.toUInt64).toInt64) &&& m1), S2] [(.ref r1), (.int (0 : Int32)), (.ref a2)])) _
    refine XS.iload X113.here hx rfl (hb hby d23_16) rfl ?_
    refine X113.iaload hx (j := (2 : Int32)) (v := (.int (0 : Int32))) (by rw [e113]; exact Arc115.1) (State.isArrayOf_alike hZ.alike Arc115.2.1) Arc115.2.2 hin116 hat117 (g := (mkF m 18 #[Sr a1, Sr a2, Si (0 : Int32), Sr a4, Si (2 : Int32), Sl (((w0.toUInt64 >>> (s1 &&& 0x3f).toInt64.toUInt64).toInt64) &&& m1), S2] [(.int (2 : Int32)), (.ref r1), (.int (0 : Int32)), (.ref a2)])) rfl rfl (hb hby d23_18) _ ?_
    refine XS.iadd X113.here hx rfl (hb hby d23_19) rfl ?_
    refine X113.laload hx (j := (0 : Int32)) (v := (.long w0)) (by rw [e113]; exact Arc119.1) (State.isArrayOf_alike hZ.alike Arc119.2.1) Arc119.2.2 hin120 hat121 (g := (mkF m 20 #[Sr a1, Sr a2, Si (0 : Int32), Sr a4, Si (2 : Int32), Sl (((w0.toUInt64 >>> (s1 &&& 0x3f).toInt64.toUInt64).toInt64) &&& m1), S2] [(.int (0 : Int32)), (.ref a2)])) rfl rfl (hb hby d23_20) _ ?_
    refine XS.aloadN X113.here hx rfl (hb hby d23_21) rfl rfl ?_
    refine st123 _ ?_
    refine XS.iload X123.here hx rfl (hb hby d23_25) rfl ?_
    refine X123.iaload hx (j := (2 : Int32)) (v := (.int s2)) (by rw [e123]; exact Arc125.1) (State.isArrayOf_alike hZ.alike Arc125.2.1) Arc125.2.2 hin126 hat127 (g := (mkF m 27 #[Sr a1, Sr a2, Si (0 : Int32), Sr a4, Si (2 : Int32), Sl (((w0.toUInt64 >>> (s1 &&& 0x3f).toInt64.toUInt64).toInt64) &&& m1), S2] [(.int (2 : Int32)), (.ref r2), (.long w0)])) rfl rfl (hb hby d23_27) _ ?_
    refine XS.lushr X123.here hx rfl (hb hby d23_28) rfl ?_
    refine XS.aloadN X123.here hx rfl (hb hby d23_29) rfl rfl ?_
    show Steps _ _ _ (T123.setTop (mkF m 30 #[Sr a1, Sr a2, Si (0 : Int32), Sr a4, Si (2 : Int32), Sl (((w0.toUInt64 >>> (s1 &&& 0x3f).toInt64.toUInt64).toInt64) &&& m1), S2] [(.ref a1), (.long ((w0.toUInt64 >>> (s2 &&& 0x3f).toInt64.toUInt64).toInt64))])) _
    refine st129 _ ?_
    refine XS.iload X129.here hx rfl (hb hby d23_33) rfl ?_
    refine X129.laload hx (j := (2 : Int32)) (v := (.long m2)) (by rw [e129]; exact Arc131.1) (State.isArrayOf_alike hZ.alike Arc131.2.1) Arc131.2.2 hin132 hat133 (g := (mkF m 35 #[Sr a1, Sr a2, Si (0 : Int32), Sr a4, Si (2 : Int32), Sl (((w0.toUInt64 >>> (s1 &&& 0x3f).toInt64.toUInt64).toInt64) &&& m1), S2] [(.int (2 : Int32)), (.ref r3), (.long ((w0.toUInt64 >>> (s2 &&& 0x3f).toInt64.toUInt64).toInt64))])) rfl rfl (hb hby d23_35) _ ?_
    refine XS.land X129.here hx rfl (hb hby d23_36) rfl ?_
    refine XS.lstore X129.here hx rfl (hb hby d23_37) rfl (l' := #[Sr a1, Sr a2, Si (0 : Int32), Sr a4, Si (2 : Int32), Sl (((w0.toUInt64 >>> (s2 &&& 0x3f).toInt64.toUInt64).toInt64) &&& m2), S2]) rfl ?_
    refine XS.aloadN X129.here hx rfl (hb hby d23_39) rfl rfl ?_
    refine XS.iload X129.here hx rfl (hb hby d23_40) rfl ?_
    refine XS.aloadN X129.here hx rfl (hb hby d23_42) rfl rfl ?_
    refine st135 _ ?_
    refine XS.iload X135.here hx rfl (hb hby d23_46) rfl ?_
    show Steps _ _ _ (T135.setTop (mkF m 48 #[Sr a1, Sr a2, Si (0 : Int32), Sr a4, Si (2 : Int32), Sl (((w0.toUInt64 >>> (s2 &&& 0x3f).toInt64.toUInt64).toInt64) &&& m2), S2] [(.int (2 : Int32)), (.ref r4), (.int (2 : Int32)), (.ref a4)])) _
    refine X135.iaload hx (j := (2 : Int32)) (v := (.int f2)) (by rw [e135]; exact Arc137.1) (State.isArrayOf_alike hZ.alike Arc137.2.1) Arc137.2.2 hin138 hat139 (g := (mkF m 48 #[Sr a1, Sr a2, Si (0 : Int32), Sr a4, Si (2 : Int32), Sl (((w0.toUInt64 >>> (s2 &&& 0x3f).toInt64.toUInt64).toInt64) &&& m2), S2] [(.int (2 : Int32)), (.ref r4), (.int (2 : Int32)), (.ref a4)])) rfl rfl (hb hby d23_48) _ ?_
    refine XS.lload X135.here hx rfl (hb hby d23_49) rfl ?_
    refine XS.l2i X135.here hx rfl (hb hby d23_51) rfl ?_
    refine XS.iadd X135.here hx rfl (hb hby d23_52) rfl ?_
    refine st142 _ ?_
    refine XS.iinc X142.here hx rfl (hb hby d23_54) rfl (l' := #[Sr a1, Sr a2, Si (0 : Int32), Sr a4, Si (3 : Int32), Sl (((w0.toUInt64 >>> (s2 &&& 0x3f).toInt64.toUInt64).toInt64) &&& m2), S2]) rfl ?_
    refine XS.goto X142.here hx rfl (pc0 := 57) (pc' := 3) rfl (hb hby d23_57) (by decide) (by decide) ?_
    refine XS.iload X142.here hx rfl (hb hby d23_3) rfl ?_
    refine XS.aloadN X142.here hx rfl (hb hby d23_5) rfl rfl ?_
    exact k
  obtain ⟨c146, Arc146, Aqc146, Asc146, Anc146, Ahc146, Agc146⟩ := id V142
  have pre147 : ∀ t, Steps p.tables e below (T142.setTop (mkF m 60 #[Sr a1, Sr a2, Si (0 : Int32), Sr a4, Si (3 : Int32), Sl (((w0.toUInt64 >>> (s2 &&& 0x3f).toInt64.toUInt64).toInt64) &&& m2), S2] [])) t → Steps p.tables e below (s₁.setTop (entryFrame m #[(.ref a1), (.ref a2), (.int (0 : Int32)), (.ref a4)] 7)) t := by
    intro t k
    refine pre145 t ?_
    refine X142.arraylength hx (by rw [e142]; exact Arc146.1) (State.isArrayOf_alike hZ.alike Arc146.2.1) (g := (mkF m 6 #[Sr a1, Sr a2, Si (0 : Int32), Sr a4, Si (3 : Int32), Sl (((w0.toUInt64 >>> (s2 &&& 0x3f).toInt64.toUInt64).toInt64) &&& m2), S2] [(.ref a4), (.int (3 : Int32))])) rfl rfl (hb hby d23_6) _ ?_
    rw [len_of Asc146 Anc146]
    show Steps _ _ _ (T142.setTop (mkF m 7 #[Sr a1, Sr a2, Si (0 : Int32), Sr a4, Si (3 : Int32), Sl (((w0.toUInt64 >>> (s2 &&& 0x3f).toInt64.toUInt64).toInt64) &&& m2), S2] [(.int (3 : Int32)), (.int (3 : Int32))])) _
    refine XS.icmpYes X142.here hx rfl (pc0 := 7) (pc' := 60) rfl (hb hby d23_7) rfl (flt (by decide)).2.1 (by decide) (by decide) ?_
    exact k
  obtain ⟨fs, hr, hrun, hended, hW, hsame⟩ := X142.leave (v := none) (fun _ => rfl)
  refine ⟨_, _, pre147 _ ?_, hrun, hended, _, _, rfl, ?_, ⟨_, rfl⟩, hW, hsame.mono (by decide) (by decide)⟩
  · exact X142.returnOut hx Bd.returns (hb hby d23_60) hr
  · show Q_rm_unpA Z a1 a2 a4 r1 r2 r3 r4 c1 c2 c3 c4 s0 s1 s2 m0 m1 m2 f0 f1 f2 k2 k4 w0 w1 w2 y0 y1 y2 h0 n0 _ T142.heap _
    rw [e142]
    exact ⟨rfl, N144, KC143, V142⟩
theorem ef_rm_unpB (m : MethodId) (x0 : Addr) (x1 : Addr) (x3 : Addr) : entryFrame m #[(.ref x0), (.ref x1), (.int (0 : Int32)), (.ref x3)] 7 = mkF m 0 #[Sr x0, Sr x1, Si (0 : Int32), Sr x3, Su, Su, Su] [] := by first | (simp [entryFrame, mkF, argsToLocals, Value.category]; done) | rfl
def Q_rm_unpB (Z : State) (a1 : Addr) (a2 : Addr) (a4 : Addr) (r1 : Addr) (r2 : Addr) (r3 : Addr) (r4 : Addr) (c1 : ClassId) (c2 : ClassId) (c3 : ClassId) (c4 : ClassId) (s0 : Int32) (s1 : Int32) (s2 : Int32) (m0 : Int64) (m1 : Int64) (m2 : Int64) (f0 : Int32) (f1 : Int32) (f2 : Int32) (k2 : ClassId) (k4 : ClassId) (w0 : Int64) (w1 : Int64) (w2 : Int64) (y0 : Int32) (y1 : Int32) (y2 : Int32) (h0 : Heap) (n0 : Nat) (v : Option Value) (h : Heap) (L : List Loc) : Prop := v = none ∧ Fr n0 L ∧ Keep h0 h [a4] ∧ Arv Z h a4 k4 .int (3 : Int32) [(.int (f0 + ((((w0.toUInt64 >>> (s0 &&& 0x3f).toInt64.toUInt64).toInt64) &&& m0).toInt32))), (.int (f1 + ((((w0.toUInt64 >>> (s1 &&& 0x3f).toInt64.toUInt64).toInt64) &&& m1).toInt32))), (.int (f2 + ((((w1.toUInt64 >>> (s2 &&& 0x3f).toInt64.toUInt64).toInt64) &&& m2).toInt32)))] (.int (0 : Int32))
set_option maxRecDepth 65536 in
set_option maxHeartbeats 40000000 in
theorem rm_unpB (l : Launch) (Z : State) (a0 : Array Value) (hw : ∀ d ∈ tables_1, d.before a0 Z = true) (ws : List Jvm.Cond) (a1 : Addr) (a2 : Addr) (a4 : Addr) (r1 : Addr) (r2 : Addr) (r3 : Addr) (r4 : Addr) (c1 : ClassId) (c2 : ClassId) (c3 : ClassId) (c4 : ClassId) (s0 : Int32) (s1 : Int32) (s2 : Int32) (m0 : Int64) (m1 : Int64) (m2 : Int64) (f0 : Int32) (f1 : Int32) (f2 : Int32) (k2 : ClassId) (k4 : ClassId) (w0 : Int64) (w1 : Int64) (w2 : Int64) (y0 : Int32) (y1 : Int32) (y2 : Int32) (h0 : Heap) (n0 : Nat) (Z0 : n0 ≤ h0.size) (F_r1 : Fld Z h0 a1 "com/example/darlington/darlington/core/StateLayout" "wordOf" "[I" (.ref r1)) (V_r1 : Arv Z h0 r1 c1 .int (3 : Int32) [(.int (0 : Int32)), (.int (0 : Int32)), (.int (1 : Int32))] (.int (0 : Int32))) (F_r2 : Fld Z h0 a1 "com/example/darlington/darlington/core/StateLayout" "shiftOf" "[I" (.ref r2)) (V_r2 : Arv Z h0 r2 c2 .int (3 : Int32) [(.int s0), (.int s1), (.int s2)] (.int (0 : Int32))) (F_r3 : Fld Z h0 a1 "com/example/darlington/darlington/core/StateLayout" "maskOf" "[J" (.ref r3)) (V_r3 : Arv Z h0 r3 c3 .long (3 : Int32) [(.long m0), (.long m1), (.long m2)] (.long (0 : Int64))) (F_r4 : Fld Z h0 a1 "com/example/darlington/darlington/core/StateLayout" "firstOf" "[I" (.ref r4)) (V_r4 : Arv Z h0 r4 c4 .int (3 : Int32) [(.int f0), (.int f1), (.int f2)] (.int (0 : Int32))) (V2 : Arv Z h0 a2 k2 .long (3 : Int32) [(.long w0), (.long w1), (.long w2)] (.long (0 : Int64))) (V4 : Arv Z h0 a4 k4 .int (3 : Int32) [(.int y0), (.int y1), (.int y2)] (.int (0 : Int32))) (g4 : n0 ≤ a4) (n14 : a1 ≠ a4) (n24 : a2 ≠ a4) (nr1 : r1 ≠ a4) (nr2 : r2 ≠ a4) (nr3 : r3 ≠ a4) (nr4 : r4 ≠ a4) :
    MetFree l (⟨"com/example/darlington/darlington/core/StateLayout", "unpack", "([JI[I)V"⟩ : MethodName) (head1 (Jvm.Cond.code (⟨"com/example/darlington/darlington/core/StateLayout", "unpack", "([JI[I)V"⟩ : MethodName) prog_74_method_6_code 7 none :: ws) ({ frames := 0, cells := 0, slots := 0, locals := 0 } : Room)) (fun a U => a = #[(.ref a1), (.ref a2), (.int (0 : Int32)), (.ref a4)] ∧ Z.Warmed39 U.vm ∧ U.heap = h0) (fun _ _ _ _ _ => True) (fun _ U o U' => ∃ v L, o = .returned v ∧ Q_rm_unpB Z a1 a2 a4 r1 r2 r3 r4 c1 c2 c3 c4 s0 s1 s2 m0 m1 m2 f0 f1 f2 k2 k4 w0 w1 w2 y0 y1 y2 h0 n0 v U'.heap L ∧ FrameEnd U o U' L ({ frames := 0, cells := 0, slots := 0, locals := 0 } : Room).cells ({ frames := 0, cells := 0, slots := 0, locals := 0 } : Room).slots) := by
  refine MetFree.of_bodySF (plainFor_of_name pn_8) hisR ?_
  intro p e s m args below meth c s₁ Bd hml0 hP hK
  obtain ⟨rfl, hZ, hh⟩ := hP
  have hx := Bd.exec
  have hby := Bd.bytes
  have hml : c.maxLocals = 7 := hml0
  have hown : s.vm.findClass "com/example/darlington/darlington/core/StateLayout" = some m.cls := findClass_of_methodNamed Bd.named
  have hnm := (name_of_methodNamed Bd.named Bd.method).1
  have X0 : Stand p l e ({ frames := 0, cells := 0, slots := 0, locals := 0 } : Room) s m #[(.ref a1), (.ref a2), (.int (0 : Int32)), (.ref a4)] below meth c s₁ [] 0 0 := Stand.of_body Bd
  have e0 : s₁.heap = h0 := by rw [← hh, Bd.state]; rfl
  have N0 := Fr.nil n0
  have pre0 : ∀ t, Steps p.tables e below (s₁.setTop (mkF m 0 #[Sr a1, Sr a2, Si (0 : Int32), Sr a4, Su, Su, Su] [])) t → Steps p.tables e below (s₁.setTop (entryFrame m #[(.ref a1), (.ref a2), (.int (0 : Int32)), (.ref a4)] 7)) t := fun t k => castTop (ef_rm_unpB m a1 a2 a4) k
  obtain ⟨c51, Arc51, Aqc51, Asc51, Anc51, Ahc51, Agc51⟩ := id V4
  obtain ⟨T52, X52, e52, st52⟩ := getF X0 hx hZ hown (host := "") (Or.inl (ow hw 102 rfl)) Via.refl e0 F_r1 (g := (mkF m 13 #[Sr a1, Sr a2, Si (0 : Int32), Sr a4, Si (0 : Int32), Su, Su] [(.ref a1), (.int (0 : Int32)), (.ref a2)])) rfl rfl (hb hby d23_13)
  obtain ⟨c53, Arc53, Aqc53, Asc53, Anc53, Ahc53, Agc53⟩ := id V_r1
  have hin54 : ¬ ((0 : Int32) < 0 ∨ c53.slots.size ≤ ((0 : Int32)).toNatClampNeg) := inb_of Asc53 ⟨by decide, by decide⟩
  have hat55 : c53.slots[((0 : Int32)).toNatClampNeg]? = some (.int (0 : Int32)) := Has.at Ahc53 hin54 rfl
  obtain ⟨c56, Arc56, Aqc56, Asc56, Anc56, Ahc56, Agc56⟩ := id V2
  have hin57 : ¬ ((0 : Int32) < 0 ∨ c56.slots.size ≤ ((0 : Int32)).toNatClampNeg) := inb_of Asc56 ⟨by decide, by decide⟩
  have hat58 : c56.slots[((0 : Int32)).toNatClampNeg]? = some (.long w0) := Has.at Ahc56 hin57 rfl
  obtain ⟨T59, X59, e59, st59⟩ := getF X52 hx hZ hown (host := "") (Or.inl (ow hw 104 rfl)) Via.refl e52 F_r2 (g := (mkF m 22 #[Sr a1, Sr a2, Si (0 : Int32), Sr a4, Si (0 : Int32), Su, Su] [(.ref a1), (.long w0)])) rfl rfl (hb hby d23_22)
  obtain ⟨c60, Arc60, Aqc60, Asc60, Anc60, Ahc60, Agc60⟩ := id V_r2
  have hin61 : ¬ ((0 : Int32) < 0 ∨ c60.slots.size ≤ ((0 : Int32)).toNatClampNeg) := inb_of Asc60 ⟨by decide, by decide⟩
  have hat62 : c60.slots[((0 : Int32)).toNatClampNeg]? = some (.int s0) := Has.at Ahc60 hin61 rfl
  obtain ⟨T63, X63, e63, st63⟩ := getF X59 hx hZ hown (host := "") (Or.inl (ow hw 107 rfl)) Via.refl e59 F_r3 (g := (mkF m 30 #[Sr a1, Sr a2, Si (0 : Int32), Sr a4, Si (0 : Int32), Su, Su] [(.ref a1), (.long ((w0.toUInt64 >>> (s0 &&& 0x3f).toInt64.toUInt64).toInt64))])) rfl rfl (hb hby d23_30)
  obtain ⟨c64, Arc64, Aqc64, Asc64, Anc64, Ahc64, Agc64⟩ := id V_r3
  have hin65 : ¬ ((0 : Int32) < 0 ∨ c64.slots.size ≤ ((0 : Int32)).toNatClampNeg) := inb_of Asc64 ⟨by decide, by decide⟩
  have hat66 : c64.slots[((0 : Int32)).toNatClampNeg]? = some (.long m0) := Has.at Ahc64 hin65 rfl
  obtain ⟨T67, X67, e67, st67⟩ := getF X63 hx hZ hown (host := "") (Or.inl (ow hw 109 rfl)) Via.refl e63 F_r4 (g := (mkF m 43 #[Sr a1, Sr a2, Si (0 : Int32), Sr a4, Si (0 : Int32), Sl (((w0.toUInt64 >>> (s0 &&& 0x3f).toInt64.toUInt64).toInt64) &&& m0), S2] [(.ref a1), (.int (0 : Int32)), (.ref a4)])) rfl rfl (hb hby d23_43)
  obtain ⟨c68, Arc68, Aqc68, Asc68, Anc68, Ahc68, Agc68⟩ := id V_r4
  have hin69 : ¬ ((0 : Int32) < 0 ∨ c68.slots.size ≤ ((0 : Int32)).toNatClampNeg) := inb_of Asc68 ⟨by decide, by decide⟩
  have hat70 : c68.slots[((0 : Int32)).toNatClampNeg]? = some (.int f0) := Has.at Ahc68 hin69 rfl
  obtain ⟨c71, Arc71, Aqc71, Asc71, Anc71, Ahc71, Agc71⟩ := id V4
  have hin72 : ¬ ((0 : Int32) < 0 ∨ c71.slots.size ≤ ((0 : Int32)).toNatClampNeg) := inb_of Asc71 ⟨by decide, by decide⟩
  obtain ⟨T73, h73, X73, e73, W73, st73⟩ := stI X67 hx hZ e67 Arc71 (j := (0 : Int32)) hin72 (g := (mkF m 53 #[Sr a1, Sr a2, Si (0 : Int32), Sr a4, Si (0 : Int32), Sl (((w0.toUInt64 >>> (s0 &&& 0x3f).toInt64.toUInt64).toInt64) &&& m0), S2] [(.int (f0 + ((((w0.toUInt64 >>> (s0 &&& 0x3f).toInt64.toUInt64).toInt64) &&& m0).toInt32))), (.int (0 : Int32)), (.ref a4)])) rfl rfl (hb hby d23_53)
  have KC74 : Keep h0 h73 [a4] := (Keep.refl h0 [a4]).wr W73 (Or.inl (List.mem_of_getElem? (i := 0) rfl))
  have V73 : Arv Z h73 a4 k4 .int (3 : Int32) [(.int (f0 + ((((w0.toUInt64 >>> (s0 &&& 0x3f).toInt64.toUInt64).toInt64) &&& m0).toInt32))), (.int y1), (.int y2)] (.int (0 : Int32)) := Arv.set Arc71 Aqc71 Asc71 Anc71 Ahc71 Agc71 rfl W73 0 rfl (Nat.le_of_ble_eq_true rfl)
  have N75 := Fr.snoc X73 N0 g4
  obtain ⟨c76, Arc76, Aqc76, Asc76, Anc76, Ahc76, Agc76⟩ := id V73
  have F77 : Fld Z h73 a1 "com/example/darlington/darlington/core/StateLayout" "wordOf" "[I" (.ref r1) := (F_r1.other W73 (Or.inl n14))
  obtain ⟨T78, X78, e78, st78⟩ := getF X73 hx hZ hown (host := "") (Or.inl (ow hw 102 rfl)) Via.refl e73 F77 (g := (mkF m 13 #[Sr a1, Sr a2, Si (0 : Int32), Sr a4, Si (1 : Int32), Sl (((w0.toUInt64 >>> (s0 &&& 0x3f).toInt64.toUInt64).toInt64) &&& m0), S2] [(.ref a1), (.int (0 : Int32)), (.ref a2)])) rfl rfl (hb hby d23_13)
  have F79 : Arv Z h73 r1 c1 .int (3 : Int32) [(.int (0 : Int32)), (.int (0 : Int32)), (.int (1 : Int32))] (.int (0 : Int32)) := (V_r1.other W73 nr1)
  obtain ⟨c80, Arc80, Aqc80, Asc80, Anc80, Ahc80, Agc80⟩ := id F79
  have hin81 : ¬ ((1 : Int32) < 0 ∨ c80.slots.size ≤ ((1 : Int32)).toNatClampNeg) := inb_of Asc80 ⟨by decide, by decide⟩
  have hat82 : c80.slots[((1 : Int32)).toNatClampNeg]? = some (.int (0 : Int32)) := Has.at Ahc80 hin81 rfl
  have F83 : Arv Z h73 a2 k2 .long (3 : Int32) [(.long w0), (.long w1), (.long w2)] (.long (0 : Int64)) := (V2.other W73 n24)
  obtain ⟨c84, Arc84, Aqc84, Asc84, Anc84, Ahc84, Agc84⟩ := id F83
  have hin85 : ¬ ((0 : Int32) < 0 ∨ c84.slots.size ≤ ((0 : Int32)).toNatClampNeg) := inb_of Asc84 ⟨by decide, by decide⟩
  have hat86 : c84.slots[((0 : Int32)).toNatClampNeg]? = some (.long w0) := Has.at Ahc84 hin85 rfl
  have F87 : Fld Z h73 a1 "com/example/darlington/darlington/core/StateLayout" "shiftOf" "[I" (.ref r2) := (F_r2.other W73 (Or.inl n14))
  obtain ⟨T88, X88, e88, st88⟩ := getF X78 hx hZ hown (host := "") (Or.inl (ow hw 104 rfl)) Via.refl e78 F87 (g := (mkF m 22 #[Sr a1, Sr a2, Si (0 : Int32), Sr a4, Si (1 : Int32), Sl (((w0.toUInt64 >>> (s0 &&& 0x3f).toInt64.toUInt64).toInt64) &&& m0), S2] [(.ref a1), (.long w0)])) rfl rfl (hb hby d23_22)
  have F89 : Arv Z h73 r2 c2 .int (3 : Int32) [(.int s0), (.int s1), (.int s2)] (.int (0 : Int32)) := (V_r2.other W73 nr2)
  obtain ⟨c90, Arc90, Aqc90, Asc90, Anc90, Ahc90, Agc90⟩ := id F89
  have hin91 : ¬ ((1 : Int32) < 0 ∨ c90.slots.size ≤ ((1 : Int32)).toNatClampNeg) := inb_of Asc90 ⟨by decide, by decide⟩
  have hat92 : c90.slots[((1 : Int32)).toNatClampNeg]? = some (.int s1) := Has.at Ahc90 hin91 rfl
  have pre93 : ∀ t, Steps p.tables e below (T88.setTop (mkF m 29 #[Sr a1, Sr a2, Si (0 : Int32), Sr a4, Si (1 : Int32), Sl (((w0.toUInt64 >>> (s0 &&& 0x3f).toInt64.toUInt64).toInt64) &&& m0), S2] [(.long ((w0.toUInt64 >>> (s1 &&& 0x3f).toInt64.toUInt64).toInt64))])) t → Steps p.tables e below (s₁.setTop (entryFrame m #[(.ref a1), (.ref a2), (.int (0 : Int32)), (.ref a4)] 7)) t := by
    intro t k
    refine pre0 t ?_
    refine XS.iconst X0.here hx rfl (hb hby d23_0) ?_
    refine XS.istore X0.here hx rfl (hb hby d23_1) rfl (l' := #[Sr a1, Sr a2, Si (0 : Int32), Sr a4, Si (0 : Int32), Su, Su]) rfl ?_
    refine XS.iload X0.here hx rfl (hb hby d23_3) rfl ?_
    refine XS.aloadN X0.here hx rfl (hb hby d23_5) rfl rfl ?_
    refine X0.arraylength hx (by rw [e0]; exact Arc51.1) (State.isArrayOf_alike hZ.alike Arc51.2.1) (g := (mkF m 6 #[Sr a1, Sr a2, Si (0 : Int32), Sr a4, Si (0 : Int32), Su, Su] [(.ref a4), (.int (0 : Int32))])) rfl rfl (hb hby d23_6) _ ?_
    rw [len_of Asc51 Anc51]
    refine XS.icmpNo X0.here hx rfl (hb hby d23_7) rfl (tlt (by decide)).2.1 ?_
    refine XS.aloadN X0.here hx rfl (hb hby d23_10) rfl rfl ?_
    refine XS.iloadN X0.here hx rfl (hb hby d23_11) rfl ?_
    refine XS.aloadN X0.here hx rfl (hb hby d23_12) rfl rfl ?_
    refine st52 _ ?_
    show Steps _ _ _ (T52.setTop (mkF m 16 #[Sr a1, Sr a2, Si (0 : Int32), Sr a4, Si (0 : Int32), Su, Su] [(.ref r1), (.int (0 : Int32)), (.ref a2)])) _
    refine XS.iload X52.here hx rfl (hb hby d23_16) rfl ?_
    refine X52.iaload hx (j := (0 : Int32)) (v := (.int (0 : Int32))) (by rw [e52]; exact Arc53.1) (State.isArrayOf_alike hZ.alike Arc53.2.1) Arc53.2.2 hin54 hat55 (g := (mkF m 18 #[Sr a1, Sr a2, Si (0 : Int32), Sr a4, Si (0 : Int32), Su, Su] [(.int (0 : Int32)), (.ref r1), (.int (0 : Int32)), (.ref a2)])) rfl rfl (hb hby d23_18) _ ?_
    refine XS.iadd X52.here hx rfl (hb hby d23_19) rfl ?_
    refine X52.laload hx (j := (0 : Int32)) (v := (.long w0)) (by rw [e52]; exact Arc56.1) (State.isArrayOf_alike hZ.alike Arc56.2.1) Arc56.2.2 hin57 hat58 (g := (mkF m 20 #[Sr a1, Sr a2, Si (0 : Int32), Sr a4, Si (0 : Int32), Su, Su] [(.int (0 : Int32)), (.ref a2)])) rfl rfl (hb hby d23_20) _ ?_
    refine XS.aloadN X52.here hx rfl (hb hby d23_21) rfl rfl ?_
    refine st59 _ ?_
    refine XS.iload X59.here hx rfl (hb hby d23_25) rfl ?_
    refine X59.iaload hx (j := (0 : Int32)) (v := (.int s0)) (by rw [e59]; exact Arc60.1) (State.isArrayOf_alike hZ.alike Arc60.2.1) Arc60.2.2 hin61 hat62 (g := (mkF m 27 #[Sr a1, Sr a2, Si (0 : Int32), Sr a4, Si (0 : Int32), Su, Su] [(.int (0 : Int32)), (.ref r2), (.long w0)])) rfl rfl (hb hby d23_27) _ ?_
    refine XS.lushr X59.here hx rfl (hb hby d23_28) rfl ?_
    refine XS.aloadN X59.here hx rfl (hb hby d23_29) rfl rfl ?_
    show Steps _ _ _ (T59.setTop (mkF m 30 #[Sr a1, Sr a2, Si (0 : Int32), Sr a4, Si (0 : Int32), Su, Su] [(.ref a1), (.long ((w0.toUInt64 >>> (s0 &&& 0x3f).toInt64.toUInt64).toInt64))])) _
    refine st63 _ ?_
    refine XS.iload X63.here hx rfl (hb hby d23_33) rfl ?_
    refine X63.laload hx (j := (0 : Int32)) (v := (.long m0)) (by rw [e63]; exact Arc64.1) (State.isArrayOf_alike hZ.alike Arc64.2.1) Arc64.2.2 hin65 hat66 (g := (mkF m 35 #[Sr a1, Sr a2, Si (0 : Int32), Sr a4, Si (0 : Int32), Su, Su] [(.int (0 : Int32)), (.ref r3), (.long ((w0.toUInt64 >>> (s0 &&& 0x3f).toInt64.toUInt64).toInt64))])) rfl rfl (hb hby d23_35) _ ?_
    refine XS.land X63.here hx rfl (hb hby d23_36) rfl ?_
    refine XS.lstore X63.here hx rfl (hb hby d23_37) rfl (l' := #[Sr a1, Sr a2, Si (0 : Int32), Sr a4, Si (0 : Int32), Sl (((w0.toUInt64 >>> (s0 &&& 0x3f).toInt64.toUInt64).toInt64) &&& m0), S2]) rfl ?_
    refine XS.aloadN X63.here hx rfl (hb hby d23_39) rfl rfl ?_
    refine XS.iload X63.here hx rfl (hb hby d23_40) rfl ?_
    refine XS.aloadN X63.here hx rfl (hb hby d23_42) rfl rfl ?_
    refine st67 _ ?_
    refine XS.iload X67.here hx rfl (hb hby d23_46) rfl ?_
    show Steps _ _ _ (T67.setTop (mkF m 48 #[Sr a1, Sr a2, Si (0 : Int32), Sr a4, Si (0 : Int32), Sl (((w0.toUInt64 >>> (s0 &&& 0x3f).toInt64.toUInt64).toInt64) &&& m0), S2] [(.int (0 : Int32)), (.ref r4), (.int (0 : Int32)), (.ref a4)])) _
    refine X67.iaload hx (j := (0 : Int32)) (v := (.int f0)) (by rw [e67]; exact Arc68.1) (State.isArrayOf_alike hZ.alike Arc68.2.1) Arc68.2.2 hin69 hat70 (g := (mkF m 48 #[Sr a1, Sr a2, Si (0 : Int32), Sr a4, Si (0 : Int32), Sl (((w0.toUInt64 >>> (s0 &&& 0x3f).toInt64.toUInt64).toInt64) &&& m0), S2] [(.int (0 : Int32)), (.ref r4), (.int (0 : Int32)), (.ref a4)])) rfl rfl (hb hby d23_48) _ ?_
    refine XS.lload X67.here hx rfl (hb hby d23_49) rfl ?_
    refine XS.l2i X67.here hx rfl (hb hby d23_51) rfl ?_
    refine XS.iadd X67.here hx rfl (hb hby d23_52) rfl ?_
    refine st73 _ ?_
    refine XS.iinc X73.here hx rfl (hb hby d23_54) rfl (l' := #[Sr a1, Sr a2, Si (0 : Int32), Sr a4, Si (1 : Int32), Sl (((w0.toUInt64 >>> (s0 &&& 0x3f).toInt64.toUInt64).toInt64) &&& m0), S2]) rfl ?_
    refine XS.goto X73.here hx rfl (pc0 := 57) (pc' := 3) rfl (hb hby d23_57) (by decide) (by decide) ?_
    refine XS.iload X73.here hx rfl (hb hby d23_3) rfl ?_
    refine XS.aloadN X73.here hx rfl (hb hby d23_5) rfl rfl ?_
    refine X73.arraylength hx (by rw [e73]; exact Arc76.1) (State.isArrayOf_alike hZ.alike Arc76.2.1) (g := (mkF m 6 #[Sr a1, Sr a2, Si (0 : Int32), Sr a4, Si (1 : Int32), Sl (((w0.toUInt64 >>> (s0 &&& 0x3f).toInt64.toUInt64).toInt64) &&& m0), S2] [(.ref a4), (.int (1 : Int32))])) rfl rfl (hb hby d23_6) _ ?_
    rw [len_of Asc76 Anc76]
    show Steps _ _ _ (T73.setTop (mkF m 7 #[Sr a1, Sr a2, Si (0 : Int32), Sr a4, Si (1 : Int32), Sl (((w0.toUInt64 >>> (s0 &&& 0x3f).toInt64.toUInt64).toInt64) &&& m0), S2] [(.int (3 : Int32)), (.int (1 : Int32))])) _
    refine XS.icmpNo X73.here hx rfl (hb hby d23_7) rfl (tlt (by decide)).2.1 ?_
    refine XS.aloadN X73.here hx rfl (hb hby d23_10) rfl rfl ?_
    refine XS.iloadN X73.here hx rfl (hb hby d23_11) rfl ?_
    refine XS.aloadN X73.here hx rfl (hb hby d23_12) rfl rfl ?_
    refine st78 _ ?_
    refine XS.iload X78.here hx rfl (hb hby d23_16) rfl ?_
    refine X78.iaload hx (j := (1 : Int32)) (v := (.int (0 : Int32))) (by rw [e78]; exact Arc80.1) (State.isArrayOf_alike hZ.alike Arc80.2.1) Arc80.2.2 hin81 hat82 (g := (mkF m 18 #[Sr a1, Sr a2, Si (0 : Int32), Sr a4, Si (1 : Int32), Sl (((w0.toUInt64 >>> (s0 &&& 0x3f).toInt64.toUInt64).toInt64) &&& m0), S2] [(.int (1 : Int32)), (.ref r1), (.int (0 : Int32)), (.ref a2)])) rfl rfl (hb hby d23_18) _ ?_
    refine XS.iadd X78.here hx rfl (hb hby d23_19) rfl ?_
    refine X78.laload hx (j := (0 : Int32)) (v := (.long w0)) (by rw [e78]; exact Arc84.1) (State.isArrayOf_alike hZ.alike Arc84.2.1) Arc84.2.2 hin85 hat86 (g := (mkF m 20 #[Sr a1, Sr a2, Si (0 : Int32), Sr a4, Si (1 : Int32), Sl (((w0.toUInt64 >>> (s0 &&& 0x3f).toInt64.toUInt64).toInt64) &&& m0), S2] [(.int (0 : Int32)), (.ref a2)])) rfl rfl (hb hby d23_20) _ ?_
    refine XS.aloadN X78.here hx rfl (hb hby d23_21) rfl rfl ?_
    show Steps _ _ _ (T78.setTop (mkF m 22 #[Sr a1, Sr a2, Si (0 : Int32), Sr a4, Si (1 : Int32), Sl (((w0.toUInt64 >>> (s0 &&& 0x3f).toInt64.toUInt64).toInt64) &&& m0), S2] [(.ref a1), (.long w0)])) _
    refine st88 _ ?_
    refine XS.iload X88.here hx rfl (hb hby d23_25) rfl ?_
    refine X88.iaload hx (j := (1 : Int32)) (v := (.int s1)) (by rw [e88]; exact Arc90.1) (State.isArrayOf_alike hZ.alike Arc90.2.1) Arc90.2.2 hin91 hat92 (g := (mkF m 27 #[Sr a1, Sr a2, Si (0 : Int32), Sr a4, Si (1 : Int32), Sl (((w0.toUInt64 >>> (s0 &&& 0x3f).toInt64.toUInt64).toInt64) &&& m0), S2] [(.int (1 : Int32)), (.ref r2), (.long w0)])) rfl rfl (hb hby d23_27) _ ?_
    refine XS.lushr X88.here hx rfl (hb hby d23_28) rfl ?_
    exact k
  have F94 : Fld Z h73 a1 "com/example/darlington/darlington/core/StateLayout" "maskOf" "[J" (.ref r3) := (F_r3.other W73 (Or.inl n14))
  obtain ⟨T95, X95, e95, st95⟩ := getF X88 hx hZ hown (host := "") (Or.inl (ow hw 107 rfl)) Via.refl e88 F94 (g := (mkF m 30 #[Sr a1, Sr a2, Si (0 : Int32), Sr a4, Si (1 : Int32), Sl (((w0.toUInt64 >>> (s0 &&& 0x3f).toInt64.toUInt64).toInt64) &&& m0), S2] [(.ref a1), (.long ((w0.toUInt64 >>> (s1 &&& 0x3f).toInt64.toUInt64).toInt64))])) rfl rfl (hb hby d23_30)
  have F96 : Arv Z h73 r3 c3 .long (3 : Int32) [(.long m0), (.long m1), (.long m2)] (.long (0 : Int64)) := (V_r3.other W73 nr3)
  obtain ⟨c97, Arc97, Aqc97, Asc97, Anc97, Ahc97, Agc97⟩ := id F96
  have hin98 : ¬ ((1 : Int32) < 0 ∨ c97.slots.size ≤ ((1 : Int32)).toNatClampNeg) := inb_of Asc97 ⟨by decide, by decide⟩
  have hat99 : c97.slots[((1 : Int32)).toNatClampNeg]? = some (.long m1) := Has.at Ahc97 hin98 rfl
  have F100 : Fld Z h73 a1 "com/example/darlington/darlington/core/StateLayout" "firstOf" "[I" (.ref r4) := (F_r4.other W73 (Or.inl n14))
  obtain ⟨T101, X101, e101, st101⟩ := getF X95 hx hZ hown (host := "") (Or.inl (ow hw 109 rfl)) Via.refl e95 F100 (g := (mkF m 43 #[Sr a1, Sr a2, Si (0 : Int32), Sr a4, Si (1 : Int32), Sl (((w0.toUInt64 >>> (s1 &&& 0x3f).toInt64.toUInt64).toInt64) &&& m1), S2] [(.ref a1), (.int (1 : Int32)), (.ref a4)])) rfl rfl (hb hby d23_43)
  have F102 : Arv Z h73 r4 c4 .int (3 : Int32) [(.int f0), (.int f1), (.int f2)] (.int (0 : Int32)) := (V_r4.other W73 nr4)
  obtain ⟨c103, Arc103, Aqc103, Asc103, Anc103, Ahc103, Agc103⟩ := id F102
  have hin104 : ¬ ((1 : Int32) < 0 ∨ c103.slots.size ≤ ((1 : Int32)).toNatClampNeg) := inb_of Asc103 ⟨by decide, by decide⟩
  have hat105 : c103.slots[((1 : Int32)).toNatClampNeg]? = some (.int f1) := Has.at Ahc103 hin104 rfl
  obtain ⟨c106, Arc106, Aqc106, Asc106, Anc106, Ahc106, Agc106⟩ := id V73
  have hin107 : ¬ ((1 : Int32) < 0 ∨ c106.slots.size ≤ ((1 : Int32)).toNatClampNeg) := inb_of Asc106 ⟨by decide, by decide⟩
  obtain ⟨T108, h108, X108, e108, W108, st108⟩ := stI X101 hx hZ e101 Arc106 (j := (1 : Int32)) hin107 (g := (mkF m 53 #[Sr a1, Sr a2, Si (0 : Int32), Sr a4, Si (1 : Int32), Sl (((w0.toUInt64 >>> (s1 &&& 0x3f).toInt64.toUInt64).toInt64) &&& m1), S2] [(.int (f1 + ((((w0.toUInt64 >>> (s1 &&& 0x3f).toInt64.toUInt64).toInt64) &&& m1).toInt32))), (.int (1 : Int32)), (.ref a4)])) rfl rfl (hb hby d23_53)
  have KC109 : Keep h0 h108 [a4] := KC74.wr W108 (Or.inl (List.mem_of_getElem? (i := 0) rfl))
  have V108 : Arv Z h108 a4 k4 .int (3 : Int32) [(.int (f0 + ((((w0.toUInt64 >>> (s0 &&& 0x3f).toInt64.toUInt64).toInt64) &&& m0).toInt32))), (.int (f1 + ((((w0.toUInt64 >>> (s1 &&& 0x3f).toInt64.toUInt64).toInt64) &&& m1).toInt32))), (.int y2)] (.int (0 : Int32)) := Arv.set Arc106 Aqc106 Asc106 Anc106 Ahc106 Agc106 rfl W108 1 rfl (Nat.le_of_ble_eq_true rfl)
  have N110 := Fr.snoc X108 N75 g4
  obtain ⟨c111, Arc111, Aqc111, Asc111, Anc111, Ahc111, Agc111⟩ := id V108
  have F112 : Fld Z h108 a1 "com/example/darlington/darlington/core/StateLayout" "wordOf" "[I" (.ref r1) := (F77.other W108 (Or.inl n14))
  obtain ⟨T113, X113, e113, st113⟩ := getF X108 hx hZ hown (host := "") (Or.inl (ow hw 102 rfl)) Via.refl e108 F112 (g := (mkF m 13 #[Sr a1, Sr a2, Si (0 : Int32), Sr a4, Si (2 : Int32), Sl (((w0.toUInt64 >>> (s1 &&& 0x3f).toInt64.toUInt64).toInt64) &&& m1), S2] [(.ref a1), (.int (0 : Int32)), (.ref a2)])) rfl rfl (hb hby d23_13)
  have F114 : Arv Z h108 r1 c1 .int (3 : Int32) [(.int (0 : Int32)), (.int (0 : Int32)), (.int (1 : Int32))] (.int (0 : Int32)) := (F79.other W108 nr1)
  obtain ⟨c115, Arc115, Aqc115, Asc115, Anc115, Ahc115, Agc115⟩ := id F114
  have hin116 : ¬ ((2 : Int32) < 0 ∨ c115.slots.size ≤ ((2 : Int32)).toNatClampNeg) := inb_of Asc115 ⟨by decide, by decide⟩
  have hat117 : c115.slots[((2 : Int32)).toNatClampNeg]? = some (.int (1 : Int32)) := Has.at Ahc115 hin116 rfl
  have F118 : Arv Z h108 a2 k2 .long (3 : Int32) [(.long w0), (.long w1), (.long w2)] (.long (0 : Int64)) := (F83.other W108 n24)
  obtain ⟨c119, Arc119, Aqc119, Asc119, Anc119, Ahc119, Agc119⟩ := id F118
  have hin120 : ¬ ((1 : Int32) < 0 ∨ c119.slots.size ≤ ((1 : Int32)).toNatClampNeg) := inb_of Asc119 ⟨by decide, by decide⟩
  have hat121 : c119.slots[((1 : Int32)).toNatClampNeg]? = some (.long w1) := Has.at Ahc119 hin120 rfl
  have F122 : Fld Z h108 a1 "com/example/darlington/darlington/core/StateLayout" "shiftOf" "[I" (.ref r2) := (F87.other W108 (Or.inl n14))
  obtain ⟨T123, X123, e123, st123⟩ := getF X113 hx hZ hown (host := "") (Or.inl (ow hw 104 rfl)) Via.refl e113 F122 (g := (mkF m 22 #[Sr a1, Sr a2, Si (0 : Int32), Sr a4, Si (2 : Int32), Sl (((w0.toUInt64 >>> (s1 &&& 0x3f).toInt64.toUInt64).toInt64) &&& m1), S2] [(.ref a1), (.long w1)])) rfl rfl (hb hby d23_22)
  have F124 : Arv Z h108 r2 c2 .int (3 : Int32) [(.int s0), (.int s1), (.int s2)] (.int (0 : Int32)) := (F89.other W108 nr2)
  obtain ⟨c125, Arc125, Aqc125, Asc125, Anc125, Ahc125, Agc125⟩ := id F124
  have hin126 : ¬ ((2 : Int32) < 0 ∨ c125.slots.size ≤ ((2 : Int32)).toNatClampNeg) := inb_of Asc125 ⟨by decide, by decide⟩
  have hat127 : c125.slots[((2 : Int32)).toNatClampNeg]? = some (.int s2) := Has.at Ahc125 hin126 rfl
  have F128 : Fld Z h108 a1 "com/example/darlington/darlington/core/StateLayout" "maskOf" "[J" (.ref r3) := (F94.other W108 (Or.inl n14))
  obtain ⟨T129, X129, e129, st129⟩ := getF X123 hx hZ hown (host := "") (Or.inl (ow hw 107 rfl)) Via.refl e123 F128 (g := (mkF m 30 #[Sr a1, Sr a2, Si (0 : Int32), Sr a4, Si (2 : Int32), Sl (((w0.toUInt64 >>> (s1 &&& 0x3f).toInt64.toUInt64).toInt64) &&& m1), S2] [(.ref a1), (.long ((w1.toUInt64 >>> (s2 &&& 0x3f).toInt64.toUInt64).toInt64))])) rfl rfl (hb hby d23_30)
  have F130 : Arv Z h108 r3 c3 .long (3 : Int32) [(.long m0), (.long m1), (.long m2)] (.long (0 : Int64)) := (F96.other W108 nr3)
  obtain ⟨c131, Arc131, Aqc131, Asc131, Anc131, Ahc131, Agc131⟩ := id F130
  have hin132 : ¬ ((2 : Int32) < 0 ∨ c131.slots.size ≤ ((2 : Int32)).toNatClampNeg) := inb_of Asc131 ⟨by decide, by decide⟩
  have hat133 : c131.slots[((2 : Int32)).toNatClampNeg]? = some (.long m2) := Has.at Ahc131 hin132 rfl
  have F134 : Fld Z h108 a1 "com/example/darlington/darlington/core/StateLayout" "firstOf" "[I" (.ref r4) := (F100.other W108 (Or.inl n14))
  obtain ⟨T135, X135, e135, st135⟩ := getF X129 hx hZ hown (host := "") (Or.inl (ow hw 109 rfl)) Via.refl e129 F134 (g := (mkF m 43 #[Sr a1, Sr a2, Si (0 : Int32), Sr a4, Si (2 : Int32), Sl (((w1.toUInt64 >>> (s2 &&& 0x3f).toInt64.toUInt64).toInt64) &&& m2), S2] [(.ref a1), (.int (2 : Int32)), (.ref a4)])) rfl rfl (hb hby d23_43)
  have F136 : Arv Z h108 r4 c4 .int (3 : Int32) [(.int f0), (.int f1), (.int f2)] (.int (0 : Int32)) := (F102.other W108 nr4)
  obtain ⟨c137, Arc137, Aqc137, Asc137, Anc137, Ahc137, Agc137⟩ := id F136
  have hin138 : ¬ ((2 : Int32) < 0 ∨ c137.slots.size ≤ ((2 : Int32)).toNatClampNeg) := inb_of Asc137 ⟨by decide, by decide⟩
  have hat139 : c137.slots[((2 : Int32)).toNatClampNeg]? = some (.int f2) := Has.at Ahc137 hin138 rfl
  obtain ⟨c140, Arc140, Aqc140, Asc140, Anc140, Ahc140, Agc140⟩ := id V108
  have hin141 : ¬ ((2 : Int32) < 0 ∨ c140.slots.size ≤ ((2 : Int32)).toNatClampNeg) := inb_of Asc140 ⟨by decide, by decide⟩
  obtain ⟨T142, h142, X142, e142, W142, st142⟩ := stI X135 hx hZ e135 Arc140 (j := (2 : Int32)) hin141 (g := (mkF m 53 #[Sr a1, Sr a2, Si (0 : Int32), Sr a4, Si (2 : Int32), Sl (((w1.toUInt64 >>> (s2 &&& 0x3f).toInt64.toUInt64).toInt64) &&& m2), S2] [(.int (f2 + ((((w1.toUInt64 >>> (s2 &&& 0x3f).toInt64.toUInt64).toInt64) &&& m2).toInt32))), (.int (2 : Int32)), (.ref a4)])) rfl rfl (hb hby d23_53)
  have KC143 : Keep h0 h142 [a4] := KC109.wr W142 (Or.inl (List.mem_of_getElem? (i := 0) rfl))
  have V142 : Arv Z h142 a4 k4 .int (3 : Int32) [(.int (f0 + ((((w0.toUInt64 >>> (s0 &&& 0x3f).toInt64.toUInt64).toInt64) &&& m0).toInt32))), (.int (f1 + ((((w0.toUInt64 >>> (s1 &&& 0x3f).toInt64.toUInt64).toInt64) &&& m1).toInt32))), (.int (f2 + ((((w1.toUInt64 >>> (s2 &&& 0x3f).toInt64.toUInt64).toInt64) &&& m2).toInt32)))] (.int (0 : Int32)) := Arv.set Arc140 Aqc140 Asc140 Anc140 Ahc140 Agc140 rfl W142 2 rfl (Nat.le_of_ble_eq_true rfl)
  have N144 := Fr.snoc X142 N110 g4
  have pre145 : ∀ t, Steps p.tables e below (T142.setTop (mkF m 6 #[Sr a1, Sr a2, Si (0 : Int32), Sr a4, Si (3 : Int32), Sl (((w1.toUInt64 >>> (s2 &&& 0x3f).toInt64.toUInt64).toInt64) &&& m2), S2] [(.ref a4), (.int (3 : Int32))])) t → Steps p.tables e below (s₁.setTop (entryFrame m #[(.ref a1), (.ref a2), (.int (0 : Int32)), (.ref a4)] 7)) t := by
    intro t k
    refine pre93 t ?_
    refine XS.aloadN X88.here hx rfl (hb hby d23_29) rfl rfl ?_
    refine st95 _ ?_
    refine XS.iload X95.here hx rfl (hb hby d23_33) rfl ?_
    refine X95.laload hx (j := (1 : Int32)) (v := (.long m1)) (by rw [e95]; exact Arc97.1) (State.isArrayOf_alike hZ.alike Arc97.2.1) Arc97.2.2 hin98 hat99 (g := (mkF m 35 #[Sr a1, Sr a2, Si (0 : Int32), Sr a4, Si (1 : Int32), Sl (((w0.toUInt64 >>> (s0 &&& 0x3f).toInt64.toUInt64).toInt64) &&& m0), S2] [(.int (1 : Int32)), (.ref r3), (.long ((w0.toUInt64 >>> (s1 &&& 0x3f).toInt64.toUInt64).toInt64))])) rfl rfl (hb hby d23_35) _ ?_
    refine XS.land X95.here hx rfl (hb hby d23_36) rfl ?_
    refine XS.lstore X95.here hx rfl (hb hby d23_37) rfl (l' := #[Sr a1, Sr a2, Si (0 : Int32), Sr a4, Si (1 : Int32), Sl (((w0.toUInt64 >>> (s1 &&& 0x3f).toInt64.toUInt64).toInt64) &&& m1), S2]) rfl ?_
    show Steps _ _ _ (T95.setTop (mkF m 39 #[Sr a1, Sr a2, Si (0 : Int32), Sr a4, Si (1 : Int32), Sl (((w0.toUInt64 >>> (s1 &&& 0x3f).toInt64.toUInt64).toInt64) &&& m1), S2] [])) _
    refine XS.aloadN X95.here hx rfl (hb hby d23_39) rfl rfl ?_
    refine XS.iload X95.here hx rfl (hb hby d23_40) rfl ?_
    refine XS.aloadN X95.here hx rfl (hb hby d23_42) rfl rfl ?_
    refine st101 _ ?_
    refine XS.iload X101.here hx rfl (hb hby d23_46) rfl ?_
    refine X101.iaload hx (j := (1 : Int32)) (v := (.int f1)) (by rw [e101]; exact Arc103.1) (State.isArrayOf_alike hZ.alike Arc103.2.1) Arc103.2.2 hin104 hat105 (g := (mkF m 48 #[Sr a1, Sr a2, Si (0 : Int32), Sr a4, Si (1 : Int32), Sl (((w0.toUInt64 >>> (s1 &&& 0x3f).toInt64.toUInt64).toInt64) &&& m1), S2] [(.int (1 : Int32)), (.ref r4), (.int (1 : Int32)), (.ref a4)])) rfl rfl (hb hby d23_48) _ ?_
    refine XS.lload X101.here hx rfl (hb hby d23_49) rfl ?_
    refine XS.l2i X101.here hx rfl (hb hby d23_51) rfl ?_
    refine XS.iadd X101.here hx rfl (hb hby d23_52) rfl ?_
    refine st108 _ ?_
    show Steps _ _ _ (T108.setTop (mkF m 54 #[Sr a1, Sr a2, Si (0 : Int32), Sr a4, Si (1 : Int32), Sl (((w0.toUInt64 >>> (s1 &&& 0x3f).toInt64.toUInt64).toInt64) &&& m1), S2] [])) _
    refine XS.iinc X108.here hx rfl (hb hby d23_54) rfl (l' := #[Sr a1, Sr a2, Si (0 : Int32), Sr a4, Si (2 : Int32), Sl (((w0.toUInt64 >>> (s1 &&& 0x3f).toInt64.toUInt64).toInt64) &&& m1), S2]) rfl ?_
    refine XS.goto X108.here hx rfl (pc0 := 57) (pc' := 3) rfl (hb hby d23_57) (by decide) (by decide) ?_
    refine XS.iload X108.here hx rfl (hb hby d23_3) rfl ?_
    refine XS.aloadN X108.here hx rfl (hb hby d23_5) rfl rfl ?_
    refine X108.arraylength hx (by rw [e108]; exact Arc111.1) (State.isArrayOf_alike hZ.alike Arc111.2.1) (g := (mkF m 6 #[Sr a1, Sr a2, Si (0 : Int32), Sr a4, Si (2 : Int32), Sl (((w0.toUInt64 >>> (s1 &&& 0x3f).toInt64.toUInt64).toInt64) &&& m1), S2] [(.ref a4), (.int (2 : Int32))])) rfl rfl (hb hby d23_6) _ ?_
    rw [len_of Asc111 Anc111]
    refine XS.icmpNo X108.here hx rfl (hb hby d23_7) rfl (tlt (by decide)).2.1 ?_
    refine XS.aloadN X108.here hx rfl (hb hby d23_10) rfl rfl ?_
    refine XS.iloadN X108.here hx rfl (hb hby d23_11) rfl ?_
    refine XS.aloadN X108.here hx rfl (hb hby d23_12) rfl rfl ?_
    refine st113 _ ?_
    show Steps _ _ _ (T113.setTop (mkF m 16 #[Sr a1, Sr a2, Si (0 : Int32), Sr a4, Si (2 : Int32), Sl (((w0.toUInt64 >>> (s1 &&& 0x3f).toInt64.toUInt64).toInt64) &&& m1), S2] [(.ref r1), (.int (0 : Int32)), (.ref a2)])) _
    refine XS.iload X113.here hx rfl (hb hby d23_16) rfl ?_
    refine X113.iaload hx (j := (2 : Int32)) (v := (.int (1 : Int32))) (by rw [e113]; exact Arc115.1) (State.isArrayOf_alike hZ.alike Arc115.2.1) Arc115.2.2 hin116 hat117 (g := (mkF m 18 #[Sr a1, Sr a2, Si (0 : Int32), Sr a4, Si (2 : Int32), Sl (((w0.toUInt64 >>> (s1 &&& 0x3f).toInt64.toUInt64).toInt64) &&& m1), S2] [(.int (2 : Int32)), (.ref r1), (.int (0 : Int32)), (.ref a2)])) rfl rfl (hb hby d23_18) _ ?_
    refine XS.iadd X113.here hx rfl (hb hby d23_19) rfl ?_
    refine X113.laload hx (j := (1 : Int32)) (v := (.long w1)) (by rw [e113]; exact Arc119.1) (State.isArrayOf_alike hZ.alike Arc119.2.1) Arc119.2.2 hin120 hat121 (g := (mkF m 20 #[Sr a1, Sr a2, Si (0 : Int32), Sr a4, Si (2 : Int32), Sl (((w0.toUInt64 >>> (s1 &&& 0x3f).toInt64.toUInt64).toInt64) &&& m1), S2] [(.int (1 : Int32)), (.ref a2)])) rfl rfl (hb hby d23_20) _ ?_
    refine XS.aloadN X113.here hx rfl (hb hby d23_21) rfl rfl ?_
    refine st123 _ ?_
    refine XS.iload X123.here hx rfl (hb hby d23_25) rfl ?_
    refine X123.iaload hx (j := (2 : Int32)) (v := (.int s2)) (by rw [e123]; exact Arc125.1) (State.isArrayOf_alike hZ.alike Arc125.2.1) Arc125.2.2 hin126 hat127 (g := (mkF m 27 #[Sr a1, Sr a2, Si (0 : Int32), Sr a4, Si (2 : Int32), Sl (((w0.toUInt64 >>> (s1 &&& 0x3f).toInt64.toUInt64).toInt64) &&& m1), S2] [(.int (2 : Int32)), (.ref r2), (.long w1)])) rfl rfl (hb hby d23_27) _ ?_
    refine XS.lushr X123.here hx rfl (hb hby d23_28) rfl ?_
    refine XS.aloadN X123.here hx rfl (hb hby d23_29) rfl rfl ?_
    show Steps _ _ _ (T123.setTop (mkF m 30 #[Sr a1, Sr a2, Si (0 : Int32), Sr a4, Si (2 : Int32), Sl (((w0.toUInt64 >>> (s1 &&& 0x3f).toInt64.toUInt64).toInt64) &&& m1), S2] [(.ref a1), (.long ((w1.toUInt64 >>> (s2 &&& 0x3f).toInt64.toUInt64).toInt64))])) _
    refine st129 _ ?_
    refine XS.iload X129.here hx rfl (hb hby d23_33) rfl ?_
    refine X129.laload hx (j := (2 : Int32)) (v := (.long m2)) (by rw [e129]; exact Arc131.1) (State.isArrayOf_alike hZ.alike Arc131.2.1) Arc131.2.2 hin132 hat133 (g := (mkF m 35 #[Sr a1, Sr a2, Si (0 : Int32), Sr a4, Si (2 : Int32), Sl (((w0.toUInt64 >>> (s1 &&& 0x3f).toInt64.toUInt64).toInt64) &&& m1), S2] [(.int (2 : Int32)), (.ref r3), (.long ((w1.toUInt64 >>> (s2 &&& 0x3f).toInt64.toUInt64).toInt64))])) rfl rfl (hb hby d23_35) _ ?_
    refine XS.land X129.here hx rfl (hb hby d23_36) rfl ?_
    refine XS.lstore X129.here hx rfl (hb hby d23_37) rfl (l' := #[Sr a1, Sr a2, Si (0 : Int32), Sr a4, Si (2 : Int32), Sl (((w1.toUInt64 >>> (s2 &&& 0x3f).toInt64.toUInt64).toInt64) &&& m2), S2]) rfl ?_
    refine XS.aloadN X129.here hx rfl (hb hby d23_39) rfl rfl ?_
    refine XS.iload X129.here hx rfl (hb hby d23_40) rfl ?_
    refine XS.aloadN X129.here hx rfl (hb hby d23_42) rfl rfl ?_
    refine st135 _ ?_
    refine XS.iload X135.here hx rfl (hb hby d23_46) rfl ?_
    show Steps _ _ _ (T135.setTop (mkF m 48 #[Sr a1, Sr a2, Si (0 : Int32), Sr a4, Si (2 : Int32), Sl (((w1.toUInt64 >>> (s2 &&& 0x3f).toInt64.toUInt64).toInt64) &&& m2), S2] [(.int (2 : Int32)), (.ref r4), (.int (2 : Int32)), (.ref a4)])) _
    refine X135.iaload hx (j := (2 : Int32)) (v := (.int f2)) (by rw [e135]; exact Arc137.1) (State.isArrayOf_alike hZ.alike Arc137.2.1) Arc137.2.2 hin138 hat139 (g := (mkF m 48 #[Sr a1, Sr a2, Si (0 : Int32), Sr a4, Si (2 : Int32), Sl (((w1.toUInt64 >>> (s2 &&& 0x3f).toInt64.toUInt64).toInt64) &&& m2), S2] [(.int (2 : Int32)), (.ref r4), (.int (2 : Int32)), (.ref a4)])) rfl rfl (hb hby d23_48) _ ?_
    refine XS.lload X135.here hx rfl (hb hby d23_49) rfl ?_
    refine XS.l2i X135.here hx rfl (hb hby d23_51) rfl ?_
    refine XS.iadd X135.here hx rfl (hb hby d23_52) rfl ?_
    refine st142 _ ?_
    refine XS.iinc X142.here hx rfl (hb hby d23_54) rfl (l' := #[Sr a1, Sr a2, Si (0 : Int32), Sr a4, Si (3 : Int32), Sl (((w1.toUInt64 >>> (s2 &&& 0x3f).toInt64.toUInt64).toInt64) &&& m2), S2]) rfl ?_
    refine XS.goto X142.here hx rfl (pc0 := 57) (pc' := 3) rfl (hb hby d23_57) (by decide) (by decide) ?_
    refine XS.iload X142.here hx rfl (hb hby d23_3) rfl ?_
    refine XS.aloadN X142.here hx rfl (hb hby d23_5) rfl rfl ?_
    exact k
  obtain ⟨c146, Arc146, Aqc146, Asc146, Anc146, Ahc146, Agc146⟩ := id V142
  have pre147 : ∀ t, Steps p.tables e below (T142.setTop (mkF m 60 #[Sr a1, Sr a2, Si (0 : Int32), Sr a4, Si (3 : Int32), Sl (((w1.toUInt64 >>> (s2 &&& 0x3f).toInt64.toUInt64).toInt64) &&& m2), S2] [])) t → Steps p.tables e below (s₁.setTop (entryFrame m #[(.ref a1), (.ref a2), (.int (0 : Int32)), (.ref a4)] 7)) t := by
    intro t k
    refine pre145 t ?_
    refine X142.arraylength hx (by rw [e142]; exact Arc146.1) (State.isArrayOf_alike hZ.alike Arc146.2.1) (g := (mkF m 6 #[Sr a1, Sr a2, Si (0 : Int32), Sr a4, Si (3 : Int32), Sl (((w1.toUInt64 >>> (s2 &&& 0x3f).toInt64.toUInt64).toInt64) &&& m2), S2] [(.ref a4), (.int (3 : Int32))])) rfl rfl (hb hby d23_6) _ ?_
    rw [len_of Asc146 Anc146]
    show Steps _ _ _ (T142.setTop (mkF m 7 #[Sr a1, Sr a2, Si (0 : Int32), Sr a4, Si (3 : Int32), Sl (((w1.toUInt64 >>> (s2 &&& 0x3f).toInt64.toUInt64).toInt64) &&& m2), S2] [(.int (3 : Int32)), (.int (3 : Int32))])) _
    refine XS.icmpYes X142.here hx rfl (pc0 := 7) (pc' := 60) rfl (hb hby d23_7) rfl (flt (by decide)).2.1 (by decide) (by decide) ?_
    exact k
  obtain ⟨fs, hr, hrun, hended, hW, hsame⟩ := X142.leave (v := none) (fun _ => rfl)
  refine ⟨_, _, pre147 _ ?_, hrun, hended, _, _, rfl, ?_, ⟨_, rfl⟩, hW, hsame.mono (by decide) (by decide)⟩
  · exact X142.returnOut hx Bd.returns (hb hby d23_60) hr
  · show Q_rm_unpB Z a1 a2 a4 r1 r2 r3 r4 c1 c2 c3 c4 s0 s1 s2 m0 m1 m2 f0 f1 f2 k2 k4 w0 w1 w2 y0 y1 y2 h0 n0 _ T142.heap _
    rw [e142]
    exact ⟨rfl, N144, KC143, V142⟩
theorem d24_0 : decode prog_74_method_5_code 0 = .ok (.aload_n 0, 1) := by decide +kernel
theorem d24_1 : decode prog_74_method_5_code 1 = .ok (.getfield 13, 3) := by decide +kernel
theorem d24_4 : decode prog_74_method_5_code 4 = .ok (.iload_n 2, 1) := by decide +kernel
theorem d24_5 : decode prog_74_method_5_code 5 = .ok (.iaload, 1) := by decide +kernel
theorem d24_6 : decode prog_74_method_5_code 6 = .ok (.istore 4, 2) := by decide +kernel
theorem d24_8 : decode prog_74_method_5_code 8 = .ok (.iload_n 3, 1) := by decide +kernel
theorem d24_9 : decode prog_74_method_5_code 9 = .ok (.i2l, 1) := by decide +kernel
theorem d24_10 : decode prog_74_method_5_code 10 = .ok (.aload_n 0, 1) := by decide +kernel
theorem d24_11 : decode prog_74_method_5_code 11 = .ok (.getfield 26, 3) := by decide +kernel
theorem d24_14 : decode prog_74_method_5_code 14 = .ok (.iload_n 2, 1) := by decide +kernel
theorem d24_15 : decode prog_74_method_5_code 15 = .ok (.iaload, 1) := by decide +kernel
theorem d24_16 : decode prog_74_method_5_code 16 = .ok (.i2l, 1) := by decide +kernel
theorem d24_17 : decode prog_74_method_5_code 17 = .ok (.lsub, 1) := by decide +kernel
theorem d24_18 : decode prog_74_method_5_code 18 = .ok (.aload_n 0, 1) := by decide +kernel
theorem d24_19 : decode prog_74_method_5_code 19 = .ok (.getfield 22, 3) := by decide +kernel
theorem d24_22 : decode prog_74_method_5_code 22 = .ok (.iload_n 2, 1) := by decide +kernel
theorem d24_23 : decode prog_74_method_5_code 23 = .ok (.laload, 1) := by decide +kernel
theorem d24_24 : decode prog_74_method_5_code 24 = .ok (.land, 1) := by decide +kernel
theorem d24_25 : decode prog_74_method_5_code 25 = .ok (.aload_n 0, 1) := by decide +kernel
theorem d24_26 : decode prog_74_method_5_code 26 = .ok (.getfield 19, 3) := by decide +kernel
theorem d24_29 : decode prog_74_method_5_code 29 = .ok (.iload_n 2, 1) := by decide +kernel
theorem d24_30 : decode prog_74_method_5_code 30 = .ok (.iaload, 1) := by decide +kernel
theorem d24_31 : decode prog_74_method_5_code 31 = .ok (.lshl, 1) := by decide +kernel
theorem d24_32 : decode prog_74_method_5_code 32 = .ok (.lstore 5, 2) := by decide +kernel
theorem d24_34 : decode prog_74_method_5_code 34 = .ok (.aload_n 1, 1) := by decide +kernel
theorem d24_35 : decode prog_74_method_5_code 35 = .ok (.iload 4, 2) := by decide +kernel
theorem d24_37 : decode prog_74_method_5_code 37 = .ok (.aload_n 1, 1) := by decide +kernel
theorem d24_38 : decode prog_74_method_5_code 38 = .ok (.iload 4, 2) := by decide +kernel
theorem d24_40 : decode prog_74_method_5_code 40 = .ok (.laload, 1) := by decide +kernel
theorem d24_41 : decode prog_74_method_5_code 41 = .ok (.aload_n 0, 1) := by decide +kernel
theorem d24_42 : decode prog_74_method_5_code 42 = .ok (.getfield 22, 3) := by decide +kernel
theorem d24_45 : decode prog_74_method_5_code 45 = .ok (.iload_n 2, 1) := by decide +kernel
theorem d24_46 : decode prog_74_method_5_code 46 = .ok (.laload, 1) := by decide +kernel
theorem d24_47 : decode prog_74_method_5_code 47 = .ok (.aload_n 0, 1) := by decide +kernel
theorem d24_48 : decode prog_74_method_5_code 48 = .ok (.getfield 19, 3) := by decide +kernel
theorem d24_51 : decode prog_74_method_5_code 51 = .ok (.iload_n 2, 1) := by decide +kernel
theorem d24_52 : decode prog_74_method_5_code 52 = .ok (.iaload, 1) := by decide +kernel
theorem d24_53 : decode prog_74_method_5_code 53 = .ok (.lshl, 1) := by decide +kernel
theorem d24_54 : decode prog_74_method_5_code 54 = .ok (.ldc2_w 93, 3) := by decide +kernel
theorem d24_57 : decode prog_74_method_5_code 57 = .ok (.lxor, 1) := by decide +kernel
theorem d24_58 : decode prog_74_method_5_code 58 = .ok (.land, 1) := by decide +kernel
theorem d24_59 : decode prog_74_method_5_code 59 = .ok (.lload 5, 2) := by decide +kernel
theorem d24_61 : decode prog_74_method_5_code 61 = .ok (.lor, 1) := by decide +kernel
theorem d24_62 : decode prog_74_method_5_code 62 = .ok (.lastore, 1) := by decide +kernel
theorem d24_63 : decode prog_74_method_5_code 63 = .ok (.return_, 1) := by decide +kernel
theorem ef_rm_set0 (m : MethodId) (x0 : Addr) (x1 : Addr) (x3 : Int32) : entryFrame m #[(.ref x0), (.ref x1), (.int (0 : Int32)), (.int x3)] 7 = mkF m 0 #[Sr x0, Sr x1, Si (0 : Int32), Si x3, Su, Su, Su] [] := by first | (simp [entryFrame, mkF, argsToLocals, Value.category]; done) | rfl
def Q_rm_set0 (Z : State) (a1 : Addr) (a2 : Addr) (p4 : Int32) (r1 : Addr) (r2 : Addr) (r3 : Addr) (r4 : Addr) (c1 : ClassId) (c2 : ClassId) (c3 : ClassId) (c4 : ClassId) (s0 : Int32) (s1 : Int32) (s2 : Int32) (m0 : Int64) (m1 : Int64) (m2 : Int64) (f0 : Int32) (f1 : Int32) (f2 : Int32) (wx : Int32) (k2 : ClassId) (w0 : Int64) (w1 : Int64) (w2 : Int64) (h0 : Heap) (n0 : Nat) (v : Option Value) (h : Heap) (L : List Loc) : Prop := v = none ∧ Fr n0 L ∧ Keep h0 h [a2] ∧ Arv Z h a2 k2 .long (3 : Int32) [(.long (own_upd w0 s0 m0 f0 p4)), (.long w1), (.long w2)] (.long (0 : Int64))
set_option maxRecDepth 65536 in
set_option maxHeartbeats 40000000 in
theorem rm_set0 (l : Launch) (Z : State) (a0 : Array Value) (hw : ∀ d ∈ tables_1, d.before a0 Z = true) (ws : List Jvm.Cond) (a1 : Addr) (a2 : Addr) (p4 : Int32) (r1 : Addr) (r2 : Addr) (r3 : Addr) (r4 : Addr) (c1 : ClassId) (c2 : ClassId) (c3 : ClassId) (c4 : ClassId) (s0 : Int32) (s1 : Int32) (s2 : Int32) (m0 : Int64) (m1 : Int64) (m2 : Int64) (f0 : Int32) (f1 : Int32) (f2 : Int32) (wx : Int32) (k2 : ClassId) (w0 : Int64) (w1 : Int64) (w2 : Int64) (h0 : Heap) (n0 : Nat) (Z0 : n0 ≤ h0.size) (F_r1 : Fld Z h0 a1 "com/example/darlington/darlington/core/StateLayout" "wordOf" "[I" (.ref r1)) (V_r1 : Arv Z h0 r1 c1 .int (3 : Int32) [(.int (0 : Int32)), (.int (0 : Int32)), (.int wx)] (.int (0 : Int32))) (F_r2 : Fld Z h0 a1 "com/example/darlington/darlington/core/StateLayout" "shiftOf" "[I" (.ref r2)) (V_r2 : Arv Z h0 r2 c2 .int (3 : Int32) [(.int s0), (.int s1), (.int s2)] (.int (0 : Int32))) (F_r3 : Fld Z h0 a1 "com/example/darlington/darlington/core/StateLayout" "maskOf" "[J" (.ref r3)) (V_r3 : Arv Z h0 r3 c3 .long (3 : Int32) [(.long m0), (.long m1), (.long m2)] (.long (0 : Int64))) (F_r4 : Fld Z h0 a1 "com/example/darlington/darlington/core/StateLayout" "firstOf" "[I" (.ref r4)) (V_r4 : Arv Z h0 r4 c4 .int (3 : Int32) [(.int f0), (.int f1), (.int f2)] (.int (0 : Int32))) (V2 : Arv Z h0 a2 k2 .long (3 : Int32) [(.long w0), (.long w1), (.long w2)] (.long (0 : Int64))) (g2 : n0 ≤ a2) :
    MetFree l (⟨"com/example/darlington/darlington/core/StateLayout", "set", "([JII)V"⟩ : MethodName) (head1 (Jvm.Cond.code (⟨"com/example/darlington/darlington/core/StateLayout", "set", "([JII)V"⟩ : MethodName) prog_74_method_5_code 7 none :: ws) ({ frames := 0, cells := 0, slots := 0, locals := 0 } : Room)) (fun a U => a = #[(.ref a1), (.ref a2), (.int (0 : Int32)), (.int p4)] ∧ Z.Warmed39 U.vm ∧ U.heap = h0) (fun _ _ _ _ _ => True) (fun _ U o U' => ∃ v L, o = .returned v ∧ Q_rm_set0 Z a1 a2 p4 r1 r2 r3 r4 c1 c2 c3 c4 s0 s1 s2 m0 m1 m2 f0 f1 f2 wx k2 w0 w1 w2 h0 n0 v U'.heap L ∧ FrameEnd U o U' L ({ frames := 0, cells := 0, slots := 0, locals := 0 } : Room).cells ({ frames := 0, cells := 0, slots := 0, locals := 0 } : Room).slots) := by
  refine MetFree.of_bodySF (plainFor_of_name pn_8) hisR ?_
  intro p e s m args below meth c s₁ Bd hml0 hP hK
  obtain ⟨rfl, hZ, hh⟩ := hP
  have hx := Bd.exec
  have hby := Bd.bytes
  have hml : c.maxLocals = 7 := hml0
  have hown : s.vm.findClass "com/example/darlington/darlington/core/StateLayout" = some m.cls := findClass_of_methodNamed Bd.named
  have hnm := (name_of_methodNamed Bd.named Bd.method).1
  have X0 : Stand p l e ({ frames := 0, cells := 0, slots := 0, locals := 0 } : Room) s m #[(.ref a1), (.ref a2), (.int (0 : Int32)), (.int p4)] below meth c s₁ [] 0 0 := Stand.of_body Bd
  have e0 : s₁.heap = h0 := by rw [← hh, Bd.state]; rfl
  have N0 := Fr.nil n0
  have pre0 : ∀ t, Steps p.tables e below (s₁.setTop (mkF m 0 #[Sr a1, Sr a2, Si (0 : Int32), Si p4, Su, Su, Su] [])) t → Steps p.tables e below (s₁.setTop (entryFrame m #[(.ref a1), (.ref a2), (.int (0 : Int32)), (.int p4)] 7)) t := fun t k => castTop (ef_rm_set0 m a1 a2 p4) k
  obtain ⟨T51, X51, e51, st51⟩ := getF X0 hx hZ hown (host := "") (Or.inl (ow hw 102 rfl)) Via.refl e0 F_r1 (g := (mkF m 1 #[Sr a1, Sr a2, Si (0 : Int32), Si p4, Su, Su, Su] [(.ref a1)])) rfl rfl (hb hby d24_1)
  obtain ⟨c52, Arc52, Aqc52, Asc52, Anc52, Ahc52, Agc52⟩ := id V_r1
  have hin53 : ¬ ((0 : Int32) < 0 ∨ c52.slots.size ≤ ((0 : Int32)).toNatClampNeg) := inb_of Asc52 ⟨by decide, by decide⟩
  have hat54 : c52.slots[((0 : Int32)).toNatClampNeg]? = some (.int (0 : Int32)) := Has.at Ahc52 hin53 rfl
  obtain ⟨T55, X55, e55, st55⟩ := getF X51 hx hZ hown (host := "") (Or.inl (ow hw 109 rfl)) Via.refl e51 F_r4 (g := (mkF m 11 #[Sr a1, Sr a2, Si (0 : Int32), Si p4, Si (0 : Int32), Su, Su] [(.ref a1), (.long (p4.toInt64))])) rfl rfl (hb hby d24_11)
  obtain ⟨c56, Arc56, Aqc56, Asc56, Anc56, Ahc56, Agc56⟩ := id V_r4
  have hin57 : ¬ ((0 : Int32) < 0 ∨ c56.slots.size ≤ ((0 : Int32)).toNatClampNeg) := inb_of Asc56 ⟨by decide, by decide⟩
  have hat58 : c56.slots[((0 : Int32)).toNatClampNeg]? = some (.int f0) := Has.at Ahc56 hin57 rfl
  obtain ⟨T59, X59, e59, st59⟩ := getF X55 hx hZ hown (host := "") (Or.inl (ow hw 107 rfl)) Via.refl e55 F_r3 (g := (mkF m 19 #[Sr a1, Sr a2, Si (0 : Int32), Si p4, Si (0 : Int32), Su, Su] [(.ref a1), (.long ((p4.toInt64) - (f0.toInt64)))])) rfl rfl (hb hby d24_19)
  obtain ⟨c60, Arc60, Aqc60, Asc60, Anc60, Ahc60, Agc60⟩ := id V_r3
  have hin61 : ¬ ((0 : Int32) < 0 ∨ c60.slots.size ≤ ((0 : Int32)).toNatClampNeg) := inb_of Asc60 ⟨by decide, by decide⟩
  have hat62 : c60.slots[((0 : Int32)).toNatClampNeg]? = some (.long m0) := Has.at Ahc60 hin61 rfl
  obtain ⟨T63, X63, e63, st63⟩ := getF X59 hx hZ hown (host := "") (Or.inl (ow hw 104 rfl)) Via.refl e59 F_r2 (g := (mkF m 26 #[Sr a1, Sr a2, Si (0 : Int32), Si p4, Si (0 : Int32), Su, Su] [(.ref a1), (.long (((p4.toInt64) - (f0.toInt64)) &&& m0))])) rfl rfl (hb hby d24_26)
  obtain ⟨c64, Arc64, Aqc64, Asc64, Anc64, Ahc64, Agc64⟩ := id V_r2
  have hin65 : ¬ ((0 : Int32) < 0 ∨ c64.slots.size ≤ ((0 : Int32)).toNatClampNeg) := inb_of Asc64 ⟨by decide, by decide⟩
  have hat66 : c64.slots[((0 : Int32)).toNatClampNeg]? = some (.int s0) := Has.at Ahc64 hin65 rfl
  obtain ⟨c67, Arc67, Aqc67, Asc67, Anc67, Ahc67, Agc67⟩ := id V2
  have hin68 : ¬ ((0 : Int32) < 0 ∨ c67.slots.size ≤ ((0 : Int32)).toNatClampNeg) := inb_of Asc67 ⟨by decide, by decide⟩
  have hat69 : c67.slots[((0 : Int32)).toNatClampNeg]? = some (.long w0) := Has.at Ahc67 hin68 rfl
  obtain ⟨T70, X70, e70, st70⟩ := getF X63 hx hZ hown (host := "") (Or.inl (ow hw 107 rfl)) Via.refl e63 F_r3 (g := (mkF m 42 #[Sr a1, Sr a2, Si (0 : Int32), Si p4, Si (0 : Int32), Sl ((((p4.toInt64) - (f0.toInt64)) &&& m0) <<< (s0 &&& 0x3f).toInt64), S2] [(.ref a1), (.long w0), (.int (0 : Int32)), (.ref a2)])) rfl rfl (hb hby d24_42)
  obtain ⟨c71, Arc71, Aqc71, Asc71, Anc71, Ahc71, Agc71⟩ := id V_r3
  have hin72 : ¬ ((0 : Int32) < 0 ∨ c71.slots.size ≤ ((0 : Int32)).toNatClampNeg) := inb_of Asc71 ⟨by decide, by decide⟩
  have hat73 : c71.slots[((0 : Int32)).toNatClampNeg]? = some (.long m0) := Has.at Ahc71 hin72 rfl
  obtain ⟨T74, X74, e74, st74⟩ := getF X70 hx hZ hown (host := "") (Or.inl (ow hw 104 rfl)) Via.refl e70 F_r2 (g := (mkF m 48 #[Sr a1, Sr a2, Si (0 : Int32), Si p4, Si (0 : Int32), Sl ((((p4.toInt64) - (f0.toInt64)) &&& m0) <<< (s0 &&& 0x3f).toInt64), S2] [(.ref a1), (.long m0), (.long w0), (.int (0 : Int32)), (.ref a2)])) rfl rfl (hb hby d24_48)
  obtain ⟨c75, Arc75, Aqc75, Asc75, Anc75, Ahc75, Agc75⟩ := id V_r2
  have hin76 : ¬ ((0 : Int32) < 0 ∨ c75.slots.size ≤ ((0 : Int32)).toNatClampNeg) := inb_of Asc75 ⟨by decide, by decide⟩
  have hat77 : c75.slots[((0 : Int32)).toNatClampNeg]? = some (.int s0) := Has.at Ahc75 hin76 rfl
  have pre78 : ∀ t, Steps p.tables e below (T74.setTop (mkF m 62 #[Sr a1, Sr a2, Si (0 : Int32), Si p4, Si (0 : Int32), Sl ((((p4.toInt64) - (f0.toInt64)) &&& m0) <<< (s0 &&& 0x3f).toInt64), S2] [(.long ((w0 &&& ((m0 <<< (s0 &&& 0x3f).toInt64) ^^^ (-1 : Int64))) ||| ((((p4.toInt64) - (f0.toInt64)) &&& m0) <<< (s0 &&& 0x3f).toInt64))), (.int (0 : Int32)), (.ref a2)])) t → Steps p.tables e below (s₁.setTop (entryFrame m #[(.ref a1), (.ref a2), (.int (0 : Int32)), (.int p4)] 7)) t := by
    intro t k
    refine pre0 t ?_
    refine XS.aloadN X0.here hx rfl (hb hby d24_0) rfl rfl ?_
    refine st51 _ ?_
    refine XS.iloadN X51.here hx rfl (hb hby d24_4) rfl ?_
    refine X51.iaload hx (j := (0 : Int32)) (v := (.int (0 : Int32))) (by rw [e51]; exact Arc52.1) (State.isArrayOf_alike hZ.alike Arc52.2.1) Arc52.2.2 hin53 hat54 (g := (mkF m 5 #[Sr a1, Sr a2, Si (0 : Int32), Si p4, Su, Su, Su] [(.int (0 : Int32)), (.ref r1)])) rfl rfl (hb hby d24_5) _ ?_
    refine XS.istore X51.here hx rfl (hb hby d24_6) rfl (l' := #[Sr a1, Sr a2, Si (0 : Int32), Si p4, Si (0 : Int32), Su, Su]) rfl ?_
    refine XS.iloadN X51.here hx rfl (hb hby d24_8) rfl ?_
    refine XS.i2l X51.here hx rfl (hb hby d24_9) rfl ?_
    refine XS.aloadN X51.here hx rfl (hb hby d24_10) rfl rfl ?_
    refine st55 _ ?_
    refine XS.iloadN X55.here hx rfl (hb hby d24_14) rfl ?_
    show Steps _ _ _ (T55.setTop (mkF m 15 #[Sr a1, Sr a2, Si (0 : Int32), Si p4, Si (0 : Int32), Su, Su] [(.int (0 : Int32)), (.ref r4), (.long (p4.toInt64))])) _
    refine X55.iaload hx (j := (0 : Int32)) (v := (.int f0)) (by rw [e55]; exact Arc56.1) (State.isArrayOf_alike hZ.alike Arc56.2.1) Arc56.2.2 hin57 hat58 (g := (mkF m 15 #[Sr a1, Sr a2, Si (0 : Int32), Si p4, Si (0 : Int32), Su, Su] [(.int (0 : Int32)), (.ref r4), (.long (p4.toInt64))])) rfl rfl (hb hby d24_15) _ ?_
    refine XS.i2l X55.here hx rfl (hb hby d24_16) rfl ?_
    refine XS.lsub X55.here hx rfl (hb hby d24_17) rfl ?_
    refine XS.aloadN X55.here hx rfl (hb hby d24_18) rfl rfl ?_
    refine st59 _ ?_
    refine XS.iloadN X59.here hx rfl (hb hby d24_22) rfl ?_
    refine X59.laload hx (j := (0 : Int32)) (v := (.long m0)) (by rw [e59]; exact Arc60.1) (State.isArrayOf_alike hZ.alike Arc60.2.1) Arc60.2.2 hin61 hat62 (g := (mkF m 23 #[Sr a1, Sr a2, Si (0 : Int32), Si p4, Si (0 : Int32), Su, Su] [(.int (0 : Int32)), (.ref r3), (.long ((p4.toInt64) - (f0.toInt64)))])) rfl rfl (hb hby d24_23) _ ?_
    refine XS.land X59.here hx rfl (hb hby d24_24) rfl ?_
    refine XS.aloadN X59.here hx rfl (hb hby d24_25) rfl rfl ?_
    refine st63 _ ?_
    show Steps _ _ _ (T63.setTop (mkF m 29 #[Sr a1, Sr a2, Si (0 : Int32), Si p4, Si (0 : Int32), Su, Su] [(.ref r2), (.long (((p4.toInt64) - (f0.toInt64)) &&& m0))])) _
    refine XS.iloadN X63.here hx rfl (hb hby d24_29) rfl ?_
    refine X63.iaload hx (j := (0 : Int32)) (v := (.int s0)) (by rw [e63]; exact Arc64.1) (State.isArrayOf_alike hZ.alike Arc64.2.1) Arc64.2.2 hin65 hat66 (g := (mkF m 30 #[Sr a1, Sr a2, Si (0 : Int32), Si p4, Si (0 : Int32), Su, Su] [(.int (0 : Int32)), (.ref r2), (.long (((p4.toInt64) - (f0.toInt64)) &&& m0))])) rfl rfl (hb hby d24_30) _ ?_
    refine XS.lshl X63.here hx rfl (hb hby d24_31) rfl ?_
    refine XS.lstore X63.here hx rfl (hb hby d24_32) rfl (l' := #[Sr a1, Sr a2, Si (0 : Int32), Si p4, Si (0 : Int32), Sl ((((p4.toInt64) - (f0.toInt64)) &&& m0) <<< (s0 &&& 0x3f).toInt64), S2]) rfl ?_
    refine XS.aloadN X63.here hx rfl (hb hby d24_34) rfl rfl ?_
    refine XS.iload X63.here hx rfl (hb hby d24_35) rfl ?_
    refine XS.aloadN X63.here hx rfl (hb hby d24_37) rfl rfl ?_
    refine XS.iload X63.here hx rfl (hb hby d24_38) rfl ?_
    refine X63.laload hx (j := (0 : Int32)) (v := (.long w0)) (by rw [e63]; exact Arc67.1) (State.isArrayOf_alike hZ.alike Arc67.2.1) Arc67.2.2 hin68 hat69 (g := (mkF m 40 #[Sr a1, Sr a2, Si (0 : Int32), Si p4, Si (0 : Int32), Sl ((((p4.toInt64) - (f0.toInt64)) &&& m0) <<< (s0 &&& 0x3f).toInt64), S2] [(.int (0 : Int32)), (.ref a2), (.int (0 : Int32)), (.ref a2)])) rfl rfl (hb hby d24_40) _ ?_
    refine XS.aloadN X63.here hx rfl (hb hby d24_41) rfl rfl ?_
    show Steps _ _ _ (T63.setTop (mkF m 42 #[Sr a1, Sr a2, Si (0 : Int32), Si p4, Si (0 : Int32), Sl ((((p4.toInt64) - (f0.toInt64)) &&& m0) <<< (s0 &&& 0x3f).toInt64), S2] [(.ref a1), (.long w0), (.int (0 : Int32)), (.ref a2)])) _
    refine st70 _ ?_
    refine XS.iloadN X70.here hx rfl (hb hby d24_45) rfl ?_
    refine X70.laload hx (j := (0 : Int32)) (v := (.long m0)) (by rw [e70]; exact Arc71.1) (State.isArrayOf_alike hZ.alike Arc71.2.1) Arc71.2.2 hin72 hat73 (g := (mkF m 46 #[Sr a1, Sr a2, Si (0 : Int32), Si p4, Si (0 : Int32), Sl ((((p4.toInt64) - (f0.toInt64)) &&& m0) <<< (s0 &&& 0x3f).toInt64), S2] [(.int (0 : Int32)), (.ref r3), (.long w0), (.int (0 : Int32)), (.ref a2)])) rfl rfl (hb hby d24_46) _ ?_
    refine XS.aloadN X70.here hx rfl (hb hby d24_47) rfl rfl ?_
    refine st74 _ ?_
    refine XS.iloadN X74.here hx rfl (hb hby d24_51) rfl ?_
    refine X74.iaload hx (j := (0 : Int32)) (v := (.int s0)) (by rw [e74]; exact Arc75.1) (State.isArrayOf_alike hZ.alike Arc75.2.1) Arc75.2.2 hin76 hat77 (g := (mkF m 52 #[Sr a1, Sr a2, Si (0 : Int32), Si p4, Si (0 : Int32), Sl ((((p4.toInt64) - (f0.toInt64)) &&& m0) <<< (s0 &&& 0x3f).toInt64), S2] [(.int (0 : Int32)), (.ref r2), (.long m0), (.long w0), (.int (0 : Int32)), (.ref a2)])) rfl rfl (hb hby d24_52) _ ?_
    refine XS.lshl X74.here hx rfl (hb hby d24_53) rfl ?_
    refine X74.ldc2Long hx hown (mvT hZ (ow hw 164 rfl)) (g := (mkF m 54 #[Sr a1, Sr a2, Si (0 : Int32), Si p4, Si (0 : Int32), Sl ((((p4.toInt64) - (f0.toInt64)) &&& m0) <<< (s0 &&& 0x3f).toInt64), S2] [(.long (m0 <<< (s0 &&& 0x3f).toInt64)), (.long w0), (.int (0 : Int32)), (.ref a2)])) rfl (hb hby d24_54) _ ?_
    refine XS.lxor X74.here hx rfl (hb hby d24_57) rfl ?_
    show Steps _ _ _ (T74.setTop (mkF m 58 #[Sr a1, Sr a2, Si (0 : Int32), Si p4, Si (0 : Int32), Sl ((((p4.toInt64) - (f0.toInt64)) &&& m0) <<< (s0 &&& 0x3f).toInt64), S2] [(.long ((m0 <<< (s0 &&& 0x3f).toInt64) ^^^ (-1 : Int64))), (.long w0), (.int (0 : Int32)), (.ref a2)])) _
    refine XS.land X74.here hx rfl (hb hby d24_58) rfl ?_
    refine XS.lload X74.here hx rfl (hb hby d24_59) rfl ?_
    refine XS.lor X74.here hx rfl (hb hby d24_61) rfl ?_
    exact k
  have pre79 : ∀ t, Steps p.tables e below (T74.setTop (mkF m 62 #[Sr a1, Sr a2, Si (0 : Int32), Si p4, Si (0 : Int32), Sl ((((p4.toInt64) - (f0.toInt64)) &&& m0) <<< (s0 &&& 0x3f).toInt64), S2] [(.long (own_upd w0 s0 m0 f0 p4)), (.int (0 : Int32)), (.ref a2)])) t → Steps p.tables e below (s₁.setTop (entryFrame m #[(.ref a1), (.ref a2), (.int (0 : Int32)), (.int p4)] 7)) t := pre78
  obtain ⟨c80, Arc80, Aqc80, Asc80, Anc80, Ahc80, Agc80⟩ := id V2
  have hin81 : ¬ ((0 : Int32) < 0 ∨ c80.slots.size ≤ ((0 : Int32)).toNatClampNeg) := inb_of Asc80 ⟨by decide, by decide⟩
  obtain ⟨T82, h82, X82, e82, W82, st82⟩ := stJ X74 hx hZ e74 Arc80 (j := (0 : Int32)) hin81 (g := (mkF m 62 #[Sr a1, Sr a2, Si (0 : Int32), Si p4, Si (0 : Int32), Sl ((((p4.toInt64) - (f0.toInt64)) &&& m0) <<< (s0 &&& 0x3f).toInt64), S2] [(.long (own_upd w0 s0 m0 f0 p4)), (.int (0 : Int32)), (.ref a2)])) rfl rfl (hb hby d24_62)
  have KC83 : Keep h0 h82 [a2] := (Keep.refl h0 [a2]).wr W82 (Or.inl (List.mem_of_getElem? (i := 0) rfl))
  have V82 : Arv Z h82 a2 k2 .long (3 : Int32) [(.long (own_upd w0 s0 m0 f0 p4)), (.long w1), (.long w2)] (.long (0 : Int64)) := Arv.set Arc80 Aqc80 Asc80 Anc80 Ahc80 Agc80 rfl W82 0 rfl (Nat.le_of_ble_eq_true rfl)
  have N84 := Fr.snoc X82 N0 g2
  have pre85 : ∀ t, Steps p.tables e below (T82.setTop (mkF m 63 #[Sr a1, Sr a2, Si (0 : Int32), Si p4, Si (0 : Int32), Sl ((((p4.toInt64) - (f0.toInt64)) &&& m0) <<< (s0 &&& 0x3f).toInt64), S2] [])) t → Steps p.tables e below (s₁.setTop (entryFrame m #[(.ref a1), (.ref a2), (.int (0 : Int32)), (.int p4)] 7)) t := by
    intro t k
    refine pre79 t ?_
    refine st82 _ ?_
    exact k
  obtain ⟨fs, hr, hrun, hended, hW, hsame⟩ := X82.leave (v := none) (fun _ => rfl)
  refine ⟨_, _, pre85 _ ?_, hrun, hended, _, _, rfl, ?_, ⟨_, rfl⟩, hW, hsame.mono (by decide) (by decide)⟩
  · exact X82.returnOut hx Bd.returns (hb hby d24_63) hr
  · show Q_rm_set0 Z a1 a2 p4 r1 r2 r3 r4 c1 c2 c3 c4 s0 s1 s2 m0 m1 m2 f0 f1 f2 wx k2 w0 w1 w2 h0 n0 _ T82.heap _
    rw [e82]
    exact ⟨rfl, N84, KC83, V82⟩
theorem ef_rm_set1 (m : MethodId) (x0 : Addr) (x1 : Addr) (x3 : Int32) : entryFrame m #[(.ref x0), (.ref x1), (.int (1 : Int32)), (.int x3)] 7 = mkF m 0 #[Sr x0, Sr x1, Si (1 : Int32), Si x3, Su, Su, Su] [] := by first | (simp [entryFrame, mkF, argsToLocals, Value.category]; done) | rfl
def Q_rm_set1 (Z : State) (a1 : Addr) (a2 : Addr) (p4 : Int32) (r1 : Addr) (r2 : Addr) (r3 : Addr) (r4 : Addr) (c1 : ClassId) (c2 : ClassId) (c3 : ClassId) (c4 : ClassId) (s0 : Int32) (s1 : Int32) (s2 : Int32) (m0 : Int64) (m1 : Int64) (m2 : Int64) (f0 : Int32) (f1 : Int32) (f2 : Int32) (wx : Int32) (k2 : ClassId) (w0 : Int64) (w1 : Int64) (w2 : Int64) (h0 : Heap) (n0 : Nat) (v : Option Value) (h : Heap) (L : List Loc) : Prop := v = none ∧ Fr n0 L ∧ Keep h0 h [a2] ∧ Arv Z h a2 k2 .long (3 : Int32) [(.long (own_upd w0 s1 m1 f1 p4)), (.long w1), (.long w2)] (.long (0 : Int64))
set_option maxRecDepth 65536 in
set_option maxHeartbeats 40000000 in
theorem rm_set1 (l : Launch) (Z : State) (a0 : Array Value) (hw : ∀ d ∈ tables_1, d.before a0 Z = true) (ws : List Jvm.Cond) (a1 : Addr) (a2 : Addr) (p4 : Int32) (r1 : Addr) (r2 : Addr) (r3 : Addr) (r4 : Addr) (c1 : ClassId) (c2 : ClassId) (c3 : ClassId) (c4 : ClassId) (s0 : Int32) (s1 : Int32) (s2 : Int32) (m0 : Int64) (m1 : Int64) (m2 : Int64) (f0 : Int32) (f1 : Int32) (f2 : Int32) (wx : Int32) (k2 : ClassId) (w0 : Int64) (w1 : Int64) (w2 : Int64) (h0 : Heap) (n0 : Nat) (Z0 : n0 ≤ h0.size) (F_r1 : Fld Z h0 a1 "com/example/darlington/darlington/core/StateLayout" "wordOf" "[I" (.ref r1)) (V_r1 : Arv Z h0 r1 c1 .int (3 : Int32) [(.int (0 : Int32)), (.int (0 : Int32)), (.int wx)] (.int (0 : Int32))) (F_r2 : Fld Z h0 a1 "com/example/darlington/darlington/core/StateLayout" "shiftOf" "[I" (.ref r2)) (V_r2 : Arv Z h0 r2 c2 .int (3 : Int32) [(.int s0), (.int s1), (.int s2)] (.int (0 : Int32))) (F_r3 : Fld Z h0 a1 "com/example/darlington/darlington/core/StateLayout" "maskOf" "[J" (.ref r3)) (V_r3 : Arv Z h0 r3 c3 .long (3 : Int32) [(.long m0), (.long m1), (.long m2)] (.long (0 : Int64))) (F_r4 : Fld Z h0 a1 "com/example/darlington/darlington/core/StateLayout" "firstOf" "[I" (.ref r4)) (V_r4 : Arv Z h0 r4 c4 .int (3 : Int32) [(.int f0), (.int f1), (.int f2)] (.int (0 : Int32))) (V2 : Arv Z h0 a2 k2 .long (3 : Int32) [(.long w0), (.long w1), (.long w2)] (.long (0 : Int64))) (g2 : n0 ≤ a2) :
    MetFree l (⟨"com/example/darlington/darlington/core/StateLayout", "set", "([JII)V"⟩ : MethodName) (head1 (Jvm.Cond.code (⟨"com/example/darlington/darlington/core/StateLayout", "set", "([JII)V"⟩ : MethodName) prog_74_method_5_code 7 none :: ws) ({ frames := 0, cells := 0, slots := 0, locals := 0 } : Room)) (fun a U => a = #[(.ref a1), (.ref a2), (.int (1 : Int32)), (.int p4)] ∧ Z.Warmed39 U.vm ∧ U.heap = h0) (fun _ _ _ _ _ => True) (fun _ U o U' => ∃ v L, o = .returned v ∧ Q_rm_set1 Z a1 a2 p4 r1 r2 r3 r4 c1 c2 c3 c4 s0 s1 s2 m0 m1 m2 f0 f1 f2 wx k2 w0 w1 w2 h0 n0 v U'.heap L ∧ FrameEnd U o U' L ({ frames := 0, cells := 0, slots := 0, locals := 0 } : Room).cells ({ frames := 0, cells := 0, slots := 0, locals := 0 } : Room).slots) := by
  refine MetFree.of_bodySF (plainFor_of_name pn_8) hisR ?_
  intro p e s m args below meth c s₁ Bd hml0 hP hK
  obtain ⟨rfl, hZ, hh⟩ := hP
  have hx := Bd.exec
  have hby := Bd.bytes
  have hml : c.maxLocals = 7 := hml0
  have hown : s.vm.findClass "com/example/darlington/darlington/core/StateLayout" = some m.cls := findClass_of_methodNamed Bd.named
  have hnm := (name_of_methodNamed Bd.named Bd.method).1
  have X0 : Stand p l e ({ frames := 0, cells := 0, slots := 0, locals := 0 } : Room) s m #[(.ref a1), (.ref a2), (.int (1 : Int32)), (.int p4)] below meth c s₁ [] 0 0 := Stand.of_body Bd
  have e0 : s₁.heap = h0 := by rw [← hh, Bd.state]; rfl
  have N0 := Fr.nil n0
  have pre0 : ∀ t, Steps p.tables e below (s₁.setTop (mkF m 0 #[Sr a1, Sr a2, Si (1 : Int32), Si p4, Su, Su, Su] [])) t → Steps p.tables e below (s₁.setTop (entryFrame m #[(.ref a1), (.ref a2), (.int (1 : Int32)), (.int p4)] 7)) t := fun t k => castTop (ef_rm_set1 m a1 a2 p4) k
  obtain ⟨T51, X51, e51, st51⟩ := getF X0 hx hZ hown (host := "") (Or.inl (ow hw 102 rfl)) Via.refl e0 F_r1 (g := (mkF m 1 #[Sr a1, Sr a2, Si (1 : Int32), Si p4, Su, Su, Su] [(.ref a1)])) rfl rfl (hb hby d24_1)
  obtain ⟨c52, Arc52, Aqc52, Asc52, Anc52, Ahc52, Agc52⟩ := id V_r1
  have hin53 : ¬ ((1 : Int32) < 0 ∨ c52.slots.size ≤ ((1 : Int32)).toNatClampNeg) := inb_of Asc52 ⟨by decide, by decide⟩
  have hat54 : c52.slots[((1 : Int32)).toNatClampNeg]? = some (.int (0 : Int32)) := Has.at Ahc52 hin53 rfl
  obtain ⟨T55, X55, e55, st55⟩ := getF X51 hx hZ hown (host := "") (Or.inl (ow hw 109 rfl)) Via.refl e51 F_r4 (g := (mkF m 11 #[Sr a1, Sr a2, Si (1 : Int32), Si p4, Si (0 : Int32), Su, Su] [(.ref a1), (.long (p4.toInt64))])) rfl rfl (hb hby d24_11)
  obtain ⟨c56, Arc56, Aqc56, Asc56, Anc56, Ahc56, Agc56⟩ := id V_r4
  have hin57 : ¬ ((1 : Int32) < 0 ∨ c56.slots.size ≤ ((1 : Int32)).toNatClampNeg) := inb_of Asc56 ⟨by decide, by decide⟩
  have hat58 : c56.slots[((1 : Int32)).toNatClampNeg]? = some (.int f1) := Has.at Ahc56 hin57 rfl
  obtain ⟨T59, X59, e59, st59⟩ := getF X55 hx hZ hown (host := "") (Or.inl (ow hw 107 rfl)) Via.refl e55 F_r3 (g := (mkF m 19 #[Sr a1, Sr a2, Si (1 : Int32), Si p4, Si (0 : Int32), Su, Su] [(.ref a1), (.long ((p4.toInt64) - (f1.toInt64)))])) rfl rfl (hb hby d24_19)
  obtain ⟨c60, Arc60, Aqc60, Asc60, Anc60, Ahc60, Agc60⟩ := id V_r3
  have hin61 : ¬ ((1 : Int32) < 0 ∨ c60.slots.size ≤ ((1 : Int32)).toNatClampNeg) := inb_of Asc60 ⟨by decide, by decide⟩
  have hat62 : c60.slots[((1 : Int32)).toNatClampNeg]? = some (.long m1) := Has.at Ahc60 hin61 rfl
  obtain ⟨T63, X63, e63, st63⟩ := getF X59 hx hZ hown (host := "") (Or.inl (ow hw 104 rfl)) Via.refl e59 F_r2 (g := (mkF m 26 #[Sr a1, Sr a2, Si (1 : Int32), Si p4, Si (0 : Int32), Su, Su] [(.ref a1), (.long (((p4.toInt64) - (f1.toInt64)) &&& m1))])) rfl rfl (hb hby d24_26)
  obtain ⟨c64, Arc64, Aqc64, Asc64, Anc64, Ahc64, Agc64⟩ := id V_r2
  have hin65 : ¬ ((1 : Int32) < 0 ∨ c64.slots.size ≤ ((1 : Int32)).toNatClampNeg) := inb_of Asc64 ⟨by decide, by decide⟩
  have hat66 : c64.slots[((1 : Int32)).toNatClampNeg]? = some (.int s1) := Has.at Ahc64 hin65 rfl
  obtain ⟨c67, Arc67, Aqc67, Asc67, Anc67, Ahc67, Agc67⟩ := id V2
  have hin68 : ¬ ((0 : Int32) < 0 ∨ c67.slots.size ≤ ((0 : Int32)).toNatClampNeg) := inb_of Asc67 ⟨by decide, by decide⟩
  have hat69 : c67.slots[((0 : Int32)).toNatClampNeg]? = some (.long w0) := Has.at Ahc67 hin68 rfl
  obtain ⟨T70, X70, e70, st70⟩ := getF X63 hx hZ hown (host := "") (Or.inl (ow hw 107 rfl)) Via.refl e63 F_r3 (g := (mkF m 42 #[Sr a1, Sr a2, Si (1 : Int32), Si p4, Si (0 : Int32), Sl ((((p4.toInt64) - (f1.toInt64)) &&& m1) <<< (s1 &&& 0x3f).toInt64), S2] [(.ref a1), (.long w0), (.int (0 : Int32)), (.ref a2)])) rfl rfl (hb hby d24_42)
  obtain ⟨c71, Arc71, Aqc71, Asc71, Anc71, Ahc71, Agc71⟩ := id V_r3
  have hin72 : ¬ ((1 : Int32) < 0 ∨ c71.slots.size ≤ ((1 : Int32)).toNatClampNeg) := inb_of Asc71 ⟨by decide, by decide⟩
  have hat73 : c71.slots[((1 : Int32)).toNatClampNeg]? = some (.long m1) := Has.at Ahc71 hin72 rfl
  obtain ⟨T74, X74, e74, st74⟩ := getF X70 hx hZ hown (host := "") (Or.inl (ow hw 104 rfl)) Via.refl e70 F_r2 (g := (mkF m 48 #[Sr a1, Sr a2, Si (1 : Int32), Si p4, Si (0 : Int32), Sl ((((p4.toInt64) - (f1.toInt64)) &&& m1) <<< (s1 &&& 0x3f).toInt64), S2] [(.ref a1), (.long m1), (.long w0), (.int (0 : Int32)), (.ref a2)])) rfl rfl (hb hby d24_48)
  obtain ⟨c75, Arc75, Aqc75, Asc75, Anc75, Ahc75, Agc75⟩ := id V_r2
  have hin76 : ¬ ((1 : Int32) < 0 ∨ c75.slots.size ≤ ((1 : Int32)).toNatClampNeg) := inb_of Asc75 ⟨by decide, by decide⟩
  have hat77 : c75.slots[((1 : Int32)).toNatClampNeg]? = some (.int s1) := Has.at Ahc75 hin76 rfl
  have pre78 : ∀ t, Steps p.tables e below (T74.setTop (mkF m 62 #[Sr a1, Sr a2, Si (1 : Int32), Si p4, Si (0 : Int32), Sl ((((p4.toInt64) - (f1.toInt64)) &&& m1) <<< (s1 &&& 0x3f).toInt64), S2] [(.long ((w0 &&& ((m1 <<< (s1 &&& 0x3f).toInt64) ^^^ (-1 : Int64))) ||| ((((p4.toInt64) - (f1.toInt64)) &&& m1) <<< (s1 &&& 0x3f).toInt64))), (.int (0 : Int32)), (.ref a2)])) t → Steps p.tables e below (s₁.setTop (entryFrame m #[(.ref a1), (.ref a2), (.int (1 : Int32)), (.int p4)] 7)) t := by
    intro t k
    refine pre0 t ?_
    refine XS.aloadN X0.here hx rfl (hb hby d24_0) rfl rfl ?_
    refine st51 _ ?_
    refine XS.iloadN X51.here hx rfl (hb hby d24_4) rfl ?_
    refine X51.iaload hx (j := (1 : Int32)) (v := (.int (0 : Int32))) (by rw [e51]; exact Arc52.1) (State.isArrayOf_alike hZ.alike Arc52.2.1) Arc52.2.2 hin53 hat54 (g := (mkF m 5 #[Sr a1, Sr a2, Si (1 : Int32), Si p4, Su, Su, Su] [(.int (1 : Int32)), (.ref r1)])) rfl rfl (hb hby d24_5) _ ?_
    refine XS.istore X51.here hx rfl (hb hby d24_6) rfl (l' := #[Sr a1, Sr a2, Si (1 : Int32), Si p4, Si (0 : Int32), Su, Su]) rfl ?_
    refine XS.iloadN X51.here hx rfl (hb hby d24_8) rfl ?_
    refine XS.i2l X51.here hx rfl (hb hby d24_9) rfl ?_
    refine XS.aloadN X51.here hx rfl (hb hby d24_10) rfl rfl ?_
    refine st55 _ ?_
    refine XS.iloadN X55.here hx rfl (hb hby d24_14) rfl ?_
    show Steps _ _ _ (T55.setTop (mkF m 15 #[Sr a1, Sr a2, Si (1 : Int32), Si p4, Si (0 : Int32), Su, Su] [(.int (1 : Int32)), (.ref r4), (.long (p4.toInt64))])) _
    refine X55.iaload hx (j := (1 : Int32)) (v := (.int f1)) (by rw [e55]; exact Arc56.1) (State.isArrayOf_alike hZ.alike Arc56.2.1) Arc56.2.2 hin57 hat58 (g := (mkF m 15 #[Sr a1, Sr a2, Si (1 : Int32), Si p4, Si (0 : Int32), Su, Su] [(.int (1 : Int32)), (.ref r4), (.long (p4.toInt64))])) rfl rfl (hb hby d24_15) _ ?_
    refine XS.i2l X55.here hx rfl (hb hby d24_16) rfl ?_
    refine XS.lsub X55.here hx rfl (hb hby d24_17) rfl ?_
    refine XS.aloadN X55.here hx rfl (hb hby d24_18) rfl rfl ?_
    refine st59 _ ?_
    refine XS.iloadN X59.here hx rfl (hb hby d24_22) rfl ?_
    refine X59.laload hx (j := (1 : Int32)) (v := (.long m1)) (by rw [e59]; exact Arc60.1) (State.isArrayOf_alike hZ.alike Arc60.2.1) Arc60.2.2 hin61 hat62 (g := (mkF m 23 #[Sr a1, Sr a2, Si (1 : Int32), Si p4, Si (0 : Int32), Su, Su] [(.int (1 : Int32)), (.ref r3), (.long ((p4.toInt64) - (f1.toInt64)))])) rfl rfl (hb hby d24_23) _ ?_
    refine XS.land X59.here hx rfl (hb hby d24_24) rfl ?_
    refine XS.aloadN X59.here hx rfl (hb hby d24_25) rfl rfl ?_
    refine st63 _ ?_
    show Steps _ _ _ (T63.setTop (mkF m 29 #[Sr a1, Sr a2, Si (1 : Int32), Si p4, Si (0 : Int32), Su, Su] [(.ref r2), (.long (((p4.toInt64) - (f1.toInt64)) &&& m1))])) _
    refine XS.iloadN X63.here hx rfl (hb hby d24_29) rfl ?_
    refine X63.iaload hx (j := (1 : Int32)) (v := (.int s1)) (by rw [e63]; exact Arc64.1) (State.isArrayOf_alike hZ.alike Arc64.2.1) Arc64.2.2 hin65 hat66 (g := (mkF m 30 #[Sr a1, Sr a2, Si (1 : Int32), Si p4, Si (0 : Int32), Su, Su] [(.int (1 : Int32)), (.ref r2), (.long (((p4.toInt64) - (f1.toInt64)) &&& m1))])) rfl rfl (hb hby d24_30) _ ?_
    refine XS.lshl X63.here hx rfl (hb hby d24_31) rfl ?_
    refine XS.lstore X63.here hx rfl (hb hby d24_32) rfl (l' := #[Sr a1, Sr a2, Si (1 : Int32), Si p4, Si (0 : Int32), Sl ((((p4.toInt64) - (f1.toInt64)) &&& m1) <<< (s1 &&& 0x3f).toInt64), S2]) rfl ?_
    refine XS.aloadN X63.here hx rfl (hb hby d24_34) rfl rfl ?_
    refine XS.iload X63.here hx rfl (hb hby d24_35) rfl ?_
    refine XS.aloadN X63.here hx rfl (hb hby d24_37) rfl rfl ?_
    refine XS.iload X63.here hx rfl (hb hby d24_38) rfl ?_
    refine X63.laload hx (j := (0 : Int32)) (v := (.long w0)) (by rw [e63]; exact Arc67.1) (State.isArrayOf_alike hZ.alike Arc67.2.1) Arc67.2.2 hin68 hat69 (g := (mkF m 40 #[Sr a1, Sr a2, Si (1 : Int32), Si p4, Si (0 : Int32), Sl ((((p4.toInt64) - (f1.toInt64)) &&& m1) <<< (s1 &&& 0x3f).toInt64), S2] [(.int (0 : Int32)), (.ref a2), (.int (0 : Int32)), (.ref a2)])) rfl rfl (hb hby d24_40) _ ?_
    refine XS.aloadN X63.here hx rfl (hb hby d24_41) rfl rfl ?_
    show Steps _ _ _ (T63.setTop (mkF m 42 #[Sr a1, Sr a2, Si (1 : Int32), Si p4, Si (0 : Int32), Sl ((((p4.toInt64) - (f1.toInt64)) &&& m1) <<< (s1 &&& 0x3f).toInt64), S2] [(.ref a1), (.long w0), (.int (0 : Int32)), (.ref a2)])) _
    refine st70 _ ?_
    refine XS.iloadN X70.here hx rfl (hb hby d24_45) rfl ?_
    refine X70.laload hx (j := (1 : Int32)) (v := (.long m1)) (by rw [e70]; exact Arc71.1) (State.isArrayOf_alike hZ.alike Arc71.2.1) Arc71.2.2 hin72 hat73 (g := (mkF m 46 #[Sr a1, Sr a2, Si (1 : Int32), Si p4, Si (0 : Int32), Sl ((((p4.toInt64) - (f1.toInt64)) &&& m1) <<< (s1 &&& 0x3f).toInt64), S2] [(.int (1 : Int32)), (.ref r3), (.long w0), (.int (0 : Int32)), (.ref a2)])) rfl rfl (hb hby d24_46) _ ?_
    refine XS.aloadN X70.here hx rfl (hb hby d24_47) rfl rfl ?_
    refine st74 _ ?_
    refine XS.iloadN X74.here hx rfl (hb hby d24_51) rfl ?_
    refine X74.iaload hx (j := (1 : Int32)) (v := (.int s1)) (by rw [e74]; exact Arc75.1) (State.isArrayOf_alike hZ.alike Arc75.2.1) Arc75.2.2 hin76 hat77 (g := (mkF m 52 #[Sr a1, Sr a2, Si (1 : Int32), Si p4, Si (0 : Int32), Sl ((((p4.toInt64) - (f1.toInt64)) &&& m1) <<< (s1 &&& 0x3f).toInt64), S2] [(.int (1 : Int32)), (.ref r2), (.long m1), (.long w0), (.int (0 : Int32)), (.ref a2)])) rfl rfl (hb hby d24_52) _ ?_
    refine XS.lshl X74.here hx rfl (hb hby d24_53) rfl ?_
    refine X74.ldc2Long hx hown (mvT hZ (ow hw 164 rfl)) (g := (mkF m 54 #[Sr a1, Sr a2, Si (1 : Int32), Si p4, Si (0 : Int32), Sl ((((p4.toInt64) - (f1.toInt64)) &&& m1) <<< (s1 &&& 0x3f).toInt64), S2] [(.long (m1 <<< (s1 &&& 0x3f).toInt64)), (.long w0), (.int (0 : Int32)), (.ref a2)])) rfl (hb hby d24_54) _ ?_
    refine XS.lxor X74.here hx rfl (hb hby d24_57) rfl ?_
    show Steps _ _ _ (T74.setTop (mkF m 58 #[Sr a1, Sr a2, Si (1 : Int32), Si p4, Si (0 : Int32), Sl ((((p4.toInt64) - (f1.toInt64)) &&& m1) <<< (s1 &&& 0x3f).toInt64), S2] [(.long ((m1 <<< (s1 &&& 0x3f).toInt64) ^^^ (-1 : Int64))), (.long w0), (.int (0 : Int32)), (.ref a2)])) _
    refine XS.land X74.here hx rfl (hb hby d24_58) rfl ?_
    refine XS.lload X74.here hx rfl (hb hby d24_59) rfl ?_
    refine XS.lor X74.here hx rfl (hb hby d24_61) rfl ?_
    exact k
  have pre79 : ∀ t, Steps p.tables e below (T74.setTop (mkF m 62 #[Sr a1, Sr a2, Si (1 : Int32), Si p4, Si (0 : Int32), Sl ((((p4.toInt64) - (f1.toInt64)) &&& m1) <<< (s1 &&& 0x3f).toInt64), S2] [(.long (own_upd w0 s1 m1 f1 p4)), (.int (0 : Int32)), (.ref a2)])) t → Steps p.tables e below (s₁.setTop (entryFrame m #[(.ref a1), (.ref a2), (.int (1 : Int32)), (.int p4)] 7)) t := pre78
  obtain ⟨c80, Arc80, Aqc80, Asc80, Anc80, Ahc80, Agc80⟩ := id V2
  have hin81 : ¬ ((0 : Int32) < 0 ∨ c80.slots.size ≤ ((0 : Int32)).toNatClampNeg) := inb_of Asc80 ⟨by decide, by decide⟩
  obtain ⟨T82, h82, X82, e82, W82, st82⟩ := stJ X74 hx hZ e74 Arc80 (j := (0 : Int32)) hin81 (g := (mkF m 62 #[Sr a1, Sr a2, Si (1 : Int32), Si p4, Si (0 : Int32), Sl ((((p4.toInt64) - (f1.toInt64)) &&& m1) <<< (s1 &&& 0x3f).toInt64), S2] [(.long (own_upd w0 s1 m1 f1 p4)), (.int (0 : Int32)), (.ref a2)])) rfl rfl (hb hby d24_62)
  have KC83 : Keep h0 h82 [a2] := (Keep.refl h0 [a2]).wr W82 (Or.inl (List.mem_of_getElem? (i := 0) rfl))
  have V82 : Arv Z h82 a2 k2 .long (3 : Int32) [(.long (own_upd w0 s1 m1 f1 p4)), (.long w1), (.long w2)] (.long (0 : Int64)) := Arv.set Arc80 Aqc80 Asc80 Anc80 Ahc80 Agc80 rfl W82 0 rfl (Nat.le_of_ble_eq_true rfl)
  have N84 := Fr.snoc X82 N0 g2
  have pre85 : ∀ t, Steps p.tables e below (T82.setTop (mkF m 63 #[Sr a1, Sr a2, Si (1 : Int32), Si p4, Si (0 : Int32), Sl ((((p4.toInt64) - (f1.toInt64)) &&& m1) <<< (s1 &&& 0x3f).toInt64), S2] [])) t → Steps p.tables e below (s₁.setTop (entryFrame m #[(.ref a1), (.ref a2), (.int (1 : Int32)), (.int p4)] 7)) t := by
    intro t k
    refine pre79 t ?_
    refine st82 _ ?_
    exact k
  obtain ⟨fs, hr, hrun, hended, hW, hsame⟩ := X82.leave (v := none) (fun _ => rfl)
  refine ⟨_, _, pre85 _ ?_, hrun, hended, _, _, rfl, ?_, ⟨_, rfl⟩, hW, hsame.mono (by decide) (by decide)⟩
  · exact X82.returnOut hx Bd.returns (hb hby d24_63) hr
  · show Q_rm_set1 Z a1 a2 p4 r1 r2 r3 r4 c1 c2 c3 c4 s0 s1 s2 m0 m1 m2 f0 f1 f2 wx k2 w0 w1 w2 h0 n0 _ T82.heap _
    rw [e82]
    exact ⟨rfl, N84, KC83, V82⟩
theorem ef_rm_set2A (m : MethodId) (x0 : Addr) (x1 : Addr) (x3 : Int32) : entryFrame m #[(.ref x0), (.ref x1), (.int (2 : Int32)), (.int x3)] 7 = mkF m 0 #[Sr x0, Sr x1, Si (2 : Int32), Si x3, Su, Su, Su] [] := by first | (simp [entryFrame, mkF, argsToLocals, Value.category]; done) | rfl
def Q_rm_set2A (Z : State) (a1 : Addr) (a2 : Addr) (p4 : Int32) (r1 : Addr) (r2 : Addr) (r3 : Addr) (r4 : Addr) (c1 : ClassId) (c2 : ClassId) (c3 : ClassId) (c4 : ClassId) (s0 : Int32) (s1 : Int32) (s2 : Int32) (m0 : Int64) (m1 : Int64) (m2 : Int64) (f0 : Int32) (f1 : Int32) (f2 : Int32) (k2 : ClassId) (w0 : Int64) (w1 : Int64) (w2 : Int64) (h0 : Heap) (n0 : Nat) (v : Option Value) (h : Heap) (L : List Loc) : Prop := v = none ∧ Fr n0 L ∧ Keep h0 h [a2] ∧ Arv Z h a2 k2 .long (3 : Int32) [(.long (own_upd w0 s2 m2 f2 p4)), (.long w1), (.long w2)] (.long (0 : Int64))
set_option maxRecDepth 65536 in
set_option maxHeartbeats 40000000 in
theorem rm_set2A (l : Launch) (Z : State) (a0 : Array Value) (hw : ∀ d ∈ tables_1, d.before a0 Z = true) (ws : List Jvm.Cond) (a1 : Addr) (a2 : Addr) (p4 : Int32) (r1 : Addr) (r2 : Addr) (r3 : Addr) (r4 : Addr) (c1 : ClassId) (c2 : ClassId) (c3 : ClassId) (c4 : ClassId) (s0 : Int32) (s1 : Int32) (s2 : Int32) (m0 : Int64) (m1 : Int64) (m2 : Int64) (f0 : Int32) (f1 : Int32) (f2 : Int32) (k2 : ClassId) (w0 : Int64) (w1 : Int64) (w2 : Int64) (h0 : Heap) (n0 : Nat) (Z0 : n0 ≤ h0.size) (F_r1 : Fld Z h0 a1 "com/example/darlington/darlington/core/StateLayout" "wordOf" "[I" (.ref r1)) (V_r1 : Arv Z h0 r1 c1 .int (3 : Int32) [(.int (0 : Int32)), (.int (0 : Int32)), (.int (0 : Int32))] (.int (0 : Int32))) (F_r2 : Fld Z h0 a1 "com/example/darlington/darlington/core/StateLayout" "shiftOf" "[I" (.ref r2)) (V_r2 : Arv Z h0 r2 c2 .int (3 : Int32) [(.int s0), (.int s1), (.int s2)] (.int (0 : Int32))) (F_r3 : Fld Z h0 a1 "com/example/darlington/darlington/core/StateLayout" "maskOf" "[J" (.ref r3)) (V_r3 : Arv Z h0 r3 c3 .long (3 : Int32) [(.long m0), (.long m1), (.long m2)] (.long (0 : Int64))) (F_r4 : Fld Z h0 a1 "com/example/darlington/darlington/core/StateLayout" "firstOf" "[I" (.ref r4)) (V_r4 : Arv Z h0 r4 c4 .int (3 : Int32) [(.int f0), (.int f1), (.int f2)] (.int (0 : Int32))) (V2 : Arv Z h0 a2 k2 .long (3 : Int32) [(.long w0), (.long w1), (.long w2)] (.long (0 : Int64))) (g2 : n0 ≤ a2) :
    MetFree l (⟨"com/example/darlington/darlington/core/StateLayout", "set", "([JII)V"⟩ : MethodName) (head1 (Jvm.Cond.code (⟨"com/example/darlington/darlington/core/StateLayout", "set", "([JII)V"⟩ : MethodName) prog_74_method_5_code 7 none :: ws) ({ frames := 0, cells := 0, slots := 0, locals := 0 } : Room)) (fun a U => a = #[(.ref a1), (.ref a2), (.int (2 : Int32)), (.int p4)] ∧ Z.Warmed39 U.vm ∧ U.heap = h0) (fun _ _ _ _ _ => True) (fun _ U o U' => ∃ v L, o = .returned v ∧ Q_rm_set2A Z a1 a2 p4 r1 r2 r3 r4 c1 c2 c3 c4 s0 s1 s2 m0 m1 m2 f0 f1 f2 k2 w0 w1 w2 h0 n0 v U'.heap L ∧ FrameEnd U o U' L ({ frames := 0, cells := 0, slots := 0, locals := 0 } : Room).cells ({ frames := 0, cells := 0, slots := 0, locals := 0 } : Room).slots) := by
  refine MetFree.of_bodySF (plainFor_of_name pn_8) hisR ?_
  intro p e s m args below meth c s₁ Bd hml0 hP hK
  obtain ⟨rfl, hZ, hh⟩ := hP
  have hx := Bd.exec
  have hby := Bd.bytes
  have hml : c.maxLocals = 7 := hml0
  have hown : s.vm.findClass "com/example/darlington/darlington/core/StateLayout" = some m.cls := findClass_of_methodNamed Bd.named
  have hnm := (name_of_methodNamed Bd.named Bd.method).1
  have X0 : Stand p l e ({ frames := 0, cells := 0, slots := 0, locals := 0 } : Room) s m #[(.ref a1), (.ref a2), (.int (2 : Int32)), (.int p4)] below meth c s₁ [] 0 0 := Stand.of_body Bd
  have e0 : s₁.heap = h0 := by rw [← hh, Bd.state]; rfl
  have N0 := Fr.nil n0
  have pre0 : ∀ t, Steps p.tables e below (s₁.setTop (mkF m 0 #[Sr a1, Sr a2, Si (2 : Int32), Si p4, Su, Su, Su] [])) t → Steps p.tables e below (s₁.setTop (entryFrame m #[(.ref a1), (.ref a2), (.int (2 : Int32)), (.int p4)] 7)) t := fun t k => castTop (ef_rm_set2A m a1 a2 p4) k
  obtain ⟨T51, X51, e51, st51⟩ := getF X0 hx hZ hown (host := "") (Or.inl (ow hw 102 rfl)) Via.refl e0 F_r1 (g := (mkF m 1 #[Sr a1, Sr a2, Si (2 : Int32), Si p4, Su, Su, Su] [(.ref a1)])) rfl rfl (hb hby d24_1)
  obtain ⟨c52, Arc52, Aqc52, Asc52, Anc52, Ahc52, Agc52⟩ := id V_r1
  have hin53 : ¬ ((2 : Int32) < 0 ∨ c52.slots.size ≤ ((2 : Int32)).toNatClampNeg) := inb_of Asc52 ⟨by decide, by decide⟩
  have hat54 : c52.slots[((2 : Int32)).toNatClampNeg]? = some (.int (0 : Int32)) := Has.at Ahc52 hin53 rfl
  obtain ⟨T55, X55, e55, st55⟩ := getF X51 hx hZ hown (host := "") (Or.inl (ow hw 109 rfl)) Via.refl e51 F_r4 (g := (mkF m 11 #[Sr a1, Sr a2, Si (2 : Int32), Si p4, Si (0 : Int32), Su, Su] [(.ref a1), (.long (p4.toInt64))])) rfl rfl (hb hby d24_11)
  obtain ⟨c56, Arc56, Aqc56, Asc56, Anc56, Ahc56, Agc56⟩ := id V_r4
  have hin57 : ¬ ((2 : Int32) < 0 ∨ c56.slots.size ≤ ((2 : Int32)).toNatClampNeg) := inb_of Asc56 ⟨by decide, by decide⟩
  have hat58 : c56.slots[((2 : Int32)).toNatClampNeg]? = some (.int f2) := Has.at Ahc56 hin57 rfl
  obtain ⟨T59, X59, e59, st59⟩ := getF X55 hx hZ hown (host := "") (Or.inl (ow hw 107 rfl)) Via.refl e55 F_r3 (g := (mkF m 19 #[Sr a1, Sr a2, Si (2 : Int32), Si p4, Si (0 : Int32), Su, Su] [(.ref a1), (.long ((p4.toInt64) - (f2.toInt64)))])) rfl rfl (hb hby d24_19)
  obtain ⟨c60, Arc60, Aqc60, Asc60, Anc60, Ahc60, Agc60⟩ := id V_r3
  have hin61 : ¬ ((2 : Int32) < 0 ∨ c60.slots.size ≤ ((2 : Int32)).toNatClampNeg) := inb_of Asc60 ⟨by decide, by decide⟩
  have hat62 : c60.slots[((2 : Int32)).toNatClampNeg]? = some (.long m2) := Has.at Ahc60 hin61 rfl
  obtain ⟨T63, X63, e63, st63⟩ := getF X59 hx hZ hown (host := "") (Or.inl (ow hw 104 rfl)) Via.refl e59 F_r2 (g := (mkF m 26 #[Sr a1, Sr a2, Si (2 : Int32), Si p4, Si (0 : Int32), Su, Su] [(.ref a1), (.long (((p4.toInt64) - (f2.toInt64)) &&& m2))])) rfl rfl (hb hby d24_26)
  obtain ⟨c64, Arc64, Aqc64, Asc64, Anc64, Ahc64, Agc64⟩ := id V_r2
  have hin65 : ¬ ((2 : Int32) < 0 ∨ c64.slots.size ≤ ((2 : Int32)).toNatClampNeg) := inb_of Asc64 ⟨by decide, by decide⟩
  have hat66 : c64.slots[((2 : Int32)).toNatClampNeg]? = some (.int s2) := Has.at Ahc64 hin65 rfl
  obtain ⟨c67, Arc67, Aqc67, Asc67, Anc67, Ahc67, Agc67⟩ := id V2
  have hin68 : ¬ ((0 : Int32) < 0 ∨ c67.slots.size ≤ ((0 : Int32)).toNatClampNeg) := inb_of Asc67 ⟨by decide, by decide⟩
  have hat69 : c67.slots[((0 : Int32)).toNatClampNeg]? = some (.long w0) := Has.at Ahc67 hin68 rfl
  obtain ⟨T70, X70, e70, st70⟩ := getF X63 hx hZ hown (host := "") (Or.inl (ow hw 107 rfl)) Via.refl e63 F_r3 (g := (mkF m 42 #[Sr a1, Sr a2, Si (2 : Int32), Si p4, Si (0 : Int32), Sl ((((p4.toInt64) - (f2.toInt64)) &&& m2) <<< (s2 &&& 0x3f).toInt64), S2] [(.ref a1), (.long w0), (.int (0 : Int32)), (.ref a2)])) rfl rfl (hb hby d24_42)
  obtain ⟨c71, Arc71, Aqc71, Asc71, Anc71, Ahc71, Agc71⟩ := id V_r3
  have hin72 : ¬ ((2 : Int32) < 0 ∨ c71.slots.size ≤ ((2 : Int32)).toNatClampNeg) := inb_of Asc71 ⟨by decide, by decide⟩
  have hat73 : c71.slots[((2 : Int32)).toNatClampNeg]? = some (.long m2) := Has.at Ahc71 hin72 rfl
  obtain ⟨T74, X74, e74, st74⟩ := getF X70 hx hZ hown (host := "") (Or.inl (ow hw 104 rfl)) Via.refl e70 F_r2 (g := (mkF m 48 #[Sr a1, Sr a2, Si (2 : Int32), Si p4, Si (0 : Int32), Sl ((((p4.toInt64) - (f2.toInt64)) &&& m2) <<< (s2 &&& 0x3f).toInt64), S2] [(.ref a1), (.long m2), (.long w0), (.int (0 : Int32)), (.ref a2)])) rfl rfl (hb hby d24_48)
  obtain ⟨c75, Arc75, Aqc75, Asc75, Anc75, Ahc75, Agc75⟩ := id V_r2
  have hin76 : ¬ ((2 : Int32) < 0 ∨ c75.slots.size ≤ ((2 : Int32)).toNatClampNeg) := inb_of Asc75 ⟨by decide, by decide⟩
  have hat77 : c75.slots[((2 : Int32)).toNatClampNeg]? = some (.int s2) := Has.at Ahc75 hin76 rfl
  have pre78 : ∀ t, Steps p.tables e below (T74.setTop (mkF m 62 #[Sr a1, Sr a2, Si (2 : Int32), Si p4, Si (0 : Int32), Sl ((((p4.toInt64) - (f2.toInt64)) &&& m2) <<< (s2 &&& 0x3f).toInt64), S2] [(.long ((w0 &&& ((m2 <<< (s2 &&& 0x3f).toInt64) ^^^ (-1 : Int64))) ||| ((((p4.toInt64) - (f2.toInt64)) &&& m2) <<< (s2 &&& 0x3f).toInt64))), (.int (0 : Int32)), (.ref a2)])) t → Steps p.tables e below (s₁.setTop (entryFrame m #[(.ref a1), (.ref a2), (.int (2 : Int32)), (.int p4)] 7)) t := by
    intro t k
    refine pre0 t ?_
    refine XS.aloadN X0.here hx rfl (hb hby d24_0) rfl rfl ?_
    refine st51 _ ?_
    refine XS.iloadN X51.here hx rfl (hb hby d24_4) rfl ?_
    refine X51.iaload hx (j := (2 : Int32)) (v := (.int (0 : Int32))) (by rw [e51]; exact Arc52.1) (State.isArrayOf_alike hZ.alike Arc52.2.1) Arc52.2.2 hin53 hat54 (g := (mkF m 5 #[Sr a1, Sr a2, Si (2 : Int32), Si p4, Su, Su, Su] [(.int (2 : Int32)), (.ref r1)])) rfl rfl (hb hby d24_5) _ ?_
    refine XS.istore X51.here hx rfl (hb hby d24_6) rfl (l' := #[Sr a1, Sr a2, Si (2 : Int32), Si p4, Si (0 : Int32), Su, Su]) rfl ?_
    refine XS.iloadN X51.here hx rfl (hb hby d24_8) rfl ?_
    refine XS.i2l X51.here hx rfl (hb hby d24_9) rfl ?_
    refine XS.aloadN X51.here hx rfl (hb hby d24_10) rfl rfl ?_
    refine st55 _ ?_
    refine XS.iloadN X55.here hx rfl (hb hby d24_14) rfl ?_
    show Steps _ _ _ (T55.setTop (mkF m 15 #[Sr a1, Sr a2, Si (2 : Int32), Si p4, Si (0 : Int32), Su, Su] [(.int (2 : Int32)), (.ref r4), (.long (p4.toInt64))])) _
    refine X55.iaload hx (j := (2 : Int32)) (v := (.int f2)) (by rw [e55]; exact Arc56.1) (State.isArrayOf_alike hZ.alike Arc56.2.1) Arc56.2.2 hin57 hat58 (g := (mkF m 15 #[Sr a1, Sr a2, Si (2 : Int32), Si p4, Si (0 : Int32), Su, Su] [(.int (2 : Int32)), (.ref r4), (.long (p4.toInt64))])) rfl rfl (hb hby d24_15) _ ?_
    refine XS.i2l X55.here hx rfl (hb hby d24_16) rfl ?_
    refine XS.lsub X55.here hx rfl (hb hby d24_17) rfl ?_
    refine XS.aloadN X55.here hx rfl (hb hby d24_18) rfl rfl ?_
    refine st59 _ ?_
    refine XS.iloadN X59.here hx rfl (hb hby d24_22) rfl ?_
    refine X59.laload hx (j := (2 : Int32)) (v := (.long m2)) (by rw [e59]; exact Arc60.1) (State.isArrayOf_alike hZ.alike Arc60.2.1) Arc60.2.2 hin61 hat62 (g := (mkF m 23 #[Sr a1, Sr a2, Si (2 : Int32), Si p4, Si (0 : Int32), Su, Su] [(.int (2 : Int32)), (.ref r3), (.long ((p4.toInt64) - (f2.toInt64)))])) rfl rfl (hb hby d24_23) _ ?_
    refine XS.land X59.here hx rfl (hb hby d24_24) rfl ?_
    refine XS.aloadN X59.here hx rfl (hb hby d24_25) rfl rfl ?_
    refine st63 _ ?_
    show Steps _ _ _ (T63.setTop (mkF m 29 #[Sr a1, Sr a2, Si (2 : Int32), Si p4, Si (0 : Int32), Su, Su] [(.ref r2), (.long (((p4.toInt64) - (f2.toInt64)) &&& m2))])) _
    refine XS.iloadN X63.here hx rfl (hb hby d24_29) rfl ?_
    refine X63.iaload hx (j := (2 : Int32)) (v := (.int s2)) (by rw [e63]; exact Arc64.1) (State.isArrayOf_alike hZ.alike Arc64.2.1) Arc64.2.2 hin65 hat66 (g := (mkF m 30 #[Sr a1, Sr a2, Si (2 : Int32), Si p4, Si (0 : Int32), Su, Su] [(.int (2 : Int32)), (.ref r2), (.long (((p4.toInt64) - (f2.toInt64)) &&& m2))])) rfl rfl (hb hby d24_30) _ ?_
    refine XS.lshl X63.here hx rfl (hb hby d24_31) rfl ?_
    refine XS.lstore X63.here hx rfl (hb hby d24_32) rfl (l' := #[Sr a1, Sr a2, Si (2 : Int32), Si p4, Si (0 : Int32), Sl ((((p4.toInt64) - (f2.toInt64)) &&& m2) <<< (s2 &&& 0x3f).toInt64), S2]) rfl ?_
    refine XS.aloadN X63.here hx rfl (hb hby d24_34) rfl rfl ?_
    refine XS.iload X63.here hx rfl (hb hby d24_35) rfl ?_
    refine XS.aloadN X63.here hx rfl (hb hby d24_37) rfl rfl ?_
    refine XS.iload X63.here hx rfl (hb hby d24_38) rfl ?_
    refine X63.laload hx (j := (0 : Int32)) (v := (.long w0)) (by rw [e63]; exact Arc67.1) (State.isArrayOf_alike hZ.alike Arc67.2.1) Arc67.2.2 hin68 hat69 (g := (mkF m 40 #[Sr a1, Sr a2, Si (2 : Int32), Si p4, Si (0 : Int32), Sl ((((p4.toInt64) - (f2.toInt64)) &&& m2) <<< (s2 &&& 0x3f).toInt64), S2] [(.int (0 : Int32)), (.ref a2), (.int (0 : Int32)), (.ref a2)])) rfl rfl (hb hby d24_40) _ ?_
    refine XS.aloadN X63.here hx rfl (hb hby d24_41) rfl rfl ?_
    show Steps _ _ _ (T63.setTop (mkF m 42 #[Sr a1, Sr a2, Si (2 : Int32), Si p4, Si (0 : Int32), Sl ((((p4.toInt64) - (f2.toInt64)) &&& m2) <<< (s2 &&& 0x3f).toInt64), S2] [(.ref a1), (.long w0), (.int (0 : Int32)), (.ref a2)])) _
    refine st70 _ ?_
    refine XS.iloadN X70.here hx rfl (hb hby d24_45) rfl ?_
    refine X70.laload hx (j := (2 : Int32)) (v := (.long m2)) (by rw [e70]; exact Arc71.1) (State.isArrayOf_alike hZ.alike Arc71.2.1) Arc71.2.2 hin72 hat73 (g := (mkF m 46 #[Sr a1, Sr a2, Si (2 : Int32), Si p4, Si (0 : Int32), Sl ((((p4.toInt64) - (f2.toInt64)) &&& m2) <<< (s2 &&& 0x3f).toInt64), S2] [(.int (2 : Int32)), (.ref r3), (.long w0), (.int (0 : Int32)), (.ref a2)])) rfl rfl (hb hby d24_46) _ ?_
    refine XS.aloadN X70.here hx rfl (hb hby d24_47) rfl rfl ?_
    refine st74 _ ?_
    refine XS.iloadN X74.here hx rfl (hb hby d24_51) rfl ?_
    refine X74.iaload hx (j := (2 : Int32)) (v := (.int s2)) (by rw [e74]; exact Arc75.1) (State.isArrayOf_alike hZ.alike Arc75.2.1) Arc75.2.2 hin76 hat77 (g := (mkF m 52 #[Sr a1, Sr a2, Si (2 : Int32), Si p4, Si (0 : Int32), Sl ((((p4.toInt64) - (f2.toInt64)) &&& m2) <<< (s2 &&& 0x3f).toInt64), S2] [(.int (2 : Int32)), (.ref r2), (.long m2), (.long w0), (.int (0 : Int32)), (.ref a2)])) rfl rfl (hb hby d24_52) _ ?_
    refine XS.lshl X74.here hx rfl (hb hby d24_53) rfl ?_
    refine X74.ldc2Long hx hown (mvT hZ (ow hw 164 rfl)) (g := (mkF m 54 #[Sr a1, Sr a2, Si (2 : Int32), Si p4, Si (0 : Int32), Sl ((((p4.toInt64) - (f2.toInt64)) &&& m2) <<< (s2 &&& 0x3f).toInt64), S2] [(.long (m2 <<< (s2 &&& 0x3f).toInt64)), (.long w0), (.int (0 : Int32)), (.ref a2)])) rfl (hb hby d24_54) _ ?_
    refine XS.lxor X74.here hx rfl (hb hby d24_57) rfl ?_
    show Steps _ _ _ (T74.setTop (mkF m 58 #[Sr a1, Sr a2, Si (2 : Int32), Si p4, Si (0 : Int32), Sl ((((p4.toInt64) - (f2.toInt64)) &&& m2) <<< (s2 &&& 0x3f).toInt64), S2] [(.long ((m2 <<< (s2 &&& 0x3f).toInt64) ^^^ (-1 : Int64))), (.long w0), (.int (0 : Int32)), (.ref a2)])) _
    refine XS.land X74.here hx rfl (hb hby d24_58) rfl ?_
    refine XS.lload X74.here hx rfl (hb hby d24_59) rfl ?_
    refine XS.lor X74.here hx rfl (hb hby d24_61) rfl ?_
    exact k
  have pre79 : ∀ t, Steps p.tables e below (T74.setTop (mkF m 62 #[Sr a1, Sr a2, Si (2 : Int32), Si p4, Si (0 : Int32), Sl ((((p4.toInt64) - (f2.toInt64)) &&& m2) <<< (s2 &&& 0x3f).toInt64), S2] [(.long (own_upd w0 s2 m2 f2 p4)), (.int (0 : Int32)), (.ref a2)])) t → Steps p.tables e below (s₁.setTop (entryFrame m #[(.ref a1), (.ref a2), (.int (2 : Int32)), (.int p4)] 7)) t := pre78
  obtain ⟨c80, Arc80, Aqc80, Asc80, Anc80, Ahc80, Agc80⟩ := id V2
  have hin81 : ¬ ((0 : Int32) < 0 ∨ c80.slots.size ≤ ((0 : Int32)).toNatClampNeg) := inb_of Asc80 ⟨by decide, by decide⟩
  obtain ⟨T82, h82, X82, e82, W82, st82⟩ := stJ X74 hx hZ e74 Arc80 (j := (0 : Int32)) hin81 (g := (mkF m 62 #[Sr a1, Sr a2, Si (2 : Int32), Si p4, Si (0 : Int32), Sl ((((p4.toInt64) - (f2.toInt64)) &&& m2) <<< (s2 &&& 0x3f).toInt64), S2] [(.long (own_upd w0 s2 m2 f2 p4)), (.int (0 : Int32)), (.ref a2)])) rfl rfl (hb hby d24_62)
  have KC83 : Keep h0 h82 [a2] := (Keep.refl h0 [a2]).wr W82 (Or.inl (List.mem_of_getElem? (i := 0) rfl))
  have V82 : Arv Z h82 a2 k2 .long (3 : Int32) [(.long (own_upd w0 s2 m2 f2 p4)), (.long w1), (.long w2)] (.long (0 : Int64)) := Arv.set Arc80 Aqc80 Asc80 Anc80 Ahc80 Agc80 rfl W82 0 rfl (Nat.le_of_ble_eq_true rfl)
  have N84 := Fr.snoc X82 N0 g2
  have pre85 : ∀ t, Steps p.tables e below (T82.setTop (mkF m 63 #[Sr a1, Sr a2, Si (2 : Int32), Si p4, Si (0 : Int32), Sl ((((p4.toInt64) - (f2.toInt64)) &&& m2) <<< (s2 &&& 0x3f).toInt64), S2] [])) t → Steps p.tables e below (s₁.setTop (entryFrame m #[(.ref a1), (.ref a2), (.int (2 : Int32)), (.int p4)] 7)) t := by
    intro t k
    refine pre79 t ?_
    refine st82 _ ?_
    exact k
  obtain ⟨fs, hr, hrun, hended, hW, hsame⟩ := X82.leave (v := none) (fun _ => rfl)
  refine ⟨_, _, pre85 _ ?_, hrun, hended, _, _, rfl, ?_, ⟨_, rfl⟩, hW, hsame.mono (by decide) (by decide)⟩
  · exact X82.returnOut hx Bd.returns (hb hby d24_63) hr
  · show Q_rm_set2A Z a1 a2 p4 r1 r2 r3 r4 c1 c2 c3 c4 s0 s1 s2 m0 m1 m2 f0 f1 f2 k2 w0 w1 w2 h0 n0 _ T82.heap _
    rw [e82]
    exact ⟨rfl, N84, KC83, V82⟩
theorem ef_rm_set2B (m : MethodId) (x0 : Addr) (x1 : Addr) (x3 : Int32) : entryFrame m #[(.ref x0), (.ref x1), (.int (2 : Int32)), (.int x3)] 7 = mkF m 0 #[Sr x0, Sr x1, Si (2 : Int32), Si x3, Su, Su, Su] [] := by first | (simp [entryFrame, mkF, argsToLocals, Value.category]; done) | rfl
def Q_rm_set2B (Z : State) (a1 : Addr) (a2 : Addr) (p4 : Int32) (r1 : Addr) (r2 : Addr) (r3 : Addr) (r4 : Addr) (c1 : ClassId) (c2 : ClassId) (c3 : ClassId) (c4 : ClassId) (s0 : Int32) (s1 : Int32) (s2 : Int32) (m0 : Int64) (m1 : Int64) (m2 : Int64) (f0 : Int32) (f1 : Int32) (f2 : Int32) (k2 : ClassId) (w0 : Int64) (w1 : Int64) (w2 : Int64) (h0 : Heap) (n0 : Nat) (v : Option Value) (h : Heap) (L : List Loc) : Prop := v = none ∧ Fr n0 L ∧ Keep h0 h [a2] ∧ Arv Z h a2 k2 .long (3 : Int32) [(.long w0), (.long (own_upd w1 s2 m2 f2 p4)), (.long w2)] (.long (0 : Int64))
set_option maxRecDepth 65536 in
set_option maxHeartbeats 40000000 in
theorem rm_set2B (l : Launch) (Z : State) (a0 : Array Value) (hw : ∀ d ∈ tables_1, d.before a0 Z = true) (ws : List Jvm.Cond) (a1 : Addr) (a2 : Addr) (p4 : Int32) (r1 : Addr) (r2 : Addr) (r3 : Addr) (r4 : Addr) (c1 : ClassId) (c2 : ClassId) (c3 : ClassId) (c4 : ClassId) (s0 : Int32) (s1 : Int32) (s2 : Int32) (m0 : Int64) (m1 : Int64) (m2 : Int64) (f0 : Int32) (f1 : Int32) (f2 : Int32) (k2 : ClassId) (w0 : Int64) (w1 : Int64) (w2 : Int64) (h0 : Heap) (n0 : Nat) (Z0 : n0 ≤ h0.size) (F_r1 : Fld Z h0 a1 "com/example/darlington/darlington/core/StateLayout" "wordOf" "[I" (.ref r1)) (V_r1 : Arv Z h0 r1 c1 .int (3 : Int32) [(.int (0 : Int32)), (.int (0 : Int32)), (.int (1 : Int32))] (.int (0 : Int32))) (F_r2 : Fld Z h0 a1 "com/example/darlington/darlington/core/StateLayout" "shiftOf" "[I" (.ref r2)) (V_r2 : Arv Z h0 r2 c2 .int (3 : Int32) [(.int s0), (.int s1), (.int s2)] (.int (0 : Int32))) (F_r3 : Fld Z h0 a1 "com/example/darlington/darlington/core/StateLayout" "maskOf" "[J" (.ref r3)) (V_r3 : Arv Z h0 r3 c3 .long (3 : Int32) [(.long m0), (.long m1), (.long m2)] (.long (0 : Int64))) (F_r4 : Fld Z h0 a1 "com/example/darlington/darlington/core/StateLayout" "firstOf" "[I" (.ref r4)) (V_r4 : Arv Z h0 r4 c4 .int (3 : Int32) [(.int f0), (.int f1), (.int f2)] (.int (0 : Int32))) (V2 : Arv Z h0 a2 k2 .long (3 : Int32) [(.long w0), (.long w1), (.long w2)] (.long (0 : Int64))) (g2 : n0 ≤ a2) :
    MetFree l (⟨"com/example/darlington/darlington/core/StateLayout", "set", "([JII)V"⟩ : MethodName) (head1 (Jvm.Cond.code (⟨"com/example/darlington/darlington/core/StateLayout", "set", "([JII)V"⟩ : MethodName) prog_74_method_5_code 7 none :: ws) ({ frames := 0, cells := 0, slots := 0, locals := 0 } : Room)) (fun a U => a = #[(.ref a1), (.ref a2), (.int (2 : Int32)), (.int p4)] ∧ Z.Warmed39 U.vm ∧ U.heap = h0) (fun _ _ _ _ _ => True) (fun _ U o U' => ∃ v L, o = .returned v ∧ Q_rm_set2B Z a1 a2 p4 r1 r2 r3 r4 c1 c2 c3 c4 s0 s1 s2 m0 m1 m2 f0 f1 f2 k2 w0 w1 w2 h0 n0 v U'.heap L ∧ FrameEnd U o U' L ({ frames := 0, cells := 0, slots := 0, locals := 0 } : Room).cells ({ frames := 0, cells := 0, slots := 0, locals := 0 } : Room).slots) := by
  refine MetFree.of_bodySF (plainFor_of_name pn_8) hisR ?_
  intro p e s m args below meth c s₁ Bd hml0 hP hK
  obtain ⟨rfl, hZ, hh⟩ := hP
  have hx := Bd.exec
  have hby := Bd.bytes
  have hml : c.maxLocals = 7 := hml0
  have hown : s.vm.findClass "com/example/darlington/darlington/core/StateLayout" = some m.cls := findClass_of_methodNamed Bd.named
  have hnm := (name_of_methodNamed Bd.named Bd.method).1
  have X0 : Stand p l e ({ frames := 0, cells := 0, slots := 0, locals := 0 } : Room) s m #[(.ref a1), (.ref a2), (.int (2 : Int32)), (.int p4)] below meth c s₁ [] 0 0 := Stand.of_body Bd
  have e0 : s₁.heap = h0 := by rw [← hh, Bd.state]; rfl
  have N0 := Fr.nil n0
  have pre0 : ∀ t, Steps p.tables e below (s₁.setTop (mkF m 0 #[Sr a1, Sr a2, Si (2 : Int32), Si p4, Su, Su, Su] [])) t → Steps p.tables e below (s₁.setTop (entryFrame m #[(.ref a1), (.ref a2), (.int (2 : Int32)), (.int p4)] 7)) t := fun t k => castTop (ef_rm_set2B m a1 a2 p4) k
  obtain ⟨T51, X51, e51, st51⟩ := getF X0 hx hZ hown (host := "") (Or.inl (ow hw 102 rfl)) Via.refl e0 F_r1 (g := (mkF m 1 #[Sr a1, Sr a2, Si (2 : Int32), Si p4, Su, Su, Su] [(.ref a1)])) rfl rfl (hb hby d24_1)
  obtain ⟨c52, Arc52, Aqc52, Asc52, Anc52, Ahc52, Agc52⟩ := id V_r1
  have hin53 : ¬ ((2 : Int32) < 0 ∨ c52.slots.size ≤ ((2 : Int32)).toNatClampNeg) := inb_of Asc52 ⟨by decide, by decide⟩
  have hat54 : c52.slots[((2 : Int32)).toNatClampNeg]? = some (.int (1 : Int32)) := Has.at Ahc52 hin53 rfl
  obtain ⟨T55, X55, e55, st55⟩ := getF X51 hx hZ hown (host := "") (Or.inl (ow hw 109 rfl)) Via.refl e51 F_r4 (g := (mkF m 11 #[Sr a1, Sr a2, Si (2 : Int32), Si p4, Si (1 : Int32), Su, Su] [(.ref a1), (.long (p4.toInt64))])) rfl rfl (hb hby d24_11)
  obtain ⟨c56, Arc56, Aqc56, Asc56, Anc56, Ahc56, Agc56⟩ := id V_r4
  have hin57 : ¬ ((2 : Int32) < 0 ∨ c56.slots.size ≤ ((2 : Int32)).toNatClampNeg) := inb_of Asc56 ⟨by decide, by decide⟩
  have hat58 : c56.slots[((2 : Int32)).toNatClampNeg]? = some (.int f2) := Has.at Ahc56 hin57 rfl
  obtain ⟨T59, X59, e59, st59⟩ := getF X55 hx hZ hown (host := "") (Or.inl (ow hw 107 rfl)) Via.refl e55 F_r3 (g := (mkF m 19 #[Sr a1, Sr a2, Si (2 : Int32), Si p4, Si (1 : Int32), Su, Su] [(.ref a1), (.long ((p4.toInt64) - (f2.toInt64)))])) rfl rfl (hb hby d24_19)
  obtain ⟨c60, Arc60, Aqc60, Asc60, Anc60, Ahc60, Agc60⟩ := id V_r3
  have hin61 : ¬ ((2 : Int32) < 0 ∨ c60.slots.size ≤ ((2 : Int32)).toNatClampNeg) := inb_of Asc60 ⟨by decide, by decide⟩
  have hat62 : c60.slots[((2 : Int32)).toNatClampNeg]? = some (.long m2) := Has.at Ahc60 hin61 rfl
  obtain ⟨T63, X63, e63, st63⟩ := getF X59 hx hZ hown (host := "") (Or.inl (ow hw 104 rfl)) Via.refl e59 F_r2 (g := (mkF m 26 #[Sr a1, Sr a2, Si (2 : Int32), Si p4, Si (1 : Int32), Su, Su] [(.ref a1), (.long (((p4.toInt64) - (f2.toInt64)) &&& m2))])) rfl rfl (hb hby d24_26)
  obtain ⟨c64, Arc64, Aqc64, Asc64, Anc64, Ahc64, Agc64⟩ := id V_r2
  have hin65 : ¬ ((2 : Int32) < 0 ∨ c64.slots.size ≤ ((2 : Int32)).toNatClampNeg) := inb_of Asc64 ⟨by decide, by decide⟩
  have hat66 : c64.slots[((2 : Int32)).toNatClampNeg]? = some (.int s2) := Has.at Ahc64 hin65 rfl
  obtain ⟨c67, Arc67, Aqc67, Asc67, Anc67, Ahc67, Agc67⟩ := id V2
  have hin68 : ¬ ((1 : Int32) < 0 ∨ c67.slots.size ≤ ((1 : Int32)).toNatClampNeg) := inb_of Asc67 ⟨by decide, by decide⟩
  have hat69 : c67.slots[((1 : Int32)).toNatClampNeg]? = some (.long w1) := Has.at Ahc67 hin68 rfl
  obtain ⟨T70, X70, e70, st70⟩ := getF X63 hx hZ hown (host := "") (Or.inl (ow hw 107 rfl)) Via.refl e63 F_r3 (g := (mkF m 42 #[Sr a1, Sr a2, Si (2 : Int32), Si p4, Si (1 : Int32), Sl ((((p4.toInt64) - (f2.toInt64)) &&& m2) <<< (s2 &&& 0x3f).toInt64), S2] [(.ref a1), (.long w1), (.int (1 : Int32)), (.ref a2)])) rfl rfl (hb hby d24_42)
  obtain ⟨c71, Arc71, Aqc71, Asc71, Anc71, Ahc71, Agc71⟩ := id V_r3
  have hin72 : ¬ ((2 : Int32) < 0 ∨ c71.slots.size ≤ ((2 : Int32)).toNatClampNeg) := inb_of Asc71 ⟨by decide, by decide⟩
  have hat73 : c71.slots[((2 : Int32)).toNatClampNeg]? = some (.long m2) := Has.at Ahc71 hin72 rfl
  obtain ⟨T74, X74, e74, st74⟩ := getF X70 hx hZ hown (host := "") (Or.inl (ow hw 104 rfl)) Via.refl e70 F_r2 (g := (mkF m 48 #[Sr a1, Sr a2, Si (2 : Int32), Si p4, Si (1 : Int32), Sl ((((p4.toInt64) - (f2.toInt64)) &&& m2) <<< (s2 &&& 0x3f).toInt64), S2] [(.ref a1), (.long m2), (.long w1), (.int (1 : Int32)), (.ref a2)])) rfl rfl (hb hby d24_48)
  obtain ⟨c75, Arc75, Aqc75, Asc75, Anc75, Ahc75, Agc75⟩ := id V_r2
  have hin76 : ¬ ((2 : Int32) < 0 ∨ c75.slots.size ≤ ((2 : Int32)).toNatClampNeg) := inb_of Asc75 ⟨by decide, by decide⟩
  have hat77 : c75.slots[((2 : Int32)).toNatClampNeg]? = some (.int s2) := Has.at Ahc75 hin76 rfl
  have pre78 : ∀ t, Steps p.tables e below (T74.setTop (mkF m 62 #[Sr a1, Sr a2, Si (2 : Int32), Si p4, Si (1 : Int32), Sl ((((p4.toInt64) - (f2.toInt64)) &&& m2) <<< (s2 &&& 0x3f).toInt64), S2] [(.long ((w1 &&& ((m2 <<< (s2 &&& 0x3f).toInt64) ^^^ (-1 : Int64))) ||| ((((p4.toInt64) - (f2.toInt64)) &&& m2) <<< (s2 &&& 0x3f).toInt64))), (.int (1 : Int32)), (.ref a2)])) t → Steps p.tables e below (s₁.setTop (entryFrame m #[(.ref a1), (.ref a2), (.int (2 : Int32)), (.int p4)] 7)) t := by
    intro t k
    refine pre0 t ?_
    refine XS.aloadN X0.here hx rfl (hb hby d24_0) rfl rfl ?_
    refine st51 _ ?_
    refine XS.iloadN X51.here hx rfl (hb hby d24_4) rfl ?_
    refine X51.iaload hx (j := (2 : Int32)) (v := (.int (1 : Int32))) (by rw [e51]; exact Arc52.1) (State.isArrayOf_alike hZ.alike Arc52.2.1) Arc52.2.2 hin53 hat54 (g := (mkF m 5 #[Sr a1, Sr a2, Si (2 : Int32), Si p4, Su, Su, Su] [(.int (2 : Int32)), (.ref r1)])) rfl rfl (hb hby d24_5) _ ?_
    refine XS.istore X51.here hx rfl (hb hby d24_6) rfl (l' := #[Sr a1, Sr a2, Si (2 : Int32), Si p4, Si (1 : Int32), Su, Su]) rfl ?_
    refine XS.iloadN X51.here hx rfl (hb hby d24_8) rfl ?_
    refine XS.i2l X51.here hx rfl (hb hby d24_9) rfl ?_
    refine XS.aloadN X51.here hx rfl (hb hby d24_10) rfl rfl ?_
    refine st55 _ ?_
    refine XS.iloadN X55.here hx rfl (hb hby d24_14) rfl ?_
    show Steps _ _ _ (T55.setTop (mkF m 15 #[Sr a1, Sr a2, Si (2 : Int32), Si p4, Si (1 : Int32), Su, Su] [(.int (2 : Int32)), (.ref r4), (.long (p4.toInt64))])) _
    refine X55.iaload hx (j := (2 : Int32)) (v := (.int f2)) (by rw [e55]; exact Arc56.1) (State.isArrayOf_alike hZ.alike Arc56.2.1) Arc56.2.2 hin57 hat58 (g := (mkF m 15 #[Sr a1, Sr a2, Si (2 : Int32), Si p4, Si (1 : Int32), Su, Su] [(.int (2 : Int32)), (.ref r4), (.long (p4.toInt64))])) rfl rfl (hb hby d24_15) _ ?_
    refine XS.i2l X55.here hx rfl (hb hby d24_16) rfl ?_
    refine XS.lsub X55.here hx rfl (hb hby d24_17) rfl ?_
    refine XS.aloadN X55.here hx rfl (hb hby d24_18) rfl rfl ?_
    refine st59 _ ?_
    refine XS.iloadN X59.here hx rfl (hb hby d24_22) rfl ?_
    refine X59.laload hx (j := (2 : Int32)) (v := (.long m2)) (by rw [e59]; exact Arc60.1) (State.isArrayOf_alike hZ.alike Arc60.2.1) Arc60.2.2 hin61 hat62 (g := (mkF m 23 #[Sr a1, Sr a2, Si (2 : Int32), Si p4, Si (1 : Int32), Su, Su] [(.int (2 : Int32)), (.ref r3), (.long ((p4.toInt64) - (f2.toInt64)))])) rfl rfl (hb hby d24_23) _ ?_
    refine XS.land X59.here hx rfl (hb hby d24_24) rfl ?_
    refine XS.aloadN X59.here hx rfl (hb hby d24_25) rfl rfl ?_
    refine st63 _ ?_
    show Steps _ _ _ (T63.setTop (mkF m 29 #[Sr a1, Sr a2, Si (2 : Int32), Si p4, Si (1 : Int32), Su, Su] [(.ref r2), (.long (((p4.toInt64) - (f2.toInt64)) &&& m2))])) _
    refine XS.iloadN X63.here hx rfl (hb hby d24_29) rfl ?_
    refine X63.iaload hx (j := (2 : Int32)) (v := (.int s2)) (by rw [e63]; exact Arc64.1) (State.isArrayOf_alike hZ.alike Arc64.2.1) Arc64.2.2 hin65 hat66 (g := (mkF m 30 #[Sr a1, Sr a2, Si (2 : Int32), Si p4, Si (1 : Int32), Su, Su] [(.int (2 : Int32)), (.ref r2), (.long (((p4.toInt64) - (f2.toInt64)) &&& m2))])) rfl rfl (hb hby d24_30) _ ?_
    refine XS.lshl X63.here hx rfl (hb hby d24_31) rfl ?_
    refine XS.lstore X63.here hx rfl (hb hby d24_32) rfl (l' := #[Sr a1, Sr a2, Si (2 : Int32), Si p4, Si (1 : Int32), Sl ((((p4.toInt64) - (f2.toInt64)) &&& m2) <<< (s2 &&& 0x3f).toInt64), S2]) rfl ?_
    refine XS.aloadN X63.here hx rfl (hb hby d24_34) rfl rfl ?_
    refine XS.iload X63.here hx rfl (hb hby d24_35) rfl ?_
    refine XS.aloadN X63.here hx rfl (hb hby d24_37) rfl rfl ?_
    refine XS.iload X63.here hx rfl (hb hby d24_38) rfl ?_
    refine X63.laload hx (j := (1 : Int32)) (v := (.long w1)) (by rw [e63]; exact Arc67.1) (State.isArrayOf_alike hZ.alike Arc67.2.1) Arc67.2.2 hin68 hat69 (g := (mkF m 40 #[Sr a1, Sr a2, Si (2 : Int32), Si p4, Si (1 : Int32), Sl ((((p4.toInt64) - (f2.toInt64)) &&& m2) <<< (s2 &&& 0x3f).toInt64), S2] [(.int (1 : Int32)), (.ref a2), (.int (1 : Int32)), (.ref a2)])) rfl rfl (hb hby d24_40) _ ?_
    refine XS.aloadN X63.here hx rfl (hb hby d24_41) rfl rfl ?_
    show Steps _ _ _ (T63.setTop (mkF m 42 #[Sr a1, Sr a2, Si (2 : Int32), Si p4, Si (1 : Int32), Sl ((((p4.toInt64) - (f2.toInt64)) &&& m2) <<< (s2 &&& 0x3f).toInt64), S2] [(.ref a1), (.long w1), (.int (1 : Int32)), (.ref a2)])) _
    refine st70 _ ?_
    refine XS.iloadN X70.here hx rfl (hb hby d24_45) rfl ?_
    refine X70.laload hx (j := (2 : Int32)) (v := (.long m2)) (by rw [e70]; exact Arc71.1) (State.isArrayOf_alike hZ.alike Arc71.2.1) Arc71.2.2 hin72 hat73 (g := (mkF m 46 #[Sr a1, Sr a2, Si (2 : Int32), Si p4, Si (1 : Int32), Sl ((((p4.toInt64) - (f2.toInt64)) &&& m2) <<< (s2 &&& 0x3f).toInt64), S2] [(.int (2 : Int32)), (.ref r3), (.long w1), (.int (1 : Int32)), (.ref a2)])) rfl rfl (hb hby d24_46) _ ?_
    refine XS.aloadN X70.here hx rfl (hb hby d24_47) rfl rfl ?_
    refine st74 _ ?_
    refine XS.iloadN X74.here hx rfl (hb hby d24_51) rfl ?_
    refine X74.iaload hx (j := (2 : Int32)) (v := (.int s2)) (by rw [e74]; exact Arc75.1) (State.isArrayOf_alike hZ.alike Arc75.2.1) Arc75.2.2 hin76 hat77 (g := (mkF m 52 #[Sr a1, Sr a2, Si (2 : Int32), Si p4, Si (1 : Int32), Sl ((((p4.toInt64) - (f2.toInt64)) &&& m2) <<< (s2 &&& 0x3f).toInt64), S2] [(.int (2 : Int32)), (.ref r2), (.long m2), (.long w1), (.int (1 : Int32)), (.ref a2)])) rfl rfl (hb hby d24_52) _ ?_
    refine XS.lshl X74.here hx rfl (hb hby d24_53) rfl ?_
    refine X74.ldc2Long hx hown (mvT hZ (ow hw 164 rfl)) (g := (mkF m 54 #[Sr a1, Sr a2, Si (2 : Int32), Si p4, Si (1 : Int32), Sl ((((p4.toInt64) - (f2.toInt64)) &&& m2) <<< (s2 &&& 0x3f).toInt64), S2] [(.long (m2 <<< (s2 &&& 0x3f).toInt64)), (.long w1), (.int (1 : Int32)), (.ref a2)])) rfl (hb hby d24_54) _ ?_
    refine XS.lxor X74.here hx rfl (hb hby d24_57) rfl ?_
    show Steps _ _ _ (T74.setTop (mkF m 58 #[Sr a1, Sr a2, Si (2 : Int32), Si p4, Si (1 : Int32), Sl ((((p4.toInt64) - (f2.toInt64)) &&& m2) <<< (s2 &&& 0x3f).toInt64), S2] [(.long ((m2 <<< (s2 &&& 0x3f).toInt64) ^^^ (-1 : Int64))), (.long w1), (.int (1 : Int32)), (.ref a2)])) _
    refine XS.land X74.here hx rfl (hb hby d24_58) rfl ?_
    refine XS.lload X74.here hx rfl (hb hby d24_59) rfl ?_
    refine XS.lor X74.here hx rfl (hb hby d24_61) rfl ?_
    exact k
  have pre79 : ∀ t, Steps p.tables e below (T74.setTop (mkF m 62 #[Sr a1, Sr a2, Si (2 : Int32), Si p4, Si (1 : Int32), Sl ((((p4.toInt64) - (f2.toInt64)) &&& m2) <<< (s2 &&& 0x3f).toInt64), S2] [(.long (own_upd w1 s2 m2 f2 p4)), (.int (1 : Int32)), (.ref a2)])) t → Steps p.tables e below (s₁.setTop (entryFrame m #[(.ref a1), (.ref a2), (.int (2 : Int32)), (.int p4)] 7)) t := pre78
  obtain ⟨c80, Arc80, Aqc80, Asc80, Anc80, Ahc80, Agc80⟩ := id V2
  have hin81 : ¬ ((1 : Int32) < 0 ∨ c80.slots.size ≤ ((1 : Int32)).toNatClampNeg) := inb_of Asc80 ⟨by decide, by decide⟩
  obtain ⟨T82, h82, X82, e82, W82, st82⟩ := stJ X74 hx hZ e74 Arc80 (j := (1 : Int32)) hin81 (g := (mkF m 62 #[Sr a1, Sr a2, Si (2 : Int32), Si p4, Si (1 : Int32), Sl ((((p4.toInt64) - (f2.toInt64)) &&& m2) <<< (s2 &&& 0x3f).toInt64), S2] [(.long (own_upd w1 s2 m2 f2 p4)), (.int (1 : Int32)), (.ref a2)])) rfl rfl (hb hby d24_62)
  have KC83 : Keep h0 h82 [a2] := (Keep.refl h0 [a2]).wr W82 (Or.inl (List.mem_of_getElem? (i := 0) rfl))
  have V82 : Arv Z h82 a2 k2 .long (3 : Int32) [(.long w0), (.long (own_upd w1 s2 m2 f2 p4)), (.long w2)] (.long (0 : Int64)) := Arv.set Arc80 Aqc80 Asc80 Anc80 Ahc80 Agc80 rfl W82 1 rfl (Nat.le_of_ble_eq_true rfl)
  have N84 := Fr.snoc X82 N0 g2
  have pre85 : ∀ t, Steps p.tables e below (T82.setTop (mkF m 63 #[Sr a1, Sr a2, Si (2 : Int32), Si p4, Si (1 : Int32), Sl ((((p4.toInt64) - (f2.toInt64)) &&& m2) <<< (s2 &&& 0x3f).toInt64), S2] [])) t → Steps p.tables e below (s₁.setTop (entryFrame m #[(.ref a1), (.ref a2), (.int (2 : Int32)), (.int p4)] 7)) t := by
    intro t k
    refine pre79 t ?_
    refine st82 _ ?_
    exact k
  obtain ⟨fs, hr, hrun, hended, hW, hsame⟩ := X82.leave (v := none) (fun _ => rfl)
  refine ⟨_, _, pre85 _ ?_, hrun, hended, _, _, rfl, ?_, ⟨_, rfl⟩, hW, hsame.mono (by decide) (by decide)⟩
  · exact X82.returnOut hx Bd.returns (hb hby d24_63) hr
  · show Q_rm_set2B Z a1 a2 p4 r1 r2 r3 r4 c1 c2 c3 c4 s0 s1 s2 m0 m1 m2 f0 f1 f2 k2 w0 w1 w2 h0 n0 _ T82.heap _
    rw [e82]
    exact ⟨rfl, N84, KC83, V82⟩
theorem d2_0 : decode jdk_29_method_69_code 0 = .ok (.iload_n 0, 1) := by decide +kernel
theorem d2_1 : decode jdk_29_method_69_code 1 = .ok (.iload_n 1, 1) := by decide +kernel
theorem d2_2 : decode jdk_29_method_69_code 2 = .ok (.if_icmp .gt 7, 3) := by decide +kernel
theorem d2_9 : decode jdk_29_method_69_code 9 = .ok (.iload_n 1, 1) := by decide +kernel
theorem d2_5 : decode jdk_29_method_69_code 5 = .ok (.iload_n 0, 1) := by decide +kernel
theorem d2_6 : decode jdk_29_method_69_code 6 = .ok (.goto 4, 3) := by decide +kernel
theorem d2_10 : decode jdk_29_method_69_code 10 = .ok (.ireturn, 1) := by decide +kernel
def own_min (p1 : Int32) (p2 : Int32) : Int32 := (if p2 < p1 then p2 else p1)
theorem ef_rm2 (m : MethodId) (x0 : Int32) (x1 : Int32) : entryFrame m #[(.int x0), (.int x1)] 2 = mkF m 0 #[Si x0, Si x1] [] := by first | (simp [entryFrame, mkF, argsToLocals, Value.category]; done) | rfl
def Q_rm2 (Z : State) (p1 : Int32) (p2 : Int32) (h0 : Heap) (n0 : Nat) (v : Option Value) (h : Heap) (L : List Loc) : Prop := v = some (.int (own_min p1 p2)) ∧ Fr n0 L ∧ h = h0
set_option maxRecDepth 65536 in
set_option maxHeartbeats 40000000 in
theorem rm2 (l : Launch) (Z : State) (a0 : Array Value) (hw : ∀ d ∈ tables_1, d.before a0 Z = true) (ws : List Jvm.Cond) (p1 : Int32) (p2 : Int32) (h0 : Heap) (n0 : Nat) (Z0 : n0 ≤ h0.size) :
    MetFree l (⟨"java/lang/Math", "min", "(II)I"⟩ : MethodName) (head1 (Jvm.Cond.code (⟨"java/lang/Math", "min", "(II)I"⟩ : MethodName) jdk_29_method_69_code 2 (some .int) :: ws) ({ frames := 0, cells := 0, slots := 0, locals := 0 } : Room)) (fun a U => a = #[(.int p1), (.int p2)] ∧ Z.Warmed39 U.vm ∧ U.heap = h0) (fun _ _ _ _ _ => True) (fun _ U o U' => ∃ v L, o = .returned v ∧ Q_rm2 Z p1 p2 h0 n0 v U'.heap L ∧ FrameEnd U o U' L ({ frames := 0, cells := 0, slots := 0, locals := 0 } : Room).cells ({ frames := 0, cells := 0, slots := 0, locals := 0 } : Room).slots) := by
  refine MetFree.of_bodySF (Jvm.Free.JP.mathPlain rfl (by decide +kernel)) hisR ?_
  intro p e s m args below meth c s₁ Bd hml0 hP hK
  obtain ⟨rfl, hZ, hh⟩ := hP
  have hx := Bd.exec
  have hby := Bd.bytes
  have hml : c.maxLocals = 2 := hml0
  have hown : s.vm.findClass "java/lang/Math" = some m.cls := findClass_of_methodNamed Bd.named
  have hnm := (name_of_methodNamed Bd.named Bd.method).1
  have X0 : Stand p l e ({ frames := 0, cells := 0, slots := 0, locals := 0 } : Room) s m #[(.int p1), (.int p2)] below meth c s₁ [] 0 0 := Stand.of_body Bd
  have e0 : s₁.heap = h0 := by rw [← hh, Bd.state]; rfl
  have N0 := Fr.nil n0
  have pre0 : ∀ t, Steps p.tables e below (s₁.setTop (mkF m 0 #[Si p1, Si p2] [])) t → Steps p.tables e below (s₁.setTop (entryFrame m #[(.int p1), (.int p2)] 2)) t := fun t k => castTop (ef_rm2 m p1 p2) k
  have pre53 : ∀ t, Steps p.tables e below (s₁.setTop (mkF m 10 #[Si p1, Si p2] [(.int (if p2 < p1 then p2 else p1))])) t → Steps p.tables e below (s₁.setTop (entryFrame m #[(.int p1), (.int p2)] 2)) t := by
    intro t k
    refine pre0 t ?_
    refine XS.iloadN X0.here hx rfl (hb hby d2_0) rfl ?_
    refine XS.iloadN X0.here hx rfl (hb hby d2_1) rfl ?_
    by_cases hc51 : p2 < p1
    · simp only [if_pos hc51] at k
      refine XS.icmpYes X0.here hx rfl (pc0 := 2) (pc' := 9) rfl (hb hby d2_2) rfl (tlt hc51).2.2.1 (by decide) (by decide) ?_
      refine XS.iloadN X0.here hx rfl (hb hby d2_9) rfl ?_
      exact k
    · simp only [if_neg hc51] at k
      refine XS.icmpNo X0.here hx rfl (hb hby d2_2) rfl (flt hc51).2.2.1 ?_
      refine XS.iloadN X0.here hx rfl (hb hby d2_5) rfl ?_
      refine XS.goto X0.here hx rfl (pc0 := 6) (pc' := 10) rfl (hb hby d2_6) (by decide) (by decide) ?_
      exact k
  obtain ⟨z52, hz52⟩ : ∃ z : Int32, z = (if p2 < p1 then p2 else p1) := ⟨_, rfl⟩
  rw [← hz52] at pre53
  obtain ⟨fs, hr, hrun, hended, hW, hsame⟩ := X0.leave (v := some (.int z52)) (fun h => by rw [Bd.returns] at h; cases h)
  refine ⟨_, _, pre53 _ ?_, hrun, hended, _, _, rfl, ?_, ⟨_, rfl⟩, hW, hsame.mono (by decide) (by decide)⟩
  · exact retI X0 hx Bd.returns (hb hby d2_10) hr
  · show Q_rm2 Z p1 p2 h0 n0 _ s₁.heap _
    rw [e0]
    have hvA : z52 = (own_min p1 p2) := by
      subst hz52
      rfl
    have hv54 : z52 = (own_min p1 p2) := hvA
    exact ⟨(congrArg (fun z => some (Value.int z)) hv54), N0, rfl⟩
/-! the plain law of fields of bits -/
def own_fld (w : Int64) (s : Int32) (m : Int64) : Int64 := (((w.toUInt64 >>> (s &&& 0x3f).toInt64.toUInt64).toInt64) &&& m)
theorem own_nat32 (s : Int32) (h : 0 ≤ s.toInt) : (s.toBitVec.toNat : Int) = s.toInt := by
  have q : s.toBitVec.toInt = s.toInt := rfl
  have l := s.toBitVec.isLt
  rw [BitVec.toInt_eq_toNat_cond] at q
  split at q <;> omega
theorem own_nat64 (s : Int64) (h : 0 ≤ s.toInt) : (s.toBitVec.toNat : Int) = s.toInt := by
  have q : s.toBitVec.toInt = s.toInt := rfl
  have l := s.toBitVec.isLt
  rw [BitVec.toInt_eq_toNat_cond] at q
  split at q <;> omega
theorem own_shl (x : Int64) (q : Int32) (k : Nat) (hk : q.toBitVec.toNat % 64 = k) : (x <<< (q &&& 0x3f).toInt64).toBitVec = x.toBitVec <<< k := by
  show (x.toBitVec <<< ((q &&& 0x3f).toInt64.toBitVec.smod 64)) = _
  rw [BitVec.shiftLeft_eq', (sm64 q k hk).1, smod64 k (sm64 q k hk).2]
theorem own_shr (x : Int64) (q : Int32) (k : Nat) (hk : q.toBitVec.toNat % 64 = k) : ((x.toUInt64 >>> (q &&& 0x3f).toInt64.toUInt64).toInt64).toBitVec = x.toBitVec >>> k := by
  show x.toBitVec >>> ((q &&& 0x3f).toInt64.toBitVec % 64) = _
  have h5 := (sm64 q k hk).2
  rw [BitVec.ushiftRight_eq', BitVec.toNat_umod, (sm64 q k hk).1, BitVec.toNat_ofNat]; congr 1; show k % 2 ^ 64 % 64 = k; omega
/-- a mask of k bits -/
def own_isM (m : Int64) (k : Nat) : Prop := m.toBitVec.toNat = 2 ^ k - 1
theorem own_mbit {m : Int64} {k : Nat} (h : own_isM m k) (i : Nat) : m.toBitVec.getLsbD i = decide (i < k) := by
  show m.toBitVec.toNat.testBit i = _
  rw [h]; exact Nat.testBit_two_pow_sub_one k i
theorem own_fbit {w : Int64} {s : Int32} {m : Int64} {k n : Nat} (hs : s.toBitVec.toNat = n) (hn : n < 64) (hm : own_isM m k) (i : Nat) : (own_fld w s m).toBitVec.getLsbD i = (w.toBitVec.getLsbD (n + i) && decide (i < k)) := by
  unfold own_fld
  rw [Int64.toBitVec_and, own_shr w s n (by omega), BitVec.getLsbD_and, BitVec.getLsbD_ushiftRight, own_mbit hm]
theorem own_ubit {w : Int64} {s : Int32} {m : Int64} {k n : Nat} {f v : Int32} (hs : s.toBitVec.toNat = n) (hn : n + k ≤ 64) (hn' : n < 64) (hm : own_isM m k) (i : Nat) (hi : i < 64) :
    (own_upd w s m f v).toBitVec.getLsbD i = if n ≤ i ∧ i < n + k then (v.toInt64 - f.toInt64).toBitVec.getLsbD (i - n) else w.toBitVec.getLsbD i := by
  unfold own_upd
  rw [Int64.toBitVec_or, Int64.toBitVec_and, Int64.toBitVec_xor, own_shl _ s n (by omega), own_shl _ s n (by omega), Int64.toBitVec_and]
  have m1 : (-1 : Int64).toBitVec = BitVec.allOnes 64 := by decide
  simp only [BitVec.getLsbD_or, BitVec.getLsbD_and, BitVec.getLsbD_xor, BitVec.getLsbD_shiftLeft, m1, BitVec.getLsbD_allOnes, own_mbit hm, hi, decide_true, Bool.true_and]
  by_cases h1 : i < n
  · rw [if_neg (by omega)]; simp [h1]
  · by_cases h2 : i < n + k
    · rw [if_pos (by omega)]
      have : i - n < k := by omega
      simp [h1, this]
    · rw [if_neg (by omega)]
      have : ¬ i - n < k := by omega
      simp [h1, this]
theorem own_ext {a b : Int64} (h : ∀ i, i < 64 → a.toBitVec.getLsbD i = b.toBitVec.getLsbD i) : a = b :=
  Int64.toBitVec_inj.mp (BitVec.eq_of_getLsbD_eq fun i hi => h i hi)
/-- what was set is read -/
theorem own_fu {w : Int64} {s : Int32} {m : Int64} {k n : Nat} {f v : Int32} (hs : s.toBitVec.toNat = n) (hn : n + k ≤ 64) (hn' : n < 64) (hm : own_isM m k) : own_fld (own_upd w s m f v) s m = ((v.toInt64 - f.toInt64) &&& m) := by
  apply own_ext; intro i hi
  rw [own_fbit hs hn' hm, Int64.toBitVec_and, BitVec.getLsbD_and, own_mbit hm]
  by_cases h : i < k
  · rw [own_ubit hs hn hn' hm _ (by omega), if_pos (by omega)]; congr 2; omega
  · simp [h]
/-- another field is as it was -/
theorem own_fo {w : Int64} {s s' : Int32} {m m' : Int64} {k n k' n' : Nat} {f v : Int32} (hs : s.toBitVec.toNat = n) (hn : n + k ≤ 64) (hn1 : n < 64) (hm : own_isM m k) (hs' : s'.toBitVec.toNat = n') (hn' : n' + k' ≤ 64) (hn1' : n' < 64) (hm' : own_isM m' k') (hd : n' + k' ≤ n ∨ n + k ≤ n') : own_fld (own_upd w s m f v) s' m' = own_fld w s' m' := by
  apply own_ext; intro i hi
  rw [own_fbit hs' hn1' hm', own_fbit hs' hn1' hm']
  by_cases h : i < k'
  · rw [own_ubit hs hn hn1 hm _ (by omega), if_neg (by omega)]
  · simp [h]
/-- set back -/
theorem own_uu {w : Int64} {s : Int32} {m : Int64} {k n : Nat} {f v v' : Int32} (hs : s.toBitVec.toNat = n) (hn : n + k ≤ 64) (hn' : n < 64) (hm : own_isM m k) (hv : ((v'.toInt64 - f.toInt64) &&& m) = own_fld w s m) : own_upd (own_upd w s m f v) s m f v' = w := by
  apply own_ext; intro i hi
  rw [own_ubit hs hn hn' hm _ hi]
  by_cases h : n ≤ i ∧ i < n + k
  · rw [if_pos h]
    have q := congrArg (fun z : Int64 => z.toBitVec.getLsbD (i - n)) hv
    simp only [Int64.toBitVec_and, BitVec.getLsbD_and, own_mbit hm, own_fbit hs hn' hm] at q
    have h1 : i - n < k := by omega
    rw [show n + (i - n) = i by omega] at q
    simpa [h1] using q
  · rw [if_neg h, own_ubit hs hn hn' hm _ hi, if_neg h]
/-- the lowest bit -/
theorem own_low {w : Int64} {s : Int32} {m : Int64} {k n : Nat} {f v : Int32} (hs : s.toBitVec.toNat = n) (hn : n + k ≤ 64) (hn' : n < 64) (hm : own_isM m k) (h1 : 1 ≤ n) : (own_upd (w ||| (1 : Int64)) s m f v &&& (1 : Int64)) = (1 : Int64) := by
  apply own_ext; intro i hi
  have e1 : ∀ j, (1 : Int64).toBitVec.getLsbD j = decide (j = 0) := fun j => by
    rw [show (1 : Int64).toBitVec = 1#64 from rfl, BitVec.getLsbD_one]; simp
  rw [Int64.toBitVec_and, BitVec.getLsbD_and, e1]
  by_cases h : i = 0
  · subst h
    rw [own_ubit hs hn hn' hm _ hi, if_neg (by omega), Int64.toBitVec_or, BitVec.getLsbD_or, e1]; simp
  · simp [h]

/-! the plain law of the bits of a type -/
theorem own_usI (x k : Int32) (n : Nat) (hk : k.toBitVec.toNat % 32 = n) (h0 : 0 < n) (hx : 0 ≤ x.toInt) : (own_us x k).toInt = x.toInt / (2 ^ n : Nat) := by
  have u := c_iushr x k n hk h0
  have r := rng32 x
  rw [show x.toInt % 4294967296 = x.toInt by omega] at u
  exact u
theorem own_d2 (x : Int) (K k : Nat) : x / 2 ^ (K + k) = x / 2 ^ K / 2 ^ k := by
  rw [Int.pow_add, Int.ediv_ediv_of_nonneg (Int.le_of_lt (Int.pow_pos (by decide)))]
theorem own_st16 (x : Int) (X n : Int32) (K : Nat) (h : x / 2 ^ K = X.toInt) (h0 : 0 < X.toInt) (hn : n.toInt = 31 - K) (hK : K ≤ 31) (n' : Int32) (hn' : n'.toInt = n.toInt - 16) : ∃ K' : Nat, K' ≤ K + 16 ∧ x / 2 ^ K' = (if X < (65536 : Int32) then X else own_us X 16).toInt ∧ 0 < (if X < (65536 : Int32) then X else own_us X 16).toInt ∧ (if X < (65536 : Int32) then X else own_us X 16).toInt < 65536 ∧ (if X < (65536 : Int32) then n else n').toInt = 31 - K' := by
  have l : (65536 : Int32).toInt = 65536 := rfl
  have r := rng32 X
  by_cases c : X < (65536 : Int32)
  · rw [if_pos c, if_pos c]; rw [Int32.lt_iff_toInt_lt] at c; exact ⟨K, by omega, h, h0, by omega, hn⟩
  · rw [if_neg c, if_neg c]; rw [Int32.lt_iff_toInt_lt] at c
    have u := own_usI X 16 16 (by decide) (by decide) (by omega)
    simp only [Nat.reducePow] at u
    refine ⟨K + 16, by omega, by rw [own_d2, h, u]; rfl, by omega, by omega, by omega⟩
theorem own_st8 (x : Int) (X n : Int32) (K : Nat) (h : x / 2 ^ K = X.toInt) (h0 : 0 < X.toInt) (hu : X.toInt < 65536) (hn : n.toInt = 31 - K) (hK : K ≤ 100) : ∃ K' : Nat, K' ≤ K + 8 ∧ x / 2 ^ K' = (if X < (256 : Int32) then X else own_us X 8).toInt ∧ 0 < (if X < (256 : Int32) then X else own_us X 8).toInt ∧ (if X < (256 : Int32) then X else own_us X 8).toInt < 256 ∧ (if X < (256 : Int32) then n else (n + (-8 : Int32))).toInt = 31 - K' := by
  have l : (256 : Int32).toInt = 256 := rfl
  have lm : (-8 : Int32).toInt = -8 := rfl
  by_cases c : X < (256 : Int32)
  · rw [if_pos c, if_pos c]; rw [Int32.lt_iff_toInt_lt] at c; exact ⟨K, by omega, h, h0, by omega, hn⟩
  · rw [if_neg c, if_neg c]; rw [Int32.lt_iff_toInt_lt] at c
    have u := own_usI X 8 8 (by decide) (by decide) (by omega)
    simp only [Nat.reducePow] at u
    have a := c_iadd n (-8)
    have ra := rng32 (n + (-8 : Int32))
    have rn := rng32 n
    refine ⟨K + 8, by omega, by rw [own_d2, h, u]; rfl, by omega, by omega, by omega⟩
theorem own_st4 (x : Int) (X n : Int32) (K : Nat) (h : x / 2 ^ K = X.toInt) (h0 : 0 < X.toInt) (hu : X.toInt < 256) (hn : n.toInt = 31 - K) (hK : K ≤ 100) : ∃ K' : Nat, K' ≤ K + 4 ∧ x / 2 ^ K' = (if X < (16 : Int32) then X else own_us X 4).toInt ∧ 0 < (if X < (16 : Int32) then X else own_us X 4).toInt ∧ (if X < (16 : Int32) then X else own_us X 4).toInt < 16 ∧ (if X < (16 : Int32) then n else (n + (-4 : Int32))).toInt = 31 - K' := by
  have l : (16 : Int32).toInt = 16 := rfl
  have lm : (-4 : Int32).toInt = -4 := rfl
  by_cases c : X < (16 : Int32)
  · rw [if_pos c, if_pos c]; rw [Int32.lt_iff_toInt_lt] at c; exact ⟨K, by omega, h, h0, by omega, hn⟩
  · rw [if_neg c, if_neg c]; rw [Int32.lt_iff_toInt_lt] at c
    have u := own_usI X 4 4 (by decide) (by decide) (by omega)
    simp only [Nat.reducePow] at u
    have a := c_iadd n (-4)
    have ra := rng32 (n + (-4 : Int32))
    have rn := rng32 n
    refine ⟨K + 4, by omega, by rw [own_d2, h, u]; rfl, by omega, by omega, by omega⟩
theorem own_st2 (x : Int) (X n : Int32) (K : Nat) (h : x / 2 ^ K = X.toInt) (h0 : 0 < X.toInt) (hu : X.toInt < 16) (hn : n.toInt = 31 - K) (hK : K ≤ 100) : ∃ K' : Nat, K' ≤ K + 2 ∧ x / 2 ^ K' = (if X < (4 : Int32) then X else own_us X 2).toInt ∧ 0 < (if X < (4 : Int32) then X else own_us X 2).toInt ∧ (if X < (4 : Int32) then X else own_us X 2).toInt < 4 ∧ (if X < (4 : Int32) then n else (n + (-2 : Int32))).toInt = 31 - K' := by
  have l : (4 : Int32).toInt = 4 := rfl
  have lm : (-2 : Int32).toInt = -2 := rfl
  by_cases c : X < (4 : Int32)
  · rw [if_pos c, if_pos c]; rw [Int32.lt_iff_toInt_lt] at c; exact ⟨K, by omega, h, h0, by omega, hn⟩
  · rw [if_neg c, if_neg c]; rw [Int32.lt_iff_toInt_lt] at c
    have u := own_usI X 2 2 (by decide) (by decide) (by omega)
    simp only [Nat.reducePow] at u
    have a := c_iadd n (-2)
    have ra := rng32 (n + (-2 : Int32))
    have rn := rng32 n
    refine ⟨K + 2, by omega, by rw [own_d2, h, u]; rfl, by omega, by omega, by omega⟩
theorem own_nlzB (x : Int32) (h : 0 < x.toInt) : ∃ b : Nat, b ≤ 31 ∧ ((32 : Int32) - own_nlz x).toInt = b ∧ x.toInt < 2 ^ b := by
  have l0 : (0 : Int32).toInt = 0 := rfl
  have rx := rng32 x
  obtain ⟨K1, a0, a1, a2, a3, a4⟩ := own_st16 x.toInt x 31 0 (by simp) h rfl (by decide) 15 rfl
  obtain ⟨K2, b0, b1, b2, b3, b4⟩ := own_st8 x.toInt (own_x1 x) (own_n1 x) K1 a1 a2 a3 a4 (by omega)
  obtain ⟨K3, c0, c1, c2, c3, c4⟩ := own_st4 x.toInt (own_x2 x) (own_n2 x) K2 b1 b2 b3 b4 (by omega)
  obtain ⟨K4, d0, d1, d2, d3, d4⟩ := own_st2 x.toInt (own_x3 x) (own_n3 x) K3 c1 c2 c3 c4 (by omega)
  have e1 : x.toInt / 2 ^ K4 = (own_x4 x).toInt := d1
  have e2 : 0 < (own_x4 x).toInt := d2
  have e3 : (own_x4 x).toInt < 4 := d3
  have e4 : (own_n4 x).toInt = 31 - K4 := d4
  have P : (0 : Int) < 2 ^ K4 := Int.pow_pos (by decide)
  have m1 := Int.emod_add_mul_ediv x.toInt (2 ^ K4)
  have m2 := Int.emod_nonneg x.toInt (show (2 : Int) ^ K4 ≠ 0 by omega)
  have m3 := Int.emod_lt_of_pos x.toInt P
  rw [e1] at m1
  have u := own_usI (own_x4 x) 1 1 (by decide) (by decide) (by omega)
  simp only [Nat.reducePow] at u
  have s1 := c_isub (own_n4 x) (own_us (own_x4 x) 1)
  have r1 := rng32 (own_n4 x - own_us (own_x4 x) 1)
  have s2 := c_isub 32 (own_n4 x - own_us (own_x4 x) 1)
  have r2 := rng32 ((32 : Int32) - (own_n4 x - own_us (own_x4 x) 1))
  have r3 := rng32 (own_n4 x)
  have l32 : (32 : Int32).toInt = 32 := rfl
  have hp : (0 : Int32) < x := by rw [Int32.lt_iff_toInt_lt]; omega
  unfold own_nlz
  rw [if_pos hp]
  have K30 : K4 ≤ 30 := by
    by_cases q : K4 ≤ 30
    · exact q
    · exfalso
      have : (2 : Int) ^ 31 ≤ 2 ^ K4 := by exact_mod_cast Nat.pow_le_pow_right (by decide : 0 < 2) (by omega : 31 ≤ K4)
      have : 2 ^ K4 * 1 ≤ 2 ^ K4 * (own_x4 x).toInt := Int.mul_le_mul_of_nonneg_left (by omega) (by omega)
      omega
  by_cases hx4 : (own_x4 x).toInt = 1
  · refine ⟨K4 + 1, by omega, by omega, ?_⟩
    rw [hx4] at m1
    rw [Int.pow_succ]; omega
  · have K29 : K4 ≤ 29 := by
      by_cases q : K4 ≤ 29
      · exact q
      · exfalso
        have e : K4 = 30 := by omega
        subst e
        have : (2 : Int) ^ 30 * 2 ≤ 2 ^ 30 * (own_x4 x).toInt := Int.mul_le_mul_of_nonneg_left (by omega) (by omega)
        omega
    refine ⟨K4 + 2, by omega, by omega, ?_⟩
    have : (2 : Int) ^ K4 * (own_x4 x).toInt ≤ 2 ^ K4 * 3 := Int.mul_le_mul_of_nonneg_left (by omega) (by omega)
    rw [show K4 + 2 = (K4 + 1) + 1 from rfl, Int.pow_succ, Int.pow_succ]; omega
theorem own_bitsB (z : Int32) (h : 1 ≤ z.toInt) : ∃ b : Nat, b ≤ 31 ∧ (own_bits z).toInt = b ∧ z.toInt ≤ 2 ^ b := by
  have s := c_isub z 1
  have r := rng32 (z - 1)
  have rz := rng32 z
  have l1 : (1 : Int32).toInt = 1 := rfl
  have e : (z - 1).toInt = z.toInt - 1 := by omega
  unfold own_bits
  by_cases q : z.toInt = 1
  · have e0 : z - 1 = 0 := Int32.toInt_inj.mp (by rw [e]; show _ = (0 : Int); omega)
    refine ⟨0, by decide, ?_, by omega⟩
    rw [e0]; rfl
  · obtain ⟨b, h1, h2, h3⟩ := own_nlzB (z - 1) (by omega)
    exact ⟨b, h1, h2, by omega⟩
theorem own_mskM (z : Int32) (b : Nat) (hb : b ≤ 31) (h : (own_bits z).toInt = b) : own_isM (own_msk z) b := by
  have n := own_nat32 (own_bits z) (by omega)
  have s := c_lshl 1 (own_bits z) b (by omega)
  have r := rng64 ((1 : Int64) <<< ((own_bits z) &&& 0x3f).toInt64)
  have l1 : (1 : Int64).toInt = 1 := rfl
  have p1 : (2 ^ b : Nat) ≤ 2 ^ 31 := Nat.pow_le_pow_right (by decide) hb
  have p0 : 0 < (2 ^ b : Nat) := Nat.pow_pos (by decide)
  rw [l1] at s
  have e : ((1 : Int64) <<< ((own_bits z) &&& 0x3f).toInt64).toInt = ((2 ^ b : Nat) : Int) := by omega
  have d := c_lsub ((1 : Int64) <<< ((own_bits z) &&& 0x3f).toInt64) 1
  have rd := rng64 (((1 : Int64) <<< ((own_bits z) &&& 0x3f).toInt64) - 1)
  have em : (own_msk z).toInt = ((2 ^ b : Nat) : Int) - 1 := by unfold own_msk; omega
  have nm := own_nat64 (own_msk z) (by omega)
  unfold own_isM
  omega
theorem own_andM {m : Int64} {b : Nat} (hm : own_isM m b) (hb : b ≤ 31) (d : Int64) (h0 : 0 ≤ d.toInt) (h1 : d.toInt < 2 ^ b) : (d &&& m) = d := by
  apply own_ext; intro i hi
  rw [Int64.toBitVec_and, BitVec.getLsbD_and, own_mbit hm]
  by_cases h : i < b
  · simp [h]
  · have n := own_nat64 d h0
    have : d.toBitVec.getLsbD i = false := by
      show d.toBitVec.toNat.testBit i = false
      apply Nat.testBit_lt_two_pow
      have q : (2 : Nat) ^ b ≤ 2 ^ i := Nat.pow_le_pow_right (by decide) (by omega)
      have : ((2 ^ b : Nat) : Int) = 2 ^ b := by simp
      omega
    simp [this, h]
theorem own_fldB {w : Int64} {s : Int32} {m : Int64} {b : Nat} (hm : own_isM m b) (hb : b ≤ 31) : 0 ≤ (own_fld w s m).toInt ∧ (own_fld w s m).toInt < 2 ^ b := by
  unfold own_fld
  generalize ((w.toUInt64 >>> (s &&& 0x3f).toInt64.toUInt64).toInt64) = x
  have := c_maskL x m b (by omega) hm
  have p0 : (0 : Int) < 2 ^ b := Int.pow_pos (by decide)
  have e : ((2 ^ b : Nat) : Int) = 2 ^ b := by simp
  rw [this, e]
  exact ⟨Int.emod_nonneg _ (by omega), Int.emod_lt_of_pos _ p0⟩
theorem own_val {m : Int64} {b : Nat} (hm : own_isM m b) (hb : b ≤ 31) (lo v : Int32) (h0 : 0 ≤ v.toInt - lo.toInt) (h1 : v.toInt - lo.toInt < 2 ^ b) : ((lo + (0 : Int32)) + (((v.toInt64 - (lo + (0 : Int32)).toInt64) &&& m).toInt32)) = v := by
  rw [Int32.add_zero]
  have a := c_i2l v
  have c := c_i2l lo
  have d := c_lsub v.toInt64 lo.toInt64
  have rd := rng64 (v.toInt64 - lo.toInt64)
  have rv := rng32 v
  have rl := rng32 lo
  have e : (v.toInt64 - lo.toInt64).toInt = v.toInt - lo.toInt := by omega
  rw [own_andM hm hb _ (by omega) (by omega)]
  have l := c_l2i (v.toInt64 - lo.toInt64)
  have s := c_iadd lo (v.toInt64 - lo.toInt64).toInt32
  have rs := rng32 (lo + (v.toInt64 - lo.toInt64).toInt32)
  apply Int32.toInt_inj.mp
  omega
theorem own_back {m F : Int64} {b : Nat} (hm : own_isM m b) (hb : b ≤ 31) (lo : Int32) (hF0 : 0 ≤ F.toInt) (hF1 : F.toInt < 2 ^ b) (h0 : ¬ ((((lo + (0 : Int32)) + F.toInt32).toInt64) - (lo.toInt64)) < (0 : Int64)) : ((((lo + (0 : Int32)) + F.toInt32).toInt64 - (lo + (0 : Int32)).toInt64) &&& m) = F := by
  rw [Int32.add_zero] at h0 ⊢
  have l := c_l2i F
  have rF := rng32 F.toInt32
  have p1 : (2 ^ b : Nat) ≤ 2 ^ 31 := Nat.pow_le_pow_right (by decide) hb
  have e2 : ((2 ^ b : Nat) : Int) = 2 ^ b := by simp
  have s := c_iadd lo F.toInt32
  have rs := rng32 (lo + F.toInt32)
  have rl := rng32 lo
  have a := c_i2l (lo + F.toInt32)
  have c := c_i2l lo
  have d := c_lsub (lo + F.toInt32).toInt64 lo.toInt64
  have rd := rng64 ((lo + F.toInt32).toInt64 - lo.toInt64)
  have l0 : (0 : Int64).toInt = 0 := rfl
  rw [Int64.lt_iff_toInt_lt] at h0
  have e : ((lo + F.toInt32).toInt64 - lo.toInt64) = F := Int64.toInt_inj.mp (by omega)
  rw [e]
  exact own_andM hm hb F hF0 hF1
/-! the ranges -/
theorem own_rng (lo z : Int32) (hz : 1 ≤ z.toInt) (hl : lo.toInt + z.toInt - 1 ≤ 2147483647) : ¬ (lo + (z - (1 : Int32))) < lo ∧ ¬ (2147483647 : Int64) < (((lo + (z - (1 : Int32))).toInt64 - lo.toInt64) + (1 : Int64)) ∧ own_size lo (lo + (z - (1 : Int32))) = z := by
  have a := c_isub z 1
  have ra := rng32 (z - 1)
  have rz := rng32 z
  have rl := rng32 lo
  have l1 : (1 : Int32).toInt = 1 := rfl
  have L1 : (1 : Int64).toInt = 1 := rfl
  have LM : (2147483647 : Int64).toInt = 2147483647 := rfl
  have b := c_iadd lo (z - 1)
  have rb := rng32 (lo + (z - 1))
  have e : (lo + (z - 1)).toInt = lo.toInt + z.toInt - 1 := by omega
  have c := c_i2l (lo + (z - 1))
  have d := c_i2l lo
  have f := c_lsub (lo + (z - 1)).toInt64 lo.toInt64
  have rf := rng64 ((lo + (z - 1)).toInt64 - lo.toInt64)
  have g := c_ladd ((lo + (z - 1)).toInt64 - lo.toInt64) 1
  have rg := rng64 (((lo + (z - 1)).toInt64 - lo.toInt64) + 1)
  have h := c_l2i (((lo + (z - 1)).toInt64 - lo.toInt64) + 1)
  have rh := rng32 (((lo + (z - 1)).toInt64 - lo.toInt64) + 1).toInt32
  refine ⟨?_, ?_, ?_⟩
  · rw [Int32.lt_iff_toInt_lt]; omega
  · rw [Int64.lt_iff_toInt_lt]; omega
  · unfold own_size; apply Int32.toInt_inj.mp; omega
/-- where the fields lie -/
theorem own_geo (z0 z1 z2 : Int32) (h0 : 1 ≤ z0.toInt) (h1 : 1 ≤ z1.toInt) (h2 : 1 ≤ z2.toInt) : ∃ b0 b1 b2 : Nat, b0 ≤ 31 ∧ b1 ≤ 31 ∧ b2 ≤ 31 ∧ own_isM (own_msk z0) b0 ∧ own_isM (own_msk z1) b1 ∧ own_isM (own_msk z2) b2 ∧ z0.toInt ≤ 2 ^ b0 ∧ z1.toInt ≤ 2 ^ b1 ∧ z2.toInt ≤ 2 ^ b2 ∧
    ((1 : Int32) + own_bits z0).toBitVec.toNat = 1 + b0 ∧ (((1 : Int32) + own_bits z0) + own_bits z1).toBitVec.toNat = 1 + b0 + b1 ∧ (¬ (64 : Int32) < ((((1 : Int32) + own_bits z0) + own_bits z1) + own_bits z2) → 1 + b0 + b1 + b2 ≤ 64) ∧ ¬ (64 : Int32) < ((1 : Int32) + own_bits z0) ∧ ¬ (64 : Int32) < (((1 : Int32) + own_bits z0) + own_bits z1) := by
  obtain ⟨b0, p0, q0, r0⟩ := own_bitsB z0 h0
  obtain ⟨b1, p1, q1, r1⟩ := own_bitsB z1 h1
  obtain ⟨b2, p2, q2, r2⟩ := own_bitsB z2 h2
  have l1 : (1 : Int32).toInt = 1 := rfl
  have l64 : (64 : Int32).toInt = 64 := rfl
  have a0 := c_iadd 1 (own_bits z0)
  have ra0 := rng32 ((1 : Int32) + own_bits z0)
  have a1 := c_iadd ((1 : Int32) + own_bits z0) (own_bits z1)
  have ra1 := rng32 (((1 : Int32) + own_bits z0) + own_bits z1)
  have a2 := c_iadd (((1 : Int32) + own_bits z0) + own_bits z1) (own_bits z2)
  have ra2 := rng32 ((((1 : Int32) + own_bits z0) + own_bits z1) + own_bits z2)
  have n0 := own_nat32 ((1 : Int32) + own_bits z0) (by omega)
  have n1 := own_nat32 (((1 : Int32) + own_bits z0) + own_bits z1) (by omega)
  refine ⟨b0, b1, b2, p0, p1, p2, own_mskM z0 b0 p0 q0, own_mskM z1 b1 p1 q1, own_mskM z2 b2 p2 q2, r0, r1, r2, by omega, by omega, fun h => ?_, ?_, ?_⟩
  · rw [Int32.lt_iff_toInt_lt] at h; omega
  · rw [Int32.lt_iff_toInt_lt]; omega
  · rw [Int32.lt_iff_toInt_lt]; omega
/-- a field: its shift, its mask, where it lies, how many bits -/
def own_G (s : Int32) (m : Int64) (n k : Nat) : Prop := s.toBitVec.toNat = n ∧ n + k ≤ 64 ∧ n < 64 ∧ own_isM m k
theorem own_fuG {w : Int64} {s : Int32} {m : Int64} {k n : Nat} {f v : Int32} (g : own_G s m n k) : own_fld (own_upd w s m f v) s m = ((v.toInt64 - f.toInt64) &&& m) := own_fu g.1 g.2.1 g.2.2.1 g.2.2.2
theorem own_foG {w : Int64} {s s' : Int32} {m m' : Int64} {k n k' n' : Nat} {f v : Int32} (g : own_G s m n k) (g' : own_G s' m' n' k') (hd : n' + k' ≤ n ∨ n + k ≤ n') : own_fld (own_upd w s m f v) s' m' = own_fld w s' m' := own_fo g.1 g.2.1 g.2.2.1 g.2.2.2 g'.1 g'.2.1 g'.2.2.1 g'.2.2.2 hd
theorem own_uuG {w : Int64} {s : Int32} {m : Int64} {k n : Nat} {f v v' : Int32} (g : own_G s m n k) (hv : ((v'.toInt64 - f.toInt64) &&& m) = own_fld w s m) : own_upd (own_upd w s m f v) s m f v' = w := own_uu g.1 g.2.1 g.2.2.1 g.2.2.2 hv
theorem own_lowG {w : Int64} {s : Int32} {m : Int64} {k n : Nat} {f v : Int32} (g : own_G s m n k) (h1 : 1 ≤ n) : (own_upd (w ||| (1 : Int64)) s m f v &&& (1 : Int64)) = (1 : Int64) := own_low g.1 g.2.1 g.2.2.1 g.2.2.2 h1
theorem own_geoG (z0 z1 z2 : Int32) (h0 : 1 ≤ z0.toInt) (h1 : 1 ≤ z1.toInt) (h2 : 1 ≤ z2.toInt) : ∃ b0 b1 b2 : Nat, (b0 ≤ 31 ∧ b1 ≤ 31 ∧ b2 ≤ 31) ∧ (z0.toInt ≤ 2 ^ b0 ∧ z1.toInt ≤ 2 ^ b1 ∧ z2.toInt ≤ 2 ^ b2) ∧
    own_G (1 : Int32) (own_msk z0) 1 b0 ∧ own_G ((1 : Int32) + own_bits z0) (own_msk z1) (1 + b0) b1 ∧ (¬ (64 : Int32) < ((((1 : Int32) + own_bits z0) + own_bits z1) + own_bits z2) → own_G (((1 : Int32) + own_bits z0) + own_bits z1) (own_msk z2) (1 + b0 + b1) b2) ∧ own_G (0 : Int32) (own_msk z2) 0 b2 ∧
    ¬ (64 : Int32) < ((1 : Int32) + own_bits z0) ∧ ¬ (64 : Int32) < (((1 : Int32) + own_bits z0) + own_bits z1) := by
  obtain ⟨b0, b1, b2, B0, B1, B2, M0, M1, M2, Y0, Y1, Y2, U1, U2, U3, U4, U5⟩ := own_geo z0 z1 z2 h0 h1 h2
  exact ⟨b0, b1, b2, ⟨B0, B1, B2⟩, ⟨Y0, Y1, Y2⟩, ⟨rfl, by omega, by omega, M0⟩, ⟨U1, by omega, by omega, M1⟩, fun h => ⟨U2, U3 h, by have := U3 h; omega, M2⟩, ⟨rfl, by omega, by omega, M2⟩, U4, U5⟩
theorem own_1a (b : Nat) : 1 ≤ 1 + b := by omega
theorem own_1b (b c : Nat) : 1 ≤ 1 + b + c := by omega

theorem own_zr (x : Int32) : 1 ≤ (own_max (1 : Int32) (x &&& (2147483647 : Int32))).toInt := by
  unfold own_max
  have l1 : (1 : Int32).toInt = 1 := rfl
  split
  · rename_i h; rw [Int32.lt_iff_toInt_lt] at h; omega
  · omega
theorem own_lr (y z : Int32) (hz : 1 ≤ z.toInt) : (own_min y ((2147483647 : Int32) - (z - (1 : Int32)))).toInt + z.toInt - 1 ≤ 2147483647 := by
  have a := c_isub z 1
  have ra := rng32 (z - 1)
  have rz := rng32 z
  have l1 : (1 : Int32).toInt = 1 := rfl
  have LM : (2147483647 : Int32).toInt = 2147483647 := rfl
  have b := c_isub 2147483647 (z - 1)
  have rb := rng32 ((2147483647 : Int32) - (z - 1))
  have ry := rng32 y
  unfold own_min
  split
  · omega
  · rename_i h; rw [Int32.lt_iff_toInt_lt] at h; omega
theorem own_ix (x y : Int32) : own_us x 31 + own_us y 31 = 0 ∨ own_us x 31 + own_us y 31 = 1 ∨ own_us x 31 + own_us y 31 = 2 := by
  have a := c_iushr x 31 31 (by decide) (by decide)
  have b := c_iushr y 31 31 (by decide) (by decide)
  have c := c_iadd (own_us x 31) (own_us y 31)
  have rc := rng32 (own_us x 31 + own_us y 31)
  have rx := rng32 x
  have ry := rng32 y
  simp only [Nat.reducePow] at a b
  have ea : (own_us x 31).toInt = x.toInt % 4294967296 / 2147483648 := a
  have eb : (own_us y 31).toInt = y.toInt % 4294967296 / 2147483648 := b
  have t : (own_us x 31 + own_us y 31).toInt = 0 ∨ (own_us x 31 + own_us y 31).toInt = 1 ∨ (own_us x 31 + own_us y 31).toInt = 2 := by omega
  rcases t with t | t | t
  · exact Or.inl (Int32.toInt_inj.mp t)
  · exact Or.inr (Or.inl (Int32.toInt_inj.mp t))
  · exact Or.inr (Or.inr (Int32.toInt_inj.mp t))
theorem own_vv (lo z p : Int32) (hz : 1 ≤ z.toInt) (hl : lo.toInt + z.toInt - 1 ≤ 2147483647) (v : Int32) (hv : v = lo + ((p &&& (2147483647 : Int32)) - ((p &&& (2147483647 : Int32)) / z) * z)) : 0 ≤ v.toInt - lo.toInt ∧ v.toInt - lo.toInt < z.toInt := by
  have m := c_mask p (2147483647 : Int32) 31 (by decide) (by decide)
  have hx : 0 ≤ (p &&& (2147483647 : Int32)).toInt := by omega
  generalize (p &&& (2147483647 : Int32)) = x at *
  have n1 : z ≠ -1 := fun q => by subst q; have : (-1 : Int32).toInt = -1 := rfl; omega
  have d := (c_idiv x z z.toInt rfl n1).1 hx
  have mu := c_imul (x / z) z
  rw [d] at mu
  have e1 := Int.emod_add_mul_ediv x.toInt z.toInt
  have e2 := Int.emod_nonneg x.toInt (show z.toInt ≠ 0 by omega)
  have e3 := Int.emod_lt_of_pos x.toInt (show 0 < z.toInt by omega)
  rw [Int.mul_comm] at e1
  have e4 : 0 ≤ x.toInt / z.toInt * z.toInt := Int.mul_nonneg (Int.ediv_nonneg hx (by omega)) (by omega)
  generalize x.toInt / z.toInt * z.toInt = Q at *
  have rx := rng32 x
  have rm := rng32 (x / z * z)
  have su := c_isub x (x / z * z)
  have rs := rng32 (x - x / z * z)
  generalize (x - x / z * z) = r at *
  have a := c_iadd lo r
  have ra := rng32 (lo + r)
  have rl := rng32 lo
  have rz := rng32 z
  subst hv
  omega
theorem own_pos0 {z : Int32} (h : 1 ≤ z.toInt) : (0 : Int32) < z := by rw [Int32.lt_iff_toInt_lt]; have : (0 : Int32).toInt = 0 := rfl; omega
theorem own_nz1 {z : Int32} (h : 1 ≤ z.toInt) : z ≠ 0 := fun q => by subst q; have : (0 : Int32).toInt = 0 := rfl; omega
theorem own_low0 (w : Int64) : ((w ||| (1 : Int64)) &&& (1 : Int64)) = (1 : Int64) := by
  apply own_ext; intro i hi
  rw [Int64.toBitVec_and, BitVec.getLsbD_and, Int64.toBitVec_or, BitVec.getLsbD_or]
  cases (1 : Int64).toBitVec.getLsbD i <;> simp
theorem own_lt2 {a z : Int} {b : Nat} (h : a < z) (hz : z ≤ 2 ^ b) : a < 2 ^ b := Int.lt_of_lt_of_le h hz
theorem own_y337 {F m : Int64} {b : Nat} {lo v : Int32} (e : F = ((v.toInt64 - (lo + (0 : Int32)).toInt64) &&& m)) (hm : own_isM m b) (hb : b ≤ 31) (h0 : 0 ≤ v.toInt - lo.toInt) (h1 : v.toInt - lo.toInt < 2 ^ b) : ((lo + (0 : Int32)) + F.toInt32) = v := by
  rw [e]; exact own_val hm hb lo v h0 h1
theorem own_oth {F G : Int64} {f : Int32} (e : F = G) : (f + F.toInt32) = (f + G.toInt32) := by rw [e]
theorem pd_10 : parseMethodDescriptor "(Ljava/lang/Object;)Z" = some ⟨[(.object "java/lang/Object")], some .boolean⟩ := by decide +kernel
theorem pd_11 : parseMethodDescriptor "(Ljava/util/List;)V" = some ⟨[(.object "java/util/List")], none⟩ := by decide +kernel
theorem pd_12 : parseMethodDescriptor "([JI[I)V" = some ⟨[(.array .long), .int, (.array .int)], none⟩ := by decide +kernel
theorem pd_13 : parseMethodDescriptor "([JII)V" = some ⟨[(.array .long), .int, .int], none⟩ := by decide +kernel
theorem pn_9 : plainName "com/example/darlington/darlington/core/StateLayoutSetPinLaw" = true := by first | (simp [plainName, overriddenIn]; done) | decide +kernel
theorem ef_rm0 (m : MethodId) (x0 : Int32) (x1 : Int32) (x2 : Int32) (x3 : Int64) (x4 : Int64) (x5 : Int32) : entryFrame m #[(.int x0), (.int x1), (.int x2), (.long x3), (.long x4), (.int x5)] maxLocals = mkF m 0 #[Si x0, Si x1, Si x2, Sl x3, S2, Sl x4, S2, Si x5, Su, Su, Su, Su, Su, Su, Su, Su, Su, Su, Su, Su, Su, Su, Su, Su, Su, Su, Su, Su, Su, Su, Su, Su] [] := by first | (simp [entryFrame, mkF, argsToLocals, Value.category, maxLocals]; done) | rfl
def Q_rm0 (Z : State) (p1 : Int32) (p2 : Int32) (p3 : Int32) (q4 : Int64) (q5 : Int64) (p6 : Int32) (wE : Addr) (kE : ClassId) (h0 : Heap) (n0 : Nat) (v : Option Value) (h : Heap) (L : List Loc) : Prop := v = some (.int (1 : Int32)) ∧ Fr n0 L ∧ Keep h0 h []
set_option maxRecDepth 65536 in
set_option maxHeartbeats 40000000 in
theorem rm0 (l : Launch) (Z : State) (a0 : Array Value) (hw : ∀ d ∈ tables_1, d.before a0 Z = true) (ws : List Jvm.Cond) (p1 : Int32) (p2 : Int32) (p3 : Int32) (q4 : Int64) (q5 : Int64) (p6 : Int32) (wE : Addr) (kE : ClassId) (h0 : Heap) (n0 : Nat) (Z0 : n0 ≤ h0.size) (O0 : Old Z n0 h0) (SE : Sta Z Z.heap "java/util/ArrayList" "DEFAULTCAPACITY_EMPTY_ELEMENTDATA" "[Ljava/lang/Object;" (.ref wE)) (VE : Arv Z Z.heap wE kE (.object "java/lang/Object") (0 : Int32) [] .null) :
    MetFree l x (head1 (Jvm.Cond.code x code maxLocals ret :: ws) room_1) (fun a U => a = #[(.int p1), (.int p2), (.int p3), (.long q4), (.long q5), (.int p6)] ∧ Z.Warmed39 U.vm ∧ U.heap = h0) (fun _ _ _ _ _ => True) (fun _ U o U' => ∃ v L, o = .returned v ∧ Q_rm0 Z p1 p2 p3 q4 q5 p6 wE kE h0 n0 v U'.heap L ∧ FrameEnd U o U' L room_1.cells room_1.slots) := by
  refine MetFree.of_bodySF (plainFor_of_name pn_9) hisR ?_
  intro p e s m args below meth c s₁ Bd hml0 hP hK
  obtain ⟨rfl, hZ, hh⟩ := hP
  have hx := Bd.exec
  have hby := Bd.bytes
  have hml : c.maxLocals = 32 := hml0
  have hown : s.vm.findClass "com/example/darlington/darlington/core/StateLayoutSetPinLaw" = some m.cls := findClass_of_methodNamed Bd.named
  have hnm := (name_of_methodNamed Bd.named Bd.method).1
  have X0 : Stand p l e room_1 s m #[(.int p1), (.int p2), (.int p3), (.long q4), (.long q5), (.int p6)] below meth c s₁ [] 0 0 := Stand.of_body Bd
  have e0 : s₁.heap = h0 := by rw [← hh, Bd.state]; rfl
  have N0 := Fr.nil n0
  have pre0 : ∀ t, Steps p.tables e below (s₁.setTop (mkF m 0 #[Si p1, Si p2, Si p3, Sl q4, S2, Sl q5, S2, Si p6, Su, Su, Su, Su, Su, Su, Su, Su, Su, Su, Su, Su, Su, Su, Su, Su, Su, Su, Su, Su, Su, Su, Su, Su] [])) t → Steps p.tables e below (s₁.setTop (entryFrame m #[(.int p1), (.int p2), (.int p3), (.long q4), (.long q5), (.int p6)] maxLocals)) t := fun t k => castTop (ef_rm0 m p1 p2 p3 q4 q5 p6) k
  obtain ⟨_, _, ⟨T51, L51, k51, n51⟩, -, X51, ⟨Lc51, hQ51, l51, y51, z51⟩, st51⟩ := Jvm.LawKit.callS X0 hx (y := (⟨"java/lang/Math", "max", "(II)I"⟩ : MethodName)) hown (mvT hZ (ow hw 1 rfl)) (mvT hZ (ow hw 2 rfl)) (mvT hZ (ow hw 3 rfl)) (mvT hZ (ow hw 4 rfl)) (by decide) (backOf (W := 0) (rm1 l Z a0 hw [] (1 : Int32) (p1 &&& (2147483647 : Int32)) h0 n0 Z0) hZ (ow hw 4 rfl) (ow hw 3 rfl) (by decide) (by decide)) (g := (mkF m 5 #[Si p1, Si p2, Si p3, Sl q4, S2, Sl q5, S2, Si p6, Su, Su, Su, Su, Su, Su, Su, Su, Su, Su, Su, Su, Su, Su, Su, Su, Su, Su, Su, Su, Su, Su, Su, Su] [(.int (p1 &&& (2147483647 : Int32))), (.int (1 : Int32))])) rfl (by rw [hml]; rfl) (argsL := [(.int (1 : Int32)), (.int (p1 &&& (2147483647 : Int32)))]) (rest := []) (lenOf pd_1 rfl) rfl (by show 2 * 0 + _ ≤ _; exact Nat.le_of_eq rfl) (hb hby at_5) (fun _ _ => ⟨rfl, e0, (by decide : 0 + 0 ≤ _), (by decide : 0 + 0 ≤ _)⟩)
  dsimp only [Pt.U, Pt.locs, Pt.cells, Pt.slots] at X51 l51 y51 z51 st51 hQ51
  subst y51 z51
  obtain ⟨rfl, Nq51, q51_0⟩ := hQ51
  have N52 := Eq.subst (motive := fun L => Fr n0 L) l51.symm (Fr.app N0 Nq51)
  have pre53 : ∀ t, Steps p.tables e below (T51.setTop (mkF m 10 #[Si p1, Si p2, Si p3, Sl q4, S2, Sl q5, S2, Si p6, Si (own_max (1 : Int32) (p1 &&& (2147483647 : Int32))), Su, Su, Su, Su, Su, Su, Su, Su, Su, Su, Su, Su, Su, Su, Su, Su, Su, Su, Su, Su, Su, Su, Su] [])) t → Steps p.tables e below (s₁.setTop (entryFrame m #[(.int p1), (.int p2), (.int p3), (.long q4), (.long q5), (.int p6)] maxLocals)) t := by
    intro t k
    refine pre0 t ?_
    refine XS.iconst X0.here hx rfl (hb hby at_0) ?_
    refine XS.iloadN X0.here hx rfl (hb hby at_1) rfl ?_
    refine X0.ldcInt hx hown (mvT hZ (ow hw 0 rfl)) (g := (mkF m 2 #[Si p1, Si p2, Si p3, Sl q4, S2, Sl q5, S2, Si p6, Su, Su, Su, Su, Su, Su, Su, Su, Su, Su, Su, Su, Su, Su, Su, Su, Su, Su, Su, Su, Su, Su, Su, Su] [(.int p1), (.int (1 : Int32))])) rfl (hb hby at_2) _ ?_
    refine XS.iand X0.here hx rfl (hb hby at_4) rfl ?_
    refine st51 _ ?_
    refine XS.istore X51.here hx rfl (hb hby at_8) rfl (l' := #[Si p1, Si p2, Si p3, Sl q4, S2, Sl q5, S2, Si p6, Si (own_max (1 : Int32) (p1 &&& (2147483647 : Int32))), Su, Su, Su, Su, Su, Su, Su, Su, Su, Su, Su, Su, Su, Su, Su, Su, Su, Su, Su, Su, Su, Su, Su]) rfl ?_
    exact k
  obtain ⟨vZ0, hvZ0⟩ : ∃ z : Int32, z = (own_max (1 : Int32) (p1 &&& (2147483647 : Int32))) := ⟨_, rfl⟩
  rw [← hvZ0] at pre53
  obtain ⟨_, _, ⟨T54, L54, k54, n54⟩, -, X54, ⟨Lc54, hQ54, l54, y54, z54⟩, st54⟩ := Jvm.LawKit.callS X51 hx (y := (⟨"java/lang/Math", "max", "(II)I"⟩ : MethodName)) hown (mvT hZ (ow hw 1 rfl)) (mvT hZ (ow hw 2 rfl)) (mvT hZ (ow hw 3 rfl)) (mvT hZ (ow hw 4 rfl)) (by decide) (backOf (W := 0) (rm1 l Z a0 hw [] (1 : Int32) (p2 &&& (2147483647 : Int32)) h0 n0 Z0) hZ (ow hw 4 rfl) (ow hw 3 rfl) (by decide) (by decide)) (g := (mkF m 15 #[Si p1, Si p2, Si p3, Sl q4, S2, Sl q5, S2, Si p6, Si vZ0, Su, Su, Su, Su, Su, Su, Su, Su, Su, Su, Su, Su, Su, Su, Su, Su, Su, Su, Su, Su, Su, Su, Su] [(.int (p2 &&& (2147483647 : Int32))), (.int (1 : Int32))])) rfl (by rw [hml]; rfl) (argsL := [(.int (1 : Int32)), (.int (p2 &&& (2147483647 : Int32)))]) (rest := []) (lenOf pd_1 rfl) rfl (by show 2 * 0 + _ ≤ _; exact Nat.le_of_eq rfl) (hb hby at_15) (fun _ _ => ⟨rfl, q51_0, (by decide : 0 + 0 ≤ _), (by decide : 0 + 0 ≤ _)⟩)
  dsimp only [Pt.U, Pt.locs, Pt.cells, Pt.slots] at X54 l54 y54 z54 st54 hQ54
  subst y54 z54
  obtain ⟨rfl, Nq54, q54_0⟩ := hQ54
  have N55 := Eq.subst (motive := fun L => Fr n0 L) l54.symm (Fr.app N52 Nq54)
  have pre56 : ∀ t, Steps p.tables e below (T54.setTop (mkF m 20 #[Si p1, Si p2, Si p3, Sl q4, S2, Sl q5, S2, Si p6, Si vZ0, Si (own_max (1 : Int32) (p2 &&& (2147483647 : Int32))), Su, Su, Su, Su, Su, Su, Su, Su, Su, Su, Su, Su, Su, Su, Su, Su, Su, Su, Su, Su, Su, Su] [])) t → Steps p.tables e below (s₁.setTop (entryFrame m #[(.int p1), (.int p2), (.int p3), (.long q4), (.long q5), (.int p6)] maxLocals)) t := by
    intro t k
    refine pre53 t ?_
    refine XS.iconst X51.here hx rfl (hb hby at_10) ?_
    refine XS.iloadN X51.here hx rfl (hb hby at_11) rfl ?_
    refine X51.ldcInt hx hown (mvT hZ (ow hw 0 rfl)) (g := (mkF m 12 #[Si p1, Si p2, Si p3, Sl q4, S2, Sl q5, S2, Si p6, Si vZ0, Su, Su, Su, Su, Su, Su, Su, Su, Su, Su, Su, Su, Su, Su, Su, Su, Su, Su, Su, Su, Su, Su, Su] [(.int p2), (.int (1 : Int32))])) rfl (hb hby at_12) _ ?_
    refine XS.iand X51.here hx rfl (hb hby at_14) rfl ?_
    show Steps _ _ _ (T51.setTop (mkF m 15 #[Si p1, Si p2, Si p3, Sl q4, S2, Sl q5, S2, Si p6, Si vZ0, Su, Su, Su, Su, Su, Su, Su, Su, Su, Su, Su, Su, Su, Su, Su, Su, Su, Su, Su, Su, Su, Su, Su] [(.int (p2 &&& (2147483647 : Int32))), (.int (1 : Int32))])) _
    refine st54 _ ?_
    refine XS.istore X54.here hx rfl (hb hby at_18) rfl (l' := #[Si p1, Si p2, Si p3, Sl q4, S2, Sl q5, S2, Si p6, Si vZ0, Si (own_max (1 : Int32) (p2 &&& (2147483647 : Int32))), Su, Su, Su, Su, Su, Su, Su, Su, Su, Su, Su, Su, Su, Su, Su, Su, Su, Su, Su, Su, Su, Su]) rfl ?_
    exact k
  obtain ⟨vZ1, hvZ1⟩ : ∃ z : Int32, z = (own_max (1 : Int32) (p2 &&& (2147483647 : Int32))) := ⟨_, rfl⟩
  rw [← hvZ1] at pre56
  obtain ⟨_, _, ⟨T57, L57, k57, n57⟩, -, X57, ⟨Lc57, hQ57, l57, y57, z57⟩, st57⟩ := Jvm.LawKit.callS X54 hx (y := (⟨"java/lang/Math", "max", "(II)I"⟩ : MethodName)) hown (mvT hZ (ow hw 1 rfl)) (mvT hZ (ow hw 2 rfl)) (mvT hZ (ow hw 3 rfl)) (mvT hZ (ow hw 4 rfl)) (by decide) (backOf (W := 0) (rm1 l Z a0 hw [] (1 : Int32) (p3 &&& (2147483647 : Int32)) h0 n0 Z0) hZ (ow hw 4 rfl) (ow hw 3 rfl) (by decide) (by decide)) (g := (mkF m 25 #[Si p1, Si p2, Si p3, Sl q4, S2, Sl q5, S2, Si p6, Si vZ0, Si vZ1, Su, Su, Su, Su, Su, Su, Su, Su, Su, Su, Su, Su, Su, Su, Su, Su, Su, Su, Su, Su, Su, Su] [(.int (p3 &&& (2147483647 : Int32))), (.int (1 : Int32))])) rfl (by rw [hml]; rfl) (argsL := [(.int (1 : Int32)), (.int (p3 &&& (2147483647 : Int32)))]) (rest := []) (lenOf pd_1 rfl) rfl (by show 2 * 0 + _ ≤ _; exact Nat.le_of_eq rfl) (hb hby at_25) (fun _ _ => ⟨rfl, q54_0, (by decide : 0 + 0 ≤ _), (by decide : 0 + 0 ≤ _)⟩)
  dsimp only [Pt.U, Pt.locs, Pt.cells, Pt.slots] at X57 l57 y57 z57 st57 hQ57
  subst y57 z57
  obtain ⟨rfl, Nq57, q57_0⟩ := hQ57
  have N58 := Eq.subst (motive := fun L => Fr n0 L) l57.symm (Fr.app N55 Nq57)
  have pre59 : ∀ t, Steps p.tables e below (T57.setTop (mkF m 30 #[Si p1, Si p2, Si p3, Sl q4, S2, Sl q5, S2, Si p6, Si vZ0, Si vZ1, Si (own_max (1 : Int32) (p3 &&& (2147483647 : Int32))), Su, Su, Su, Su, Su, Su, Su, Su, Su, Su, Su, Su, Su, Su, Su, Su, Su, Su, Su, Su, Su] [])) t → Steps p.tables e below (s₁.setTop (entryFrame m #[(.int p1), (.int p2), (.int p3), (.long q4), (.long q5), (.int p6)] maxLocals)) t := by
    intro t k
    refine pre56 t ?_
    refine XS.iconst X54.here hx rfl (hb hby at_20) ?_
    refine XS.iloadN X54.here hx rfl (hb hby at_21) rfl ?_
    refine X54.ldcInt hx hown (mvT hZ (ow hw 0 rfl)) (g := (mkF m 22 #[Si p1, Si p2, Si p3, Sl q4, S2, Sl q5, S2, Si p6, Si vZ0, Si vZ1, Su, Su, Su, Su, Su, Su, Su, Su, Su, Su, Su, Su, Su, Su, Su, Su, Su, Su, Su, Su, Su, Su] [(.int p3), (.int (1 : Int32))])) rfl (hb hby at_22) _ ?_
    refine XS.iand X54.here hx rfl (hb hby at_24) rfl ?_
    refine st57 _ ?_
    refine XS.istore X57.here hx rfl (hb hby at_28) rfl (l' := #[Si p1, Si p2, Si p3, Sl q4, S2, Sl q5, S2, Si p6, Si vZ0, Si vZ1, Si (own_max (1 : Int32) (p3 &&& (2147483647 : Int32))), Su, Su, Su, Su, Su, Su, Su, Su, Su, Su, Su, Su, Su, Su, Su, Su, Su, Su, Su, Su, Su]) rfl ?_
    exact k
  obtain ⟨vZ2, hvZ2⟩ : ∃ z : Int32, z = (own_max (1 : Int32) (p3 &&& (2147483647 : Int32))) := ⟨_, rfl⟩
  rw [← hvZ2] at pre59
  obtain ⟨_, _, ⟨T60, L60, k60, n60⟩, -, X60, ⟨Lc60, hQ60, l60, y60, z60⟩, st60⟩ := Jvm.LawKit.callS X57 hx (y := (⟨"java/lang/Math", "min", "(II)I"⟩ : MethodName)) hown (mvT hZ (ow hw 5 rfl)) (mvT hZ (ow hw 6 rfl)) (mvT hZ (ow hw 3 rfl)) (mvT hZ (ow hw 7 rfl)) (by decide) (backOf (W := 0) (rm2 l Z a0 hw [] (q4.toInt32) ((2147483647 : Int32) - (vZ0 - (1 : Int32))) h0 n0 Z0) hZ (ow hw 7 rfl) (ow hw 3 rfl) (by decide) (by decide)) (g := (mkF m 39 #[Si p1, Si p2, Si p3, Sl q4, S2, Sl q5, S2, Si p6, Si vZ0, Si vZ1, Si vZ2, Su, Su, Su, Su, Su, Su, Su, Su, Su, Su, Su, Su, Su, Su, Su, Su, Su, Su, Su, Su, Su] [(.int ((2147483647 : Int32) - (vZ0 - (1 : Int32)))), (.int (q4.toInt32))])) rfl (by rw [hml]; rfl) (argsL := [(.int (q4.toInt32)), (.int ((2147483647 : Int32) - (vZ0 - (1 : Int32))))]) (rest := []) (lenOf pd_1 rfl) rfl (by show 2 * 0 + _ ≤ _; exact Nat.le_of_eq rfl) (hb hby at_39) (fun _ _ => ⟨rfl, q57_0, (by decide : 0 + 0 ≤ _), (by decide : 0 + 0 ≤ _)⟩)
  dsimp only [Pt.U, Pt.locs, Pt.cells, Pt.slots] at X60 l60 y60 z60 st60 hQ60
  subst y60 z60
  obtain ⟨rfl, Nq60, q60_0⟩ := hQ60
  have N61 := Eq.subst (motive := fun L => Fr n0 L) l60.symm (Fr.app N58 Nq60)
  have pre62 : ∀ t, Steps p.tables e below (T60.setTop (mkF m 44 #[Si p1, Si p2, Si p3, Sl q4, S2, Sl q5, S2, Si p6, Si vZ0, Si vZ1, Si vZ2, Si (own_min (q4.toInt32) ((2147483647 : Int32) - (vZ0 - (1 : Int32)))), Su, Su, Su, Su, Su, Su, Su, Su, Su, Su, Su, Su, Su, Su, Su, Su, Su, Su, Su, Su] [])) t → Steps p.tables e below (s₁.setTop (entryFrame m #[(.int p1), (.int p2), (.int p3), (.long q4), (.long q5), (.int p6)] maxLocals)) t := by
    intro t k
    refine pre59 t ?_
    refine XS.lloadN X57.here hx rfl (hb hby at_30) rfl ?_
    refine XS.l2i X57.here hx rfl (hb hby at_31) rfl ?_
    show Steps _ _ _ (T57.setTop (mkF m 32 #[Si p1, Si p2, Si p3, Sl q4, S2, Sl q5, S2, Si p6, Si vZ0, Si vZ1, Si vZ2, Su, Su, Su, Su, Su, Su, Su, Su, Su, Su, Su, Su, Su, Su, Su, Su, Su, Su, Su, Su, Su] [(.int (q4.toInt32))])) _
    refine X57.ldcInt hx hown (mvT hZ (ow hw 0 rfl)) (g := (mkF m 32 #[Si p1, Si p2, Si p3, Sl q4, S2, Sl q5, S2, Si p6, Si vZ0, Si vZ1, Si vZ2, Su, Su, Su, Su, Su, Su, Su, Su, Su, Su, Su, Su, Su, Su, Su, Su, Su, Su, Su, Su, Su] [(.int (q4.toInt32))])) rfl (hb hby at_32) _ ?_
    refine XS.iload X57.here hx rfl (hb hby at_34) rfl ?_
    refine XS.iconst X57.here hx rfl (hb hby at_36) ?_
    refine XS.isub X57.here hx rfl (hb hby at_37) rfl ?_
    refine XS.isub X57.here hx rfl (hb hby at_38) rfl ?_
    refine st60 _ ?_
    refine XS.istore X60.here hx rfl (hb hby at_42) rfl (l' := #[Si p1, Si p2, Si p3, Sl q4, S2, Sl q5, S2, Si p6, Si vZ0, Si vZ1, Si vZ2, Si (own_min (q4.toInt32) ((2147483647 : Int32) - (vZ0 - (1 : Int32)))), Su, Su, Su, Su, Su, Su, Su, Su, Su, Su, Su, Su, Su, Su, Su, Su, Su, Su, Su, Su]) rfl ?_
    exact k
  obtain ⟨vL0, hvL0⟩ : ∃ z : Int32, z = (own_min (q4.toInt32) ((2147483647 : Int32) - (vZ0 - (1 : Int32)))) := ⟨_, rfl⟩
  rw [← hvL0] at pre62
  obtain ⟨_, _, ⟨T63, L63, k63, n63⟩, -, X63, ⟨Lc63, hQ63, l63, y63, z63⟩, st63⟩ := Jvm.LawKit.callS X60 hx (y := (⟨"java/lang/Math", "min", "(II)I"⟩ : MethodName)) hown (mvT hZ (ow hw 5 rfl)) (mvT hZ (ow hw 6 rfl)) (mvT hZ (ow hw 3 rfl)) (mvT hZ (ow hw 7 rfl)) (by decide) (backOf (W := 0) (rm2 l Z a0 hw [] (((q4.toUInt64 >>> ((32 : Int32) &&& 0x3f).toInt64.toUInt64).toInt64).toInt32) ((2147483647 : Int32) - (vZ1 - (1 : Int32))) h0 n0 Z0) hZ (ow hw 7 rfl) (ow hw 3 rfl) (by decide) (by decide)) (g := (mkF m 56 #[Si p1, Si p2, Si p3, Sl q4, S2, Sl q5, S2, Si p6, Si vZ0, Si vZ1, Si vZ2, Si vL0, Su, Su, Su, Su, Su, Su, Su, Su, Su, Su, Su, Su, Su, Su, Su, Su, Su, Su, Su, Su] [(.int ((2147483647 : Int32) - (vZ1 - (1 : Int32)))), (.int (((q4.toUInt64 >>> ((32 : Int32) &&& 0x3f).toInt64.toUInt64).toInt64).toInt32))])) rfl (by rw [hml]; rfl) (argsL := [(.int (((q4.toUInt64 >>> ((32 : Int32) &&& 0x3f).toInt64.toUInt64).toInt64).toInt32)), (.int ((2147483647 : Int32) - (vZ1 - (1 : Int32))))]) (rest := []) (lenOf pd_1 rfl) rfl (by show 2 * 0 + _ ≤ _; exact Nat.le_of_eq rfl) (hb hby at_56) (fun _ _ => ⟨rfl, q60_0, (by decide : 0 + 0 ≤ _), (by decide : 0 + 0 ≤ _)⟩)
  dsimp only [Pt.U, Pt.locs, Pt.cells, Pt.slots] at X63 l63 y63 z63 st63 hQ63
  subst y63 z63
  obtain ⟨rfl, Nq63, q63_0⟩ := hQ63
  have N64 := Eq.subst (motive := fun L => Fr n0 L) l63.symm (Fr.app N61 Nq63)
  have pre65 : ∀ t, Steps p.tables e below (T63.setTop (mkF m 61 #[Si p1, Si p2, Si p3, Sl q4, S2, Sl q5, S2, Si p6, Si vZ0, Si vZ1, Si vZ2, Si vL0, Si (own_min (((q4.toUInt64 >>> ((32 : Int32) &&& 0x3f).toInt64.toUInt64).toInt64).toInt32) ((2147483647 : Int32) - (vZ1 - (1 : Int32)))), Su, Su, Su, Su, Su, Su, Su, Su, Su, Su, Su, Su, Su, Su, Su, Su, Su, Su, Su] [])) t → Steps p.tables e below (s₁.setTop (entryFrame m #[(.int p1), (.int p2), (.int p3), (.long q4), (.long q5), (.int p6)] maxLocals)) t := by
    intro t k
    refine pre62 t ?_
    refine XS.lloadN X60.here hx rfl (hb hby at_44) rfl ?_
    refine XS.bipush X60.here hx rfl (hb hby at_45) ?_
    refine XS.lushr X60.here hx rfl (hb hby at_47) rfl ?_
    show Steps _ _ _ (T60.setTop (mkF m 48 #[Si p1, Si p2, Si p3, Sl q4, S2, Sl q5, S2, Si p6, Si vZ0, Si vZ1, Si vZ2, Si vL0, Su, Su, Su, Su, Su, Su, Su, Su, Su, Su, Su, Su, Su, Su, Su, Su, Su, Su, Su, Su] [(.long ((q4.toUInt64 >>> ((32 : Int32) &&& 0x3f).toInt64.toUInt64).toInt64))])) _
    refine XS.l2i X60.here hx rfl (hb hby at_48) rfl ?_
    refine X60.ldcInt hx hown (mvT hZ (ow hw 0 rfl)) (g := (mkF m 49 #[Si p1, Si p2, Si p3, Sl q4, S2, Sl q5, S2, Si p6, Si vZ0, Si vZ1, Si vZ2, Si vL0, Su, Su, Su, Su, Su, Su, Su, Su, Su, Su, Su, Su, Su, Su, Su, Su, Su, Su, Su, Su] [(.int (((q4.toUInt64 >>> ((32 : Int32) &&& 0x3f).toInt64.toUInt64).toInt64).toInt32))])) rfl (hb hby at_49) _ ?_
    refine XS.iload X60.here hx rfl (hb hby at_51) rfl ?_
    refine XS.iconst X60.here hx rfl (hb hby at_53) ?_
    refine XS.isub X60.here hx rfl (hb hby at_54) rfl ?_
    refine XS.isub X60.here hx rfl (hb hby at_55) rfl ?_
    refine st63 _ ?_
    refine XS.istore X63.here hx rfl (hb hby at_59) rfl (l' := #[Si p1, Si p2, Si p3, Sl q4, S2, Sl q5, S2, Si p6, Si vZ0, Si vZ1, Si vZ2, Si vL0, Si (own_min (((q4.toUInt64 >>> ((32 : Int32) &&& 0x3f).toInt64.toUInt64).toInt64).toInt32) ((2147483647 : Int32) - (vZ1 - (1 : Int32)))), Su, Su, Su, Su, Su, Su, Su, Su, Su, Su, Su, Su, Su, Su, Su, Su, Su, Su, Su]) rfl ?_
    exact k
  obtain ⟨vL1, hvL1⟩ : ∃ z : Int32, z = (own_min (((q4.toUInt64 >>> ((32 : Int32) &&& 0x3f).toInt64.toUInt64).toInt64).toInt32) ((2147483647 : Int32) - (vZ1 - (1 : Int32)))) := ⟨_, rfl⟩
  rw [← hvL1] at pre65
  obtain ⟨_, _, ⟨T66, L66, k66, n66⟩, -, X66, ⟨Lc66, hQ66, l66, y66, z66⟩, st66⟩ := Jvm.LawKit.callS X63 hx (y := (⟨"java/lang/Math", "min", "(II)I"⟩ : MethodName)) hown (mvT hZ (ow hw 5 rfl)) (mvT hZ (ow hw 6 rfl)) (mvT hZ (ow hw 3 rfl)) (mvT hZ (ow hw 7 rfl)) (by decide) (backOf (W := 0) (rm2 l Z a0 hw [] ((q4.toInt32) ^^^ (((q4.toUInt64 >>> ((32 : Int32) &&& 0x3f).toInt64.toUInt64).toInt64).toInt32)) ((2147483647 : Int32) - (vZ2 - (1 : Int32))) h0 n0 Z0) hZ (ow hw 7 rfl) (ow hw 3 rfl) (by decide) (by decide)) (g := (mkF m 76 #[Si p1, Si p2, Si p3, Sl q4, S2, Sl q5, S2, Si p6, Si vZ0, Si vZ1, Si vZ2, Si vL0, Si vL1, Su, Su, Su, Su, Su, Su, Su, Su, Su, Su, Su, Su, Su, Su, Su, Su, Su, Su, Su] [(.int ((2147483647 : Int32) - (vZ2 - (1 : Int32)))), (.int ((q4.toInt32) ^^^ (((q4.toUInt64 >>> ((32 : Int32) &&& 0x3f).toInt64.toUInt64).toInt64).toInt32)))])) rfl (by rw [hml]; rfl) (argsL := [(.int ((q4.toInt32) ^^^ (((q4.toUInt64 >>> ((32 : Int32) &&& 0x3f).toInt64.toUInt64).toInt64).toInt32))), (.int ((2147483647 : Int32) - (vZ2 - (1 : Int32))))]) (rest := []) (lenOf pd_1 rfl) rfl (by show 2 * 0 + _ ≤ _; exact Nat.le_of_eq rfl) (hb hby at_76) (fun _ _ => ⟨rfl, q63_0, (by decide : 0 + 0 ≤ _), (by decide : 0 + 0 ≤ _)⟩)
  dsimp only [Pt.U, Pt.locs, Pt.cells, Pt.slots] at X66 l66 y66 z66 st66 hQ66
  subst y66 z66
  obtain ⟨rfl, Nq66, q66_0⟩ := hQ66
  have N67 := Eq.subst (motive := fun L => Fr n0 L) l66.symm (Fr.app N64 Nq66)
  have pre68 : ∀ t, Steps p.tables e below (T66.setTop (mkF m 81 #[Si p1, Si p2, Si p3, Sl q4, S2, Sl q5, S2, Si p6, Si vZ0, Si vZ1, Si vZ2, Si vL0, Si vL1, Si (own_min ((q4.toInt32) ^^^ (((q4.toUInt64 >>> ((32 : Int32) &&& 0x3f).toInt64.toUInt64).toInt64).toInt32)) ((2147483647 : Int32) - (vZ2 - (1 : Int32)))), Su, Su, Su, Su, Su, Su, Su, Su, Su, Su, Su, Su, Su, Su, Su, Su, Su, Su] [])) t → Steps p.tables e below (s₁.setTop (entryFrame m #[(.int p1), (.int p2), (.int p3), (.long q4), (.long q5), (.int p6)] maxLocals)) t := by
    intro t k
    refine pre65 t ?_
    refine XS.lloadN X63.here hx rfl (hb hby at_61) rfl ?_
    refine XS.l2i X63.here hx rfl (hb hby at_62) rfl ?_
    show Steps _ _ _ (T63.setTop (mkF m 63 #[Si p1, Si p2, Si p3, Sl q4, S2, Sl q5, S2, Si p6, Si vZ0, Si vZ1, Si vZ2, Si vL0, Si vL1, Su, Su, Su, Su, Su, Su, Su, Su, Su, Su, Su, Su, Su, Su, Su, Su, Su, Su, Su] [(.int (q4.toInt32))])) _
    refine XS.lloadN X63.here hx rfl (hb hby at_63) rfl ?_
    refine XS.bipush X63.here hx rfl (hb hby at_64) ?_
    refine XS.lushr X63.here hx rfl (hb hby at_66) rfl ?_
    refine XS.l2i X63.here hx rfl (hb hby at_67) rfl ?_
    refine XS.ixor X63.here hx rfl (hb hby at_68) rfl ?_
    refine X63.ldcInt hx hown (mvT hZ (ow hw 0 rfl)) (g := (mkF m 69 #[Si p1, Si p2, Si p3, Sl q4, S2, Sl q5, S2, Si p6, Si vZ0, Si vZ1, Si vZ2, Si vL0, Si vL1, Su, Su, Su, Su, Su, Su, Su, Su, Su, Su, Su, Su, Su, Su, Su, Su, Su, Su, Su] [(.int ((q4.toInt32) ^^^ (((q4.toUInt64 >>> ((32 : Int32) &&& 0x3f).toInt64.toUInt64).toInt64).toInt32)))])) rfl (hb hby at_69) _ ?_
    refine XS.iload X63.here hx rfl (hb hby at_71) rfl ?_
    refine XS.iconst X63.here hx rfl (hb hby at_73) ?_
    refine XS.isub X63.here hx rfl (hb hby at_74) rfl ?_
    refine XS.isub X63.here hx rfl (hb hby at_75) rfl ?_
    show Steps _ _ _ (T63.setTop (mkF m 76 #[Si p1, Si p2, Si p3, Sl q4, S2, Sl q5, S2, Si p6, Si vZ0, Si vZ1, Si vZ2, Si vL0, Si vL1, Su, Su, Su, Su, Su, Su, Su, Su, Su, Su, Su, Su, Su, Su, Su, Su, Su, Su, Su] [(.int ((2147483647 : Int32) - (vZ2 - (1 : Int32)))), (.int ((q4.toInt32) ^^^ (((q4.toUInt64 >>> ((32 : Int32) &&& 0x3f).toInt64.toUInt64).toInt64).toInt32)))])) _
    refine st66 _ ?_
    refine XS.istore X66.here hx rfl (hb hby at_79) rfl (l' := #[Si p1, Si p2, Si p3, Sl q4, S2, Sl q5, S2, Si p6, Si vZ0, Si vZ1, Si vZ2, Si vL0, Si vL1, Si (own_min ((q4.toInt32) ^^^ (((q4.toUInt64 >>> ((32 : Int32) &&& 0x3f).toInt64.toUInt64).toInt64).toInt32)) ((2147483647 : Int32) - (vZ2 - (1 : Int32)))), Su, Su, Su, Su, Su, Su, Su, Su, Su, Su, Su, Su, Su, Su, Su, Su, Su, Su]) rfl ?_
    exact k
  obtain ⟨vL2, hvL2⟩ : ∃ z : Int32, z = (own_min ((q4.toInt32) ^^^ (((q4.toUInt64 >>> ((32 : Int32) &&& 0x3f).toInt64.toUInt64).toInt64).toInt32)) ((2147483647 : Int32) - (vZ2 - (1 : Int32)))) := ⟨_, rfl⟩
  rw [← hvL2] at pre68
  have pre69 : ∀ t, Steps p.tables e below (T66.setTop (mkF m 92 #[Si p1, Si p2, Si p3, Sl q4, S2, Sl q5, S2, Si p6, Si vZ0, Si vZ1, Si vZ2, Si vL0, Si vL1, Si vL2, Si (((p1.toUInt32 >>> ((31 : Int32) &&& 31).toUInt32).toInt32) + ((p2.toUInt32 >>> ((31 : Int32) &&& 31).toUInt32).toInt32)), Su, Su, Su, Su, Su, Su, Su, Su, Su, Su, Su, Su, Su, Su, Su, Su, Su] [])) t → Steps p.tables e below (s₁.setTop (entryFrame m #[(.int p1), (.int p2), (.int p3), (.long q4), (.long q5), (.int p6)] maxLocals)) t := by
    intro t k
    refine pre68 t ?_
    refine XS.iloadN X66.here hx rfl (hb hby at_81) rfl ?_
    refine XS.bipush X66.here hx rfl (hb hby at_82) ?_
    refine XS.iushr X66.here hx rfl (hb hby at_84) rfl ?_
    refine XS.iloadN X66.here hx rfl (hb hby at_85) rfl ?_
    refine XS.bipush X66.here hx rfl (hb hby at_86) ?_
    refine XS.iushr X66.here hx rfl (hb hby at_88) rfl ?_
    refine XS.iadd X66.here hx rfl (hb hby at_89) rfl ?_
    refine XS.istore X66.here hx rfl (hb hby at_90) rfl (l' := #[Si p1, Si p2, Si p3, Sl q4, S2, Sl q5, S2, Si p6, Si vZ0, Si vZ1, Si vZ2, Si vL0, Si vL1, Si vL2, Si (((p1.toUInt32 >>> ((31 : Int32) &&& 31).toUInt32).toInt32) + ((p2.toUInt32 >>> ((31 : Int32) &&& 31).toUInt32).toInt32)), Su, Su, Su, Su, Su, Su, Su, Su, Su, Su, Su, Su, Su, Su, Su, Su, Su]) rfl ?_
    show Steps _ _ _ (T66.setTop (mkF m 92 #[Si p1, Si p2, Si p3, Sl q4, S2, Sl q5, S2, Si p6, Si vZ0, Si vZ1, Si vZ2, Si vL0, Si vL1, Si vL2, Si (((p1.toUInt32 >>> ((31 : Int32) &&& 31).toUInt32).toInt32) + ((p2.toUInt32 >>> ((31 : Int32) &&& 31).toUInt32).toInt32)), Su, Su, Su, Su, Su, Su, Su, Su, Su, Su, Su, Su, Su, Su, Su, Su, Su] [])) _
    exact k
  obtain ⟨vI, hvI⟩ : ∃ z : Int32, z = (((p1.toUInt32 >>> ((31 : Int32) &&& 31).toUInt32).toInt32) + ((p2.toUInt32 >>> ((31 : Int32) &&& 31).toUInt32).toInt32)) := ⟨_, rfl⟩
  rw [← hvI] at pre69
  have hI3 : vI = 0 ∨ vI = 1 ∨ vI = 2 := by rw [hvI]; exact own_ix p1 p2
  have hz0 : 1 ≤ vZ0.toInt := by rw [hvZ0]; exact own_zr _
  have hl0 : vL0.toInt + vZ0.toInt - 1 ≤ 2147483647 := by rw [hvL0]; exact own_lr _ _ hz0
  have hr0 := own_rng vL0 vZ0 hz0 hl0
  have hz1 : 1 ≤ vZ1.toInt := by rw [hvZ1]; exact own_zr _
  have hl1 : vL1.toInt + vZ1.toInt - 1 ≤ 2147483647 := by rw [hvL1]; exact own_lr _ _ hz1
  have hr1 := own_rng vL1 vZ1 hz1 hl1
  have hz2 : 1 ≤ vZ2.toInt := by rw [hvZ2]; exact own_zr _
  have hl2 : vL2.toInt + vZ2.toInt - 1 ≤ 2147483647 := by rw [hvL2]; exact own_lr _ _ hz2
  have hr2 := own_rng vL2 vZ2 hz2 hl2
  obtain ⟨b0, b1, b2, ⟨B0, B1, B2⟩, ⟨Y0, Y1, Y2⟩, G0, G1, G2a, G2b, U4, U5⟩ := own_geoG vZ0 vZ1 vZ2 hz0 hz1 hz2
  have pre72 : ∀ t, Steps p.tables e below (T66.setTop (mkF m 115 #[Si p1, Si p2, Si p3, Sl q4, S2, Sl q5, S2, Si p6, Si vZ0, Si vZ1, Si vZ2, Si vL0, Si vL1, Si vL2, Si vI, Su, Su, Su, Su, Su, Su, Su, Su, Su, Su, Su, Su, Su, Su, Su, Su, Su] [(.int (if vI = (0 : Int32) then vZ0 else (if vI = (1 : Int32) then vZ1 else vZ2)))])) t → Steps p.tables e below (s₁.setTop (entryFrame m #[(.int p1), (.int p2), (.int p3), (.long q4), (.long q5), (.int p6)] maxLocals)) t := by
    intro t k
    refine pre69 t ?_
    refine XS.iload X66.here hx rfl (hb hby at_92) rfl ?_
    by_cases hc70 : vI = (0 : Int32)
    · simp only [if_pos hc70] at k
      refine XS.ifNo X66.here hx rfl (hb hby at_94) rfl ((if0 _ _).trans (teq hc70).2) ?_
      refine XS.iload X66.here hx rfl (hb hby at_97) rfl ?_
      refine XS.goto X66.here hx rfl (pc0 := 99) (pc' := 115) rfl (hb hby at_99) (by decide) (by decide) ?_
      exact k
    · simp only [if_neg hc70] at k
      refine XS.ifYes X66.here hx rfl (pc0 := 94) (pc' := 102) rfl (hb hby at_94) rfl ((if0 _ _).trans (feq hc70).2) (by decide) (by decide) ?_
      refine XS.iload X66.here hx rfl (hb hby at_102) rfl ?_
      refine XS.iconst X66.here hx rfl (hb hby at_104) ?_
      by_cases hc71 : vI = (1 : Int32)
      · simp only [if_pos hc71] at k
        refine XS.icmpNo X66.here hx rfl (hb hby at_105) rfl (teq hc71).2 ?_
        refine XS.iload X66.here hx rfl (hb hby at_108) rfl ?_
        refine XS.goto X66.here hx rfl (pc0 := 110) (pc' := 115) rfl (hb hby at_110) (by decide) (by decide) ?_
        exact k
      · simp only [if_neg hc71] at k
        refine XS.icmpYes X66.here hx rfl (pc0 := 105) (pc' := 113) rfl (hb hby at_105) rfl (feq hc71).2 (by decide) (by decide) ?_
        refine XS.iload X66.here hx rfl (hb hby at_113) rfl ?_
        exact k
  obtain ⟨vSz, hvSz⟩ : ∃ z : Int32, z = (if vI = (0 : Int32) then vZ0 else (if vI = (1 : Int32) then vZ1 else vZ2)) := ⟨_, rfl⟩
  rw [← hvSz] at pre72
  have pre75 : ∀ t, Steps p.tables e below (T66.setTop (mkF m 140 #[Si p1, Si p2, Si p3, Sl q4, S2, Sl q5, S2, Si p6, Si vZ0, Si vZ1, Si vZ2, Si vL0, Si vL1, Si vL2, Si vI, Si vSz, Su, Su, Su, Su, Su, Su, Su, Su, Su, Su, Su, Su, Su, Su, Su, Su] [(.int (if vI = (0 : Int32) then vL0 else (if vI = (1 : Int32) then vL1 else vL2)))])) t → Steps p.tables e below (s₁.setTop (entryFrame m #[(.int p1), (.int p2), (.int p3), (.long q4), (.long q5), (.int p6)] maxLocals)) t := by
    intro t k
    refine pre72 t ?_
    refine XS.istore X66.here hx rfl (hb hby at_115) rfl (l' := #[Si p1, Si p2, Si p3, Sl q4, S2, Sl q5, S2, Si p6, Si vZ0, Si vZ1, Si vZ2, Si vL0, Si vL1, Si vL2, Si vI, Si vSz, Su, Su, Su, Su, Su, Su, Su, Su, Su, Su, Su, Su, Su, Su, Su, Su]) rfl ?_
    refine XS.iload X66.here hx rfl (hb hby at_117) rfl ?_
    by_cases hc73 : vI = (0 : Int32)
    · simp only [if_pos hc73] at k
      refine XS.ifNo X66.here hx rfl (hb hby at_119) rfl ((if0 _ _).trans (teq hc73).2) ?_
      refine XS.iload X66.here hx rfl (hb hby at_122) rfl ?_
      refine XS.goto X66.here hx rfl (pc0 := 124) (pc' := 140) rfl (hb hby at_124) (by decide) (by decide) ?_
      exact k
    · simp only [if_neg hc73] at k
      refine XS.ifYes X66.here hx rfl (pc0 := 119) (pc' := 127) rfl (hb hby at_119) rfl ((if0 _ _).trans (feq hc73).2) (by decide) (by decide) ?_
      refine XS.iload X66.here hx rfl (hb hby at_127) rfl ?_
      refine XS.iconst X66.here hx rfl (hb hby at_129) ?_
      by_cases hc74 : vI = (1 : Int32)
      · simp only [if_pos hc74] at k
        refine XS.icmpNo X66.here hx rfl (hb hby at_130) rfl (teq hc74).2 ?_
        refine XS.iload X66.here hx rfl (hb hby at_133) rfl ?_
        refine XS.goto X66.here hx rfl (pc0 := 135) (pc' := 140) rfl (hb hby at_135) (by decide) (by decide) ?_
        exact k
      · simp only [if_neg hc74] at k
        refine XS.icmpYes X66.here hx rfl (pc0 := 130) (pc' := 138) rfl (hb hby at_130) rfl (feq hc74).2 (by decide) (by decide) ?_
        refine XS.iload X66.here hx rfl (hb hby at_138) rfl ?_
        exact k
  obtain ⟨vLo, hvLo⟩ : ∃ z : Int32, z = (if vI = (0 : Int32) then vL0 else (if vI = (1 : Int32) then vL1 else vL2)) := ⟨_, rfl⟩
  rw [← hvLo] at pre75
  have hSz0 : vSz ≠ 0 := by
    rw [hvSz]; rcases hI3 with q | q | q <;> rw [q]
    · exact own_nz1 hz0
    · exact own_nz1 hz1
    · exact own_nz1 hz2
  have pre76 : ∀ t, Steps p.tables e below (T66.setTop (mkF m 155 #[Si p1, Si p2, Si p3, Sl q4, S2, Sl q5, S2, Si p6, Si vZ0, Si vZ1, Si vZ2, Si vL0, Si vL1, Si vL2, Si vI, Si vSz, Si vLo, Si (vLo + ((p6 &&& (2147483647 : Int32)) - ((p6 &&& (2147483647 : Int32)) / vSz) * vSz)), Su, Su, Su, Su, Su, Su, Su, Su, Su, Su, Su, Su, Su, Su] [])) t → Steps p.tables e below (s₁.setTop (entryFrame m #[(.int p1), (.int p2), (.int p3), (.long q4), (.long q5), (.int p6)] maxLocals)) t := by
    intro t k
    refine pre75 t ?_
    refine XS.istore X66.here hx rfl (hb hby at_140) rfl (l' := #[Si p1, Si p2, Si p3, Sl q4, S2, Sl q5, S2, Si p6, Si vZ0, Si vZ1, Si vZ2, Si vL0, Si vL1, Si vL2, Si vI, Si vSz, Si vLo, Su, Su, Su, Su, Su, Su, Su, Su, Su, Su, Su, Su, Su, Su, Su]) rfl ?_
    refine XS.iload X66.here hx rfl (hb hby at_142) rfl ?_
    refine XS.iload X66.here hx rfl (hb hby at_144) rfl ?_
    refine X66.ldcInt hx hown (mvT hZ (ow hw 0 rfl)) (g := (mkF m 146 #[Si p1, Si p2, Si p3, Sl q4, S2, Sl q5, S2, Si p6, Si vZ0, Si vZ1, Si vZ2, Si vL0, Si vL1, Si vL2, Si vI, Si vSz, Si vLo, Su, Su, Su, Su, Su, Su, Su, Su, Su, Su, Su, Su, Su, Su, Su] [(.int p6), (.int vLo)])) rfl (hb hby at_146) _ ?_
    refine XS.iand X66.here hx rfl (hb hby at_148) rfl ?_
    refine XS.iload X66.here hx rfl (hb hby at_149) rfl ?_
    refine XS.irem X66.here hx rfl (hb hby at_151) rfl hSz0 ?_
    show Steps _ _ _ (T66.setTop (mkF m 152 #[Si p1, Si p2, Si p3, Sl q4, S2, Sl q5, S2, Si p6, Si vZ0, Si vZ1, Si vZ2, Si vL0, Si vL1, Si vL2, Si vI, Si vSz, Si vLo, Su, Su, Su, Su, Su, Su, Su, Su, Su, Su, Su, Su, Su, Su, Su] [(.int ((p6 &&& (2147483647 : Int32)) - ((p6 &&& (2147483647 : Int32)) / vSz) * vSz)), (.int vLo)])) _
    refine XS.iadd X66.here hx rfl (hb hby at_152) rfl ?_
    refine XS.istore X66.here hx rfl (hb hby at_153) rfl (l' := #[Si p1, Si p2, Si p3, Sl q4, S2, Sl q5, S2, Si p6, Si vZ0, Si vZ1, Si vZ2, Si vL0, Si vL1, Si vL2, Si vI, Si vSz, Si vLo, Si (vLo + ((p6 &&& (2147483647 : Int32)) - ((p6 &&& (2147483647 : Int32)) / vSz) * vSz)), Su, Su, Su, Su, Su, Su, Su, Su, Su, Su, Su, Su, Su, Su]) rfl ?_
    exact k
  obtain ⟨vV, hvV⟩ : ∃ z : Int32, z = (vLo + ((p6 &&& (2147483647 : Int32)) - ((p6 &&& (2147483647 : Int32)) / vSz) * vSz)) := ⟨_, rfl⟩
  rw [← hvV] at pre76
  obtain ⟨T77, h77, X77, e77, E77, A77, D77, -, st77⟩ := newO X66 hx hZ hown (ow hw 8 rfl) (ow hw 9 rfl) (ow hw 10 rfl) q66_0 (g := (mkF m 155 #[Si p1, Si p2, Si p3, Sl q4, S2, Sl q5, S2, Si p6, Si vZ0, Si vZ1, Si vZ2, Si vL0, Si vL1, Si vL2, Si vI, Si vSz, Si vLo, Si vV, Su, Su, Su, Su, Su, Su, Su, Su, Su, Su, Su, Su, Su, Su] [])) rfl (hb hby at_155) (by decide) (by decide)
  obtain ⟨b77, g77⟩ : ∃ z, z = h0.size := ⟨_, rfl⟩
  rw [← g77] at A77 D77 st77
  have ge78 : n0 ≤ b77 := Nat.le_trans Z0 (Nat.le_of_eq g77.symm)
  have sz79 : h0.size ≤ b77 := Nat.le_trans (Keep.refl h0 []).1 (Nat.le_of_eq g77.symm)
  have KC80 : Keep h0 h77 [] := (Keep.refl h0 []).ext E77
  have F81 : Fld Z h77 b77 "java/util/AbstractList" "modCount" "I" (.int (0 : Int32)) := D77 (Or.inl (ow hw 30 rfl)) (ty := .int) (by decide)
  have F82 : Fld Z h77 b77 "java/util/ArrayList" "elementData" "[Ljava/lang/Object;" .null := D77 (Or.inl (ow hw 33 rfl)) (ty := (.array (.object "java/lang/Object"))) (by decide)
  have F83 : Fld Z h77 b77 "java/util/ArrayList" "size" "I" (.int (0 : Int32)) := D77 (Or.inl (ow hw 66 rfl)) (ty := .int) (by decide)
  have O84 : Old Z n0 h77 := (O0.ext E77)
  obtain ⟨_, _, ⟨T85, L85, k85, n85⟩, -, X85, ⟨Lc85, hQ85, l85, y85, z85⟩, st85⟩ := X77.specialBack hx (y := (⟨"java/util/ArrayList", "<init>", "()V"⟩ : MethodName)) rfl hown (mvT hZ (ow hw 11 rfl)) (mvT hZ (ow hw 12 rfl)) (mvT hZ (ow hw 13 rfl)) (by decide) (backOf (W := 1) (rm3 l Z a0 hw [] b77 (0 : Int32) wE kE h77 n0 (Nat.le_trans Z0 KC80.1) O84 SE VE A77 F81 F83 F82 ge78) hZ (ow hw 13 rfl) (ow hw 10 rfl) (by decide) (by decide)) (g := (mkF m 159 #[Si p1, Si p2, Si p3, Sl q4, S2, Sl q5, S2, Si p6, Si vZ0, Si vZ1, Si vZ2, Si vL0, Si vL1, Si vL2, Si vI, Si vSz, Si vLo, Si vV, Su, Su, Su, Su, Su, Su, Su, Su, Su, Su, Su, Su, Su, Su] [(.ref b77), (.ref b77)])) rfl (by rw [hml]; rfl) (Steps.refl _) (a := b77) (argsL := []) (rest := [(.ref b77)]) (lenOf pd_0 rfl) rfl (by show 2 * 0 + _ ≤ _; exact Nat.le_of_eq rfl) (hb hby at_159) (fun _ _ => ⟨rfl, e77, (by decide : 1 + 0 ≤ _), (by decide : 3 + 0 ≤ _)⟩)
  dsimp only [Pt.U, Pt.locs, Pt.cells, Pt.slots] at X85 l85 y85 z85 st85 hQ85
  subst y85 z85
  obtain ⟨rfl, Nq85, q85_0, q85_1, q85_2, q85_3⟩ := hQ85
  have N86 := Eq.subst (motive := fun L => Fr n0 L) l85.symm (Fr.app N67 Nq85)
  have KC87 : Keep h0 T85.heap [] := KC80.trans q85_0 (allS (Or.inr sz79) all0)
  obtain ⟨T88, h88, X88, e88, E88, A88, D88, -, st88⟩ := newO X85 hx hZ hown (ow hw 34 rfl) (ow hw 35 rfl) (ow hw 36 rfl) rfl (g := (mkF m 166 #[Si p1, Si p2, Si p3, Sl q4, S2, Sl q5, S2, Si p6, Si vZ0, Si vZ1, Si vZ2, Si vL0, Si vL1, Si vL2, Si vI, Si vSz, Si vLo, Si vV, Sr b77, Su, Su, Su, Su, Su, Su, Su, Su, Su, Su, Su, Su, Su] [(.ref b77)])) rfl (hb hby at_166) (by decide) (by decide)
  obtain ⟨b88, g88⟩ : ∃ z, z = T85.heap.size := ⟨_, rfl⟩
  rw [← g88] at A88 D88 st88
  have F89 : Exa Z T85.heap b77 "java/util/ArrayList" := (A77.keep q85_0)
  have ne90 : b77 ≠ b88 := Nat.ne_of_lt (Nat.lt_of_lt_of_le F89.lt (Nat.le_of_eq g88.symm))
  have ge91 : n0 ≤ b88 := Nat.le_trans (Nat.le_trans Z0 KC87.1) (Nat.le_of_eq g88.symm)
  have sz92 : h0.size ≤ b88 := Nat.le_trans KC87.1 (Nat.le_of_eq g88.symm)
  have KC93 : Keep h0 h88 [] := KC87.ext E88
  have F94 : Fld Z h88 b88 "com/example/darlington/darlington/core/FiniteType" "first" "I" (.int (0 : Int32)) := D88 (Or.inr (ow hw 51 rfl)) (ty := .int) (by decide)
  have F95 : Fld Z h88 b88 "com/example/darlington/darlington/core/FiniteType" "size" "I" (.int (0 : Int32)) := D88 (Or.inr (ow hw 53 rfl)) (ty := .int) (by decide)
  obtain ⟨_, _, ⟨T96, L96, k96, n96⟩, -, X96, ⟨Lc96, hQ96, l96, y96, z96⟩, st96⟩ := X88.specialBack hx (y := (⟨"com/example/darlington/darlington/core/IntegerRange", "<init>", "(II)V"⟩ : MethodName)) rfl hown (mvT hZ (ow hw 37 rfl)) (mvT hZ (ow hw 38 rfl)) (mvT hZ (ow hw 39 rfl)) (by decide) (backOf (W := 2) (rm7 l Z a0 hw [] b88 vL0 (vL0 + (vZ0 - (1 : Int32))) (0 : Int32) (0 : Int32) h88 n0 (Nat.le_trans Z0 KC93.1) A88 F94 F95 ge91 hr0.1 hr0.2.1) hZ (ow hw 39 rfl) (ow hw 36 rfl) (by decide) (by decide)) (g := (mkF m 179 #[Si p1, Si p2, Si p3, Sl q4, S2, Sl q5, S2, Si p6, Si vZ0, Si vZ1, Si vZ2, Si vL0, Si vL1, Si vL2, Si vI, Si vSz, Si vLo, Si vV, Sr b77, Su, Su, Su, Su, Su, Su, Su, Su, Su, Su, Su, Su, Su] [(.int (vL0 + (vZ0 - (1 : Int32)))), (.int vL0), (.ref b88), (.ref b88), (.ref b77)])) rfl (by rw [hml]; rfl) (Steps.refl _) (a := b88) (argsL := [(.int vL0), (.int (vL0 + (vZ0 - (1 : Int32))))]) (rest := [(.ref b88), (.ref b77)]) (lenOf pd_7 rfl) rfl (by show 2 * 0 + _ ≤ _; exact Nat.le_of_eq rfl) (hb hby at_179) (fun _ _ => ⟨rfl, e88, (by decide : 2 + 0 ≤ _), (by decide : 5 + 0 ≤ _)⟩)
  dsimp only [Pt.U, Pt.locs, Pt.cells, Pt.slots] at X96 l96 y96 z96 st96 hQ96
  subst y96 z96
  obtain ⟨rfl, Nq96, q96_0, q96_1, q96_2⟩ := hQ96
  have N97 := Eq.subst (motive := fun L => Fr n0 L) l96.symm (Fr.app N86 Nq96)
  have KC98 : Keep h0 T96.heap [] := KC93.trans q96_0 (allS (Or.inr sz92) all0)
  rw [hr0.2.2] at q96_2
  have O99 : Old Z n0 T96.heap := (((O84.keep q85_0 (allS ge78 all0)).ext E88).keep q96_0 (allS ge91 all0))
  have F100 : Exa Z T96.heap b88 "com/example/darlington/darlington/core/IntegerRange" := (A88.keep q96_0)
  have F101 : Exa Z T96.heap b77 "java/util/ArrayList" := ((F89.ext E88).keep q96_0)
  have F102 : Fld Z T96.heap b77 "java/util/ArrayList" "size" "I" (.int (0 : Int32)) := ((q85_2.ext E88).keep q96_0 (ninS ne90 nin0))
  have F103 : Fld Z T96.heap b77 "java/util/ArrayList" "elementData" "[Ljava/lang/Object;" (.ref wE) := ((q85_3.ext E88).keep q96_0 (ninS ne90 nin0))
  have F104 : Fld Z T96.heap b77 "java/util/AbstractList" "modCount" "I" (.int (0 : Int32)) := ((q85_1.ext E88).keep q96_0 (ninS ne90 nin0))
  obtain ⟨cq105, kq105, q105a, q105b, q105c⟩ := isOf hZ rfl F101
  obtain ⟨_, _, ⟨T105, L105, k105, n105⟩, -, X105, ⟨Lc105, hQ105, l105, y105, z105⟩, st105⟩ := X96.interfaceBack hx (xi := (⟨"java/util/List", "add", "(Ljava/lang/Object;)Z"⟩ : MethodName)) (y := (⟨"java/util/ArrayList", "add", "(Ljava/lang/Object;)Z"⟩ : MethodName)) hown (mvT hZ (ow hw 54 rfl)) (mvT hZ (ow hw 55 rfl)) (mvT hZ (ow hw 56 rfl)) (mvT hZ (ow hw 57 rfl)) (mvT hZ (ow hw 58 rfl)) (mvT hZ (ow hw 59 rfl)) (mvT hZ (ow hw 60 rfl)) (mvT hZ (ow hw 61 rfl)) (by decide) (backOf (W := 0) (rm_addA0_IntegerRange l Z a0 hw [] b77 b88 wE kE (0 : Int32) T96.heap n0 (Nat.le_trans Z0 KC98.1) O99 SE VE ge78 F100 F101 F102 F103 F104) hZ (ow hw 62 rfl) (ow hw 10 rfl) (by decide) (by decide)) q105a q105b q105c (g := (mkF m 182 #[Si p1, Si p2, Si p3, Sl q4, S2, Sl q5, S2, Si p6, Si vZ0, Si vZ1, Si vZ2, Si vL0, Si vL1, Si vL2, Si vI, Si vSz, Si vLo, Si vV, Sr b77, Su, Su, Su, Su, Su, Su, Su, Su, Su, Su, Su, Su, Su] [(.ref b88), (.ref b77)])) rfl (by rw [hml]; rfl) (Steps.refl _) (argsL := [(.ref b88)]) (rest := []) (lenOf pd_10 rfl) rfl (by show 2 * 0 + _ ≤ _; exact Nat.le_of_eq rfl) (hb hby at_182) (fun _ _ => ⟨rfl, rfl, (by decide : 2 + 1 ≤ _), (by decide : 5 + 10 ≤ _)⟩)
  dsimp only [Pt.U, Pt.locs, Pt.cells, Pt.slots] at X105 l105 y105 z105 st105 hQ105
  subst y105 z105
  obtain ⟨r_105, kr_105, rfl, Nq105, q105_0, q105_1, q105_2, q105_3, q105_4, q105_5, q105_6⟩ := hQ105
  have N106 := Eq.subst (motive := fun L => Fr n0 L) l105.symm (Fr.app N97 Nq105)
  have ne107 : b77 ≠ r_105 := Nat.ne_of_lt (Nat.lt_of_lt_of_le F101.lt q105_1)
  have ne108 : b88 ≠ r_105 := Nat.ne_of_lt (Nat.lt_of_lt_of_le F100.lt q105_1)
  have ge109 : n0 ≤ r_105 := Nat.le_trans (Nat.le_trans Z0 KC98.1) q105_1
  have sz110 : h0.size ≤ r_105 := Nat.le_trans KC98.1 q105_1
  have KC111 : Keep h0 T105.heap [] := KC98.trans q105_0 (allS (Or.inr sz79) all0)
  obtain ⟨T112, h112, X112, e112, E112, A112, D112, -, st112⟩ := newO X105 hx hZ hown (ow hw 34 rfl) (ow hw 35 rfl) (ow hw 36 rfl) rfl (g := (mkF m 190 #[Si p1, Si p2, Si p3, Sl q4, S2, Sl q5, S2, Si p6, Si vZ0, Si vZ1, Si vZ2, Si vL0, Si vL1, Si vL2, Si vI, Si vSz, Si vLo, Si vV, Sr b77, Su, Su, Su, Su, Su, Su, Su, Su, Su, Su, Su, Su, Su] [(.ref b77)])) rfl (hb hby at_190) (by decide) (by decide)
  obtain ⟨b112, g112⟩ : ∃ z, z = T105.heap.size := ⟨_, rfl⟩
  rw [← g112] at A112 D112 st112
  have F113 : Exa Z T105.heap b77 "java/util/ArrayList" := (F101.keep q105_0)
  have ne114 : b77 ≠ b112 := Nat.ne_of_lt (Nat.lt_of_lt_of_le F113.lt (Nat.le_of_eq g112.symm))
  have F115 : Exa Z T105.heap b88 "com/example/darlington/darlington/core/IntegerRange" := (F100.keep q105_0)
  have ne116 : b88 ≠ b112 := Nat.ne_of_lt (Nat.lt_of_lt_of_le F115.lt (Nat.le_of_eq g112.symm))
  have ne117 : r_105 ≠ b112 := Nat.ne_of_lt (Nat.lt_of_lt_of_le q105_2.lt (Nat.le_of_eq g112.symm))
  have ge118 : n0 ≤ b112 := Nat.le_trans (Nat.le_trans Z0 KC111.1) (Nat.le_of_eq g112.symm)
  have sz119 : h0.size ≤ b112 := Nat.le_trans KC111.1 (Nat.le_of_eq g112.symm)
  have KC120 : Keep h0 h112 [] := KC111.ext E112
  have F121 : Fld Z h112 b112 "com/example/darlington/darlington/core/FiniteType" "first" "I" (.int (0 : Int32)) := D112 (Or.inr (ow hw 51 rfl)) (ty := .int) (by decide)
  have F122 : Fld Z h112 b112 "com/example/darlington/darlington/core/FiniteType" "size" "I" (.int (0 : Int32)) := D112 (Or.inr (ow hw 53 rfl)) (ty := .int) (by decide)
  obtain ⟨_, _, ⟨T123, L123, k123, n123⟩, -, X123, ⟨Lc123, hQ123, l123, y123, z123⟩, st123⟩ := X112.specialBack hx (y := (⟨"com/example/darlington/darlington/core/IntegerRange", "<init>", "(II)V"⟩ : MethodName)) rfl hown (mvT hZ (ow hw 37 rfl)) (mvT hZ (ow hw 38 rfl)) (mvT hZ (ow hw 39 rfl)) (by decide) (backOf (W := 2) (rm7 l Z a0 hw [] b112 vL1 (vL1 + (vZ1 - (1 : Int32))) (0 : Int32) (0 : Int32) h112 n0 (Nat.le_trans Z0 KC120.1) A112 F121 F122 ge118 hr1.1 hr1.2.1) hZ (ow hw 39 rfl) (ow hw 36 rfl) (by decide) (by decide)) (g := (mkF m 203 #[Si p1, Si p2, Si p3, Sl q4, S2, Sl q5, S2, Si p6, Si vZ0, Si vZ1, Si vZ2, Si vL0, Si vL1, Si vL2, Si vI, Si vSz, Si vLo, Si vV, Sr b77, Su, Su, Su, Su, Su, Su, Su, Su, Su, Su, Su, Su, Su] [(.int (vL1 + (vZ1 - (1 : Int32)))), (.int vL1), (.ref b112), (.ref b112), (.ref b77)])) rfl (by rw [hml]; rfl) (Steps.refl _) (a := b112) (argsL := [(.int vL1), (.int (vL1 + (vZ1 - (1 : Int32))))]) (rest := [(.ref b112), (.ref b77)]) (lenOf pd_7 rfl) rfl (by show 2 * 0 + _ ≤ _; exact Nat.le_of_eq rfl) (hb hby at_203) (fun _ _ => ⟨rfl, e112, (by decide : 4 + 0 ≤ _), (by decide : 17 + 0 ≤ _)⟩)
  dsimp only [Pt.U, Pt.locs, Pt.cells, Pt.slots] at X123 l123 y123 z123 st123 hQ123
  subst y123 z123
  obtain ⟨rfl, Nq123, q123_0, q123_1, q123_2⟩ := hQ123
  have N124 := Eq.subst (motive := fun L => Fr n0 L) l123.symm (Fr.app N106 Nq123)
  have KC125 : Keep h0 T123.heap [] := KC120.trans q123_0 (allS (Or.inr sz119) all0)
  rw [hr1.2.2] at q123_2
  have F126 : Exa Z T123.heap b77 "java/util/ArrayList" := ((F113.ext E112).keep q123_0)
  have F127 : Fld Z T123.heap b77 "java/util/ArrayList" "size" "I" (.int (1 : Int32)) := ((q105_5.ext E112).keep q123_0 (ninS ne114 nin0))
  have F128 : Fld Z T123.heap b77 "java/util/ArrayList" "elementData" "[Ljava/lang/Object;" (.ref r_105) := ((q105_4.ext E112).keep q123_0 (ninS ne114 nin0))
  have F129 : Fld Z T123.heap b77 "java/util/AbstractList" "modCount" "I" (.int ((0 : Int32) + (1 : Int32))) := ((q105_6.ext E112).keep q123_0 (ninS ne114 nin0))
  have F130 : Exa Z T123.heap b112 "com/example/darlington/darlington/core/IntegerRange" := (A112.keep q123_0)
  have F131 : Arv Z T123.heap r_105 kr_105 (.object "java/lang/Object") (10 : Int32) [(.ref b88), .null, .null, .null, .null, .null, .null, .null, .null, .null] .null := ((q105_2.ext E112).keep q123_0 (ninS ne117 nin0))
  obtain ⟨cq132, kq132, q132a, q132b, q132c⟩ := isOf hZ rfl F126
  obtain ⟨_, _, ⟨T132, L132, k132, n132⟩, -, X132, ⟨Lc132, hQ132, l132, y132, z132⟩, st132⟩ := X123.interfaceBack hx (xi := (⟨"java/util/List", "add", "(Ljava/lang/Object;)Z"⟩ : MethodName)) (y := (⟨"java/util/ArrayList", "add", "(Ljava/lang/Object;)Z"⟩ : MethodName)) hown (mvT hZ (ow hw 54 rfl)) (mvT hZ (ow hw 55 rfl)) (mvT hZ (ow hw 56 rfl)) (mvT hZ (ow hw 57 rfl)) (mvT hZ (ow hw 58 rfl)) (mvT hZ (ow hw 59 rfl)) (mvT hZ (ow hw 60 rfl)) (mvT hZ (ow hw 61 rfl)) (by decide) (backOf (W := 0) (rm_addA1_IntegerRange l Z a0 hw [] b77 b112 r_105 kr_105 ((0 : Int32) + (1 : Int32)) b88 T123.heap n0 (Nat.le_trans Z0 KC125.1) F126 F127 F128 F129 ge78 F130 ge109 ne107 (Ne.symm ne117) F131 q105_3) hZ (ow hw 62 rfl) (ow hw 10 rfl) (by decide) (by decide)) q132a q132b q132c (g := (mkF m 206 #[Si p1, Si p2, Si p3, Sl q4, S2, Sl q5, S2, Si p6, Si vZ0, Si vZ1, Si vZ2, Si vL0, Si vL1, Si vL2, Si vI, Si vSz, Si vLo, Si vV, Sr b77, Su, Su, Su, Su, Su, Su, Su, Su, Su, Su, Su, Su, Su] [(.ref b112), (.ref b77)])) rfl (by rw [hml]; rfl) (Steps.refl _) (argsL := [(.ref b112)]) (rest := []) (lenOf pd_10 rfl) rfl (by show 2 * 0 + _ ≤ _; exact Nat.le_of_eq rfl) (hb hby at_206) (fun _ _ => ⟨rfl, rfl, (by decide : 4 + 0 ≤ _), (by decide : 17 + 0 ≤ _)⟩)
  dsimp only [Pt.U, Pt.locs, Pt.cells, Pt.slots] at X132 l132 y132 z132 st132 hQ132
  subst y132 z132
  obtain ⟨rfl, Nq132, q132_0, q132_1, q132_2, q132_3, q132_4⟩ := hQ132
  have N133 := Eq.subst (motive := fun L => Fr n0 L) l132.symm (Fr.app N124 Nq132)
  have KC134 : Keep h0 T132.heap [] := KC125.trans q132_0 (allS (Or.inr sz79) (allS (Or.inr sz110) all0))
  obtain ⟨T135, h135, X135, e135, E135, A135, D135, -, st135⟩ := newO X132 hx hZ hown (ow hw 34 rfl) (ow hw 35 rfl) (ow hw 36 rfl) rfl (g := (mkF m 214 #[Si p1, Si p2, Si p3, Sl q4, S2, Sl q5, S2, Si p6, Si vZ0, Si vZ1, Si vZ2, Si vL0, Si vL1, Si vL2, Si vI, Si vSz, Si vLo, Si vV, Sr b77, Su, Su, Su, Su, Su, Su, Su, Su, Su, Su, Su, Su, Su] [(.ref b77)])) rfl (hb hby at_214) (by decide) (by decide)
  obtain ⟨b135, g135⟩ : ∃ z, z = T132.heap.size := ⟨_, rfl⟩
  rw [← g135] at A135 D135 st135
  have F136 : Exa Z T132.heap b77 "java/util/ArrayList" := (F126.keep q132_0)
  have ne137 : b77 ≠ b135 := Nat.ne_of_lt (Nat.lt_of_lt_of_le F136.lt (Nat.le_of_eq g135.symm))
  have F138 : Exa Z T132.heap b88 "com/example/darlington/darlington/core/IntegerRange" := (((F115.ext E112).keep q123_0).keep q132_0)
  have ne139 : b88 ≠ b135 := Nat.ne_of_lt (Nat.lt_of_lt_of_le F138.lt (Nat.le_of_eq g135.symm))
  have ne140 : r_105 ≠ b135 := Nat.ne_of_lt (Nat.lt_of_lt_of_le q132_1.lt (Nat.le_of_eq g135.symm))
  have F141 : Exa Z T132.heap b112 "com/example/darlington/darlington/core/IntegerRange" := (F130.keep q132_0)
  have ne142 : b112 ≠ b135 := Nat.ne_of_lt (Nat.lt_of_lt_of_le F141.lt (Nat.le_of_eq g135.symm))
  have ge143 : n0 ≤ b135 := Nat.le_trans (Nat.le_trans Z0 KC134.1) (Nat.le_of_eq g135.symm)
  have sz144 : h0.size ≤ b135 := Nat.le_trans KC134.1 (Nat.le_of_eq g135.symm)
  have KC145 : Keep h0 h135 [] := KC134.ext E135
  have F146 : Fld Z h135 b135 "com/example/darlington/darlington/core/FiniteType" "first" "I" (.int (0 : Int32)) := D135 (Or.inr (ow hw 51 rfl)) (ty := .int) (by decide)
  have F147 : Fld Z h135 b135 "com/example/darlington/darlington/core/FiniteType" "size" "I" (.int (0 : Int32)) := D135 (Or.inr (ow hw 53 rfl)) (ty := .int) (by decide)
  obtain ⟨_, _, ⟨T148, L148, k148, n148⟩, -, X148, ⟨Lc148, hQ148, l148, y148, z148⟩, st148⟩ := X135.specialBack hx (y := (⟨"com/example/darlington/darlington/core/IntegerRange", "<init>", "(II)V"⟩ : MethodName)) rfl hown (mvT hZ (ow hw 37 rfl)) (mvT hZ (ow hw 38 rfl)) (mvT hZ (ow hw 39 rfl)) (by decide) (backOf (W := 2) (rm7 l Z a0 hw [] b135 vL2 (vL2 + (vZ2 - (1 : Int32))) (0 : Int32) (0 : Int32) h135 n0 (Nat.le_trans Z0 KC145.1) A135 F146 F147 ge143 hr2.1 hr2.2.1) hZ (ow hw 39 rfl) (ow hw 36 rfl) (by decide) (by decide)) (g := (mkF m 227 #[Si p1, Si p2, Si p3, Sl q4, S2, Sl q5, S2, Si p6, Si vZ0, Si vZ1, Si vZ2, Si vL0, Si vL1, Si vL2, Si vI, Si vSz, Si vLo, Si vV, Sr b77, Su, Su, Su, Su, Su, Su, Su, Su, Su, Su, Su, Su, Su] [(.int (vL2 + (vZ2 - (1 : Int32)))), (.int vL2), (.ref b135), (.ref b135), (.ref b77)])) rfl (by rw [hml]; rfl) (Steps.refl _) (a := b135) (argsL := [(.int vL2), (.int (vL2 + (vZ2 - (1 : Int32))))]) (rest := [(.ref b135), (.ref b77)]) (lenOf pd_7 rfl) rfl (by show 2 * 0 + _ ≤ _; exact Nat.le_of_eq rfl) (hb hby at_227) (fun _ _ => ⟨rfl, e135, (by decide : 5 + 0 ≤ _), (by decide : 19 + 0 ≤ _)⟩)
  dsimp only [Pt.U, Pt.locs, Pt.cells, Pt.slots] at X148 l148 y148 z148 st148 hQ148
  subst y148 z148
  obtain ⟨rfl, Nq148, q148_0, q148_1, q148_2⟩ := hQ148
  have N149 := Eq.subst (motive := fun L => Fr n0 L) l148.symm (Fr.app N133 Nq148)
  have KC150 : Keep h0 T148.heap [] := KC145.trans q148_0 (allS (Or.inr sz144) all0)
  rw [hr2.2.2] at q148_2
  have F151 : Exa Z T148.heap b77 "java/util/ArrayList" := ((F136.ext E135).keep q148_0)
  have F152 : Fld Z T148.heap b77 "java/util/ArrayList" "size" "I" (.int (2 : Int32)) := ((q132_3.ext E135).keep q148_0 (ninS ne137 nin0))
  have F153 : Fld Z T148.heap b77 "java/util/ArrayList" "elementData" "[Ljava/lang/Object;" (.ref r_105) := ((q132_2.ext E135).keep q148_0 (ninS ne137 nin0))
  have F154 : Fld Z T148.heap b77 "java/util/AbstractList" "modCount" "I" (.int (((0 : Int32) + (1 : Int32)) + (1 : Int32))) := ((q132_4.ext E135).keep q148_0 (ninS ne137 nin0))
  have F155 : Exa Z T148.heap b135 "com/example/darlington/darlington/core/IntegerRange" := (A135.keep q148_0)
  have F156 : Arv Z T148.heap r_105 kr_105 (.object "java/lang/Object") (10 : Int32) [(.ref b88), (.ref b112), .null, .null, .null, .null, .null, .null, .null, .null] .null := ((q132_1.ext E135).keep q148_0 (ninS ne140 nin0))
  obtain ⟨cq157, kq157, q157a, q157b, q157c⟩ := isOf hZ rfl F151
  obtain ⟨_, _, ⟨T157, L157, k157, n157⟩, -, X157, ⟨Lc157, hQ157, l157, y157, z157⟩, st157⟩ := X148.interfaceBack hx (xi := (⟨"java/util/List", "add", "(Ljava/lang/Object;)Z"⟩ : MethodName)) (y := (⟨"java/util/ArrayList", "add", "(Ljava/lang/Object;)Z"⟩ : MethodName)) hown (mvT hZ (ow hw 54 rfl)) (mvT hZ (ow hw 55 rfl)) (mvT hZ (ow hw 56 rfl)) (mvT hZ (ow hw 57 rfl)) (mvT hZ (ow hw 58 rfl)) (mvT hZ (ow hw 59 rfl)) (mvT hZ (ow hw 60 rfl)) (mvT hZ (ow hw 61 rfl)) (by decide) (backOf (W := 0) (rm_addA2_IntegerRange l Z a0 hw [] b77 b135 r_105 kr_105 (((0 : Int32) + (1 : Int32)) + (1 : Int32)) b88 b112 T148.heap n0 (Nat.le_trans Z0 KC150.1) F151 F152 F153 F154 ge78 F155 ge109 ne107 (Ne.symm ne140) F156 q105_3) hZ (ow hw 62 rfl) (ow hw 10 rfl) (by decide) (by decide)) q157a q157b q157c (g := (mkF m 230 #[Si p1, Si p2, Si p3, Sl q4, S2, Sl q5, S2, Si p6, Si vZ0, Si vZ1, Si vZ2, Si vL0, Si vL1, Si vL2, Si vI, Si vSz, Si vLo, Si vV, Sr b77, Su, Su, Su, Su, Su, Su, Su, Su, Su, Su, Su, Su, Su] [(.ref b135), (.ref b77)])) rfl (by rw [hml]; rfl) (Steps.refl _) (argsL := [(.ref b135)]) (rest := []) (lenOf pd_10 rfl) rfl (by show 2 * 0 + _ ≤ _; exact Nat.le_of_eq rfl) (hb hby at_230) (fun _ _ => ⟨rfl, rfl, (by decide : 5 + 0 ≤ _), (by decide : 19 + 0 ≤ _)⟩)
  dsimp only [Pt.U, Pt.locs, Pt.cells, Pt.slots] at X157 l157 y157 z157 st157 hQ157
  subst y157 z157
  obtain ⟨rfl, Nq157, q157_0, q157_1, q157_2, q157_3, q157_4⟩ := hQ157
  have N158 := Eq.subst (motive := fun L => Fr n0 L) l157.symm (Fr.app N149 Nq157)
  have KC159 : Keep h0 T157.heap [] := KC150.trans q157_0 (allS (Or.inr sz79) (allS (Or.inr sz110) all0))
  obtain ⟨T160, h160, X160, e160, E160, A160, D160, -, st160⟩ := newO X157 hx hZ hown (ow hw 86 rfl) (ow hw 87 rfl) (ow hw 88 rfl) rfl (g := (mkF m 236 #[Si p1, Si p2, Si p3, Sl q4, S2, Sl q5, S2, Si p6, Si vZ0, Si vZ1, Si vZ2, Si vL0, Si vL1, Si vL2, Si vI, Si vSz, Si vLo, Si vV, Sr b77, Su, Su, Su, Su, Su, Su, Su, Su, Su, Su, Su, Su, Su] [])) rfl (hb hby at_236) (by decide) (by decide)
  obtain ⟨b160, g160⟩ : ∃ z, z = T157.heap.size := ⟨_, rfl⟩
  rw [← g160] at A160 D160 st160
  have F161 : Exa Z T157.heap b77 "java/util/ArrayList" := (F151.keep q157_0)
  have ne162 : b77 ≠ b160 := Nat.ne_of_lt (Nat.lt_of_lt_of_le F161.lt (Nat.le_of_eq g160.symm))
  have F163 : Exa Z T157.heap b88 "com/example/darlington/darlington/core/IntegerRange" := (((F138.ext E135).keep q148_0).keep q157_0)
  have ne164 : b88 ≠ b160 := Nat.ne_of_lt (Nat.lt_of_lt_of_le F163.lt (Nat.le_of_eq g160.symm))
  have ne165 : r_105 ≠ b160 := Nat.ne_of_lt (Nat.lt_of_lt_of_le q157_1.lt (Nat.le_of_eq g160.symm))
  have F166 : Exa Z T157.heap b112 "com/example/darlington/darlington/core/IntegerRange" := (((F141.ext E135).keep q148_0).keep q157_0)
  have ne167 : b112 ≠ b160 := Nat.ne_of_lt (Nat.lt_of_lt_of_le F166.lt (Nat.le_of_eq g160.symm))
  have F168 : Exa Z T157.heap b135 "com/example/darlington/darlington/core/IntegerRange" := (F155.keep q157_0)
  have ne169 : b135 ≠ b160 := Nat.ne_of_lt (Nat.lt_of_lt_of_le F168.lt (Nat.le_of_eq g160.symm))
  have ge170 : n0 ≤ b160 := Nat.le_trans (Nat.le_trans Z0 KC159.1) (Nat.le_of_eq g160.symm)
  have sz171 : h0.size ≤ b160 := Nat.le_trans KC159.1 (Nat.le_of_eq g160.symm)
  have KC172 : Keep h0 h160 [] := KC159.ext E160
  have F173 : Fld Z h160 b160 "com/example/darlington/darlington/core/StateLayout" "wordOf" "[I" .null := D160 (Or.inr (ow hw 103 rfl)) (ty := (.array .int)) (by decide)
  have F174 : Fld Z h160 b160 "com/example/darlington/darlington/core/StateLayout" "shiftOf" "[I" .null := D160 (Or.inr (ow hw 105 rfl)) (ty := (.array .int)) (by decide)
  have F175 : Fld Z h160 b160 "com/example/darlington/darlington/core/StateLayout" "maskOf" "[J" .null := D160 (Or.inr (ow hw 108 rfl)) (ty := (.array .long)) (by decide)
  have F176 : Fld Z h160 b160 "com/example/darlington/darlington/core/StateLayout" "firstOf" "[I" .null := D160 (Or.inr (ow hw 110 rfl)) (ty := (.array .int)) (by decide)
  have F177 : Fld Z h160 b160 "com/example/darlington/darlington/core/StateLayout" "wordsPerState" "I" (.int (0 : Int32)) := D160 (Or.inr (ow hw 151 rfl)) (ty := .int) (by decide)
  have F178 : Exa Z h160 b77 "java/util/ArrayList" := (F161.ext E160)
  have F179 : Fld Z h160 b77 "java/util/ArrayList" "size" "I" (.int (3 : Int32)) := (q157_3.ext E160)
  have F180 : Fld Z h160 b77 "java/util/ArrayList" "elementData" "[Ljava/lang/Object;" (.ref r_105) := (q157_2.ext E160)
  have F181 : Arv Z h160 r_105 kr_105 (.object "java/lang/Object") (10 : Int32) [(.ref b88), (.ref b112), (.ref b135), .null, .null, .null, .null, .null, .null, .null] .null := (q157_1.ext E160)
  have F182 : Exa Z h160 b88 "com/example/darlington/darlington/core/IntegerRange" := (F163.ext E160)
  have F183 : Fld Z h160 b88 "com/example/darlington/darlington/core/FiniteType" "first" "I" (.int vL0) := ((((((((q96_1.keep q105_0 (ninS (Ne.symm ne90) nin0)).ext E112).keep q123_0 (ninS ne116 nin0)).keep q132_0 (ninS (Ne.symm ne90) (ninS ne108 nin0))).ext E135).keep q148_0 (ninS ne139 nin0)).keep q157_0 (ninS (Ne.symm ne90) (ninS ne108 nin0))).ext E160)
  have F184 : Fld Z h160 b88 "com/example/darlington/darlington/core/FiniteType" "size" "I" (.int vZ0) := ((((((((q96_2.keep q105_0 (ninS (Ne.symm ne90) nin0)).ext E112).keep q123_0 (ninS ne116 nin0)).keep q132_0 (ninS (Ne.symm ne90) (ninS ne108 nin0))).ext E135).keep q148_0 (ninS ne139 nin0)).keep q157_0 (ninS (Ne.symm ne90) (ninS ne108 nin0))).ext E160)
  have F185 : Exa Z h160 b112 "com/example/darlington/darlington/core/IntegerRange" := (F166.ext E160)
  have F186 : Fld Z h160 b112 "com/example/darlington/darlington/core/FiniteType" "first" "I" (.int vL1) := (((((q123_1.keep q132_0 (ninS (Ne.symm ne114) (ninS (Ne.symm ne117) nin0))).ext E135).keep q148_0 (ninS ne142 nin0)).keep q157_0 (ninS (Ne.symm ne114) (ninS (Ne.symm ne117) nin0))).ext E160)
  have F187 : Fld Z h160 b112 "com/example/darlington/darlington/core/FiniteType" "size" "I" (.int vZ1) := (((((q123_2.keep q132_0 (ninS (Ne.symm ne114) (ninS (Ne.symm ne117) nin0))).ext E135).keep q148_0 (ninS ne142 nin0)).keep q157_0 (ninS (Ne.symm ne114) (ninS (Ne.symm ne117) nin0))).ext E160)
  have F188 : Exa Z h160 b135 "com/example/darlington/darlington/core/IntegerRange" := (F168.ext E160)
  have F189 : Fld Z h160 b135 "com/example/darlington/darlington/core/FiniteType" "first" "I" (.int vL2) := ((q148_1.keep q157_0 (ninS (Ne.symm ne137) (ninS (Ne.symm ne140) nin0))).ext E160)
  have F190 : Fld Z h160 b135 "com/example/darlington/darlington/core/FiniteType" "size" "I" (.int vZ2) := ((q148_2.keep q157_0 (ninS (Ne.symm ne137) (ninS (Ne.symm ne140) nin0))).ext E160)
  obtain ⟨_, _, ⟨T191, L191, k191, n191⟩, -, X191, ⟨Lc191, hQ191, l191, y191, z191⟩, st191⟩ := X160.specialBack hx (y := (⟨"com/example/darlington/darlington/core/StateLayout", "<init>", "(Ljava/util/List;)V"⟩ : MethodName)) rfl hown (mvT hZ (ow hw 89 rfl)) (mvT hZ (ow hw 90 rfl)) (mvT hZ (ow hw 91 rfl)) (by decide) (backOf (W := 1) (rm_lay l Z a0 hw [] b160 b77 r_105 kr_105 b88 b112 b135 vL0 vL1 vL2 vZ0 vZ1 vZ2 h160 n0 (Nat.le_trans Z0 KC172.1) A160 ge170 F173 F174 F175 F176 F177 F178 F179 F180 F181 ne162 ne165 F182 F183 F184 ne164 (own_pos0 hz0) F185 F186 F187 ne167 (own_pos0 hz1) F188 F189 F190 ne169 (own_pos0 hz2) U4 U5) hZ (ow hw 91 rfl) (ow hw 88 rfl) (by decide) (by decide)) (g := (mkF m 242 #[Si p1, Si p2, Si p3, Sl q4, S2, Sl q5, S2, Si p6, Si vZ0, Si vZ1, Si vZ2, Si vL0, Si vL1, Si vL2, Si vI, Si vSz, Si vLo, Si vV, Sr b77, Su, Su, Su, Su, Su, Su, Su, Su, Su, Su, Su, Su, Su] [(.ref b77), (.ref b160), (.ref b160)])) rfl (by rw [hml]; rfl) (Steps.refl _) (a := b160) (argsL := [(.ref b77)]) (rest := [(.ref b160)]) (lenOf pd_11 rfl) rfl (by show 2 * 0 + _ ≤ _; exact Nat.le_of_eq rfl) (hb hby at_242) (fun _ _ => ⟨rfl, e160, (by decide : 6 + 4 ≤ _), (by decide : 24 + 12 ≤ _)⟩)
  dsimp only [Pt.U, Pt.locs, Pt.cells, Pt.slots] at X191 l191 y191 z191 st191 hQ191
  subst y191 z191
  obtain ⟨r1_191, r2_191, r3_191, r4_191, c1_191, c2_191, c3_191, c4_191, rfl, Nq191, q191_0, q191_1, q191_2, q191_3, q191_4, q191_5, q191_6, q191_7, q191_8, q191_9, q191_10, q191_11, q191_12, q191_13⟩ := hQ191
  have N192 := Eq.subst (motive := fun L => Fr n0 L) l191.symm (Fr.app N158 Nq191)
  have ne193 : b77 ≠ r1_191 := Nat.ne_of_lt (Nat.lt_of_lt_of_le F178.lt q191_1)
  have ne194 : b88 ≠ r1_191 := Nat.ne_of_lt (Nat.lt_of_lt_of_le F182.lt q191_1)
  have ne195 : r_105 ≠ r1_191 := Nat.ne_of_lt (Nat.lt_of_lt_of_le F181.lt q191_1)
  have ne196 : b112 ≠ r1_191 := Nat.ne_of_lt (Nat.lt_of_lt_of_le F185.lt q191_1)
  have ne197 : b135 ≠ r1_191 := Nat.ne_of_lt (Nat.lt_of_lt_of_le F188.lt q191_1)
  have ne198 : b160 ≠ r1_191 := Nat.ne_of_lt (Nat.lt_of_lt_of_le A160.lt q191_1)
  have ge199 : n0 ≤ r1_191 := Nat.le_trans (Nat.le_trans Z0 KC172.1) q191_1
  have sz200 : h0.size ≤ r1_191 := Nat.le_trans KC172.1 q191_1
  have ne201 : b77 ≠ r2_191 := Nat.ne_of_lt (Nat.lt_of_lt_of_le F178.lt q191_4)
  have ne202 : b88 ≠ r2_191 := Nat.ne_of_lt (Nat.lt_of_lt_of_le F182.lt q191_4)
  have ne203 : r_105 ≠ r2_191 := Nat.ne_of_lt (Nat.lt_of_lt_of_le F181.lt q191_4)
  have ne204 : b112 ≠ r2_191 := Nat.ne_of_lt (Nat.lt_of_lt_of_le F185.lt q191_4)
  have ne205 : b135 ≠ r2_191 := Nat.ne_of_lt (Nat.lt_of_lt_of_le F188.lt q191_4)
  have ne206 : b160 ≠ r2_191 := Nat.ne_of_lt (Nat.lt_of_lt_of_le A160.lt q191_4)
  have ge207 : n0 ≤ r2_191 := Nat.le_trans (Nat.le_trans Z0 KC172.1) q191_4
  have sz208 : h0.size ≤ r2_191 := Nat.le_trans KC172.1 q191_4
  have ne209 : b77 ≠ r3_191 := Nat.ne_of_lt (Nat.lt_of_lt_of_le F178.lt q191_7)
  have ne210 : b88 ≠ r3_191 := Nat.ne_of_lt (Nat.lt_of_lt_of_le F182.lt q191_7)
  have ne211 : r_105 ≠ r3_191 := Nat.ne_of_lt (Nat.lt_of_lt_of_le F181.lt q191_7)
  have ne212 : b112 ≠ r3_191 := Nat.ne_of_lt (Nat.lt_of_lt_of_le F185.lt q191_7)
  have ne213 : b135 ≠ r3_191 := Nat.ne_of_lt (Nat.lt_of_lt_of_le F188.lt q191_7)
  have ne214 : b160 ≠ r3_191 := Nat.ne_of_lt (Nat.lt_of_lt_of_le A160.lt q191_7)
  have ge215 : n0 ≤ r3_191 := Nat.le_trans (Nat.le_trans Z0 KC172.1) q191_7
  have sz216 : h0.size ≤ r3_191 := Nat.le_trans KC172.1 q191_7
  have ne217 : b77 ≠ r4_191 := Nat.ne_of_lt (Nat.lt_of_lt_of_le F178.lt q191_10)
  have ne218 : b88 ≠ r4_191 := Nat.ne_of_lt (Nat.lt_of_lt_of_le F182.lt q191_10)
  have ne219 : r_105 ≠ r4_191 := Nat.ne_of_lt (Nat.lt_of_lt_of_le F181.lt q191_10)
  have ne220 : b112 ≠ r4_191 := Nat.ne_of_lt (Nat.lt_of_lt_of_le F185.lt q191_10)
  have ne221 : b135 ≠ r4_191 := Nat.ne_of_lt (Nat.lt_of_lt_of_le F188.lt q191_10)
  have ne222 : b160 ≠ r4_191 := Nat.ne_of_lt (Nat.lt_of_lt_of_le A160.lt q191_10)
  have ge223 : n0 ≤ r4_191 := Nat.le_trans (Nat.le_trans Z0 KC172.1) q191_10
  have sz224 : h0.size ≤ r4_191 := Nat.le_trans KC172.1 q191_10
  have KC225 : Keep h0 T191.heap [] := KC172.trans q191_0 (allS (Or.inr sz171) all0)
  have pre226 : ∀ t, Steps p.tables e below (T191.setTop (mkF m 247 #[Si p1, Si p2, Si p3, Sl q4, S2, Sl q5, S2, Si p6, Si vZ0, Si vZ1, Si vZ2, Si vL0, Si vL1, Si vL2, Si vI, Si vSz, Si vLo, Si vV, Sr b77, Sr b160, Su, Su, Su, Su, Su, Su, Su, Su, Su, Su, Su, Su] [])) t → Steps p.tables e below (s₁.setTop (entryFrame m #[(.int p1), (.int p2), (.int p3), (.long q4), (.long q5), (.int p6)] maxLocals)) t := by
    intro t k
    refine pre76 t ?_
    refine st77 _ ?_
    refine XS.dup X77.here hx rfl (hb hby at_158) rfl rfl ?_
    refine st85.trans ?_
    refine XS.astore X85.here hx rfl (hb hby at_162) rfl rfl (l' := #[Si p1, Si p2, Si p3, Sl q4, S2, Sl q5, S2, Si p6, Si vZ0, Si vZ1, Si vZ2, Si vL0, Si vL1, Si vL2, Si vI, Si vSz, Si vLo, Si vV, Sr b77, Su, Su, Su, Su, Su, Su, Su, Su, Su, Su, Su, Su, Su]) rfl ?_
    refine XS.aload X85.here hx rfl (hb hby at_164) rfl rfl ?_
    refine st88 _ ?_
    refine XS.dup X88.here hx rfl (hb hby at_169) rfl rfl ?_
    refine XS.iload X88.here hx rfl (hb hby at_170) rfl ?_
    show Steps _ _ _ (T88.setTop (mkF m 172 #[Si p1, Si p2, Si p3, Sl q4, S2, Sl q5, S2, Si p6, Si vZ0, Si vZ1, Si vZ2, Si vL0, Si vL1, Si vL2, Si vI, Si vSz, Si vLo, Si vV, Sr b77, Su, Su, Su, Su, Su, Su, Su, Su, Su, Su, Su, Su, Su] [(.int vL0), (.ref b88), (.ref b88), (.ref b77)])) _
    refine XS.iload X88.here hx rfl (hb hby at_172) rfl ?_
    refine XS.iload X88.here hx rfl (hb hby at_174) rfl ?_
    refine XS.iconst X88.here hx rfl (hb hby at_176) ?_
    refine XS.isub X88.here hx rfl (hb hby at_177) rfl ?_
    refine XS.iadd X88.here hx rfl (hb hby at_178) rfl ?_
    refine st96.trans ?_
    refine st105.trans ?_
    refine XS.pop X105.here hx rfl (hb hby at_187) rfl rfl ?_
    refine XS.aload X105.here hx rfl (hb hby at_188) rfl rfl ?_
    refine st112 _ ?_
    show Steps _ _ _ (T112.setTop (mkF m 193 #[Si p1, Si p2, Si p3, Sl q4, S2, Sl q5, S2, Si p6, Si vZ0, Si vZ1, Si vZ2, Si vL0, Si vL1, Si vL2, Si vI, Si vSz, Si vLo, Si vV, Sr b77, Su, Su, Su, Su, Su, Su, Su, Su, Su, Su, Su, Su, Su] [(.ref b112), (.ref b77)])) _
    refine XS.dup X112.here hx rfl (hb hby at_193) rfl rfl ?_
    refine XS.iload X112.here hx rfl (hb hby at_194) rfl ?_
    refine XS.iload X112.here hx rfl (hb hby at_196) rfl ?_
    refine XS.iload X112.here hx rfl (hb hby at_198) rfl ?_
    refine XS.iconst X112.here hx rfl (hb hby at_200) ?_
    refine XS.isub X112.here hx rfl (hb hby at_201) rfl ?_
    refine XS.iadd X112.here hx rfl (hb hby at_202) rfl ?_
    refine st123.trans ?_
    refine st132.trans ?_
    refine XS.pop X132.here hx rfl (hb hby at_211) rfl rfl ?_
    show Steps _ _ _ (T132.setTop (mkF m 212 #[Si p1, Si p2, Si p3, Sl q4, S2, Sl q5, S2, Si p6, Si vZ0, Si vZ1, Si vZ2, Si vL0, Si vL1, Si vL2, Si vI, Si vSz, Si vLo, Si vV, Sr b77, Su, Su, Su, Su, Su, Su, Su, Su, Su, Su, Su, Su, Su] [])) _
    refine XS.aload X132.here hx rfl (hb hby at_212) rfl rfl ?_
    refine st135 _ ?_
    refine XS.dup X135.here hx rfl (hb hby at_217) rfl rfl ?_
    refine XS.iload X135.here hx rfl (hb hby at_218) rfl ?_
    refine XS.iload X135.here hx rfl (hb hby at_220) rfl ?_
    refine XS.iload X135.here hx rfl (hb hby at_222) rfl ?_
    refine XS.iconst X135.here hx rfl (hb hby at_224) ?_
    refine XS.isub X135.here hx rfl (hb hby at_225) rfl ?_
    refine XS.iadd X135.here hx rfl (hb hby at_226) rfl ?_
    refine st148.trans ?_
    show Steps _ _ _ (T148.setTop (mkF m 230 #[Si p1, Si p2, Si p3, Sl q4, S2, Sl q5, S2, Si p6, Si vZ0, Si vZ1, Si vZ2, Si vL0, Si vL1, Si vL2, Si vI, Si vSz, Si vLo, Si vV, Sr b77, Su, Su, Su, Su, Su, Su, Su, Su, Su, Su, Su, Su, Su] [(.ref b135), (.ref b77)])) _
    refine st157.trans ?_
    refine XS.pop X157.here hx rfl (hb hby at_235) rfl rfl ?_
    refine st160 _ ?_
    refine XS.dup X160.here hx rfl (hb hby at_239) rfl rfl ?_
    refine XS.aload X160.here hx rfl (hb hby at_240) rfl rfl ?_
    refine st191.trans ?_
    refine XS.astore X191.here hx rfl (hb hby at_245) rfl rfl (l' := #[Si p1, Si p2, Si p3, Sl q4, S2, Sl q5, S2, Si p6, Si vZ0, Si vZ1, Si vZ2, Si vL0, Si vL1, Si vL2, Si vI, Si vSz, Si vLo, Si vV, Sr b77, Sr b160, Su, Su, Su, Su, Su, Su, Su, Su, Su, Su, Su, Su]) rfl ?_
    exact k
  by_cases hAB : (64 : Int32) < ((((1 : Int32) + (own_bits vZ0)) + (own_bits vZ1)) + (own_bits vZ2))
  · have hw2 : own_w2 vZ0 vZ1 vZ2 = (1 : Int32) := if_pos hAB
    have hs2 : own_s2 vZ0 vZ1 vZ2 = (0 : Int32) := if_pos hAB
    rw [hw2] at q191_2
    rw [hs2] at q191_5
    have pre227 : ∀ t, Steps p.tables e below (T191.setTop (mkF m 253 #[Si p1, Si p2, Si p3, Sl q4, S2, Sl q5, S2, Si p6, Si vZ0, Si vZ1, Si vZ2, Si vL0, Si vL1, Si vL2, Si vI, Si vSz, Si vLo, Si vV, Sr b77, Sr b160, Sl (q5 ||| (1 : Int64)), S2, Su, Su, Su, Su, Su, Su, Su, Su, Su, Su] [])) t → Steps p.tables e below (s₁.setTop (entryFrame m #[(.int p1), (.int p2), (.int p3), (.long q4), (.long q5), (.int p6)] maxLocals)) t := by
      intro t k
      refine pre226 t ?_
      refine XS.lload X191.here hx rfl (hb hby at_247) rfl ?_
      refine XS.lconst X191.here hx rfl (hb hby at_249) ?_
      refine XS.lor X191.here hx rfl (hb hby at_250) rfl ?_
      show Steps _ _ _ (T191.setTop (mkF m 251 #[Si p1, Si p2, Si p3, Sl q4, S2, Sl q5, S2, Si p6, Si vZ0, Si vZ1, Si vZ2, Si vL0, Si vL1, Si vL2, Si vI, Si vSz, Si vLo, Si vV, Sr b77, Sr b160, Su, Su, Su, Su, Su, Su, Su, Su, Su, Su, Su, Su] [(.long (q5 ||| (1 : Int64)))])) _
      refine XS.lstore X191.here hx rfl (hb hby at_251) rfl (l' := #[Si p1, Si p2, Si p3, Sl q4, S2, Sl q5, S2, Si p6, Si vZ0, Si vZ1, Si vZ2, Si vL0, Si vL1, Si vL2, Si vI, Si vSz, Si vLo, Si vV, Sr b77, Sr b160, Sl (q5 ||| (1 : Int64)), S2, Su, Su, Su, Su, Su, Su, Su, Su, Su, Su]) rfl ?_
      exact k
    obtain ⟨vO0, hvO0⟩ : ∃ z : Int64, z = (q5 ||| (1 : Int64)) := ⟨_, rfl⟩
    rw [← hvO0] at pre227
    have pre228 : ∀ t, Steps p.tables e below (T191.setTop (mkF m 261 #[Si p1, Si p2, Si p3, Sl q4, S2, Sl q5, S2, Si p6, Si vZ0, Si vZ1, Si vZ2, Si vL0, Si vL1, Si vL2, Si vI, Si vSz, Si vLo, Si vV, Sr b77, Sr b160, Sl vO0, S2, Sl (q5 * (-7046029254386353131 : Int64)), S2, Su, Su, Su, Su, Su, Su, Su, Su] [])) t → Steps p.tables e below (s₁.setTop (entryFrame m #[(.int p1), (.int p2), (.int p3), (.long q4), (.long q5), (.int p6)] maxLocals)) t := by
      intro t k
      refine pre227 t ?_
      refine XS.lload X191.here hx rfl (hb hby at_253) rfl ?_
      refine X191.ldc2Long hx hown (mvT hZ (ow hw 152 rfl)) (g := (mkF m 255 #[Si p1, Si p2, Si p3, Sl q4, S2, Sl q5, S2, Si p6, Si vZ0, Si vZ1, Si vZ2, Si vL0, Si vL1, Si vL2, Si vI, Si vSz, Si vLo, Si vV, Sr b77, Sr b160, Sl vO0, S2, Su, Su, Su, Su, Su, Su, Su, Su, Su, Su] [(.long q5)])) rfl (hb hby at_255) _ ?_
      refine XS.lmul X191.here hx rfl (hb hby at_258) rfl ?_
      refine XS.lstore X191.here hx rfl (hb hby at_259) rfl (l' := #[Si p1, Si p2, Si p3, Sl q4, S2, Sl q5, S2, Si p6, Si vZ0, Si vZ1, Si vZ2, Si vL0, Si vL1, Si vL2, Si vI, Si vSz, Si vLo, Si vV, Sr b77, Sr b160, Sl vO0, S2, Sl (q5 * (-7046029254386353131 : Int64)), S2, Su, Su, Su, Su, Su, Su, Su, Su]) rfl ?_
      exact k
    obtain ⟨vO1, hvO1⟩ : ∃ z : Int64, z = (q5 * (-7046029254386353131 : Int64)) := ⟨_, rfl⟩
    rw [← hvO1] at pre228
    have pre229 : ∀ t, Steps p.tables e below (T191.setTop (mkF m 269 #[Si p1, Si p2, Si p3, Sl q4, S2, Sl q5, S2, Si p6, Si vZ0, Si vZ1, Si vZ2, Si vL0, Si vL1, Si vL2, Si vI, Si vSz, Si vLo, Si vV, Sr b77, Sr b160, Sl vO0, S2, Sl vO1, S2, Sl (q5 ^^^ (-1 : Int64)), S2, Su, Su, Su, Su, Su, Su] [])) t → Steps p.tables e below (s₁.setTop (entryFrame m #[(.int p1), (.int p2), (.int p3), (.long q4), (.long q5), (.int p6)] maxLocals)) t := by
      intro t k
      refine pre228 t ?_
      refine XS.lload X191.here hx rfl (hb hby at_261) rfl ?_
      refine X191.ldc2Long hx hown (mvT hZ (ow hw 153 rfl)) (g := (mkF m 263 #[Si p1, Si p2, Si p3, Sl q4, S2, Sl q5, S2, Si p6, Si vZ0, Si vZ1, Si vZ2, Si vL0, Si vL1, Si vL2, Si vI, Si vSz, Si vLo, Si vV, Sr b77, Sr b160, Sl vO0, S2, Sl vO1, S2, Su, Su, Su, Su, Su, Su, Su, Su] [(.long q5)])) rfl (hb hby at_263) _ ?_
      refine XS.lxor X191.here hx rfl (hb hby at_266) rfl ?_
      refine XS.lstore X191.here hx rfl (hb hby at_267) rfl (l' := #[Si p1, Si p2, Si p3, Sl q4, S2, Sl q5, S2, Si p6, Si vZ0, Si vZ1, Si vZ2, Si vL0, Si vL1, Si vL2, Si vI, Si vSz, Si vLo, Si vV, Sr b77, Sr b160, Sl vO0, S2, Sl vO1, S2, Sl (q5 ^^^ (-1 : Int64)), S2, Su, Su, Su, Su, Su, Su]) rfl ?_
      exact k
    obtain ⟨vO2, hvO2⟩ : ∃ z : Int64, z = (q5 ^^^ (-1 : Int64)) := ⟨_, rfl⟩
    rw [← hvO2] at pre229
    obtain ⟨T230, h230, k230, X230, e230, E230, A230, st230⟩ := newP X191 hx hZ (ow hw 106 rfl) rfl (g := (mkF m 270 #[Si p1, Si p2, Si p3, Sl q4, S2, Sl q5, S2, Si p6, Si vZ0, Si vZ1, Si vZ2, Si vL0, Si vL1, Si vL2, Si vI, Si vSz, Si vLo, Si vV, Sr b77, Sr b160, Sl vO0, S2, Sl vO1, S2, Sl vO2, S2, Su, Su, Su, Su, Su, Su] [(.int (3 : Int32))])) rfl (hb hby at_270) rfl (by decide) (cap := 3) (by decide) (by decide) (by decide) (by decide)
    obtain ⟨b230, g230⟩ : ∃ z, z = T191.heap.size := ⟨_, rfl⟩
    rw [← g230] at A230 st230
    have F231 : Exa Z T191.heap b77 "java/util/ArrayList" := (F178.keep q191_0)
    have ne232 : b77 ≠ b230 := Nat.ne_of_lt (Nat.lt_of_lt_of_le F231.lt (Nat.le_of_eq g230.symm))
    have F233 : Exa Z T191.heap b88 "com/example/darlington/darlington/core/IntegerRange" := (F182.keep q191_0)
    have ne234 : b88 ≠ b230 := Nat.ne_of_lt (Nat.lt_of_lt_of_le F233.lt (Nat.le_of_eq g230.symm))
    have F235 : Arv Z T191.heap r_105 kr_105 (.object "java/lang/Object") (10 : Int32) [(.ref b88), (.ref b112), (.ref b135), .null, .null, .null, .null, .null, .null, .null] .null := (F181.keep q191_0 (ninS ne165 nin0))
    have ne236 : r_105 ≠ b230 := Nat.ne_of_lt (Nat.lt_of_lt_of_le F235.lt (Nat.le_of_eq g230.symm))
    have F237 : Exa Z T191.heap b112 "com/example/darlington/darlington/core/IntegerRange" := (F185.keep q191_0)
    have ne238 : b112 ≠ b230 := Nat.ne_of_lt (Nat.lt_of_lt_of_le F237.lt (Nat.le_of_eq g230.symm))
    have F239 : Exa Z T191.heap b135 "com/example/darlington/darlington/core/IntegerRange" := (F188.keep q191_0)
    have ne240 : b135 ≠ b230 := Nat.ne_of_lt (Nat.lt_of_lt_of_le F239.lt (Nat.le_of_eq g230.symm))
    have F241 : Exa Z T191.heap b160 "com/example/darlington/darlington/core/StateLayout" := (A160.keep q191_0)
    have ne242 : b160 ≠ b230 := Nat.ne_of_lt (Nat.lt_of_lt_of_le F241.lt (Nat.le_of_eq g230.symm))
    have ne243 : r1_191 ≠ b230 := Nat.ne_of_lt (Nat.lt_of_lt_of_le q191_2.lt (Nat.le_of_eq g230.symm))
    have ne244 : r2_191 ≠ b230 := Nat.ne_of_lt (Nat.lt_of_lt_of_le q191_5.lt (Nat.le_of_eq g230.symm))
    have ne245 : r3_191 ≠ b230 := Nat.ne_of_lt (Nat.lt_of_lt_of_le q191_8.lt (Nat.le_of_eq g230.symm))
    have ne246 : r4_191 ≠ b230 := Nat.ne_of_lt (Nat.lt_of_lt_of_le q191_11.lt (Nat.le_of_eq g230.symm))
    have ge247 : n0 ≤ b230 := Nat.le_trans (Nat.le_trans Z0 KC225.1) (Nat.le_of_eq g230.symm)
    have sz248 : h0.size ≤ b230 := Nat.le_trans KC225.1 (Nat.le_of_eq g230.symm)
    have KC249 : Keep h0 h230 [] := KC225.ext E230
    have V230 : Arv Z h230 b230 k230 .long (3 : Int32) [(.long (0 : Int64)), (.long (0 : Int64)), (.long (0 : Int64))] (.long (0 : Int64)) := (Arv.new A230 (by decide)).pad (pad_rep [] (.long (0 : Int64)) 3)
    obtain ⟨c250, Arc250, Aqc250, Asc250, Anc250, Ahc250, Agc250⟩ := id V230
    have hin251 : ¬ ((0 : Int32) < 0 ∨ c250.slots.size ≤ ((0 : Int32)).toNatClampNeg) := inb_of Asc250 ⟨by decide, by decide⟩
    obtain ⟨T252, h252, X252, e252, W252, st252⟩ := stJ X230 hx hZ e230 Arc250 (j := (0 : Int32)) hin251 (g := (mkF m 276 #[Si p1, Si p2, Si p3, Sl q4, S2, Sl q5, S2, Si p6, Si vZ0, Si vZ1, Si vZ2, Si vL0, Si vL1, Si vL2, Si vI, Si vSz, Si vLo, Si vV, Sr b77, Sr b160, Sl vO0, S2, Sl vO1, S2, Sl vO2, S2, Su, Su, Su, Su, Su, Su] [(.long vO0), (.int (0 : Int32)), (.ref b230), (.ref b230)])) rfl rfl (hb hby at_276)
    have KC253 : Keep h0 h252 [] := KC249.wr W252 (Or.inr sz248)
    have V252 : Arv Z h252 b230 k230 .long (3 : Int32) [(.long vO0), (.long (0 : Int64)), (.long (0 : Int64))] (.long (0 : Int64)) := Arv.set Arc250 Aqc250 Asc250 Anc250 Ahc250 Agc250 rfl W252 0 rfl (Nat.le_of_ble_eq_true rfl)
    have N254 := Fr.snoc X252 N192 ge247
    obtain ⟨c255, Arc255, Aqc255, Asc255, Anc255, Ahc255, Agc255⟩ := id V252
    have hin256 : ¬ ((1 : Int32) < 0 ∨ c255.slots.size ≤ ((1 : Int32)).toNatClampNeg) := inb_of Asc255 ⟨by decide, by decide⟩
    obtain ⟨T257, h257, X257, e257, W257, st257⟩ := stJ X252 hx hZ e252 Arc255 (j := (1 : Int32)) hin256 (g := (mkF m 281 #[Si p1, Si p2, Si p3, Sl q4, S2, Sl q5, S2, Si p6, Si vZ0, Si vZ1, Si vZ2, Si vL0, Si vL1, Si vL2, Si vI, Si vSz, Si vLo, Si vV, Sr b77, Sr b160, Sl vO0, S2, Sl vO1, S2, Sl vO2, S2, Su, Su, Su, Su, Su, Su] [(.long vO1), (.int (1 : Int32)), (.ref b230), (.ref b230)])) rfl rfl (hb hby at_281)
    have KC258 : Keep h0 h257 [] := KC253.wr W257 (Or.inr sz248)
    have V257 : Arv Z h257 b230 k230 .long (3 : Int32) [(.long vO0), (.long vO1), (.long (0 : Int64))] (.long (0 : Int64)) := Arv.set Arc255 Aqc255 Asc255 Anc255 Ahc255 Agc255 rfl W257 1 rfl (Nat.le_of_ble_eq_true rfl)
    have N259 := Fr.snoc X257 N254 ge247
    obtain ⟨c260, Arc260, Aqc260, Asc260, Anc260, Ahc260, Agc260⟩ := id V257
    have hin261 : ¬ ((2 : Int32) < 0 ∨ c260.slots.size ≤ ((2 : Int32)).toNatClampNeg) := inb_of Asc260 ⟨by decide, by decide⟩
    obtain ⟨T262, h262, X262, e262, W262, st262⟩ := stJ X257 hx hZ e257 Arc260 (j := (2 : Int32)) hin261 (g := (mkF m 286 #[Si p1, Si p2, Si p3, Sl q4, S2, Sl q5, S2, Si p6, Si vZ0, Si vZ1, Si vZ2, Si vL0, Si vL1, Si vL2, Si vI, Si vSz, Si vLo, Si vV, Sr b77, Sr b160, Sl vO0, S2, Sl vO1, S2, Sl vO2, S2, Su, Su, Su, Su, Su, Su] [(.long vO2), (.int (2 : Int32)), (.ref b230), (.ref b230)])) rfl rfl (hb hby at_286)
    have KC263 : Keep h0 h262 [] := KC258.wr W262 (Or.inr sz248)
    have V262 : Arv Z h262 b230 k230 .long (3 : Int32) [(.long vO0), (.long vO1), (.long vO2)] (.long (0 : Int64)) := Arv.set Arc260 Aqc260 Asc260 Anc260 Ahc260 Agc260 rfl W262 2 rfl (Nat.le_of_ble_eq_true rfl)
    have N264 := Fr.snoc X262 N259 ge247
    obtain ⟨T265, h265, k265, X265, e265, E265, A265, st265⟩ := newP X262 hx hZ (ow hw 101 rfl) e262 (g := (mkF m 290 #[Si p1, Si p2, Si p3, Sl q4, S2, Sl q5, S2, Si p6, Si vZ0, Si vZ1, Si vZ2, Si vL0, Si vL1, Si vL2, Si vI, Si vSz, Si vLo, Si vV, Sr b77, Sr b160, Sl vO0, S2, Sl vO1, S2, Sl vO2, S2, Sr b230, Su, Su, Su, Su, Su] [(.int (3 : Int32))])) rfl (hb hby at_290) rfl (by decide) (cap := 3) (by decide) (by decide) (by decide) (by decide)
    obtain ⟨b265, g265⟩ : ∃ z, z = h262.size := ⟨_, rfl⟩
    rw [← g265] at A265 st265
    have F266 : Exa Z h262 b77 "java/util/ArrayList" := ((((F231.ext E230).wr W252).wr W257).wr W262)
    have ne267 : b77 ≠ b265 := Nat.ne_of_lt (Nat.lt_of_lt_of_le F266.lt (Nat.le_of_eq g265.symm))
    have F268 : Exa Z h262 b88 "com/example/darlington/darlington/core/IntegerRange" := ((((F233.ext E230).wr W252).wr W257).wr W262)
    have ne269 : b88 ≠ b265 := Nat.ne_of_lt (Nat.lt_of_lt_of_le F268.lt (Nat.le_of_eq g265.symm))
    have F270 : Arv Z h262 r_105 kr_105 (.object "java/lang/Object") (10 : Int32) [(.ref b88), (.ref b112), (.ref b135), .null, .null, .null, .null, .null, .null, .null] .null := ((((F235.ext E230).other W252 ne236).other W257 ne236).other W262 ne236)
    have ne271 : r_105 ≠ b265 := Nat.ne_of_lt (Nat.lt_of_lt_of_le F270.lt (Nat.le_of_eq g265.symm))
    have F272 : Exa Z h262 b112 "com/example/darlington/darlington/core/IntegerRange" := ((((F237.ext E230).wr W252).wr W257).wr W262)
    have ne273 : b112 ≠ b265 := Nat.ne_of_lt (Nat.lt_of_lt_of_le F272.lt (Nat.le_of_eq g265.symm))
    have F274 : Exa Z h262 b135 "com/example/darlington/darlington/core/IntegerRange" := ((((F239.ext E230).wr W252).wr W257).wr W262)
    have ne275 : b135 ≠ b265 := Nat.ne_of_lt (Nat.lt_of_lt_of_le F274.lt (Nat.le_of_eq g265.symm))
    have F276 : Exa Z h262 b160 "com/example/darlington/darlington/core/StateLayout" := ((((F241.ext E230).wr W252).wr W257).wr W262)
    have ne277 : b160 ≠ b265 := Nat.ne_of_lt (Nat.lt_of_lt_of_le F276.lt (Nat.le_of_eq g265.symm))
    have F278 : Arv Z h262 r1_191 c1_191 .int (3 : Int32) [(.int (0 : Int32)), (.int (0 : Int32)), (.int (1 : Int32))] (.int (0 : Int32)) := ((((q191_2.ext E230).other W252 ne243).other W257 ne243).other W262 ne243)
    have ne279 : r1_191 ≠ b265 := Nat.ne_of_lt (Nat.lt_of_lt_of_le F278.lt (Nat.le_of_eq g265.symm))
    have F280 : Arv Z h262 r2_191 c2_191 .int (3 : Int32) [(.int (1 : Int32)), (.int ((1 : Int32) + (own_bits vZ0))), (.int (0 : Int32))] (.int (0 : Int32)) := ((((q191_5.ext E230).other W252 ne244).other W257 ne244).other W262 ne244)
    have ne281 : r2_191 ≠ b265 := Nat.ne_of_lt (Nat.lt_of_lt_of_le F280.lt (Nat.le_of_eq g265.symm))
    have F282 : Arv Z h262 r3_191 c3_191 .long (3 : Int32) [(.long (own_msk vZ0)), (.long (own_msk vZ1)), (.long (own_msk vZ2))] (.long (0 : Int64)) := ((((q191_8.ext E230).other W252 ne245).other W257 ne245).other W262 ne245)
    have ne283 : r3_191 ≠ b265 := Nat.ne_of_lt (Nat.lt_of_lt_of_le F282.lt (Nat.le_of_eq g265.symm))
    have F284 : Arv Z h262 r4_191 c4_191 .int (3 : Int32) [(.int (vL0 + (0 : Int32))), (.int (vL1 + (0 : Int32))), (.int (vL2 + (0 : Int32)))] (.int (0 : Int32)) := ((((q191_11.ext E230).other W252 ne246).other W257 ne246).other W262 ne246)
    have ne285 : r4_191 ≠ b265 := Nat.ne_of_lt (Nat.lt_of_lt_of_le F284.lt (Nat.le_of_eq g265.symm))
    have ne286 : b230 ≠ b265 := Nat.ne_of_lt (Nat.lt_of_lt_of_le V262.lt (Nat.le_of_eq g265.symm))
    have ge287 : n0 ≤ b265 := Nat.le_trans (Nat.le_trans Z0 KC263.1) (Nat.le_of_eq g265.symm)
    have sz288 : h0.size ≤ b265 := Nat.le_trans KC263.1 (Nat.le_of_eq g265.symm)
    have KC289 : Keep h0 h265 [] := KC263.ext E265
    have V265 : Arv Z h265 b265 k265 .int (3 : Int32) [(.int (0 : Int32)), (.int (0 : Int32)), (.int (0 : Int32))] (.int (0 : Int32)) := (Arv.new A265 (by decide)).pad (pad_rep [] (.int (0 : Int32)) 3)
    obtain ⟨T290, h290, k290, X290, e290, E290, A290, st290⟩ := newP X265 hx hZ (ow hw 101 rfl) e265 (g := (mkF m 295 #[Si p1, Si p2, Si p3, Sl q4, S2, Sl q5, S2, Si p6, Si vZ0, Si vZ1, Si vZ2, Si vL0, Si vL1, Si vL2, Si vI, Si vSz, Si vLo, Si vV, Sr b77, Sr b160, Sl vO0, S2, Sl vO1, S2, Sl vO2, S2, Sr b230, Sr b265, Su, Su, Su, Su] [(.int (3 : Int32))])) rfl (hb hby at_295) rfl (by decide) (cap := 3) (by decide) (by decide) (by decide) (by decide)
    obtain ⟨b290, g290⟩ : ∃ z, z = h265.size := ⟨_, rfl⟩
    rw [← g290] at A290 st290
    have F291 : Exa Z h265 b77 "java/util/ArrayList" := (F266.ext E265)
    have ne292 : b77 ≠ b290 := Nat.ne_of_lt (Nat.lt_of_lt_of_le F291.lt (Nat.le_of_eq g290.symm))
    have F293 : Exa Z h265 b88 "com/example/darlington/darlington/core/IntegerRange" := (F268.ext E265)
    have ne294 : b88 ≠ b290 := Nat.ne_of_lt (Nat.lt_of_lt_of_le F293.lt (Nat.le_of_eq g290.symm))
    have F295 : Arv Z h265 r_105 kr_105 (.object "java/lang/Object") (10 : Int32) [(.ref b88), (.ref b112), (.ref b135), .null, .null, .null, .null, .null, .null, .null] .null := (F270.ext E265)
    have ne296 : r_105 ≠ b290 := Nat.ne_of_lt (Nat.lt_of_lt_of_le F295.lt (Nat.le_of_eq g290.symm))
    have F297 : Exa Z h265 b112 "com/example/darlington/darlington/core/IntegerRange" := (F272.ext E265)
    have ne298 : b112 ≠ b290 := Nat.ne_of_lt (Nat.lt_of_lt_of_le F297.lt (Nat.le_of_eq g290.symm))
    have F299 : Exa Z h265 b135 "com/example/darlington/darlington/core/IntegerRange" := (F274.ext E265)
    have ne300 : b135 ≠ b290 := Nat.ne_of_lt (Nat.lt_of_lt_of_le F299.lt (Nat.le_of_eq g290.symm))
    have F301 : Exa Z h265 b160 "com/example/darlington/darlington/core/StateLayout" := (F276.ext E265)
    have ne302 : b160 ≠ b290 := Nat.ne_of_lt (Nat.lt_of_lt_of_le F301.lt (Nat.le_of_eq g290.symm))
    have F303 : Arv Z h265 r1_191 c1_191 .int (3 : Int32) [(.int (0 : Int32)), (.int (0 : Int32)), (.int (1 : Int32))] (.int (0 : Int32)) := (F278.ext E265)
    have ne304 : r1_191 ≠ b290 := Nat.ne_of_lt (Nat.lt_of_lt_of_le F303.lt (Nat.le_of_eq g290.symm))
    have F305 : Arv Z h265 r2_191 c2_191 .int (3 : Int32) [(.int (1 : Int32)), (.int ((1 : Int32) + (own_bits vZ0))), (.int (0 : Int32))] (.int (0 : Int32)) := (F280.ext E265)
    have ne306 : r2_191 ≠ b290 := Nat.ne_of_lt (Nat.lt_of_lt_of_le F305.lt (Nat.le_of_eq g290.symm))
    have F307 : Arv Z h265 r3_191 c3_191 .long (3 : Int32) [(.long (own_msk vZ0)), (.long (own_msk vZ1)), (.long (own_msk vZ2))] (.long (0 : Int64)) := (F282.ext E265)
    have ne308 : r3_191 ≠ b290 := Nat.ne_of_lt (Nat.lt_of_lt_of_le F307.lt (Nat.le_of_eq g290.symm))
    have F309 : Arv Z h265 r4_191 c4_191 .int (3 : Int32) [(.int (vL0 + (0 : Int32))), (.int (vL1 + (0 : Int32))), (.int (vL2 + (0 : Int32)))] (.int (0 : Int32)) := (F284.ext E265)
    have ne310 : r4_191 ≠ b290 := Nat.ne_of_lt (Nat.lt_of_lt_of_le F309.lt (Nat.le_of_eq g290.symm))
    have F311 : Arv Z h265 b230 k230 .long (3 : Int32) [(.long vO0), (.long vO1), (.long vO2)] (.long (0 : Int64)) := (V262.ext E265)
    have ne312 : b230 ≠ b290 := Nat.ne_of_lt (Nat.lt_of_lt_of_le F311.lt (Nat.le_of_eq g290.symm))
    have ne313 : b265 ≠ b290 := Nat.ne_of_lt (Nat.lt_of_lt_of_le V265.lt (Nat.le_of_eq g290.symm))
    have ge314 : n0 ≤ b290 := Nat.le_trans (Nat.le_trans Z0 KC289.1) (Nat.le_of_eq g290.symm)
    have sz315 : h0.size ≤ b290 := Nat.le_trans KC289.1 (Nat.le_of_eq g290.symm)
    have KC316 : Keep h0 h290 [] := KC289.ext E290
    have V290 : Arv Z h290 b290 k290 .int (3 : Int32) [(.int (0 : Int32)), (.int (0 : Int32)), (.int (0 : Int32))] (.int (0 : Int32)) := (Arv.new A290 (by decide)).pad (pad_rep [] (.int (0 : Int32)) 3)
    have F317 : Fld Z h290 b160 "com/example/darlington/darlington/core/StateLayout" "wordOf" "[I" (.ref r1_191) := ((((((q191_3.ext E230).other W252 (Or.inl ne242)).other W257 (Or.inl ne242)).other W262 (Or.inl ne242)).ext E265).ext E290)
    have F318 : Arv Z h290 r1_191 c1_191 .int (3 : Int32) [(.int (0 : Int32)), (.int (0 : Int32)), (.int (1 : Int32))] (.int (0 : Int32)) := (F303.ext E290)
    have F319 : Fld Z h290 b160 "com/example/darlington/darlington/core/StateLayout" "shiftOf" "[I" (.ref r2_191) := ((((((q191_6.ext E230).other W252 (Or.inl ne242)).other W257 (Or.inl ne242)).other W262 (Or.inl ne242)).ext E265).ext E290)
    have F320 : Arv Z h290 r2_191 c2_191 .int (3 : Int32) [(.int (1 : Int32)), (.int ((1 : Int32) + (own_bits vZ0))), (.int (0 : Int32))] (.int (0 : Int32)) := (F305.ext E290)
    have F321 : Fld Z h290 b160 "com/example/darlington/darlington/core/StateLayout" "maskOf" "[J" (.ref r3_191) := ((((((q191_9.ext E230).other W252 (Or.inl ne242)).other W257 (Or.inl ne242)).other W262 (Or.inl ne242)).ext E265).ext E290)
    have F322 : Arv Z h290 r3_191 c3_191 .long (3 : Int32) [(.long (own_msk vZ0)), (.long (own_msk vZ1)), (.long (own_msk vZ2))] (.long (0 : Int64)) := (F307.ext E290)
    have F323 : Fld Z h290 b160 "com/example/darlington/darlington/core/StateLayout" "firstOf" "[I" (.ref r4_191) := ((((((q191_12.ext E230).other W252 (Or.inl ne242)).other W257 (Or.inl ne242)).other W262 (Or.inl ne242)).ext E265).ext E290)
    have F324 : Arv Z h290 r4_191 c4_191 .int (3 : Int32) [(.int (vL0 + (0 : Int32))), (.int (vL1 + (0 : Int32))), (.int (vL2 + (0 : Int32)))] (.int (0 : Int32)) := (F309.ext E290)
    have F325 : Arv Z h290 b230 k230 .long (3 : Int32) [(.long vO0), (.long vO1), (.long vO2)] (.long (0 : Int64)) := (F311.ext E290)
    have F326 : Arv Z h290 b265 k265 .int (3 : Int32) [(.int (0 : Int32)), (.int (0 : Int32)), (.int (0 : Int32))] (.int (0 : Int32)) := (V265.ext E290)
    have F328 : Exa Z h290 b160 "com/example/darlington/darlington/core/StateLayout" := (F301.ext E290)
    obtain ⟨cq327, kq327, q327a, q327b, q327c⟩ := isOf hZ e290 F328
    obtain ⟨_, _, ⟨T327, L327, k327, n327⟩, -, X327, ⟨Lc327, hQ327, l327, y327, z327⟩, st327⟩ := X290.virtualBack hx (y := (⟨"com/example/darlington/darlington/core/StateLayout", "unpack", "([JI[I)V"⟩ : MethodName)) (z := (⟨"com/example/darlington/darlington/core/StateLayout", "unpack", "([JI[I)V"⟩ : MethodName)) hown (mvT hZ (ow hw 154 rfl)) (mvT hZ (ow hw 155 rfl)) (notFace_of_selects (args := #[]) (mvT hZ (ow hw 157 rfl))) (mvT hZ (ow hw 157 rfl)) (mvT hZ (ow hw 156 rfl)) (by decide) (backOf (W := 0) (rm_unpB l Z a0 hw [] b160 b230 b265 r1_191 r2_191 r3_191 r4_191 c1_191 c2_191 c3_191 c4_191 (1 : Int32) ((1 : Int32) + (own_bits vZ0)) (0 : Int32) (own_msk vZ0) (own_msk vZ1) (own_msk vZ2) (vL0 + (0 : Int32)) (vL1 + (0 : Int32)) (vL2 + (0 : Int32)) k230 k265 vO0 vO1 vO2 (0 : Int32) (0 : Int32) (0 : Int32) h290 n0 (Nat.le_trans Z0 KC316.1) F317 F318 F319 F320 F321 F322 F323 F324 F325 F326 ge287 ne277 ne286 ne279 ne281 ne283 ne285) hZ (ow hw 158 rfl) (ow hw 88 rfl) (by decide) (by decide)) q327a q327c (g := (mkF m 306 #[Si p1, Si p2, Si p3, Sl q4, S2, Sl q5, S2, Si p6, Si vZ0, Si vZ1, Si vZ2, Si vL0, Si vL1, Si vL2, Si vI, Si vSz, Si vLo, Si vV, Sr b77, Sr b160, Sl vO0, S2, Sl vO1, S2, Sl vO2, S2, Sr b230, Sr b265, Sr b290, Su, Su, Su] [(.ref b265), (.int (0 : Int32)), (.ref b230), (.ref b160)])) rfl (by rw [hml]; rfl) (Steps.refl _) (argsL := [(.ref b230), (.int (0 : Int32)), (.ref b265)]) (rest := []) (lenOf pd_12 rfl) rfl (by show 2 * 0 + _ ≤ _; exact Nat.le_of_eq rfl) (hb hby at_306) (fun _ _ => ⟨rfl, e290, (by decide : 13 + 0 ≤ _), (by decide : 45 + 0 ≤ _)⟩)
    dsimp only [Pt.U, Pt.locs, Pt.cells, Pt.slots] at X327 l327 y327 z327 st327 hQ327
    subst y327 z327
    obtain ⟨rfl, Nq327, q327_0, q327_1⟩ := hQ327
    have N329 := Eq.subst (motive := fun L => Fr n0 L) l327.symm (Fr.app N264 Nq327)
    have KC330 : Keep h0 T327.heap [] := KC316.trans q327_0 (allS (Or.inr sz288) all0)
    have G2 := G2b
    have pre331 : ∀ t, Steps p.tables e below (T327.setTop (mkF m 309 #[Si p1, Si p2, Si p3, Sl q4, S2, Sl q5, S2, Si p6, Si vZ0, Si vZ1, Si vZ2, Si vL0, Si vL1, Si vL2, Si vI, Si vSz, Si vLo, Si vV, Sr b77, Sr b160, Sl vO0, S2, Sl vO1, S2, Sl vO2, S2, Sr b230, Sr b265, Sr b290, Su, Su, Su] [])) t → Steps p.tables e below (s₁.setTop (entryFrame m #[(.int p1), (.int p2), (.int p3), (.long q4), (.long q5), (.int p6)] maxLocals)) t := by
      intro t k
      refine pre229 t ?_
      refine XS.iconst X191.here hx rfl (hb hby at_269) ?_
      show Steps _ _ _ (T191.setTop (mkF m 270 #[Si p1, Si p2, Si p3, Sl q4, S2, Sl q5, S2, Si p6, Si vZ0, Si vZ1, Si vZ2, Si vL0, Si vL1, Si vL2, Si vI, Si vSz, Si vLo, Si vV, Sr b77, Sr b160, Sl vO0, S2, Sl vO1, S2, Sl vO2, S2, Su, Su, Su, Su, Su, Su] [(.int (3 : Int32))])) _
      refine st230 _ ?_
      refine XS.dup X230.here hx rfl (hb hby at_272) rfl rfl ?_
      refine XS.iconst X230.here hx rfl (hb hby at_273) ?_
      refine XS.lload X230.here hx rfl (hb hby at_274) rfl ?_
      refine st252 _ ?_
      refine XS.dup X252.here hx rfl (hb hby at_277) rfl rfl ?_
      refine XS.iconst X252.here hx rfl (hb hby at_278) ?_
      refine XS.lload X252.here hx rfl (hb hby at_279) rfl ?_
      refine st257 _ ?_
      refine XS.dup X257.here hx rfl (hb hby at_282) rfl rfl ?_
      show Steps _ _ _ (T257.setTop (mkF m 283 #[Si p1, Si p2, Si p3, Sl q4, S2, Sl q5, S2, Si p6, Si vZ0, Si vZ1, Si vZ2, Si vL0, Si vL1, Si vL2, Si vI, Si vSz, Si vLo, Si vV, Sr b77, Sr b160, Sl vO0, S2, Sl vO1, S2, Sl vO2, S2, Su, Su, Su, Su, Su, Su] [(.ref b230), (.ref b230)])) _
      refine XS.iconst X257.here hx rfl (hb hby at_283) ?_
      refine XS.lload X257.here hx rfl (hb hby at_284) rfl ?_
      refine st262 _ ?_
      refine XS.astore X262.here hx rfl (hb hby at_287) rfl rfl (l' := #[Si p1, Si p2, Si p3, Sl q4, S2, Sl q5, S2, Si p6, Si vZ0, Si vZ1, Si vZ2, Si vL0, Si vL1, Si vL2, Si vI, Si vSz, Si vLo, Si vV, Sr b77, Sr b160, Sl vO0, S2, Sl vO1, S2, Sl vO2, S2, Sr b230, Su, Su, Su, Su, Su]) rfl ?_
      refine XS.iconst X262.here hx rfl (hb hby at_289) ?_
      refine st265 _ ?_
      refine XS.astore X265.here hx rfl (hb hby at_292) rfl rfl (l' := #[Si p1, Si p2, Si p3, Sl q4, S2, Sl q5, S2, Si p6, Si vZ0, Si vZ1, Si vZ2, Si vL0, Si vL1, Si vL2, Si vI, Si vSz, Si vLo, Si vV, Sr b77, Sr b160, Sl vO0, S2, Sl vO1, S2, Sl vO2, S2, Sr b230, Sr b265, Su, Su, Su, Su]) rfl ?_
      refine XS.iconst X265.here hx rfl (hb hby at_294) ?_
      refine st290 _ ?_
      refine XS.astore X290.here hx rfl (hb hby at_297) rfl rfl (l' := #[Si p1, Si p2, Si p3, Sl q4, S2, Sl q5, S2, Si p6, Si vZ0, Si vZ1, Si vZ2, Si vL0, Si vL1, Si vL2, Si vI, Si vSz, Si vLo, Si vV, Sr b77, Sr b160, Sl vO0, S2, Sl vO1, S2, Sl vO2, S2, Sr b230, Sr b265, Sr b290, Su, Su, Su]) rfl ?_
      show Steps _ _ _ (T290.setTop (mkF m 299 #[Si p1, Si p2, Si p3, Sl q4, S2, Sl q5, S2, Si p6, Si vZ0, Si vZ1, Si vZ2, Si vL0, Si vL1, Si vL2, Si vI, Si vSz, Si vLo, Si vV, Sr b77, Sr b160, Sl vO0, S2, Sl vO1, S2, Sl vO2, S2, Sr b230, Sr b265, Sr b290, Su, Su, Su] [])) _
      refine XS.aload X290.here hx rfl (hb hby at_299) rfl rfl ?_
      refine XS.aload X290.here hx rfl (hb hby at_301) rfl rfl ?_
      refine XS.iconst X290.here hx rfl (hb hby at_303) ?_
      refine XS.aload X290.here hx rfl (hb hby at_304) rfl rfl ?_
      refine st327.trans ?_
      exact k
    rcases hI3 with hI | hI | hI
    · have eSz : vSz = vZ0 := by rw [hvSz, hI]; rfl
      have eLo : vLo = vL0 := by rw [hvLo, hI]; rfl
      rw [hI, eSz, eLo] at pre331
      have hV := own_vv vL0 vZ0 p6 hz0 hl0 vV (by rw [hvV, eSz, eLo])
      have hV2 := own_lt2 hV.2 Y0
      have G2 := G2b
      have F332 : Fld Z T327.heap b160 "com/example/darlington/darlington/core/StateLayout" "wordOf" "[I" (.ref r1_191) := (F317.keep q327_0 (ninS ne277 nin0))
      have F333 : Arv Z T327.heap r1_191 c1_191 .int (3 : Int32) [(.int (0 : Int32)), (.int (0 : Int32)), (.int (1 : Int32))] (.int (0 : Int32)) := (F318.keep q327_0 (ninS ne279 nin0))
      have F334 : Fld Z T327.heap b160 "com/example/darlington/darlington/core/StateLayout" "shiftOf" "[I" (.ref r2_191) := (F319.keep q327_0 (ninS ne277 nin0))
      have F335 : Arv Z T327.heap r2_191 c2_191 .int (3 : Int32) [(.int (1 : Int32)), (.int ((1 : Int32) + (own_bits vZ0))), (.int (0 : Int32))] (.int (0 : Int32)) := (F320.keep q327_0 (ninS ne281 nin0))
      have F336 : Fld Z T327.heap b160 "com/example/darlington/darlington/core/StateLayout" "maskOf" "[J" (.ref r3_191) := (F321.keep q327_0 (ninS ne277 nin0))
      have F337 : Arv Z T327.heap r3_191 c3_191 .long (3 : Int32) [(.long (own_msk vZ0)), (.long (own_msk vZ1)), (.long (own_msk vZ2))] (.long (0 : Int64)) := (F322.keep q327_0 (ninS ne283 nin0))
      have F338 : Fld Z T327.heap b160 "com/example/darlington/darlington/core/StateLayout" "firstOf" "[I" (.ref r4_191) := (F323.keep q327_0 (ninS ne277 nin0))
      have F339 : Arv Z T327.heap r4_191 c4_191 .int (3 : Int32) [(.int (vL0 + (0 : Int32))), (.int (vL1 + (0 : Int32))), (.int (vL2 + (0 : Int32)))] (.int (0 : Int32)) := (F324.keep q327_0 (ninS ne285 nin0))
      have F340 : Arv Z T327.heap b230 k230 .long (3 : Int32) [(.long vO0), (.long vO1), (.long vO2)] (.long (0 : Int64)) := (F325.keep q327_0 (ninS ne286 nin0))
      have F342 : Exa Z T327.heap b160 "com/example/darlington/darlington/core/StateLayout" := (F328.keep q327_0)
      obtain ⟨cq341, kq341, q341a, q341b, q341c⟩ := isOf hZ rfl F342
      obtain ⟨_, _, ⟨T341, L341, k341, n341⟩, -, X341, ⟨Lc341, hQ341, l341, y341, z341⟩, st341⟩ := X327.virtualBack hx (y := (⟨"com/example/darlington/darlington/core/StateLayout", "set", "([JII)V"⟩ : MethodName)) (z := (⟨"com/example/darlington/darlington/core/StateLayout", "set", "([JII)V"⟩ : MethodName)) hown (mvT hZ (ow hw 159 rfl)) (mvT hZ (ow hw 160 rfl)) (notFace_of_selects (args := #[]) (mvT hZ (ow hw 162 rfl))) (mvT hZ (ow hw 162 rfl)) (mvT hZ (ow hw 161 rfl)) (by decide) (backOf (W := 0) (rm_set0 l Z a0 hw [] b160 b230 vV r1_191 r2_191 r3_191 r4_191 c1_191 c2_191 c3_191 c4_191 (1 : Int32) ((1 : Int32) + (own_bits vZ0)) (0 : Int32) (own_msk vZ0) (own_msk vZ1) (own_msk vZ2) (vL0 + (0 : Int32)) (vL1 + (0 : Int32)) (vL2 + (0 : Int32)) (1 : Int32) k230 vO0 vO1 vO2 T327.heap n0 (Nat.le_trans Z0 KC330.1) F332 F333 F334 F335 F336 F337 F338 F339 F340 ge247) hZ (ow hw 163 rfl) (ow hw 88 rfl) (by decide) (by decide)) q341a q341c (g := (mkF m 317 #[Si p1, Si p2, Si p3, Sl q4, S2, Sl q5, S2, Si p6, Si vZ0, Si vZ1, Si vZ2, Si vL0, Si vL1, Si vL2, Si (0 : Int32), Si vZ0, Si vL0, Si vV, Sr b77, Sr b160, Sl vO0, S2, Sl vO1, S2, Sl vO2, S2, Sr b230, Sr b265, Sr b290, Su, Su, Su] [(.int vV), (.int (0 : Int32)), (.ref b230), (.ref b160)])) rfl (by rw [hml]; rfl) (Steps.refl _) (argsL := [(.ref b230), (.int (0 : Int32)), (.int vV)]) (rest := []) (lenOf pd_13 rfl) rfl (by show 2 * 0 + _ ≤ _; exact Nat.le_of_eq rfl) (hb hby at_317) (fun _ _ => ⟨rfl, rfl, (by decide : 13 + 0 ≤ _), (by decide : 45 + 0 ≤ _)⟩)
      dsimp only [Pt.U, Pt.locs, Pt.cells, Pt.slots] at X341 l341 y341 z341 st341 hQ341
      subst y341 z341
      obtain ⟨rfl, Nq341, q341_0, q341_1⟩ := hQ341
      have N343 := Eq.subst (motive := fun L => Fr n0 L) l341.symm (Fr.app N329 Nq341)
      have KC344 : Keep h0 T341.heap [] := KC330.trans q341_0 (allS (Or.inr sz248) all0)
      have F345 : Fld Z T341.heap b160 "com/example/darlington/darlington/core/StateLayout" "wordOf" "[I" (.ref r1_191) := (F332.keep q341_0 (ninS ne242 nin0))
      have F346 : Arv Z T341.heap r1_191 c1_191 .int (3 : Int32) [(.int (0 : Int32)), (.int (0 : Int32)), (.int (1 : Int32))] (.int (0 : Int32)) := (F333.keep q341_0 (ninS ne243 nin0))
      have F347 : Fld Z T341.heap b160 "com/example/darlington/darlington/core/StateLayout" "shiftOf" "[I" (.ref r2_191) := (F334.keep q341_0 (ninS ne242 nin0))
      have F348 : Arv Z T341.heap r2_191 c2_191 .int (3 : Int32) [(.int (1 : Int32)), (.int ((1 : Int32) + (own_bits vZ0))), (.int (0 : Int32))] (.int (0 : Int32)) := (F335.keep q341_0 (ninS ne244 nin0))
      have F349 : Fld Z T341.heap b160 "com/example/darlington/darlington/core/StateLayout" "maskOf" "[J" (.ref r3_191) := (F336.keep q341_0 (ninS ne242 nin0))
      have F350 : Arv Z T341.heap r3_191 c3_191 .long (3 : Int32) [(.long (own_msk vZ0)), (.long (own_msk vZ1)), (.long (own_msk vZ2))] (.long (0 : Int64)) := (F337.keep q341_0 (ninS ne245 nin0))
      have F351 : Fld Z T341.heap b160 "com/example/darlington/darlington/core/StateLayout" "firstOf" "[I" (.ref r4_191) := (F338.keep q341_0 (ninS ne242 nin0))
      have F352 : Arv Z T341.heap r4_191 c4_191 .int (3 : Int32) [(.int (vL0 + (0 : Int32))), (.int (vL1 + (0 : Int32))), (.int (vL2 + (0 : Int32)))] (.int (0 : Int32)) := (F339.keep q341_0 (ninS ne246 nin0))
      have F353 : Arv Z T341.heap b290 k290 .int (3 : Int32) [(.int (0 : Int32)), (.int (0 : Int32)), (.int (0 : Int32))] (.int (0 : Int32)) := ((V290.keep q327_0 (ninS (Ne.symm ne313) nin0)).keep q341_0 (ninS (Ne.symm ne312) nin0))
      have F355 : Exa Z T341.heap b160 "com/example/darlington/darlington/core/StateLayout" := (F342.keep q341_0)
      obtain ⟨cq354, kq354, q354a, q354b, q354c⟩ := isOf hZ rfl F355
      obtain ⟨_, _, ⟨T354, L354, k354, n354⟩, -, X354, ⟨Lc354, hQ354, l354, y354, z354⟩, st354⟩ := X341.virtualBack hx (y := (⟨"com/example/darlington/darlington/core/StateLayout", "unpack", "([JI[I)V"⟩ : MethodName)) (z := (⟨"com/example/darlington/darlington/core/StateLayout", "unpack", "([JI[I)V"⟩ : MethodName)) hown (mvT hZ (ow hw 154 rfl)) (mvT hZ (ow hw 155 rfl)) (notFace_of_selects (args := #[]) (mvT hZ (ow hw 157 rfl))) (mvT hZ (ow hw 157 rfl)) (mvT hZ (ow hw 156 rfl)) (by decide) (backOf (W := 0) (rm_unpB l Z a0 hw [] b160 b230 b290 r1_191 r2_191 r3_191 r4_191 c1_191 c2_191 c3_191 c4_191 (1 : Int32) ((1 : Int32) + (own_bits vZ0)) (0 : Int32) (own_msk vZ0) (own_msk vZ1) (own_msk vZ2) (vL0 + (0 : Int32)) (vL1 + (0 : Int32)) (vL2 + (0 : Int32)) k230 k290 (own_upd vO0 (1 : Int32) (own_msk vZ0) (vL0 + (0 : Int32)) vV) vO1 vO2 (0 : Int32) (0 : Int32) (0 : Int32) T341.heap n0 (Nat.le_trans Z0 KC344.1) F345 F346 F347 F348 F349 F350 F351 F352 q341_1 F353 ge314 ne302 ne312 ne304 ne306 ne308 ne310) hZ (ow hw 158 rfl) (ow hw 88 rfl) (by decide) (by decide)) q354a q354c (g := (mkF m 327 #[Si p1, Si p2, Si p3, Sl q4, S2, Sl q5, S2, Si p6, Si vZ0, Si vZ1, Si vZ2, Si vL0, Si vL1, Si vL2, Si (0 : Int32), Si vZ0, Si vL0, Si vV, Sr b77, Sr b160, Sl vO0, S2, Sl vO1, S2, Sl vO2, S2, Sr b230, Sr b265, Sr b290, Su, Su, Su] [(.ref b290), (.int (0 : Int32)), (.ref b230), (.ref b160)])) rfl (by rw [hml]; rfl) (Steps.refl _) (argsL := [(.ref b230), (.int (0 : Int32)), (.ref b290)]) (rest := []) (lenOf pd_12 rfl) rfl (by show 2 * 0 + _ ≤ _; exact Nat.le_of_eq rfl) (hb hby at_327) (fun _ _ => ⟨rfl, rfl, (by decide : 13 + 0 ≤ _), (by decide : 45 + 0 ≤ _)⟩)
      dsimp only [Pt.U, Pt.locs, Pt.cells, Pt.slots] at X354 l354 y354 z354 st354 hQ354
      subst y354 z354
      obtain ⟨rfl, Nq354, q354_0, q354_1⟩ := hQ354
      have N356 := Eq.subst (motive := fun L => Fr n0 L) l354.symm (Fr.app N343 Nq354)
      have KC357 : Keep h0 T354.heap [] := KC344.trans q354_0 (allS (Or.inr sz315) all0)
      obtain ⟨c358, Arc358, Aqc358, Asc358, Anc358, Ahc358, Agc358⟩ := id q354_1
      have hin359 : ¬ ((0 : Int32) < 0 ∨ c358.slots.size ≤ ((0 : Int32)).toNatClampNeg) := inb_of Asc358 ⟨by decide, by decide⟩
      have hat360 : c358.slots[((0 : Int32)).toNatClampNeg]? = some (.int ((vL0 + (0 : Int32)) + (((((own_upd vO0 (1 : Int32) (own_msk vZ0) (vL0 + (0 : Int32)) vV).toUInt64 >>> ((1 : Int32) &&& 0x3f).toInt64.toUInt64).toInt64) &&& (own_msk vZ0)).toInt32))) := Has.at Ahc358 hin359 rfl
      have hc361 : ((vL0 + (0 : Int32)) + (((((own_upd vO0 (1 : Int32) (own_msk vZ0) (vL0 + (0 : Int32)) vV).toUInt64 >>> ((1 : Int32) &&& 0x3f).toInt64.toUInt64).toInt64) &&& (own_msk vZ0)).toInt32)) = vV := own_y337 (own_fuG G0) G0.2.2.2 B0 hV.1 hV2
      obtain ⟨c362, Arc362, Aqc362, Asc362, Anc362, Ahc362, Agc362⟩ := id q354_1
      have hin363 : ¬ ((1 : Int32) < 0 ∨ c362.slots.size ≤ ((1 : Int32)).toNatClampNeg) := inb_of Asc362 ⟨by decide, by decide⟩
      have hat364 : c362.slots[((1 : Int32)).toNatClampNeg]? = some (.int ((vL1 + (0 : Int32)) + (((((own_upd vO0 (1 : Int32) (own_msk vZ0) (vL0 + (0 : Int32)) vV).toUInt64 >>> (((1 : Int32) + (own_bits vZ0)) &&& 0x3f).toInt64.toUInt64).toInt64) &&& (own_msk vZ1)).toInt32))) := Has.at Ahc362 hin363 rfl
      have F365 : Arv Z T354.heap b265 k265 .int (3 : Int32) [(.int ((vL0 + (0 : Int32)) + ((((vO0.toUInt64 >>> ((1 : Int32) &&& 0x3f).toInt64.toUInt64).toInt64) &&& (own_msk vZ0)).toInt32))), (.int ((vL1 + (0 : Int32)) + ((((vO0.toUInt64 >>> (((1 : Int32) + (own_bits vZ0)) &&& 0x3f).toInt64.toUInt64).toInt64) &&& (own_msk vZ1)).toInt32))), (.int ((vL2 + (0 : Int32)) + ((((vO1.toUInt64 >>> ((0 : Int32) &&& 0x3f).toInt64.toUInt64).toInt64) &&& (own_msk vZ2)).toInt32)))] (.int (0 : Int32)) := ((q327_1.keep q341_0 (ninS (Ne.symm ne286) nin0)).keep q354_0 (ninS ne313 nin0))
      obtain ⟨c366, Arc366, Aqc366, Asc366, Anc366, Ahc366, Agc366⟩ := id F365
      have hin367 : ¬ ((1 : Int32) < 0 ∨ c366.slots.size ≤ ((1 : Int32)).toNatClampNeg) := inb_of Asc366 ⟨by decide, by decide⟩
      have hat368 : c366.slots[((1 : Int32)).toNatClampNeg]? = some (.int ((vL1 + (0 : Int32)) + ((((vO0.toUInt64 >>> (((1 : Int32) + (own_bits vZ0)) &&& 0x3f).toInt64.toUInt64).toInt64) &&& (own_msk vZ1)).toInt32))) := Has.at Ahc366 hin367 rfl
      have hc369 : ((vL1 + (0 : Int32)) + (((((own_upd vO0 (1 : Int32) (own_msk vZ0) (vL0 + (0 : Int32)) vV).toUInt64 >>> (((1 : Int32) + (own_bits vZ0)) &&& 0x3f).toInt64.toUInt64).toInt64) &&& (own_msk vZ1)).toInt32)) = ((vL1 + (0 : Int32)) + ((((vO0.toUInt64 >>> (((1 : Int32) + (own_bits vZ0)) &&& 0x3f).toInt64.toUInt64).toInt64) &&& (own_msk vZ1)).toInt32)) := own_oth (own_foG G0 G1 (Or.inr (Nat.le_refl _)))
      obtain ⟨c370, Arc370, Aqc370, Asc370, Anc370, Ahc370, Agc370⟩ := id q354_1
      have hin371 : ¬ ((2 : Int32) < 0 ∨ c370.slots.size ≤ ((2 : Int32)).toNatClampNeg) := inb_of Asc370 ⟨by decide, by decide⟩
      have hat372 : c370.slots[((2 : Int32)).toNatClampNeg]? = some (.int ((vL2 + (0 : Int32)) + ((((vO1.toUInt64 >>> ((0 : Int32) &&& 0x3f).toInt64.toUInt64).toInt64) &&& (own_msk vZ2)).toInt32))) := Has.at Ahc370 hin371 rfl
      obtain ⟨c373, Arc373, Aqc373, Asc373, Anc373, Ahc373, Agc373⟩ := id F365
      have hin374 : ¬ ((2 : Int32) < 0 ∨ c373.slots.size ≤ ((2 : Int32)).toNatClampNeg) := inb_of Asc373 ⟨by decide, by decide⟩
      have hat375 : c373.slots[((2 : Int32)).toNatClampNeg]? = some (.int ((vL2 + (0 : Int32)) + ((((vO1.toUInt64 >>> ((0 : Int32) &&& 0x3f).toInt64.toUInt64).toInt64) &&& (own_msk vZ2)).toInt32))) := Has.at Ahc373 hin374 rfl
      have pre376 : ∀ t, Steps p.tables e below (T354.setTop (mkF m 427 #[Si p1, Si p2, Si p3, Sl q4, S2, Sl q5, S2, Si p6, Si vZ0, Si vZ1, Si vZ2, Si vL0, Si vL1, Si vL2, Si (0 : Int32), Si vZ0, Si vL0, Si vV, Sr b77, Sr b160, Sl vO0, S2, Sl vO1, S2, Sl vO2, S2, Sr b230, Sr b265, Sr b290, Si (1 : Int32), Su, Su] [])) t → Steps p.tables e below (s₁.setTop (entryFrame m #[(.int p1), (.int p2), (.int p3), (.long q4), (.long q5), (.int p6)] maxLocals)) t := by
        intro t k
        refine pre331 t ?_
        refine XS.aload X327.here hx rfl (hb hby at_309) rfl rfl ?_
        refine XS.aload X327.here hx rfl (hb hby at_311) rfl rfl ?_
        refine XS.iload X327.here hx rfl (hb hby at_313) rfl ?_
        refine XS.iload X327.here hx rfl (hb hby at_315) rfl ?_
        refine st341.trans ?_
        show Steps _ _ _ (T341.setTop (mkF m 320 #[Si p1, Si p2, Si p3, Sl q4, S2, Sl q5, S2, Si p6, Si vZ0, Si vZ1, Si vZ2, Si vL0, Si vL1, Si vL2, Si (0 : Int32), Si vZ0, Si vL0, Si vV, Sr b77, Sr b160, Sl vO0, S2, Sl vO1, S2, Sl vO2, S2, Sr b230, Sr b265, Sr b290, Su, Su, Su] [])) _
        refine XS.aload X341.here hx rfl (hb hby at_320) rfl rfl ?_
        refine XS.aload X341.here hx rfl (hb hby at_322) rfl rfl ?_
        refine XS.iconst X341.here hx rfl (hb hby at_324) ?_
        refine XS.aload X341.here hx rfl (hb hby at_325) rfl rfl ?_
        refine st354.trans ?_
        refine XS.aload X354.here hx rfl (hb hby at_330) rfl rfl ?_
        refine XS.iload X354.here hx rfl (hb hby at_332) rfl ?_
        refine X354.iaload hx (j := (0 : Int32)) (v := (.int ((vL0 + (0 : Int32)) + (((((own_upd vO0 (1 : Int32) (own_msk vZ0) (vL0 + (0 : Int32)) vV).toUInt64 >>> ((1 : Int32) &&& 0x3f).toInt64.toUInt64).toInt64) &&& (own_msk vZ0)).toInt32)))) Arc358.1 (State.isArrayOf_alike hZ.alike Arc358.2.1) Arc358.2.2 hin359 hat360 (g := (mkF m 334 #[Si p1, Si p2, Si p3, Sl q4, S2, Sl q5, S2, Si p6, Si vZ0, Si vZ1, Si vZ2, Si vL0, Si vL1, Si vL2, Si (0 : Int32), Si vZ0, Si vL0, Si vV, Sr b77, Sr b160, Sl vO0, S2, Sl vO1, S2, Sl vO2, S2, Sr b230, Sr b265, Sr b290, Su, Su, Su] [(.int (0 : Int32)), (.ref b290)])) rfl rfl (hb hby at_334) _ ?_
        refine XS.iload X354.here hx rfl (hb hby at_335) rfl ?_
        refine XS.icmpNo X354.here hx rfl (hb hby at_337) rfl (teq hc361).2 ?_
        show Steps _ _ _ (T354.setTop (mkF m 340 #[Si p1, Si p2, Si p3, Sl q4, S2, Sl q5, S2, Si p6, Si vZ0, Si vZ1, Si vZ2, Si vL0, Si vL1, Si vL2, Si (0 : Int32), Si vZ0, Si vL0, Si vV, Sr b77, Sr b160, Sl vO0, S2, Sl vO1, S2, Sl vO2, S2, Sr b230, Sr b265, Sr b290, Su, Su, Su] [])) _
        refine XS.iconst X354.here hx rfl (hb hby at_340) ?_
        refine XS.goto X354.here hx rfl (pc0 := 341) (pc' := 345) rfl (hb hby at_341) (by decide) (by decide) ?_
        refine XS.istore X354.here hx rfl (hb hby at_345) rfl (l' := #[Si p1, Si p2, Si p3, Sl q4, S2, Sl q5, S2, Si p6, Si vZ0, Si vZ1, Si vZ2, Si vL0, Si vL1, Si vL2, Si (0 : Int32), Si vZ0, Si vL0, Si vV, Sr b77, Sr b160, Sl vO0, S2, Sl vO1, S2, Sl vO2, S2, Sr b230, Sr b265, Sr b290, Si (1 : Int32), Su, Su]) rfl ?_
        refine XS.iload X354.here hx rfl (hb hby at_347) rfl ?_
        refine XS.iload X354.here hx rfl (hb hby at_349) rfl ?_
        refine XS.ifYes X354.here hx rfl (pc0 := 351) (pc' := 365) rfl (hb hby at_351) rfl ((if0 _ _).trans (teq rfl).1) (by decide) (by decide) ?_
        refine XS.iconst X354.here hx rfl (hb hby at_365) ?_
        refine XS.goto X354.here hx rfl (pc0 := 366) (pc' := 370) rfl (hb hby at_366) (by decide) (by decide) ?_
        refine XS.iand X354.here hx rfl (hb hby at_370) rfl ?_
        refine XS.istore X354.here hx rfl (hb hby at_371) rfl (l' := #[Si p1, Si p2, Si p3, Sl q4, S2, Sl q5, S2, Si p6, Si vZ0, Si vZ1, Si vZ2, Si vL0, Si vL1, Si vL2, Si (0 : Int32), Si vZ0, Si vL0, Si vV, Sr b77, Sr b160, Sl vO0, S2, Sl vO1, S2, Sl vO2, S2, Sr b230, Sr b265, Sr b290, Si (1 : Int32), Su, Su]) rfl ?_
        show Steps _ _ _ (T354.setTop (mkF m 373 #[Si p1, Si p2, Si p3, Sl q4, S2, Sl q5, S2, Si p6, Si vZ0, Si vZ1, Si vZ2, Si vL0, Si vL1, Si vL2, Si (0 : Int32), Si vZ0, Si vL0, Si vV, Sr b77, Sr b160, Sl vO0, S2, Sl vO1, S2, Sl vO2, S2, Sr b230, Sr b265, Sr b290, Si (1 : Int32), Su, Su] [])) _
        refine XS.iload X354.here hx rfl (hb hby at_373) rfl ?_
        refine XS.iload X354.here hx rfl (hb hby at_375) rfl ?_
        refine XS.iconst X354.here hx rfl (hb hby at_377) ?_
        refine XS.icmpNo X354.here hx rfl (hb hby at_378) rfl (feq (by decide)).1 ?_
        refine XS.aload X354.here hx rfl (hb hby at_381) rfl rfl ?_
        refine XS.iconst X354.here hx rfl (hb hby at_383) ?_
        refine X354.iaload hx (j := (1 : Int32)) (v := (.int ((vL1 + (0 : Int32)) + (((((own_upd vO0 (1 : Int32) (own_msk vZ0) (vL0 + (0 : Int32)) vV).toUInt64 >>> (((1 : Int32) + (own_bits vZ0)) &&& 0x3f).toInt64.toUInt64).toInt64) &&& (own_msk vZ1)).toInt32)))) Arc362.1 (State.isArrayOf_alike hZ.alike Arc362.2.1) Arc362.2.2 hin363 hat364 (g := (mkF m 384 #[Si p1, Si p2, Si p3, Sl q4, S2, Sl q5, S2, Si p6, Si vZ0, Si vZ1, Si vZ2, Si vL0, Si vL1, Si vL2, Si (0 : Int32), Si vZ0, Si vL0, Si vV, Sr b77, Sr b160, Sl vO0, S2, Sl vO1, S2, Sl vO2, S2, Sr b230, Sr b265, Sr b290, Si (1 : Int32), Su, Su] [(.int (1 : Int32)), (.ref b290), (.int (1 : Int32))])) rfl rfl (hb hby at_384) _ ?_
        refine XS.aload X354.here hx rfl (hb hby at_385) rfl rfl ?_
        refine XS.iconst X354.here hx rfl (hb hby at_387) ?_
        refine X354.iaload hx (j := (1 : Int32)) (v := (.int ((vL1 + (0 : Int32)) + ((((vO0.toUInt64 >>> (((1 : Int32) + (own_bits vZ0)) &&& 0x3f).toInt64.toUInt64).toInt64) &&& (own_msk vZ1)).toInt32)))) Arc366.1 (State.isArrayOf_alike hZ.alike Arc366.2.1) Arc366.2.2 hin367 hat368 (g := (mkF m 388 #[Si p1, Si p2, Si p3, Sl q4, S2, Sl q5, S2, Si p6, Si vZ0, Si vZ1, Si vZ2, Si vL0, Si vL1, Si vL2, Si (0 : Int32), Si vZ0, Si vL0, Si vV, Sr b77, Sr b160, Sl vO0, S2, Sl vO1, S2, Sl vO2, S2, Sr b230, Sr b265, Sr b290, Si (1 : Int32), Su, Su] [(.int (1 : Int32)), (.ref b265), (.int ((vL1 + (0 : Int32)) + (((((own_upd vO0 (1 : Int32) (own_msk vZ0) (vL0 + (0 : Int32)) vV).toUInt64 >>> (((1 : Int32) + (own_bits vZ0)) &&& 0x3f).toInt64.toUInt64).toInt64) &&& (own_msk vZ1)).toInt32))), (.int (1 : Int32))])) rfl rfl (hb hby at_388) _ ?_
        show Steps _ _ _ (T354.setTop (mkF m 389 #[Si p1, Si p2, Si p3, Sl q4, S2, Sl q5, S2, Si p6, Si vZ0, Si vZ1, Si vZ2, Si vL0, Si vL1, Si vL2, Si (0 : Int32), Si vZ0, Si vL0, Si vV, Sr b77, Sr b160, Sl vO0, S2, Sl vO1, S2, Sl vO2, S2, Sr b230, Sr b265, Sr b290, Si (1 : Int32), Su, Su] [(.int ((vL1 + (0 : Int32)) + ((((vO0.toUInt64 >>> (((1 : Int32) + (own_bits vZ0)) &&& 0x3f).toInt64.toUInt64).toInt64) &&& (own_msk vZ1)).toInt32))), (.int ((vL1 + (0 : Int32)) + (((((own_upd vO0 (1 : Int32) (own_msk vZ0) (vL0 + (0 : Int32)) vV).toUInt64 >>> (((1 : Int32) + (own_bits vZ0)) &&& 0x3f).toInt64.toUInt64).toInt64) &&& (own_msk vZ1)).toInt32))), (.int (1 : Int32))])) _
        refine XS.icmpNo X354.here hx rfl (hb hby at_389) rfl (teq hc369).2 ?_
        refine XS.iconst X354.here hx rfl (hb hby at_392) ?_
        refine XS.goto X354.here hx rfl (pc0 := 393) (pc' := 397) rfl (hb hby at_393) (by decide) (by decide) ?_
        refine XS.iand X354.here hx rfl (hb hby at_397) rfl ?_
        refine XS.istore X354.here hx rfl (hb hby at_398) rfl (l' := #[Si p1, Si p2, Si p3, Sl q4, S2, Sl q5, S2, Si p6, Si vZ0, Si vZ1, Si vZ2, Si vL0, Si vL1, Si vL2, Si (0 : Int32), Si vZ0, Si vL0, Si vV, Sr b77, Sr b160, Sl vO0, S2, Sl vO1, S2, Sl vO2, S2, Sr b230, Sr b265, Sr b290, Si (1 : Int32), Su, Su]) rfl ?_
        refine XS.iload X354.here hx rfl (hb hby at_400) rfl ?_
        refine XS.iload X354.here hx rfl (hb hby at_402) rfl ?_
        refine XS.iconst X354.here hx rfl (hb hby at_404) ?_
        refine XS.icmpNo X354.here hx rfl (hb hby at_405) rfl (feq (by decide)).1 ?_
        refine XS.aload X354.here hx rfl (hb hby at_408) rfl rfl ?_
        show Steps _ _ _ (T354.setTop (mkF m 410 #[Si p1, Si p2, Si p3, Sl q4, S2, Sl q5, S2, Si p6, Si vZ0, Si vZ1, Si vZ2, Si vL0, Si vL1, Si vL2, Si (0 : Int32), Si vZ0, Si vL0, Si vV, Sr b77, Sr b160, Sl vO0, S2, Sl vO1, S2, Sl vO2, S2, Sr b230, Sr b265, Sr b290, Si (1 : Int32), Su, Su] [(.ref b290), (.int (1 : Int32))])) _
        refine XS.iconst X354.here hx rfl (hb hby at_410) ?_
        refine X354.iaload hx (j := (2 : Int32)) (v := (.int ((vL2 + (0 : Int32)) + ((((vO1.toUInt64 >>> ((0 : Int32) &&& 0x3f).toInt64.toUInt64).toInt64) &&& (own_msk vZ2)).toInt32)))) Arc370.1 (State.isArrayOf_alike hZ.alike Arc370.2.1) Arc370.2.2 hin371 hat372 (g := (mkF m 411 #[Si p1, Si p2, Si p3, Sl q4, S2, Sl q5, S2, Si p6, Si vZ0, Si vZ1, Si vZ2, Si vL0, Si vL1, Si vL2, Si (0 : Int32), Si vZ0, Si vL0, Si vV, Sr b77, Sr b160, Sl vO0, S2, Sl vO1, S2, Sl vO2, S2, Sr b230, Sr b265, Sr b290, Si (1 : Int32), Su, Su] [(.int (2 : Int32)), (.ref b290), (.int (1 : Int32))])) rfl rfl (hb hby at_411) _ ?_
        refine XS.aload X354.here hx rfl (hb hby at_412) rfl rfl ?_
        refine XS.iconst X354.here hx rfl (hb hby at_414) ?_
        refine X354.iaload hx (j := (2 : Int32)) (v := (.int ((vL2 + (0 : Int32)) + ((((vO1.toUInt64 >>> ((0 : Int32) &&& 0x3f).toInt64.toUInt64).toInt64) &&& (own_msk vZ2)).toInt32)))) Arc373.1 (State.isArrayOf_alike hZ.alike Arc373.2.1) Arc373.2.2 hin374 hat375 (g := (mkF m 415 #[Si p1, Si p2, Si p3, Sl q4, S2, Sl q5, S2, Si p6, Si vZ0, Si vZ1, Si vZ2, Si vL0, Si vL1, Si vL2, Si (0 : Int32), Si vZ0, Si vL0, Si vV, Sr b77, Sr b160, Sl vO0, S2, Sl vO1, S2, Sl vO2, S2, Sr b230, Sr b265, Sr b290, Si (1 : Int32), Su, Su] [(.int (2 : Int32)), (.ref b265), (.int ((vL2 + (0 : Int32)) + ((((vO1.toUInt64 >>> ((0 : Int32) &&& 0x3f).toInt64.toUInt64).toInt64) &&& (own_msk vZ2)).toInt32))), (.int (1 : Int32))])) rfl rfl (hb hby at_415) _ ?_
        refine XS.icmpNo X354.here hx rfl (hb hby at_416) rfl (teq rfl).2 ?_
        refine XS.iconst X354.here hx rfl (hb hby at_419) ?_
        refine XS.goto X354.here hx rfl (pc0 := 420) (pc' := 424) rfl (hb hby at_420) (by decide) (by decide) ?_
        refine XS.iand X354.here hx rfl (hb hby at_424) rfl ?_
        refine XS.istore X354.here hx rfl (hb hby at_425) rfl (l' := #[Si p1, Si p2, Si p3, Sl q4, S2, Sl q5, S2, Si p6, Si vZ0, Si vZ1, Si vZ2, Si vL0, Si vL1, Si vL2, Si (0 : Int32), Si vZ0, Si vL0, Si vV, Sr b77, Sr b160, Sl vO0, S2, Sl vO1, S2, Sl vO2, S2, Sr b230, Sr b265, Sr b290, Si (1 : Int32), Su, Su]) rfl ?_
        show Steps _ _ _ (T354.setTop (mkF m 427 #[Si p1, Si p2, Si p3, Sl q4, S2, Sl q5, S2, Si p6, Si vZ0, Si vZ1, Si vZ2, Si vL0, Si vL1, Si vL2, Si (0 : Int32), Si vZ0, Si vL0, Si vV, Sr b77, Sr b160, Sl vO0, S2, Sl vO1, S2, Sl vO2, S2, Sr b230, Sr b265, Sr b290, Si (1 : Int32), Su, Su] [])) _
        exact k
      have F377 : Arv Z T354.heap b230 k230 .long (3 : Int32) [(.long (own_upd vO0 (1 : Int32) (own_msk vZ0) (vL0 + (0 : Int32)) vV)), (.long vO1), (.long vO2)] (.long (0 : Int64)) := (q341_1.keep q354_0 (ninS ne312 nin0))
      obtain ⟨c378, Arc378, Aqc378, Asc378, Anc378, Ahc378, Agc378⟩ := id F377
      have hin379 : ¬ ((0 : Int32) < 0 ∨ c378.slots.size ≤ ((0 : Int32)).toNatClampNeg) := inb_of Asc378 ⟨by decide, by decide⟩
      have hat380 : c378.slots[((0 : Int32)).toNatClampNeg]? = some (.long (own_upd vO0 (1 : Int32) (own_msk vZ0) (vL0 + (0 : Int32)) vV)) := Has.at Ahc378 hin379 rfl
      have hc381 : ((own_upd vO0 (1 : Int32) (own_msk vZ0) (vL0 + (0 : Int32)) vV) &&& (1 : Int64)) = (1 : Int64) := by rw [hvO0]; exact own_lowG G0 (Nat.le_refl _)
      obtain ⟨c382, Arc382, Aqc382, Asc382, Anc382, Ahc382, Agc382⟩ := id F377
      have hin383 : ¬ ((2 : Int32) < 0 ∨ c382.slots.size ≤ ((2 : Int32)).toNatClampNeg) := inb_of Asc382 ⟨by decide, by decide⟩
      have hat384 : c382.slots[((2 : Int32)).toNatClampNeg]? = some (.long vO2) := Has.at Ahc382 hin383 rfl
      obtain ⟨c385, Arc385, Aqc385, Asc385, Anc385, Ahc385, Agc385⟩ := id F377
      have hin386 : ¬ ((0 : Int32) < 0 ∨ c385.slots.size ≤ ((0 : Int32)).toNatClampNeg) := inb_of Asc385 ⟨by decide, by decide⟩
      have hat387 : c385.slots[((0 : Int32)).toNatClampNeg]? = some (.long (own_upd vO0 (1 : Int32) (own_msk vZ0) (vL0 + (0 : Int32)) vV)) := Has.at Ahc385 hin386 rfl
      obtain ⟨c389, Arc389, Aqc389, Asc389, Anc389, Ahc389, Agc389⟩ := id F377
      have hin390 : ¬ ((1 : Int32) < 0 ∨ c389.slots.size ≤ ((1 : Int32)).toNatClampNeg) := inb_of Asc389 ⟨by decide, by decide⟩
      have hat391 : c389.slots[((1 : Int32)).toNatClampNeg]? = some (.long vO1) := Has.at Ahc389 hin390 rfl
      have pre392 : ∀ t, Steps p.tables e below (T354.setTop (mkF m 495 #[Si p1, Si p2, Si p3, Sl q4, S2, Sl q5, S2, Si p6, Si vZ0, Si vZ1, Si vZ2, Si vL0, Si vL1, Si vL2, Si (0 : Int32), Si vZ0, Si vL0, Si vV, Sr b77, Sr b160, Sl vO0, S2, Sl vO1, S2, Sl vO2, S2, Sr b230, Sr b265, Sr b290, Si (1 : Int32), Su, Su] [(.int (1 : Int32)), (.int (1 : Int32))])) t → Steps p.tables e below (s₁.setTop (entryFrame m #[(.int p1), (.int p2), (.int p3), (.long q4), (.long q5), (.int p6)] maxLocals)) t := by
        intro t k
        refine pre376 t ?_
        refine XS.iload X354.here hx rfl (hb hby at_427) rfl ?_
        refine XS.aload X354.here hx rfl (hb hby at_429) rfl rfl ?_
        refine XS.iconst X354.here hx rfl (hb hby at_431) ?_
        refine X354.laload hx (j := (0 : Int32)) (v := (.long (own_upd vO0 (1 : Int32) (own_msk vZ0) (vL0 + (0 : Int32)) vV))) Arc378.1 (State.isArrayOf_alike hZ.alike Arc378.2.1) Arc378.2.2 hin379 hat380 (g := (mkF m 432 #[Si p1, Si p2, Si p3, Sl q4, S2, Sl q5, S2, Si p6, Si vZ0, Si vZ1, Si vZ2, Si vL0, Si vL1, Si vL2, Si (0 : Int32), Si vZ0, Si vL0, Si vV, Sr b77, Sr b160, Sl vO0, S2, Sl vO1, S2, Sl vO2, S2, Sr b230, Sr b265, Sr b290, Si (1 : Int32), Su, Su] [(.int (0 : Int32)), (.ref b230), (.int (1 : Int32))])) rfl rfl (hb hby at_432) _ ?_
        refine XS.lconst X354.here hx rfl (hb hby at_433) ?_
        refine XS.land X354.here hx rfl (hb hby at_434) rfl ?_
        refine XS.lconst X354.here hx rfl (hb hby at_435) ?_
        refine XS.lcmp X354.here hx rfl (hb hby at_436) rfl ?_
        refine XS.ifNo X354.here hx rfl (hb hby at_437) rfl ((if0 _ _).trans (teq ((lw_eq _ _).mpr hc381)).2) ?_
        refine XS.iconst X354.here hx rfl (hb hby at_440) ?_
        show Steps _ _ _ (T354.setTop (mkF m 441 #[Si p1, Si p2, Si p3, Sl q4, S2, Sl q5, S2, Si p6, Si vZ0, Si vZ1, Si vZ2, Si vL0, Si vL1, Si vL2, Si (0 : Int32), Si vZ0, Si vL0, Si vV, Sr b77, Sr b160, Sl vO0, S2, Sl vO1, S2, Sl vO2, S2, Sr b230, Sr b265, Sr b290, Si (1 : Int32), Su, Su] [(.int (1 : Int32)), (.int (1 : Int32))])) _
        refine XS.goto X354.here hx rfl (pc0 := 441) (pc' := 445) rfl (hb hby at_441) (by decide) (by decide) ?_
        refine XS.iand X354.here hx rfl (hb hby at_445) rfl ?_
        refine XS.istore X354.here hx rfl (hb hby at_446) rfl (l' := #[Si p1, Si p2, Si p3, Sl q4, S2, Sl q5, S2, Si p6, Si vZ0, Si vZ1, Si vZ2, Si vL0, Si vL1, Si vL2, Si (0 : Int32), Si vZ0, Si vL0, Si vV, Sr b77, Sr b160, Sl vO0, S2, Sl vO1, S2, Sl vO2, S2, Sr b230, Sr b265, Sr b290, Si (1 : Int32), Su, Su]) rfl ?_
        refine XS.iload X354.here hx rfl (hb hby at_448) rfl ?_
        refine XS.aload X354.here hx rfl (hb hby at_450) rfl rfl ?_
        refine XS.iconst X354.here hx rfl (hb hby at_452) ?_
        refine X354.laload hx (j := (2 : Int32)) (v := (.long vO2)) Arc382.1 (State.isArrayOf_alike hZ.alike Arc382.2.1) Arc382.2.2 hin383 hat384 (g := (mkF m 453 #[Si p1, Si p2, Si p3, Sl q4, S2, Sl q5, S2, Si p6, Si vZ0, Si vZ1, Si vZ2, Si vL0, Si vL1, Si vL2, Si (0 : Int32), Si vZ0, Si vL0, Si vV, Sr b77, Sr b160, Sl vO0, S2, Sl vO1, S2, Sl vO2, S2, Sr b230, Sr b265, Sr b290, Si (1 : Int32), Su, Su] [(.int (2 : Int32)), (.ref b230), (.int (1 : Int32))])) rfl rfl (hb hby at_453) _ ?_
        refine XS.lload X354.here hx rfl (hb hby at_454) rfl ?_
        refine XS.lcmp X354.here hx rfl (hb hby at_456) rfl ?_
        refine XS.ifNo X354.here hx rfl (hb hby at_457) rfl ((if0 _ _).trans (teq ((lw_eq _ _).mpr rfl)).2) ?_
        show Steps _ _ _ (T354.setTop (mkF m 460 #[Si p1, Si p2, Si p3, Sl q4, S2, Sl q5, S2, Si p6, Si vZ0, Si vZ1, Si vZ2, Si vL0, Si vL1, Si vL2, Si (0 : Int32), Si vZ0, Si vL0, Si vV, Sr b77, Sr b160, Sl vO0, S2, Sl vO1, S2, Sl vO2, S2, Sr b230, Sr b265, Sr b290, Si (1 : Int32), Su, Su] [(.int (1 : Int32))])) _
        refine XS.iconst X354.here hx rfl (hb hby at_460) ?_
        refine XS.goto X354.here hx rfl (pc0 := 461) (pc' := 465) rfl (hb hby at_461) (by decide) (by decide) ?_
        refine XS.iand X354.here hx rfl (hb hby at_465) rfl ?_
        refine XS.istore X354.here hx rfl (hb hby at_466) rfl (l' := #[Si p1, Si p2, Si p3, Sl q4, S2, Sl q5, S2, Si p6, Si vZ0, Si vZ1, Si vZ2, Si vL0, Si vL1, Si vL2, Si (0 : Int32), Si vZ0, Si vL0, Si vV, Sr b77, Sr b160, Sl vO0, S2, Sl vO1, S2, Sl vO2, S2, Sr b230, Sr b265, Sr b290, Si (1 : Int32), Su, Su]) rfl ?_
        refine XS.iload X354.here hx rfl (hb hby at_468) rfl ?_
        refine XS.aload X354.here hx rfl (hb hby at_470) rfl rfl ?_
        refine XS.iconst X354.here hx rfl (hb hby at_472) ?_
        refine X354.laload hx (j := (0 : Int32)) (v := (.long (own_upd vO0 (1 : Int32) (own_msk vZ0) (vL0 + (0 : Int32)) vV))) Arc385.1 (State.isArrayOf_alike hZ.alike Arc385.2.1) Arc385.2.2 hin386 hat387 (g := (mkF m 473 #[Si p1, Si p2, Si p3, Sl q4, S2, Sl q5, S2, Si p6, Si vZ0, Si vZ1, Si vZ2, Si vL0, Si vL1, Si vL2, Si (0 : Int32), Si vZ0, Si vL0, Si vV, Sr b77, Sr b160, Sl vO0, S2, Sl vO1, S2, Sl vO2, S2, Sr b230, Sr b265, Sr b290, Si (1 : Int32), Su, Su] [(.int (0 : Int32)), (.ref b230), (.int (1 : Int32))])) rfl rfl (hb hby at_473) _ ?_
        refine XS.lload X354.here hx rfl (hb hby at_474) rfl ?_
        refine XS.lcmp X354.here hx rfl (hb hby at_476) rfl ?_
        show Steps _ _ _ (T354.setTop (mkF m 477 #[Si p1, Si p2, Si p3, Sl q4, S2, Sl q5, S2, Si p6, Si vZ0, Si vZ1, Si vZ2, Si vL0, Si vL1, Si vL2, Si (0 : Int32), Si vZ0, Si vL0, Si vV, Sr b77, Sr b160, Sl vO0, S2, Sl vO1, S2, Sl vO2, S2, Sr b230, Sr b265, Sr b290, Si (1 : Int32), Su, Su] [(.int (lcmpW (own_upd vO0 (1 : Int32) (own_msk vZ0) (vL0 + (0 : Int32)) vV) vO0)), (.int (1 : Int32))])) _
        by_cases hc388 : (own_upd vO0 (1 : Int32) (own_msk vZ0) (vL0 + (0 : Int32)) vV) = vO0
        · refine XS.ifYes X354.here hx rfl (pc0 := 477) (pc' := 490) rfl (hb hby at_477) rfl ((if0 _ _).trans (teq ((lw_eq _ _).mpr hc388)).1) (by decide) (by decide) ?_
          refine XS.iconst X354.here hx rfl (hb hby at_490) ?_
          refine XS.goto X354.here hx rfl (pc0 := 491) (pc' := 495) rfl (hb hby at_491) (by decide) (by decide) ?_
          exact k
        · refine XS.ifNo X354.here hx rfl (hb hby at_477) rfl ((if0 _ _).trans (feq (fun z => hc388 ((lw_eq _ _).mp z))).1) ?_
          refine XS.aload X354.here hx rfl (hb hby at_480) rfl rfl ?_
          refine XS.iconst X354.here hx rfl (hb hby at_482) ?_
          refine X354.laload hx (j := (1 : Int32)) (v := (.long vO1)) Arc389.1 (State.isArrayOf_alike hZ.alike Arc389.2.1) Arc389.2.2 hin390 hat391 (g := (mkF m 483 #[Si p1, Si p2, Si p3, Sl q4, S2, Sl q5, S2, Si p6, Si vZ0, Si vZ1, Si vZ2, Si vL0, Si vL1, Si vL2, Si (0 : Int32), Si vZ0, Si vL0, Si vV, Sr b77, Sr b160, Sl vO0, S2, Sl vO1, S2, Sl vO2, S2, Sr b230, Sr b265, Sr b290, Si (1 : Int32), Su, Su] [(.int (1 : Int32)), (.ref b230), (.int (1 : Int32))])) rfl rfl (hb hby at_483) _ ?_
          refine XS.lload X354.here hx rfl (hb hby at_484) rfl ?_
          refine XS.lcmp X354.here hx rfl (hb hby at_486) rfl ?_
          refine XS.ifNo X354.here hx rfl (hb hby at_487) rfl ((if0 _ _).trans (teq ((lw_eq _ _).mpr rfl)).2) ?_
          refine XS.iconst X354.here hx rfl (hb hby at_490) ?_
          refine XS.goto X354.here hx rfl (pc0 := 491) (pc' := 495) rfl (hb hby at_491) (by decide) (by decide) ?_
          exact k
      obtain ⟨c393, Arc393, Aqc393, Asc393, Anc393, Ahc393, Agc393⟩ := id F365
      have hin394 : ¬ ((0 : Int32) < 0 ∨ c393.slots.size ≤ ((0 : Int32)).toNatClampNeg) := inb_of Asc393 ⟨by decide, by decide⟩
      have hat395 : c393.slots[((0 : Int32)).toNatClampNeg]? = some (.int ((vL0 + (0 : Int32)) + ((((vO0.toUInt64 >>> ((1 : Int32) &&& 0x3f).toInt64.toUInt64).toInt64) &&& (own_msk vZ0)).toInt32))) := Has.at Ahc393 hin394 rfl
      have pre396 : ∀ t, Steps p.tables e below (T354.setTop (mkF m 514 #[Si p1, Si p2, Si p3, Sl q4, S2, Sl q5, S2, Si p6, Si vZ0, Si vZ1, Si vZ2, Si vL0, Si vL1, Si vL2, Si (0 : Int32), Si vZ0, Si vL0, Si vV, Sr b77, Sr b160, Sl vO0, S2, Sl vO1, S2, Sl vO2, S2, Sr b230, Sr b265, Sr b290, Si (1 : Int32), Sl ((((vL0 + (0 : Int32)) + ((((vO0.toUInt64 >>> ((1 : Int32) &&& 0x3f).toInt64.toUInt64).toInt64) &&& (own_msk vZ0)).toInt32)).toInt64) - (vL0.toInt64)), S2] [(.int (lcmpW ((((vL0 + (0 : Int32)) + ((((vO0.toUInt64 >>> ((1 : Int32) &&& 0x3f).toInt64.toUInt64).toInt64) &&& (own_msk vZ0)).toInt32)).toInt64) - (vL0.toInt64)) (0 : Int64)))])) t → Steps p.tables e below (s₁.setTop (entryFrame m #[(.int p1), (.int p2), (.int p3), (.long q4), (.long q5), (.int p6)] maxLocals)) t := by
        intro t k
        refine pre392 t ?_
        refine XS.iand X354.here hx rfl (hb hby at_495) rfl ?_
        refine XS.istore X354.here hx rfl (hb hby at_496) rfl (l' := #[Si p1, Si p2, Si p3, Sl q4, S2, Sl q5, S2, Si p6, Si vZ0, Si vZ1, Si vZ2, Si vL0, Si vL1, Si vL2, Si (0 : Int32), Si vZ0, Si vL0, Si vV, Sr b77, Sr b160, Sl vO0, S2, Sl vO1, S2, Sl vO2, S2, Sr b230, Sr b265, Sr b290, Si (1 : Int32), Su, Su]) rfl ?_
        refine XS.aload X354.here hx rfl (hb hby at_498) rfl rfl ?_
        refine XS.iload X354.here hx rfl (hb hby at_500) rfl ?_
        refine X354.iaload hx (j := (0 : Int32)) (v := (.int ((vL0 + (0 : Int32)) + ((((vO0.toUInt64 >>> ((1 : Int32) &&& 0x3f).toInt64.toUInt64).toInt64) &&& (own_msk vZ0)).toInt32)))) Arc393.1 (State.isArrayOf_alike hZ.alike Arc393.2.1) Arc393.2.2 hin394 hat395 (g := (mkF m 502 #[Si p1, Si p2, Si p3, Sl q4, S2, Sl q5, S2, Si p6, Si vZ0, Si vZ1, Si vZ2, Si vL0, Si vL1, Si vL2, Si (0 : Int32), Si vZ0, Si vL0, Si vV, Sr b77, Sr b160, Sl vO0, S2, Sl vO1, S2, Sl vO2, S2, Sr b230, Sr b265, Sr b290, Si (1 : Int32), Su, Su] [(.int (0 : Int32)), (.ref b265)])) rfl rfl (hb hby at_502) _ ?_
        refine XS.i2l X354.here hx rfl (hb hby at_503) rfl ?_
        refine XS.iload X354.here hx rfl (hb hby at_504) rfl ?_
        refine XS.i2l X354.here hx rfl (hb hby at_506) rfl ?_
        refine XS.lsub X354.here hx rfl (hb hby at_507) rfl ?_
        refine XS.lstore X354.here hx rfl (hb hby at_508) rfl (l' := #[Si p1, Si p2, Si p3, Sl q4, S2, Sl q5, S2, Si p6, Si vZ0, Si vZ1, Si vZ2, Si vL0, Si vL1, Si vL2, Si (0 : Int32), Si vZ0, Si vL0, Si vV, Sr b77, Sr b160, Sl vO0, S2, Sl vO1, S2, Sl vO2, S2, Sr b230, Sr b265, Sr b290, Si (1 : Int32), Sl ((((vL0 + (0 : Int32)) + ((((vO0.toUInt64 >>> ((1 : Int32) &&& 0x3f).toInt64.toUInt64).toInt64) &&& (own_msk vZ0)).toInt32)).toInt64) - (vL0.toInt64)), S2]) rfl ?_
        show Steps _ _ _ (T354.setTop (mkF m 510 #[Si p1, Si p2, Si p3, Sl q4, S2, Sl q5, S2, Si p6, Si vZ0, Si vZ1, Si vZ2, Si vL0, Si vL1, Si vL2, Si (0 : Int32), Si vZ0, Si vL0, Si vV, Sr b77, Sr b160, Sl vO0, S2, Sl vO1, S2, Sl vO2, S2, Sr b230, Sr b265, Sr b290, Si (1 : Int32), Sl ((((vL0 + (0 : Int32)) + ((((vO0.toUInt64 >>> ((1 : Int32) &&& 0x3f).toInt64.toUInt64).toInt64) &&& (own_msk vZ0)).toInt32)).toInt64) - (vL0.toInt64)), S2] [])) _
        refine XS.lload X354.here hx rfl (hb hby at_510) rfl ?_
        refine XS.lconst X354.here hx rfl (hb hby at_512) ?_
        refine XS.lcmp X354.here hx rfl (hb hby at_513) rfl ?_
        exact k
      by_cases hd0 : ((((vL0 + (0 : Int32)) + ((((vO0.toUInt64 >>> ((1 : Int32) &&& 0x3f).toInt64.toUInt64).toInt64) &&& (own_msk vZ0)).toInt32)).toInt64) - (vL0.toInt64)) < (0 : Int64)
      · have pre397 : ∀ t, Steps p.tables e below (T354.setTop (mkF m 582 #[Si p1, Si p2, Si p3, Sl q4, S2, Sl q5, S2, Si p6, Si vZ0, Si vZ1, Si vZ2, Si vL0, Si vL1, Si vL2, Si (0 : Int32), Si vZ0, Si vL0, Si vV, Sr b77, Sr b160, Sl vO0, S2, Sl vO1, S2, Sl vO2, S2, Sr b230, Sr b265, Sr b290, Si (1 : Int32), Sl ((((vL0 + (0 : Int32)) + ((((vO0.toUInt64 >>> ((1 : Int32) &&& 0x3f).toInt64.toUInt64).toInt64) &&& (own_msk vZ0)).toInt32)).toInt64) - (vL0.toInt64)), S2] [(.int (1 : Int32))])) t → Steps p.tables e below (s₁.setTop (entryFrame m #[(.int p1), (.int p2), (.int p3), (.long q4), (.long q5), (.int p6)] maxLocals)) t := by
          intro t k
          refine pre396 t ?_
          refine XS.ifYes X354.here hx rfl (pc0 := 514) (pc' := 580) rfl (hb hby at_514) rfl ((if0 _ _).trans (tlt ((lw_lt _ _).mpr hd0)).1) (by decide) (by decide) ?_
          refine XS.iload X354.here hx rfl (hb hby at_580) rfl ?_
          exact k
        obtain ⟨fs, hr, hrun, hended, hW, hsame⟩ := X354.leave (v := some (.int (1 : Int32))) (fun h => by rw [Bd.returns] at h; cases h)
        refine ⟨_, _, pre397 _ ?_, hrun, hended, _, _, rfl, ?_, ⟨_, rfl⟩, hW, hsame.mono (by decide) (by decide)⟩
        · exact retN X354 hx (t := .boolean) Bd.returns (by simp) (hb hby at_582) hr
        · show Q_rm0 Z p1 p2 p3 q4 q5 p6 wE kE h0 n0 _ T354.heap _
          exact ⟨rfl, N356, KC357⟩
      · have pre398 : ∀ t, Steps p.tables e below (T354.setTop (mkF m 523 #[Si p1, Si p2, Si p3, Sl q4, S2, Sl q5, S2, Si p6, Si vZ0, Si vZ1, Si vZ2, Si vL0, Si vL1, Si vL2, Si (0 : Int32), Si vZ0, Si vL0, Si vV, Sr b77, Sr b160, Sl vO0, S2, Sl vO1, S2, Sl vO2, S2, Sr b230, Sr b265, Sr b290, Si (1 : Int32), Sl ((((vL0 + (0 : Int32)) + ((((vO0.toUInt64 >>> ((1 : Int32) &&& 0x3f).toInt64.toUInt64).toInt64) &&& (own_msk vZ0)).toInt32)).toInt64) - (vL0.toInt64)), S2] [(.int (lcmpW ((((vL0 + (0 : Int32)) + ((((vO0.toUInt64 >>> ((1 : Int32) &&& 0x3f).toInt64.toUInt64).toInt64) &&& (own_msk vZ0)).toInt32)).toInt64) - (vL0.toInt64)) (vZ0.toInt64)))])) t → Steps p.tables e below (s₁.setTop (entryFrame m #[(.int p1), (.int p2), (.int p3), (.long q4), (.long q5), (.int p6)] maxLocals)) t := by
          intro t k
          refine pre396 t ?_
          refine XS.ifNo X354.here hx rfl (hb hby at_514) rfl ((if0 _ _).trans (flt (fun z => hd0 ((lw_lt _ _).mp z))).1) ?_
          refine XS.lload X354.here hx rfl (hb hby at_517) rfl ?_
          refine XS.iload X354.here hx rfl (hb hby at_519) rfl ?_
          refine XS.i2l X354.here hx rfl (hb hby at_521) rfl ?_
          refine XS.lcmp X354.here hx rfl (hb hby at_522) rfl ?_
          exact k
        by_cases hd1 : ((((vL0 + (0 : Int32)) + ((((vO0.toUInt64 >>> ((1 : Int32) &&& 0x3f).toInt64.toUInt64).toInt64) &&& (own_msk vZ0)).toInt32)).toInt64) - (vL0.toInt64)) < (vZ0.toInt64)
        · obtain ⟨c399, Arc399, Aqc399, Asc399, Anc399, Ahc399, Agc399⟩ := id F365
          have hin400 : ¬ ((0 : Int32) < 0 ∨ c399.slots.size ≤ ((0 : Int32)).toNatClampNeg) := inb_of Asc399 ⟨by decide, by decide⟩
          have hat401 : c399.slots[((0 : Int32)).toNatClampNeg]? = some (.int ((vL0 + (0 : Int32)) + ((((vO0.toUInt64 >>> ((1 : Int32) &&& 0x3f).toInt64.toUInt64).toInt64) &&& (own_msk vZ0)).toInt32))) := Has.at Ahc399 hin400 rfl
          have F402 : Fld Z T354.heap b160 "com/example/darlington/darlington/core/StateLayout" "wordOf" "[I" (.ref r1_191) := (F345.keep q354_0 (ninS ne302 nin0))
          have F403 : Arv Z T354.heap r1_191 c1_191 .int (3 : Int32) [(.int (0 : Int32)), (.int (0 : Int32)), (.int (1 : Int32))] (.int (0 : Int32)) := (F346.keep q354_0 (ninS ne304 nin0))
          have F404 : Fld Z T354.heap b160 "com/example/darlington/darlington/core/StateLayout" "shiftOf" "[I" (.ref r2_191) := (F347.keep q354_0 (ninS ne302 nin0))
          have F405 : Arv Z T354.heap r2_191 c2_191 .int (3 : Int32) [(.int (1 : Int32)), (.int ((1 : Int32) + (own_bits vZ0))), (.int (0 : Int32))] (.int (0 : Int32)) := (F348.keep q354_0 (ninS ne306 nin0))
          have F406 : Fld Z T354.heap b160 "com/example/darlington/darlington/core/StateLayout" "maskOf" "[J" (.ref r3_191) := (F349.keep q354_0 (ninS ne302 nin0))
          have F407 : Arv Z T354.heap r3_191 c3_191 .long (3 : Int32) [(.long (own_msk vZ0)), (.long (own_msk vZ1)), (.long (own_msk vZ2))] (.long (0 : Int64)) := (F350.keep q354_0 (ninS ne308 nin0))
          have F408 : Fld Z T354.heap b160 "com/example/darlington/darlington/core/StateLayout" "firstOf" "[I" (.ref r4_191) := (F351.keep q354_0 (ninS ne302 nin0))
          have F409 : Arv Z T354.heap r4_191 c4_191 .int (3 : Int32) [(.int (vL0 + (0 : Int32))), (.int (vL1 + (0 : Int32))), (.int (vL2 + (0 : Int32)))] (.int (0 : Int32)) := (F352.keep q354_0 (ninS ne310 nin0))
          have F411 : Exa Z T354.heap b160 "com/example/darlington/darlington/core/StateLayout" := (F355.keep q354_0)
          obtain ⟨cq410, kq410, q410a, q410b, q410c⟩ := isOf hZ rfl F411
          obtain ⟨_, _, ⟨T410, L410, k410, n410⟩, -, X410, ⟨Lc410, hQ410, l410, y410, z410⟩, st410⟩ := X354.virtualBack hx (y := (⟨"com/example/darlington/darlington/core/StateLayout", "set", "([JII)V"⟩ : MethodName)) (z := (⟨"com/example/darlington/darlington/core/StateLayout", "set", "([JII)V"⟩ : MethodName)) hown (mvT hZ (ow hw 159 rfl)) (mvT hZ (ow hw 160 rfl)) (notFace_of_selects (args := #[]) (mvT hZ (ow hw 162 rfl))) (mvT hZ (ow hw 162 rfl)) (mvT hZ (ow hw 161 rfl)) (by decide) (backOf (W := 0) (rm_set0 l Z a0 hw [] b160 b230 ((vL0 + (0 : Int32)) + ((((vO0.toUInt64 >>> ((1 : Int32) &&& 0x3f).toInt64.toUInt64).toInt64) &&& (own_msk vZ0)).toInt32)) r1_191 r2_191 r3_191 r4_191 c1_191 c2_191 c3_191 c4_191 (1 : Int32) ((1 : Int32) + (own_bits vZ0)) (0 : Int32) (own_msk vZ0) (own_msk vZ1) (own_msk vZ2) (vL0 + (0 : Int32)) (vL1 + (0 : Int32)) (vL2 + (0 : Int32)) (1 : Int32) k230 (own_upd vO0 (1 : Int32) (own_msk vZ0) (vL0 + (0 : Int32)) vV) vO1 vO2 T354.heap n0 (Nat.le_trans Z0 KC357.1) F402 F403 F404 F405 F406 F407 F408 F409 F377 ge247) hZ (ow hw 163 rfl) (ow hw 88 rfl) (by decide) (by decide)) q410a q410c (g := (mkF m 537 #[Si p1, Si p2, Si p3, Sl q4, S2, Sl q5, S2, Si p6, Si vZ0, Si vZ1, Si vZ2, Si vL0, Si vL1, Si vL2, Si (0 : Int32), Si vZ0, Si vL0, Si vV, Sr b77, Sr b160, Sl vO0, S2, Sl vO1, S2, Sl vO2, S2, Sr b230, Sr b265, Sr b290, Si (1 : Int32), Sl ((((vL0 + (0 : Int32)) + ((((vO0.toUInt64 >>> ((1 : Int32) &&& 0x3f).toInt64.toUInt64).toInt64) &&& (own_msk vZ0)).toInt32)).toInt64) - (vL0.toInt64)), S2] [(.int ((vL0 + (0 : Int32)) + ((((vO0.toUInt64 >>> ((1 : Int32) &&& 0x3f).toInt64.toUInt64).toInt64) &&& (own_msk vZ0)).toInt32))), (.int (0 : Int32)), (.ref b230), (.ref b160)])) rfl (by rw [hml]; rfl) (Steps.refl _) (argsL := [(.ref b230), (.int (0 : Int32)), (.int ((vL0 + (0 : Int32)) + ((((vO0.toUInt64 >>> ((1 : Int32) &&& 0x3f).toInt64.toUInt64).toInt64) &&& (own_msk vZ0)).toInt32)))]) (rest := []) (lenOf pd_13 rfl) rfl (by show 2 * 0 + _ ≤ _; exact Nat.le_of_eq rfl) (hb hby at_537) (fun _ _ => ⟨rfl, rfl, (by decide : 13 + 0 ≤ _), (by decide : 45 + 0 ≤ _)⟩)
          dsimp only [Pt.U, Pt.locs, Pt.cells, Pt.slots] at X410 l410 y410 z410 st410 hQ410
          subst y410 z410
          obtain ⟨rfl, Nq410, q410_0, q410_1⟩ := hQ410
          have N412 := Eq.subst (motive := fun L => Fr n0 L) l410.symm (Fr.app N356 Nq410)
          have KC413 : Keep h0 T410.heap [] := KC357.trans q410_0 (allS (Or.inr sz248) all0)
          obtain ⟨c414, Arc414, Aqc414, Asc414, Anc414, Ahc414, Agc414⟩ := id q410_1
          have hin415 : ¬ ((0 : Int32) < 0 ∨ c414.slots.size ≤ ((0 : Int32)).toNatClampNeg) := inb_of Asc414 ⟨by decide, by decide⟩
          have hat416 : c414.slots[((0 : Int32)).toNatClampNeg]? = some (.long (own_upd (own_upd vO0 (1 : Int32) (own_msk vZ0) (vL0 + (0 : Int32)) vV) (1 : Int32) (own_msk vZ0) (vL0 + (0 : Int32)) ((vL0 + (0 : Int32)) + ((((vO0.toUInt64 >>> ((1 : Int32) &&& 0x3f).toInt64.toUInt64).toInt64) &&& (own_msk vZ0)).toInt32)))) := Has.at Ahc414 hin415 rfl
          have hc417 : (own_upd (own_upd vO0 (1 : Int32) (own_msk vZ0) (vL0 + (0 : Int32)) vV) (1 : Int32) (own_msk vZ0) (vL0 + (0 : Int32)) ((vL0 + (0 : Int32)) + ((((vO0.toUInt64 >>> ((1 : Int32) &&& 0x3f).toInt64.toUInt64).toInt64) &&& (own_msk vZ0)).toInt32))) = vO0 := own_uuG G0 (own_back G0.2.2.2 B0 _ (own_fldB G0.2.2.2 B0).1 (own_fldB G0.2.2.2 B0).2 hd0)
          obtain ⟨c418, Arc418, Aqc418, Asc418, Anc418, Ahc418, Agc418⟩ := id q410_1
          have hin419 : ¬ ((1 : Int32) < 0 ∨ c418.slots.size ≤ ((1 : Int32)).toNatClampNeg) := inb_of Asc418 ⟨by decide, by decide⟩
          have hat420 : c418.slots[((1 : Int32)).toNatClampNeg]? = some (.long vO1) := Has.at Ahc418 hin419 rfl
          obtain ⟨c421, Arc421, Aqc421, Asc421, Anc421, Ahc421, Agc421⟩ := id q410_1
          have hin422 : ¬ ((2 : Int32) < 0 ∨ c421.slots.size ≤ ((2 : Int32)).toNatClampNeg) := inb_of Asc421 ⟨by decide, by decide⟩
          have hat423 : c421.slots[((2 : Int32)).toNatClampNeg]? = some (.long vO2) := Has.at Ahc421 hin422 rfl
          have pre424 : ∀ t, Steps p.tables e below (T410.setTop (mkF m 582 #[Si p1, Si p2, Si p3, Sl q4, S2, Sl q5, S2, Si p6, Si vZ0, Si vZ1, Si vZ2, Si vL0, Si vL1, Si vL2, Si (0 : Int32), Si vZ0, Si vL0, Si vV, Sr b77, Sr b160, Sl vO0, S2, Sl vO1, S2, Sl vO2, S2, Sr b230, Sr b265, Sr b290, Si (1 : Int32), Sl ((((vL0 + (0 : Int32)) + ((((vO0.toUInt64 >>> ((1 : Int32) &&& 0x3f).toInt64.toUInt64).toInt64) &&& (own_msk vZ0)).toInt32)).toInt64) - (vL0.toInt64)), S2] [(.int (1 : Int32))])) t → Steps p.tables e below (s₁.setTop (entryFrame m #[(.int p1), (.int p2), (.int p3), (.long q4), (.long q5), (.int p6)] maxLocals)) t := by
            intro t k
            refine pre398 t ?_
            refine XS.ifNo X354.here hx rfl (hb hby at_523) rfl ((if0 _ _).trans (tlt ((lw_lt _ _).mpr hd1)).2.1) ?_
            refine XS.aload X354.here hx rfl (hb hby at_526) rfl rfl ?_
            show Steps _ _ _ (T354.setTop (mkF m 528 #[Si p1, Si p2, Si p3, Sl q4, S2, Sl q5, S2, Si p6, Si vZ0, Si vZ1, Si vZ2, Si vL0, Si vL1, Si vL2, Si (0 : Int32), Si vZ0, Si vL0, Si vV, Sr b77, Sr b160, Sl vO0, S2, Sl vO1, S2, Sl vO2, S2, Sr b230, Sr b265, Sr b290, Si (1 : Int32), Sl ((((vL0 + (0 : Int32)) + ((((vO0.toUInt64 >>> ((1 : Int32) &&& 0x3f).toInt64.toUInt64).toInt64) &&& (own_msk vZ0)).toInt32)).toInt64) - (vL0.toInt64)), S2] [(.ref b160)])) _
            refine XS.aload X354.here hx rfl (hb hby at_528) rfl rfl ?_
            refine XS.iload X354.here hx rfl (hb hby at_530) rfl ?_
            refine XS.aload X354.here hx rfl (hb hby at_532) rfl rfl ?_
            refine XS.iload X354.here hx rfl (hb hby at_534) rfl ?_
            refine X354.iaload hx (j := (0 : Int32)) (v := (.int ((vL0 + (0 : Int32)) + ((((vO0.toUInt64 >>> ((1 : Int32) &&& 0x3f).toInt64.toUInt64).toInt64) &&& (own_msk vZ0)).toInt32)))) Arc399.1 (State.isArrayOf_alike hZ.alike Arc399.2.1) Arc399.2.2 hin400 hat401 (g := (mkF m 536 #[Si p1, Si p2, Si p3, Sl q4, S2, Sl q5, S2, Si p6, Si vZ0, Si vZ1, Si vZ2, Si vL0, Si vL1, Si vL2, Si (0 : Int32), Si vZ0, Si vL0, Si vV, Sr b77, Sr b160, Sl vO0, S2, Sl vO1, S2, Sl vO2, S2, Sr b230, Sr b265, Sr b290, Si (1 : Int32), Sl ((((vL0 + (0 : Int32)) + ((((vO0.toUInt64 >>> ((1 : Int32) &&& 0x3f).toInt64.toUInt64).toInt64) &&& (own_msk vZ0)).toInt32)).toInt64) - (vL0.toInt64)), S2] [(.int (0 : Int32)), (.ref b265), (.int (0 : Int32)), (.ref b230), (.ref b160)])) rfl rfl (hb hby at_536) _ ?_
            refine st410.trans ?_
            refine XS.iload X410.here hx rfl (hb hby at_540) rfl ?_
            refine XS.aload X410.here hx rfl (hb hby at_542) rfl rfl ?_
            refine XS.iconst X410.here hx rfl (hb hby at_544) ?_
            refine X410.laload hx (j := (0 : Int32)) (v := (.long (own_upd (own_upd vO0 (1 : Int32) (own_msk vZ0) (vL0 + (0 : Int32)) vV) (1 : Int32) (own_msk vZ0) (vL0 + (0 : Int32)) ((vL0 + (0 : Int32)) + ((((vO0.toUInt64 >>> ((1 : Int32) &&& 0x3f).toInt64.toUInt64).toInt64) &&& (own_msk vZ0)).toInt32))))) Arc414.1 (State.isArrayOf_alike hZ.alike Arc414.2.1) Arc414.2.2 hin415 hat416 (g := (mkF m 545 #[Si p1, Si p2, Si p3, Sl q4, S2, Sl q5, S2, Si p6, Si vZ0, Si vZ1, Si vZ2, Si vL0, Si vL1, Si vL2, Si (0 : Int32), Si vZ0, Si vL0, Si vV, Sr b77, Sr b160, Sl vO0, S2, Sl vO1, S2, Sl vO2, S2, Sr b230, Sr b265, Sr b290, Si (1 : Int32), Sl ((((vL0 + (0 : Int32)) + ((((vO0.toUInt64 >>> ((1 : Int32) &&& 0x3f).toInt64.toUInt64).toInt64) &&& (own_msk vZ0)).toInt32)).toInt64) - (vL0.toInt64)), S2] [(.int (0 : Int32)), (.ref b230), (.int (1 : Int32))])) rfl rfl (hb hby at_545) _ ?_
            show Steps _ _ _ (T410.setTop (mkF m 546 #[Si p1, Si p2, Si p3, Sl q4, S2, Sl q5, S2, Si p6, Si vZ0, Si vZ1, Si vZ2, Si vL0, Si vL1, Si vL2, Si (0 : Int32), Si vZ0, Si vL0, Si vV, Sr b77, Sr b160, Sl vO0, S2, Sl vO1, S2, Sl vO2, S2, Sr b230, Sr b265, Sr b290, Si (1 : Int32), Sl ((((vL0 + (0 : Int32)) + ((((vO0.toUInt64 >>> ((1 : Int32) &&& 0x3f).toInt64.toUInt64).toInt64) &&& (own_msk vZ0)).toInt32)).toInt64) - (vL0.toInt64)), S2] [(.long (own_upd (own_upd vO0 (1 : Int32) (own_msk vZ0) (vL0 + (0 : Int32)) vV) (1 : Int32) (own_msk vZ0) (vL0 + (0 : Int32)) ((vL0 + (0 : Int32)) + ((((vO0.toUInt64 >>> ((1 : Int32) &&& 0x3f).toInt64.toUInt64).toInt64) &&& (own_msk vZ0)).toInt32)))), (.int (1 : Int32))])) _
            refine XS.lload X410.here hx rfl (hb hby at_546) rfl ?_
            refine XS.lcmp X410.here hx rfl (hb hby at_548) rfl ?_
            refine XS.ifNo X410.here hx rfl (hb hby at_549) rfl ((if0 _ _).trans (teq ((lw_eq _ _).mpr hc417)).2) ?_
            refine XS.aload X410.here hx rfl (hb hby at_552) rfl rfl ?_
            refine XS.iconst X410.here hx rfl (hb hby at_554) ?_
            refine X410.laload hx (j := (1 : Int32)) (v := (.long vO1)) Arc418.1 (State.isArrayOf_alike hZ.alike Arc418.2.1) Arc418.2.2 hin419 hat420 (g := (mkF m 555 #[Si p1, Si p2, Si p3, Sl q4, S2, Sl q5, S2, Si p6, Si vZ0, Si vZ1, Si vZ2, Si vL0, Si vL1, Si vL2, Si (0 : Int32), Si vZ0, Si vL0, Si vV, Sr b77, Sr b160, Sl vO0, S2, Sl vO1, S2, Sl vO2, S2, Sr b230, Sr b265, Sr b290, Si (1 : Int32), Sl ((((vL0 + (0 : Int32)) + ((((vO0.toUInt64 >>> ((1 : Int32) &&& 0x3f).toInt64.toUInt64).toInt64) &&& (own_msk vZ0)).toInt32)).toInt64) - (vL0.toInt64)), S2] [(.int (1 : Int32)), (.ref b230), (.int (1 : Int32))])) rfl rfl (hb hby at_555) _ ?_
            refine XS.lload X410.here hx rfl (hb hby at_556) rfl ?_
            refine XS.lcmp X410.here hx rfl (hb hby at_558) rfl ?_
            refine XS.ifNo X410.here hx rfl (hb hby at_559) rfl ((if0 _ _).trans (teq ((lw_eq _ _).mpr rfl)).2) ?_
            refine XS.aload X410.here hx rfl (hb hby at_562) rfl rfl ?_
            show Steps _ _ _ (T410.setTop (mkF m 564 #[Si p1, Si p2, Si p3, Sl q4, S2, Sl q5, S2, Si p6, Si vZ0, Si vZ1, Si vZ2, Si vL0, Si vL1, Si vL2, Si (0 : Int32), Si vZ0, Si vL0, Si vV, Sr b77, Sr b160, Sl vO0, S2, Sl vO1, S2, Sl vO2, S2, Sr b230, Sr b265, Sr b290, Si (1 : Int32), Sl ((((vL0 + (0 : Int32)) + ((((vO0.toUInt64 >>> ((1 : Int32) &&& 0x3f).toInt64.toUInt64).toInt64) &&& (own_msk vZ0)).toInt32)).toInt64) - (vL0.toInt64)), S2] [(.ref b230), (.int (1 : Int32))])) _
            refine XS.iconst X410.here hx rfl (hb hby at_564) ?_
            refine X410.laload hx (j := (2 : Int32)) (v := (.long vO2)) Arc421.1 (State.isArrayOf_alike hZ.alike Arc421.2.1) Arc421.2.2 hin422 hat423 (g := (mkF m 565 #[Si p1, Si p2, Si p3, Sl q4, S2, Sl q5, S2, Si p6, Si vZ0, Si vZ1, Si vZ2, Si vL0, Si vL1, Si vL2, Si (0 : Int32), Si vZ0, Si vL0, Si vV, Sr b77, Sr b160, Sl vO0, S2, Sl vO1, S2, Sl vO2, S2, Sr b230, Sr b265, Sr b290, Si (1 : Int32), Sl ((((vL0 + (0 : Int32)) + ((((vO0.toUInt64 >>> ((1 : Int32) &&& 0x3f).toInt64.toUInt64).toInt64) &&& (own_msk vZ0)).toInt32)).toInt64) - (vL0.toInt64)), S2] [(.int (2 : Int32)), (.ref b230), (.int (1 : Int32))])) rfl rfl (hb hby at_565) _ ?_
            refine XS.lload X410.here hx rfl (hb hby at_566) rfl ?_
            refine XS.lcmp X410.here hx rfl (hb hby at_568) rfl ?_
            refine XS.ifNo X410.here hx rfl (hb hby at_569) rfl ((if0 _ _).trans (teq ((lw_eq _ _).mpr rfl)).2) ?_
            refine XS.iconst X410.here hx rfl (hb hby at_572) ?_
            refine XS.goto X410.here hx rfl (pc0 := 573) (pc' := 577) rfl (hb hby at_573) (by decide) (by decide) ?_
            refine XS.iand X410.here hx rfl (hb hby at_577) rfl ?_
            refine XS.istore X410.here hx rfl (hb hby at_578) rfl (l' := #[Si p1, Si p2, Si p3, Sl q4, S2, Sl q5, S2, Si p6, Si vZ0, Si vZ1, Si vZ2, Si vL0, Si vL1, Si vL2, Si (0 : Int32), Si vZ0, Si vL0, Si vV, Sr b77, Sr b160, Sl vO0, S2, Sl vO1, S2, Sl vO2, S2, Sr b230, Sr b265, Sr b290, Si (1 : Int32), Sl ((((vL0 + (0 : Int32)) + ((((vO0.toUInt64 >>> ((1 : Int32) &&& 0x3f).toInt64.toUInt64).toInt64) &&& (own_msk vZ0)).toInt32)).toInt64) - (vL0.toInt64)), S2]) rfl ?_
            refine XS.iload X410.here hx rfl (hb hby at_580) rfl ?_
            show Steps _ _ _ (T410.setTop (mkF m 582 #[Si p1, Si p2, Si p3, Sl q4, S2, Sl q5, S2, Si p6, Si vZ0, Si vZ1, Si vZ2, Si vL0, Si vL1, Si vL2, Si (0 : Int32), Si vZ0, Si vL0, Si vV, Sr b77, Sr b160, Sl vO0, S2, Sl vO1, S2, Sl vO2, S2, Sr b230, Sr b265, Sr b290, Si (1 : Int32), Sl ((((vL0 + (0 : Int32)) + ((((vO0.toUInt64 >>> ((1 : Int32) &&& 0x3f).toInt64.toUInt64).toInt64) &&& (own_msk vZ0)).toInt32)).toInt64) - (vL0.toInt64)), S2] [(.int (1 : Int32))])) _
            exact k
          obtain ⟨fs, hr, hrun, hended, hW, hsame⟩ := X410.leave (v := some (.int (1 : Int32))) (fun h => by rw [Bd.returns] at h; cases h)
          refine ⟨_, _, pre424 _ ?_, hrun, hended, _, _, rfl, ?_, ⟨_, rfl⟩, hW, hsame.mono (by decide) (by decide)⟩
          · exact retN X410 hx (t := .boolean) Bd.returns (by simp) (hb hby at_582) hr
          · show Q_rm0 Z p1 p2 p3 q4 q5 p6 wE kE h0 n0 _ T410.heap _
            exact ⟨rfl, N412, KC413⟩
        · have pre425 : ∀ t, Steps p.tables e below (T354.setTop (mkF m 582 #[Si p1, Si p2, Si p3, Sl q4, S2, Sl q5, S2, Si p6, Si vZ0, Si vZ1, Si vZ2, Si vL0, Si vL1, Si vL2, Si (0 : Int32), Si vZ0, Si vL0, Si vV, Sr b77, Sr b160, Sl vO0, S2, Sl vO1, S2, Sl vO2, S2, Sr b230, Sr b265, Sr b290, Si (1 : Int32), Sl ((((vL0 + (0 : Int32)) + ((((vO0.toUInt64 >>> ((1 : Int32) &&& 0x3f).toInt64.toUInt64).toInt64) &&& (own_msk vZ0)).toInt32)).toInt64) - (vL0.toInt64)), S2] [(.int (1 : Int32))])) t → Steps p.tables e below (s₁.setTop (entryFrame m #[(.int p1), (.int p2), (.int p3), (.long q4), (.long q5), (.int p6)] maxLocals)) t := by
            intro t k
            refine pre398 t ?_
            refine XS.ifYes X354.here hx rfl (pc0 := 523) (pc' := 580) rfl (hb hby at_523) rfl ((if0 _ _).trans (flt (fun z => hd1 ((lw_lt _ _).mp z))).2.1) (by decide) (by decide) ?_
            refine XS.iload X354.here hx rfl (hb hby at_580) rfl ?_
            show Steps _ _ _ (T354.setTop (mkF m 582 #[Si p1, Si p2, Si p3, Sl q4, S2, Sl q5, S2, Si p6, Si vZ0, Si vZ1, Si vZ2, Si vL0, Si vL1, Si vL2, Si (0 : Int32), Si vZ0, Si vL0, Si vV, Sr b77, Sr b160, Sl vO0, S2, Sl vO1, S2, Sl vO2, S2, Sr b230, Sr b265, Sr b290, Si (1 : Int32), Sl ((((vL0 + (0 : Int32)) + ((((vO0.toUInt64 >>> ((1 : Int32) &&& 0x3f).toInt64.toUInt64).toInt64) &&& (own_msk vZ0)).toInt32)).toInt64) - (vL0.toInt64)), S2] [(.int (1 : Int32))])) _
            exact k
          obtain ⟨fs, hr, hrun, hended, hW, hsame⟩ := X354.leave (v := some (.int (1 : Int32))) (fun h => by rw [Bd.returns] at h; cases h)
          refine ⟨_, _, pre425 _ ?_, hrun, hended, _, _, rfl, ?_, ⟨_, rfl⟩, hW, hsame.mono (by decide) (by decide)⟩
          · exact retN X354 hx (t := .boolean) Bd.returns (by simp) (hb hby at_582) hr
          · show Q_rm0 Z p1 p2 p3 q4 q5 p6 wE kE h0 n0 _ T354.heap _
            exact ⟨rfl, N356, KC357⟩
    · have eSz : vSz = vZ1 := by rw [hvSz, hI]; rfl
      have eLo : vLo = vL1 := by rw [hvLo, hI]; rfl
      rw [hI, eSz, eLo] at pre331
      have hV := own_vv vL1 vZ1 p6 hz1 hl1 vV (by rw [hvV, eSz, eLo])
      have hV2 := own_lt2 hV.2 Y1
      have G2 := G2b
      have F426 : Fld Z T327.heap b160 "com/example/darlington/darlington/core/StateLayout" "wordOf" "[I" (.ref r1_191) := (F317.keep q327_0 (ninS ne277 nin0))
      have F427 : Arv Z T327.heap r1_191 c1_191 .int (3 : Int32) [(.int (0 : Int32)), (.int (0 : Int32)), (.int (1 : Int32))] (.int (0 : Int32)) := (F318.keep q327_0 (ninS ne279 nin0))
      have F428 : Fld Z T327.heap b160 "com/example/darlington/darlington/core/StateLayout" "shiftOf" "[I" (.ref r2_191) := (F319.keep q327_0 (ninS ne277 nin0))
      have F429 : Arv Z T327.heap r2_191 c2_191 .int (3 : Int32) [(.int (1 : Int32)), (.int ((1 : Int32) + (own_bits vZ0))), (.int (0 : Int32))] (.int (0 : Int32)) := (F320.keep q327_0 (ninS ne281 nin0))
      have F430 : Fld Z T327.heap b160 "com/example/darlington/darlington/core/StateLayout" "maskOf" "[J" (.ref r3_191) := (F321.keep q327_0 (ninS ne277 nin0))
      have F431 : Arv Z T327.heap r3_191 c3_191 .long (3 : Int32) [(.long (own_msk vZ0)), (.long (own_msk vZ1)), (.long (own_msk vZ2))] (.long (0 : Int64)) := (F322.keep q327_0 (ninS ne283 nin0))
      have F432 : Fld Z T327.heap b160 "com/example/darlington/darlington/core/StateLayout" "firstOf" "[I" (.ref r4_191) := (F323.keep q327_0 (ninS ne277 nin0))
      have F433 : Arv Z T327.heap r4_191 c4_191 .int (3 : Int32) [(.int (vL0 + (0 : Int32))), (.int (vL1 + (0 : Int32))), (.int (vL2 + (0 : Int32)))] (.int (0 : Int32)) := (F324.keep q327_0 (ninS ne285 nin0))
      have F434 : Arv Z T327.heap b230 k230 .long (3 : Int32) [(.long vO0), (.long vO1), (.long vO2)] (.long (0 : Int64)) := (F325.keep q327_0 (ninS ne286 nin0))
      have F436 : Exa Z T327.heap b160 "com/example/darlington/darlington/core/StateLayout" := (F328.keep q327_0)
      obtain ⟨cq435, kq435, q435a, q435b, q435c⟩ := isOf hZ rfl F436
      obtain ⟨_, _, ⟨T435, L435, k435, n435⟩, -, X435, ⟨Lc435, hQ435, l435, y435, z435⟩, st435⟩ := X327.virtualBack hx (y := (⟨"com/example/darlington/darlington/core/StateLayout", "set", "([JII)V"⟩ : MethodName)) (z := (⟨"com/example/darlington/darlington/core/StateLayout", "set", "([JII)V"⟩ : MethodName)) hown (mvT hZ (ow hw 159 rfl)) (mvT hZ (ow hw 160 rfl)) (notFace_of_selects (args := #[]) (mvT hZ (ow hw 162 rfl))) (mvT hZ (ow hw 162 rfl)) (mvT hZ (ow hw 161 rfl)) (by decide) (backOf (W := 0) (rm_set1 l Z a0 hw [] b160 b230 vV r1_191 r2_191 r3_191 r4_191 c1_191 c2_191 c3_191 c4_191 (1 : Int32) ((1 : Int32) + (own_bits vZ0)) (0 : Int32) (own_msk vZ0) (own_msk vZ1) (own_msk vZ2) (vL0 + (0 : Int32)) (vL1 + (0 : Int32)) (vL2 + (0 : Int32)) (1 : Int32) k230 vO0 vO1 vO2 T327.heap n0 (Nat.le_trans Z0 KC330.1) F426 F427 F428 F429 F430 F431 F432 F433 F434 ge247) hZ (ow hw 163 rfl) (ow hw 88 rfl) (by decide) (by decide)) q435a q435c (g := (mkF m 317 #[Si p1, Si p2, Si p3, Sl q4, S2, Sl q5, S2, Si p6, Si vZ0, Si vZ1, Si vZ2, Si vL0, Si vL1, Si vL2, Si (1 : Int32), Si vZ1, Si vL1, Si vV, Sr b77, Sr b160, Sl vO0, S2, Sl vO1, S2, Sl vO2, S2, Sr b230, Sr b265, Sr b290, Su, Su, Su] [(.int vV), (.int (1 : Int32)), (.ref b230), (.ref b160)])) rfl (by rw [hml]; rfl) (Steps.refl _) (argsL := [(.ref b230), (.int (1 : Int32)), (.int vV)]) (rest := []) (lenOf pd_13 rfl) rfl (by show 2 * 0 + _ ≤ _; exact Nat.le_of_eq rfl) (hb hby at_317) (fun _ _ => ⟨rfl, rfl, (by decide : 13 + 0 ≤ _), (by decide : 45 + 0 ≤ _)⟩)
      dsimp only [Pt.U, Pt.locs, Pt.cells, Pt.slots] at X435 l435 y435 z435 st435 hQ435
      subst y435 z435
      obtain ⟨rfl, Nq435, q435_0, q435_1⟩ := hQ435
      have N437 := Eq.subst (motive := fun L => Fr n0 L) l435.symm (Fr.app N329 Nq435)
      have KC438 : Keep h0 T435.heap [] := KC330.trans q435_0 (allS (Or.inr sz248) all0)
      have F439 : Fld Z T435.heap b160 "com/example/darlington/darlington/core/StateLayout" "wordOf" "[I" (.ref r1_191) := (F426.keep q435_0 (ninS ne242 nin0))
      have F440 : Arv Z T435.heap r1_191 c1_191 .int (3 : Int32) [(.int (0 : Int32)), (.int (0 : Int32)), (.int (1 : Int32))] (.int (0 : Int32)) := (F427.keep q435_0 (ninS ne243 nin0))
      have F441 : Fld Z T435.heap b160 "com/example/darlington/darlington/core/StateLayout" "shiftOf" "[I" (.ref r2_191) := (F428.keep q435_0 (ninS ne242 nin0))
      have F442 : Arv Z T435.heap r2_191 c2_191 .int (3 : Int32) [(.int (1 : Int32)), (.int ((1 : Int32) + (own_bits vZ0))), (.int (0 : Int32))] (.int (0 : Int32)) := (F429.keep q435_0 (ninS ne244 nin0))
      have F443 : Fld Z T435.heap b160 "com/example/darlington/darlington/core/StateLayout" "maskOf" "[J" (.ref r3_191) := (F430.keep q435_0 (ninS ne242 nin0))
      have F444 : Arv Z T435.heap r3_191 c3_191 .long (3 : Int32) [(.long (own_msk vZ0)), (.long (own_msk vZ1)), (.long (own_msk vZ2))] (.long (0 : Int64)) := (F431.keep q435_0 (ninS ne245 nin0))
      have F445 : Fld Z T435.heap b160 "com/example/darlington/darlington/core/StateLayout" "firstOf" "[I" (.ref r4_191) := (F432.keep q435_0 (ninS ne242 nin0))
      have F446 : Arv Z T435.heap r4_191 c4_191 .int (3 : Int32) [(.int (vL0 + (0 : Int32))), (.int (vL1 + (0 : Int32))), (.int (vL2 + (0 : Int32)))] (.int (0 : Int32)) := (F433.keep q435_0 (ninS ne246 nin0))
      have F447 : Arv Z T435.heap b290 k290 .int (3 : Int32) [(.int (0 : Int32)), (.int (0 : Int32)), (.int (0 : Int32))] (.int (0 : Int32)) := ((V290.keep q327_0 (ninS (Ne.symm ne313) nin0)).keep q435_0 (ninS (Ne.symm ne312) nin0))
      have F449 : Exa Z T435.heap b160 "com/example/darlington/darlington/core/StateLayout" := (F436.keep q435_0)
      obtain ⟨cq448, kq448, q448a, q448b, q448c⟩ := isOf hZ rfl F449
      obtain ⟨_, _, ⟨T448, L448, k448, n448⟩, -, X448, ⟨Lc448, hQ448, l448, y448, z448⟩, st448⟩ := X435.virtualBack hx (y := (⟨"com/example/darlington/darlington/core/StateLayout", "unpack", "([JI[I)V"⟩ : MethodName)) (z := (⟨"com/example/darlington/darlington/core/StateLayout", "unpack", "([JI[I)V"⟩ : MethodName)) hown (mvT hZ (ow hw 154 rfl)) (mvT hZ (ow hw 155 rfl)) (notFace_of_selects (args := #[]) (mvT hZ (ow hw 157 rfl))) (mvT hZ (ow hw 157 rfl)) (mvT hZ (ow hw 156 rfl)) (by decide) (backOf (W := 0) (rm_unpB l Z a0 hw [] b160 b230 b290 r1_191 r2_191 r3_191 r4_191 c1_191 c2_191 c3_191 c4_191 (1 : Int32) ((1 : Int32) + (own_bits vZ0)) (0 : Int32) (own_msk vZ0) (own_msk vZ1) (own_msk vZ2) (vL0 + (0 : Int32)) (vL1 + (0 : Int32)) (vL2 + (0 : Int32)) k230 k290 (own_upd vO0 ((1 : Int32) + (own_bits vZ0)) (own_msk vZ1) (vL1 + (0 : Int32)) vV) vO1 vO2 (0 : Int32) (0 : Int32) (0 : Int32) T435.heap n0 (Nat.le_trans Z0 KC438.1) F439 F440 F441 F442 F443 F444 F445 F446 q435_1 F447 ge314 ne302 ne312 ne304 ne306 ne308 ne310) hZ (ow hw 158 rfl) (ow hw 88 rfl) (by decide) (by decide)) q448a q448c (g := (mkF m 327 #[Si p1, Si p2, Si p3, Sl q4, S2, Sl q5, S2, Si p6, Si vZ0, Si vZ1, Si vZ2, Si vL0, Si vL1, Si vL2, Si (1 : Int32), Si vZ1, Si vL1, Si vV, Sr b77, Sr b160, Sl vO0, S2, Sl vO1, S2, Sl vO2, S2, Sr b230, Sr b265, Sr b290, Su, Su, Su] [(.ref b290), (.int (0 : Int32)), (.ref b230), (.ref b160)])) rfl (by rw [hml]; rfl) (Steps.refl _) (argsL := [(.ref b230), (.int (0 : Int32)), (.ref b290)]) (rest := []) (lenOf pd_12 rfl) rfl (by show 2 * 0 + _ ≤ _; exact Nat.le_of_eq rfl) (hb hby at_327) (fun _ _ => ⟨rfl, rfl, (by decide : 13 + 0 ≤ _), (by decide : 45 + 0 ≤ _)⟩)
      dsimp only [Pt.U, Pt.locs, Pt.cells, Pt.slots] at X448 l448 y448 z448 st448 hQ448
      subst y448 z448
      obtain ⟨rfl, Nq448, q448_0, q448_1⟩ := hQ448
      have N450 := Eq.subst (motive := fun L => Fr n0 L) l448.symm (Fr.app N437 Nq448)
      have KC451 : Keep h0 T448.heap [] := KC438.trans q448_0 (allS (Or.inr sz315) all0)
      obtain ⟨c452, Arc452, Aqc452, Asc452, Anc452, Ahc452, Agc452⟩ := id q448_1
      have hin453 : ¬ ((1 : Int32) < 0 ∨ c452.slots.size ≤ ((1 : Int32)).toNatClampNeg) := inb_of Asc452 ⟨by decide, by decide⟩
      have hat454 : c452.slots[((1 : Int32)).toNatClampNeg]? = some (.int ((vL1 + (0 : Int32)) + (((((own_upd vO0 ((1 : Int32) + (own_bits vZ0)) (own_msk vZ1) (vL1 + (0 : Int32)) vV).toUInt64 >>> (((1 : Int32) + (own_bits vZ0)) &&& 0x3f).toInt64.toUInt64).toInt64) &&& (own_msk vZ1)).toInt32))) := Has.at Ahc452 hin453 rfl
      have hc455 : ((vL1 + (0 : Int32)) + (((((own_upd vO0 ((1 : Int32) + (own_bits vZ0)) (own_msk vZ1) (vL1 + (0 : Int32)) vV).toUInt64 >>> (((1 : Int32) + (own_bits vZ0)) &&& 0x3f).toInt64.toUInt64).toInt64) &&& (own_msk vZ1)).toInt32)) = vV := own_y337 (own_fuG G1) G1.2.2.2 B1 hV.1 hV2
      obtain ⟨c456, Arc456, Aqc456, Asc456, Anc456, Ahc456, Agc456⟩ := id q448_1
      have hin457 : ¬ ((0 : Int32) < 0 ∨ c456.slots.size ≤ ((0 : Int32)).toNatClampNeg) := inb_of Asc456 ⟨by decide, by decide⟩
      have hat458 : c456.slots[((0 : Int32)).toNatClampNeg]? = some (.int ((vL0 + (0 : Int32)) + (((((own_upd vO0 ((1 : Int32) + (own_bits vZ0)) (own_msk vZ1) (vL1 + (0 : Int32)) vV).toUInt64 >>> ((1 : Int32) &&& 0x3f).toInt64.toUInt64).toInt64) &&& (own_msk vZ0)).toInt32))) := Has.at Ahc456 hin457 rfl
      have F459 : Arv Z T448.heap b265 k265 .int (3 : Int32) [(.int ((vL0 + (0 : Int32)) + ((((vO0.toUInt64 >>> ((1 : Int32) &&& 0x3f).toInt64.toUInt64).toInt64) &&& (own_msk vZ0)).toInt32))), (.int ((vL1 + (0 : Int32)) + ((((vO0.toUInt64 >>> (((1 : Int32) + (own_bits vZ0)) &&& 0x3f).toInt64.toUInt64).toInt64) &&& (own_msk vZ1)).toInt32))), (.int ((vL2 + (0 : Int32)) + ((((vO1.toUInt64 >>> ((0 : Int32) &&& 0x3f).toInt64.toUInt64).toInt64) &&& (own_msk vZ2)).toInt32)))] (.int (0 : Int32)) := ((q327_1.keep q435_0 (ninS (Ne.symm ne286) nin0)).keep q448_0 (ninS ne313 nin0))
      obtain ⟨c460, Arc460, Aqc460, Asc460, Anc460, Ahc460, Agc460⟩ := id F459
      have hin461 : ¬ ((0 : Int32) < 0 ∨ c460.slots.size ≤ ((0 : Int32)).toNatClampNeg) := inb_of Asc460 ⟨by decide, by decide⟩
      have hat462 : c460.slots[((0 : Int32)).toNatClampNeg]? = some (.int ((vL0 + (0 : Int32)) + ((((vO0.toUInt64 >>> ((1 : Int32) &&& 0x3f).toInt64.toUInt64).toInt64) &&& (own_msk vZ0)).toInt32))) := Has.at Ahc460 hin461 rfl
      have hc463 : ((vL0 + (0 : Int32)) + (((((own_upd vO0 ((1 : Int32) + (own_bits vZ0)) (own_msk vZ1) (vL1 + (0 : Int32)) vV).toUInt64 >>> ((1 : Int32) &&& 0x3f).toInt64.toUInt64).toInt64) &&& (own_msk vZ0)).toInt32)) = ((vL0 + (0 : Int32)) + ((((vO0.toUInt64 >>> ((1 : Int32) &&& 0x3f).toInt64.toUInt64).toInt64) &&& (own_msk vZ0)).toInt32)) := own_oth (own_foG G1 G0 (Or.inl (Nat.le_refl _)))
      obtain ⟨c464, Arc464, Aqc464, Asc464, Anc464, Ahc464, Agc464⟩ := id q448_1
      have hin465 : ¬ ((2 : Int32) < 0 ∨ c464.slots.size ≤ ((2 : Int32)).toNatClampNeg) := inb_of Asc464 ⟨by decide, by decide⟩
      have hat466 : c464.slots[((2 : Int32)).toNatClampNeg]? = some (.int ((vL2 + (0 : Int32)) + ((((vO1.toUInt64 >>> ((0 : Int32) &&& 0x3f).toInt64.toUInt64).toInt64) &&& (own_msk vZ2)).toInt32))) := Has.at Ahc464 hin465 rfl
      obtain ⟨c467, Arc467, Aqc467, Asc467, Anc467, Ahc467, Agc467⟩ := id F459
      have hin468 : ¬ ((2 : Int32) < 0 ∨ c467.slots.size ≤ ((2 : Int32)).toNatClampNeg) := inb_of Asc467 ⟨by decide, by decide⟩
      have hat469 : c467.slots[((2 : Int32)).toNatClampNeg]? = some (.int ((vL2 + (0 : Int32)) + ((((vO1.toUInt64 >>> ((0 : Int32) &&& 0x3f).toInt64.toUInt64).toInt64) &&& (own_msk vZ2)).toInt32))) := Has.at Ahc467 hin468 rfl
      have pre470 : ∀ t, Steps p.tables e below (T448.setTop (mkF m 427 #[Si p1, Si p2, Si p3, Sl q4, S2, Sl q5, S2, Si p6, Si vZ0, Si vZ1, Si vZ2, Si vL0, Si vL1, Si vL2, Si (1 : Int32), Si vZ1, Si vL1, Si vV, Sr b77, Sr b160, Sl vO0, S2, Sl vO1, S2, Sl vO2, S2, Sr b230, Sr b265, Sr b290, Si (1 : Int32), Su, Su] [])) t → Steps p.tables e below (s₁.setTop (entryFrame m #[(.int p1), (.int p2), (.int p3), (.long q4), (.long q5), (.int p6)] maxLocals)) t := by
        intro t k
        refine pre331 t ?_
        refine XS.aload X327.here hx rfl (hb hby at_309) rfl rfl ?_
        refine XS.aload X327.here hx rfl (hb hby at_311) rfl rfl ?_
        refine XS.iload X327.here hx rfl (hb hby at_313) rfl ?_
        refine XS.iload X327.here hx rfl (hb hby at_315) rfl ?_
        refine st435.trans ?_
        show Steps _ _ _ (T435.setTop (mkF m 320 #[Si p1, Si p2, Si p3, Sl q4, S2, Sl q5, S2, Si p6, Si vZ0, Si vZ1, Si vZ2, Si vL0, Si vL1, Si vL2, Si (1 : Int32), Si vZ1, Si vL1, Si vV, Sr b77, Sr b160, Sl vO0, S2, Sl vO1, S2, Sl vO2, S2, Sr b230, Sr b265, Sr b290, Su, Su, Su] [])) _
        refine XS.aload X435.here hx rfl (hb hby at_320) rfl rfl ?_
        refine XS.aload X435.here hx rfl (hb hby at_322) rfl rfl ?_
        refine XS.iconst X435.here hx rfl (hb hby at_324) ?_
        refine XS.aload X435.here hx rfl (hb hby at_325) rfl rfl ?_
        refine st448.trans ?_
        refine XS.aload X448.here hx rfl (hb hby at_330) rfl rfl ?_
        refine XS.iload X448.here hx rfl (hb hby at_332) rfl ?_
        refine X448.iaload hx (j := (1 : Int32)) (v := (.int ((vL1 + (0 : Int32)) + (((((own_upd vO0 ((1 : Int32) + (own_bits vZ0)) (own_msk vZ1) (vL1 + (0 : Int32)) vV).toUInt64 >>> (((1 : Int32) + (own_bits vZ0)) &&& 0x3f).toInt64.toUInt64).toInt64) &&& (own_msk vZ1)).toInt32)))) Arc452.1 (State.isArrayOf_alike hZ.alike Arc452.2.1) Arc452.2.2 hin453 hat454 (g := (mkF m 334 #[Si p1, Si p2, Si p3, Sl q4, S2, Sl q5, S2, Si p6, Si vZ0, Si vZ1, Si vZ2, Si vL0, Si vL1, Si vL2, Si (1 : Int32), Si vZ1, Si vL1, Si vV, Sr b77, Sr b160, Sl vO0, S2, Sl vO1, S2, Sl vO2, S2, Sr b230, Sr b265, Sr b290, Su, Su, Su] [(.int (1 : Int32)), (.ref b290)])) rfl rfl (hb hby at_334) _ ?_
        refine XS.iload X448.here hx rfl (hb hby at_335) rfl ?_
        refine XS.icmpNo X448.here hx rfl (hb hby at_337) rfl (teq hc455).2 ?_
        show Steps _ _ _ (T448.setTop (mkF m 340 #[Si p1, Si p2, Si p3, Sl q4, S2, Sl q5, S2, Si p6, Si vZ0, Si vZ1, Si vZ2, Si vL0, Si vL1, Si vL2, Si (1 : Int32), Si vZ1, Si vL1, Si vV, Sr b77, Sr b160, Sl vO0, S2, Sl vO1, S2, Sl vO2, S2, Sr b230, Sr b265, Sr b290, Su, Su, Su] [])) _
        refine XS.iconst X448.here hx rfl (hb hby at_340) ?_
        refine XS.goto X448.here hx rfl (pc0 := 341) (pc' := 345) rfl (hb hby at_341) (by decide) (by decide) ?_
        refine XS.istore X448.here hx rfl (hb hby at_345) rfl (l' := #[Si p1, Si p2, Si p3, Sl q4, S2, Sl q5, S2, Si p6, Si vZ0, Si vZ1, Si vZ2, Si vL0, Si vL1, Si vL2, Si (1 : Int32), Si vZ1, Si vL1, Si vV, Sr b77, Sr b160, Sl vO0, S2, Sl vO1, S2, Sl vO2, S2, Sr b230, Sr b265, Sr b290, Si (1 : Int32), Su, Su]) rfl ?_
        refine XS.iload X448.here hx rfl (hb hby at_347) rfl ?_
        refine XS.iload X448.here hx rfl (hb hby at_349) rfl ?_
        refine XS.ifNo X448.here hx rfl (hb hby at_351) rfl ((if0 _ _).trans (feq (by decide)).1) ?_
        refine XS.aload X448.here hx rfl (hb hby at_354) rfl rfl ?_
        refine XS.iconst X448.here hx rfl (hb hby at_356) ?_
        refine X448.iaload hx (j := (0 : Int32)) (v := (.int ((vL0 + (0 : Int32)) + (((((own_upd vO0 ((1 : Int32) + (own_bits vZ0)) (own_msk vZ1) (vL1 + (0 : Int32)) vV).toUInt64 >>> ((1 : Int32) &&& 0x3f).toInt64.toUInt64).toInt64) &&& (own_msk vZ0)).toInt32)))) Arc456.1 (State.isArrayOf_alike hZ.alike Arc456.2.1) Arc456.2.2 hin457 hat458 (g := (mkF m 357 #[Si p1, Si p2, Si p3, Sl q4, S2, Sl q5, S2, Si p6, Si vZ0, Si vZ1, Si vZ2, Si vL0, Si vL1, Si vL2, Si (1 : Int32), Si vZ1, Si vL1, Si vV, Sr b77, Sr b160, Sl vO0, S2, Sl vO1, S2, Sl vO2, S2, Sr b230, Sr b265, Sr b290, Si (1 : Int32), Su, Su] [(.int (0 : Int32)), (.ref b290), (.int (1 : Int32))])) rfl rfl (hb hby at_357) _ ?_
        refine XS.aload X448.here hx rfl (hb hby at_358) rfl rfl ?_
        show Steps _ _ _ (T448.setTop (mkF m 360 #[Si p1, Si p2, Si p3, Sl q4, S2, Sl q5, S2, Si p6, Si vZ0, Si vZ1, Si vZ2, Si vL0, Si vL1, Si vL2, Si (1 : Int32), Si vZ1, Si vL1, Si vV, Sr b77, Sr b160, Sl vO0, S2, Sl vO1, S2, Sl vO2, S2, Sr b230, Sr b265, Sr b290, Si (1 : Int32), Su, Su] [(.ref b265), (.int ((vL0 + (0 : Int32)) + (((((own_upd vO0 ((1 : Int32) + (own_bits vZ0)) (own_msk vZ1) (vL1 + (0 : Int32)) vV).toUInt64 >>> ((1 : Int32) &&& 0x3f).toInt64.toUInt64).toInt64) &&& (own_msk vZ0)).toInt32))), (.int (1 : Int32))])) _
        refine XS.iconst X448.here hx rfl (hb hby at_360) ?_
        refine X448.iaload hx (j := (0 : Int32)) (v := (.int ((vL0 + (0 : Int32)) + ((((vO0.toUInt64 >>> ((1 : Int32) &&& 0x3f).toInt64.toUInt64).toInt64) &&& (own_msk vZ0)).toInt32)))) Arc460.1 (State.isArrayOf_alike hZ.alike Arc460.2.1) Arc460.2.2 hin461 hat462 (g := (mkF m 361 #[Si p1, Si p2, Si p3, Sl q4, S2, Sl q5, S2, Si p6, Si vZ0, Si vZ1, Si vZ2, Si vL0, Si vL1, Si vL2, Si (1 : Int32), Si vZ1, Si vL1, Si vV, Sr b77, Sr b160, Sl vO0, S2, Sl vO1, S2, Sl vO2, S2, Sr b230, Sr b265, Sr b290, Si (1 : Int32), Su, Su] [(.int (0 : Int32)), (.ref b265), (.int ((vL0 + (0 : Int32)) + (((((own_upd vO0 ((1 : Int32) + (own_bits vZ0)) (own_msk vZ1) (vL1 + (0 : Int32)) vV).toUInt64 >>> ((1 : Int32) &&& 0x3f).toInt64.toUInt64).toInt64) &&& (own_msk vZ0)).toInt32))), (.int (1 : Int32))])) rfl rfl (hb hby at_361) _ ?_
        refine XS.icmpNo X448.here hx rfl (hb hby at_362) rfl (teq hc463).2 ?_
        refine XS.iconst X448.here hx rfl (hb hby at_365) ?_
        refine XS.goto X448.here hx rfl (pc0 := 366) (pc' := 370) rfl (hb hby at_366) (by decide) (by decide) ?_
        refine XS.iand X448.here hx rfl (hb hby at_370) rfl ?_
        refine XS.istore X448.here hx rfl (hb hby at_371) rfl (l' := #[Si p1, Si p2, Si p3, Sl q4, S2, Sl q5, S2, Si p6, Si vZ0, Si vZ1, Si vZ2, Si vL0, Si vL1, Si vL2, Si (1 : Int32), Si vZ1, Si vL1, Si vV, Sr b77, Sr b160, Sl vO0, S2, Sl vO1, S2, Sl vO2, S2, Sr b230, Sr b265, Sr b290, Si (1 : Int32), Su, Su]) rfl ?_
        refine XS.iload X448.here hx rfl (hb hby at_373) rfl ?_
        refine XS.iload X448.here hx rfl (hb hby at_375) rfl ?_
        refine XS.iconst X448.here hx rfl (hb hby at_377) ?_
        show Steps _ _ _ (T448.setTop (mkF m 378 #[Si p1, Si p2, Si p3, Sl q4, S2, Sl q5, S2, Si p6, Si vZ0, Si vZ1, Si vZ2, Si vL0, Si vL1, Si vL2, Si (1 : Int32), Si vZ1, Si vL1, Si vV, Sr b77, Sr b160, Sl vO0, S2, Sl vO1, S2, Sl vO2, S2, Sr b230, Sr b265, Sr b290, Si (1 : Int32), Su, Su] [(.int (1 : Int32)), (.int (1 : Int32)), (.int (1 : Int32))])) _
        refine XS.icmpYes X448.here hx rfl (pc0 := 378) (pc' := 392) rfl (hb hby at_378) rfl (teq rfl).1 (by decide) (by decide) ?_
        refine XS.iconst X448.here hx rfl (hb hby at_392) ?_
        refine XS.goto X448.here hx rfl (pc0 := 393) (pc' := 397) rfl (hb hby at_393) (by decide) (by decide) ?_
        refine XS.iand X448.here hx rfl (hb hby at_397) rfl ?_
        refine XS.istore X448.here hx rfl (hb hby at_398) rfl (l' := #[Si p1, Si p2, Si p3, Sl q4, S2, Sl q5, S2, Si p6, Si vZ0, Si vZ1, Si vZ2, Si vL0, Si vL1, Si vL2, Si (1 : Int32), Si vZ1, Si vL1, Si vV, Sr b77, Sr b160, Sl vO0, S2, Sl vO1, S2, Sl vO2, S2, Sr b230, Sr b265, Sr b290, Si (1 : Int32), Su, Su]) rfl ?_
        refine XS.iload X448.here hx rfl (hb hby at_400) rfl ?_
        refine XS.iload X448.here hx rfl (hb hby at_402) rfl ?_
        refine XS.iconst X448.here hx rfl (hb hby at_404) ?_
        refine XS.icmpNo X448.here hx rfl (hb hby at_405) rfl (feq (by decide)).1 ?_
        refine XS.aload X448.here hx rfl (hb hby at_408) rfl rfl ?_
        show Steps _ _ _ (T448.setTop (mkF m 410 #[Si p1, Si p2, Si p3, Sl q4, S2, Sl q5, S2, Si p6, Si vZ0, Si vZ1, Si vZ2, Si vL0, Si vL1, Si vL2, Si (1 : Int32), Si vZ1, Si vL1, Si vV, Sr b77, Sr b160, Sl vO0, S2, Sl vO1, S2, Sl vO2, S2, Sr b230, Sr b265, Sr b290, Si (1 : Int32), Su, Su] [(.ref b290), (.int (1 : Int32))])) _
        refine XS.iconst X448.here hx rfl (hb hby at_410) ?_
        refine X448.iaload hx (j := (2 : Int32)) (v := (.int ((vL2 + (0 : Int32)) + ((((vO1.toUInt64 >>> ((0 : Int32) &&& 0x3f).toInt64.toUInt64).toInt64) &&& (own_msk vZ2)).toInt32)))) Arc464.1 (State.isArrayOf_alike hZ.alike Arc464.2.1) Arc464.2.2 hin465 hat466 (g := (mkF m 411 #[Si p1, Si p2, Si p3, Sl q4, S2, Sl q5, S2, Si p6, Si vZ0, Si vZ1, Si vZ2, Si vL0, Si vL1, Si vL2, Si (1 : Int32), Si vZ1, Si vL1, Si vV, Sr b77, Sr b160, Sl vO0, S2, Sl vO1, S2, Sl vO2, S2, Sr b230, Sr b265, Sr b290, Si (1 : Int32), Su, Su] [(.int (2 : Int32)), (.ref b290), (.int (1 : Int32))])) rfl rfl (hb hby at_411) _ ?_
        refine XS.aload X448.here hx rfl (hb hby at_412) rfl rfl ?_
        refine XS.iconst X448.here hx rfl (hb hby at_414) ?_
        refine X448.iaload hx (j := (2 : Int32)) (v := (.int ((vL2 + (0 : Int32)) + ((((vO1.toUInt64 >>> ((0 : Int32) &&& 0x3f).toInt64.toUInt64).toInt64) &&& (own_msk vZ2)).toInt32)))) Arc467.1 (State.isArrayOf_alike hZ.alike Arc467.2.1) Arc467.2.2 hin468 hat469 (g := (mkF m 415 #[Si p1, Si p2, Si p3, Sl q4, S2, Sl q5, S2, Si p6, Si vZ0, Si vZ1, Si vZ2, Si vL0, Si vL1, Si vL2, Si (1 : Int32), Si vZ1, Si vL1, Si vV, Sr b77, Sr b160, Sl vO0, S2, Sl vO1, S2, Sl vO2, S2, Sr b230, Sr b265, Sr b290, Si (1 : Int32), Su, Su] [(.int (2 : Int32)), (.ref b265), (.int ((vL2 + (0 : Int32)) + ((((vO1.toUInt64 >>> ((0 : Int32) &&& 0x3f).toInt64.toUInt64).toInt64) &&& (own_msk vZ2)).toInt32))), (.int (1 : Int32))])) rfl rfl (hb hby at_415) _ ?_
        refine XS.icmpNo X448.here hx rfl (hb hby at_416) rfl (teq rfl).2 ?_
        refine XS.iconst X448.here hx rfl (hb hby at_419) ?_
        refine XS.goto X448.here hx rfl (pc0 := 420) (pc' := 424) rfl (hb hby at_420) (by decide) (by decide) ?_
        refine XS.iand X448.here hx rfl (hb hby at_424) rfl ?_
        refine XS.istore X448.here hx rfl (hb hby at_425) rfl (l' := #[Si p1, Si p2, Si p3, Sl q4, S2, Sl q5, S2, Si p6, Si vZ0, Si vZ1, Si vZ2, Si vL0, Si vL1, Si vL2, Si (1 : Int32), Si vZ1, Si vL1, Si vV, Sr b77, Sr b160, Sl vO0, S2, Sl vO1, S2, Sl vO2, S2, Sr b230, Sr b265, Sr b290, Si (1 : Int32), Su, Su]) rfl ?_
        show Steps _ _ _ (T448.setTop (mkF m 427 #[Si p1, Si p2, Si p3, Sl q4, S2, Sl q5, S2, Si p6, Si vZ0, Si vZ1, Si vZ2, Si vL0, Si vL1, Si vL2, Si (1 : Int32), Si vZ1, Si vL1, Si vV, Sr b77, Sr b160, Sl vO0, S2, Sl vO1, S2, Sl vO2, S2, Sr b230, Sr b265, Sr b290, Si (1 : Int32), Su, Su] [])) _
        exact k
      have F471 : Arv Z T448.heap b230 k230 .long (3 : Int32) [(.long (own_upd vO0 ((1 : Int32) + (own_bits vZ0)) (own_msk vZ1) (vL1 + (0 : Int32)) vV)), (.long vO1), (.long vO2)] (.long (0 : Int64)) := (q435_1.keep q448_0 (ninS ne312 nin0))
      obtain ⟨c472, Arc472, Aqc472, Asc472, Anc472, Ahc472, Agc472⟩ := id F471
      have hin473 : ¬ ((0 : Int32) < 0 ∨ c472.slots.size ≤ ((0 : Int32)).toNatClampNeg) := inb_of Asc472 ⟨by decide, by decide⟩
      have hat474 : c472.slots[((0 : Int32)).toNatClampNeg]? = some (.long (own_upd vO0 ((1 : Int32) + (own_bits vZ0)) (own_msk vZ1) (vL1 + (0 : Int32)) vV)) := Has.at Ahc472 hin473 rfl
      have hc475 : ((own_upd vO0 ((1 : Int32) + (own_bits vZ0)) (own_msk vZ1) (vL1 + (0 : Int32)) vV) &&& (1 : Int64)) = (1 : Int64) := by rw [hvO0]; exact own_lowG G1 (own_1a _)
      obtain ⟨c476, Arc476, Aqc476, Asc476, Anc476, Ahc476, Agc476⟩ := id F471
      have hin477 : ¬ ((2 : Int32) < 0 ∨ c476.slots.size ≤ ((2 : Int32)).toNatClampNeg) := inb_of Asc476 ⟨by decide, by decide⟩
      have hat478 : c476.slots[((2 : Int32)).toNatClampNeg]? = some (.long vO2) := Has.at Ahc476 hin477 rfl
      obtain ⟨c479, Arc479, Aqc479, Asc479, Anc479, Ahc479, Agc479⟩ := id F471
      have hin480 : ¬ ((0 : Int32) < 0 ∨ c479.slots.size ≤ ((0 : Int32)).toNatClampNeg) := inb_of Asc479 ⟨by decide, by decide⟩
      have hat481 : c479.slots[((0 : Int32)).toNatClampNeg]? = some (.long (own_upd vO0 ((1 : Int32) + (own_bits vZ0)) (own_msk vZ1) (vL1 + (0 : Int32)) vV)) := Has.at Ahc479 hin480 rfl
      obtain ⟨c483, Arc483, Aqc483, Asc483, Anc483, Ahc483, Agc483⟩ := id F471
      have hin484 : ¬ ((1 : Int32) < 0 ∨ c483.slots.size ≤ ((1 : Int32)).toNatClampNeg) := inb_of Asc483 ⟨by decide, by decide⟩
      have hat485 : c483.slots[((1 : Int32)).toNatClampNeg]? = some (.long vO1) := Has.at Ahc483 hin484 rfl
      have pre486 : ∀ t, Steps p.tables e below (T448.setTop (mkF m 495 #[Si p1, Si p2, Si p3, Sl q4, S2, Sl q5, S2, Si p6, Si vZ0, Si vZ1, Si vZ2, Si vL0, Si vL1, Si vL2, Si (1 : Int32), Si vZ1, Si vL1, Si vV, Sr b77, Sr b160, Sl vO0, S2, Sl vO1, S2, Sl vO2, S2, Sr b230, Sr b265, Sr b290, Si (1 : Int32), Su, Su] [(.int (1 : Int32)), (.int (1 : Int32))])) t → Steps p.tables e below (s₁.setTop (entryFrame m #[(.int p1), (.int p2), (.int p3), (.long q4), (.long q5), (.int p6)] maxLocals)) t := by
        intro t k
        refine pre470 t ?_
        refine XS.iload X448.here hx rfl (hb hby at_427) rfl ?_
        refine XS.aload X448.here hx rfl (hb hby at_429) rfl rfl ?_
        refine XS.iconst X448.here hx rfl (hb hby at_431) ?_
        refine X448.laload hx (j := (0 : Int32)) (v := (.long (own_upd vO0 ((1 : Int32) + (own_bits vZ0)) (own_msk vZ1) (vL1 + (0 : Int32)) vV))) Arc472.1 (State.isArrayOf_alike hZ.alike Arc472.2.1) Arc472.2.2 hin473 hat474 (g := (mkF m 432 #[Si p1, Si p2, Si p3, Sl q4, S2, Sl q5, S2, Si p6, Si vZ0, Si vZ1, Si vZ2, Si vL0, Si vL1, Si vL2, Si (1 : Int32), Si vZ1, Si vL1, Si vV, Sr b77, Sr b160, Sl vO0, S2, Sl vO1, S2, Sl vO2, S2, Sr b230, Sr b265, Sr b290, Si (1 : Int32), Su, Su] [(.int (0 : Int32)), (.ref b230), (.int (1 : Int32))])) rfl rfl (hb hby at_432) _ ?_
        refine XS.lconst X448.here hx rfl (hb hby at_433) ?_
        refine XS.land X448.here hx rfl (hb hby at_434) rfl ?_
        refine XS.lconst X448.here hx rfl (hb hby at_435) ?_
        refine XS.lcmp X448.here hx rfl (hb hby at_436) rfl ?_
        refine XS.ifNo X448.here hx rfl (hb hby at_437) rfl ((if0 _ _).trans (teq ((lw_eq _ _).mpr hc475)).2) ?_
        refine XS.iconst X448.here hx rfl (hb hby at_440) ?_
        show Steps _ _ _ (T448.setTop (mkF m 441 #[Si p1, Si p2, Si p3, Sl q4, S2, Sl q5, S2, Si p6, Si vZ0, Si vZ1, Si vZ2, Si vL0, Si vL1, Si vL2, Si (1 : Int32), Si vZ1, Si vL1, Si vV, Sr b77, Sr b160, Sl vO0, S2, Sl vO1, S2, Sl vO2, S2, Sr b230, Sr b265, Sr b290, Si (1 : Int32), Su, Su] [(.int (1 : Int32)), (.int (1 : Int32))])) _
        refine XS.goto X448.here hx rfl (pc0 := 441) (pc' := 445) rfl (hb hby at_441) (by decide) (by decide) ?_
        refine XS.iand X448.here hx rfl (hb hby at_445) rfl ?_
        refine XS.istore X448.here hx rfl (hb hby at_446) rfl (l' := #[Si p1, Si p2, Si p3, Sl q4, S2, Sl q5, S2, Si p6, Si vZ0, Si vZ1, Si vZ2, Si vL0, Si vL1, Si vL2, Si (1 : Int32), Si vZ1, Si vL1, Si vV, Sr b77, Sr b160, Sl vO0, S2, Sl vO1, S2, Sl vO2, S2, Sr b230, Sr b265, Sr b290, Si (1 : Int32), Su, Su]) rfl ?_
        refine XS.iload X448.here hx rfl (hb hby at_448) rfl ?_
        refine XS.aload X448.here hx rfl (hb hby at_450) rfl rfl ?_
        refine XS.iconst X448.here hx rfl (hb hby at_452) ?_
        refine X448.laload hx (j := (2 : Int32)) (v := (.long vO2)) Arc476.1 (State.isArrayOf_alike hZ.alike Arc476.2.1) Arc476.2.2 hin477 hat478 (g := (mkF m 453 #[Si p1, Si p2, Si p3, Sl q4, S2, Sl q5, S2, Si p6, Si vZ0, Si vZ1, Si vZ2, Si vL0, Si vL1, Si vL2, Si (1 : Int32), Si vZ1, Si vL1, Si vV, Sr b77, Sr b160, Sl vO0, S2, Sl vO1, S2, Sl vO2, S2, Sr b230, Sr b265, Sr b290, Si (1 : Int32), Su, Su] [(.int (2 : Int32)), (.ref b230), (.int (1 : Int32))])) rfl rfl (hb hby at_453) _ ?_
        refine XS.lload X448.here hx rfl (hb hby at_454) rfl ?_
        refine XS.lcmp X448.here hx rfl (hb hby at_456) rfl ?_
        refine XS.ifNo X448.here hx rfl (hb hby at_457) rfl ((if0 _ _).trans (teq ((lw_eq _ _).mpr rfl)).2) ?_
        show Steps _ _ _ (T448.setTop (mkF m 460 #[Si p1, Si p2, Si p3, Sl q4, S2, Sl q5, S2, Si p6, Si vZ0, Si vZ1, Si vZ2, Si vL0, Si vL1, Si vL2, Si (1 : Int32), Si vZ1, Si vL1, Si vV, Sr b77, Sr b160, Sl vO0, S2, Sl vO1, S2, Sl vO2, S2, Sr b230, Sr b265, Sr b290, Si (1 : Int32), Su, Su] [(.int (1 : Int32))])) _
        refine XS.iconst X448.here hx rfl (hb hby at_460) ?_
        refine XS.goto X448.here hx rfl (pc0 := 461) (pc' := 465) rfl (hb hby at_461) (by decide) (by decide) ?_
        refine XS.iand X448.here hx rfl (hb hby at_465) rfl ?_
        refine XS.istore X448.here hx rfl (hb hby at_466) rfl (l' := #[Si p1, Si p2, Si p3, Sl q4, S2, Sl q5, S2, Si p6, Si vZ0, Si vZ1, Si vZ2, Si vL0, Si vL1, Si vL2, Si (1 : Int32), Si vZ1, Si vL1, Si vV, Sr b77, Sr b160, Sl vO0, S2, Sl vO1, S2, Sl vO2, S2, Sr b230, Sr b265, Sr b290, Si (1 : Int32), Su, Su]) rfl ?_
        refine XS.iload X448.here hx rfl (hb hby at_468) rfl ?_
        refine XS.aload X448.here hx rfl (hb hby at_470) rfl rfl ?_
        refine XS.iconst X448.here hx rfl (hb hby at_472) ?_
        refine X448.laload hx (j := (0 : Int32)) (v := (.long (own_upd vO0 ((1 : Int32) + (own_bits vZ0)) (own_msk vZ1) (vL1 + (0 : Int32)) vV))) Arc479.1 (State.isArrayOf_alike hZ.alike Arc479.2.1) Arc479.2.2 hin480 hat481 (g := (mkF m 473 #[Si p1, Si p2, Si p3, Sl q4, S2, Sl q5, S2, Si p6, Si vZ0, Si vZ1, Si vZ2, Si vL0, Si vL1, Si vL2, Si (1 : Int32), Si vZ1, Si vL1, Si vV, Sr b77, Sr b160, Sl vO0, S2, Sl vO1, S2, Sl vO2, S2, Sr b230, Sr b265, Sr b290, Si (1 : Int32), Su, Su] [(.int (0 : Int32)), (.ref b230), (.int (1 : Int32))])) rfl rfl (hb hby at_473) _ ?_
        refine XS.lload X448.here hx rfl (hb hby at_474) rfl ?_
        refine XS.lcmp X448.here hx rfl (hb hby at_476) rfl ?_
        show Steps _ _ _ (T448.setTop (mkF m 477 #[Si p1, Si p2, Si p3, Sl q4, S2, Sl q5, S2, Si p6, Si vZ0, Si vZ1, Si vZ2, Si vL0, Si vL1, Si vL2, Si (1 : Int32), Si vZ1, Si vL1, Si vV, Sr b77, Sr b160, Sl vO0, S2, Sl vO1, S2, Sl vO2, S2, Sr b230, Sr b265, Sr b290, Si (1 : Int32), Su, Su] [(.int (lcmpW (own_upd vO0 ((1 : Int32) + (own_bits vZ0)) (own_msk vZ1) (vL1 + (0 : Int32)) vV) vO0)), (.int (1 : Int32))])) _
        by_cases hc482 : (own_upd vO0 ((1 : Int32) + (own_bits vZ0)) (own_msk vZ1) (vL1 + (0 : Int32)) vV) = vO0
        · refine XS.ifYes X448.here hx rfl (pc0 := 477) (pc' := 490) rfl (hb hby at_477) rfl ((if0 _ _).trans (teq ((lw_eq _ _).mpr hc482)).1) (by decide) (by decide) ?_
          refine XS.iconst X448.here hx rfl (hb hby at_490) ?_
          refine XS.goto X448.here hx rfl (pc0 := 491) (pc' := 495) rfl (hb hby at_491) (by decide) (by decide) ?_
          exact k
        · refine XS.ifNo X448.here hx rfl (hb hby at_477) rfl ((if0 _ _).trans (feq (fun z => hc482 ((lw_eq _ _).mp z))).1) ?_
          refine XS.aload X448.here hx rfl (hb hby at_480) rfl rfl ?_
          refine XS.iconst X448.here hx rfl (hb hby at_482) ?_
          refine X448.laload hx (j := (1 : Int32)) (v := (.long vO1)) Arc483.1 (State.isArrayOf_alike hZ.alike Arc483.2.1) Arc483.2.2 hin484 hat485 (g := (mkF m 483 #[Si p1, Si p2, Si p3, Sl q4, S2, Sl q5, S2, Si p6, Si vZ0, Si vZ1, Si vZ2, Si vL0, Si vL1, Si vL2, Si (1 : Int32), Si vZ1, Si vL1, Si vV, Sr b77, Sr b160, Sl vO0, S2, Sl vO1, S2, Sl vO2, S2, Sr b230, Sr b265, Sr b290, Si (1 : Int32), Su, Su] [(.int (1 : Int32)), (.ref b230), (.int (1 : Int32))])) rfl rfl (hb hby at_483) _ ?_
          refine XS.lload X448.here hx rfl (hb hby at_484) rfl ?_
          refine XS.lcmp X448.here hx rfl (hb hby at_486) rfl ?_
          refine XS.ifNo X448.here hx rfl (hb hby at_487) rfl ((if0 _ _).trans (teq ((lw_eq _ _).mpr rfl)).2) ?_
          refine XS.iconst X448.here hx rfl (hb hby at_490) ?_
          refine XS.goto X448.here hx rfl (pc0 := 491) (pc' := 495) rfl (hb hby at_491) (by decide) (by decide) ?_
          exact k
      obtain ⟨c487, Arc487, Aqc487, Asc487, Anc487, Ahc487, Agc487⟩ := id F459
      have hin488 : ¬ ((1 : Int32) < 0 ∨ c487.slots.size ≤ ((1 : Int32)).toNatClampNeg) := inb_of Asc487 ⟨by decide, by decide⟩
      have hat489 : c487.slots[((1 : Int32)).toNatClampNeg]? = some (.int ((vL1 + (0 : Int32)) + ((((vO0.toUInt64 >>> (((1 : Int32) + (own_bits vZ0)) &&& 0x3f).toInt64.toUInt64).toInt64) &&& (own_msk vZ1)).toInt32))) := Has.at Ahc487 hin488 rfl
      have pre490 : ∀ t, Steps p.tables e below (T448.setTop (mkF m 514 #[Si p1, Si p2, Si p3, Sl q4, S2, Sl q5, S2, Si p6, Si vZ0, Si vZ1, Si vZ2, Si vL0, Si vL1, Si vL2, Si (1 : Int32), Si vZ1, Si vL1, Si vV, Sr b77, Sr b160, Sl vO0, S2, Sl vO1, S2, Sl vO2, S2, Sr b230, Sr b265, Sr b290, Si (1 : Int32), Sl ((((vL1 + (0 : Int32)) + ((((vO0.toUInt64 >>> (((1 : Int32) + (own_bits vZ0)) &&& 0x3f).toInt64.toUInt64).toInt64) &&& (own_msk vZ1)).toInt32)).toInt64) - (vL1.toInt64)), S2] [(.int (lcmpW ((((vL1 + (0 : Int32)) + ((((vO0.toUInt64 >>> (((1 : Int32) + (own_bits vZ0)) &&& 0x3f).toInt64.toUInt64).toInt64) &&& (own_msk vZ1)).toInt32)).toInt64) - (vL1.toInt64)) (0 : Int64)))])) t → Steps p.tables e below (s₁.setTop (entryFrame m #[(.int p1), (.int p2), (.int p3), (.long q4), (.long q5), (.int p6)] maxLocals)) t := by
        intro t k
        refine pre486 t ?_
        refine XS.iand X448.here hx rfl (hb hby at_495) rfl ?_
        refine XS.istore X448.here hx rfl (hb hby at_496) rfl (l' := #[Si p1, Si p2, Si p3, Sl q4, S2, Sl q5, S2, Si p6, Si vZ0, Si vZ1, Si vZ2, Si vL0, Si vL1, Si vL2, Si (1 : Int32), Si vZ1, Si vL1, Si vV, Sr b77, Sr b160, Sl vO0, S2, Sl vO1, S2, Sl vO2, S2, Sr b230, Sr b265, Sr b290, Si (1 : Int32), Su, Su]) rfl ?_
        refine XS.aload X448.here hx rfl (hb hby at_498) rfl rfl ?_
        refine XS.iload X448.here hx rfl (hb hby at_500) rfl ?_
        refine X448.iaload hx (j := (1 : Int32)) (v := (.int ((vL1 + (0 : Int32)) + ((((vO0.toUInt64 >>> (((1 : Int32) + (own_bits vZ0)) &&& 0x3f).toInt64.toUInt64).toInt64) &&& (own_msk vZ1)).toInt32)))) Arc487.1 (State.isArrayOf_alike hZ.alike Arc487.2.1) Arc487.2.2 hin488 hat489 (g := (mkF m 502 #[Si p1, Si p2, Si p3, Sl q4, S2, Sl q5, S2, Si p6, Si vZ0, Si vZ1, Si vZ2, Si vL0, Si vL1, Si vL2, Si (1 : Int32), Si vZ1, Si vL1, Si vV, Sr b77, Sr b160, Sl vO0, S2, Sl vO1, S2, Sl vO2, S2, Sr b230, Sr b265, Sr b290, Si (1 : Int32), Su, Su] [(.int (1 : Int32)), (.ref b265)])) rfl rfl (hb hby at_502) _ ?_
        refine XS.i2l X448.here hx rfl (hb hby at_503) rfl ?_
        refine XS.iload X448.here hx rfl (hb hby at_504) rfl ?_
        refine XS.i2l X448.here hx rfl (hb hby at_506) rfl ?_
        refine XS.lsub X448.here hx rfl (hb hby at_507) rfl ?_
        refine XS.lstore X448.here hx rfl (hb hby at_508) rfl (l' := #[Si p1, Si p2, Si p3, Sl q4, S2, Sl q5, S2, Si p6, Si vZ0, Si vZ1, Si vZ2, Si vL0, Si vL1, Si vL2, Si (1 : Int32), Si vZ1, Si vL1, Si vV, Sr b77, Sr b160, Sl vO0, S2, Sl vO1, S2, Sl vO2, S2, Sr b230, Sr b265, Sr b290, Si (1 : Int32), Sl ((((vL1 + (0 : Int32)) + ((((vO0.toUInt64 >>> (((1 : Int32) + (own_bits vZ0)) &&& 0x3f).toInt64.toUInt64).toInt64) &&& (own_msk vZ1)).toInt32)).toInt64) - (vL1.toInt64)), S2]) rfl ?_
        show Steps _ _ _ (T448.setTop (mkF m 510 #[Si p1, Si p2, Si p3, Sl q4, S2, Sl q5, S2, Si p6, Si vZ0, Si vZ1, Si vZ2, Si vL0, Si vL1, Si vL2, Si (1 : Int32), Si vZ1, Si vL1, Si vV, Sr b77, Sr b160, Sl vO0, S2, Sl vO1, S2, Sl vO2, S2, Sr b230, Sr b265, Sr b290, Si (1 : Int32), Sl ((((vL1 + (0 : Int32)) + ((((vO0.toUInt64 >>> (((1 : Int32) + (own_bits vZ0)) &&& 0x3f).toInt64.toUInt64).toInt64) &&& (own_msk vZ1)).toInt32)).toInt64) - (vL1.toInt64)), S2] [])) _
        refine XS.lload X448.here hx rfl (hb hby at_510) rfl ?_
        refine XS.lconst X448.here hx rfl (hb hby at_512) ?_
        refine XS.lcmp X448.here hx rfl (hb hby at_513) rfl ?_
        exact k
      by_cases hd0 : ((((vL1 + (0 : Int32)) + ((((vO0.toUInt64 >>> (((1 : Int32) + (own_bits vZ0)) &&& 0x3f).toInt64.toUInt64).toInt64) &&& (own_msk vZ1)).toInt32)).toInt64) - (vL1.toInt64)) < (0 : Int64)
      · have pre491 : ∀ t, Steps p.tables e below (T448.setTop (mkF m 582 #[Si p1, Si p2, Si p3, Sl q4, S2, Sl q5, S2, Si p6, Si vZ0, Si vZ1, Si vZ2, Si vL0, Si vL1, Si vL2, Si (1 : Int32), Si vZ1, Si vL1, Si vV, Sr b77, Sr b160, Sl vO0, S2, Sl vO1, S2, Sl vO2, S2, Sr b230, Sr b265, Sr b290, Si (1 : Int32), Sl ((((vL1 + (0 : Int32)) + ((((vO0.toUInt64 >>> (((1 : Int32) + (own_bits vZ0)) &&& 0x3f).toInt64.toUInt64).toInt64) &&& (own_msk vZ1)).toInt32)).toInt64) - (vL1.toInt64)), S2] [(.int (1 : Int32))])) t → Steps p.tables e below (s₁.setTop (entryFrame m #[(.int p1), (.int p2), (.int p3), (.long q4), (.long q5), (.int p6)] maxLocals)) t := by
          intro t k
          refine pre490 t ?_
          refine XS.ifYes X448.here hx rfl (pc0 := 514) (pc' := 580) rfl (hb hby at_514) rfl ((if0 _ _).trans (tlt ((lw_lt _ _).mpr hd0)).1) (by decide) (by decide) ?_
          refine XS.iload X448.here hx rfl (hb hby at_580) rfl ?_
          exact k
        obtain ⟨fs, hr, hrun, hended, hW, hsame⟩ := X448.leave (v := some (.int (1 : Int32))) (fun h => by rw [Bd.returns] at h; cases h)
        refine ⟨_, _, pre491 _ ?_, hrun, hended, _, _, rfl, ?_, ⟨_, rfl⟩, hW, hsame.mono (by decide) (by decide)⟩
        · exact retN X448 hx (t := .boolean) Bd.returns (by simp) (hb hby at_582) hr
        · show Q_rm0 Z p1 p2 p3 q4 q5 p6 wE kE h0 n0 _ T448.heap _
          exact ⟨rfl, N450, KC451⟩
      · have pre492 : ∀ t, Steps p.tables e below (T448.setTop (mkF m 523 #[Si p1, Si p2, Si p3, Sl q4, S2, Sl q5, S2, Si p6, Si vZ0, Si vZ1, Si vZ2, Si vL0, Si vL1, Si vL2, Si (1 : Int32), Si vZ1, Si vL1, Si vV, Sr b77, Sr b160, Sl vO0, S2, Sl vO1, S2, Sl vO2, S2, Sr b230, Sr b265, Sr b290, Si (1 : Int32), Sl ((((vL1 + (0 : Int32)) + ((((vO0.toUInt64 >>> (((1 : Int32) + (own_bits vZ0)) &&& 0x3f).toInt64.toUInt64).toInt64) &&& (own_msk vZ1)).toInt32)).toInt64) - (vL1.toInt64)), S2] [(.int (lcmpW ((((vL1 + (0 : Int32)) + ((((vO0.toUInt64 >>> (((1 : Int32) + (own_bits vZ0)) &&& 0x3f).toInt64.toUInt64).toInt64) &&& (own_msk vZ1)).toInt32)).toInt64) - (vL1.toInt64)) (vZ1.toInt64)))])) t → Steps p.tables e below (s₁.setTop (entryFrame m #[(.int p1), (.int p2), (.int p3), (.long q4), (.long q5), (.int p6)] maxLocals)) t := by
          intro t k
          refine pre490 t ?_
          refine XS.ifNo X448.here hx rfl (hb hby at_514) rfl ((if0 _ _).trans (flt (fun z => hd0 ((lw_lt _ _).mp z))).1) ?_
          refine XS.lload X448.here hx rfl (hb hby at_517) rfl ?_
          refine XS.iload X448.here hx rfl (hb hby at_519) rfl ?_
          refine XS.i2l X448.here hx rfl (hb hby at_521) rfl ?_
          refine XS.lcmp X448.here hx rfl (hb hby at_522) rfl ?_
          exact k
        by_cases hd1 : ((((vL1 + (0 : Int32)) + ((((vO0.toUInt64 >>> (((1 : Int32) + (own_bits vZ0)) &&& 0x3f).toInt64.toUInt64).toInt64) &&& (own_msk vZ1)).toInt32)).toInt64) - (vL1.toInt64)) < (vZ1.toInt64)
        · obtain ⟨c493, Arc493, Aqc493, Asc493, Anc493, Ahc493, Agc493⟩ := id F459
          have hin494 : ¬ ((1 : Int32) < 0 ∨ c493.slots.size ≤ ((1 : Int32)).toNatClampNeg) := inb_of Asc493 ⟨by decide, by decide⟩
          have hat495 : c493.slots[((1 : Int32)).toNatClampNeg]? = some (.int ((vL1 + (0 : Int32)) + ((((vO0.toUInt64 >>> (((1 : Int32) + (own_bits vZ0)) &&& 0x3f).toInt64.toUInt64).toInt64) &&& (own_msk vZ1)).toInt32))) := Has.at Ahc493 hin494 rfl
          have F496 : Fld Z T448.heap b160 "com/example/darlington/darlington/core/StateLayout" "wordOf" "[I" (.ref r1_191) := (F439.keep q448_0 (ninS ne302 nin0))
          have F497 : Arv Z T448.heap r1_191 c1_191 .int (3 : Int32) [(.int (0 : Int32)), (.int (0 : Int32)), (.int (1 : Int32))] (.int (0 : Int32)) := (F440.keep q448_0 (ninS ne304 nin0))
          have F498 : Fld Z T448.heap b160 "com/example/darlington/darlington/core/StateLayout" "shiftOf" "[I" (.ref r2_191) := (F441.keep q448_0 (ninS ne302 nin0))
          have F499 : Arv Z T448.heap r2_191 c2_191 .int (3 : Int32) [(.int (1 : Int32)), (.int ((1 : Int32) + (own_bits vZ0))), (.int (0 : Int32))] (.int (0 : Int32)) := (F442.keep q448_0 (ninS ne306 nin0))
          have F500 : Fld Z T448.heap b160 "com/example/darlington/darlington/core/StateLayout" "maskOf" "[J" (.ref r3_191) := (F443.keep q448_0 (ninS ne302 nin0))
          have F501 : Arv Z T448.heap r3_191 c3_191 .long (3 : Int32) [(.long (own_msk vZ0)), (.long (own_msk vZ1)), (.long (own_msk vZ2))] (.long (0 : Int64)) := (F444.keep q448_0 (ninS ne308 nin0))
          have F502 : Fld Z T448.heap b160 "com/example/darlington/darlington/core/StateLayout" "firstOf" "[I" (.ref r4_191) := (F445.keep q448_0 (ninS ne302 nin0))
          have F503 : Arv Z T448.heap r4_191 c4_191 .int (3 : Int32) [(.int (vL0 + (0 : Int32))), (.int (vL1 + (0 : Int32))), (.int (vL2 + (0 : Int32)))] (.int (0 : Int32)) := (F446.keep q448_0 (ninS ne310 nin0))
          have F505 : Exa Z T448.heap b160 "com/example/darlington/darlington/core/StateLayout" := (F449.keep q448_0)
          obtain ⟨cq504, kq504, q504a, q504b, q504c⟩ := isOf hZ rfl F505
          obtain ⟨_, _, ⟨T504, L504, k504, n504⟩, -, X504, ⟨Lc504, hQ504, l504, y504, z504⟩, st504⟩ := X448.virtualBack hx (y := (⟨"com/example/darlington/darlington/core/StateLayout", "set", "([JII)V"⟩ : MethodName)) (z := (⟨"com/example/darlington/darlington/core/StateLayout", "set", "([JII)V"⟩ : MethodName)) hown (mvT hZ (ow hw 159 rfl)) (mvT hZ (ow hw 160 rfl)) (notFace_of_selects (args := #[]) (mvT hZ (ow hw 162 rfl))) (mvT hZ (ow hw 162 rfl)) (mvT hZ (ow hw 161 rfl)) (by decide) (backOf (W := 0) (rm_set1 l Z a0 hw [] b160 b230 ((vL1 + (0 : Int32)) + ((((vO0.toUInt64 >>> (((1 : Int32) + (own_bits vZ0)) &&& 0x3f).toInt64.toUInt64).toInt64) &&& (own_msk vZ1)).toInt32)) r1_191 r2_191 r3_191 r4_191 c1_191 c2_191 c3_191 c4_191 (1 : Int32) ((1 : Int32) + (own_bits vZ0)) (0 : Int32) (own_msk vZ0) (own_msk vZ1) (own_msk vZ2) (vL0 + (0 : Int32)) (vL1 + (0 : Int32)) (vL2 + (0 : Int32)) (1 : Int32) k230 (own_upd vO0 ((1 : Int32) + (own_bits vZ0)) (own_msk vZ1) (vL1 + (0 : Int32)) vV) vO1 vO2 T448.heap n0 (Nat.le_trans Z0 KC451.1) F496 F497 F498 F499 F500 F501 F502 F503 F471 ge247) hZ (ow hw 163 rfl) (ow hw 88 rfl) (by decide) (by decide)) q504a q504c (g := (mkF m 537 #[Si p1, Si p2, Si p3, Sl q4, S2, Sl q5, S2, Si p6, Si vZ0, Si vZ1, Si vZ2, Si vL0, Si vL1, Si vL2, Si (1 : Int32), Si vZ1, Si vL1, Si vV, Sr b77, Sr b160, Sl vO0, S2, Sl vO1, S2, Sl vO2, S2, Sr b230, Sr b265, Sr b290, Si (1 : Int32), Sl ((((vL1 + (0 : Int32)) + ((((vO0.toUInt64 >>> (((1 : Int32) + (own_bits vZ0)) &&& 0x3f).toInt64.toUInt64).toInt64) &&& (own_msk vZ1)).toInt32)).toInt64) - (vL1.toInt64)), S2] [(.int ((vL1 + (0 : Int32)) + ((((vO0.toUInt64 >>> (((1 : Int32) + (own_bits vZ0)) &&& 0x3f).toInt64.toUInt64).toInt64) &&& (own_msk vZ1)).toInt32))), (.int (1 : Int32)), (.ref b230), (.ref b160)])) rfl (by rw [hml]; rfl) (Steps.refl _) (argsL := [(.ref b230), (.int (1 : Int32)), (.int ((vL1 + (0 : Int32)) + ((((vO0.toUInt64 >>> (((1 : Int32) + (own_bits vZ0)) &&& 0x3f).toInt64.toUInt64).toInt64) &&& (own_msk vZ1)).toInt32)))]) (rest := []) (lenOf pd_13 rfl) rfl (by show 2 * 0 + _ ≤ _; exact Nat.le_of_eq rfl) (hb hby at_537) (fun _ _ => ⟨rfl, rfl, (by decide : 13 + 0 ≤ _), (by decide : 45 + 0 ≤ _)⟩)
          dsimp only [Pt.U, Pt.locs, Pt.cells, Pt.slots] at X504 l504 y504 z504 st504 hQ504
          subst y504 z504
          obtain ⟨rfl, Nq504, q504_0, q504_1⟩ := hQ504
          have N506 := Eq.subst (motive := fun L => Fr n0 L) l504.symm (Fr.app N450 Nq504)
          have KC507 : Keep h0 T504.heap [] := KC451.trans q504_0 (allS (Or.inr sz248) all0)
          obtain ⟨c508, Arc508, Aqc508, Asc508, Anc508, Ahc508, Agc508⟩ := id q504_1
          have hin509 : ¬ ((0 : Int32) < 0 ∨ c508.slots.size ≤ ((0 : Int32)).toNatClampNeg) := inb_of Asc508 ⟨by decide, by decide⟩
          have hat510 : c508.slots[((0 : Int32)).toNatClampNeg]? = some (.long (own_upd (own_upd vO0 ((1 : Int32) + (own_bits vZ0)) (own_msk vZ1) (vL1 + (0 : Int32)) vV) ((1 : Int32) + (own_bits vZ0)) (own_msk vZ1) (vL1 + (0 : Int32)) ((vL1 + (0 : Int32)) + ((((vO0.toUInt64 >>> (((1 : Int32) + (own_bits vZ0)) &&& 0x3f).toInt64.toUInt64).toInt64) &&& (own_msk vZ1)).toInt32)))) := Has.at Ahc508 hin509 rfl
          have hc511 : (own_upd (own_upd vO0 ((1 : Int32) + (own_bits vZ0)) (own_msk vZ1) (vL1 + (0 : Int32)) vV) ((1 : Int32) + (own_bits vZ0)) (own_msk vZ1) (vL1 + (0 : Int32)) ((vL1 + (0 : Int32)) + ((((vO0.toUInt64 >>> (((1 : Int32) + (own_bits vZ0)) &&& 0x3f).toInt64.toUInt64).toInt64) &&& (own_msk vZ1)).toInt32))) = vO0 := own_uuG G1 (own_back G1.2.2.2 B1 _ (own_fldB G1.2.2.2 B1).1 (own_fldB G1.2.2.2 B1).2 hd0)
          obtain ⟨c512, Arc512, Aqc512, Asc512, Anc512, Ahc512, Agc512⟩ := id q504_1
          have hin513 : ¬ ((1 : Int32) < 0 ∨ c512.slots.size ≤ ((1 : Int32)).toNatClampNeg) := inb_of Asc512 ⟨by decide, by decide⟩
          have hat514 : c512.slots[((1 : Int32)).toNatClampNeg]? = some (.long vO1) := Has.at Ahc512 hin513 rfl
          obtain ⟨c515, Arc515, Aqc515, Asc515, Anc515, Ahc515, Agc515⟩ := id q504_1
          have hin516 : ¬ ((2 : Int32) < 0 ∨ c515.slots.size ≤ ((2 : Int32)).toNatClampNeg) := inb_of Asc515 ⟨by decide, by decide⟩
          have hat517 : c515.slots[((2 : Int32)).toNatClampNeg]? = some (.long vO2) := Has.at Ahc515 hin516 rfl
          have pre518 : ∀ t, Steps p.tables e below (T504.setTop (mkF m 582 #[Si p1, Si p2, Si p3, Sl q4, S2, Sl q5, S2, Si p6, Si vZ0, Si vZ1, Si vZ2, Si vL0, Si vL1, Si vL2, Si (1 : Int32), Si vZ1, Si vL1, Si vV, Sr b77, Sr b160, Sl vO0, S2, Sl vO1, S2, Sl vO2, S2, Sr b230, Sr b265, Sr b290, Si (1 : Int32), Sl ((((vL1 + (0 : Int32)) + ((((vO0.toUInt64 >>> (((1 : Int32) + (own_bits vZ0)) &&& 0x3f).toInt64.toUInt64).toInt64) &&& (own_msk vZ1)).toInt32)).toInt64) - (vL1.toInt64)), S2] [(.int (1 : Int32))])) t → Steps p.tables e below (s₁.setTop (entryFrame m #[(.int p1), (.int p2), (.int p3), (.long q4), (.long q5), (.int p6)] maxLocals)) t := by
            intro t k
            refine pre492 t ?_
            refine XS.ifNo X448.here hx rfl (hb hby at_523) rfl ((if0 _ _).trans (tlt ((lw_lt _ _).mpr hd1)).2.1) ?_
            refine XS.aload X448.here hx rfl (hb hby at_526) rfl rfl ?_
            show Steps _ _ _ (T448.setTop (mkF m 528 #[Si p1, Si p2, Si p3, Sl q4, S2, Sl q5, S2, Si p6, Si vZ0, Si vZ1, Si vZ2, Si vL0, Si vL1, Si vL2, Si (1 : Int32), Si vZ1, Si vL1, Si vV, Sr b77, Sr b160, Sl vO0, S2, Sl vO1, S2, Sl vO2, S2, Sr b230, Sr b265, Sr b290, Si (1 : Int32), Sl ((((vL1 + (0 : Int32)) + ((((vO0.toUInt64 >>> (((1 : Int32) + (own_bits vZ0)) &&& 0x3f).toInt64.toUInt64).toInt64) &&& (own_msk vZ1)).toInt32)).toInt64) - (vL1.toInt64)), S2] [(.ref b160)])) _
            refine XS.aload X448.here hx rfl (hb hby at_528) rfl rfl ?_
            refine XS.iload X448.here hx rfl (hb hby at_530) rfl ?_
            refine XS.aload X448.here hx rfl (hb hby at_532) rfl rfl ?_
            refine XS.iload X448.here hx rfl (hb hby at_534) rfl ?_
            refine X448.iaload hx (j := (1 : Int32)) (v := (.int ((vL1 + (0 : Int32)) + ((((vO0.toUInt64 >>> (((1 : Int32) + (own_bits vZ0)) &&& 0x3f).toInt64.toUInt64).toInt64) &&& (own_msk vZ1)).toInt32)))) Arc493.1 (State.isArrayOf_alike hZ.alike Arc493.2.1) Arc493.2.2 hin494 hat495 (g := (mkF m 536 #[Si p1, Si p2, Si p3, Sl q4, S2, Sl q5, S2, Si p6, Si vZ0, Si vZ1, Si vZ2, Si vL0, Si vL1, Si vL2, Si (1 : Int32), Si vZ1, Si vL1, Si vV, Sr b77, Sr b160, Sl vO0, S2, Sl vO1, S2, Sl vO2, S2, Sr b230, Sr b265, Sr b290, Si (1 : Int32), Sl ((((vL1 + (0 : Int32)) + ((((vO0.toUInt64 >>> (((1 : Int32) + (own_bits vZ0)) &&& 0x3f).toInt64.toUInt64).toInt64) &&& (own_msk vZ1)).toInt32)).toInt64) - (vL1.toInt64)), S2] [(.int (1 : Int32)), (.ref b265), (.int (1 : Int32)), (.ref b230), (.ref b160)])) rfl rfl (hb hby at_536) _ ?_
            refine st504.trans ?_
            refine XS.iload X504.here hx rfl (hb hby at_540) rfl ?_
            refine XS.aload X504.here hx rfl (hb hby at_542) rfl rfl ?_
            refine XS.iconst X504.here hx rfl (hb hby at_544) ?_
            refine X504.laload hx (j := (0 : Int32)) (v := (.long (own_upd (own_upd vO0 ((1 : Int32) + (own_bits vZ0)) (own_msk vZ1) (vL1 + (0 : Int32)) vV) ((1 : Int32) + (own_bits vZ0)) (own_msk vZ1) (vL1 + (0 : Int32)) ((vL1 + (0 : Int32)) + ((((vO0.toUInt64 >>> (((1 : Int32) + (own_bits vZ0)) &&& 0x3f).toInt64.toUInt64).toInt64) &&& (own_msk vZ1)).toInt32))))) Arc508.1 (State.isArrayOf_alike hZ.alike Arc508.2.1) Arc508.2.2 hin509 hat510 (g := (mkF m 545 #[Si p1, Si p2, Si p3, Sl q4, S2, Sl q5, S2, Si p6, Si vZ0, Si vZ1, Si vZ2, Si vL0, Si vL1, Si vL2, Si (1 : Int32), Si vZ1, Si vL1, Si vV, Sr b77, Sr b160, Sl vO0, S2, Sl vO1, S2, Sl vO2, S2, Sr b230, Sr b265, Sr b290, Si (1 : Int32), Sl ((((vL1 + (0 : Int32)) + ((((vO0.toUInt64 >>> (((1 : Int32) + (own_bits vZ0)) &&& 0x3f).toInt64.toUInt64).toInt64) &&& (own_msk vZ1)).toInt32)).toInt64) - (vL1.toInt64)), S2] [(.int (0 : Int32)), (.ref b230), (.int (1 : Int32))])) rfl rfl (hb hby at_545) _ ?_
            show Steps _ _ _ (T504.setTop (mkF m 546 #[Si p1, Si p2, Si p3, Sl q4, S2, Sl q5, S2, Si p6, Si vZ0, Si vZ1, Si vZ2, Si vL0, Si vL1, Si vL2, Si (1 : Int32), Si vZ1, Si vL1, Si vV, Sr b77, Sr b160, Sl vO0, S2, Sl vO1, S2, Sl vO2, S2, Sr b230, Sr b265, Sr b290, Si (1 : Int32), Sl ((((vL1 + (0 : Int32)) + ((((vO0.toUInt64 >>> (((1 : Int32) + (own_bits vZ0)) &&& 0x3f).toInt64.toUInt64).toInt64) &&& (own_msk vZ1)).toInt32)).toInt64) - (vL1.toInt64)), S2] [(.long (own_upd (own_upd vO0 ((1 : Int32) + (own_bits vZ0)) (own_msk vZ1) (vL1 + (0 : Int32)) vV) ((1 : Int32) + (own_bits vZ0)) (own_msk vZ1) (vL1 + (0 : Int32)) ((vL1 + (0 : Int32)) + ((((vO0.toUInt64 >>> (((1 : Int32) + (own_bits vZ0)) &&& 0x3f).toInt64.toUInt64).toInt64) &&& (own_msk vZ1)).toInt32)))), (.int (1 : Int32))])) _
            refine XS.lload X504.here hx rfl (hb hby at_546) rfl ?_
            refine XS.lcmp X504.here hx rfl (hb hby at_548) rfl ?_
            refine XS.ifNo X504.here hx rfl (hb hby at_549) rfl ((if0 _ _).trans (teq ((lw_eq _ _).mpr hc511)).2) ?_
            refine XS.aload X504.here hx rfl (hb hby at_552) rfl rfl ?_
            refine XS.iconst X504.here hx rfl (hb hby at_554) ?_
            refine X504.laload hx (j := (1 : Int32)) (v := (.long vO1)) Arc512.1 (State.isArrayOf_alike hZ.alike Arc512.2.1) Arc512.2.2 hin513 hat514 (g := (mkF m 555 #[Si p1, Si p2, Si p3, Sl q4, S2, Sl q5, S2, Si p6, Si vZ0, Si vZ1, Si vZ2, Si vL0, Si vL1, Si vL2, Si (1 : Int32), Si vZ1, Si vL1, Si vV, Sr b77, Sr b160, Sl vO0, S2, Sl vO1, S2, Sl vO2, S2, Sr b230, Sr b265, Sr b290, Si (1 : Int32), Sl ((((vL1 + (0 : Int32)) + ((((vO0.toUInt64 >>> (((1 : Int32) + (own_bits vZ0)) &&& 0x3f).toInt64.toUInt64).toInt64) &&& (own_msk vZ1)).toInt32)).toInt64) - (vL1.toInt64)), S2] [(.int (1 : Int32)), (.ref b230), (.int (1 : Int32))])) rfl rfl (hb hby at_555) _ ?_
            refine XS.lload X504.here hx rfl (hb hby at_556) rfl ?_
            refine XS.lcmp X504.here hx rfl (hb hby at_558) rfl ?_
            refine XS.ifNo X504.here hx rfl (hb hby at_559) rfl ((if0 _ _).trans (teq ((lw_eq _ _).mpr rfl)).2) ?_
            refine XS.aload X504.here hx rfl (hb hby at_562) rfl rfl ?_
            show Steps _ _ _ (T504.setTop (mkF m 564 #[Si p1, Si p2, Si p3, Sl q4, S2, Sl q5, S2, Si p6, Si vZ0, Si vZ1, Si vZ2, Si vL0, Si vL1, Si vL2, Si (1 : Int32), Si vZ1, Si vL1, Si vV, Sr b77, Sr b160, Sl vO0, S2, Sl vO1, S2, Sl vO2, S2, Sr b230, Sr b265, Sr b290, Si (1 : Int32), Sl ((((vL1 + (0 : Int32)) + ((((vO0.toUInt64 >>> (((1 : Int32) + (own_bits vZ0)) &&& 0x3f).toInt64.toUInt64).toInt64) &&& (own_msk vZ1)).toInt32)).toInt64) - (vL1.toInt64)), S2] [(.ref b230), (.int (1 : Int32))])) _
            refine XS.iconst X504.here hx rfl (hb hby at_564) ?_
            refine X504.laload hx (j := (2 : Int32)) (v := (.long vO2)) Arc515.1 (State.isArrayOf_alike hZ.alike Arc515.2.1) Arc515.2.2 hin516 hat517 (g := (mkF m 565 #[Si p1, Si p2, Si p3, Sl q4, S2, Sl q5, S2, Si p6, Si vZ0, Si vZ1, Si vZ2, Si vL0, Si vL1, Si vL2, Si (1 : Int32), Si vZ1, Si vL1, Si vV, Sr b77, Sr b160, Sl vO0, S2, Sl vO1, S2, Sl vO2, S2, Sr b230, Sr b265, Sr b290, Si (1 : Int32), Sl ((((vL1 + (0 : Int32)) + ((((vO0.toUInt64 >>> (((1 : Int32) + (own_bits vZ0)) &&& 0x3f).toInt64.toUInt64).toInt64) &&& (own_msk vZ1)).toInt32)).toInt64) - (vL1.toInt64)), S2] [(.int (2 : Int32)), (.ref b230), (.int (1 : Int32))])) rfl rfl (hb hby at_565) _ ?_
            refine XS.lload X504.here hx rfl (hb hby at_566) rfl ?_
            refine XS.lcmp X504.here hx rfl (hb hby at_568) rfl ?_
            refine XS.ifNo X504.here hx rfl (hb hby at_569) rfl ((if0 _ _).trans (teq ((lw_eq _ _).mpr rfl)).2) ?_
            refine XS.iconst X504.here hx rfl (hb hby at_572) ?_
            refine XS.goto X504.here hx rfl (pc0 := 573) (pc' := 577) rfl (hb hby at_573) (by decide) (by decide) ?_
            refine XS.iand X504.here hx rfl (hb hby at_577) rfl ?_
            refine XS.istore X504.here hx rfl (hb hby at_578) rfl (l' := #[Si p1, Si p2, Si p3, Sl q4, S2, Sl q5, S2, Si p6, Si vZ0, Si vZ1, Si vZ2, Si vL0, Si vL1, Si vL2, Si (1 : Int32), Si vZ1, Si vL1, Si vV, Sr b77, Sr b160, Sl vO0, S2, Sl vO1, S2, Sl vO2, S2, Sr b230, Sr b265, Sr b290, Si (1 : Int32), Sl ((((vL1 + (0 : Int32)) + ((((vO0.toUInt64 >>> (((1 : Int32) + (own_bits vZ0)) &&& 0x3f).toInt64.toUInt64).toInt64) &&& (own_msk vZ1)).toInt32)).toInt64) - (vL1.toInt64)), S2]) rfl ?_
            refine XS.iload X504.here hx rfl (hb hby at_580) rfl ?_
            show Steps _ _ _ (T504.setTop (mkF m 582 #[Si p1, Si p2, Si p3, Sl q4, S2, Sl q5, S2, Si p6, Si vZ0, Si vZ1, Si vZ2, Si vL0, Si vL1, Si vL2, Si (1 : Int32), Si vZ1, Si vL1, Si vV, Sr b77, Sr b160, Sl vO0, S2, Sl vO1, S2, Sl vO2, S2, Sr b230, Sr b265, Sr b290, Si (1 : Int32), Sl ((((vL1 + (0 : Int32)) + ((((vO0.toUInt64 >>> (((1 : Int32) + (own_bits vZ0)) &&& 0x3f).toInt64.toUInt64).toInt64) &&& (own_msk vZ1)).toInt32)).toInt64) - (vL1.toInt64)), S2] [(.int (1 : Int32))])) _
            exact k
          obtain ⟨fs, hr, hrun, hended, hW, hsame⟩ := X504.leave (v := some (.int (1 : Int32))) (fun h => by rw [Bd.returns] at h; cases h)
          refine ⟨_, _, pre518 _ ?_, hrun, hended, _, _, rfl, ?_, ⟨_, rfl⟩, hW, hsame.mono (by decide) (by decide)⟩
          · exact retN X504 hx (t := .boolean) Bd.returns (by simp) (hb hby at_582) hr
          · show Q_rm0 Z p1 p2 p3 q4 q5 p6 wE kE h0 n0 _ T504.heap _
            exact ⟨rfl, N506, KC507⟩
        · have pre519 : ∀ t, Steps p.tables e below (T448.setTop (mkF m 582 #[Si p1, Si p2, Si p3, Sl q4, S2, Sl q5, S2, Si p6, Si vZ0, Si vZ1, Si vZ2, Si vL0, Si vL1, Si vL2, Si (1 : Int32), Si vZ1, Si vL1, Si vV, Sr b77, Sr b160, Sl vO0, S2, Sl vO1, S2, Sl vO2, S2, Sr b230, Sr b265, Sr b290, Si (1 : Int32), Sl ((((vL1 + (0 : Int32)) + ((((vO0.toUInt64 >>> (((1 : Int32) + (own_bits vZ0)) &&& 0x3f).toInt64.toUInt64).toInt64) &&& (own_msk vZ1)).toInt32)).toInt64) - (vL1.toInt64)), S2] [(.int (1 : Int32))])) t → Steps p.tables e below (s₁.setTop (entryFrame m #[(.int p1), (.int p2), (.int p3), (.long q4), (.long q5), (.int p6)] maxLocals)) t := by
            intro t k
            refine pre492 t ?_
            refine XS.ifYes X448.here hx rfl (pc0 := 523) (pc' := 580) rfl (hb hby at_523) rfl ((if0 _ _).trans (flt (fun z => hd1 ((lw_lt _ _).mp z))).2.1) (by decide) (by decide) ?_
            refine XS.iload X448.here hx rfl (hb hby at_580) rfl ?_
            show Steps _ _ _ (T448.setTop (mkF m 582 #[Si p1, Si p2, Si p3, Sl q4, S2, Sl q5, S2, Si p6, Si vZ0, Si vZ1, Si vZ2, Si vL0, Si vL1, Si vL2, Si (1 : Int32), Si vZ1, Si vL1, Si vV, Sr b77, Sr b160, Sl vO0, S2, Sl vO1, S2, Sl vO2, S2, Sr b230, Sr b265, Sr b290, Si (1 : Int32), Sl ((((vL1 + (0 : Int32)) + ((((vO0.toUInt64 >>> (((1 : Int32) + (own_bits vZ0)) &&& 0x3f).toInt64.toUInt64).toInt64) &&& (own_msk vZ1)).toInt32)).toInt64) - (vL1.toInt64)), S2] [(.int (1 : Int32))])) _
            exact k
          obtain ⟨fs, hr, hrun, hended, hW, hsame⟩ := X448.leave (v := some (.int (1 : Int32))) (fun h => by rw [Bd.returns] at h; cases h)
          refine ⟨_, _, pre519 _ ?_, hrun, hended, _, _, rfl, ?_, ⟨_, rfl⟩, hW, hsame.mono (by decide) (by decide)⟩
          · exact retN X448 hx (t := .boolean) Bd.returns (by simp) (hb hby at_582) hr
          · show Q_rm0 Z p1 p2 p3 q4 q5 p6 wE kE h0 n0 _ T448.heap _
            exact ⟨rfl, N450, KC451⟩
    · have eSz : vSz = vZ2 := by rw [hvSz, hI]; rfl
      have eLo : vLo = vL2 := by rw [hvLo, hI]; rfl
      rw [hI, eSz, eLo] at pre331
      have hV := own_vv vL2 vZ2 p6 hz2 hl2 vV (by rw [hvV, eSz, eLo])
      have hV2 := own_lt2 hV.2 Y2
      have G2 := G2b
      have F520 : Fld Z T327.heap b160 "com/example/darlington/darlington/core/StateLayout" "wordOf" "[I" (.ref r1_191) := (F317.keep q327_0 (ninS ne277 nin0))
      have F521 : Arv Z T327.heap r1_191 c1_191 .int (3 : Int32) [(.int (0 : Int32)), (.int (0 : Int32)), (.int (1 : Int32))] (.int (0 : Int32)) := (F318.keep q327_0 (ninS ne279 nin0))
      have F522 : Fld Z T327.heap b160 "com/example/darlington/darlington/core/StateLayout" "shiftOf" "[I" (.ref r2_191) := (F319.keep q327_0 (ninS ne277 nin0))
      have F523 : Arv Z T327.heap r2_191 c2_191 .int (3 : Int32) [(.int (1 : Int32)), (.int ((1 : Int32) + (own_bits vZ0))), (.int (0 : Int32))] (.int (0 : Int32)) := (F320.keep q327_0 (ninS ne281 nin0))
      have F524 : Fld Z T327.heap b160 "com/example/darlington/darlington/core/StateLayout" "maskOf" "[J" (.ref r3_191) := (F321.keep q327_0 (ninS ne277 nin0))
      have F525 : Arv Z T327.heap r3_191 c3_191 .long (3 : Int32) [(.long (own_msk vZ0)), (.long (own_msk vZ1)), (.long (own_msk vZ2))] (.long (0 : Int64)) := (F322.keep q327_0 (ninS ne283 nin0))
      have F526 : Fld Z T327.heap b160 "com/example/darlington/darlington/core/StateLayout" "firstOf" "[I" (.ref r4_191) := (F323.keep q327_0 (ninS ne277 nin0))
      have F527 : Arv Z T327.heap r4_191 c4_191 .int (3 : Int32) [(.int (vL0 + (0 : Int32))), (.int (vL1 + (0 : Int32))), (.int (vL2 + (0 : Int32)))] (.int (0 : Int32)) := (F324.keep q327_0 (ninS ne285 nin0))
      have F528 : Arv Z T327.heap b230 k230 .long (3 : Int32) [(.long vO0), (.long vO1), (.long vO2)] (.long (0 : Int64)) := (F325.keep q327_0 (ninS ne286 nin0))
      have F530 : Exa Z T327.heap b160 "com/example/darlington/darlington/core/StateLayout" := (F328.keep q327_0)
      obtain ⟨cq529, kq529, q529a, q529b, q529c⟩ := isOf hZ rfl F530
      obtain ⟨_, _, ⟨T529, L529, k529, n529⟩, -, X529, ⟨Lc529, hQ529, l529, y529, z529⟩, st529⟩ := X327.virtualBack hx (y := (⟨"com/example/darlington/darlington/core/StateLayout", "set", "([JII)V"⟩ : MethodName)) (z := (⟨"com/example/darlington/darlington/core/StateLayout", "set", "([JII)V"⟩ : MethodName)) hown (mvT hZ (ow hw 159 rfl)) (mvT hZ (ow hw 160 rfl)) (notFace_of_selects (args := #[]) (mvT hZ (ow hw 162 rfl))) (mvT hZ (ow hw 162 rfl)) (mvT hZ (ow hw 161 rfl)) (by decide) (backOf (W := 0) (rm_set2B l Z a0 hw [] b160 b230 vV r1_191 r2_191 r3_191 r4_191 c1_191 c2_191 c3_191 c4_191 (1 : Int32) ((1 : Int32) + (own_bits vZ0)) (0 : Int32) (own_msk vZ0) (own_msk vZ1) (own_msk vZ2) (vL0 + (0 : Int32)) (vL1 + (0 : Int32)) (vL2 + (0 : Int32)) k230 vO0 vO1 vO2 T327.heap n0 (Nat.le_trans Z0 KC330.1) F520 F521 F522 F523 F524 F525 F526 F527 F528 ge247) hZ (ow hw 163 rfl) (ow hw 88 rfl) (by decide) (by decide)) q529a q529c (g := (mkF m 317 #[Si p1, Si p2, Si p3, Sl q4, S2, Sl q5, S2, Si p6, Si vZ0, Si vZ1, Si vZ2, Si vL0, Si vL1, Si vL2, Si (2 : Int32), Si vZ2, Si vL2, Si vV, Sr b77, Sr b160, Sl vO0, S2, Sl vO1, S2, Sl vO2, S2, Sr b230, Sr b265, Sr b290, Su, Su, Su] [(.int vV), (.int (2 : Int32)), (.ref b230), (.ref b160)])) rfl (by rw [hml]; rfl) (Steps.refl _) (argsL := [(.ref b230), (.int (2 : Int32)), (.int vV)]) (rest := []) (lenOf pd_13 rfl) rfl (by show 2 * 0 + _ ≤ _; exact Nat.le_of_eq rfl) (hb hby at_317) (fun _ _ => ⟨rfl, rfl, (by decide : 13 + 0 ≤ _), (by decide : 45 + 0 ≤ _)⟩)
      dsimp only [Pt.U, Pt.locs, Pt.cells, Pt.slots] at X529 l529 y529 z529 st529 hQ529
      subst y529 z529
      obtain ⟨rfl, Nq529, q529_0, q529_1⟩ := hQ529
      have N531 := Eq.subst (motive := fun L => Fr n0 L) l529.symm (Fr.app N329 Nq529)
      have KC532 : Keep h0 T529.heap [] := KC330.trans q529_0 (allS (Or.inr sz248) all0)
      have F533 : Fld Z T529.heap b160 "com/example/darlington/darlington/core/StateLayout" "wordOf" "[I" (.ref r1_191) := (F520.keep q529_0 (ninS ne242 nin0))
      have F534 : Arv Z T529.heap r1_191 c1_191 .int (3 : Int32) [(.int (0 : Int32)), (.int (0 : Int32)), (.int (1 : Int32))] (.int (0 : Int32)) := (F521.keep q529_0 (ninS ne243 nin0))
      have F535 : Fld Z T529.heap b160 "com/example/darlington/darlington/core/StateLayout" "shiftOf" "[I" (.ref r2_191) := (F522.keep q529_0 (ninS ne242 nin0))
      have F536 : Arv Z T529.heap r2_191 c2_191 .int (3 : Int32) [(.int (1 : Int32)), (.int ((1 : Int32) + (own_bits vZ0))), (.int (0 : Int32))] (.int (0 : Int32)) := (F523.keep q529_0 (ninS ne244 nin0))
      have F537 : Fld Z T529.heap b160 "com/example/darlington/darlington/core/StateLayout" "maskOf" "[J" (.ref r3_191) := (F524.keep q529_0 (ninS ne242 nin0))
      have F538 : Arv Z T529.heap r3_191 c3_191 .long (3 : Int32) [(.long (own_msk vZ0)), (.long (own_msk vZ1)), (.long (own_msk vZ2))] (.long (0 : Int64)) := (F525.keep q529_0 (ninS ne245 nin0))
      have F539 : Fld Z T529.heap b160 "com/example/darlington/darlington/core/StateLayout" "firstOf" "[I" (.ref r4_191) := (F526.keep q529_0 (ninS ne242 nin0))
      have F540 : Arv Z T529.heap r4_191 c4_191 .int (3 : Int32) [(.int (vL0 + (0 : Int32))), (.int (vL1 + (0 : Int32))), (.int (vL2 + (0 : Int32)))] (.int (0 : Int32)) := (F527.keep q529_0 (ninS ne246 nin0))
      have F541 : Arv Z T529.heap b290 k290 .int (3 : Int32) [(.int (0 : Int32)), (.int (0 : Int32)), (.int (0 : Int32))] (.int (0 : Int32)) := ((V290.keep q327_0 (ninS (Ne.symm ne313) nin0)).keep q529_0 (ninS (Ne.symm ne312) nin0))
      have F543 : Exa Z T529.heap b160 "com/example/darlington/darlington/core/StateLayout" := (F530.keep q529_0)
      obtain ⟨cq542, kq542, q542a, q542b, q542c⟩ := isOf hZ rfl F543
      obtain ⟨_, _, ⟨T542, L542, k542, n542⟩, -, X542, ⟨Lc542, hQ542, l542, y542, z542⟩, st542⟩ := X529.virtualBack hx (y := (⟨"com/example/darlington/darlington/core/StateLayout", "unpack", "([JI[I)V"⟩ : MethodName)) (z := (⟨"com/example/darlington/darlington/core/StateLayout", "unpack", "([JI[I)V"⟩ : MethodName)) hown (mvT hZ (ow hw 154 rfl)) (mvT hZ (ow hw 155 rfl)) (notFace_of_selects (args := #[]) (mvT hZ (ow hw 157 rfl))) (mvT hZ (ow hw 157 rfl)) (mvT hZ (ow hw 156 rfl)) (by decide) (backOf (W := 0) (rm_unpB l Z a0 hw [] b160 b230 b290 r1_191 r2_191 r3_191 r4_191 c1_191 c2_191 c3_191 c4_191 (1 : Int32) ((1 : Int32) + (own_bits vZ0)) (0 : Int32) (own_msk vZ0) (own_msk vZ1) (own_msk vZ2) (vL0 + (0 : Int32)) (vL1 + (0 : Int32)) (vL2 + (0 : Int32)) k230 k290 vO0 (own_upd vO1 (0 : Int32) (own_msk vZ2) (vL2 + (0 : Int32)) vV) vO2 (0 : Int32) (0 : Int32) (0 : Int32) T529.heap n0 (Nat.le_trans Z0 KC532.1) F533 F534 F535 F536 F537 F538 F539 F540 q529_1 F541 ge314 ne302 ne312 ne304 ne306 ne308 ne310) hZ (ow hw 158 rfl) (ow hw 88 rfl) (by decide) (by decide)) q542a q542c (g := (mkF m 327 #[Si p1, Si p2, Si p3, Sl q4, S2, Sl q5, S2, Si p6, Si vZ0, Si vZ1, Si vZ2, Si vL0, Si vL1, Si vL2, Si (2 : Int32), Si vZ2, Si vL2, Si vV, Sr b77, Sr b160, Sl vO0, S2, Sl vO1, S2, Sl vO2, S2, Sr b230, Sr b265, Sr b290, Su, Su, Su] [(.ref b290), (.int (0 : Int32)), (.ref b230), (.ref b160)])) rfl (by rw [hml]; rfl) (Steps.refl _) (argsL := [(.ref b230), (.int (0 : Int32)), (.ref b290)]) (rest := []) (lenOf pd_12 rfl) rfl (by show 2 * 0 + _ ≤ _; exact Nat.le_of_eq rfl) (hb hby at_327) (fun _ _ => ⟨rfl, rfl, (by decide : 13 + 0 ≤ _), (by decide : 45 + 0 ≤ _)⟩)
      dsimp only [Pt.U, Pt.locs, Pt.cells, Pt.slots] at X542 l542 y542 z542 st542 hQ542
      subst y542 z542
      obtain ⟨rfl, Nq542, q542_0, q542_1⟩ := hQ542
      have N544 := Eq.subst (motive := fun L => Fr n0 L) l542.symm (Fr.app N531 Nq542)
      have KC545 : Keep h0 T542.heap [] := KC532.trans q542_0 (allS (Or.inr sz315) all0)
      obtain ⟨c546, Arc546, Aqc546, Asc546, Anc546, Ahc546, Agc546⟩ := id q542_1
      have hin547 : ¬ ((2 : Int32) < 0 ∨ c546.slots.size ≤ ((2 : Int32)).toNatClampNeg) := inb_of Asc546 ⟨by decide, by decide⟩
      have hat548 : c546.slots[((2 : Int32)).toNatClampNeg]? = some (.int ((vL2 + (0 : Int32)) + (((((own_upd vO1 (0 : Int32) (own_msk vZ2) (vL2 + (0 : Int32)) vV).toUInt64 >>> ((0 : Int32) &&& 0x3f).toInt64.toUInt64).toInt64) &&& (own_msk vZ2)).toInt32))) := Has.at Ahc546 hin547 rfl
      have hc549 : ((vL2 + (0 : Int32)) + (((((own_upd vO1 (0 : Int32) (own_msk vZ2) (vL2 + (0 : Int32)) vV).toUInt64 >>> ((0 : Int32) &&& 0x3f).toInt64.toUInt64).toInt64) &&& (own_msk vZ2)).toInt32)) = vV := own_y337 (own_fuG G2) G2.2.2.2 B2 hV.1 hV2
      obtain ⟨c550, Arc550, Aqc550, Asc550, Anc550, Ahc550, Agc550⟩ := id q542_1
      have hin551 : ¬ ((0 : Int32) < 0 ∨ c550.slots.size ≤ ((0 : Int32)).toNatClampNeg) := inb_of Asc550 ⟨by decide, by decide⟩
      have hat552 : c550.slots[((0 : Int32)).toNatClampNeg]? = some (.int ((vL0 + (0 : Int32)) + ((((vO0.toUInt64 >>> ((1 : Int32) &&& 0x3f).toInt64.toUInt64).toInt64) &&& (own_msk vZ0)).toInt32))) := Has.at Ahc550 hin551 rfl
      have F553 : Arv Z T542.heap b265 k265 .int (3 : Int32) [(.int ((vL0 + (0 : Int32)) + ((((vO0.toUInt64 >>> ((1 : Int32) &&& 0x3f).toInt64.toUInt64).toInt64) &&& (own_msk vZ0)).toInt32))), (.int ((vL1 + (0 : Int32)) + ((((vO0.toUInt64 >>> (((1 : Int32) + (own_bits vZ0)) &&& 0x3f).toInt64.toUInt64).toInt64) &&& (own_msk vZ1)).toInt32))), (.int ((vL2 + (0 : Int32)) + ((((vO1.toUInt64 >>> ((0 : Int32) &&& 0x3f).toInt64.toUInt64).toInt64) &&& (own_msk vZ2)).toInt32)))] (.int (0 : Int32)) := ((q327_1.keep q529_0 (ninS (Ne.symm ne286) nin0)).keep q542_0 (ninS ne313 nin0))
      obtain ⟨c554, Arc554, Aqc554, Asc554, Anc554, Ahc554, Agc554⟩ := id F553
      have hin555 : ¬ ((0 : Int32) < 0 ∨ c554.slots.size ≤ ((0 : Int32)).toNatClampNeg) := inb_of Asc554 ⟨by decide, by decide⟩
      have hat556 : c554.slots[((0 : Int32)).toNatClampNeg]? = some (.int ((vL0 + (0 : Int32)) + ((((vO0.toUInt64 >>> ((1 : Int32) &&& 0x3f).toInt64.toUInt64).toInt64) &&& (own_msk vZ0)).toInt32))) := Has.at Ahc554 hin555 rfl
      obtain ⟨c557, Arc557, Aqc557, Asc557, Anc557, Ahc557, Agc557⟩ := id q542_1
      have hin558 : ¬ ((1 : Int32) < 0 ∨ c557.slots.size ≤ ((1 : Int32)).toNatClampNeg) := inb_of Asc557 ⟨by decide, by decide⟩
      have hat559 : c557.slots[((1 : Int32)).toNatClampNeg]? = some (.int ((vL1 + (0 : Int32)) + ((((vO0.toUInt64 >>> (((1 : Int32) + (own_bits vZ0)) &&& 0x3f).toInt64.toUInt64).toInt64) &&& (own_msk vZ1)).toInt32))) := Has.at Ahc557 hin558 rfl
      obtain ⟨c560, Arc560, Aqc560, Asc560, Anc560, Ahc560, Agc560⟩ := id F553
      have hin561 : ¬ ((1 : Int32) < 0 ∨ c560.slots.size ≤ ((1 : Int32)).toNatClampNeg) := inb_of Asc560 ⟨by decide, by decide⟩
      have hat562 : c560.slots[((1 : Int32)).toNatClampNeg]? = some (.int ((vL1 + (0 : Int32)) + ((((vO0.toUInt64 >>> (((1 : Int32) + (own_bits vZ0)) &&& 0x3f).toInt64.toUInt64).toInt64) &&& (own_msk vZ1)).toInt32))) := Has.at Ahc560 hin561 rfl
      have pre563 : ∀ t, Steps p.tables e below (T542.setTop (mkF m 427 #[Si p1, Si p2, Si p3, Sl q4, S2, Sl q5, S2, Si p6, Si vZ0, Si vZ1, Si vZ2, Si vL0, Si vL1, Si vL2, Si (2 : Int32), Si vZ2, Si vL2, Si vV, Sr b77, Sr b160, Sl vO0, S2, Sl vO1, S2, Sl vO2, S2, Sr b230, Sr b265, Sr b290, Si (1 : Int32), Su, Su] [])) t → Steps p.tables e below (s₁.setTop (entryFrame m #[(.int p1), (.int p2), (.int p3), (.long q4), (.long q5), (.int p6)] maxLocals)) t := by
        intro t k
        refine pre331 t ?_
        refine XS.aload X327.here hx rfl (hb hby at_309) rfl rfl ?_
        refine XS.aload X327.here hx rfl (hb hby at_311) rfl rfl ?_
        refine XS.iload X327.here hx rfl (hb hby at_313) rfl ?_
        refine XS.iload X327.here hx rfl (hb hby at_315) rfl ?_
        refine st529.trans ?_
        show Steps _ _ _ (T529.setTop (mkF m 320 #[Si p1, Si p2, Si p3, Sl q4, S2, Sl q5, S2, Si p6, Si vZ0, Si vZ1, Si vZ2, Si vL0, Si vL1, Si vL2, Si (2 : Int32), Si vZ2, Si vL2, Si vV, Sr b77, Sr b160, Sl vO0, S2, Sl vO1, S2, Sl vO2, S2, Sr b230, Sr b265, Sr b290, Su, Su, Su] [])) _
        refine XS.aload X529.here hx rfl (hb hby at_320) rfl rfl ?_
        refine XS.aload X529.here hx rfl (hb hby at_322) rfl rfl ?_
        refine XS.iconst X529.here hx rfl (hb hby at_324) ?_
        refine XS.aload X529.here hx rfl (hb hby at_325) rfl rfl ?_
        refine st542.trans ?_
        refine XS.aload X542.here hx rfl (hb hby at_330) rfl rfl ?_
        refine XS.iload X542.here hx rfl (hb hby at_332) rfl ?_
        refine X542.iaload hx (j := (2 : Int32)) (v := (.int ((vL2 + (0 : Int32)) + (((((own_upd vO1 (0 : Int32) (own_msk vZ2) (vL2 + (0 : Int32)) vV).toUInt64 >>> ((0 : Int32) &&& 0x3f).toInt64.toUInt64).toInt64) &&& (own_msk vZ2)).toInt32)))) Arc546.1 (State.isArrayOf_alike hZ.alike Arc546.2.1) Arc546.2.2 hin547 hat548 (g := (mkF m 334 #[Si p1, Si p2, Si p3, Sl q4, S2, Sl q5, S2, Si p6, Si vZ0, Si vZ1, Si vZ2, Si vL0, Si vL1, Si vL2, Si (2 : Int32), Si vZ2, Si vL2, Si vV, Sr b77, Sr b160, Sl vO0, S2, Sl vO1, S2, Sl vO2, S2, Sr b230, Sr b265, Sr b290, Su, Su, Su] [(.int (2 : Int32)), (.ref b290)])) rfl rfl (hb hby at_334) _ ?_
        refine XS.iload X542.here hx rfl (hb hby at_335) rfl ?_
        refine XS.icmpNo X542.here hx rfl (hb hby at_337) rfl (teq hc549).2 ?_
        show Steps _ _ _ (T542.setTop (mkF m 340 #[Si p1, Si p2, Si p3, Sl q4, S2, Sl q5, S2, Si p6, Si vZ0, Si vZ1, Si vZ2, Si vL0, Si vL1, Si vL2, Si (2 : Int32), Si vZ2, Si vL2, Si vV, Sr b77, Sr b160, Sl vO0, S2, Sl vO1, S2, Sl vO2, S2, Sr b230, Sr b265, Sr b290, Su, Su, Su] [])) _
        refine XS.iconst X542.here hx rfl (hb hby at_340) ?_
        refine XS.goto X542.here hx rfl (pc0 := 341) (pc' := 345) rfl (hb hby at_341) (by decide) (by decide) ?_
        refine XS.istore X542.here hx rfl (hb hby at_345) rfl (l' := #[Si p1, Si p2, Si p3, Sl q4, S2, Sl q5, S2, Si p6, Si vZ0, Si vZ1, Si vZ2, Si vL0, Si vL1, Si vL2, Si (2 : Int32), Si vZ2, Si vL2, Si vV, Sr b77, Sr b160, Sl vO0, S2, Sl vO1, S2, Sl vO2, S2, Sr b230, Sr b265, Sr b290, Si (1 : Int32), Su, Su]) rfl ?_
        refine XS.iload X542.here hx rfl (hb hby at_347) rfl ?_
        refine XS.iload X542.here hx rfl (hb hby at_349) rfl ?_
        refine XS.ifNo X542.here hx rfl (hb hby at_351) rfl ((if0 _ _).trans (feq (by decide)).1) ?_
        refine XS.aload X542.here hx rfl (hb hby at_354) rfl rfl ?_
        refine XS.iconst X542.here hx rfl (hb hby at_356) ?_
        refine X542.iaload hx (j := (0 : Int32)) (v := (.int ((vL0 + (0 : Int32)) + ((((vO0.toUInt64 >>> ((1 : Int32) &&& 0x3f).toInt64.toUInt64).toInt64) &&& (own_msk vZ0)).toInt32)))) Arc550.1 (State.isArrayOf_alike hZ.alike Arc550.2.1) Arc550.2.2 hin551 hat552 (g := (mkF m 357 #[Si p1, Si p2, Si p3, Sl q4, S2, Sl q5, S2, Si p6, Si vZ0, Si vZ1, Si vZ2, Si vL0, Si vL1, Si vL2, Si (2 : Int32), Si vZ2, Si vL2, Si vV, Sr b77, Sr b160, Sl vO0, S2, Sl vO1, S2, Sl vO2, S2, Sr b230, Sr b265, Sr b290, Si (1 : Int32), Su, Su] [(.int (0 : Int32)), (.ref b290), (.int (1 : Int32))])) rfl rfl (hb hby at_357) _ ?_
        refine XS.aload X542.here hx rfl (hb hby at_358) rfl rfl ?_
        show Steps _ _ _ (T542.setTop (mkF m 360 #[Si p1, Si p2, Si p3, Sl q4, S2, Sl q5, S2, Si p6, Si vZ0, Si vZ1, Si vZ2, Si vL0, Si vL1, Si vL2, Si (2 : Int32), Si vZ2, Si vL2, Si vV, Sr b77, Sr b160, Sl vO0, S2, Sl vO1, S2, Sl vO2, S2, Sr b230, Sr b265, Sr b290, Si (1 : Int32), Su, Su] [(.ref b265), (.int ((vL0 + (0 : Int32)) + ((((vO0.toUInt64 >>> ((1 : Int32) &&& 0x3f).toInt64.toUInt64).toInt64) &&& (own_msk vZ0)).toInt32))), (.int (1 : Int32))])) _
        refine XS.iconst X542.here hx rfl (hb hby at_360) ?_
        refine X542.iaload hx (j := (0 : Int32)) (v := (.int ((vL0 + (0 : Int32)) + ((((vO0.toUInt64 >>> ((1 : Int32) &&& 0x3f).toInt64.toUInt64).toInt64) &&& (own_msk vZ0)).toInt32)))) Arc554.1 (State.isArrayOf_alike hZ.alike Arc554.2.1) Arc554.2.2 hin555 hat556 (g := (mkF m 361 #[Si p1, Si p2, Si p3, Sl q4, S2, Sl q5, S2, Si p6, Si vZ0, Si vZ1, Si vZ2, Si vL0, Si vL1, Si vL2, Si (2 : Int32), Si vZ2, Si vL2, Si vV, Sr b77, Sr b160, Sl vO0, S2, Sl vO1, S2, Sl vO2, S2, Sr b230, Sr b265, Sr b290, Si (1 : Int32), Su, Su] [(.int (0 : Int32)), (.ref b265), (.int ((vL0 + (0 : Int32)) + ((((vO0.toUInt64 >>> ((1 : Int32) &&& 0x3f).toInt64.toUInt64).toInt64) &&& (own_msk vZ0)).toInt32))), (.int (1 : Int32))])) rfl rfl (hb hby at_361) _ ?_
        refine XS.icmpNo X542.here hx rfl (hb hby at_362) rfl (teq rfl).2 ?_
        refine XS.iconst X542.here hx rfl (hb hby at_365) ?_
        refine XS.goto X542.here hx rfl (pc0 := 366) (pc' := 370) rfl (hb hby at_366) (by decide) (by decide) ?_
        refine XS.iand X542.here hx rfl (hb hby at_370) rfl ?_
        refine XS.istore X542.here hx rfl (hb hby at_371) rfl (l' := #[Si p1, Si p2, Si p3, Sl q4, S2, Sl q5, S2, Si p6, Si vZ0, Si vZ1, Si vZ2, Si vL0, Si vL1, Si vL2, Si (2 : Int32), Si vZ2, Si vL2, Si vV, Sr b77, Sr b160, Sl vO0, S2, Sl vO1, S2, Sl vO2, S2, Sr b230, Sr b265, Sr b290, Si (1 : Int32), Su, Su]) rfl ?_
        refine XS.iload X542.here hx rfl (hb hby at_373) rfl ?_
        refine XS.iload X542.here hx rfl (hb hby at_375) rfl ?_
        refine XS.iconst X542.here hx rfl (hb hby at_377) ?_
        show Steps _ _ _ (T542.setTop (mkF m 378 #[Si p1, Si p2, Si p3, Sl q4, S2, Sl q5, S2, Si p6, Si vZ0, Si vZ1, Si vZ2, Si vL0, Si vL1, Si vL2, Si (2 : Int32), Si vZ2, Si vL2, Si vV, Sr b77, Sr b160, Sl vO0, S2, Sl vO1, S2, Sl vO2, S2, Sr b230, Sr b265, Sr b290, Si (1 : Int32), Su, Su] [(.int (1 : Int32)), (.int (2 : Int32)), (.int (1 : Int32))])) _
        refine XS.icmpNo X542.here hx rfl (hb hby at_378) rfl (feq (by decide)).1 ?_
        refine XS.aload X542.here hx rfl (hb hby at_381) rfl rfl ?_
        refine XS.iconst X542.here hx rfl (hb hby at_383) ?_
        refine X542.iaload hx (j := (1 : Int32)) (v := (.int ((vL1 + (0 : Int32)) + ((((vO0.toUInt64 >>> (((1 : Int32) + (own_bits vZ0)) &&& 0x3f).toInt64.toUInt64).toInt64) &&& (own_msk vZ1)).toInt32)))) Arc557.1 (State.isArrayOf_alike hZ.alike Arc557.2.1) Arc557.2.2 hin558 hat559 (g := (mkF m 384 #[Si p1, Si p2, Si p3, Sl q4, S2, Sl q5, S2, Si p6, Si vZ0, Si vZ1, Si vZ2, Si vL0, Si vL1, Si vL2, Si (2 : Int32), Si vZ2, Si vL2, Si vV, Sr b77, Sr b160, Sl vO0, S2, Sl vO1, S2, Sl vO2, S2, Sr b230, Sr b265, Sr b290, Si (1 : Int32), Su, Su] [(.int (1 : Int32)), (.ref b290), (.int (1 : Int32))])) rfl rfl (hb hby at_384) _ ?_
        refine XS.aload X542.here hx rfl (hb hby at_385) rfl rfl ?_
        refine XS.iconst X542.here hx rfl (hb hby at_387) ?_
        refine X542.iaload hx (j := (1 : Int32)) (v := (.int ((vL1 + (0 : Int32)) + ((((vO0.toUInt64 >>> (((1 : Int32) + (own_bits vZ0)) &&& 0x3f).toInt64.toUInt64).toInt64) &&& (own_msk vZ1)).toInt32)))) Arc560.1 (State.isArrayOf_alike hZ.alike Arc560.2.1) Arc560.2.2 hin561 hat562 (g := (mkF m 388 #[Si p1, Si p2, Si p3, Sl q4, S2, Sl q5, S2, Si p6, Si vZ0, Si vZ1, Si vZ2, Si vL0, Si vL1, Si vL2, Si (2 : Int32), Si vZ2, Si vL2, Si vV, Sr b77, Sr b160, Sl vO0, S2, Sl vO1, S2, Sl vO2, S2, Sr b230, Sr b265, Sr b290, Si (1 : Int32), Su, Su] [(.int (1 : Int32)), (.ref b265), (.int ((vL1 + (0 : Int32)) + ((((vO0.toUInt64 >>> (((1 : Int32) + (own_bits vZ0)) &&& 0x3f).toInt64.toUInt64).toInt64) &&& (own_msk vZ1)).toInt32))), (.int (1 : Int32))])) rfl rfl (hb hby at_388) _ ?_
        refine XS.icmpNo X542.here hx rfl (hb hby at_389) rfl (teq rfl).2 ?_
        refine XS.iconst X542.here hx rfl (hb hby at_392) ?_
        refine XS.goto X542.here hx rfl (pc0 := 393) (pc' := 397) rfl (hb hby at_393) (by decide) (by decide) ?_
        show Steps _ _ _ (T542.setTop (mkF m 397 #[Si p1, Si p2, Si p3, Sl q4, S2, Sl q5, S2, Si p6, Si vZ0, Si vZ1, Si vZ2, Si vL0, Si vL1, Si vL2, Si (2 : Int32), Si vZ2, Si vL2, Si vV, Sr b77, Sr b160, Sl vO0, S2, Sl vO1, S2, Sl vO2, S2, Sr b230, Sr b265, Sr b290, Si (1 : Int32), Su, Su] [(.int (1 : Int32)), (.int (1 : Int32))])) _
        refine XS.iand X542.here hx rfl (hb hby at_397) rfl ?_
        refine XS.istore X542.here hx rfl (hb hby at_398) rfl (l' := #[Si p1, Si p2, Si p3, Sl q4, S2, Sl q5, S2, Si p6, Si vZ0, Si vZ1, Si vZ2, Si vL0, Si vL1, Si vL2, Si (2 : Int32), Si vZ2, Si vL2, Si vV, Sr b77, Sr b160, Sl vO0, S2, Sl vO1, S2, Sl vO2, S2, Sr b230, Sr b265, Sr b290, Si (1 : Int32), Su, Su]) rfl ?_
        refine XS.iload X542.here hx rfl (hb hby at_400) rfl ?_
        refine XS.iload X542.here hx rfl (hb hby at_402) rfl ?_
        refine XS.iconst X542.here hx rfl (hb hby at_404) ?_
        refine XS.icmpYes X542.here hx rfl (pc0 := 405) (pc' := 419) rfl (hb hby at_405) rfl (teq rfl).1 (by decide) (by decide) ?_
        refine XS.iconst X542.here hx rfl (hb hby at_419) ?_
        refine XS.goto X542.here hx rfl (pc0 := 420) (pc' := 424) rfl (hb hby at_420) (by decide) (by decide) ?_
        refine XS.iand X542.here hx rfl (hb hby at_424) rfl ?_
        refine XS.istore X542.here hx rfl (hb hby at_425) rfl (l' := #[Si p1, Si p2, Si p3, Sl q4, S2, Sl q5, S2, Si p6, Si vZ0, Si vZ1, Si vZ2, Si vL0, Si vL1, Si vL2, Si (2 : Int32), Si vZ2, Si vL2, Si vV, Sr b77, Sr b160, Sl vO0, S2, Sl vO1, S2, Sl vO2, S2, Sr b230, Sr b265, Sr b290, Si (1 : Int32), Su, Su]) rfl ?_
        show Steps _ _ _ (T542.setTop (mkF m 427 #[Si p1, Si p2, Si p3, Sl q4, S2, Sl q5, S2, Si p6, Si vZ0, Si vZ1, Si vZ2, Si vL0, Si vL1, Si vL2, Si (2 : Int32), Si vZ2, Si vL2, Si vV, Sr b77, Sr b160, Sl vO0, S2, Sl vO1, S2, Sl vO2, S2, Sr b230, Sr b265, Sr b290, Si (1 : Int32), Su, Su] [])) _
        exact k
      have F564 : Arv Z T542.heap b230 k230 .long (3 : Int32) [(.long vO0), (.long (own_upd vO1 (0 : Int32) (own_msk vZ2) (vL2 + (0 : Int32)) vV)), (.long vO2)] (.long (0 : Int64)) := (q529_1.keep q542_0 (ninS ne312 nin0))
      obtain ⟨c565, Arc565, Aqc565, Asc565, Anc565, Ahc565, Agc565⟩ := id F564
      have hin566 : ¬ ((0 : Int32) < 0 ∨ c565.slots.size ≤ ((0 : Int32)).toNatClampNeg) := inb_of Asc565 ⟨by decide, by decide⟩
      have hat567 : c565.slots[((0 : Int32)).toNatClampNeg]? = some (.long vO0) := Has.at Ahc565 hin566 rfl
      have hc568 : (vO0 &&& (1 : Int64)) = (1 : Int64) := by rw [hvO0]; exact own_low0 q5
      obtain ⟨c569, Arc569, Aqc569, Asc569, Anc569, Ahc569, Agc569⟩ := id F564
      have hin570 : ¬ ((2 : Int32) < 0 ∨ c569.slots.size ≤ ((2 : Int32)).toNatClampNeg) := inb_of Asc569 ⟨by decide, by decide⟩
      have hat571 : c569.slots[((2 : Int32)).toNatClampNeg]? = some (.long vO2) := Has.at Ahc569 hin570 rfl
      obtain ⟨c572, Arc572, Aqc572, Asc572, Anc572, Ahc572, Agc572⟩ := id F564
      have hin573 : ¬ ((0 : Int32) < 0 ∨ c572.slots.size ≤ ((0 : Int32)).toNatClampNeg) := inb_of Asc572 ⟨by decide, by decide⟩
      have hat574 : c572.slots[((0 : Int32)).toNatClampNeg]? = some (.long vO0) := Has.at Ahc572 hin573 rfl
      obtain ⟨c575, Arc575, Aqc575, Asc575, Anc575, Ahc575, Agc575⟩ := id F553
      have hin576 : ¬ ((2 : Int32) < 0 ∨ c575.slots.size ≤ ((2 : Int32)).toNatClampNeg) := inb_of Asc575 ⟨by decide, by decide⟩
      have hat577 : c575.slots[((2 : Int32)).toNatClampNeg]? = some (.int ((vL2 + (0 : Int32)) + ((((vO1.toUInt64 >>> ((0 : Int32) &&& 0x3f).toInt64.toUInt64).toInt64) &&& (own_msk vZ2)).toInt32))) := Has.at Ahc575 hin576 rfl
      have pre578 : ∀ t, Steps p.tables e below (T542.setTop (mkF m 514 #[Si p1, Si p2, Si p3, Sl q4, S2, Sl q5, S2, Si p6, Si vZ0, Si vZ1, Si vZ2, Si vL0, Si vL1, Si vL2, Si (2 : Int32), Si vZ2, Si vL2, Si vV, Sr b77, Sr b160, Sl vO0, S2, Sl vO1, S2, Sl vO2, S2, Sr b230, Sr b265, Sr b290, Si (1 : Int32), Sl ((((vL2 + (0 : Int32)) + ((((vO1.toUInt64 >>> ((0 : Int32) &&& 0x3f).toInt64.toUInt64).toInt64) &&& (own_msk vZ2)).toInt32)).toInt64) - (vL2.toInt64)), S2] [(.int (lcmpW ((((vL2 + (0 : Int32)) + ((((vO1.toUInt64 >>> ((0 : Int32) &&& 0x3f).toInt64.toUInt64).toInt64) &&& (own_msk vZ2)).toInt32)).toInt64) - (vL2.toInt64)) (0 : Int64)))])) t → Steps p.tables e below (s₁.setTop (entryFrame m #[(.int p1), (.int p2), (.int p3), (.long q4), (.long q5), (.int p6)] maxLocals)) t := by
        intro t k
        refine pre563 t ?_
        refine XS.iload X542.here hx rfl (hb hby at_427) rfl ?_
        refine XS.aload X542.here hx rfl (hb hby at_429) rfl rfl ?_
        refine XS.iconst X542.here hx rfl (hb hby at_431) ?_
        refine X542.laload hx (j := (0 : Int32)) (v := (.long vO0)) Arc565.1 (State.isArrayOf_alike hZ.alike Arc565.2.1) Arc565.2.2 hin566 hat567 (g := (mkF m 432 #[Si p1, Si p2, Si p3, Sl q4, S2, Sl q5, S2, Si p6, Si vZ0, Si vZ1, Si vZ2, Si vL0, Si vL1, Si vL2, Si (2 : Int32), Si vZ2, Si vL2, Si vV, Sr b77, Sr b160, Sl vO0, S2, Sl vO1, S2, Sl vO2, S2, Sr b230, Sr b265, Sr b290, Si (1 : Int32), Su, Su] [(.int (0 : Int32)), (.ref b230), (.int (1 : Int32))])) rfl rfl (hb hby at_432) _ ?_
        refine XS.lconst X542.here hx rfl (hb hby at_433) ?_
        refine XS.land X542.here hx rfl (hb hby at_434) rfl ?_
        refine XS.lconst X542.here hx rfl (hb hby at_435) ?_
        refine XS.lcmp X542.here hx rfl (hb hby at_436) rfl ?_
        refine XS.ifNo X542.here hx rfl (hb hby at_437) rfl ((if0 _ _).trans (teq ((lw_eq _ _).mpr hc568)).2) ?_
        refine XS.iconst X542.here hx rfl (hb hby at_440) ?_
        show Steps _ _ _ (T542.setTop (mkF m 441 #[Si p1, Si p2, Si p3, Sl q4, S2, Sl q5, S2, Si p6, Si vZ0, Si vZ1, Si vZ2, Si vL0, Si vL1, Si vL2, Si (2 : Int32), Si vZ2, Si vL2, Si vV, Sr b77, Sr b160, Sl vO0, S2, Sl vO1, S2, Sl vO2, S2, Sr b230, Sr b265, Sr b290, Si (1 : Int32), Su, Su] [(.int (1 : Int32)), (.int (1 : Int32))])) _
        refine XS.goto X542.here hx rfl (pc0 := 441) (pc' := 445) rfl (hb hby at_441) (by decide) (by decide) ?_
        refine XS.iand X542.here hx rfl (hb hby at_445) rfl ?_
        refine XS.istore X542.here hx rfl (hb hby at_446) rfl (l' := #[Si p1, Si p2, Si p3, Sl q4, S2, Sl q5, S2, Si p6, Si vZ0, Si vZ1, Si vZ2, Si vL0, Si vL1, Si vL2, Si (2 : Int32), Si vZ2, Si vL2, Si vV, Sr b77, Sr b160, Sl vO0, S2, Sl vO1, S2, Sl vO2, S2, Sr b230, Sr b265, Sr b290, Si (1 : Int32), Su, Su]) rfl ?_
        refine XS.iload X542.here hx rfl (hb hby at_448) rfl ?_
        refine XS.aload X542.here hx rfl (hb hby at_450) rfl rfl ?_
        refine XS.iconst X542.here hx rfl (hb hby at_452) ?_
        refine X542.laload hx (j := (2 : Int32)) (v := (.long vO2)) Arc569.1 (State.isArrayOf_alike hZ.alike Arc569.2.1) Arc569.2.2 hin570 hat571 (g := (mkF m 453 #[Si p1, Si p2, Si p3, Sl q4, S2, Sl q5, S2, Si p6, Si vZ0, Si vZ1, Si vZ2, Si vL0, Si vL1, Si vL2, Si (2 : Int32), Si vZ2, Si vL2, Si vV, Sr b77, Sr b160, Sl vO0, S2, Sl vO1, S2, Sl vO2, S2, Sr b230, Sr b265, Sr b290, Si (1 : Int32), Su, Su] [(.int (2 : Int32)), (.ref b230), (.int (1 : Int32))])) rfl rfl (hb hby at_453) _ ?_
        refine XS.lload X542.here hx rfl (hb hby at_454) rfl ?_
        refine XS.lcmp X542.here hx rfl (hb hby at_456) rfl ?_
        refine XS.ifNo X542.here hx rfl (hb hby at_457) rfl ((if0 _ _).trans (teq ((lw_eq _ _).mpr rfl)).2) ?_
        show Steps _ _ _ (T542.setTop (mkF m 460 #[Si p1, Si p2, Si p3, Sl q4, S2, Sl q5, S2, Si p6, Si vZ0, Si vZ1, Si vZ2, Si vL0, Si vL1, Si vL2, Si (2 : Int32), Si vZ2, Si vL2, Si vV, Sr b77, Sr b160, Sl vO0, S2, Sl vO1, S2, Sl vO2, S2, Sr b230, Sr b265, Sr b290, Si (1 : Int32), Su, Su] [(.int (1 : Int32))])) _
        refine XS.iconst X542.here hx rfl (hb hby at_460) ?_
        refine XS.goto X542.here hx rfl (pc0 := 461) (pc' := 465) rfl (hb hby at_461) (by decide) (by decide) ?_
        refine XS.iand X542.here hx rfl (hb hby at_465) rfl ?_
        refine XS.istore X542.here hx rfl (hb hby at_466) rfl (l' := #[Si p1, Si p2, Si p3, Sl q4, S2, Sl q5, S2, Si p6, Si vZ0, Si vZ1, Si vZ2, Si vL0, Si vL1, Si vL2, Si (2 : Int32), Si vZ2, Si vL2, Si vV, Sr b77, Sr b160, Sl vO0, S2, Sl vO1, S2, Sl vO2, S2, Sr b230, Sr b265, Sr b290, Si (1 : Int32), Su, Su]) rfl ?_
        refine XS.iload X542.here hx rfl (hb hby at_468) rfl ?_
        refine XS.aload X542.here hx rfl (hb hby at_470) rfl rfl ?_
        refine XS.iconst X542.here hx rfl (hb hby at_472) ?_
        refine X542.laload hx (j := (0 : Int32)) (v := (.long vO0)) Arc572.1 (State.isArrayOf_alike hZ.alike Arc572.2.1) Arc572.2.2 hin573 hat574 (g := (mkF m 473 #[Si p1, Si p2, Si p3, Sl q4, S2, Sl q5, S2, Si p6, Si vZ0, Si vZ1, Si vZ2, Si vL0, Si vL1, Si vL2, Si (2 : Int32), Si vZ2, Si vL2, Si vV, Sr b77, Sr b160, Sl vO0, S2, Sl vO1, S2, Sl vO2, S2, Sr b230, Sr b265, Sr b290, Si (1 : Int32), Su, Su] [(.int (0 : Int32)), (.ref b230), (.int (1 : Int32))])) rfl rfl (hb hby at_473) _ ?_
        refine XS.lload X542.here hx rfl (hb hby at_474) rfl ?_
        refine XS.lcmp X542.here hx rfl (hb hby at_476) rfl ?_
        show Steps _ _ _ (T542.setTop (mkF m 477 #[Si p1, Si p2, Si p3, Sl q4, S2, Sl q5, S2, Si p6, Si vZ0, Si vZ1, Si vZ2, Si vL0, Si vL1, Si vL2, Si (2 : Int32), Si vZ2, Si vL2, Si vV, Sr b77, Sr b160, Sl vO0, S2, Sl vO1, S2, Sl vO2, S2, Sr b230, Sr b265, Sr b290, Si (1 : Int32), Su, Su] [(.int (lcmpW vO0 vO0)), (.int (1 : Int32))])) _
        refine XS.ifYes X542.here hx rfl (pc0 := 477) (pc' := 490) rfl (hb hby at_477) rfl ((if0 _ _).trans (teq ((lw_eq _ _).mpr rfl)).1) (by decide) (by decide) ?_
        refine XS.iconst X542.here hx rfl (hb hby at_490) ?_
        refine XS.goto X542.here hx rfl (pc0 := 491) (pc' := 495) rfl (hb hby at_491) (by decide) (by decide) ?_
        refine XS.iand X542.here hx rfl (hb hby at_495) rfl ?_
        refine XS.istore X542.here hx rfl (hb hby at_496) rfl (l' := #[Si p1, Si p2, Si p3, Sl q4, S2, Sl q5, S2, Si p6, Si vZ0, Si vZ1, Si vZ2, Si vL0, Si vL1, Si vL2, Si (2 : Int32), Si vZ2, Si vL2, Si vV, Sr b77, Sr b160, Sl vO0, S2, Sl vO1, S2, Sl vO2, S2, Sr b230, Sr b265, Sr b290, Si (1 : Int32), Su, Su]) rfl ?_
        refine XS.aload X542.here hx rfl (hb hby at_498) rfl rfl ?_
        refine XS.iload X542.here hx rfl (hb hby at_500) rfl ?_
        refine X542.iaload hx (j := (2 : Int32)) (v := (.int ((vL2 + (0 : Int32)) + ((((vO1.toUInt64 >>> ((0 : Int32) &&& 0x3f).toInt64.toUInt64).toInt64) &&& (own_msk vZ2)).toInt32)))) Arc575.1 (State.isArrayOf_alike hZ.alike Arc575.2.1) Arc575.2.2 hin576 hat577 (g := (mkF m 502 #[Si p1, Si p2, Si p3, Sl q4, S2, Sl q5, S2, Si p6, Si vZ0, Si vZ1, Si vZ2, Si vL0, Si vL1, Si vL2, Si (2 : Int32), Si vZ2, Si vL2, Si vV, Sr b77, Sr b160, Sl vO0, S2, Sl vO1, S2, Sl vO2, S2, Sr b230, Sr b265, Sr b290, Si (1 : Int32), Su, Su] [(.int (2 : Int32)), (.ref b265)])) rfl rfl (hb hby at_502) _ ?_
        refine XS.i2l X542.here hx rfl (hb hby at_503) rfl ?_
        refine XS.iload X542.here hx rfl (hb hby at_504) rfl ?_
        show Steps _ _ _ (T542.setTop (mkF m 506 #[Si p1, Si p2, Si p3, Sl q4, S2, Sl q5, S2, Si p6, Si vZ0, Si vZ1, Si vZ2, Si vL0, Si vL1, Si vL2, Si (2 : Int32), Si vZ2, Si vL2, Si vV, Sr b77, Sr b160, Sl vO0, S2, Sl vO1, S2, Sl vO2, S2, Sr b230, Sr b265, Sr b290, Si (1 : Int32), Su, Su] [(.int vL2), (.long (((vL2 + (0 : Int32)) + ((((vO1.toUInt64 >>> ((0 : Int32) &&& 0x3f).toInt64.toUInt64).toInt64) &&& (own_msk vZ2)).toInt32)).toInt64))])) _
        refine XS.i2l X542.here hx rfl (hb hby at_506) rfl ?_
        refine XS.lsub X542.here hx rfl (hb hby at_507) rfl ?_
        refine XS.lstore X542.here hx rfl (hb hby at_508) rfl (l' := #[Si p1, Si p2, Si p3, Sl q4, S2, Sl q5, S2, Si p6, Si vZ0, Si vZ1, Si vZ2, Si vL0, Si vL1, Si vL2, Si (2 : Int32), Si vZ2, Si vL2, Si vV, Sr b77, Sr b160, Sl vO0, S2, Sl vO1, S2, Sl vO2, S2, Sr b230, Sr b265, Sr b290, Si (1 : Int32), Sl ((((vL2 + (0 : Int32)) + ((((vO1.toUInt64 >>> ((0 : Int32) &&& 0x3f).toInt64.toUInt64).toInt64) &&& (own_msk vZ2)).toInt32)).toInt64) - (vL2.toInt64)), S2]) rfl ?_
        refine XS.lload X542.here hx rfl (hb hby at_510) rfl ?_
        refine XS.lconst X542.here hx rfl (hb hby at_512) ?_
        refine XS.lcmp X542.here hx rfl (hb hby at_513) rfl ?_
        exact k
      by_cases hd0 : ((((vL2 + (0 : Int32)) + ((((vO1.toUInt64 >>> ((0 : Int32) &&& 0x3f).toInt64.toUInt64).toInt64) &&& (own_msk vZ2)).toInt32)).toInt64) - (vL2.toInt64)) < (0 : Int64)
      · have pre579 : ∀ t, Steps p.tables e below (T542.setTop (mkF m 582 #[Si p1, Si p2, Si p3, Sl q4, S2, Sl q5, S2, Si p6, Si vZ0, Si vZ1, Si vZ2, Si vL0, Si vL1, Si vL2, Si (2 : Int32), Si vZ2, Si vL2, Si vV, Sr b77, Sr b160, Sl vO0, S2, Sl vO1, S2, Sl vO2, S2, Sr b230, Sr b265, Sr b290, Si (1 : Int32), Sl ((((vL2 + (0 : Int32)) + ((((vO1.toUInt64 >>> ((0 : Int32) &&& 0x3f).toInt64.toUInt64).toInt64) &&& (own_msk vZ2)).toInt32)).toInt64) - (vL2.toInt64)), S2] [(.int (1 : Int32))])) t → Steps p.tables e below (s₁.setTop (entryFrame m #[(.int p1), (.int p2), (.int p3), (.long q4), (.long q5), (.int p6)] maxLocals)) t := by
          intro t k
          refine pre578 t ?_
          refine XS.ifYes X542.here hx rfl (pc0 := 514) (pc' := 580) rfl (hb hby at_514) rfl ((if0 _ _).trans (tlt ((lw_lt _ _).mpr hd0)).1) (by decide) (by decide) ?_
          refine XS.iload X542.here hx rfl (hb hby at_580) rfl ?_
          exact k
        obtain ⟨fs, hr, hrun, hended, hW, hsame⟩ := X542.leave (v := some (.int (1 : Int32))) (fun h => by rw [Bd.returns] at h; cases h)
        refine ⟨_, _, pre579 _ ?_, hrun, hended, _, _, rfl, ?_, ⟨_, rfl⟩, hW, hsame.mono (by decide) (by decide)⟩
        · exact retN X542 hx (t := .boolean) Bd.returns (by simp) (hb hby at_582) hr
        · show Q_rm0 Z p1 p2 p3 q4 q5 p6 wE kE h0 n0 _ T542.heap _
          exact ⟨rfl, N544, KC545⟩
      · have pre580 : ∀ t, Steps p.tables e below (T542.setTop (mkF m 523 #[Si p1, Si p2, Si p3, Sl q4, S2, Sl q5, S2, Si p6, Si vZ0, Si vZ1, Si vZ2, Si vL0, Si vL1, Si vL2, Si (2 : Int32), Si vZ2, Si vL2, Si vV, Sr b77, Sr b160, Sl vO0, S2, Sl vO1, S2, Sl vO2, S2, Sr b230, Sr b265, Sr b290, Si (1 : Int32), Sl ((((vL2 + (0 : Int32)) + ((((vO1.toUInt64 >>> ((0 : Int32) &&& 0x3f).toInt64.toUInt64).toInt64) &&& (own_msk vZ2)).toInt32)).toInt64) - (vL2.toInt64)), S2] [(.int (lcmpW ((((vL2 + (0 : Int32)) + ((((vO1.toUInt64 >>> ((0 : Int32) &&& 0x3f).toInt64.toUInt64).toInt64) &&& (own_msk vZ2)).toInt32)).toInt64) - (vL2.toInt64)) (vZ2.toInt64)))])) t → Steps p.tables e below (s₁.setTop (entryFrame m #[(.int p1), (.int p2), (.int p3), (.long q4), (.long q5), (.int p6)] maxLocals)) t := by
          intro t k
          refine pre578 t ?_
          refine XS.ifNo X542.here hx rfl (hb hby at_514) rfl ((if0 _ _).trans (flt (fun z => hd0 ((lw_lt _ _).mp z))).1) ?_
          refine XS.lload X542.here hx rfl (hb hby at_517) rfl ?_
          refine XS.iload X542.here hx rfl (hb hby at_519) rfl ?_
          refine XS.i2l X542.here hx rfl (hb hby at_521) rfl ?_
          show Steps _ _ _ (T542.setTop (mkF m 522 #[Si p1, Si p2, Si p3, Sl q4, S2, Sl q5, S2, Si p6, Si vZ0, Si vZ1, Si vZ2, Si vL0, Si vL1, Si vL2, Si (2 : Int32), Si vZ2, Si vL2, Si vV, Sr b77, Sr b160, Sl vO0, S2, Sl vO1, S2, Sl vO2, S2, Sr b230, Sr b265, Sr b290, Si (1 : Int32), Sl ((((vL2 + (0 : Int32)) + ((((vO1.toUInt64 >>> ((0 : Int32) &&& 0x3f).toInt64.toUInt64).toInt64) &&& (own_msk vZ2)).toInt32)).toInt64) - (vL2.toInt64)), S2] [(.long (vZ2.toInt64)), (.long ((((vL2 + (0 : Int32)) + ((((vO1.toUInt64 >>> ((0 : Int32) &&& 0x3f).toInt64.toUInt64).toInt64) &&& (own_msk vZ2)).toInt32)).toInt64) - (vL2.toInt64)))])) _
          refine XS.lcmp X542.here hx rfl (hb hby at_522) rfl ?_
          exact k
        by_cases hd1 : ((((vL2 + (0 : Int32)) + ((((vO1.toUInt64 >>> ((0 : Int32) &&& 0x3f).toInt64.toUInt64).toInt64) &&& (own_msk vZ2)).toInt32)).toInt64) - (vL2.toInt64)) < (vZ2.toInt64)
        · obtain ⟨c581, Arc581, Aqc581, Asc581, Anc581, Ahc581, Agc581⟩ := id F553
          have hin582 : ¬ ((2 : Int32) < 0 ∨ c581.slots.size ≤ ((2 : Int32)).toNatClampNeg) := inb_of Asc581 ⟨by decide, by decide⟩
          have hat583 : c581.slots[((2 : Int32)).toNatClampNeg]? = some (.int ((vL2 + (0 : Int32)) + ((((vO1.toUInt64 >>> ((0 : Int32) &&& 0x3f).toInt64.toUInt64).toInt64) &&& (own_msk vZ2)).toInt32))) := Has.at Ahc581 hin582 rfl
          have F584 : Fld Z T542.heap b160 "com/example/darlington/darlington/core/StateLayout" "wordOf" "[I" (.ref r1_191) := (F533.keep q542_0 (ninS ne302 nin0))
          have F585 : Arv Z T542.heap r1_191 c1_191 .int (3 : Int32) [(.int (0 : Int32)), (.int (0 : Int32)), (.int (1 : Int32))] (.int (0 : Int32)) := (F534.keep q542_0 (ninS ne304 nin0))
          have F586 : Fld Z T542.heap b160 "com/example/darlington/darlington/core/StateLayout" "shiftOf" "[I" (.ref r2_191) := (F535.keep q542_0 (ninS ne302 nin0))
          have F587 : Arv Z T542.heap r2_191 c2_191 .int (3 : Int32) [(.int (1 : Int32)), (.int ((1 : Int32) + (own_bits vZ0))), (.int (0 : Int32))] (.int (0 : Int32)) := (F536.keep q542_0 (ninS ne306 nin0))
          have F588 : Fld Z T542.heap b160 "com/example/darlington/darlington/core/StateLayout" "maskOf" "[J" (.ref r3_191) := (F537.keep q542_0 (ninS ne302 nin0))
          have F589 : Arv Z T542.heap r3_191 c3_191 .long (3 : Int32) [(.long (own_msk vZ0)), (.long (own_msk vZ1)), (.long (own_msk vZ2))] (.long (0 : Int64)) := (F538.keep q542_0 (ninS ne308 nin0))
          have F590 : Fld Z T542.heap b160 "com/example/darlington/darlington/core/StateLayout" "firstOf" "[I" (.ref r4_191) := (F539.keep q542_0 (ninS ne302 nin0))
          have F591 : Arv Z T542.heap r4_191 c4_191 .int (3 : Int32) [(.int (vL0 + (0 : Int32))), (.int (vL1 + (0 : Int32))), (.int (vL2 + (0 : Int32)))] (.int (0 : Int32)) := (F540.keep q542_0 (ninS ne310 nin0))
          have F593 : Exa Z T542.heap b160 "com/example/darlington/darlington/core/StateLayout" := (F543.keep q542_0)
          obtain ⟨cq592, kq592, q592a, q592b, q592c⟩ := isOf hZ rfl F593
          obtain ⟨_, _, ⟨T592, L592, k592, n592⟩, -, X592, ⟨Lc592, hQ592, l592, y592, z592⟩, st592⟩ := X542.virtualBack hx (y := (⟨"com/example/darlington/darlington/core/StateLayout", "set", "([JII)V"⟩ : MethodName)) (z := (⟨"com/example/darlington/darlington/core/StateLayout", "set", "([JII)V"⟩ : MethodName)) hown (mvT hZ (ow hw 159 rfl)) (mvT hZ (ow hw 160 rfl)) (notFace_of_selects (args := #[]) (mvT hZ (ow hw 162 rfl))) (mvT hZ (ow hw 162 rfl)) (mvT hZ (ow hw 161 rfl)) (by decide) (backOf (W := 0) (rm_set2B l Z a0 hw [] b160 b230 ((vL2 + (0 : Int32)) + ((((vO1.toUInt64 >>> ((0 : Int32) &&& 0x3f).toInt64.toUInt64).toInt64) &&& (own_msk vZ2)).toInt32)) r1_191 r2_191 r3_191 r4_191 c1_191 c2_191 c3_191 c4_191 (1 : Int32) ((1 : Int32) + (own_bits vZ0)) (0 : Int32) (own_msk vZ0) (own_msk vZ1) (own_msk vZ2) (vL0 + (0 : Int32)) (vL1 + (0 : Int32)) (vL2 + (0 : Int32)) k230 vO0 (own_upd vO1 (0 : Int32) (own_msk vZ2) (vL2 + (0 : Int32)) vV) vO2 T542.heap n0 (Nat.le_trans Z0 KC545.1) F584 F585 F586 F587 F588 F589 F590 F591 F564 ge247) hZ (ow hw 163 rfl) (ow hw 88 rfl) (by decide) (by decide)) q592a q592c (g := (mkF m 537 #[Si p1, Si p2, Si p3, Sl q4, S2, Sl q5, S2, Si p6, Si vZ0, Si vZ1, Si vZ2, Si vL0, Si vL1, Si vL2, Si (2 : Int32), Si vZ2, Si vL2, Si vV, Sr b77, Sr b160, Sl vO0, S2, Sl vO1, S2, Sl vO2, S2, Sr b230, Sr b265, Sr b290, Si (1 : Int32), Sl ((((vL2 + (0 : Int32)) + ((((vO1.toUInt64 >>> ((0 : Int32) &&& 0x3f).toInt64.toUInt64).toInt64) &&& (own_msk vZ2)).toInt32)).toInt64) - (vL2.toInt64)), S2] [(.int ((vL2 + (0 : Int32)) + ((((vO1.toUInt64 >>> ((0 : Int32) &&& 0x3f).toInt64.toUInt64).toInt64) &&& (own_msk vZ2)).toInt32))), (.int (2 : Int32)), (.ref b230), (.ref b160)])) rfl (by rw [hml]; rfl) (Steps.refl _) (argsL := [(.ref b230), (.int (2 : Int32)), (.int ((vL2 + (0 : Int32)) + ((((vO1.toUInt64 >>> ((0 : Int32) &&& 0x3f).toInt64.toUInt64).toInt64) &&& (own_msk vZ2)).toInt32)))]) (rest := []) (lenOf pd_13 rfl) rfl (by show 2 * 0 + _ ≤ _; exact Nat.le_of_eq rfl) (hb hby at_537) (fun _ _ => ⟨rfl, rfl, (by decide : 13 + 0 ≤ _), (by decide : 45 + 0 ≤ _)⟩)
          dsimp only [Pt.U, Pt.locs, Pt.cells, Pt.slots] at X592 l592 y592 z592 st592 hQ592
          subst y592 z592
          obtain ⟨rfl, Nq592, q592_0, q592_1⟩ := hQ592
          have N594 := Eq.subst (motive := fun L => Fr n0 L) l592.symm (Fr.app N544 Nq592)
          have KC595 : Keep h0 T592.heap [] := KC545.trans q592_0 (allS (Or.inr sz248) all0)
          obtain ⟨c596, Arc596, Aqc596, Asc596, Anc596, Ahc596, Agc596⟩ := id q592_1
          have hin597 : ¬ ((0 : Int32) < 0 ∨ c596.slots.size ≤ ((0 : Int32)).toNatClampNeg) := inb_of Asc596 ⟨by decide, by decide⟩
          have hat598 : c596.slots[((0 : Int32)).toNatClampNeg]? = some (.long vO0) := Has.at Ahc596 hin597 rfl
          obtain ⟨c599, Arc599, Aqc599, Asc599, Anc599, Ahc599, Agc599⟩ := id q592_1
          have hin600 : ¬ ((1 : Int32) < 0 ∨ c599.slots.size ≤ ((1 : Int32)).toNatClampNeg) := inb_of Asc599 ⟨by decide, by decide⟩
          have hat601 : c599.slots[((1 : Int32)).toNatClampNeg]? = some (.long (own_upd (own_upd vO1 (0 : Int32) (own_msk vZ2) (vL2 + (0 : Int32)) vV) (0 : Int32) (own_msk vZ2) (vL2 + (0 : Int32)) ((vL2 + (0 : Int32)) + ((((vO1.toUInt64 >>> ((0 : Int32) &&& 0x3f).toInt64.toUInt64).toInt64) &&& (own_msk vZ2)).toInt32)))) := Has.at Ahc599 hin600 rfl
          have hc602 : (own_upd (own_upd vO1 (0 : Int32) (own_msk vZ2) (vL2 + (0 : Int32)) vV) (0 : Int32) (own_msk vZ2) (vL2 + (0 : Int32)) ((vL2 + (0 : Int32)) + ((((vO1.toUInt64 >>> ((0 : Int32) &&& 0x3f).toInt64.toUInt64).toInt64) &&& (own_msk vZ2)).toInt32))) = vO1 := own_uuG G2 (own_back G2.2.2.2 B2 _ (own_fldB G2.2.2.2 B2).1 (own_fldB G2.2.2.2 B2).2 hd0)
          obtain ⟨c603, Arc603, Aqc603, Asc603, Anc603, Ahc603, Agc603⟩ := id q592_1
          have hin604 : ¬ ((2 : Int32) < 0 ∨ c603.slots.size ≤ ((2 : Int32)).toNatClampNeg) := inb_of Asc603 ⟨by decide, by decide⟩
          have hat605 : c603.slots[((2 : Int32)).toNatClampNeg]? = some (.long vO2) := Has.at Ahc603 hin604 rfl
          have pre606 : ∀ t, Steps p.tables e below (T592.setTop (mkF m 582 #[Si p1, Si p2, Si p3, Sl q4, S2, Sl q5, S2, Si p6, Si vZ0, Si vZ1, Si vZ2, Si vL0, Si vL1, Si vL2, Si (2 : Int32), Si vZ2, Si vL2, Si vV, Sr b77, Sr b160, Sl vO0, S2, Sl vO1, S2, Sl vO2, S2, Sr b230, Sr b265, Sr b290, Si (1 : Int32), Sl ((((vL2 + (0 : Int32)) + ((((vO1.toUInt64 >>> ((0 : Int32) &&& 0x3f).toInt64.toUInt64).toInt64) &&& (own_msk vZ2)).toInt32)).toInt64) - (vL2.toInt64)), S2] [(.int (1 : Int32))])) t → Steps p.tables e below (s₁.setTop (entryFrame m #[(.int p1), (.int p2), (.int p3), (.long q4), (.long q5), (.int p6)] maxLocals)) t := by
            intro t k
            refine pre580 t ?_
            refine XS.ifNo X542.here hx rfl (hb hby at_523) rfl ((if0 _ _).trans (tlt ((lw_lt _ _).mpr hd1)).2.1) ?_
            refine XS.aload X542.here hx rfl (hb hby at_526) rfl rfl ?_
            refine XS.aload X542.here hx rfl (hb hby at_528) rfl rfl ?_
            refine XS.iload X542.here hx rfl (hb hby at_530) rfl ?_
            refine XS.aload X542.here hx rfl (hb hby at_532) rfl rfl ?_
            refine XS.iload X542.here hx rfl (hb hby at_534) rfl ?_
            refine X542.iaload hx (j := (2 : Int32)) (v := (.int ((vL2 + (0 : Int32)) + ((((vO1.toUInt64 >>> ((0 : Int32) &&& 0x3f).toInt64.toUInt64).toInt64) &&& (own_msk vZ2)).toInt32)))) Arc581.1 (State.isArrayOf_alike hZ.alike Arc581.2.1) Arc581.2.2 hin582 hat583 (g := (mkF m 536 #[Si p1, Si p2, Si p3, Sl q4, S2, Sl q5, S2, Si p6, Si vZ0, Si vZ1, Si vZ2, Si vL0, Si vL1, Si vL2, Si (2 : Int32), Si vZ2, Si vL2, Si vV, Sr b77, Sr b160, Sl vO0, S2, Sl vO1, S2, Sl vO2, S2, Sr b230, Sr b265, Sr b290, Si (1 : Int32), Sl ((((vL2 + (0 : Int32)) + ((((vO1.toUInt64 >>> ((0 : Int32) &&& 0x3f).toInt64.toUInt64).toInt64) &&& (own_msk vZ2)).toInt32)).toInt64) - (vL2.toInt64)), S2] [(.int (2 : Int32)), (.ref b265), (.int (2 : Int32)), (.ref b230), (.ref b160)])) rfl rfl (hb hby at_536) _ ?_
            refine st592.trans ?_
            refine XS.iload X592.here hx rfl (hb hby at_540) rfl ?_
            show Steps _ _ _ (T592.setTop (mkF m 542 #[Si p1, Si p2, Si p3, Sl q4, S2, Sl q5, S2, Si p6, Si vZ0, Si vZ1, Si vZ2, Si vL0, Si vL1, Si vL2, Si (2 : Int32), Si vZ2, Si vL2, Si vV, Sr b77, Sr b160, Sl vO0, S2, Sl vO1, S2, Sl vO2, S2, Sr b230, Sr b265, Sr b290, Si (1 : Int32), Sl ((((vL2 + (0 : Int32)) + ((((vO1.toUInt64 >>> ((0 : Int32) &&& 0x3f).toInt64.toUInt64).toInt64) &&& (own_msk vZ2)).toInt32)).toInt64) - (vL2.toInt64)), S2] [(.int (1 : Int32))])) _
            refine XS.aload X592.here hx rfl (hb hby at_542) rfl rfl ?_
            refine XS.iconst X592.here hx rfl (hb hby at_544) ?_
            refine X592.laload hx (j := (0 : Int32)) (v := (.long vO0)) Arc596.1 (State.isArrayOf_alike hZ.alike Arc596.2.1) Arc596.2.2 hin597 hat598 (g := (mkF m 545 #[Si p1, Si p2, Si p3, Sl q4, S2, Sl q5, S2, Si p6, Si vZ0, Si vZ1, Si vZ2, Si vL0, Si vL1, Si vL2, Si (2 : Int32), Si vZ2, Si vL2, Si vV, Sr b77, Sr b160, Sl vO0, S2, Sl vO1, S2, Sl vO2, S2, Sr b230, Sr b265, Sr b290, Si (1 : Int32), Sl ((((vL2 + (0 : Int32)) + ((((vO1.toUInt64 >>> ((0 : Int32) &&& 0x3f).toInt64.toUInt64).toInt64) &&& (own_msk vZ2)).toInt32)).toInt64) - (vL2.toInt64)), S2] [(.int (0 : Int32)), (.ref b230), (.int (1 : Int32))])) rfl rfl (hb hby at_545) _ ?_
            refine XS.lload X592.here hx rfl (hb hby at_546) rfl ?_
            refine XS.lcmp X592.here hx rfl (hb hby at_548) rfl ?_
            refine XS.ifNo X592.here hx rfl (hb hby at_549) rfl ((if0 _ _).trans (teq ((lw_eq _ _).mpr rfl)).2) ?_
            refine XS.aload X592.here hx rfl (hb hby at_552) rfl rfl ?_
            refine XS.iconst X592.here hx rfl (hb hby at_554) ?_
            refine X592.laload hx (j := (1 : Int32)) (v := (.long (own_upd (own_upd vO1 (0 : Int32) (own_msk vZ2) (vL2 + (0 : Int32)) vV) (0 : Int32) (own_msk vZ2) (vL2 + (0 : Int32)) ((vL2 + (0 : Int32)) + ((((vO1.toUInt64 >>> ((0 : Int32) &&& 0x3f).toInt64.toUInt64).toInt64) &&& (own_msk vZ2)).toInt32))))) Arc599.1 (State.isArrayOf_alike hZ.alike Arc599.2.1) Arc599.2.2 hin600 hat601 (g := (mkF m 555 #[Si p1, Si p2, Si p3, Sl q4, S2, Sl q5, S2, Si p6, Si vZ0, Si vZ1, Si vZ2, Si vL0, Si vL1, Si vL2, Si (2 : Int32), Si vZ2, Si vL2, Si vV, Sr b77, Sr b160, Sl vO0, S2, Sl vO1, S2, Sl vO2, S2, Sr b230, Sr b265, Sr b290, Si (1 : Int32), Sl ((((vL2 + (0 : Int32)) + ((((vO1.toUInt64 >>> ((0 : Int32) &&& 0x3f).toInt64.toUInt64).toInt64) &&& (own_msk vZ2)).toInt32)).toInt64) - (vL2.toInt64)), S2] [(.int (1 : Int32)), (.ref b230), (.int (1 : Int32))])) rfl rfl (hb hby at_555) _ ?_
            refine XS.lload X592.here hx rfl (hb hby at_556) rfl ?_
            show Steps _ _ _ (T592.setTop (mkF m 558 #[Si p1, Si p2, Si p3, Sl q4, S2, Sl q5, S2, Si p6, Si vZ0, Si vZ1, Si vZ2, Si vL0, Si vL1, Si vL2, Si (2 : Int32), Si vZ2, Si vL2, Si vV, Sr b77, Sr b160, Sl vO0, S2, Sl vO1, S2, Sl vO2, S2, Sr b230, Sr b265, Sr b290, Si (1 : Int32), Sl ((((vL2 + (0 : Int32)) + ((((vO1.toUInt64 >>> ((0 : Int32) &&& 0x3f).toInt64.toUInt64).toInt64) &&& (own_msk vZ2)).toInt32)).toInt64) - (vL2.toInt64)), S2] [(.long vO1), (.long (own_upd (own_upd vO1 (0 : Int32) (own_msk vZ2) (vL2 + (0 : Int32)) vV) (0 : Int32) (own_msk vZ2) (vL2 + (0 : Int32)) ((vL2 + (0 : Int32)) + ((((vO1.toUInt64 >>> ((0 : Int32) &&& 0x3f).toInt64.toUInt64).toInt64) &&& (own_msk vZ2)).toInt32)))), (.int (1 : Int32))])) _
            refine XS.lcmp X592.here hx rfl (hb hby at_558) rfl ?_
            refine XS.ifNo X592.here hx rfl (hb hby at_559) rfl ((if0 _ _).trans (teq ((lw_eq _ _).mpr hc602)).2) ?_
            refine XS.aload X592.here hx rfl (hb hby at_562) rfl rfl ?_
            refine XS.iconst X592.here hx rfl (hb hby at_564) ?_
            refine X592.laload hx (j := (2 : Int32)) (v := (.long vO2)) Arc603.1 (State.isArrayOf_alike hZ.alike Arc603.2.1) Arc603.2.2 hin604 hat605 (g := (mkF m 565 #[Si p1, Si p2, Si p3, Sl q4, S2, Sl q5, S2, Si p6, Si vZ0, Si vZ1, Si vZ2, Si vL0, Si vL1, Si vL2, Si (2 : Int32), Si vZ2, Si vL2, Si vV, Sr b77, Sr b160, Sl vO0, S2, Sl vO1, S2, Sl vO2, S2, Sr b230, Sr b265, Sr b290, Si (1 : Int32), Sl ((((vL2 + (0 : Int32)) + ((((vO1.toUInt64 >>> ((0 : Int32) &&& 0x3f).toInt64.toUInt64).toInt64) &&& (own_msk vZ2)).toInt32)).toInt64) - (vL2.toInt64)), S2] [(.int (2 : Int32)), (.ref b230), (.int (1 : Int32))])) rfl rfl (hb hby at_565) _ ?_
            refine XS.lload X592.here hx rfl (hb hby at_566) rfl ?_
            refine XS.lcmp X592.here hx rfl (hb hby at_568) rfl ?_
            refine XS.ifNo X592.here hx rfl (hb hby at_569) rfl ((if0 _ _).trans (teq ((lw_eq _ _).mpr rfl)).2) ?_
            refine XS.iconst X592.here hx rfl (hb hby at_572) ?_
            refine XS.goto X592.here hx rfl (pc0 := 573) (pc' := 577) rfl (hb hby at_573) (by decide) (by decide) ?_
            show Steps _ _ _ (T592.setTop (mkF m 577 #[Si p1, Si p2, Si p3, Sl q4, S2, Sl q5, S2, Si p6, Si vZ0, Si vZ1, Si vZ2, Si vL0, Si vL1, Si vL2, Si (2 : Int32), Si vZ2, Si vL2, Si vV, Sr b77, Sr b160, Sl vO0, S2, Sl vO1, S2, Sl vO2, S2, Sr b230, Sr b265, Sr b290, Si (1 : Int32), Sl ((((vL2 + (0 : Int32)) + ((((vO1.toUInt64 >>> ((0 : Int32) &&& 0x3f).toInt64.toUInt64).toInt64) &&& (own_msk vZ2)).toInt32)).toInt64) - (vL2.toInt64)), S2] [(.int (1 : Int32)), (.int (1 : Int32))])) _
            refine XS.iand X592.here hx rfl (hb hby at_577) rfl ?_
            refine XS.istore X592.here hx rfl (hb hby at_578) rfl (l' := #[Si p1, Si p2, Si p3, Sl q4, S2, Sl q5, S2, Si p6, Si vZ0, Si vZ1, Si vZ2, Si vL0, Si vL1, Si vL2, Si (2 : Int32), Si vZ2, Si vL2, Si vV, Sr b77, Sr b160, Sl vO0, S2, Sl vO1, S2, Sl vO2, S2, Sr b230, Sr b265, Sr b290, Si (1 : Int32), Sl ((((vL2 + (0 : Int32)) + ((((vO1.toUInt64 >>> ((0 : Int32) &&& 0x3f).toInt64.toUInt64).toInt64) &&& (own_msk vZ2)).toInt32)).toInt64) - (vL2.toInt64)), S2]) rfl ?_
            refine XS.iload X592.here hx rfl (hb hby at_580) rfl ?_
            exact k
          obtain ⟨fs, hr, hrun, hended, hW, hsame⟩ := X592.leave (v := some (.int (1 : Int32))) (fun h => by rw [Bd.returns] at h; cases h)
          refine ⟨_, _, pre606 _ ?_, hrun, hended, _, _, rfl, ?_, ⟨_, rfl⟩, hW, hsame.mono (by decide) (by decide)⟩
          · exact retN X592 hx (t := .boolean) Bd.returns (by simp) (hb hby at_582) hr
          · show Q_rm0 Z p1 p2 p3 q4 q5 p6 wE kE h0 n0 _ T592.heap _
            exact ⟨rfl, N594, KC595⟩
        · have pre607 : ∀ t, Steps p.tables e below (T542.setTop (mkF m 582 #[Si p1, Si p2, Si p3, Sl q4, S2, Sl q5, S2, Si p6, Si vZ0, Si vZ1, Si vZ2, Si vL0, Si vL1, Si vL2, Si (2 : Int32), Si vZ2, Si vL2, Si vV, Sr b77, Sr b160, Sl vO0, S2, Sl vO1, S2, Sl vO2, S2, Sr b230, Sr b265, Sr b290, Si (1 : Int32), Sl ((((vL2 + (0 : Int32)) + ((((vO1.toUInt64 >>> ((0 : Int32) &&& 0x3f).toInt64.toUInt64).toInt64) &&& (own_msk vZ2)).toInt32)).toInt64) - (vL2.toInt64)), S2] [(.int (1 : Int32))])) t → Steps p.tables e below (s₁.setTop (entryFrame m #[(.int p1), (.int p2), (.int p3), (.long q4), (.long q5), (.int p6)] maxLocals)) t := by
            intro t k
            refine pre580 t ?_
            refine XS.ifYes X542.here hx rfl (pc0 := 523) (pc' := 580) rfl (hb hby at_523) rfl ((if0 _ _).trans (flt (fun z => hd1 ((lw_lt _ _).mp z))).2.1) (by decide) (by decide) ?_
            refine XS.iload X542.here hx rfl (hb hby at_580) rfl ?_
            exact k
          obtain ⟨fs, hr, hrun, hended, hW, hsame⟩ := X542.leave (v := some (.int (1 : Int32))) (fun h => by rw [Bd.returns] at h; cases h)
          refine ⟨_, _, pre607 _ ?_, hrun, hended, _, _, rfl, ?_, ⟨_, rfl⟩, hW, hsame.mono (by decide) (by decide)⟩
          · exact retN X542 hx (t := .boolean) Bd.returns (by simp) (hb hby at_582) hr
          · show Q_rm0 Z p1 p2 p3 q4 q5 p6 wE kE h0 n0 _ T542.heap _
            exact ⟨rfl, N544, KC545⟩
  · have hw2 : own_w2 vZ0 vZ1 vZ2 = (0 : Int32) := if_neg hAB
    have hs2 : own_s2 vZ0 vZ1 vZ2 = (((1 : Int32) + (own_bits vZ0)) + (own_bits vZ1)) := if_neg hAB
    rw [hw2] at q191_2
    rw [hs2] at q191_5
    have pre608 : ∀ t, Steps p.tables e below (T191.setTop (mkF m 253 #[Si p1, Si p2, Si p3, Sl q4, S2, Sl q5, S2, Si p6, Si vZ0, Si vZ1, Si vZ2, Si vL0, Si vL1, Si vL2, Si vI, Si vSz, Si vLo, Si vV, Sr b77, Sr b160, Sl (q5 ||| (1 : Int64)), S2, Su, Su, Su, Su, Su, Su, Su, Su, Su, Su] [])) t → Steps p.tables e below (s₁.setTop (entryFrame m #[(.int p1), (.int p2), (.int p3), (.long q4), (.long q5), (.int p6)] maxLocals)) t := by
      intro t k
      refine pre226 t ?_
      refine XS.lload X191.here hx rfl (hb hby at_247) rfl ?_
      refine XS.lconst X191.here hx rfl (hb hby at_249) ?_
      refine XS.lor X191.here hx rfl (hb hby at_250) rfl ?_
      show Steps _ _ _ (T191.setTop (mkF m 251 #[Si p1, Si p2, Si p3, Sl q4, S2, Sl q5, S2, Si p6, Si vZ0, Si vZ1, Si vZ2, Si vL0, Si vL1, Si vL2, Si vI, Si vSz, Si vLo, Si vV, Sr b77, Sr b160, Su, Su, Su, Su, Su, Su, Su, Su, Su, Su, Su, Su] [(.long (q5 ||| (1 : Int64)))])) _
      refine XS.lstore X191.here hx rfl (hb hby at_251) rfl (l' := #[Si p1, Si p2, Si p3, Sl q4, S2, Sl q5, S2, Si p6, Si vZ0, Si vZ1, Si vZ2, Si vL0, Si vL1, Si vL2, Si vI, Si vSz, Si vLo, Si vV, Sr b77, Sr b160, Sl (q5 ||| (1 : Int64)), S2, Su, Su, Su, Su, Su, Su, Su, Su, Su, Su]) rfl ?_
      exact k
    obtain ⟨vO0, hvO0⟩ : ∃ z : Int64, z = (q5 ||| (1 : Int64)) := ⟨_, rfl⟩
    rw [← hvO0] at pre608
    have pre609 : ∀ t, Steps p.tables e below (T191.setTop (mkF m 261 #[Si p1, Si p2, Si p3, Sl q4, S2, Sl q5, S2, Si p6, Si vZ0, Si vZ1, Si vZ2, Si vL0, Si vL1, Si vL2, Si vI, Si vSz, Si vLo, Si vV, Sr b77, Sr b160, Sl vO0, S2, Sl (q5 * (-7046029254386353131 : Int64)), S2, Su, Su, Su, Su, Su, Su, Su, Su] [])) t → Steps p.tables e below (s₁.setTop (entryFrame m #[(.int p1), (.int p2), (.int p3), (.long q4), (.long q5), (.int p6)] maxLocals)) t := by
      intro t k
      refine pre608 t ?_
      refine XS.lload X191.here hx rfl (hb hby at_253) rfl ?_
      refine X191.ldc2Long hx hown (mvT hZ (ow hw 152 rfl)) (g := (mkF m 255 #[Si p1, Si p2, Si p3, Sl q4, S2, Sl q5, S2, Si p6, Si vZ0, Si vZ1, Si vZ2, Si vL0, Si vL1, Si vL2, Si vI, Si vSz, Si vLo, Si vV, Sr b77, Sr b160, Sl vO0, S2, Su, Su, Su, Su, Su, Su, Su, Su, Su, Su] [(.long q5)])) rfl (hb hby at_255) _ ?_
      refine XS.lmul X191.here hx rfl (hb hby at_258) rfl ?_
      refine XS.lstore X191.here hx rfl (hb hby at_259) rfl (l' := #[Si p1, Si p2, Si p3, Sl q4, S2, Sl q5, S2, Si p6, Si vZ0, Si vZ1, Si vZ2, Si vL0, Si vL1, Si vL2, Si vI, Si vSz, Si vLo, Si vV, Sr b77, Sr b160, Sl vO0, S2, Sl (q5 * (-7046029254386353131 : Int64)), S2, Su, Su, Su, Su, Su, Su, Su, Su]) rfl ?_
      exact k
    obtain ⟨vO1, hvO1⟩ : ∃ z : Int64, z = (q5 * (-7046029254386353131 : Int64)) := ⟨_, rfl⟩
    rw [← hvO1] at pre609
    have pre610 : ∀ t, Steps p.tables e below (T191.setTop (mkF m 269 #[Si p1, Si p2, Si p3, Sl q4, S2, Sl q5, S2, Si p6, Si vZ0, Si vZ1, Si vZ2, Si vL0, Si vL1, Si vL2, Si vI, Si vSz, Si vLo, Si vV, Sr b77, Sr b160, Sl vO0, S2, Sl vO1, S2, Sl (q5 ^^^ (-1 : Int64)), S2, Su, Su, Su, Su, Su, Su] [])) t → Steps p.tables e below (s₁.setTop (entryFrame m #[(.int p1), (.int p2), (.int p3), (.long q4), (.long q5), (.int p6)] maxLocals)) t := by
      intro t k
      refine pre609 t ?_
      refine XS.lload X191.here hx rfl (hb hby at_261) rfl ?_
      refine X191.ldc2Long hx hown (mvT hZ (ow hw 153 rfl)) (g := (mkF m 263 #[Si p1, Si p2, Si p3, Sl q4, S2, Sl q5, S2, Si p6, Si vZ0, Si vZ1, Si vZ2, Si vL0, Si vL1, Si vL2, Si vI, Si vSz, Si vLo, Si vV, Sr b77, Sr b160, Sl vO0, S2, Sl vO1, S2, Su, Su, Su, Su, Su, Su, Su, Su] [(.long q5)])) rfl (hb hby at_263) _ ?_
      refine XS.lxor X191.here hx rfl (hb hby at_266) rfl ?_
      refine XS.lstore X191.here hx rfl (hb hby at_267) rfl (l' := #[Si p1, Si p2, Si p3, Sl q4, S2, Sl q5, S2, Si p6, Si vZ0, Si vZ1, Si vZ2, Si vL0, Si vL1, Si vL2, Si vI, Si vSz, Si vLo, Si vV, Sr b77, Sr b160, Sl vO0, S2, Sl vO1, S2, Sl (q5 ^^^ (-1 : Int64)), S2, Su, Su, Su, Su, Su, Su]) rfl ?_
      exact k
    obtain ⟨vO2, hvO2⟩ : ∃ z : Int64, z = (q5 ^^^ (-1 : Int64)) := ⟨_, rfl⟩
    rw [← hvO2] at pre610
    obtain ⟨T611, h611, k611, X611, e611, E611, A611, st611⟩ := newP X191 hx hZ (ow hw 106 rfl) rfl (g := (mkF m 270 #[Si p1, Si p2, Si p3, Sl q4, S2, Sl q5, S2, Si p6, Si vZ0, Si vZ1, Si vZ2, Si vL0, Si vL1, Si vL2, Si vI, Si vSz, Si vLo, Si vV, Sr b77, Sr b160, Sl vO0, S2, Sl vO1, S2, Sl vO2, S2, Su, Su, Su, Su, Su, Su] [(.int (3 : Int32))])) rfl (hb hby at_270) rfl (by decide) (cap := 3) (by decide) (by decide) (by decide) (by decide)
    obtain ⟨b611, g611⟩ : ∃ z, z = T191.heap.size := ⟨_, rfl⟩
    rw [← g611] at A611 st611
    have F612 : Exa Z T191.heap b77 "java/util/ArrayList" := (F178.keep q191_0)
    have ne613 : b77 ≠ b611 := Nat.ne_of_lt (Nat.lt_of_lt_of_le F612.lt (Nat.le_of_eq g611.symm))
    have F614 : Exa Z T191.heap b88 "com/example/darlington/darlington/core/IntegerRange" := (F182.keep q191_0)
    have ne615 : b88 ≠ b611 := Nat.ne_of_lt (Nat.lt_of_lt_of_le F614.lt (Nat.le_of_eq g611.symm))
    have F616 : Arv Z T191.heap r_105 kr_105 (.object "java/lang/Object") (10 : Int32) [(.ref b88), (.ref b112), (.ref b135), .null, .null, .null, .null, .null, .null, .null] .null := (F181.keep q191_0 (ninS ne165 nin0))
    have ne617 : r_105 ≠ b611 := Nat.ne_of_lt (Nat.lt_of_lt_of_le F616.lt (Nat.le_of_eq g611.symm))
    have F618 : Exa Z T191.heap b112 "com/example/darlington/darlington/core/IntegerRange" := (F185.keep q191_0)
    have ne619 : b112 ≠ b611 := Nat.ne_of_lt (Nat.lt_of_lt_of_le F618.lt (Nat.le_of_eq g611.symm))
    have F620 : Exa Z T191.heap b135 "com/example/darlington/darlington/core/IntegerRange" := (F188.keep q191_0)
    have ne621 : b135 ≠ b611 := Nat.ne_of_lt (Nat.lt_of_lt_of_le F620.lt (Nat.le_of_eq g611.symm))
    have F622 : Exa Z T191.heap b160 "com/example/darlington/darlington/core/StateLayout" := (A160.keep q191_0)
    have ne623 : b160 ≠ b611 := Nat.ne_of_lt (Nat.lt_of_lt_of_le F622.lt (Nat.le_of_eq g611.symm))
    have ne624 : r1_191 ≠ b611 := Nat.ne_of_lt (Nat.lt_of_lt_of_le q191_2.lt (Nat.le_of_eq g611.symm))
    have ne625 : r2_191 ≠ b611 := Nat.ne_of_lt (Nat.lt_of_lt_of_le q191_5.lt (Nat.le_of_eq g611.symm))
    have ne626 : r3_191 ≠ b611 := Nat.ne_of_lt (Nat.lt_of_lt_of_le q191_8.lt (Nat.le_of_eq g611.symm))
    have ne627 : r4_191 ≠ b611 := Nat.ne_of_lt (Nat.lt_of_lt_of_le q191_11.lt (Nat.le_of_eq g611.symm))
    have ge628 : n0 ≤ b611 := Nat.le_trans (Nat.le_trans Z0 KC225.1) (Nat.le_of_eq g611.symm)
    have sz629 : h0.size ≤ b611 := Nat.le_trans KC225.1 (Nat.le_of_eq g611.symm)
    have KC630 : Keep h0 h611 [] := KC225.ext E611
    have V611 : Arv Z h611 b611 k611 .long (3 : Int32) [(.long (0 : Int64)), (.long (0 : Int64)), (.long (0 : Int64))] (.long (0 : Int64)) := (Arv.new A611 (by decide)).pad (pad_rep [] (.long (0 : Int64)) 3)
    obtain ⟨c631, Arc631, Aqc631, Asc631, Anc631, Ahc631, Agc631⟩ := id V611
    have hin632 : ¬ ((0 : Int32) < 0 ∨ c631.slots.size ≤ ((0 : Int32)).toNatClampNeg) := inb_of Asc631 ⟨by decide, by decide⟩
    obtain ⟨T633, h633, X633, e633, W633, st633⟩ := stJ X611 hx hZ e611 Arc631 (j := (0 : Int32)) hin632 (g := (mkF m 276 #[Si p1, Si p2, Si p3, Sl q4, S2, Sl q5, S2, Si p6, Si vZ0, Si vZ1, Si vZ2, Si vL0, Si vL1, Si vL2, Si vI, Si vSz, Si vLo, Si vV, Sr b77, Sr b160, Sl vO0, S2, Sl vO1, S2, Sl vO2, S2, Su, Su, Su, Su, Su, Su] [(.long vO0), (.int (0 : Int32)), (.ref b611), (.ref b611)])) rfl rfl (hb hby at_276)
    have KC634 : Keep h0 h633 [] := KC630.wr W633 (Or.inr sz629)
    have V633 : Arv Z h633 b611 k611 .long (3 : Int32) [(.long vO0), (.long (0 : Int64)), (.long (0 : Int64))] (.long (0 : Int64)) := Arv.set Arc631 Aqc631 Asc631 Anc631 Ahc631 Agc631 rfl W633 0 rfl (Nat.le_of_ble_eq_true rfl)
    have N635 := Fr.snoc X633 N192 ge628
    obtain ⟨c636, Arc636, Aqc636, Asc636, Anc636, Ahc636, Agc636⟩ := id V633
    have hin637 : ¬ ((1 : Int32) < 0 ∨ c636.slots.size ≤ ((1 : Int32)).toNatClampNeg) := inb_of Asc636 ⟨by decide, by decide⟩
    obtain ⟨T638, h638, X638, e638, W638, st638⟩ := stJ X633 hx hZ e633 Arc636 (j := (1 : Int32)) hin637 (g := (mkF m 281 #[Si p1, Si p2, Si p3, Sl q4, S2, Sl q5, S2, Si p6, Si vZ0, Si vZ1, Si vZ2, Si vL0, Si vL1, Si vL2, Si vI, Si vSz, Si vLo, Si vV, Sr b77, Sr b160, Sl vO0, S2, Sl vO1, S2, Sl vO2, S2, Su, Su, Su, Su, Su, Su] [(.long vO1), (.int (1 : Int32)), (.ref b611), (.ref b611)])) rfl rfl (hb hby at_281)
    have KC639 : Keep h0 h638 [] := KC634.wr W638 (Or.inr sz629)
    have V638 : Arv Z h638 b611 k611 .long (3 : Int32) [(.long vO0), (.long vO1), (.long (0 : Int64))] (.long (0 : Int64)) := Arv.set Arc636 Aqc636 Asc636 Anc636 Ahc636 Agc636 rfl W638 1 rfl (Nat.le_of_ble_eq_true rfl)
    have N640 := Fr.snoc X638 N635 ge628
    obtain ⟨c641, Arc641, Aqc641, Asc641, Anc641, Ahc641, Agc641⟩ := id V638
    have hin642 : ¬ ((2 : Int32) < 0 ∨ c641.slots.size ≤ ((2 : Int32)).toNatClampNeg) := inb_of Asc641 ⟨by decide, by decide⟩
    obtain ⟨T643, h643, X643, e643, W643, st643⟩ := stJ X638 hx hZ e638 Arc641 (j := (2 : Int32)) hin642 (g := (mkF m 286 #[Si p1, Si p2, Si p3, Sl q4, S2, Sl q5, S2, Si p6, Si vZ0, Si vZ1, Si vZ2, Si vL0, Si vL1, Si vL2, Si vI, Si vSz, Si vLo, Si vV, Sr b77, Sr b160, Sl vO0, S2, Sl vO1, S2, Sl vO2, S2, Su, Su, Su, Su, Su, Su] [(.long vO2), (.int (2 : Int32)), (.ref b611), (.ref b611)])) rfl rfl (hb hby at_286)
    have KC644 : Keep h0 h643 [] := KC639.wr W643 (Or.inr sz629)
    have V643 : Arv Z h643 b611 k611 .long (3 : Int32) [(.long vO0), (.long vO1), (.long vO2)] (.long (0 : Int64)) := Arv.set Arc641 Aqc641 Asc641 Anc641 Ahc641 Agc641 rfl W643 2 rfl (Nat.le_of_ble_eq_true rfl)
    have N645 := Fr.snoc X643 N640 ge628
    obtain ⟨T646, h646, k646, X646, e646, E646, A646, st646⟩ := newP X643 hx hZ (ow hw 101 rfl) e643 (g := (mkF m 290 #[Si p1, Si p2, Si p3, Sl q4, S2, Sl q5, S2, Si p6, Si vZ0, Si vZ1, Si vZ2, Si vL0, Si vL1, Si vL2, Si vI, Si vSz, Si vLo, Si vV, Sr b77, Sr b160, Sl vO0, S2, Sl vO1, S2, Sl vO2, S2, Sr b611, Su, Su, Su, Su, Su] [(.int (3 : Int32))])) rfl (hb hby at_290) rfl (by decide) (cap := 3) (by decide) (by decide) (by decide) (by decide)
    obtain ⟨b646, g646⟩ : ∃ z, z = h643.size := ⟨_, rfl⟩
    rw [← g646] at A646 st646
    have F647 : Exa Z h643 b77 "java/util/ArrayList" := ((((F612.ext E611).wr W633).wr W638).wr W643)
    have ne648 : b77 ≠ b646 := Nat.ne_of_lt (Nat.lt_of_lt_of_le F647.lt (Nat.le_of_eq g646.symm))
    have F649 : Exa Z h643 b88 "com/example/darlington/darlington/core/IntegerRange" := ((((F614.ext E611).wr W633).wr W638).wr W643)
    have ne650 : b88 ≠ b646 := Nat.ne_of_lt (Nat.lt_of_lt_of_le F649.lt (Nat.le_of_eq g646.symm))
    have F651 : Arv Z h643 r_105 kr_105 (.object "java/lang/Object") (10 : Int32) [(.ref b88), (.ref b112), (.ref b135), .null, .null, .null, .null, .null, .null, .null] .null := ((((F616.ext E611).other W633 ne617).other W638 ne617).other W643 ne617)
    have ne652 : r_105 ≠ b646 := Nat.ne_of_lt (Nat.lt_of_lt_of_le F651.lt (Nat.le_of_eq g646.symm))
    have F653 : Exa Z h643 b112 "com/example/darlington/darlington/core/IntegerRange" := ((((F618.ext E611).wr W633).wr W638).wr W643)
    have ne654 : b112 ≠ b646 := Nat.ne_of_lt (Nat.lt_of_lt_of_le F653.lt (Nat.le_of_eq g646.symm))
    have F655 : Exa Z h643 b135 "com/example/darlington/darlington/core/IntegerRange" := ((((F620.ext E611).wr W633).wr W638).wr W643)
    have ne656 : b135 ≠ b646 := Nat.ne_of_lt (Nat.lt_of_lt_of_le F655.lt (Nat.le_of_eq g646.symm))
    have F657 : Exa Z h643 b160 "com/example/darlington/darlington/core/StateLayout" := ((((F622.ext E611).wr W633).wr W638).wr W643)
    have ne658 : b160 ≠ b646 := Nat.ne_of_lt (Nat.lt_of_lt_of_le F657.lt (Nat.le_of_eq g646.symm))
    have F659 : Arv Z h643 r1_191 c1_191 .int (3 : Int32) [(.int (0 : Int32)), (.int (0 : Int32)), (.int (0 : Int32))] (.int (0 : Int32)) := ((((q191_2.ext E611).other W633 ne624).other W638 ne624).other W643 ne624)
    have ne660 : r1_191 ≠ b646 := Nat.ne_of_lt (Nat.lt_of_lt_of_le F659.lt (Nat.le_of_eq g646.symm))
    have F661 : Arv Z h643 r2_191 c2_191 .int (3 : Int32) [(.int (1 : Int32)), (.int ((1 : Int32) + (own_bits vZ0))), (.int (((1 : Int32) + (own_bits vZ0)) + (own_bits vZ1)))] (.int (0 : Int32)) := ((((q191_5.ext E611).other W633 ne625).other W638 ne625).other W643 ne625)
    have ne662 : r2_191 ≠ b646 := Nat.ne_of_lt (Nat.lt_of_lt_of_le F661.lt (Nat.le_of_eq g646.symm))
    have F663 : Arv Z h643 r3_191 c3_191 .long (3 : Int32) [(.long (own_msk vZ0)), (.long (own_msk vZ1)), (.long (own_msk vZ2))] (.long (0 : Int64)) := ((((q191_8.ext E611).other W633 ne626).other W638 ne626).other W643 ne626)
    have ne664 : r3_191 ≠ b646 := Nat.ne_of_lt (Nat.lt_of_lt_of_le F663.lt (Nat.le_of_eq g646.symm))
    have F665 : Arv Z h643 r4_191 c4_191 .int (3 : Int32) [(.int (vL0 + (0 : Int32))), (.int (vL1 + (0 : Int32))), (.int (vL2 + (0 : Int32)))] (.int (0 : Int32)) := ((((q191_11.ext E611).other W633 ne627).other W638 ne627).other W643 ne627)
    have ne666 : r4_191 ≠ b646 := Nat.ne_of_lt (Nat.lt_of_lt_of_le F665.lt (Nat.le_of_eq g646.symm))
    have ne667 : b611 ≠ b646 := Nat.ne_of_lt (Nat.lt_of_lt_of_le V643.lt (Nat.le_of_eq g646.symm))
    have ge668 : n0 ≤ b646 := Nat.le_trans (Nat.le_trans Z0 KC644.1) (Nat.le_of_eq g646.symm)
    have sz669 : h0.size ≤ b646 := Nat.le_trans KC644.1 (Nat.le_of_eq g646.symm)
    have KC670 : Keep h0 h646 [] := KC644.ext E646
    have V646 : Arv Z h646 b646 k646 .int (3 : Int32) [(.int (0 : Int32)), (.int (0 : Int32)), (.int (0 : Int32))] (.int (0 : Int32)) := (Arv.new A646 (by decide)).pad (pad_rep [] (.int (0 : Int32)) 3)
    obtain ⟨T671, h671, k671, X671, e671, E671, A671, st671⟩ := newP X646 hx hZ (ow hw 101 rfl) e646 (g := (mkF m 295 #[Si p1, Si p2, Si p3, Sl q4, S2, Sl q5, S2, Si p6, Si vZ0, Si vZ1, Si vZ2, Si vL0, Si vL1, Si vL2, Si vI, Si vSz, Si vLo, Si vV, Sr b77, Sr b160, Sl vO0, S2, Sl vO1, S2, Sl vO2, S2, Sr b611, Sr b646, Su, Su, Su, Su] [(.int (3 : Int32))])) rfl (hb hby at_295) rfl (by decide) (cap := 3) (by decide) (by decide) (by decide) (by decide)
    obtain ⟨b671, g671⟩ : ∃ z, z = h646.size := ⟨_, rfl⟩
    rw [← g671] at A671 st671
    have F672 : Exa Z h646 b77 "java/util/ArrayList" := (F647.ext E646)
    have ne673 : b77 ≠ b671 := Nat.ne_of_lt (Nat.lt_of_lt_of_le F672.lt (Nat.le_of_eq g671.symm))
    have F674 : Exa Z h646 b88 "com/example/darlington/darlington/core/IntegerRange" := (F649.ext E646)
    have ne675 : b88 ≠ b671 := Nat.ne_of_lt (Nat.lt_of_lt_of_le F674.lt (Nat.le_of_eq g671.symm))
    have F676 : Arv Z h646 r_105 kr_105 (.object "java/lang/Object") (10 : Int32) [(.ref b88), (.ref b112), (.ref b135), .null, .null, .null, .null, .null, .null, .null] .null := (F651.ext E646)
    have ne677 : r_105 ≠ b671 := Nat.ne_of_lt (Nat.lt_of_lt_of_le F676.lt (Nat.le_of_eq g671.symm))
    have F678 : Exa Z h646 b112 "com/example/darlington/darlington/core/IntegerRange" := (F653.ext E646)
    have ne679 : b112 ≠ b671 := Nat.ne_of_lt (Nat.lt_of_lt_of_le F678.lt (Nat.le_of_eq g671.symm))
    have F680 : Exa Z h646 b135 "com/example/darlington/darlington/core/IntegerRange" := (F655.ext E646)
    have ne681 : b135 ≠ b671 := Nat.ne_of_lt (Nat.lt_of_lt_of_le F680.lt (Nat.le_of_eq g671.symm))
    have F682 : Exa Z h646 b160 "com/example/darlington/darlington/core/StateLayout" := (F657.ext E646)
    have ne683 : b160 ≠ b671 := Nat.ne_of_lt (Nat.lt_of_lt_of_le F682.lt (Nat.le_of_eq g671.symm))
    have F684 : Arv Z h646 r1_191 c1_191 .int (3 : Int32) [(.int (0 : Int32)), (.int (0 : Int32)), (.int (0 : Int32))] (.int (0 : Int32)) := (F659.ext E646)
    have ne685 : r1_191 ≠ b671 := Nat.ne_of_lt (Nat.lt_of_lt_of_le F684.lt (Nat.le_of_eq g671.symm))
    have F686 : Arv Z h646 r2_191 c2_191 .int (3 : Int32) [(.int (1 : Int32)), (.int ((1 : Int32) + (own_bits vZ0))), (.int (((1 : Int32) + (own_bits vZ0)) + (own_bits vZ1)))] (.int (0 : Int32)) := (F661.ext E646)
    have ne687 : r2_191 ≠ b671 := Nat.ne_of_lt (Nat.lt_of_lt_of_le F686.lt (Nat.le_of_eq g671.symm))
    have F688 : Arv Z h646 r3_191 c3_191 .long (3 : Int32) [(.long (own_msk vZ0)), (.long (own_msk vZ1)), (.long (own_msk vZ2))] (.long (0 : Int64)) := (F663.ext E646)
    have ne689 : r3_191 ≠ b671 := Nat.ne_of_lt (Nat.lt_of_lt_of_le F688.lt (Nat.le_of_eq g671.symm))
    have F690 : Arv Z h646 r4_191 c4_191 .int (3 : Int32) [(.int (vL0 + (0 : Int32))), (.int (vL1 + (0 : Int32))), (.int (vL2 + (0 : Int32)))] (.int (0 : Int32)) := (F665.ext E646)
    have ne691 : r4_191 ≠ b671 := Nat.ne_of_lt (Nat.lt_of_lt_of_le F690.lt (Nat.le_of_eq g671.symm))
    have F692 : Arv Z h646 b611 k611 .long (3 : Int32) [(.long vO0), (.long vO1), (.long vO2)] (.long (0 : Int64)) := (V643.ext E646)
    have ne693 : b611 ≠ b671 := Nat.ne_of_lt (Nat.lt_of_lt_of_le F692.lt (Nat.le_of_eq g671.symm))
    have ne694 : b646 ≠ b671 := Nat.ne_of_lt (Nat.lt_of_lt_of_le V646.lt (Nat.le_of_eq g671.symm))
    have ge695 : n0 ≤ b671 := Nat.le_trans (Nat.le_trans Z0 KC670.1) (Nat.le_of_eq g671.symm)
    have sz696 : h0.size ≤ b671 := Nat.le_trans KC670.1 (Nat.le_of_eq g671.symm)
    have KC697 : Keep h0 h671 [] := KC670.ext E671
    have V671 : Arv Z h671 b671 k671 .int (3 : Int32) [(.int (0 : Int32)), (.int (0 : Int32)), (.int (0 : Int32))] (.int (0 : Int32)) := (Arv.new A671 (by decide)).pad (pad_rep [] (.int (0 : Int32)) 3)
    have F698 : Fld Z h671 b160 "com/example/darlington/darlington/core/StateLayout" "wordOf" "[I" (.ref r1_191) := ((((((q191_3.ext E611).other W633 (Or.inl ne623)).other W638 (Or.inl ne623)).other W643 (Or.inl ne623)).ext E646).ext E671)
    have F699 : Arv Z h671 r1_191 c1_191 .int (3 : Int32) [(.int (0 : Int32)), (.int (0 : Int32)), (.int (0 : Int32))] (.int (0 : Int32)) := (F684.ext E671)
    have F700 : Fld Z h671 b160 "com/example/darlington/darlington/core/StateLayout" "shiftOf" "[I" (.ref r2_191) := ((((((q191_6.ext E611).other W633 (Or.inl ne623)).other W638 (Or.inl ne623)).other W643 (Or.inl ne623)).ext E646).ext E671)
    have F701 : Arv Z h671 r2_191 c2_191 .int (3 : Int32) [(.int (1 : Int32)), (.int ((1 : Int32) + (own_bits vZ0))), (.int (((1 : Int32) + (own_bits vZ0)) + (own_bits vZ1)))] (.int (0 : Int32)) := (F686.ext E671)
    have F702 : Fld Z h671 b160 "com/example/darlington/darlington/core/StateLayout" "maskOf" "[J" (.ref r3_191) := ((((((q191_9.ext E611).other W633 (Or.inl ne623)).other W638 (Or.inl ne623)).other W643 (Or.inl ne623)).ext E646).ext E671)
    have F703 : Arv Z h671 r3_191 c3_191 .long (3 : Int32) [(.long (own_msk vZ0)), (.long (own_msk vZ1)), (.long (own_msk vZ2))] (.long (0 : Int64)) := (F688.ext E671)
    have F704 : Fld Z h671 b160 "com/example/darlington/darlington/core/StateLayout" "firstOf" "[I" (.ref r4_191) := ((((((q191_12.ext E611).other W633 (Or.inl ne623)).other W638 (Or.inl ne623)).other W643 (Or.inl ne623)).ext E646).ext E671)
    have F705 : Arv Z h671 r4_191 c4_191 .int (3 : Int32) [(.int (vL0 + (0 : Int32))), (.int (vL1 + (0 : Int32))), (.int (vL2 + (0 : Int32)))] (.int (0 : Int32)) := (F690.ext E671)
    have F706 : Arv Z h671 b611 k611 .long (3 : Int32) [(.long vO0), (.long vO1), (.long vO2)] (.long (0 : Int64)) := (F692.ext E671)
    have F707 : Arv Z h671 b646 k646 .int (3 : Int32) [(.int (0 : Int32)), (.int (0 : Int32)), (.int (0 : Int32))] (.int (0 : Int32)) := (V646.ext E671)
    have F709 : Exa Z h671 b160 "com/example/darlington/darlington/core/StateLayout" := (F682.ext E671)
    obtain ⟨cq708, kq708, q708a, q708b, q708c⟩ := isOf hZ e671 F709
    obtain ⟨_, _, ⟨T708, L708, k708, n708⟩, -, X708, ⟨Lc708, hQ708, l708, y708, z708⟩, st708⟩ := X671.virtualBack hx (y := (⟨"com/example/darlington/darlington/core/StateLayout", "unpack", "([JI[I)V"⟩ : MethodName)) (z := (⟨"com/example/darlington/darlington/core/StateLayout", "unpack", "([JI[I)V"⟩ : MethodName)) hown (mvT hZ (ow hw 154 rfl)) (mvT hZ (ow hw 155 rfl)) (notFace_of_selects (args := #[]) (mvT hZ (ow hw 157 rfl))) (mvT hZ (ow hw 157 rfl)) (mvT hZ (ow hw 156 rfl)) (by decide) (backOf (W := 0) (rm_unpA l Z a0 hw [] b160 b611 b646 r1_191 r2_191 r3_191 r4_191 c1_191 c2_191 c3_191 c4_191 (1 : Int32) ((1 : Int32) + (own_bits vZ0)) (((1 : Int32) + (own_bits vZ0)) + (own_bits vZ1)) (own_msk vZ0) (own_msk vZ1) (own_msk vZ2) (vL0 + (0 : Int32)) (vL1 + (0 : Int32)) (vL2 + (0 : Int32)) k611 k646 vO0 vO1 vO2 (0 : Int32) (0 : Int32) (0 : Int32) h671 n0 (Nat.le_trans Z0 KC697.1) F698 F699 F700 F701 F702 F703 F704 F705 F706 F707 ge668 ne658 ne667 ne660 ne662 ne664 ne666) hZ (ow hw 158 rfl) (ow hw 88 rfl) (by decide) (by decide)) q708a q708c (g := (mkF m 306 #[Si p1, Si p2, Si p3, Sl q4, S2, Sl q5, S2, Si p6, Si vZ0, Si vZ1, Si vZ2, Si vL0, Si vL1, Si vL2, Si vI, Si vSz, Si vLo, Si vV, Sr b77, Sr b160, Sl vO0, S2, Sl vO1, S2, Sl vO2, S2, Sr b611, Sr b646, Sr b671, Su, Su, Su] [(.ref b646), (.int (0 : Int32)), (.ref b611), (.ref b160)])) rfl (by rw [hml]; rfl) (Steps.refl _) (argsL := [(.ref b611), (.int (0 : Int32)), (.ref b646)]) (rest := []) (lenOf pd_12 rfl) rfl (by show 2 * 0 + _ ≤ _; exact Nat.le_of_eq rfl) (hb hby at_306) (fun _ _ => ⟨rfl, e671, (by decide : 13 + 0 ≤ _), (by decide : 45 + 0 ≤ _)⟩)
    dsimp only [Pt.U, Pt.locs, Pt.cells, Pt.slots] at X708 l708 y708 z708 st708 hQ708
    subst y708 z708
    obtain ⟨rfl, Nq708, q708_0, q708_1⟩ := hQ708
    have N710 := Eq.subst (motive := fun L => Fr n0 L) l708.symm (Fr.app N645 Nq708)
    have KC711 : Keep h0 T708.heap [] := KC697.trans q708_0 (allS (Or.inr sz669) all0)
    have G2 := G2a hAB
    have pre712 : ∀ t, Steps p.tables e below (T708.setTop (mkF m 309 #[Si p1, Si p2, Si p3, Sl q4, S2, Sl q5, S2, Si p6, Si vZ0, Si vZ1, Si vZ2, Si vL0, Si vL1, Si vL2, Si vI, Si vSz, Si vLo, Si vV, Sr b77, Sr b160, Sl vO0, S2, Sl vO1, S2, Sl vO2, S2, Sr b611, Sr b646, Sr b671, Su, Su, Su] [])) t → Steps p.tables e below (s₁.setTop (entryFrame m #[(.int p1), (.int p2), (.int p3), (.long q4), (.long q5), (.int p6)] maxLocals)) t := by
      intro t k
      refine pre610 t ?_
      refine XS.iconst X191.here hx rfl (hb hby at_269) ?_
      show Steps _ _ _ (T191.setTop (mkF m 270 #[Si p1, Si p2, Si p3, Sl q4, S2, Sl q5, S2, Si p6, Si vZ0, Si vZ1, Si vZ2, Si vL0, Si vL1, Si vL2, Si vI, Si vSz, Si vLo, Si vV, Sr b77, Sr b160, Sl vO0, S2, Sl vO1, S2, Sl vO2, S2, Su, Su, Su, Su, Su, Su] [(.int (3 : Int32))])) _
      refine st611 _ ?_
      refine XS.dup X611.here hx rfl (hb hby at_272) rfl rfl ?_
      refine XS.iconst X611.here hx rfl (hb hby at_273) ?_
      refine XS.lload X611.here hx rfl (hb hby at_274) rfl ?_
      refine st633 _ ?_
      refine XS.dup X633.here hx rfl (hb hby at_277) rfl rfl ?_
      refine XS.iconst X633.here hx rfl (hb hby at_278) ?_
      refine XS.lload X633.here hx rfl (hb hby at_279) rfl ?_
      refine st638 _ ?_
      refine XS.dup X638.here hx rfl (hb hby at_282) rfl rfl ?_
      show Steps _ _ _ (T638.setTop (mkF m 283 #[Si p1, Si p2, Si p3, Sl q4, S2, Sl q5, S2, Si p6, Si vZ0, Si vZ1, Si vZ2, Si vL0, Si vL1, Si vL2, Si vI, Si vSz, Si vLo, Si vV, Sr b77, Sr b160, Sl vO0, S2, Sl vO1, S2, Sl vO2, S2, Su, Su, Su, Su, Su, Su] [(.ref b611), (.ref b611)])) _
      refine XS.iconst X638.here hx rfl (hb hby at_283) ?_
      refine XS.lload X638.here hx rfl (hb hby at_284) rfl ?_
      refine st643 _ ?_
      refine XS.astore X643.here hx rfl (hb hby at_287) rfl rfl (l' := #[Si p1, Si p2, Si p3, Sl q4, S2, Sl q5, S2, Si p6, Si vZ0, Si vZ1, Si vZ2, Si vL0, Si vL1, Si vL2, Si vI, Si vSz, Si vLo, Si vV, Sr b77, Sr b160, Sl vO0, S2, Sl vO1, S2, Sl vO2, S2, Sr b611, Su, Su, Su, Su, Su]) rfl ?_
      refine XS.iconst X643.here hx rfl (hb hby at_289) ?_
      refine st646 _ ?_
      refine XS.astore X646.here hx rfl (hb hby at_292) rfl rfl (l' := #[Si p1, Si p2, Si p3, Sl q4, S2, Sl q5, S2, Si p6, Si vZ0, Si vZ1, Si vZ2, Si vL0, Si vL1, Si vL2, Si vI, Si vSz, Si vLo, Si vV, Sr b77, Sr b160, Sl vO0, S2, Sl vO1, S2, Sl vO2, S2, Sr b611, Sr b646, Su, Su, Su, Su]) rfl ?_
      refine XS.iconst X646.here hx rfl (hb hby at_294) ?_
      refine st671 _ ?_
      refine XS.astore X671.here hx rfl (hb hby at_297) rfl rfl (l' := #[Si p1, Si p2, Si p3, Sl q4, S2, Sl q5, S2, Si p6, Si vZ0, Si vZ1, Si vZ2, Si vL0, Si vL1, Si vL2, Si vI, Si vSz, Si vLo, Si vV, Sr b77, Sr b160, Sl vO0, S2, Sl vO1, S2, Sl vO2, S2, Sr b611, Sr b646, Sr b671, Su, Su, Su]) rfl ?_
      show Steps _ _ _ (T671.setTop (mkF m 299 #[Si p1, Si p2, Si p3, Sl q4, S2, Sl q5, S2, Si p6, Si vZ0, Si vZ1, Si vZ2, Si vL0, Si vL1, Si vL2, Si vI, Si vSz, Si vLo, Si vV, Sr b77, Sr b160, Sl vO0, S2, Sl vO1, S2, Sl vO2, S2, Sr b611, Sr b646, Sr b671, Su, Su, Su] [])) _
      refine XS.aload X671.here hx rfl (hb hby at_299) rfl rfl ?_
      refine XS.aload X671.here hx rfl (hb hby at_301) rfl rfl ?_
      refine XS.iconst X671.here hx rfl (hb hby at_303) ?_
      refine XS.aload X671.here hx rfl (hb hby at_304) rfl rfl ?_
      refine st708.trans ?_
      exact k
    rcases hI3 with hI | hI | hI
    · have eSz : vSz = vZ0 := by rw [hvSz, hI]; rfl
      have eLo : vLo = vL0 := by rw [hvLo, hI]; rfl
      rw [hI, eSz, eLo] at pre712
      have hV := own_vv vL0 vZ0 p6 hz0 hl0 vV (by rw [hvV, eSz, eLo])
      have hV2 := own_lt2 hV.2 Y0
      have G2 := G2a hAB
      have F713 : Fld Z T708.heap b160 "com/example/darlington/darlington/core/StateLayout" "wordOf" "[I" (.ref r1_191) := (F698.keep q708_0 (ninS ne658 nin0))
      have F714 : Arv Z T708.heap r1_191 c1_191 .int (3 : Int32) [(.int (0 : Int32)), (.int (0 : Int32)), (.int (0 : Int32))] (.int (0 : Int32)) := (F699.keep q708_0 (ninS ne660 nin0))
      have F715 : Fld Z T708.heap b160 "com/example/darlington/darlington/core/StateLayout" "shiftOf" "[I" (.ref r2_191) := (F700.keep q708_0 (ninS ne658 nin0))
      have F716 : Arv Z T708.heap r2_191 c2_191 .int (3 : Int32) [(.int (1 : Int32)), (.int ((1 : Int32) + (own_bits vZ0))), (.int (((1 : Int32) + (own_bits vZ0)) + (own_bits vZ1)))] (.int (0 : Int32)) := (F701.keep q708_0 (ninS ne662 nin0))
      have F717 : Fld Z T708.heap b160 "com/example/darlington/darlington/core/StateLayout" "maskOf" "[J" (.ref r3_191) := (F702.keep q708_0 (ninS ne658 nin0))
      have F718 : Arv Z T708.heap r3_191 c3_191 .long (3 : Int32) [(.long (own_msk vZ0)), (.long (own_msk vZ1)), (.long (own_msk vZ2))] (.long (0 : Int64)) := (F703.keep q708_0 (ninS ne664 nin0))
      have F719 : Fld Z T708.heap b160 "com/example/darlington/darlington/core/StateLayout" "firstOf" "[I" (.ref r4_191) := (F704.keep q708_0 (ninS ne658 nin0))
      have F720 : Arv Z T708.heap r4_191 c4_191 .int (3 : Int32) [(.int (vL0 + (0 : Int32))), (.int (vL1 + (0 : Int32))), (.int (vL2 + (0 : Int32)))] (.int (0 : Int32)) := (F705.keep q708_0 (ninS ne666 nin0))
      have F721 : Arv Z T708.heap b611 k611 .long (3 : Int32) [(.long vO0), (.long vO1), (.long vO2)] (.long (0 : Int64)) := (F706.keep q708_0 (ninS ne667 nin0))
      have F723 : Exa Z T708.heap b160 "com/example/darlington/darlington/core/StateLayout" := (F709.keep q708_0)
      obtain ⟨cq722, kq722, q722a, q722b, q722c⟩ := isOf hZ rfl F723
      obtain ⟨_, _, ⟨T722, L722, k722, n722⟩, -, X722, ⟨Lc722, hQ722, l722, y722, z722⟩, st722⟩ := X708.virtualBack hx (y := (⟨"com/example/darlington/darlington/core/StateLayout", "set", "([JII)V"⟩ : MethodName)) (z := (⟨"com/example/darlington/darlington/core/StateLayout", "set", "([JII)V"⟩ : MethodName)) hown (mvT hZ (ow hw 159 rfl)) (mvT hZ (ow hw 160 rfl)) (notFace_of_selects (args := #[]) (mvT hZ (ow hw 162 rfl))) (mvT hZ (ow hw 162 rfl)) (mvT hZ (ow hw 161 rfl)) (by decide) (backOf (W := 0) (rm_set0 l Z a0 hw [] b160 b611 vV r1_191 r2_191 r3_191 r4_191 c1_191 c2_191 c3_191 c4_191 (1 : Int32) ((1 : Int32) + (own_bits vZ0)) (((1 : Int32) + (own_bits vZ0)) + (own_bits vZ1)) (own_msk vZ0) (own_msk vZ1) (own_msk vZ2) (vL0 + (0 : Int32)) (vL1 + (0 : Int32)) (vL2 + (0 : Int32)) (0 : Int32) k611 vO0 vO1 vO2 T708.heap n0 (Nat.le_trans Z0 KC711.1) F713 F714 F715 F716 F717 F718 F719 F720 F721 ge628) hZ (ow hw 163 rfl) (ow hw 88 rfl) (by decide) (by decide)) q722a q722c (g := (mkF m 317 #[Si p1, Si p2, Si p3, Sl q4, S2, Sl q5, S2, Si p6, Si vZ0, Si vZ1, Si vZ2, Si vL0, Si vL1, Si vL2, Si (0 : Int32), Si vZ0, Si vL0, Si vV, Sr b77, Sr b160, Sl vO0, S2, Sl vO1, S2, Sl vO2, S2, Sr b611, Sr b646, Sr b671, Su, Su, Su] [(.int vV), (.int (0 : Int32)), (.ref b611), (.ref b160)])) rfl (by rw [hml]; rfl) (Steps.refl _) (argsL := [(.ref b611), (.int (0 : Int32)), (.int vV)]) (rest := []) (lenOf pd_13 rfl) rfl (by show 2 * 0 + _ ≤ _; exact Nat.le_of_eq rfl) (hb hby at_317) (fun _ _ => ⟨rfl, rfl, (by decide : 13 + 0 ≤ _), (by decide : 45 + 0 ≤ _)⟩)
      dsimp only [Pt.U, Pt.locs, Pt.cells, Pt.slots] at X722 l722 y722 z722 st722 hQ722
      subst y722 z722
      obtain ⟨rfl, Nq722, q722_0, q722_1⟩ := hQ722
      have N724 := Eq.subst (motive := fun L => Fr n0 L) l722.symm (Fr.app N710 Nq722)
      have KC725 : Keep h0 T722.heap [] := KC711.trans q722_0 (allS (Or.inr sz629) all0)
      have F726 : Fld Z T722.heap b160 "com/example/darlington/darlington/core/StateLayout" "wordOf" "[I" (.ref r1_191) := (F713.keep q722_0 (ninS ne623 nin0))
      have F727 : Arv Z T722.heap r1_191 c1_191 .int (3 : Int32) [(.int (0 : Int32)), (.int (0 : Int32)), (.int (0 : Int32))] (.int (0 : Int32)) := (F714.keep q722_0 (ninS ne624 nin0))
      have F728 : Fld Z T722.heap b160 "com/example/darlington/darlington/core/StateLayout" "shiftOf" "[I" (.ref r2_191) := (F715.keep q722_0 (ninS ne623 nin0))
      have F729 : Arv Z T722.heap r2_191 c2_191 .int (3 : Int32) [(.int (1 : Int32)), (.int ((1 : Int32) + (own_bits vZ0))), (.int (((1 : Int32) + (own_bits vZ0)) + (own_bits vZ1)))] (.int (0 : Int32)) := (F716.keep q722_0 (ninS ne625 nin0))
      have F730 : Fld Z T722.heap b160 "com/example/darlington/darlington/core/StateLayout" "maskOf" "[J" (.ref r3_191) := (F717.keep q722_0 (ninS ne623 nin0))
      have F731 : Arv Z T722.heap r3_191 c3_191 .long (3 : Int32) [(.long (own_msk vZ0)), (.long (own_msk vZ1)), (.long (own_msk vZ2))] (.long (0 : Int64)) := (F718.keep q722_0 (ninS ne626 nin0))
      have F732 : Fld Z T722.heap b160 "com/example/darlington/darlington/core/StateLayout" "firstOf" "[I" (.ref r4_191) := (F719.keep q722_0 (ninS ne623 nin0))
      have F733 : Arv Z T722.heap r4_191 c4_191 .int (3 : Int32) [(.int (vL0 + (0 : Int32))), (.int (vL1 + (0 : Int32))), (.int (vL2 + (0 : Int32)))] (.int (0 : Int32)) := (F720.keep q722_0 (ninS ne627 nin0))
      have F734 : Arv Z T722.heap b671 k671 .int (3 : Int32) [(.int (0 : Int32)), (.int (0 : Int32)), (.int (0 : Int32))] (.int (0 : Int32)) := ((V671.keep q708_0 (ninS (Ne.symm ne694) nin0)).keep q722_0 (ninS (Ne.symm ne693) nin0))
      have F736 : Exa Z T722.heap b160 "com/example/darlington/darlington/core/StateLayout" := (F723.keep q722_0)
      obtain ⟨cq735, kq735, q735a, q735b, q735c⟩ := isOf hZ rfl F736
      obtain ⟨_, _, ⟨T735, L735, k735, n735⟩, -, X735, ⟨Lc735, hQ735, l735, y735, z735⟩, st735⟩ := X722.virtualBack hx (y := (⟨"com/example/darlington/darlington/core/StateLayout", "unpack", "([JI[I)V"⟩ : MethodName)) (z := (⟨"com/example/darlington/darlington/core/StateLayout", "unpack", "([JI[I)V"⟩ : MethodName)) hown (mvT hZ (ow hw 154 rfl)) (mvT hZ (ow hw 155 rfl)) (notFace_of_selects (args := #[]) (mvT hZ (ow hw 157 rfl))) (mvT hZ (ow hw 157 rfl)) (mvT hZ (ow hw 156 rfl)) (by decide) (backOf (W := 0) (rm_unpA l Z a0 hw [] b160 b611 b671 r1_191 r2_191 r3_191 r4_191 c1_191 c2_191 c3_191 c4_191 (1 : Int32) ((1 : Int32) + (own_bits vZ0)) (((1 : Int32) + (own_bits vZ0)) + (own_bits vZ1)) (own_msk vZ0) (own_msk vZ1) (own_msk vZ2) (vL0 + (0 : Int32)) (vL1 + (0 : Int32)) (vL2 + (0 : Int32)) k611 k671 (own_upd vO0 (1 : Int32) (own_msk vZ0) (vL0 + (0 : Int32)) vV) vO1 vO2 (0 : Int32) (0 : Int32) (0 : Int32) T722.heap n0 (Nat.le_trans Z0 KC725.1) F726 F727 F728 F729 F730 F731 F732 F733 q722_1 F734 ge695 ne683 ne693 ne685 ne687 ne689 ne691) hZ (ow hw 158 rfl) (ow hw 88 rfl) (by decide) (by decide)) q735a q735c (g := (mkF m 327 #[Si p1, Si p2, Si p3, Sl q4, S2, Sl q5, S2, Si p6, Si vZ0, Si vZ1, Si vZ2, Si vL0, Si vL1, Si vL2, Si (0 : Int32), Si vZ0, Si vL0, Si vV, Sr b77, Sr b160, Sl vO0, S2, Sl vO1, S2, Sl vO2, S2, Sr b611, Sr b646, Sr b671, Su, Su, Su] [(.ref b671), (.int (0 : Int32)), (.ref b611), (.ref b160)])) rfl (by rw [hml]; rfl) (Steps.refl _) (argsL := [(.ref b611), (.int (0 : Int32)), (.ref b671)]) (rest := []) (lenOf pd_12 rfl) rfl (by show 2 * 0 + _ ≤ _; exact Nat.le_of_eq rfl) (hb hby at_327) (fun _ _ => ⟨rfl, rfl, (by decide : 13 + 0 ≤ _), (by decide : 45 + 0 ≤ _)⟩)
      dsimp only [Pt.U, Pt.locs, Pt.cells, Pt.slots] at X735 l735 y735 z735 st735 hQ735
      subst y735 z735
      obtain ⟨rfl, Nq735, q735_0, q735_1⟩ := hQ735
      have N737 := Eq.subst (motive := fun L => Fr n0 L) l735.symm (Fr.app N724 Nq735)
      have KC738 : Keep h0 T735.heap [] := KC725.trans q735_0 (allS (Or.inr sz696) all0)
      obtain ⟨c739, Arc739, Aqc739, Asc739, Anc739, Ahc739, Agc739⟩ := id q735_1
      have hin740 : ¬ ((0 : Int32) < 0 ∨ c739.slots.size ≤ ((0 : Int32)).toNatClampNeg) := inb_of Asc739 ⟨by decide, by decide⟩
      have hat741 : c739.slots[((0 : Int32)).toNatClampNeg]? = some (.int ((vL0 + (0 : Int32)) + (((((own_upd vO0 (1 : Int32) (own_msk vZ0) (vL0 + (0 : Int32)) vV).toUInt64 >>> ((1 : Int32) &&& 0x3f).toInt64.toUInt64).toInt64) &&& (own_msk vZ0)).toInt32))) := Has.at Ahc739 hin740 rfl
      have hc742 : ((vL0 + (0 : Int32)) + (((((own_upd vO0 (1 : Int32) (own_msk vZ0) (vL0 + (0 : Int32)) vV).toUInt64 >>> ((1 : Int32) &&& 0x3f).toInt64.toUInt64).toInt64) &&& (own_msk vZ0)).toInt32)) = vV := own_y337 (own_fuG G0) G0.2.2.2 B0 hV.1 hV2
      obtain ⟨c743, Arc743, Aqc743, Asc743, Anc743, Ahc743, Agc743⟩ := id q735_1
      have hin744 : ¬ ((1 : Int32) < 0 ∨ c743.slots.size ≤ ((1 : Int32)).toNatClampNeg) := inb_of Asc743 ⟨by decide, by decide⟩
      have hat745 : c743.slots[((1 : Int32)).toNatClampNeg]? = some (.int ((vL1 + (0 : Int32)) + (((((own_upd vO0 (1 : Int32) (own_msk vZ0) (vL0 + (0 : Int32)) vV).toUInt64 >>> (((1 : Int32) + (own_bits vZ0)) &&& 0x3f).toInt64.toUInt64).toInt64) &&& (own_msk vZ1)).toInt32))) := Has.at Ahc743 hin744 rfl
      have F746 : Arv Z T735.heap b646 k646 .int (3 : Int32) [(.int ((vL0 + (0 : Int32)) + ((((vO0.toUInt64 >>> ((1 : Int32) &&& 0x3f).toInt64.toUInt64).toInt64) &&& (own_msk vZ0)).toInt32))), (.int ((vL1 + (0 : Int32)) + ((((vO0.toUInt64 >>> (((1 : Int32) + (own_bits vZ0)) &&& 0x3f).toInt64.toUInt64).toInt64) &&& (own_msk vZ1)).toInt32))), (.int ((vL2 + (0 : Int32)) + ((((vO0.toUInt64 >>> ((((1 : Int32) + (own_bits vZ0)) + (own_bits vZ1)) &&& 0x3f).toInt64.toUInt64).toInt64) &&& (own_msk vZ2)).toInt32)))] (.int (0 : Int32)) := ((q708_1.keep q722_0 (ninS (Ne.symm ne667) nin0)).keep q735_0 (ninS ne694 nin0))
      obtain ⟨c747, Arc747, Aqc747, Asc747, Anc747, Ahc747, Agc747⟩ := id F746
      have hin748 : ¬ ((1 : Int32) < 0 ∨ c747.slots.size ≤ ((1 : Int32)).toNatClampNeg) := inb_of Asc747 ⟨by decide, by decide⟩
      have hat749 : c747.slots[((1 : Int32)).toNatClampNeg]? = some (.int ((vL1 + (0 : Int32)) + ((((vO0.toUInt64 >>> (((1 : Int32) + (own_bits vZ0)) &&& 0x3f).toInt64.toUInt64).toInt64) &&& (own_msk vZ1)).toInt32))) := Has.at Ahc747 hin748 rfl
      have hc750 : ((vL1 + (0 : Int32)) + (((((own_upd vO0 (1 : Int32) (own_msk vZ0) (vL0 + (0 : Int32)) vV).toUInt64 >>> (((1 : Int32) + (own_bits vZ0)) &&& 0x3f).toInt64.toUInt64).toInt64) &&& (own_msk vZ1)).toInt32)) = ((vL1 + (0 : Int32)) + ((((vO0.toUInt64 >>> (((1 : Int32) + (own_bits vZ0)) &&& 0x3f).toInt64.toUInt64).toInt64) &&& (own_msk vZ1)).toInt32)) := own_oth (own_foG G0 G1 (Or.inr (Nat.le_refl _)))
      obtain ⟨c751, Arc751, Aqc751, Asc751, Anc751, Ahc751, Agc751⟩ := id q735_1
      have hin752 : ¬ ((2 : Int32) < 0 ∨ c751.slots.size ≤ ((2 : Int32)).toNatClampNeg) := inb_of Asc751 ⟨by decide, by decide⟩
      have hat753 : c751.slots[((2 : Int32)).toNatClampNeg]? = some (.int ((vL2 + (0 : Int32)) + (((((own_upd vO0 (1 : Int32) (own_msk vZ0) (vL0 + (0 : Int32)) vV).toUInt64 >>> ((((1 : Int32) + (own_bits vZ0)) + (own_bits vZ1)) &&& 0x3f).toInt64.toUInt64).toInt64) &&& (own_msk vZ2)).toInt32))) := Has.at Ahc751 hin752 rfl
      obtain ⟨c754, Arc754, Aqc754, Asc754, Anc754, Ahc754, Agc754⟩ := id F746
      have hin755 : ¬ ((2 : Int32) < 0 ∨ c754.slots.size ≤ ((2 : Int32)).toNatClampNeg) := inb_of Asc754 ⟨by decide, by decide⟩
      have hat756 : c754.slots[((2 : Int32)).toNatClampNeg]? = some (.int ((vL2 + (0 : Int32)) + ((((vO0.toUInt64 >>> ((((1 : Int32) + (own_bits vZ0)) + (own_bits vZ1)) &&& 0x3f).toInt64.toUInt64).toInt64) &&& (own_msk vZ2)).toInt32))) := Has.at Ahc754 hin755 rfl
      have hc757 : ((vL2 + (0 : Int32)) + (((((own_upd vO0 (1 : Int32) (own_msk vZ0) (vL0 + (0 : Int32)) vV).toUInt64 >>> ((((1 : Int32) + (own_bits vZ0)) + (own_bits vZ1)) &&& 0x3f).toInt64.toUInt64).toInt64) &&& (own_msk vZ2)).toInt32)) = ((vL2 + (0 : Int32)) + ((((vO0.toUInt64 >>> ((((1 : Int32) + (own_bits vZ0)) + (own_bits vZ1)) &&& 0x3f).toInt64.toUInt64).toInt64) &&& (own_msk vZ2)).toInt32)) := own_oth (own_foG G0 G2 (Or.inr (Nat.le_add_right _ _)))
      have pre758 : ∀ t, Steps p.tables e below (T735.setTop (mkF m 427 #[Si p1, Si p2, Si p3, Sl q4, S2, Sl q5, S2, Si p6, Si vZ0, Si vZ1, Si vZ2, Si vL0, Si vL1, Si vL2, Si (0 : Int32), Si vZ0, Si vL0, Si vV, Sr b77, Sr b160, Sl vO0, S2, Sl vO1, S2, Sl vO2, S2, Sr b611, Sr b646, Sr b671, Si (1 : Int32), Su, Su] [])) t → Steps p.tables e below (s₁.setTop (entryFrame m #[(.int p1), (.int p2), (.int p3), (.long q4), (.long q5), (.int p6)] maxLocals)) t := by
        intro t k
        refine pre712 t ?_
        refine XS.aload X708.here hx rfl (hb hby at_309) rfl rfl ?_
        refine XS.aload X708.here hx rfl (hb hby at_311) rfl rfl ?_
        refine XS.iload X708.here hx rfl (hb hby at_313) rfl ?_
        refine XS.iload X708.here hx rfl (hb hby at_315) rfl ?_
        refine st722.trans ?_
        show Steps _ _ _ (T722.setTop (mkF m 320 #[Si p1, Si p2, Si p3, Sl q4, S2, Sl q5, S2, Si p6, Si vZ0, Si vZ1, Si vZ2, Si vL0, Si vL1, Si vL2, Si (0 : Int32), Si vZ0, Si vL0, Si vV, Sr b77, Sr b160, Sl vO0, S2, Sl vO1, S2, Sl vO2, S2, Sr b611, Sr b646, Sr b671, Su, Su, Su] [])) _
        refine XS.aload X722.here hx rfl (hb hby at_320) rfl rfl ?_
        refine XS.aload X722.here hx rfl (hb hby at_322) rfl rfl ?_
        refine XS.iconst X722.here hx rfl (hb hby at_324) ?_
        refine XS.aload X722.here hx rfl (hb hby at_325) rfl rfl ?_
        refine st735.trans ?_
        refine XS.aload X735.here hx rfl (hb hby at_330) rfl rfl ?_
        refine XS.iload X735.here hx rfl (hb hby at_332) rfl ?_
        refine X735.iaload hx (j := (0 : Int32)) (v := (.int ((vL0 + (0 : Int32)) + (((((own_upd vO0 (1 : Int32) (own_msk vZ0) (vL0 + (0 : Int32)) vV).toUInt64 >>> ((1 : Int32) &&& 0x3f).toInt64.toUInt64).toInt64) &&& (own_msk vZ0)).toInt32)))) Arc739.1 (State.isArrayOf_alike hZ.alike Arc739.2.1) Arc739.2.2 hin740 hat741 (g := (mkF m 334 #[Si p1, Si p2, Si p3, Sl q4, S2, Sl q5, S2, Si p6, Si vZ0, Si vZ1, Si vZ2, Si vL0, Si vL1, Si vL2, Si (0 : Int32), Si vZ0, Si vL0, Si vV, Sr b77, Sr b160, Sl vO0, S2, Sl vO1, S2, Sl vO2, S2, Sr b611, Sr b646, Sr b671, Su, Su, Su] [(.int (0 : Int32)), (.ref b671)])) rfl rfl (hb hby at_334) _ ?_
        refine XS.iload X735.here hx rfl (hb hby at_335) rfl ?_
        refine XS.icmpNo X735.here hx rfl (hb hby at_337) rfl (teq hc742).2 ?_
        show Steps _ _ _ (T735.setTop (mkF m 340 #[Si p1, Si p2, Si p3, Sl q4, S2, Sl q5, S2, Si p6, Si vZ0, Si vZ1, Si vZ2, Si vL0, Si vL1, Si vL2, Si (0 : Int32), Si vZ0, Si vL0, Si vV, Sr b77, Sr b160, Sl vO0, S2, Sl vO1, S2, Sl vO2, S2, Sr b611, Sr b646, Sr b671, Su, Su, Su] [])) _
        refine XS.iconst X735.here hx rfl (hb hby at_340) ?_
        refine XS.goto X735.here hx rfl (pc0 := 341) (pc' := 345) rfl (hb hby at_341) (by decide) (by decide) ?_
        refine XS.istore X735.here hx rfl (hb hby at_345) rfl (l' := #[Si p1, Si p2, Si p3, Sl q4, S2, Sl q5, S2, Si p6, Si vZ0, Si vZ1, Si vZ2, Si vL0, Si vL1, Si vL2, Si (0 : Int32), Si vZ0, Si vL0, Si vV, Sr b77, Sr b160, Sl vO0, S2, Sl vO1, S2, Sl vO2, S2, Sr b611, Sr b646, Sr b671, Si (1 : Int32), Su, Su]) rfl ?_
        refine XS.iload X735.here hx rfl (hb hby at_347) rfl ?_
        refine XS.iload X735.here hx rfl (hb hby at_349) rfl ?_
        refine XS.ifYes X735.here hx rfl (pc0 := 351) (pc' := 365) rfl (hb hby at_351) rfl ((if0 _ _).trans (teq rfl).1) (by decide) (by decide) ?_
        refine XS.iconst X735.here hx rfl (hb hby at_365) ?_
        refine XS.goto X735.here hx rfl (pc0 := 366) (pc' := 370) rfl (hb hby at_366) (by decide) (by decide) ?_
        refine XS.iand X735.here hx rfl (hb hby at_370) rfl ?_
        refine XS.istore X735.here hx rfl (hb hby at_371) rfl (l' := #[Si p1, Si p2, Si p3, Sl q4, S2, Sl q5, S2, Si p6, Si vZ0, Si vZ1, Si vZ2, Si vL0, Si vL1, Si vL2, Si (0 : Int32), Si vZ0, Si vL0, Si vV, Sr b77, Sr b160, Sl vO0, S2, Sl vO1, S2, Sl vO2, S2, Sr b611, Sr b646, Sr b671, Si (1 : Int32), Su, Su]) rfl ?_
        show Steps _ _ _ (T735.setTop (mkF m 373 #[Si p1, Si p2, Si p3, Sl q4, S2, Sl q5, S2, Si p6, Si vZ0, Si vZ1, Si vZ2, Si vL0, Si vL1, Si vL2, Si (0 : Int32), Si vZ0, Si vL0, Si vV, Sr b77, Sr b160, Sl vO0, S2, Sl vO1, S2, Sl vO2, S2, Sr b611, Sr b646, Sr b671, Si (1 : Int32), Su, Su] [])) _
        refine XS.iload X735.here hx rfl (hb hby at_373) rfl ?_
        refine XS.iload X735.here hx rfl (hb hby at_375) rfl ?_
        refine XS.iconst X735.here hx rfl (hb hby at_377) ?_
        refine XS.icmpNo X735.here hx rfl (hb hby at_378) rfl (feq (by decide)).1 ?_
        refine XS.aload X735.here hx rfl (hb hby at_381) rfl rfl ?_
        refine XS.iconst X735.here hx rfl (hb hby at_383) ?_
        refine X735.iaload hx (j := (1 : Int32)) (v := (.int ((vL1 + (0 : Int32)) + (((((own_upd vO0 (1 : Int32) (own_msk vZ0) (vL0 + (0 : Int32)) vV).toUInt64 >>> (((1 : Int32) + (own_bits vZ0)) &&& 0x3f).toInt64.toUInt64).toInt64) &&& (own_msk vZ1)).toInt32)))) Arc743.1 (State.isArrayOf_alike hZ.alike Arc743.2.1) Arc743.2.2 hin744 hat745 (g := (mkF m 384 #[Si p1, Si p2, Si p3, Sl q4, S2, Sl q5, S2, Si p6, Si vZ0, Si vZ1, Si vZ2, Si vL0, Si vL1, Si vL2, Si (0 : Int32), Si vZ0, Si vL0, Si vV, Sr b77, Sr b160, Sl vO0, S2, Sl vO1, S2, Sl vO2, S2, Sr b611, Sr b646, Sr b671, Si (1 : Int32), Su, Su] [(.int (1 : Int32)), (.ref b671), (.int (1 : Int32))])) rfl rfl (hb hby at_384) _ ?_
        refine XS.aload X735.here hx rfl (hb hby at_385) rfl rfl ?_
        refine XS.iconst X735.here hx rfl (hb hby at_387) ?_
        refine X735.iaload hx (j := (1 : Int32)) (v := (.int ((vL1 + (0 : Int32)) + ((((vO0.toUInt64 >>> (((1 : Int32) + (own_bits vZ0)) &&& 0x3f).toInt64.toUInt64).toInt64) &&& (own_msk vZ1)).toInt32)))) Arc747.1 (State.isArrayOf_alike hZ.alike Arc747.2.1) Arc747.2.2 hin748 hat749 (g := (mkF m 388 #[Si p1, Si p2, Si p3, Sl q4, S2, Sl q5, S2, Si p6, Si vZ0, Si vZ1, Si vZ2, Si vL0, Si vL1, Si vL2, Si (0 : Int32), Si vZ0, Si vL0, Si vV, Sr b77, Sr b160, Sl vO0, S2, Sl vO1, S2, Sl vO2, S2, Sr b611, Sr b646, Sr b671, Si (1 : Int32), Su, Su] [(.int (1 : Int32)), (.ref b646), (.int ((vL1 + (0 : Int32)) + (((((own_upd vO0 (1 : Int32) (own_msk vZ0) (vL0 + (0 : Int32)) vV).toUInt64 >>> (((1 : Int32) + (own_bits vZ0)) &&& 0x3f).toInt64.toUInt64).toInt64) &&& (own_msk vZ1)).toInt32))), (.int (1 : Int32))])) rfl rfl (hb hby at_388) _ ?_
        show Steps _ _ _ (T735.setTop (mkF m 389 #[Si p1, Si p2, Si p3, Sl q4, S2, Sl q5, S2, Si p6, Si vZ0, Si vZ1, Si vZ2, Si vL0, Si vL1, Si vL2, Si (0 : Int32), Si vZ0, Si vL0, Si vV, Sr b77, Sr b160, Sl vO0, S2, Sl vO1, S2, Sl vO2, S2, Sr b611, Sr b646, Sr b671, Si (1 : Int32), Su, Su] [(.int ((vL1 + (0 : Int32)) + ((((vO0.toUInt64 >>> (((1 : Int32) + (own_bits vZ0)) &&& 0x3f).toInt64.toUInt64).toInt64) &&& (own_msk vZ1)).toInt32))), (.int ((vL1 + (0 : Int32)) + (((((own_upd vO0 (1 : Int32) (own_msk vZ0) (vL0 + (0 : Int32)) vV).toUInt64 >>> (((1 : Int32) + (own_bits vZ0)) &&& 0x3f).toInt64.toUInt64).toInt64) &&& (own_msk vZ1)).toInt32))), (.int (1 : Int32))])) _
        refine XS.icmpNo X735.here hx rfl (hb hby at_389) rfl (teq hc750).2 ?_
        refine XS.iconst X735.here hx rfl (hb hby at_392) ?_
        refine XS.goto X735.here hx rfl (pc0 := 393) (pc' := 397) rfl (hb hby at_393) (by decide) (by decide) ?_
        refine XS.iand X735.here hx rfl (hb hby at_397) rfl ?_
        refine XS.istore X735.here hx rfl (hb hby at_398) rfl (l' := #[Si p1, Si p2, Si p3, Sl q4, S2, Sl q5, S2, Si p6, Si vZ0, Si vZ1, Si vZ2, Si vL0, Si vL1, Si vL2, Si (0 : Int32), Si vZ0, Si vL0, Si vV, Sr b77, Sr b160, Sl vO0, S2, Sl vO1, S2, Sl vO2, S2, Sr b611, Sr b646, Sr b671, Si (1 : Int32), Su, Su]) rfl ?_
        refine XS.iload X735.here hx rfl (hb hby at_400) rfl ?_
        refine XS.iload X735.here hx rfl (hb hby at_402) rfl ?_
        refine XS.iconst X735.here hx rfl (hb hby at_404) ?_
        refine XS.icmpNo X735.here hx rfl (hb hby at_405) rfl (feq (by decide)).1 ?_
        refine XS.aload X735.here hx rfl (hb hby at_408) rfl rfl ?_
        show Steps _ _ _ (T735.setTop (mkF m 410 #[Si p1, Si p2, Si p3, Sl q4, S2, Sl q5, S2, Si p6, Si vZ0, Si vZ1, Si vZ2, Si vL0, Si vL1, Si vL2, Si (0 : Int32), Si vZ0, Si vL0, Si vV, Sr b77, Sr b160, Sl vO0, S2, Sl vO1, S2, Sl vO2, S2, Sr b611, Sr b646, Sr b671, Si (1 : Int32), Su, Su] [(.ref b671), (.int (1 : Int32))])) _
        refine XS.iconst X735.here hx rfl (hb hby at_410) ?_
        refine X735.iaload hx (j := (2 : Int32)) (v := (.int ((vL2 + (0 : Int32)) + (((((own_upd vO0 (1 : Int32) (own_msk vZ0) (vL0 + (0 : Int32)) vV).toUInt64 >>> ((((1 : Int32) + (own_bits vZ0)) + (own_bits vZ1)) &&& 0x3f).toInt64.toUInt64).toInt64) &&& (own_msk vZ2)).toInt32)))) Arc751.1 (State.isArrayOf_alike hZ.alike Arc751.2.1) Arc751.2.2 hin752 hat753 (g := (mkF m 411 #[Si p1, Si p2, Si p3, Sl q4, S2, Sl q5, S2, Si p6, Si vZ0, Si vZ1, Si vZ2, Si vL0, Si vL1, Si vL2, Si (0 : Int32), Si vZ0, Si vL0, Si vV, Sr b77, Sr b160, Sl vO0, S2, Sl vO1, S2, Sl vO2, S2, Sr b611, Sr b646, Sr b671, Si (1 : Int32), Su, Su] [(.int (2 : Int32)), (.ref b671), (.int (1 : Int32))])) rfl rfl (hb hby at_411) _ ?_
        refine XS.aload X735.here hx rfl (hb hby at_412) rfl rfl ?_
        refine XS.iconst X735.here hx rfl (hb hby at_414) ?_
        refine X735.iaload hx (j := (2 : Int32)) (v := (.int ((vL2 + (0 : Int32)) + ((((vO0.toUInt64 >>> ((((1 : Int32) + (own_bits vZ0)) + (own_bits vZ1)) &&& 0x3f).toInt64.toUInt64).toInt64) &&& (own_msk vZ2)).toInt32)))) Arc754.1 (State.isArrayOf_alike hZ.alike Arc754.2.1) Arc754.2.2 hin755 hat756 (g := (mkF m 415 #[Si p1, Si p2, Si p3, Sl q4, S2, Sl q5, S2, Si p6, Si vZ0, Si vZ1, Si vZ2, Si vL0, Si vL1, Si vL2, Si (0 : Int32), Si vZ0, Si vL0, Si vV, Sr b77, Sr b160, Sl vO0, S2, Sl vO1, S2, Sl vO2, S2, Sr b611, Sr b646, Sr b671, Si (1 : Int32), Su, Su] [(.int (2 : Int32)), (.ref b646), (.int ((vL2 + (0 : Int32)) + (((((own_upd vO0 (1 : Int32) (own_msk vZ0) (vL0 + (0 : Int32)) vV).toUInt64 >>> ((((1 : Int32) + (own_bits vZ0)) + (own_bits vZ1)) &&& 0x3f).toInt64.toUInt64).toInt64) &&& (own_msk vZ2)).toInt32))), (.int (1 : Int32))])) rfl rfl (hb hby at_415) _ ?_
        refine XS.icmpNo X735.here hx rfl (hb hby at_416) rfl (teq hc757).2 ?_
        refine XS.iconst X735.here hx rfl (hb hby at_419) ?_
        refine XS.goto X735.here hx rfl (pc0 := 420) (pc' := 424) rfl (hb hby at_420) (by decide) (by decide) ?_
        refine XS.iand X735.here hx rfl (hb hby at_424) rfl ?_
        refine XS.istore X735.here hx rfl (hb hby at_425) rfl (l' := #[Si p1, Si p2, Si p3, Sl q4, S2, Sl q5, S2, Si p6, Si vZ0, Si vZ1, Si vZ2, Si vL0, Si vL1, Si vL2, Si (0 : Int32), Si vZ0, Si vL0, Si vV, Sr b77, Sr b160, Sl vO0, S2, Sl vO1, S2, Sl vO2, S2, Sr b611, Sr b646, Sr b671, Si (1 : Int32), Su, Su]) rfl ?_
        show Steps _ _ _ (T735.setTop (mkF m 427 #[Si p1, Si p2, Si p3, Sl q4, S2, Sl q5, S2, Si p6, Si vZ0, Si vZ1, Si vZ2, Si vL0, Si vL1, Si vL2, Si (0 : Int32), Si vZ0, Si vL0, Si vV, Sr b77, Sr b160, Sl vO0, S2, Sl vO1, S2, Sl vO2, S2, Sr b611, Sr b646, Sr b671, Si (1 : Int32), Su, Su] [])) _
        exact k
      have F759 : Arv Z T735.heap b611 k611 .long (3 : Int32) [(.long (own_upd vO0 (1 : Int32) (own_msk vZ0) (vL0 + (0 : Int32)) vV)), (.long vO1), (.long vO2)] (.long (0 : Int64)) := (q722_1.keep q735_0 (ninS ne693 nin0))
      obtain ⟨c760, Arc760, Aqc760, Asc760, Anc760, Ahc760, Agc760⟩ := id F759
      have hin761 : ¬ ((0 : Int32) < 0 ∨ c760.slots.size ≤ ((0 : Int32)).toNatClampNeg) := inb_of Asc760 ⟨by decide, by decide⟩
      have hat762 : c760.slots[((0 : Int32)).toNatClampNeg]? = some (.long (own_upd vO0 (1 : Int32) (own_msk vZ0) (vL0 + (0 : Int32)) vV)) := Has.at Ahc760 hin761 rfl
      have hc763 : ((own_upd vO0 (1 : Int32) (own_msk vZ0) (vL0 + (0 : Int32)) vV) &&& (1 : Int64)) = (1 : Int64) := by rw [hvO0]; exact own_lowG G0 (Nat.le_refl _)
      obtain ⟨c764, Arc764, Aqc764, Asc764, Anc764, Ahc764, Agc764⟩ := id F759
      have hin765 : ¬ ((2 : Int32) < 0 ∨ c764.slots.size ≤ ((2 : Int32)).toNatClampNeg) := inb_of Asc764 ⟨by decide, by decide⟩
      have hat766 : c764.slots[((2 : Int32)).toNatClampNeg]? = some (.long vO2) := Has.at Ahc764 hin765 rfl
      obtain ⟨c767, Arc767, Aqc767, Asc767, Anc767, Ahc767, Agc767⟩ := id F759
      have hin768 : ¬ ((0 : Int32) < 0 ∨ c767.slots.size ≤ ((0 : Int32)).toNatClampNeg) := inb_of Asc767 ⟨by decide, by decide⟩
      have hat769 : c767.slots[((0 : Int32)).toNatClampNeg]? = some (.long (own_upd vO0 (1 : Int32) (own_msk vZ0) (vL0 + (0 : Int32)) vV)) := Has.at Ahc767 hin768 rfl
      obtain ⟨c771, Arc771, Aqc771, Asc771, Anc771, Ahc771, Agc771⟩ := id F759
      have hin772 : ¬ ((1 : Int32) < 0 ∨ c771.slots.size ≤ ((1 : Int32)).toNatClampNeg) := inb_of Asc771 ⟨by decide, by decide⟩
      have hat773 : c771.slots[((1 : Int32)).toNatClampNeg]? = some (.long vO1) := Has.at Ahc771 hin772 rfl
      have pre774 : ∀ t, Steps p.tables e below (T735.setTop (mkF m 495 #[Si p1, Si p2, Si p3, Sl q4, S2, Sl q5, S2, Si p6, Si vZ0, Si vZ1, Si vZ2, Si vL0, Si vL1, Si vL2, Si (0 : Int32), Si vZ0, Si vL0, Si vV, Sr b77, Sr b160, Sl vO0, S2, Sl vO1, S2, Sl vO2, S2, Sr b611, Sr b646, Sr b671, Si (1 : Int32), Su, Su] [(.int (1 : Int32)), (.int (1 : Int32))])) t → Steps p.tables e below (s₁.setTop (entryFrame m #[(.int p1), (.int p2), (.int p3), (.long q4), (.long q5), (.int p6)] maxLocals)) t := by
        intro t k
        refine pre758 t ?_
        refine XS.iload X735.here hx rfl (hb hby at_427) rfl ?_
        refine XS.aload X735.here hx rfl (hb hby at_429) rfl rfl ?_
        refine XS.iconst X735.here hx rfl (hb hby at_431) ?_
        refine X735.laload hx (j := (0 : Int32)) (v := (.long (own_upd vO0 (1 : Int32) (own_msk vZ0) (vL0 + (0 : Int32)) vV))) Arc760.1 (State.isArrayOf_alike hZ.alike Arc760.2.1) Arc760.2.2 hin761 hat762 (g := (mkF m 432 #[Si p1, Si p2, Si p3, Sl q4, S2, Sl q5, S2, Si p6, Si vZ0, Si vZ1, Si vZ2, Si vL0, Si vL1, Si vL2, Si (0 : Int32), Si vZ0, Si vL0, Si vV, Sr b77, Sr b160, Sl vO0, S2, Sl vO1, S2, Sl vO2, S2, Sr b611, Sr b646, Sr b671, Si (1 : Int32), Su, Su] [(.int (0 : Int32)), (.ref b611), (.int (1 : Int32))])) rfl rfl (hb hby at_432) _ ?_
        refine XS.lconst X735.here hx rfl (hb hby at_433) ?_
        refine XS.land X735.here hx rfl (hb hby at_434) rfl ?_
        refine XS.lconst X735.here hx rfl (hb hby at_435) ?_
        refine XS.lcmp X735.here hx rfl (hb hby at_436) rfl ?_
        refine XS.ifNo X735.here hx rfl (hb hby at_437) rfl ((if0 _ _).trans (teq ((lw_eq _ _).mpr hc763)).2) ?_
        refine XS.iconst X735.here hx rfl (hb hby at_440) ?_
        show Steps _ _ _ (T735.setTop (mkF m 441 #[Si p1, Si p2, Si p3, Sl q4, S2, Sl q5, S2, Si p6, Si vZ0, Si vZ1, Si vZ2, Si vL0, Si vL1, Si vL2, Si (0 : Int32), Si vZ0, Si vL0, Si vV, Sr b77, Sr b160, Sl vO0, S2, Sl vO1, S2, Sl vO2, S2, Sr b611, Sr b646, Sr b671, Si (1 : Int32), Su, Su] [(.int (1 : Int32)), (.int (1 : Int32))])) _
        refine XS.goto X735.here hx rfl (pc0 := 441) (pc' := 445) rfl (hb hby at_441) (by decide) (by decide) ?_
        refine XS.iand X735.here hx rfl (hb hby at_445) rfl ?_
        refine XS.istore X735.here hx rfl (hb hby at_446) rfl (l' := #[Si p1, Si p2, Si p3, Sl q4, S2, Sl q5, S2, Si p6, Si vZ0, Si vZ1, Si vZ2, Si vL0, Si vL1, Si vL2, Si (0 : Int32), Si vZ0, Si vL0, Si vV, Sr b77, Sr b160, Sl vO0, S2, Sl vO1, S2, Sl vO2, S2, Sr b611, Sr b646, Sr b671, Si (1 : Int32), Su, Su]) rfl ?_
        refine XS.iload X735.here hx rfl (hb hby at_448) rfl ?_
        refine XS.aload X735.here hx rfl (hb hby at_450) rfl rfl ?_
        refine XS.iconst X735.here hx rfl (hb hby at_452) ?_
        refine X735.laload hx (j := (2 : Int32)) (v := (.long vO2)) Arc764.1 (State.isArrayOf_alike hZ.alike Arc764.2.1) Arc764.2.2 hin765 hat766 (g := (mkF m 453 #[Si p1, Si p2, Si p3, Sl q4, S2, Sl q5, S2, Si p6, Si vZ0, Si vZ1, Si vZ2, Si vL0, Si vL1, Si vL2, Si (0 : Int32), Si vZ0, Si vL0, Si vV, Sr b77, Sr b160, Sl vO0, S2, Sl vO1, S2, Sl vO2, S2, Sr b611, Sr b646, Sr b671, Si (1 : Int32), Su, Su] [(.int (2 : Int32)), (.ref b611), (.int (1 : Int32))])) rfl rfl (hb hby at_453) _ ?_
        refine XS.lload X735.here hx rfl (hb hby at_454) rfl ?_
        refine XS.lcmp X735.here hx rfl (hb hby at_456) rfl ?_
        refine XS.ifNo X735.here hx rfl (hb hby at_457) rfl ((if0 _ _).trans (teq ((lw_eq _ _).mpr rfl)).2) ?_
        show Steps _ _ _ (T735.setTop (mkF m 460 #[Si p1, Si p2, Si p3, Sl q4, S2, Sl q5, S2, Si p6, Si vZ0, Si vZ1, Si vZ2, Si vL0, Si vL1, Si vL2, Si (0 : Int32), Si vZ0, Si vL0, Si vV, Sr b77, Sr b160, Sl vO0, S2, Sl vO1, S2, Sl vO2, S2, Sr b611, Sr b646, Sr b671, Si (1 : Int32), Su, Su] [(.int (1 : Int32))])) _
        refine XS.iconst X735.here hx rfl (hb hby at_460) ?_
        refine XS.goto X735.here hx rfl (pc0 := 461) (pc' := 465) rfl (hb hby at_461) (by decide) (by decide) ?_
        refine XS.iand X735.here hx rfl (hb hby at_465) rfl ?_
        refine XS.istore X735.here hx rfl (hb hby at_466) rfl (l' := #[Si p1, Si p2, Si p3, Sl q4, S2, Sl q5, S2, Si p6, Si vZ0, Si vZ1, Si vZ2, Si vL0, Si vL1, Si vL2, Si (0 : Int32), Si vZ0, Si vL0, Si vV, Sr b77, Sr b160, Sl vO0, S2, Sl vO1, S2, Sl vO2, S2, Sr b611, Sr b646, Sr b671, Si (1 : Int32), Su, Su]) rfl ?_
        refine XS.iload X735.here hx rfl (hb hby at_468) rfl ?_
        refine XS.aload X735.here hx rfl (hb hby at_470) rfl rfl ?_
        refine XS.iconst X735.here hx rfl (hb hby at_472) ?_
        refine X735.laload hx (j := (0 : Int32)) (v := (.long (own_upd vO0 (1 : Int32) (own_msk vZ0) (vL0 + (0 : Int32)) vV))) Arc767.1 (State.isArrayOf_alike hZ.alike Arc767.2.1) Arc767.2.2 hin768 hat769 (g := (mkF m 473 #[Si p1, Si p2, Si p3, Sl q4, S2, Sl q5, S2, Si p6, Si vZ0, Si vZ1, Si vZ2, Si vL0, Si vL1, Si vL2, Si (0 : Int32), Si vZ0, Si vL0, Si vV, Sr b77, Sr b160, Sl vO0, S2, Sl vO1, S2, Sl vO2, S2, Sr b611, Sr b646, Sr b671, Si (1 : Int32), Su, Su] [(.int (0 : Int32)), (.ref b611), (.int (1 : Int32))])) rfl rfl (hb hby at_473) _ ?_
        refine XS.lload X735.here hx rfl (hb hby at_474) rfl ?_
        refine XS.lcmp X735.here hx rfl (hb hby at_476) rfl ?_
        show Steps _ _ _ (T735.setTop (mkF m 477 #[Si p1, Si p2, Si p3, Sl q4, S2, Sl q5, S2, Si p6, Si vZ0, Si vZ1, Si vZ2, Si vL0, Si vL1, Si vL2, Si (0 : Int32), Si vZ0, Si vL0, Si vV, Sr b77, Sr b160, Sl vO0, S2, Sl vO1, S2, Sl vO2, S2, Sr b611, Sr b646, Sr b671, Si (1 : Int32), Su, Su] [(.int (lcmpW (own_upd vO0 (1 : Int32) (own_msk vZ0) (vL0 + (0 : Int32)) vV) vO0)), (.int (1 : Int32))])) _
        by_cases hc770 : (own_upd vO0 (1 : Int32) (own_msk vZ0) (vL0 + (0 : Int32)) vV) = vO0
        · refine XS.ifYes X735.here hx rfl (pc0 := 477) (pc' := 490) rfl (hb hby at_477) rfl ((if0 _ _).trans (teq ((lw_eq _ _).mpr hc770)).1) (by decide) (by decide) ?_
          refine XS.iconst X735.here hx rfl (hb hby at_490) ?_
          refine XS.goto X735.here hx rfl (pc0 := 491) (pc' := 495) rfl (hb hby at_491) (by decide) (by decide) ?_
          exact k
        · refine XS.ifNo X735.here hx rfl (hb hby at_477) rfl ((if0 _ _).trans (feq (fun z => hc770 ((lw_eq _ _).mp z))).1) ?_
          refine XS.aload X735.here hx rfl (hb hby at_480) rfl rfl ?_
          refine XS.iconst X735.here hx rfl (hb hby at_482) ?_
          refine X735.laload hx (j := (1 : Int32)) (v := (.long vO1)) Arc771.1 (State.isArrayOf_alike hZ.alike Arc771.2.1) Arc771.2.2 hin772 hat773 (g := (mkF m 483 #[Si p1, Si p2, Si p3, Sl q4, S2, Sl q5, S2, Si p6, Si vZ0, Si vZ1, Si vZ2, Si vL0, Si vL1, Si vL2, Si (0 : Int32), Si vZ0, Si vL0, Si vV, Sr b77, Sr b160, Sl vO0, S2, Sl vO1, S2, Sl vO2, S2, Sr b611, Sr b646, Sr b671, Si (1 : Int32), Su, Su] [(.int (1 : Int32)), (.ref b611), (.int (1 : Int32))])) rfl rfl (hb hby at_483) _ ?_
          refine XS.lload X735.here hx rfl (hb hby at_484) rfl ?_
          refine XS.lcmp X735.here hx rfl (hb hby at_486) rfl ?_
          refine XS.ifNo X735.here hx rfl (hb hby at_487) rfl ((if0 _ _).trans (teq ((lw_eq _ _).mpr rfl)).2) ?_
          refine XS.iconst X735.here hx rfl (hb hby at_490) ?_
          refine XS.goto X735.here hx rfl (pc0 := 491) (pc' := 495) rfl (hb hby at_491) (by decide) (by decide) ?_
          exact k
      obtain ⟨c775, Arc775, Aqc775, Asc775, Anc775, Ahc775, Agc775⟩ := id F746
      have hin776 : ¬ ((0 : Int32) < 0 ∨ c775.slots.size ≤ ((0 : Int32)).toNatClampNeg) := inb_of Asc775 ⟨by decide, by decide⟩
      have hat777 : c775.slots[((0 : Int32)).toNatClampNeg]? = some (.int ((vL0 + (0 : Int32)) + ((((vO0.toUInt64 >>> ((1 : Int32) &&& 0x3f).toInt64.toUInt64).toInt64) &&& (own_msk vZ0)).toInt32))) := Has.at Ahc775 hin776 rfl
      have pre778 : ∀ t, Steps p.tables e below (T735.setTop (mkF m 514 #[Si p1, Si p2, Si p3, Sl q4, S2, Sl q5, S2, Si p6, Si vZ0, Si vZ1, Si vZ2, Si vL0, Si vL1, Si vL2, Si (0 : Int32), Si vZ0, Si vL0, Si vV, Sr b77, Sr b160, Sl vO0, S2, Sl vO1, S2, Sl vO2, S2, Sr b611, Sr b646, Sr b671, Si (1 : Int32), Sl ((((vL0 + (0 : Int32)) + ((((vO0.toUInt64 >>> ((1 : Int32) &&& 0x3f).toInt64.toUInt64).toInt64) &&& (own_msk vZ0)).toInt32)).toInt64) - (vL0.toInt64)), S2] [(.int (lcmpW ((((vL0 + (0 : Int32)) + ((((vO0.toUInt64 >>> ((1 : Int32) &&& 0x3f).toInt64.toUInt64).toInt64) &&& (own_msk vZ0)).toInt32)).toInt64) - (vL0.toInt64)) (0 : Int64)))])) t → Steps p.tables e below (s₁.setTop (entryFrame m #[(.int p1), (.int p2), (.int p3), (.long q4), (.long q5), (.int p6)] maxLocals)) t := by
        intro t k
        refine pre774 t ?_
        refine XS.iand X735.here hx rfl (hb hby at_495) rfl ?_
        refine XS.istore X735.here hx rfl (hb hby at_496) rfl (l' := #[Si p1, Si p2, Si p3, Sl q4, S2, Sl q5, S2, Si p6, Si vZ0, Si vZ1, Si vZ2, Si vL0, Si vL1, Si vL2, Si (0 : Int32), Si vZ0, Si vL0, Si vV, Sr b77, Sr b160, Sl vO0, S2, Sl vO1, S2, Sl vO2, S2, Sr b611, Sr b646, Sr b671, Si (1 : Int32), Su, Su]) rfl ?_
        refine XS.aload X735.here hx rfl (hb hby at_498) rfl rfl ?_
        refine XS.iload X735.here hx rfl (hb hby at_500) rfl ?_
        refine X735.iaload hx (j := (0 : Int32)) (v := (.int ((vL0 + (0 : Int32)) + ((((vO0.toUInt64 >>> ((1 : Int32) &&& 0x3f).toInt64.toUInt64).toInt64) &&& (own_msk vZ0)).toInt32)))) Arc775.1 (State.isArrayOf_alike hZ.alike Arc775.2.1) Arc775.2.2 hin776 hat777 (g := (mkF m 502 #[Si p1, Si p2, Si p3, Sl q4, S2, Sl q5, S2, Si p6, Si vZ0, Si vZ1, Si vZ2, Si vL0, Si vL1, Si vL2, Si (0 : Int32), Si vZ0, Si vL0, Si vV, Sr b77, Sr b160, Sl vO0, S2, Sl vO1, S2, Sl vO2, S2, Sr b611, Sr b646, Sr b671, Si (1 : Int32), Su, Su] [(.int (0 : Int32)), (.ref b646)])) rfl rfl (hb hby at_502) _ ?_
        refine XS.i2l X735.here hx rfl (hb hby at_503) rfl ?_
        refine XS.iload X735.here hx rfl (hb hby at_504) rfl ?_
        refine XS.i2l X735.here hx rfl (hb hby at_506) rfl ?_
        refine XS.lsub X735.here hx rfl (hb hby at_507) rfl ?_
        refine XS.lstore X735.here hx rfl (hb hby at_508) rfl (l' := #[Si p1, Si p2, Si p3, Sl q4, S2, Sl q5, S2, Si p6, Si vZ0, Si vZ1, Si vZ2, Si vL0, Si vL1, Si vL2, Si (0 : Int32), Si vZ0, Si vL0, Si vV, Sr b77, Sr b160, Sl vO0, S2, Sl vO1, S2, Sl vO2, S2, Sr b611, Sr b646, Sr b671, Si (1 : Int32), Sl ((((vL0 + (0 : Int32)) + ((((vO0.toUInt64 >>> ((1 : Int32) &&& 0x3f).toInt64.toUInt64).toInt64) &&& (own_msk vZ0)).toInt32)).toInt64) - (vL0.toInt64)), S2]) rfl ?_
        show Steps _ _ _ (T735.setTop (mkF m 510 #[Si p1, Si p2, Si p3, Sl q4, S2, Sl q5, S2, Si p6, Si vZ0, Si vZ1, Si vZ2, Si vL0, Si vL1, Si vL2, Si (0 : Int32), Si vZ0, Si vL0, Si vV, Sr b77, Sr b160, Sl vO0, S2, Sl vO1, S2, Sl vO2, S2, Sr b611, Sr b646, Sr b671, Si (1 : Int32), Sl ((((vL0 + (0 : Int32)) + ((((vO0.toUInt64 >>> ((1 : Int32) &&& 0x3f).toInt64.toUInt64).toInt64) &&& (own_msk vZ0)).toInt32)).toInt64) - (vL0.toInt64)), S2] [])) _
        refine XS.lload X735.here hx rfl (hb hby at_510) rfl ?_
        refine XS.lconst X735.here hx rfl (hb hby at_512) ?_
        refine XS.lcmp X735.here hx rfl (hb hby at_513) rfl ?_
        exact k
      by_cases hd0 : ((((vL0 + (0 : Int32)) + ((((vO0.toUInt64 >>> ((1 : Int32) &&& 0x3f).toInt64.toUInt64).toInt64) &&& (own_msk vZ0)).toInt32)).toInt64) - (vL0.toInt64)) < (0 : Int64)
      · have pre779 : ∀ t, Steps p.tables e below (T735.setTop (mkF m 582 #[Si p1, Si p2, Si p3, Sl q4, S2, Sl q5, S2, Si p6, Si vZ0, Si vZ1, Si vZ2, Si vL0, Si vL1, Si vL2, Si (0 : Int32), Si vZ0, Si vL0, Si vV, Sr b77, Sr b160, Sl vO0, S2, Sl vO1, S2, Sl vO2, S2, Sr b611, Sr b646, Sr b671, Si (1 : Int32), Sl ((((vL0 + (0 : Int32)) + ((((vO0.toUInt64 >>> ((1 : Int32) &&& 0x3f).toInt64.toUInt64).toInt64) &&& (own_msk vZ0)).toInt32)).toInt64) - (vL0.toInt64)), S2] [(.int (1 : Int32))])) t → Steps p.tables e below (s₁.setTop (entryFrame m #[(.int p1), (.int p2), (.int p3), (.long q4), (.long q5), (.int p6)] maxLocals)) t := by
          intro t k
          refine pre778 t ?_
          refine XS.ifYes X735.here hx rfl (pc0 := 514) (pc' := 580) rfl (hb hby at_514) rfl ((if0 _ _).trans (tlt ((lw_lt _ _).mpr hd0)).1) (by decide) (by decide) ?_
          refine XS.iload X735.here hx rfl (hb hby at_580) rfl ?_
          exact k
        obtain ⟨fs, hr, hrun, hended, hW, hsame⟩ := X735.leave (v := some (.int (1 : Int32))) (fun h => by rw [Bd.returns] at h; cases h)
        refine ⟨_, _, pre779 _ ?_, hrun, hended, _, _, rfl, ?_, ⟨_, rfl⟩, hW, hsame.mono (by decide) (by decide)⟩
        · exact retN X735 hx (t := .boolean) Bd.returns (by simp) (hb hby at_582) hr
        · show Q_rm0 Z p1 p2 p3 q4 q5 p6 wE kE h0 n0 _ T735.heap _
          exact ⟨rfl, N737, KC738⟩
      · have pre780 : ∀ t, Steps p.tables e below (T735.setTop (mkF m 523 #[Si p1, Si p2, Si p3, Sl q4, S2, Sl q5, S2, Si p6, Si vZ0, Si vZ1, Si vZ2, Si vL0, Si vL1, Si vL2, Si (0 : Int32), Si vZ0, Si vL0, Si vV, Sr b77, Sr b160, Sl vO0, S2, Sl vO1, S2, Sl vO2, S2, Sr b611, Sr b646, Sr b671, Si (1 : Int32), Sl ((((vL0 + (0 : Int32)) + ((((vO0.toUInt64 >>> ((1 : Int32) &&& 0x3f).toInt64.toUInt64).toInt64) &&& (own_msk vZ0)).toInt32)).toInt64) - (vL0.toInt64)), S2] [(.int (lcmpW ((((vL0 + (0 : Int32)) + ((((vO0.toUInt64 >>> ((1 : Int32) &&& 0x3f).toInt64.toUInt64).toInt64) &&& (own_msk vZ0)).toInt32)).toInt64) - (vL0.toInt64)) (vZ0.toInt64)))])) t → Steps p.tables e below (s₁.setTop (entryFrame m #[(.int p1), (.int p2), (.int p3), (.long q4), (.long q5), (.int p6)] maxLocals)) t := by
          intro t k
          refine pre778 t ?_
          refine XS.ifNo X735.here hx rfl (hb hby at_514) rfl ((if0 _ _).trans (flt (fun z => hd0 ((lw_lt _ _).mp z))).1) ?_
          refine XS.lload X735.here hx rfl (hb hby at_517) rfl ?_
          refine XS.iload X735.here hx rfl (hb hby at_519) rfl ?_
          refine XS.i2l X735.here hx rfl (hb hby at_521) rfl ?_
          refine XS.lcmp X735.here hx rfl (hb hby at_522) rfl ?_
          exact k
        by_cases hd1 : ((((vL0 + (0 : Int32)) + ((((vO0.toUInt64 >>> ((1 : Int32) &&& 0x3f).toInt64.toUInt64).toInt64) &&& (own_msk vZ0)).toInt32)).toInt64) - (vL0.toInt64)) < (vZ0.toInt64)
        · obtain ⟨c781, Arc781, Aqc781, Asc781, Anc781, Ahc781, Agc781⟩ := id F746
          have hin782 : ¬ ((0 : Int32) < 0 ∨ c781.slots.size ≤ ((0 : Int32)).toNatClampNeg) := inb_of Asc781 ⟨by decide, by decide⟩
          have hat783 : c781.slots[((0 : Int32)).toNatClampNeg]? = some (.int ((vL0 + (0 : Int32)) + ((((vO0.toUInt64 >>> ((1 : Int32) &&& 0x3f).toInt64.toUInt64).toInt64) &&& (own_msk vZ0)).toInt32))) := Has.at Ahc781 hin782 rfl
          have F784 : Fld Z T735.heap b160 "com/example/darlington/darlington/core/StateLayout" "wordOf" "[I" (.ref r1_191) := (F726.keep q735_0 (ninS ne683 nin0))
          have F785 : Arv Z T735.heap r1_191 c1_191 .int (3 : Int32) [(.int (0 : Int32)), (.int (0 : Int32)), (.int (0 : Int32))] (.int (0 : Int32)) := (F727.keep q735_0 (ninS ne685 nin0))
          have F786 : Fld Z T735.heap b160 "com/example/darlington/darlington/core/StateLayout" "shiftOf" "[I" (.ref r2_191) := (F728.keep q735_0 (ninS ne683 nin0))
          have F787 : Arv Z T735.heap r2_191 c2_191 .int (3 : Int32) [(.int (1 : Int32)), (.int ((1 : Int32) + (own_bits vZ0))), (.int (((1 : Int32) + (own_bits vZ0)) + (own_bits vZ1)))] (.int (0 : Int32)) := (F729.keep q735_0 (ninS ne687 nin0))
          have F788 : Fld Z T735.heap b160 "com/example/darlington/darlington/core/StateLayout" "maskOf" "[J" (.ref r3_191) := (F730.keep q735_0 (ninS ne683 nin0))
          have F789 : Arv Z T735.heap r3_191 c3_191 .long (3 : Int32) [(.long (own_msk vZ0)), (.long (own_msk vZ1)), (.long (own_msk vZ2))] (.long (0 : Int64)) := (F731.keep q735_0 (ninS ne689 nin0))
          have F790 : Fld Z T735.heap b160 "com/example/darlington/darlington/core/StateLayout" "firstOf" "[I" (.ref r4_191) := (F732.keep q735_0 (ninS ne683 nin0))
          have F791 : Arv Z T735.heap r4_191 c4_191 .int (3 : Int32) [(.int (vL0 + (0 : Int32))), (.int (vL1 + (0 : Int32))), (.int (vL2 + (0 : Int32)))] (.int (0 : Int32)) := (F733.keep q735_0 (ninS ne691 nin0))
          have F793 : Exa Z T735.heap b160 "com/example/darlington/darlington/core/StateLayout" := (F736.keep q735_0)
          obtain ⟨cq792, kq792, q792a, q792b, q792c⟩ := isOf hZ rfl F793
          obtain ⟨_, _, ⟨T792, L792, k792, n792⟩, -, X792, ⟨Lc792, hQ792, l792, y792, z792⟩, st792⟩ := X735.virtualBack hx (y := (⟨"com/example/darlington/darlington/core/StateLayout", "set", "([JII)V"⟩ : MethodName)) (z := (⟨"com/example/darlington/darlington/core/StateLayout", "set", "([JII)V"⟩ : MethodName)) hown (mvT hZ (ow hw 159 rfl)) (mvT hZ (ow hw 160 rfl)) (notFace_of_selects (args := #[]) (mvT hZ (ow hw 162 rfl))) (mvT hZ (ow hw 162 rfl)) (mvT hZ (ow hw 161 rfl)) (by decide) (backOf (W := 0) (rm_set0 l Z a0 hw [] b160 b611 ((vL0 + (0 : Int32)) + ((((vO0.toUInt64 >>> ((1 : Int32) &&& 0x3f).toInt64.toUInt64).toInt64) &&& (own_msk vZ0)).toInt32)) r1_191 r2_191 r3_191 r4_191 c1_191 c2_191 c3_191 c4_191 (1 : Int32) ((1 : Int32) + (own_bits vZ0)) (((1 : Int32) + (own_bits vZ0)) + (own_bits vZ1)) (own_msk vZ0) (own_msk vZ1) (own_msk vZ2) (vL0 + (0 : Int32)) (vL1 + (0 : Int32)) (vL2 + (0 : Int32)) (0 : Int32) k611 (own_upd vO0 (1 : Int32) (own_msk vZ0) (vL0 + (0 : Int32)) vV) vO1 vO2 T735.heap n0 (Nat.le_trans Z0 KC738.1) F784 F785 F786 F787 F788 F789 F790 F791 F759 ge628) hZ (ow hw 163 rfl) (ow hw 88 rfl) (by decide) (by decide)) q792a q792c (g := (mkF m 537 #[Si p1, Si p2, Si p3, Sl q4, S2, Sl q5, S2, Si p6, Si vZ0, Si vZ1, Si vZ2, Si vL0, Si vL1, Si vL2, Si (0 : Int32), Si vZ0, Si vL0, Si vV, Sr b77, Sr b160, Sl vO0, S2, Sl vO1, S2, Sl vO2, S2, Sr b611, Sr b646, Sr b671, Si (1 : Int32), Sl ((((vL0 + (0 : Int32)) + ((((vO0.toUInt64 >>> ((1 : Int32) &&& 0x3f).toInt64.toUInt64).toInt64) &&& (own_msk vZ0)).toInt32)).toInt64) - (vL0.toInt64)), S2] [(.int ((vL0 + (0 : Int32)) + ((((vO0.toUInt64 >>> ((1 : Int32) &&& 0x3f).toInt64.toUInt64).toInt64) &&& (own_msk vZ0)).toInt32))), (.int (0 : Int32)), (.ref b611), (.ref b160)])) rfl (by rw [hml]; rfl) (Steps.refl _) (argsL := [(.ref b611), (.int (0 : Int32)), (.int ((vL0 + (0 : Int32)) + ((((vO0.toUInt64 >>> ((1 : Int32) &&& 0x3f).toInt64.toUInt64).toInt64) &&& (own_msk vZ0)).toInt32)))]) (rest := []) (lenOf pd_13 rfl) rfl (by show 2 * 0 + _ ≤ _; exact Nat.le_of_eq rfl) (hb hby at_537) (fun _ _ => ⟨rfl, rfl, (by decide : 13 + 0 ≤ _), (by decide : 45 + 0 ≤ _)⟩)
          dsimp only [Pt.U, Pt.locs, Pt.cells, Pt.slots] at X792 l792 y792 z792 st792 hQ792
          subst y792 z792
          obtain ⟨rfl, Nq792, q792_0, q792_1⟩ := hQ792
          have N794 := Eq.subst (motive := fun L => Fr n0 L) l792.symm (Fr.app N737 Nq792)
          have KC795 : Keep h0 T792.heap [] := KC738.trans q792_0 (allS (Or.inr sz629) all0)
          obtain ⟨c796, Arc796, Aqc796, Asc796, Anc796, Ahc796, Agc796⟩ := id q792_1
          have hin797 : ¬ ((0 : Int32) < 0 ∨ c796.slots.size ≤ ((0 : Int32)).toNatClampNeg) := inb_of Asc796 ⟨by decide, by decide⟩
          have hat798 : c796.slots[((0 : Int32)).toNatClampNeg]? = some (.long (own_upd (own_upd vO0 (1 : Int32) (own_msk vZ0) (vL0 + (0 : Int32)) vV) (1 : Int32) (own_msk vZ0) (vL0 + (0 : Int32)) ((vL0 + (0 : Int32)) + ((((vO0.toUInt64 >>> ((1 : Int32) &&& 0x3f).toInt64.toUInt64).toInt64) &&& (own_msk vZ0)).toInt32)))) := Has.at Ahc796 hin797 rfl
          have hc799 : (own_upd (own_upd vO0 (1 : Int32) (own_msk vZ0) (vL0 + (0 : Int32)) vV) (1 : Int32) (own_msk vZ0) (vL0 + (0 : Int32)) ((vL0 + (0 : Int32)) + ((((vO0.toUInt64 >>> ((1 : Int32) &&& 0x3f).toInt64.toUInt64).toInt64) &&& (own_msk vZ0)).toInt32))) = vO0 := own_uuG G0 (own_back G0.2.2.2 B0 _ (own_fldB G0.2.2.2 B0).1 (own_fldB G0.2.2.2 B0).2 hd0)
          obtain ⟨c800, Arc800, Aqc800, Asc800, Anc800, Ahc800, Agc800⟩ := id q792_1
          have hin801 : ¬ ((1 : Int32) < 0 ∨ c800.slots.size ≤ ((1 : Int32)).toNatClampNeg) := inb_of Asc800 ⟨by decide, by decide⟩
          have hat802 : c800.slots[((1 : Int32)).toNatClampNeg]? = some (.long vO1) := Has.at Ahc800 hin801 rfl
          obtain ⟨c803, Arc803, Aqc803, Asc803, Anc803, Ahc803, Agc803⟩ := id q792_1
          have hin804 : ¬ ((2 : Int32) < 0 ∨ c803.slots.size ≤ ((2 : Int32)).toNatClampNeg) := inb_of Asc803 ⟨by decide, by decide⟩
          have hat805 : c803.slots[((2 : Int32)).toNatClampNeg]? = some (.long vO2) := Has.at Ahc803 hin804 rfl
          have pre806 : ∀ t, Steps p.tables e below (T792.setTop (mkF m 582 #[Si p1, Si p2, Si p3, Sl q4, S2, Sl q5, S2, Si p6, Si vZ0, Si vZ1, Si vZ2, Si vL0, Si vL1, Si vL2, Si (0 : Int32), Si vZ0, Si vL0, Si vV, Sr b77, Sr b160, Sl vO0, S2, Sl vO1, S2, Sl vO2, S2, Sr b611, Sr b646, Sr b671, Si (1 : Int32), Sl ((((vL0 + (0 : Int32)) + ((((vO0.toUInt64 >>> ((1 : Int32) &&& 0x3f).toInt64.toUInt64).toInt64) &&& (own_msk vZ0)).toInt32)).toInt64) - (vL0.toInt64)), S2] [(.int (1 : Int32))])) t → Steps p.tables e below (s₁.setTop (entryFrame m #[(.int p1), (.int p2), (.int p3), (.long q4), (.long q5), (.int p6)] maxLocals)) t := by
            intro t k
            refine pre780 t ?_
            refine XS.ifNo X735.here hx rfl (hb hby at_523) rfl ((if0 _ _).trans (tlt ((lw_lt _ _).mpr hd1)).2.1) ?_
            refine XS.aload X735.here hx rfl (hb hby at_526) rfl rfl ?_
            show Steps _ _ _ (T735.setTop (mkF m 528 #[Si p1, Si p2, Si p3, Sl q4, S2, Sl q5, S2, Si p6, Si vZ0, Si vZ1, Si vZ2, Si vL0, Si vL1, Si vL2, Si (0 : Int32), Si vZ0, Si vL0, Si vV, Sr b77, Sr b160, Sl vO0, S2, Sl vO1, S2, Sl vO2, S2, Sr b611, Sr b646, Sr b671, Si (1 : Int32), Sl ((((vL0 + (0 : Int32)) + ((((vO0.toUInt64 >>> ((1 : Int32) &&& 0x3f).toInt64.toUInt64).toInt64) &&& (own_msk vZ0)).toInt32)).toInt64) - (vL0.toInt64)), S2] [(.ref b160)])) _
            refine XS.aload X735.here hx rfl (hb hby at_528) rfl rfl ?_
            refine XS.iload X735.here hx rfl (hb hby at_530) rfl ?_
            refine XS.aload X735.here hx rfl (hb hby at_532) rfl rfl ?_
            refine XS.iload X735.here hx rfl (hb hby at_534) rfl ?_
            refine X735.iaload hx (j := (0 : Int32)) (v := (.int ((vL0 + (0 : Int32)) + ((((vO0.toUInt64 >>> ((1 : Int32) &&& 0x3f).toInt64.toUInt64).toInt64) &&& (own_msk vZ0)).toInt32)))) Arc781.1 (State.isArrayOf_alike hZ.alike Arc781.2.1) Arc781.2.2 hin782 hat783 (g := (mkF m 536 #[Si p1, Si p2, Si p3, Sl q4, S2, Sl q5, S2, Si p6, Si vZ0, Si vZ1, Si vZ2, Si vL0, Si vL1, Si vL2, Si (0 : Int32), Si vZ0, Si vL0, Si vV, Sr b77, Sr b160, Sl vO0, S2, Sl vO1, S2, Sl vO2, S2, Sr b611, Sr b646, Sr b671, Si (1 : Int32), Sl ((((vL0 + (0 : Int32)) + ((((vO0.toUInt64 >>> ((1 : Int32) &&& 0x3f).toInt64.toUInt64).toInt64) &&& (own_msk vZ0)).toInt32)).toInt64) - (vL0.toInt64)), S2] [(.int (0 : Int32)), (.ref b646), (.int (0 : Int32)), (.ref b611), (.ref b160)])) rfl rfl (hb hby at_536) _ ?_
            refine st792.trans ?_
            refine XS.iload X792.here hx rfl (hb hby at_540) rfl ?_
            refine XS.aload X792.here hx rfl (hb hby at_542) rfl rfl ?_
            refine XS.iconst X792.here hx rfl (hb hby at_544) ?_
            refine X792.laload hx (j := (0 : Int32)) (v := (.long (own_upd (own_upd vO0 (1 : Int32) (own_msk vZ0) (vL0 + (0 : Int32)) vV) (1 : Int32) (own_msk vZ0) (vL0 + (0 : Int32)) ((vL0 + (0 : Int32)) + ((((vO0.toUInt64 >>> ((1 : Int32) &&& 0x3f).toInt64.toUInt64).toInt64) &&& (own_msk vZ0)).toInt32))))) Arc796.1 (State.isArrayOf_alike hZ.alike Arc796.2.1) Arc796.2.2 hin797 hat798 (g := (mkF m 545 #[Si p1, Si p2, Si p3, Sl q4, S2, Sl q5, S2, Si p6, Si vZ0, Si vZ1, Si vZ2, Si vL0, Si vL1, Si vL2, Si (0 : Int32), Si vZ0, Si vL0, Si vV, Sr b77, Sr b160, Sl vO0, S2, Sl vO1, S2, Sl vO2, S2, Sr b611, Sr b646, Sr b671, Si (1 : Int32), Sl ((((vL0 + (0 : Int32)) + ((((vO0.toUInt64 >>> ((1 : Int32) &&& 0x3f).toInt64.toUInt64).toInt64) &&& (own_msk vZ0)).toInt32)).toInt64) - (vL0.toInt64)), S2] [(.int (0 : Int32)), (.ref b611), (.int (1 : Int32))])) rfl rfl (hb hby at_545) _ ?_
            show Steps _ _ _ (T792.setTop (mkF m 546 #[Si p1, Si p2, Si p3, Sl q4, S2, Sl q5, S2, Si p6, Si vZ0, Si vZ1, Si vZ2, Si vL0, Si vL1, Si vL2, Si (0 : Int32), Si vZ0, Si vL0, Si vV, Sr b77, Sr b160, Sl vO0, S2, Sl vO1, S2, Sl vO2, S2, Sr b611, Sr b646, Sr b671, Si (1 : Int32), Sl ((((vL0 + (0 : Int32)) + ((((vO0.toUInt64 >>> ((1 : Int32) &&& 0x3f).toInt64.toUInt64).toInt64) &&& (own_msk vZ0)).toInt32)).toInt64) - (vL0.toInt64)), S2] [(.long (own_upd (own_upd vO0 (1 : Int32) (own_msk vZ0) (vL0 + (0 : Int32)) vV) (1 : Int32) (own_msk vZ0) (vL0 + (0 : Int32)) ((vL0 + (0 : Int32)) + ((((vO0.toUInt64 >>> ((1 : Int32) &&& 0x3f).toInt64.toUInt64).toInt64) &&& (own_msk vZ0)).toInt32)))), (.int (1 : Int32))])) _
            refine XS.lload X792.here hx rfl (hb hby at_546) rfl ?_
            refine XS.lcmp X792.here hx rfl (hb hby at_548) rfl ?_
            refine XS.ifNo X792.here hx rfl (hb hby at_549) rfl ((if0 _ _).trans (teq ((lw_eq _ _).mpr hc799)).2) ?_
            refine XS.aload X792.here hx rfl (hb hby at_552) rfl rfl ?_
            refine XS.iconst X792.here hx rfl (hb hby at_554) ?_
            refine X792.laload hx (j := (1 : Int32)) (v := (.long vO1)) Arc800.1 (State.isArrayOf_alike hZ.alike Arc800.2.1) Arc800.2.2 hin801 hat802 (g := (mkF m 555 #[Si p1, Si p2, Si p3, Sl q4, S2, Sl q5, S2, Si p6, Si vZ0, Si vZ1, Si vZ2, Si vL0, Si vL1, Si vL2, Si (0 : Int32), Si vZ0, Si vL0, Si vV, Sr b77, Sr b160, Sl vO0, S2, Sl vO1, S2, Sl vO2, S2, Sr b611, Sr b646, Sr b671, Si (1 : Int32), Sl ((((vL0 + (0 : Int32)) + ((((vO0.toUInt64 >>> ((1 : Int32) &&& 0x3f).toInt64.toUInt64).toInt64) &&& (own_msk vZ0)).toInt32)).toInt64) - (vL0.toInt64)), S2] [(.int (1 : Int32)), (.ref b611), (.int (1 : Int32))])) rfl rfl (hb hby at_555) _ ?_
            refine XS.lload X792.here hx rfl (hb hby at_556) rfl ?_
            refine XS.lcmp X792.here hx rfl (hb hby at_558) rfl ?_
            refine XS.ifNo X792.here hx rfl (hb hby at_559) rfl ((if0 _ _).trans (teq ((lw_eq _ _).mpr rfl)).2) ?_
            refine XS.aload X792.here hx rfl (hb hby at_562) rfl rfl ?_
            show Steps _ _ _ (T792.setTop (mkF m 564 #[Si p1, Si p2, Si p3, Sl q4, S2, Sl q5, S2, Si p6, Si vZ0, Si vZ1, Si vZ2, Si vL0, Si vL1, Si vL2, Si (0 : Int32), Si vZ0, Si vL0, Si vV, Sr b77, Sr b160, Sl vO0, S2, Sl vO1, S2, Sl vO2, S2, Sr b611, Sr b646, Sr b671, Si (1 : Int32), Sl ((((vL0 + (0 : Int32)) + ((((vO0.toUInt64 >>> ((1 : Int32) &&& 0x3f).toInt64.toUInt64).toInt64) &&& (own_msk vZ0)).toInt32)).toInt64) - (vL0.toInt64)), S2] [(.ref b611), (.int (1 : Int32))])) _
            refine XS.iconst X792.here hx rfl (hb hby at_564) ?_
            refine X792.laload hx (j := (2 : Int32)) (v := (.long vO2)) Arc803.1 (State.isArrayOf_alike hZ.alike Arc803.2.1) Arc803.2.2 hin804 hat805 (g := (mkF m 565 #[Si p1, Si p2, Si p3, Sl q4, S2, Sl q5, S2, Si p6, Si vZ0, Si vZ1, Si vZ2, Si vL0, Si vL1, Si vL2, Si (0 : Int32), Si vZ0, Si vL0, Si vV, Sr b77, Sr b160, Sl vO0, S2, Sl vO1, S2, Sl vO2, S2, Sr b611, Sr b646, Sr b671, Si (1 : Int32), Sl ((((vL0 + (0 : Int32)) + ((((vO0.toUInt64 >>> ((1 : Int32) &&& 0x3f).toInt64.toUInt64).toInt64) &&& (own_msk vZ0)).toInt32)).toInt64) - (vL0.toInt64)), S2] [(.int (2 : Int32)), (.ref b611), (.int (1 : Int32))])) rfl rfl (hb hby at_565) _ ?_
            refine XS.lload X792.here hx rfl (hb hby at_566) rfl ?_
            refine XS.lcmp X792.here hx rfl (hb hby at_568) rfl ?_
            refine XS.ifNo X792.here hx rfl (hb hby at_569) rfl ((if0 _ _).trans (teq ((lw_eq _ _).mpr rfl)).2) ?_
            refine XS.iconst X792.here hx rfl (hb hby at_572) ?_
            refine XS.goto X792.here hx rfl (pc0 := 573) (pc' := 577) rfl (hb hby at_573) (by decide) (by decide) ?_
            refine XS.iand X792.here hx rfl (hb hby at_577) rfl ?_
            refine XS.istore X792.here hx rfl (hb hby at_578) rfl (l' := #[Si p1, Si p2, Si p3, Sl q4, S2, Sl q5, S2, Si p6, Si vZ0, Si vZ1, Si vZ2, Si vL0, Si vL1, Si vL2, Si (0 : Int32), Si vZ0, Si vL0, Si vV, Sr b77, Sr b160, Sl vO0, S2, Sl vO1, S2, Sl vO2, S2, Sr b611, Sr b646, Sr b671, Si (1 : Int32), Sl ((((vL0 + (0 : Int32)) + ((((vO0.toUInt64 >>> ((1 : Int32) &&& 0x3f).toInt64.toUInt64).toInt64) &&& (own_msk vZ0)).toInt32)).toInt64) - (vL0.toInt64)), S2]) rfl ?_
            refine XS.iload X792.here hx rfl (hb hby at_580) rfl ?_
            show Steps _ _ _ (T792.setTop (mkF m 582 #[Si p1, Si p2, Si p3, Sl q4, S2, Sl q5, S2, Si p6, Si vZ0, Si vZ1, Si vZ2, Si vL0, Si vL1, Si vL2, Si (0 : Int32), Si vZ0, Si vL0, Si vV, Sr b77, Sr b160, Sl vO0, S2, Sl vO1, S2, Sl vO2, S2, Sr b611, Sr b646, Sr b671, Si (1 : Int32), Sl ((((vL0 + (0 : Int32)) + ((((vO0.toUInt64 >>> ((1 : Int32) &&& 0x3f).toInt64.toUInt64).toInt64) &&& (own_msk vZ0)).toInt32)).toInt64) - (vL0.toInt64)), S2] [(.int (1 : Int32))])) _
            exact k
          obtain ⟨fs, hr, hrun, hended, hW, hsame⟩ := X792.leave (v := some (.int (1 : Int32))) (fun h => by rw [Bd.returns] at h; cases h)
          refine ⟨_, _, pre806 _ ?_, hrun, hended, _, _, rfl, ?_, ⟨_, rfl⟩, hW, hsame.mono (by decide) (by decide)⟩
          · exact retN X792 hx (t := .boolean) Bd.returns (by simp) (hb hby at_582) hr
          · show Q_rm0 Z p1 p2 p3 q4 q5 p6 wE kE h0 n0 _ T792.heap _
            exact ⟨rfl, N794, KC795⟩
        · have pre807 : ∀ t, Steps p.tables e below (T735.setTop (mkF m 582 #[Si p1, Si p2, Si p3, Sl q4, S2, Sl q5, S2, Si p6, Si vZ0, Si vZ1, Si vZ2, Si vL0, Si vL1, Si vL2, Si (0 : Int32), Si vZ0, Si vL0, Si vV, Sr b77, Sr b160, Sl vO0, S2, Sl vO1, S2, Sl vO2, S2, Sr b611, Sr b646, Sr b671, Si (1 : Int32), Sl ((((vL0 + (0 : Int32)) + ((((vO0.toUInt64 >>> ((1 : Int32) &&& 0x3f).toInt64.toUInt64).toInt64) &&& (own_msk vZ0)).toInt32)).toInt64) - (vL0.toInt64)), S2] [(.int (1 : Int32))])) t → Steps p.tables e below (s₁.setTop (entryFrame m #[(.int p1), (.int p2), (.int p3), (.long q4), (.long q5), (.int p6)] maxLocals)) t := by
            intro t k
            refine pre780 t ?_
            refine XS.ifYes X735.here hx rfl (pc0 := 523) (pc' := 580) rfl (hb hby at_523) rfl ((if0 _ _).trans (flt (fun z => hd1 ((lw_lt _ _).mp z))).2.1) (by decide) (by decide) ?_
            refine XS.iload X735.here hx rfl (hb hby at_580) rfl ?_
            show Steps _ _ _ (T735.setTop (mkF m 582 #[Si p1, Si p2, Si p3, Sl q4, S2, Sl q5, S2, Si p6, Si vZ0, Si vZ1, Si vZ2, Si vL0, Si vL1, Si vL2, Si (0 : Int32), Si vZ0, Si vL0, Si vV, Sr b77, Sr b160, Sl vO0, S2, Sl vO1, S2, Sl vO2, S2, Sr b611, Sr b646, Sr b671, Si (1 : Int32), Sl ((((vL0 + (0 : Int32)) + ((((vO0.toUInt64 >>> ((1 : Int32) &&& 0x3f).toInt64.toUInt64).toInt64) &&& (own_msk vZ0)).toInt32)).toInt64) - (vL0.toInt64)), S2] [(.int (1 : Int32))])) _
            exact k
          obtain ⟨fs, hr, hrun, hended, hW, hsame⟩ := X735.leave (v := some (.int (1 : Int32))) (fun h => by rw [Bd.returns] at h; cases h)
          refine ⟨_, _, pre807 _ ?_, hrun, hended, _, _, rfl, ?_, ⟨_, rfl⟩, hW, hsame.mono (by decide) (by decide)⟩
          · exact retN X735 hx (t := .boolean) Bd.returns (by simp) (hb hby at_582) hr
          · show Q_rm0 Z p1 p2 p3 q4 q5 p6 wE kE h0 n0 _ T735.heap _
            exact ⟨rfl, N737, KC738⟩
    · have eSz : vSz = vZ1 := by rw [hvSz, hI]; rfl
      have eLo : vLo = vL1 := by rw [hvLo, hI]; rfl
      rw [hI, eSz, eLo] at pre712
      have hV := own_vv vL1 vZ1 p6 hz1 hl1 vV (by rw [hvV, eSz, eLo])
      have hV2 := own_lt2 hV.2 Y1
      have G2 := G2a hAB
      have F808 : Fld Z T708.heap b160 "com/example/darlington/darlington/core/StateLayout" "wordOf" "[I" (.ref r1_191) := (F698.keep q708_0 (ninS ne658 nin0))
      have F809 : Arv Z T708.heap r1_191 c1_191 .int (3 : Int32) [(.int (0 : Int32)), (.int (0 : Int32)), (.int (0 : Int32))] (.int (0 : Int32)) := (F699.keep q708_0 (ninS ne660 nin0))
      have F810 : Fld Z T708.heap b160 "com/example/darlington/darlington/core/StateLayout" "shiftOf" "[I" (.ref r2_191) := (F700.keep q708_0 (ninS ne658 nin0))
      have F811 : Arv Z T708.heap r2_191 c2_191 .int (3 : Int32) [(.int (1 : Int32)), (.int ((1 : Int32) + (own_bits vZ0))), (.int (((1 : Int32) + (own_bits vZ0)) + (own_bits vZ1)))] (.int (0 : Int32)) := (F701.keep q708_0 (ninS ne662 nin0))
      have F812 : Fld Z T708.heap b160 "com/example/darlington/darlington/core/StateLayout" "maskOf" "[J" (.ref r3_191) := (F702.keep q708_0 (ninS ne658 nin0))
      have F813 : Arv Z T708.heap r3_191 c3_191 .long (3 : Int32) [(.long (own_msk vZ0)), (.long (own_msk vZ1)), (.long (own_msk vZ2))] (.long (0 : Int64)) := (F703.keep q708_0 (ninS ne664 nin0))
      have F814 : Fld Z T708.heap b160 "com/example/darlington/darlington/core/StateLayout" "firstOf" "[I" (.ref r4_191) := (F704.keep q708_0 (ninS ne658 nin0))
      have F815 : Arv Z T708.heap r4_191 c4_191 .int (3 : Int32) [(.int (vL0 + (0 : Int32))), (.int (vL1 + (0 : Int32))), (.int (vL2 + (0 : Int32)))] (.int (0 : Int32)) := (F705.keep q708_0 (ninS ne666 nin0))
      have F816 : Arv Z T708.heap b611 k611 .long (3 : Int32) [(.long vO0), (.long vO1), (.long vO2)] (.long (0 : Int64)) := (F706.keep q708_0 (ninS ne667 nin0))
      have F818 : Exa Z T708.heap b160 "com/example/darlington/darlington/core/StateLayout" := (F709.keep q708_0)
      obtain ⟨cq817, kq817, q817a, q817b, q817c⟩ := isOf hZ rfl F818
      obtain ⟨_, _, ⟨T817, L817, k817, n817⟩, -, X817, ⟨Lc817, hQ817, l817, y817, z817⟩, st817⟩ := X708.virtualBack hx (y := (⟨"com/example/darlington/darlington/core/StateLayout", "set", "([JII)V"⟩ : MethodName)) (z := (⟨"com/example/darlington/darlington/core/StateLayout", "set", "([JII)V"⟩ : MethodName)) hown (mvT hZ (ow hw 159 rfl)) (mvT hZ (ow hw 160 rfl)) (notFace_of_selects (args := #[]) (mvT hZ (ow hw 162 rfl))) (mvT hZ (ow hw 162 rfl)) (mvT hZ (ow hw 161 rfl)) (by decide) (backOf (W := 0) (rm_set1 l Z a0 hw [] b160 b611 vV r1_191 r2_191 r3_191 r4_191 c1_191 c2_191 c3_191 c4_191 (1 : Int32) ((1 : Int32) + (own_bits vZ0)) (((1 : Int32) + (own_bits vZ0)) + (own_bits vZ1)) (own_msk vZ0) (own_msk vZ1) (own_msk vZ2) (vL0 + (0 : Int32)) (vL1 + (0 : Int32)) (vL2 + (0 : Int32)) (0 : Int32) k611 vO0 vO1 vO2 T708.heap n0 (Nat.le_trans Z0 KC711.1) F808 F809 F810 F811 F812 F813 F814 F815 F816 ge628) hZ (ow hw 163 rfl) (ow hw 88 rfl) (by decide) (by decide)) q817a q817c (g := (mkF m 317 #[Si p1, Si p2, Si p3, Sl q4, S2, Sl q5, S2, Si p6, Si vZ0, Si vZ1, Si vZ2, Si vL0, Si vL1, Si vL2, Si (1 : Int32), Si vZ1, Si vL1, Si vV, Sr b77, Sr b160, Sl vO0, S2, Sl vO1, S2, Sl vO2, S2, Sr b611, Sr b646, Sr b671, Su, Su, Su] [(.int vV), (.int (1 : Int32)), (.ref b611), (.ref b160)])) rfl (by rw [hml]; rfl) (Steps.refl _) (argsL := [(.ref b611), (.int (1 : Int32)), (.int vV)]) (rest := []) (lenOf pd_13 rfl) rfl (by show 2 * 0 + _ ≤ _; exact Nat.le_of_eq rfl) (hb hby at_317) (fun _ _ => ⟨rfl, rfl, (by decide : 13 + 0 ≤ _), (by decide : 45 + 0 ≤ _)⟩)
      dsimp only [Pt.U, Pt.locs, Pt.cells, Pt.slots] at X817 l817 y817 z817 st817 hQ817
      subst y817 z817
      obtain ⟨rfl, Nq817, q817_0, q817_1⟩ := hQ817
      have N819 := Eq.subst (motive := fun L => Fr n0 L) l817.symm (Fr.app N710 Nq817)
      have KC820 : Keep h0 T817.heap [] := KC711.trans q817_0 (allS (Or.inr sz629) all0)
      have F821 : Fld Z T817.heap b160 "com/example/darlington/darlington/core/StateLayout" "wordOf" "[I" (.ref r1_191) := (F808.keep q817_0 (ninS ne623 nin0))
      have F822 : Arv Z T817.heap r1_191 c1_191 .int (3 : Int32) [(.int (0 : Int32)), (.int (0 : Int32)), (.int (0 : Int32))] (.int (0 : Int32)) := (F809.keep q817_0 (ninS ne624 nin0))
      have F823 : Fld Z T817.heap b160 "com/example/darlington/darlington/core/StateLayout" "shiftOf" "[I" (.ref r2_191) := (F810.keep q817_0 (ninS ne623 nin0))
      have F824 : Arv Z T817.heap r2_191 c2_191 .int (3 : Int32) [(.int (1 : Int32)), (.int ((1 : Int32) + (own_bits vZ0))), (.int (((1 : Int32) + (own_bits vZ0)) + (own_bits vZ1)))] (.int (0 : Int32)) := (F811.keep q817_0 (ninS ne625 nin0))
      have F825 : Fld Z T817.heap b160 "com/example/darlington/darlington/core/StateLayout" "maskOf" "[J" (.ref r3_191) := (F812.keep q817_0 (ninS ne623 nin0))
      have F826 : Arv Z T817.heap r3_191 c3_191 .long (3 : Int32) [(.long (own_msk vZ0)), (.long (own_msk vZ1)), (.long (own_msk vZ2))] (.long (0 : Int64)) := (F813.keep q817_0 (ninS ne626 nin0))
      have F827 : Fld Z T817.heap b160 "com/example/darlington/darlington/core/StateLayout" "firstOf" "[I" (.ref r4_191) := (F814.keep q817_0 (ninS ne623 nin0))
      have F828 : Arv Z T817.heap r4_191 c4_191 .int (3 : Int32) [(.int (vL0 + (0 : Int32))), (.int (vL1 + (0 : Int32))), (.int (vL2 + (0 : Int32)))] (.int (0 : Int32)) := (F815.keep q817_0 (ninS ne627 nin0))
      have F829 : Arv Z T817.heap b671 k671 .int (3 : Int32) [(.int (0 : Int32)), (.int (0 : Int32)), (.int (0 : Int32))] (.int (0 : Int32)) := ((V671.keep q708_0 (ninS (Ne.symm ne694) nin0)).keep q817_0 (ninS (Ne.symm ne693) nin0))
      have F831 : Exa Z T817.heap b160 "com/example/darlington/darlington/core/StateLayout" := (F818.keep q817_0)
      obtain ⟨cq830, kq830, q830a, q830b, q830c⟩ := isOf hZ rfl F831
      obtain ⟨_, _, ⟨T830, L830, k830, n830⟩, -, X830, ⟨Lc830, hQ830, l830, y830, z830⟩, st830⟩ := X817.virtualBack hx (y := (⟨"com/example/darlington/darlington/core/StateLayout", "unpack", "([JI[I)V"⟩ : MethodName)) (z := (⟨"com/example/darlington/darlington/core/StateLayout", "unpack", "([JI[I)V"⟩ : MethodName)) hown (mvT hZ (ow hw 154 rfl)) (mvT hZ (ow hw 155 rfl)) (notFace_of_selects (args := #[]) (mvT hZ (ow hw 157 rfl))) (mvT hZ (ow hw 157 rfl)) (mvT hZ (ow hw 156 rfl)) (by decide) (backOf (W := 0) (rm_unpA l Z a0 hw [] b160 b611 b671 r1_191 r2_191 r3_191 r4_191 c1_191 c2_191 c3_191 c4_191 (1 : Int32) ((1 : Int32) + (own_bits vZ0)) (((1 : Int32) + (own_bits vZ0)) + (own_bits vZ1)) (own_msk vZ0) (own_msk vZ1) (own_msk vZ2) (vL0 + (0 : Int32)) (vL1 + (0 : Int32)) (vL2 + (0 : Int32)) k611 k671 (own_upd vO0 ((1 : Int32) + (own_bits vZ0)) (own_msk vZ1) (vL1 + (0 : Int32)) vV) vO1 vO2 (0 : Int32) (0 : Int32) (0 : Int32) T817.heap n0 (Nat.le_trans Z0 KC820.1) F821 F822 F823 F824 F825 F826 F827 F828 q817_1 F829 ge695 ne683 ne693 ne685 ne687 ne689 ne691) hZ (ow hw 158 rfl) (ow hw 88 rfl) (by decide) (by decide)) q830a q830c (g := (mkF m 327 #[Si p1, Si p2, Si p3, Sl q4, S2, Sl q5, S2, Si p6, Si vZ0, Si vZ1, Si vZ2, Si vL0, Si vL1, Si vL2, Si (1 : Int32), Si vZ1, Si vL1, Si vV, Sr b77, Sr b160, Sl vO0, S2, Sl vO1, S2, Sl vO2, S2, Sr b611, Sr b646, Sr b671, Su, Su, Su] [(.ref b671), (.int (0 : Int32)), (.ref b611), (.ref b160)])) rfl (by rw [hml]; rfl) (Steps.refl _) (argsL := [(.ref b611), (.int (0 : Int32)), (.ref b671)]) (rest := []) (lenOf pd_12 rfl) rfl (by show 2 * 0 + _ ≤ _; exact Nat.le_of_eq rfl) (hb hby at_327) (fun _ _ => ⟨rfl, rfl, (by decide : 13 + 0 ≤ _), (by decide : 45 + 0 ≤ _)⟩)
      dsimp only [Pt.U, Pt.locs, Pt.cells, Pt.slots] at X830 l830 y830 z830 st830 hQ830
      subst y830 z830
      obtain ⟨rfl, Nq830, q830_0, q830_1⟩ := hQ830
      have N832 := Eq.subst (motive := fun L => Fr n0 L) l830.symm (Fr.app N819 Nq830)
      have KC833 : Keep h0 T830.heap [] := KC820.trans q830_0 (allS (Or.inr sz696) all0)
      obtain ⟨c834, Arc834, Aqc834, Asc834, Anc834, Ahc834, Agc834⟩ := id q830_1
      have hin835 : ¬ ((1 : Int32) < 0 ∨ c834.slots.size ≤ ((1 : Int32)).toNatClampNeg) := inb_of Asc834 ⟨by decide, by decide⟩
      have hat836 : c834.slots[((1 : Int32)).toNatClampNeg]? = some (.int ((vL1 + (0 : Int32)) + (((((own_upd vO0 ((1 : Int32) + (own_bits vZ0)) (own_msk vZ1) (vL1 + (0 : Int32)) vV).toUInt64 >>> (((1 : Int32) + (own_bits vZ0)) &&& 0x3f).toInt64.toUInt64).toInt64) &&& (own_msk vZ1)).toInt32))) := Has.at Ahc834 hin835 rfl
      have hc837 : ((vL1 + (0 : Int32)) + (((((own_upd vO0 ((1 : Int32) + (own_bits vZ0)) (own_msk vZ1) (vL1 + (0 : Int32)) vV).toUInt64 >>> (((1 : Int32) + (own_bits vZ0)) &&& 0x3f).toInt64.toUInt64).toInt64) &&& (own_msk vZ1)).toInt32)) = vV := own_y337 (own_fuG G1) G1.2.2.2 B1 hV.1 hV2
      obtain ⟨c838, Arc838, Aqc838, Asc838, Anc838, Ahc838, Agc838⟩ := id q830_1
      have hin839 : ¬ ((0 : Int32) < 0 ∨ c838.slots.size ≤ ((0 : Int32)).toNatClampNeg) := inb_of Asc838 ⟨by decide, by decide⟩
      have hat840 : c838.slots[((0 : Int32)).toNatClampNeg]? = some (.int ((vL0 + (0 : Int32)) + (((((own_upd vO0 ((1 : Int32) + (own_bits vZ0)) (own_msk vZ1) (vL1 + (0 : Int32)) vV).toUInt64 >>> ((1 : Int32) &&& 0x3f).toInt64.toUInt64).toInt64) &&& (own_msk vZ0)).toInt32))) := Has.at Ahc838 hin839 rfl
      have F841 : Arv Z T830.heap b646 k646 .int (3 : Int32) [(.int ((vL0 + (0 : Int32)) + ((((vO0.toUInt64 >>> ((1 : Int32) &&& 0x3f).toInt64.toUInt64).toInt64) &&& (own_msk vZ0)).toInt32))), (.int ((vL1 + (0 : Int32)) + ((((vO0.toUInt64 >>> (((1 : Int32) + (own_bits vZ0)) &&& 0x3f).toInt64.toUInt64).toInt64) &&& (own_msk vZ1)).toInt32))), (.int ((vL2 + (0 : Int32)) + ((((vO0.toUInt64 >>> ((((1 : Int32) + (own_bits vZ0)) + (own_bits vZ1)) &&& 0x3f).toInt64.toUInt64).toInt64) &&& (own_msk vZ2)).toInt32)))] (.int (0 : Int32)) := ((q708_1.keep q817_0 (ninS (Ne.symm ne667) nin0)).keep q830_0 (ninS ne694 nin0))
      obtain ⟨c842, Arc842, Aqc842, Asc842, Anc842, Ahc842, Agc842⟩ := id F841
      have hin843 : ¬ ((0 : Int32) < 0 ∨ c842.slots.size ≤ ((0 : Int32)).toNatClampNeg) := inb_of Asc842 ⟨by decide, by decide⟩
      have hat844 : c842.slots[((0 : Int32)).toNatClampNeg]? = some (.int ((vL0 + (0 : Int32)) + ((((vO0.toUInt64 >>> ((1 : Int32) &&& 0x3f).toInt64.toUInt64).toInt64) &&& (own_msk vZ0)).toInt32))) := Has.at Ahc842 hin843 rfl
      have hc845 : ((vL0 + (0 : Int32)) + (((((own_upd vO0 ((1 : Int32) + (own_bits vZ0)) (own_msk vZ1) (vL1 + (0 : Int32)) vV).toUInt64 >>> ((1 : Int32) &&& 0x3f).toInt64.toUInt64).toInt64) &&& (own_msk vZ0)).toInt32)) = ((vL0 + (0 : Int32)) + ((((vO0.toUInt64 >>> ((1 : Int32) &&& 0x3f).toInt64.toUInt64).toInt64) &&& (own_msk vZ0)).toInt32)) := own_oth (own_foG G1 G0 (Or.inl (Nat.le_refl _)))
      obtain ⟨c846, Arc846, Aqc846, Asc846, Anc846, Ahc846, Agc846⟩ := id q830_1
      have hin847 : ¬ ((2 : Int32) < 0 ∨ c846.slots.size ≤ ((2 : Int32)).toNatClampNeg) := inb_of Asc846 ⟨by decide, by decide⟩
      have hat848 : c846.slots[((2 : Int32)).toNatClampNeg]? = some (.int ((vL2 + (0 : Int32)) + (((((own_upd vO0 ((1 : Int32) + (own_bits vZ0)) (own_msk vZ1) (vL1 + (0 : Int32)) vV).toUInt64 >>> ((((1 : Int32) + (own_bits vZ0)) + (own_bits vZ1)) &&& 0x3f).toInt64.toUInt64).toInt64) &&& (own_msk vZ2)).toInt32))) := Has.at Ahc846 hin847 rfl
      obtain ⟨c849, Arc849, Aqc849, Asc849, Anc849, Ahc849, Agc849⟩ := id F841
      have hin850 : ¬ ((2 : Int32) < 0 ∨ c849.slots.size ≤ ((2 : Int32)).toNatClampNeg) := inb_of Asc849 ⟨by decide, by decide⟩
      have hat851 : c849.slots[((2 : Int32)).toNatClampNeg]? = some (.int ((vL2 + (0 : Int32)) + ((((vO0.toUInt64 >>> ((((1 : Int32) + (own_bits vZ0)) + (own_bits vZ1)) &&& 0x3f).toInt64.toUInt64).toInt64) &&& (own_msk vZ2)).toInt32))) := Has.at Ahc849 hin850 rfl
      have hc852 : ((vL2 + (0 : Int32)) + (((((own_upd vO0 ((1 : Int32) + (own_bits vZ0)) (own_msk vZ1) (vL1 + (0 : Int32)) vV).toUInt64 >>> ((((1 : Int32) + (own_bits vZ0)) + (own_bits vZ1)) &&& 0x3f).toInt64.toUInt64).toInt64) &&& (own_msk vZ2)).toInt32)) = ((vL2 + (0 : Int32)) + ((((vO0.toUInt64 >>> ((((1 : Int32) + (own_bits vZ0)) + (own_bits vZ1)) &&& 0x3f).toInt64.toUInt64).toInt64) &&& (own_msk vZ2)).toInt32)) := own_oth (own_foG G1 G2 (Or.inr (Nat.le_refl _)))
      have pre853 : ∀ t, Steps p.tables e below (T830.setTop (mkF m 427 #[Si p1, Si p2, Si p3, Sl q4, S2, Sl q5, S2, Si p6, Si vZ0, Si vZ1, Si vZ2, Si vL0, Si vL1, Si vL2, Si (1 : Int32), Si vZ1, Si vL1, Si vV, Sr b77, Sr b160, Sl vO0, S2, Sl vO1, S2, Sl vO2, S2, Sr b611, Sr b646, Sr b671, Si (1 : Int32), Su, Su] [])) t → Steps p.tables e below (s₁.setTop (entryFrame m #[(.int p1), (.int p2), (.int p3), (.long q4), (.long q5), (.int p6)] maxLocals)) t := by
        intro t k
        refine pre712 t ?_
        refine XS.aload X708.here hx rfl (hb hby at_309) rfl rfl ?_
        refine XS.aload X708.here hx rfl (hb hby at_311) rfl rfl ?_
        refine XS.iload X708.here hx rfl (hb hby at_313) rfl ?_
        refine XS.iload X708.here hx rfl (hb hby at_315) rfl ?_
        refine st817.trans ?_
        show Steps _ _ _ (T817.setTop (mkF m 320 #[Si p1, Si p2, Si p3, Sl q4, S2, Sl q5, S2, Si p6, Si vZ0, Si vZ1, Si vZ2, Si vL0, Si vL1, Si vL2, Si (1 : Int32), Si vZ1, Si vL1, Si vV, Sr b77, Sr b160, Sl vO0, S2, Sl vO1, S2, Sl vO2, S2, Sr b611, Sr b646, Sr b671, Su, Su, Su] [])) _
        refine XS.aload X817.here hx rfl (hb hby at_320) rfl rfl ?_
        refine XS.aload X817.here hx rfl (hb hby at_322) rfl rfl ?_
        refine XS.iconst X817.here hx rfl (hb hby at_324) ?_
        refine XS.aload X817.here hx rfl (hb hby at_325) rfl rfl ?_
        refine st830.trans ?_
        refine XS.aload X830.here hx rfl (hb hby at_330) rfl rfl ?_
        refine XS.iload X830.here hx rfl (hb hby at_332) rfl ?_
        refine X830.iaload hx (j := (1 : Int32)) (v := (.int ((vL1 + (0 : Int32)) + (((((own_upd vO0 ((1 : Int32) + (own_bits vZ0)) (own_msk vZ1) (vL1 + (0 : Int32)) vV).toUInt64 >>> (((1 : Int32) + (own_bits vZ0)) &&& 0x3f).toInt64.toUInt64).toInt64) &&& (own_msk vZ1)).toInt32)))) Arc834.1 (State.isArrayOf_alike hZ.alike Arc834.2.1) Arc834.2.2 hin835 hat836 (g := (mkF m 334 #[Si p1, Si p2, Si p3, Sl q4, S2, Sl q5, S2, Si p6, Si vZ0, Si vZ1, Si vZ2, Si vL0, Si vL1, Si vL2, Si (1 : Int32), Si vZ1, Si vL1, Si vV, Sr b77, Sr b160, Sl vO0, S2, Sl vO1, S2, Sl vO2, S2, Sr b611, Sr b646, Sr b671, Su, Su, Su] [(.int (1 : Int32)), (.ref b671)])) rfl rfl (hb hby at_334) _ ?_
        refine XS.iload X830.here hx rfl (hb hby at_335) rfl ?_
        refine XS.icmpNo X830.here hx rfl (hb hby at_337) rfl (teq hc837).2 ?_
        show Steps _ _ _ (T830.setTop (mkF m 340 #[Si p1, Si p2, Si p3, Sl q4, S2, Sl q5, S2, Si p6, Si vZ0, Si vZ1, Si vZ2, Si vL0, Si vL1, Si vL2, Si (1 : Int32), Si vZ1, Si vL1, Si vV, Sr b77, Sr b160, Sl vO0, S2, Sl vO1, S2, Sl vO2, S2, Sr b611, Sr b646, Sr b671, Su, Su, Su] [])) _
        refine XS.iconst X830.here hx rfl (hb hby at_340) ?_
        refine XS.goto X830.here hx rfl (pc0 := 341) (pc' := 345) rfl (hb hby at_341) (by decide) (by decide) ?_
        refine XS.istore X830.here hx rfl (hb hby at_345) rfl (l' := #[Si p1, Si p2, Si p3, Sl q4, S2, Sl q5, S2, Si p6, Si vZ0, Si vZ1, Si vZ2, Si vL0, Si vL1, Si vL2, Si (1 : Int32), Si vZ1, Si vL1, Si vV, Sr b77, Sr b160, Sl vO0, S2, Sl vO1, S2, Sl vO2, S2, Sr b611, Sr b646, Sr b671, Si (1 : Int32), Su, Su]) rfl ?_
        refine XS.iload X830.here hx rfl (hb hby at_347) rfl ?_
        refine XS.iload X830.here hx rfl (hb hby at_349) rfl ?_
        refine XS.ifNo X830.here hx rfl (hb hby at_351) rfl ((if0 _ _).trans (feq (by decide)).1) ?_
        refine XS.aload X830.here hx rfl (hb hby at_354) rfl rfl ?_
        refine XS.iconst X830.here hx rfl (hb hby at_356) ?_
        refine X830.iaload hx (j := (0 : Int32)) (v := (.int ((vL0 + (0 : Int32)) + (((((own_upd vO0 ((1 : Int32) + (own_bits vZ0)) (own_msk vZ1) (vL1 + (0 : Int32)) vV).toUInt64 >>> ((1 : Int32) &&& 0x3f).toInt64.toUInt64).toInt64) &&& (own_msk vZ0)).toInt32)))) Arc838.1 (State.isArrayOf_alike hZ.alike Arc838.2.1) Arc838.2.2 hin839 hat840 (g := (mkF m 357 #[Si p1, Si p2, Si p3, Sl q4, S2, Sl q5, S2, Si p6, Si vZ0, Si vZ1, Si vZ2, Si vL0, Si vL1, Si vL2, Si (1 : Int32), Si vZ1, Si vL1, Si vV, Sr b77, Sr b160, Sl vO0, S2, Sl vO1, S2, Sl vO2, S2, Sr b611, Sr b646, Sr b671, Si (1 : Int32), Su, Su] [(.int (0 : Int32)), (.ref b671), (.int (1 : Int32))])) rfl rfl (hb hby at_357) _ ?_
        refine XS.aload X830.here hx rfl (hb hby at_358) rfl rfl ?_
        show Steps _ _ _ (T830.setTop (mkF m 360 #[Si p1, Si p2, Si p3, Sl q4, S2, Sl q5, S2, Si p6, Si vZ0, Si vZ1, Si vZ2, Si vL0, Si vL1, Si vL2, Si (1 : Int32), Si vZ1, Si vL1, Si vV, Sr b77, Sr b160, Sl vO0, S2, Sl vO1, S2, Sl vO2, S2, Sr b611, Sr b646, Sr b671, Si (1 : Int32), Su, Su] [(.ref b646), (.int ((vL0 + (0 : Int32)) + (((((own_upd vO0 ((1 : Int32) + (own_bits vZ0)) (own_msk vZ1) (vL1 + (0 : Int32)) vV).toUInt64 >>> ((1 : Int32) &&& 0x3f).toInt64.toUInt64).toInt64) &&& (own_msk vZ0)).toInt32))), (.int (1 : Int32))])) _
        refine XS.iconst X830.here hx rfl (hb hby at_360) ?_
        refine X830.iaload hx (j := (0 : Int32)) (v := (.int ((vL0 + (0 : Int32)) + ((((vO0.toUInt64 >>> ((1 : Int32) &&& 0x3f).toInt64.toUInt64).toInt64) &&& (own_msk vZ0)).toInt32)))) Arc842.1 (State.isArrayOf_alike hZ.alike Arc842.2.1) Arc842.2.2 hin843 hat844 (g := (mkF m 361 #[Si p1, Si p2, Si p3, Sl q4, S2, Sl q5, S2, Si p6, Si vZ0, Si vZ1, Si vZ2, Si vL0, Si vL1, Si vL2, Si (1 : Int32), Si vZ1, Si vL1, Si vV, Sr b77, Sr b160, Sl vO0, S2, Sl vO1, S2, Sl vO2, S2, Sr b611, Sr b646, Sr b671, Si (1 : Int32), Su, Su] [(.int (0 : Int32)), (.ref b646), (.int ((vL0 + (0 : Int32)) + (((((own_upd vO0 ((1 : Int32) + (own_bits vZ0)) (own_msk vZ1) (vL1 + (0 : Int32)) vV).toUInt64 >>> ((1 : Int32) &&& 0x3f).toInt64.toUInt64).toInt64) &&& (own_msk vZ0)).toInt32))), (.int (1 : Int32))])) rfl rfl (hb hby at_361) _ ?_
        refine XS.icmpNo X830.here hx rfl (hb hby at_362) rfl (teq hc845).2 ?_
        refine XS.iconst X830.here hx rfl (hb hby at_365) ?_
        refine XS.goto X830.here hx rfl (pc0 := 366) (pc' := 370) rfl (hb hby at_366) (by decide) (by decide) ?_
        refine XS.iand X830.here hx rfl (hb hby at_370) rfl ?_
        refine XS.istore X830.here hx rfl (hb hby at_371) rfl (l' := #[Si p1, Si p2, Si p3, Sl q4, S2, Sl q5, S2, Si p6, Si vZ0, Si vZ1, Si vZ2, Si vL0, Si vL1, Si vL2, Si (1 : Int32), Si vZ1, Si vL1, Si vV, Sr b77, Sr b160, Sl vO0, S2, Sl vO1, S2, Sl vO2, S2, Sr b611, Sr b646, Sr b671, Si (1 : Int32), Su, Su]) rfl ?_
        refine XS.iload X830.here hx rfl (hb hby at_373) rfl ?_
        refine XS.iload X830.here hx rfl (hb hby at_375) rfl ?_
        refine XS.iconst X830.here hx rfl (hb hby at_377) ?_
        show Steps _ _ _ (T830.setTop (mkF m 378 #[Si p1, Si p2, Si p3, Sl q4, S2, Sl q5, S2, Si p6, Si vZ0, Si vZ1, Si vZ2, Si vL0, Si vL1, Si vL2, Si (1 : Int32), Si vZ1, Si vL1, Si vV, Sr b77, Sr b160, Sl vO0, S2, Sl vO1, S2, Sl vO2, S2, Sr b611, Sr b646, Sr b671, Si (1 : Int32), Su, Su] [(.int (1 : Int32)), (.int (1 : Int32)), (.int (1 : Int32))])) _
        refine XS.icmpYes X830.here hx rfl (pc0 := 378) (pc' := 392) rfl (hb hby at_378) rfl (teq rfl).1 (by decide) (by decide) ?_
        refine XS.iconst X830.here hx rfl (hb hby at_392) ?_
        refine XS.goto X830.here hx rfl (pc0 := 393) (pc' := 397) rfl (hb hby at_393) (by decide) (by decide) ?_
        refine XS.iand X830.here hx rfl (hb hby at_397) rfl ?_
        refine XS.istore X830.here hx rfl (hb hby at_398) rfl (l' := #[Si p1, Si p2, Si p3, Sl q4, S2, Sl q5, S2, Si p6, Si vZ0, Si vZ1, Si vZ2, Si vL0, Si vL1, Si vL2, Si (1 : Int32), Si vZ1, Si vL1, Si vV, Sr b77, Sr b160, Sl vO0, S2, Sl vO1, S2, Sl vO2, S2, Sr b611, Sr b646, Sr b671, Si (1 : Int32), Su, Su]) rfl ?_
        refine XS.iload X830.here hx rfl (hb hby at_400) rfl ?_
        refine XS.iload X830.here hx rfl (hb hby at_402) rfl ?_
        refine XS.iconst X830.here hx rfl (hb hby at_404) ?_
        refine XS.icmpNo X830.here hx rfl (hb hby at_405) rfl (feq (by decide)).1 ?_
        refine XS.aload X830.here hx rfl (hb hby at_408) rfl rfl ?_
        show Steps _ _ _ (T830.setTop (mkF m 410 #[Si p1, Si p2, Si p3, Sl q4, S2, Sl q5, S2, Si p6, Si vZ0, Si vZ1, Si vZ2, Si vL0, Si vL1, Si vL2, Si (1 : Int32), Si vZ1, Si vL1, Si vV, Sr b77, Sr b160, Sl vO0, S2, Sl vO1, S2, Sl vO2, S2, Sr b611, Sr b646, Sr b671, Si (1 : Int32), Su, Su] [(.ref b671), (.int (1 : Int32))])) _
        refine XS.iconst X830.here hx rfl (hb hby at_410) ?_
        refine X830.iaload hx (j := (2 : Int32)) (v := (.int ((vL2 + (0 : Int32)) + (((((own_upd vO0 ((1 : Int32) + (own_bits vZ0)) (own_msk vZ1) (vL1 + (0 : Int32)) vV).toUInt64 >>> ((((1 : Int32) + (own_bits vZ0)) + (own_bits vZ1)) &&& 0x3f).toInt64.toUInt64).toInt64) &&& (own_msk vZ2)).toInt32)))) Arc846.1 (State.isArrayOf_alike hZ.alike Arc846.2.1) Arc846.2.2 hin847 hat848 (g := (mkF m 411 #[Si p1, Si p2, Si p3, Sl q4, S2, Sl q5, S2, Si p6, Si vZ0, Si vZ1, Si vZ2, Si vL0, Si vL1, Si vL2, Si (1 : Int32), Si vZ1, Si vL1, Si vV, Sr b77, Sr b160, Sl vO0, S2, Sl vO1, S2, Sl vO2, S2, Sr b611, Sr b646, Sr b671, Si (1 : Int32), Su, Su] [(.int (2 : Int32)), (.ref b671), (.int (1 : Int32))])) rfl rfl (hb hby at_411) _ ?_
        refine XS.aload X830.here hx rfl (hb hby at_412) rfl rfl ?_
        refine XS.iconst X830.here hx rfl (hb hby at_414) ?_
        refine X830.iaload hx (j := (2 : Int32)) (v := (.int ((vL2 + (0 : Int32)) + ((((vO0.toUInt64 >>> ((((1 : Int32) + (own_bits vZ0)) + (own_bits vZ1)) &&& 0x3f).toInt64.toUInt64).toInt64) &&& (own_msk vZ2)).toInt32)))) Arc849.1 (State.isArrayOf_alike hZ.alike Arc849.2.1) Arc849.2.2 hin850 hat851 (g := (mkF m 415 #[Si p1, Si p2, Si p3, Sl q4, S2, Sl q5, S2, Si p6, Si vZ0, Si vZ1, Si vZ2, Si vL0, Si vL1, Si vL2, Si (1 : Int32), Si vZ1, Si vL1, Si vV, Sr b77, Sr b160, Sl vO0, S2, Sl vO1, S2, Sl vO2, S2, Sr b611, Sr b646, Sr b671, Si (1 : Int32), Su, Su] [(.int (2 : Int32)), (.ref b646), (.int ((vL2 + (0 : Int32)) + (((((own_upd vO0 ((1 : Int32) + (own_bits vZ0)) (own_msk vZ1) (vL1 + (0 : Int32)) vV).toUInt64 >>> ((((1 : Int32) + (own_bits vZ0)) + (own_bits vZ1)) &&& 0x3f).toInt64.toUInt64).toInt64) &&& (own_msk vZ2)).toInt32))), (.int (1 : Int32))])) rfl rfl (hb hby at_415) _ ?_
        refine XS.icmpNo X830.here hx rfl (hb hby at_416) rfl (teq hc852).2 ?_
        refine XS.iconst X830.here hx rfl (hb hby at_419) ?_
        refine XS.goto X830.here hx rfl (pc0 := 420) (pc' := 424) rfl (hb hby at_420) (by decide) (by decide) ?_
        refine XS.iand X830.here hx rfl (hb hby at_424) rfl ?_
        refine XS.istore X830.here hx rfl (hb hby at_425) rfl (l' := #[Si p1, Si p2, Si p3, Sl q4, S2, Sl q5, S2, Si p6, Si vZ0, Si vZ1, Si vZ2, Si vL0, Si vL1, Si vL2, Si (1 : Int32), Si vZ1, Si vL1, Si vV, Sr b77, Sr b160, Sl vO0, S2, Sl vO1, S2, Sl vO2, S2, Sr b611, Sr b646, Sr b671, Si (1 : Int32), Su, Su]) rfl ?_
        show Steps _ _ _ (T830.setTop (mkF m 427 #[Si p1, Si p2, Si p3, Sl q4, S2, Sl q5, S2, Si p6, Si vZ0, Si vZ1, Si vZ2, Si vL0, Si vL1, Si vL2, Si (1 : Int32), Si vZ1, Si vL1, Si vV, Sr b77, Sr b160, Sl vO0, S2, Sl vO1, S2, Sl vO2, S2, Sr b611, Sr b646, Sr b671, Si (1 : Int32), Su, Su] [])) _
        exact k
      have F854 : Arv Z T830.heap b611 k611 .long (3 : Int32) [(.long (own_upd vO0 ((1 : Int32) + (own_bits vZ0)) (own_msk vZ1) (vL1 + (0 : Int32)) vV)), (.long vO1), (.long vO2)] (.long (0 : Int64)) := (q817_1.keep q830_0 (ninS ne693 nin0))
      obtain ⟨c855, Arc855, Aqc855, Asc855, Anc855, Ahc855, Agc855⟩ := id F854
      have hin856 : ¬ ((0 : Int32) < 0 ∨ c855.slots.size ≤ ((0 : Int32)).toNatClampNeg) := inb_of Asc855 ⟨by decide, by decide⟩
      have hat857 : c855.slots[((0 : Int32)).toNatClampNeg]? = some (.long (own_upd vO0 ((1 : Int32) + (own_bits vZ0)) (own_msk vZ1) (vL1 + (0 : Int32)) vV)) := Has.at Ahc855 hin856 rfl
      have hc858 : ((own_upd vO0 ((1 : Int32) + (own_bits vZ0)) (own_msk vZ1) (vL1 + (0 : Int32)) vV) &&& (1 : Int64)) = (1 : Int64) := by rw [hvO0]; exact own_lowG G1 (own_1a _)
      obtain ⟨c859, Arc859, Aqc859, Asc859, Anc859, Ahc859, Agc859⟩ := id F854
      have hin860 : ¬ ((2 : Int32) < 0 ∨ c859.slots.size ≤ ((2 : Int32)).toNatClampNeg) := inb_of Asc859 ⟨by decide, by decide⟩
      have hat861 : c859.slots[((2 : Int32)).toNatClampNeg]? = some (.long vO2) := Has.at Ahc859 hin860 rfl
      obtain ⟨c862, Arc862, Aqc862, Asc862, Anc862, Ahc862, Agc862⟩ := id F854
      have hin863 : ¬ ((0 : Int32) < 0 ∨ c862.slots.size ≤ ((0 : Int32)).toNatClampNeg) := inb_of Asc862 ⟨by decide, by decide⟩
      have hat864 : c862.slots[((0 : Int32)).toNatClampNeg]? = some (.long (own_upd vO0 ((1 : Int32) + (own_bits vZ0)) (own_msk vZ1) (vL1 + (0 : Int32)) vV)) := Has.at Ahc862 hin863 rfl
      obtain ⟨c866, Arc866, Aqc866, Asc866, Anc866, Ahc866, Agc866⟩ := id F854
      have hin867 : ¬ ((1 : Int32) < 0 ∨ c866.slots.size ≤ ((1 : Int32)).toNatClampNeg) := inb_of Asc866 ⟨by decide, by decide⟩
      have hat868 : c866.slots[((1 : Int32)).toNatClampNeg]? = some (.long vO1) := Has.at Ahc866 hin867 rfl
      have pre869 : ∀ t, Steps p.tables e below (T830.setTop (mkF m 495 #[Si p1, Si p2, Si p3, Sl q4, S2, Sl q5, S2, Si p6, Si vZ0, Si vZ1, Si vZ2, Si vL0, Si vL1, Si vL2, Si (1 : Int32), Si vZ1, Si vL1, Si vV, Sr b77, Sr b160, Sl vO0, S2, Sl vO1, S2, Sl vO2, S2, Sr b611, Sr b646, Sr b671, Si (1 : Int32), Su, Su] [(.int (1 : Int32)), (.int (1 : Int32))])) t → Steps p.tables e below (s₁.setTop (entryFrame m #[(.int p1), (.int p2), (.int p3), (.long q4), (.long q5), (.int p6)] maxLocals)) t := by
        intro t k
        refine pre853 t ?_
        refine XS.iload X830.here hx rfl (hb hby at_427) rfl ?_
        refine XS.aload X830.here hx rfl (hb hby at_429) rfl rfl ?_
        refine XS.iconst X830.here hx rfl (hb hby at_431) ?_
        refine X830.laload hx (j := (0 : Int32)) (v := (.long (own_upd vO0 ((1 : Int32) + (own_bits vZ0)) (own_msk vZ1) (vL1 + (0 : Int32)) vV))) Arc855.1 (State.isArrayOf_alike hZ.alike Arc855.2.1) Arc855.2.2 hin856 hat857 (g := (mkF m 432 #[Si p1, Si p2, Si p3, Sl q4, S2, Sl q5, S2, Si p6, Si vZ0, Si vZ1, Si vZ2, Si vL0, Si vL1, Si vL2, Si (1 : Int32), Si vZ1, Si vL1, Si vV, Sr b77, Sr b160, Sl vO0, S2, Sl vO1, S2, Sl vO2, S2, Sr b611, Sr b646, Sr b671, Si (1 : Int32), Su, Su] [(.int (0 : Int32)), (.ref b611), (.int (1 : Int32))])) rfl rfl (hb hby at_432) _ ?_
        refine XS.lconst X830.here hx rfl (hb hby at_433) ?_
        refine XS.land X830.here hx rfl (hb hby at_434) rfl ?_
        refine XS.lconst X830.here hx rfl (hb hby at_435) ?_
        refine XS.lcmp X830.here hx rfl (hb hby at_436) rfl ?_
        refine XS.ifNo X830.here hx rfl (hb hby at_437) rfl ((if0 _ _).trans (teq ((lw_eq _ _).mpr hc858)).2) ?_
        refine XS.iconst X830.here hx rfl (hb hby at_440) ?_
        show Steps _ _ _ (T830.setTop (mkF m 441 #[Si p1, Si p2, Si p3, Sl q4, S2, Sl q5, S2, Si p6, Si vZ0, Si vZ1, Si vZ2, Si vL0, Si vL1, Si vL2, Si (1 : Int32), Si vZ1, Si vL1, Si vV, Sr b77, Sr b160, Sl vO0, S2, Sl vO1, S2, Sl vO2, S2, Sr b611, Sr b646, Sr b671, Si (1 : Int32), Su, Su] [(.int (1 : Int32)), (.int (1 : Int32))])) _
        refine XS.goto X830.here hx rfl (pc0 := 441) (pc' := 445) rfl (hb hby at_441) (by decide) (by decide) ?_
        refine XS.iand X830.here hx rfl (hb hby at_445) rfl ?_
        refine XS.istore X830.here hx rfl (hb hby at_446) rfl (l' := #[Si p1, Si p2, Si p3, Sl q4, S2, Sl q5, S2, Si p6, Si vZ0, Si vZ1, Si vZ2, Si vL0, Si vL1, Si vL2, Si (1 : Int32), Si vZ1, Si vL1, Si vV, Sr b77, Sr b160, Sl vO0, S2, Sl vO1, S2, Sl vO2, S2, Sr b611, Sr b646, Sr b671, Si (1 : Int32), Su, Su]) rfl ?_
        refine XS.iload X830.here hx rfl (hb hby at_448) rfl ?_
        refine XS.aload X830.here hx rfl (hb hby at_450) rfl rfl ?_
        refine XS.iconst X830.here hx rfl (hb hby at_452) ?_
        refine X830.laload hx (j := (2 : Int32)) (v := (.long vO2)) Arc859.1 (State.isArrayOf_alike hZ.alike Arc859.2.1) Arc859.2.2 hin860 hat861 (g := (mkF m 453 #[Si p1, Si p2, Si p3, Sl q4, S2, Sl q5, S2, Si p6, Si vZ0, Si vZ1, Si vZ2, Si vL0, Si vL1, Si vL2, Si (1 : Int32), Si vZ1, Si vL1, Si vV, Sr b77, Sr b160, Sl vO0, S2, Sl vO1, S2, Sl vO2, S2, Sr b611, Sr b646, Sr b671, Si (1 : Int32), Su, Su] [(.int (2 : Int32)), (.ref b611), (.int (1 : Int32))])) rfl rfl (hb hby at_453) _ ?_
        refine XS.lload X830.here hx rfl (hb hby at_454) rfl ?_
        refine XS.lcmp X830.here hx rfl (hb hby at_456) rfl ?_
        refine XS.ifNo X830.here hx rfl (hb hby at_457) rfl ((if0 _ _).trans (teq ((lw_eq _ _).mpr rfl)).2) ?_
        show Steps _ _ _ (T830.setTop (mkF m 460 #[Si p1, Si p2, Si p3, Sl q4, S2, Sl q5, S2, Si p6, Si vZ0, Si vZ1, Si vZ2, Si vL0, Si vL1, Si vL2, Si (1 : Int32), Si vZ1, Si vL1, Si vV, Sr b77, Sr b160, Sl vO0, S2, Sl vO1, S2, Sl vO2, S2, Sr b611, Sr b646, Sr b671, Si (1 : Int32), Su, Su] [(.int (1 : Int32))])) _
        refine XS.iconst X830.here hx rfl (hb hby at_460) ?_
        refine XS.goto X830.here hx rfl (pc0 := 461) (pc' := 465) rfl (hb hby at_461) (by decide) (by decide) ?_
        refine XS.iand X830.here hx rfl (hb hby at_465) rfl ?_
        refine XS.istore X830.here hx rfl (hb hby at_466) rfl (l' := #[Si p1, Si p2, Si p3, Sl q4, S2, Sl q5, S2, Si p6, Si vZ0, Si vZ1, Si vZ2, Si vL0, Si vL1, Si vL2, Si (1 : Int32), Si vZ1, Si vL1, Si vV, Sr b77, Sr b160, Sl vO0, S2, Sl vO1, S2, Sl vO2, S2, Sr b611, Sr b646, Sr b671, Si (1 : Int32), Su, Su]) rfl ?_
        refine XS.iload X830.here hx rfl (hb hby at_468) rfl ?_
        refine XS.aload X830.here hx rfl (hb hby at_470) rfl rfl ?_
        refine XS.iconst X830.here hx rfl (hb hby at_472) ?_
        refine X830.laload hx (j := (0 : Int32)) (v := (.long (own_upd vO0 ((1 : Int32) + (own_bits vZ0)) (own_msk vZ1) (vL1 + (0 : Int32)) vV))) Arc862.1 (State.isArrayOf_alike hZ.alike Arc862.2.1) Arc862.2.2 hin863 hat864 (g := (mkF m 473 #[Si p1, Si p2, Si p3, Sl q4, S2, Sl q5, S2, Si p6, Si vZ0, Si vZ1, Si vZ2, Si vL0, Si vL1, Si vL2, Si (1 : Int32), Si vZ1, Si vL1, Si vV, Sr b77, Sr b160, Sl vO0, S2, Sl vO1, S2, Sl vO2, S2, Sr b611, Sr b646, Sr b671, Si (1 : Int32), Su, Su] [(.int (0 : Int32)), (.ref b611), (.int (1 : Int32))])) rfl rfl (hb hby at_473) _ ?_
        refine XS.lload X830.here hx rfl (hb hby at_474) rfl ?_
        refine XS.lcmp X830.here hx rfl (hb hby at_476) rfl ?_
        show Steps _ _ _ (T830.setTop (mkF m 477 #[Si p1, Si p2, Si p3, Sl q4, S2, Sl q5, S2, Si p6, Si vZ0, Si vZ1, Si vZ2, Si vL0, Si vL1, Si vL2, Si (1 : Int32), Si vZ1, Si vL1, Si vV, Sr b77, Sr b160, Sl vO0, S2, Sl vO1, S2, Sl vO2, S2, Sr b611, Sr b646, Sr b671, Si (1 : Int32), Su, Su] [(.int (lcmpW (own_upd vO0 ((1 : Int32) + (own_bits vZ0)) (own_msk vZ1) (vL1 + (0 : Int32)) vV) vO0)), (.int (1 : Int32))])) _
        by_cases hc865 : (own_upd vO0 ((1 : Int32) + (own_bits vZ0)) (own_msk vZ1) (vL1 + (0 : Int32)) vV) = vO0
        · refine XS.ifYes X830.here hx rfl (pc0 := 477) (pc' := 490) rfl (hb hby at_477) rfl ((if0 _ _).trans (teq ((lw_eq _ _).mpr hc865)).1) (by decide) (by decide) ?_
          refine XS.iconst X830.here hx rfl (hb hby at_490) ?_
          refine XS.goto X830.here hx rfl (pc0 := 491) (pc' := 495) rfl (hb hby at_491) (by decide) (by decide) ?_
          exact k
        · refine XS.ifNo X830.here hx rfl (hb hby at_477) rfl ((if0 _ _).trans (feq (fun z => hc865 ((lw_eq _ _).mp z))).1) ?_
          refine XS.aload X830.here hx rfl (hb hby at_480) rfl rfl ?_
          refine XS.iconst X830.here hx rfl (hb hby at_482) ?_
          refine X830.laload hx (j := (1 : Int32)) (v := (.long vO1)) Arc866.1 (State.isArrayOf_alike hZ.alike Arc866.2.1) Arc866.2.2 hin867 hat868 (g := (mkF m 483 #[Si p1, Si p2, Si p3, Sl q4, S2, Sl q5, S2, Si p6, Si vZ0, Si vZ1, Si vZ2, Si vL0, Si vL1, Si vL2, Si (1 : Int32), Si vZ1, Si vL1, Si vV, Sr b77, Sr b160, Sl vO0, S2, Sl vO1, S2, Sl vO2, S2, Sr b611, Sr b646, Sr b671, Si (1 : Int32), Su, Su] [(.int (1 : Int32)), (.ref b611), (.int (1 : Int32))])) rfl rfl (hb hby at_483) _ ?_
          refine XS.lload X830.here hx rfl (hb hby at_484) rfl ?_
          refine XS.lcmp X830.here hx rfl (hb hby at_486) rfl ?_
          refine XS.ifNo X830.here hx rfl (hb hby at_487) rfl ((if0 _ _).trans (teq ((lw_eq _ _).mpr rfl)).2) ?_
          refine XS.iconst X830.here hx rfl (hb hby at_490) ?_
          refine XS.goto X830.here hx rfl (pc0 := 491) (pc' := 495) rfl (hb hby at_491) (by decide) (by decide) ?_
          exact k
      obtain ⟨c870, Arc870, Aqc870, Asc870, Anc870, Ahc870, Agc870⟩ := id F841
      have hin871 : ¬ ((1 : Int32) < 0 ∨ c870.slots.size ≤ ((1 : Int32)).toNatClampNeg) := inb_of Asc870 ⟨by decide, by decide⟩
      have hat872 : c870.slots[((1 : Int32)).toNatClampNeg]? = some (.int ((vL1 + (0 : Int32)) + ((((vO0.toUInt64 >>> (((1 : Int32) + (own_bits vZ0)) &&& 0x3f).toInt64.toUInt64).toInt64) &&& (own_msk vZ1)).toInt32))) := Has.at Ahc870 hin871 rfl
      have pre873 : ∀ t, Steps p.tables e below (T830.setTop (mkF m 514 #[Si p1, Si p2, Si p3, Sl q4, S2, Sl q5, S2, Si p6, Si vZ0, Si vZ1, Si vZ2, Si vL0, Si vL1, Si vL2, Si (1 : Int32), Si vZ1, Si vL1, Si vV, Sr b77, Sr b160, Sl vO0, S2, Sl vO1, S2, Sl vO2, S2, Sr b611, Sr b646, Sr b671, Si (1 : Int32), Sl ((((vL1 + (0 : Int32)) + ((((vO0.toUInt64 >>> (((1 : Int32) + (own_bits vZ0)) &&& 0x3f).toInt64.toUInt64).toInt64) &&& (own_msk vZ1)).toInt32)).toInt64) - (vL1.toInt64)), S2] [(.int (lcmpW ((((vL1 + (0 : Int32)) + ((((vO0.toUInt64 >>> (((1 : Int32) + (own_bits vZ0)) &&& 0x3f).toInt64.toUInt64).toInt64) &&& (own_msk vZ1)).toInt32)).toInt64) - (vL1.toInt64)) (0 : Int64)))])) t → Steps p.tables e below (s₁.setTop (entryFrame m #[(.int p1), (.int p2), (.int p3), (.long q4), (.long q5), (.int p6)] maxLocals)) t := by
        intro t k
        refine pre869 t ?_
        refine XS.iand X830.here hx rfl (hb hby at_495) rfl ?_
        refine XS.istore X830.here hx rfl (hb hby at_496) rfl (l' := #[Si p1, Si p2, Si p3, Sl q4, S2, Sl q5, S2, Si p6, Si vZ0, Si vZ1, Si vZ2, Si vL0, Si vL1, Si vL2, Si (1 : Int32), Si vZ1, Si vL1, Si vV, Sr b77, Sr b160, Sl vO0, S2, Sl vO1, S2, Sl vO2, S2, Sr b611, Sr b646, Sr b671, Si (1 : Int32), Su, Su]) rfl ?_
        refine XS.aload X830.here hx rfl (hb hby at_498) rfl rfl ?_
        refine XS.iload X830.here hx rfl (hb hby at_500) rfl ?_
        refine X830.iaload hx (j := (1 : Int32)) (v := (.int ((vL1 + (0 : Int32)) + ((((vO0.toUInt64 >>> (((1 : Int32) + (own_bits vZ0)) &&& 0x3f).toInt64.toUInt64).toInt64) &&& (own_msk vZ1)).toInt32)))) Arc870.1 (State.isArrayOf_alike hZ.alike Arc870.2.1) Arc870.2.2 hin871 hat872 (g := (mkF m 502 #[Si p1, Si p2, Si p3, Sl q4, S2, Sl q5, S2, Si p6, Si vZ0, Si vZ1, Si vZ2, Si vL0, Si vL1, Si vL2, Si (1 : Int32), Si vZ1, Si vL1, Si vV, Sr b77, Sr b160, Sl vO0, S2, Sl vO1, S2, Sl vO2, S2, Sr b611, Sr b646, Sr b671, Si (1 : Int32), Su, Su] [(.int (1 : Int32)), (.ref b646)])) rfl rfl (hb hby at_502) _ ?_
        refine XS.i2l X830.here hx rfl (hb hby at_503) rfl ?_
        refine XS.iload X830.here hx rfl (hb hby at_504) rfl ?_
        refine XS.i2l X830.here hx rfl (hb hby at_506) rfl ?_
        refine XS.lsub X830.here hx rfl (hb hby at_507) rfl ?_
        refine XS.lstore X830.here hx rfl (hb hby at_508) rfl (l' := #[Si p1, Si p2, Si p3, Sl q4, S2, Sl q5, S2, Si p6, Si vZ0, Si vZ1, Si vZ2, Si vL0, Si vL1, Si vL2, Si (1 : Int32), Si vZ1, Si vL1, Si vV, Sr b77, Sr b160, Sl vO0, S2, Sl vO1, S2, Sl vO2, S2, Sr b611, Sr b646, Sr b671, Si (1 : Int32), Sl ((((vL1 + (0 : Int32)) + ((((vO0.toUInt64 >>> (((1 : Int32) + (own_bits vZ0)) &&& 0x3f).toInt64.toUInt64).toInt64) &&& (own_msk vZ1)).toInt32)).toInt64) - (vL1.toInt64)), S2]) rfl ?_
        show Steps _ _ _ (T830.setTop (mkF m 510 #[Si p1, Si p2, Si p3, Sl q4, S2, Sl q5, S2, Si p6, Si vZ0, Si vZ1, Si vZ2, Si vL0, Si vL1, Si vL2, Si (1 : Int32), Si vZ1, Si vL1, Si vV, Sr b77, Sr b160, Sl vO0, S2, Sl vO1, S2, Sl vO2, S2, Sr b611, Sr b646, Sr b671, Si (1 : Int32), Sl ((((vL1 + (0 : Int32)) + ((((vO0.toUInt64 >>> (((1 : Int32) + (own_bits vZ0)) &&& 0x3f).toInt64.toUInt64).toInt64) &&& (own_msk vZ1)).toInt32)).toInt64) - (vL1.toInt64)), S2] [])) _
        refine XS.lload X830.here hx rfl (hb hby at_510) rfl ?_
        refine XS.lconst X830.here hx rfl (hb hby at_512) ?_
        refine XS.lcmp X830.here hx rfl (hb hby at_513) rfl ?_
        exact k
      by_cases hd0 : ((((vL1 + (0 : Int32)) + ((((vO0.toUInt64 >>> (((1 : Int32) + (own_bits vZ0)) &&& 0x3f).toInt64.toUInt64).toInt64) &&& (own_msk vZ1)).toInt32)).toInt64) - (vL1.toInt64)) < (0 : Int64)
      · have pre874 : ∀ t, Steps p.tables e below (T830.setTop (mkF m 582 #[Si p1, Si p2, Si p3, Sl q4, S2, Sl q5, S2, Si p6, Si vZ0, Si vZ1, Si vZ2, Si vL0, Si vL1, Si vL2, Si (1 : Int32), Si vZ1, Si vL1, Si vV, Sr b77, Sr b160, Sl vO0, S2, Sl vO1, S2, Sl vO2, S2, Sr b611, Sr b646, Sr b671, Si (1 : Int32), Sl ((((vL1 + (0 : Int32)) + ((((vO0.toUInt64 >>> (((1 : Int32) + (own_bits vZ0)) &&& 0x3f).toInt64.toUInt64).toInt64) &&& (own_msk vZ1)).toInt32)).toInt64) - (vL1.toInt64)), S2] [(.int (1 : Int32))])) t → Steps p.tables e below (s₁.setTop (entryFrame m #[(.int p1), (.int p2), (.int p3), (.long q4), (.long q5), (.int p6)] maxLocals)) t := by
          intro t k
          refine pre873 t ?_
          refine XS.ifYes X830.here hx rfl (pc0 := 514) (pc' := 580) rfl (hb hby at_514) rfl ((if0 _ _).trans (tlt ((lw_lt _ _).mpr hd0)).1) (by decide) (by decide) ?_
          refine XS.iload X830.here hx rfl (hb hby at_580) rfl ?_
          exact k
        obtain ⟨fs, hr, hrun, hended, hW, hsame⟩ := X830.leave (v := some (.int (1 : Int32))) (fun h => by rw [Bd.returns] at h; cases h)
        refine ⟨_, _, pre874 _ ?_, hrun, hended, _, _, rfl, ?_, ⟨_, rfl⟩, hW, hsame.mono (by decide) (by decide)⟩
        · exact retN X830 hx (t := .boolean) Bd.returns (by simp) (hb hby at_582) hr
        · show Q_rm0 Z p1 p2 p3 q4 q5 p6 wE kE h0 n0 _ T830.heap _
          exact ⟨rfl, N832, KC833⟩
      · have pre875 : ∀ t, Steps p.tables e below (T830.setTop (mkF m 523 #[Si p1, Si p2, Si p3, Sl q4, S2, Sl q5, S2, Si p6, Si vZ0, Si vZ1, Si vZ2, Si vL0, Si vL1, Si vL2, Si (1 : Int32), Si vZ1, Si vL1, Si vV, Sr b77, Sr b160, Sl vO0, S2, Sl vO1, S2, Sl vO2, S2, Sr b611, Sr b646, Sr b671, Si (1 : Int32), Sl ((((vL1 + (0 : Int32)) + ((((vO0.toUInt64 >>> (((1 : Int32) + (own_bits vZ0)) &&& 0x3f).toInt64.toUInt64).toInt64) &&& (own_msk vZ1)).toInt32)).toInt64) - (vL1.toInt64)), S2] [(.int (lcmpW ((((vL1 + (0 : Int32)) + ((((vO0.toUInt64 >>> (((1 : Int32) + (own_bits vZ0)) &&& 0x3f).toInt64.toUInt64).toInt64) &&& (own_msk vZ1)).toInt32)).toInt64) - (vL1.toInt64)) (vZ1.toInt64)))])) t → Steps p.tables e below (s₁.setTop (entryFrame m #[(.int p1), (.int p2), (.int p3), (.long q4), (.long q5), (.int p6)] maxLocals)) t := by
          intro t k
          refine pre873 t ?_
          refine XS.ifNo X830.here hx rfl (hb hby at_514) rfl ((if0 _ _).trans (flt (fun z => hd0 ((lw_lt _ _).mp z))).1) ?_
          refine XS.lload X830.here hx rfl (hb hby at_517) rfl ?_
          refine XS.iload X830.here hx rfl (hb hby at_519) rfl ?_
          refine XS.i2l X830.here hx rfl (hb hby at_521) rfl ?_
          refine XS.lcmp X830.here hx rfl (hb hby at_522) rfl ?_
          exact k
        by_cases hd1 : ((((vL1 + (0 : Int32)) + ((((vO0.toUInt64 >>> (((1 : Int32) + (own_bits vZ0)) &&& 0x3f).toInt64.toUInt64).toInt64) &&& (own_msk vZ1)).toInt32)).toInt64) - (vL1.toInt64)) < (vZ1.toInt64)
        · obtain ⟨c876, Arc876, Aqc876, Asc876, Anc876, Ahc876, Agc876⟩ := id F841
          have hin877 : ¬ ((1 : Int32) < 0 ∨ c876.slots.size ≤ ((1 : Int32)).toNatClampNeg) := inb_of Asc876 ⟨by decide, by decide⟩
          have hat878 : c876.slots[((1 : Int32)).toNatClampNeg]? = some (.int ((vL1 + (0 : Int32)) + ((((vO0.toUInt64 >>> (((1 : Int32) + (own_bits vZ0)) &&& 0x3f).toInt64.toUInt64).toInt64) &&& (own_msk vZ1)).toInt32))) := Has.at Ahc876 hin877 rfl
          have F879 : Fld Z T830.heap b160 "com/example/darlington/darlington/core/StateLayout" "wordOf" "[I" (.ref r1_191) := (F821.keep q830_0 (ninS ne683 nin0))
          have F880 : Arv Z T830.heap r1_191 c1_191 .int (3 : Int32) [(.int (0 : Int32)), (.int (0 : Int32)), (.int (0 : Int32))] (.int (0 : Int32)) := (F822.keep q830_0 (ninS ne685 nin0))
          have F881 : Fld Z T830.heap b160 "com/example/darlington/darlington/core/StateLayout" "shiftOf" "[I" (.ref r2_191) := (F823.keep q830_0 (ninS ne683 nin0))
          have F882 : Arv Z T830.heap r2_191 c2_191 .int (3 : Int32) [(.int (1 : Int32)), (.int ((1 : Int32) + (own_bits vZ0))), (.int (((1 : Int32) + (own_bits vZ0)) + (own_bits vZ1)))] (.int (0 : Int32)) := (F824.keep q830_0 (ninS ne687 nin0))
          have F883 : Fld Z T830.heap b160 "com/example/darlington/darlington/core/StateLayout" "maskOf" "[J" (.ref r3_191) := (F825.keep q830_0 (ninS ne683 nin0))
          have F884 : Arv Z T830.heap r3_191 c3_191 .long (3 : Int32) [(.long (own_msk vZ0)), (.long (own_msk vZ1)), (.long (own_msk vZ2))] (.long (0 : Int64)) := (F826.keep q830_0 (ninS ne689 nin0))
          have F885 : Fld Z T830.heap b160 "com/example/darlington/darlington/core/StateLayout" "firstOf" "[I" (.ref r4_191) := (F827.keep q830_0 (ninS ne683 nin0))
          have F886 : Arv Z T830.heap r4_191 c4_191 .int (3 : Int32) [(.int (vL0 + (0 : Int32))), (.int (vL1 + (0 : Int32))), (.int (vL2 + (0 : Int32)))] (.int (0 : Int32)) := (F828.keep q830_0 (ninS ne691 nin0))
          have F888 : Exa Z T830.heap b160 "com/example/darlington/darlington/core/StateLayout" := (F831.keep q830_0)
          obtain ⟨cq887, kq887, q887a, q887b, q887c⟩ := isOf hZ rfl F888
          obtain ⟨_, _, ⟨T887, L887, k887, n887⟩, -, X887, ⟨Lc887, hQ887, l887, y887, z887⟩, st887⟩ := X830.virtualBack hx (y := (⟨"com/example/darlington/darlington/core/StateLayout", "set", "([JII)V"⟩ : MethodName)) (z := (⟨"com/example/darlington/darlington/core/StateLayout", "set", "([JII)V"⟩ : MethodName)) hown (mvT hZ (ow hw 159 rfl)) (mvT hZ (ow hw 160 rfl)) (notFace_of_selects (args := #[]) (mvT hZ (ow hw 162 rfl))) (mvT hZ (ow hw 162 rfl)) (mvT hZ (ow hw 161 rfl)) (by decide) (backOf (W := 0) (rm_set1 l Z a0 hw [] b160 b611 ((vL1 + (0 : Int32)) + ((((vO0.toUInt64 >>> (((1 : Int32) + (own_bits vZ0)) &&& 0x3f).toInt64.toUInt64).toInt64) &&& (own_msk vZ1)).toInt32)) r1_191 r2_191 r3_191 r4_191 c1_191 c2_191 c3_191 c4_191 (1 : Int32) ((1 : Int32) + (own_bits vZ0)) (((1 : Int32) + (own_bits vZ0)) + (own_bits vZ1)) (own_msk vZ0) (own_msk vZ1) (own_msk vZ2) (vL0 + (0 : Int32)) (vL1 + (0 : Int32)) (vL2 + (0 : Int32)) (0 : Int32) k611 (own_upd vO0 ((1 : Int32) + (own_bits vZ0)) (own_msk vZ1) (vL1 + (0 : Int32)) vV) vO1 vO2 T830.heap n0 (Nat.le_trans Z0 KC833.1) F879 F880 F881 F882 F883 F884 F885 F886 F854 ge628) hZ (ow hw 163 rfl) (ow hw 88 rfl) (by decide) (by decide)) q887a q887c (g := (mkF m 537 #[Si p1, Si p2, Si p3, Sl q4, S2, Sl q5, S2, Si p6, Si vZ0, Si vZ1, Si vZ2, Si vL0, Si vL1, Si vL2, Si (1 : Int32), Si vZ1, Si vL1, Si vV, Sr b77, Sr b160, Sl vO0, S2, Sl vO1, S2, Sl vO2, S2, Sr b611, Sr b646, Sr b671, Si (1 : Int32), Sl ((((vL1 + (0 : Int32)) + ((((vO0.toUInt64 >>> (((1 : Int32) + (own_bits vZ0)) &&& 0x3f).toInt64.toUInt64).toInt64) &&& (own_msk vZ1)).toInt32)).toInt64) - (vL1.toInt64)), S2] [(.int ((vL1 + (0 : Int32)) + ((((vO0.toUInt64 >>> (((1 : Int32) + (own_bits vZ0)) &&& 0x3f).toInt64.toUInt64).toInt64) &&& (own_msk vZ1)).toInt32))), (.int (1 : Int32)), (.ref b611), (.ref b160)])) rfl (by rw [hml]; rfl) (Steps.refl _) (argsL := [(.ref b611), (.int (1 : Int32)), (.int ((vL1 + (0 : Int32)) + ((((vO0.toUInt64 >>> (((1 : Int32) + (own_bits vZ0)) &&& 0x3f).toInt64.toUInt64).toInt64) &&& (own_msk vZ1)).toInt32)))]) (rest := []) (lenOf pd_13 rfl) rfl (by show 2 * 0 + _ ≤ _; exact Nat.le_of_eq rfl) (hb hby at_537) (fun _ _ => ⟨rfl, rfl, (by decide : 13 + 0 ≤ _), (by decide : 45 + 0 ≤ _)⟩)
          dsimp only [Pt.U, Pt.locs, Pt.cells, Pt.slots] at X887 l887 y887 z887 st887 hQ887
          subst y887 z887
          obtain ⟨rfl, Nq887, q887_0, q887_1⟩ := hQ887
          have N889 := Eq.subst (motive := fun L => Fr n0 L) l887.symm (Fr.app N832 Nq887)
          have KC890 : Keep h0 T887.heap [] := KC833.trans q887_0 (allS (Or.inr sz629) all0)
          obtain ⟨c891, Arc891, Aqc891, Asc891, Anc891, Ahc891, Agc891⟩ := id q887_1
          have hin892 : ¬ ((0 : Int32) < 0 ∨ c891.slots.size ≤ ((0 : Int32)).toNatClampNeg) := inb_of Asc891 ⟨by decide, by decide⟩
          have hat893 : c891.slots[((0 : Int32)).toNatClampNeg]? = some (.long (own_upd (own_upd vO0 ((1 : Int32) + (own_bits vZ0)) (own_msk vZ1) (vL1 + (0 : Int32)) vV) ((1 : Int32) + (own_bits vZ0)) (own_msk vZ1) (vL1 + (0 : Int32)) ((vL1 + (0 : Int32)) + ((((vO0.toUInt64 >>> (((1 : Int32) + (own_bits vZ0)) &&& 0x3f).toInt64.toUInt64).toInt64) &&& (own_msk vZ1)).toInt32)))) := Has.at Ahc891 hin892 rfl
          have hc894 : (own_upd (own_upd vO0 ((1 : Int32) + (own_bits vZ0)) (own_msk vZ1) (vL1 + (0 : Int32)) vV) ((1 : Int32) + (own_bits vZ0)) (own_msk vZ1) (vL1 + (0 : Int32)) ((vL1 + (0 : Int32)) + ((((vO0.toUInt64 >>> (((1 : Int32) + (own_bits vZ0)) &&& 0x3f).toInt64.toUInt64).toInt64) &&& (own_msk vZ1)).toInt32))) = vO0 := own_uuG G1 (own_back G1.2.2.2 B1 _ (own_fldB G1.2.2.2 B1).1 (own_fldB G1.2.2.2 B1).2 hd0)
          obtain ⟨c895, Arc895, Aqc895, Asc895, Anc895, Ahc895, Agc895⟩ := id q887_1
          have hin896 : ¬ ((1 : Int32) < 0 ∨ c895.slots.size ≤ ((1 : Int32)).toNatClampNeg) := inb_of Asc895 ⟨by decide, by decide⟩
          have hat897 : c895.slots[((1 : Int32)).toNatClampNeg]? = some (.long vO1) := Has.at Ahc895 hin896 rfl
          obtain ⟨c898, Arc898, Aqc898, Asc898, Anc898, Ahc898, Agc898⟩ := id q887_1
          have hin899 : ¬ ((2 : Int32) < 0 ∨ c898.slots.size ≤ ((2 : Int32)).toNatClampNeg) := inb_of Asc898 ⟨by decide, by decide⟩
          have hat900 : c898.slots[((2 : Int32)).toNatClampNeg]? = some (.long vO2) := Has.at Ahc898 hin899 rfl
          have pre901 : ∀ t, Steps p.tables e below (T887.setTop (mkF m 582 #[Si p1, Si p2, Si p3, Sl q4, S2, Sl q5, S2, Si p6, Si vZ0, Si vZ1, Si vZ2, Si vL0, Si vL1, Si vL2, Si (1 : Int32), Si vZ1, Si vL1, Si vV, Sr b77, Sr b160, Sl vO0, S2, Sl vO1, S2, Sl vO2, S2, Sr b611, Sr b646, Sr b671, Si (1 : Int32), Sl ((((vL1 + (0 : Int32)) + ((((vO0.toUInt64 >>> (((1 : Int32) + (own_bits vZ0)) &&& 0x3f).toInt64.toUInt64).toInt64) &&& (own_msk vZ1)).toInt32)).toInt64) - (vL1.toInt64)), S2] [(.int (1 : Int32))])) t → Steps p.tables e below (s₁.setTop (entryFrame m #[(.int p1), (.int p2), (.int p3), (.long q4), (.long q5), (.int p6)] maxLocals)) t := by
            intro t k
            refine pre875 t ?_
            refine XS.ifNo X830.here hx rfl (hb hby at_523) rfl ((if0 _ _).trans (tlt ((lw_lt _ _).mpr hd1)).2.1) ?_
            refine XS.aload X830.here hx rfl (hb hby at_526) rfl rfl ?_
            show Steps _ _ _ (T830.setTop (mkF m 528 #[Si p1, Si p2, Si p3, Sl q4, S2, Sl q5, S2, Si p6, Si vZ0, Si vZ1, Si vZ2, Si vL0, Si vL1, Si vL2, Si (1 : Int32), Si vZ1, Si vL1, Si vV, Sr b77, Sr b160, Sl vO0, S2, Sl vO1, S2, Sl vO2, S2, Sr b611, Sr b646, Sr b671, Si (1 : Int32), Sl ((((vL1 + (0 : Int32)) + ((((vO0.toUInt64 >>> (((1 : Int32) + (own_bits vZ0)) &&& 0x3f).toInt64.toUInt64).toInt64) &&& (own_msk vZ1)).toInt32)).toInt64) - (vL1.toInt64)), S2] [(.ref b160)])) _
            refine XS.aload X830.here hx rfl (hb hby at_528) rfl rfl ?_
            refine XS.iload X830.here hx rfl (hb hby at_530) rfl ?_
            refine XS.aload X830.here hx rfl (hb hby at_532) rfl rfl ?_
            refine XS.iload X830.here hx rfl (hb hby at_534) rfl ?_
            refine X830.iaload hx (j := (1 : Int32)) (v := (.int ((vL1 + (0 : Int32)) + ((((vO0.toUInt64 >>> (((1 : Int32) + (own_bits vZ0)) &&& 0x3f).toInt64.toUInt64).toInt64) &&& (own_msk vZ1)).toInt32)))) Arc876.1 (State.isArrayOf_alike hZ.alike Arc876.2.1) Arc876.2.2 hin877 hat878 (g := (mkF m 536 #[Si p1, Si p2, Si p3, Sl q4, S2, Sl q5, S2, Si p6, Si vZ0, Si vZ1, Si vZ2, Si vL0, Si vL1, Si vL2, Si (1 : Int32), Si vZ1, Si vL1, Si vV, Sr b77, Sr b160, Sl vO0, S2, Sl vO1, S2, Sl vO2, S2, Sr b611, Sr b646, Sr b671, Si (1 : Int32), Sl ((((vL1 + (0 : Int32)) + ((((vO0.toUInt64 >>> (((1 : Int32) + (own_bits vZ0)) &&& 0x3f).toInt64.toUInt64).toInt64) &&& (own_msk vZ1)).toInt32)).toInt64) - (vL1.toInt64)), S2] [(.int (1 : Int32)), (.ref b646), (.int (1 : Int32)), (.ref b611), (.ref b160)])) rfl rfl (hb hby at_536) _ ?_
            refine st887.trans ?_
            refine XS.iload X887.here hx rfl (hb hby at_540) rfl ?_
            refine XS.aload X887.here hx rfl (hb hby at_542) rfl rfl ?_
            refine XS.iconst X887.here hx rfl (hb hby at_544) ?_
            refine X887.laload hx (j := (0 : Int32)) (v := (.long (own_upd (own_upd vO0 ((1 : Int32) + (own_bits vZ0)) (own_msk vZ1) (vL1 + (0 : Int32)) vV) ((1 : Int32) + (own_bits vZ0)) (own_msk vZ1) (vL1 + (0 : Int32)) ((vL1 + (0 : Int32)) + ((((vO0.toUInt64 >>> (((1 : Int32) + (own_bits vZ0)) &&& 0x3f).toInt64.toUInt64).toInt64) &&& (own_msk vZ1)).toInt32))))) Arc891.1 (State.isArrayOf_alike hZ.alike Arc891.2.1) Arc891.2.2 hin892 hat893 (g := (mkF m 545 #[Si p1, Si p2, Si p3, Sl q4, S2, Sl q5, S2, Si p6, Si vZ0, Si vZ1, Si vZ2, Si vL0, Si vL1, Si vL2, Si (1 : Int32), Si vZ1, Si vL1, Si vV, Sr b77, Sr b160, Sl vO0, S2, Sl vO1, S2, Sl vO2, S2, Sr b611, Sr b646, Sr b671, Si (1 : Int32), Sl ((((vL1 + (0 : Int32)) + ((((vO0.toUInt64 >>> (((1 : Int32) + (own_bits vZ0)) &&& 0x3f).toInt64.toUInt64).toInt64) &&& (own_msk vZ1)).toInt32)).toInt64) - (vL1.toInt64)), S2] [(.int (0 : Int32)), (.ref b611), (.int (1 : Int32))])) rfl rfl (hb hby at_545) _ ?_
            show Steps _ _ _ (T887.setTop (mkF m 546 #[Si p1, Si p2, Si p3, Sl q4, S2, Sl q5, S2, Si p6, Si vZ0, Si vZ1, Si vZ2, Si vL0, Si vL1, Si vL2, Si (1 : Int32), Si vZ1, Si vL1, Si vV, Sr b77, Sr b160, Sl vO0, S2, Sl vO1, S2, Sl vO2, S2, Sr b611, Sr b646, Sr b671, Si (1 : Int32), Sl ((((vL1 + (0 : Int32)) + ((((vO0.toUInt64 >>> (((1 : Int32) + (own_bits vZ0)) &&& 0x3f).toInt64.toUInt64).toInt64) &&& (own_msk vZ1)).toInt32)).toInt64) - (vL1.toInt64)), S2] [(.long (own_upd (own_upd vO0 ((1 : Int32) + (own_bits vZ0)) (own_msk vZ1) (vL1 + (0 : Int32)) vV) ((1 : Int32) + (own_bits vZ0)) (own_msk vZ1) (vL1 + (0 : Int32)) ((vL1 + (0 : Int32)) + ((((vO0.toUInt64 >>> (((1 : Int32) + (own_bits vZ0)) &&& 0x3f).toInt64.toUInt64).toInt64) &&& (own_msk vZ1)).toInt32)))), (.int (1 : Int32))])) _
            refine XS.lload X887.here hx rfl (hb hby at_546) rfl ?_
            refine XS.lcmp X887.here hx rfl (hb hby at_548) rfl ?_
            refine XS.ifNo X887.here hx rfl (hb hby at_549) rfl ((if0 _ _).trans (teq ((lw_eq _ _).mpr hc894)).2) ?_
            refine XS.aload X887.here hx rfl (hb hby at_552) rfl rfl ?_
            refine XS.iconst X887.here hx rfl (hb hby at_554) ?_
            refine X887.laload hx (j := (1 : Int32)) (v := (.long vO1)) Arc895.1 (State.isArrayOf_alike hZ.alike Arc895.2.1) Arc895.2.2 hin896 hat897 (g := (mkF m 555 #[Si p1, Si p2, Si p3, Sl q4, S2, Sl q5, S2, Si p6, Si vZ0, Si vZ1, Si vZ2, Si vL0, Si vL1, Si vL2, Si (1 : Int32), Si vZ1, Si vL1, Si vV, Sr b77, Sr b160, Sl vO0, S2, Sl vO1, S2, Sl vO2, S2, Sr b611, Sr b646, Sr b671, Si (1 : Int32), Sl ((((vL1 + (0 : Int32)) + ((((vO0.toUInt64 >>> (((1 : Int32) + (own_bits vZ0)) &&& 0x3f).toInt64.toUInt64).toInt64) &&& (own_msk vZ1)).toInt32)).toInt64) - (vL1.toInt64)), S2] [(.int (1 : Int32)), (.ref b611), (.int (1 : Int32))])) rfl rfl (hb hby at_555) _ ?_
            refine XS.lload X887.here hx rfl (hb hby at_556) rfl ?_
            refine XS.lcmp X887.here hx rfl (hb hby at_558) rfl ?_
            refine XS.ifNo X887.here hx rfl (hb hby at_559) rfl ((if0 _ _).trans (teq ((lw_eq _ _).mpr rfl)).2) ?_
            refine XS.aload X887.here hx rfl (hb hby at_562) rfl rfl ?_
            show Steps _ _ _ (T887.setTop (mkF m 564 #[Si p1, Si p2, Si p3, Sl q4, S2, Sl q5, S2, Si p6, Si vZ0, Si vZ1, Si vZ2, Si vL0, Si vL1, Si vL2, Si (1 : Int32), Si vZ1, Si vL1, Si vV, Sr b77, Sr b160, Sl vO0, S2, Sl vO1, S2, Sl vO2, S2, Sr b611, Sr b646, Sr b671, Si (1 : Int32), Sl ((((vL1 + (0 : Int32)) + ((((vO0.toUInt64 >>> (((1 : Int32) + (own_bits vZ0)) &&& 0x3f).toInt64.toUInt64).toInt64) &&& (own_msk vZ1)).toInt32)).toInt64) - (vL1.toInt64)), S2] [(.ref b611), (.int (1 : Int32))])) _
            refine XS.iconst X887.here hx rfl (hb hby at_564) ?_
            refine X887.laload hx (j := (2 : Int32)) (v := (.long vO2)) Arc898.1 (State.isArrayOf_alike hZ.alike Arc898.2.1) Arc898.2.2 hin899 hat900 (g := (mkF m 565 #[Si p1, Si p2, Si p3, Sl q4, S2, Sl q5, S2, Si p6, Si vZ0, Si vZ1, Si vZ2, Si vL0, Si vL1, Si vL2, Si (1 : Int32), Si vZ1, Si vL1, Si vV, Sr b77, Sr b160, Sl vO0, S2, Sl vO1, S2, Sl vO2, S2, Sr b611, Sr b646, Sr b671, Si (1 : Int32), Sl ((((vL1 + (0 : Int32)) + ((((vO0.toUInt64 >>> (((1 : Int32) + (own_bits vZ0)) &&& 0x3f).toInt64.toUInt64).toInt64) &&& (own_msk vZ1)).toInt32)).toInt64) - (vL1.toInt64)), S2] [(.int (2 : Int32)), (.ref b611), (.int (1 : Int32))])) rfl rfl (hb hby at_565) _ ?_
            refine XS.lload X887.here hx rfl (hb hby at_566) rfl ?_
            refine XS.lcmp X887.here hx rfl (hb hby at_568) rfl ?_
            refine XS.ifNo X887.here hx rfl (hb hby at_569) rfl ((if0 _ _).trans (teq ((lw_eq _ _).mpr rfl)).2) ?_
            refine XS.iconst X887.here hx rfl (hb hby at_572) ?_
            refine XS.goto X887.here hx rfl (pc0 := 573) (pc' := 577) rfl (hb hby at_573) (by decide) (by decide) ?_
            refine XS.iand X887.here hx rfl (hb hby at_577) rfl ?_
            refine XS.istore X887.here hx rfl (hb hby at_578) rfl (l' := #[Si p1, Si p2, Si p3, Sl q4, S2, Sl q5, S2, Si p6, Si vZ0, Si vZ1, Si vZ2, Si vL0, Si vL1, Si vL2, Si (1 : Int32), Si vZ1, Si vL1, Si vV, Sr b77, Sr b160, Sl vO0, S2, Sl vO1, S2, Sl vO2, S2, Sr b611, Sr b646, Sr b671, Si (1 : Int32), Sl ((((vL1 + (0 : Int32)) + ((((vO0.toUInt64 >>> (((1 : Int32) + (own_bits vZ0)) &&& 0x3f).toInt64.toUInt64).toInt64) &&& (own_msk vZ1)).toInt32)).toInt64) - (vL1.toInt64)), S2]) rfl ?_
            refine XS.iload X887.here hx rfl (hb hby at_580) rfl ?_
            show Steps _ _ _ (T887.setTop (mkF m 582 #[Si p1, Si p2, Si p3, Sl q4, S2, Sl q5, S2, Si p6, Si vZ0, Si vZ1, Si vZ2, Si vL0, Si vL1, Si vL2, Si (1 : Int32), Si vZ1, Si vL1, Si vV, Sr b77, Sr b160, Sl vO0, S2, Sl vO1, S2, Sl vO2, S2, Sr b611, Sr b646, Sr b671, Si (1 : Int32), Sl ((((vL1 + (0 : Int32)) + ((((vO0.toUInt64 >>> (((1 : Int32) + (own_bits vZ0)) &&& 0x3f).toInt64.toUInt64).toInt64) &&& (own_msk vZ1)).toInt32)).toInt64) - (vL1.toInt64)), S2] [(.int (1 : Int32))])) _
            exact k
          obtain ⟨fs, hr, hrun, hended, hW, hsame⟩ := X887.leave (v := some (.int (1 : Int32))) (fun h => by rw [Bd.returns] at h; cases h)
          refine ⟨_, _, pre901 _ ?_, hrun, hended, _, _, rfl, ?_, ⟨_, rfl⟩, hW, hsame.mono (by decide) (by decide)⟩
          · exact retN X887 hx (t := .boolean) Bd.returns (by simp) (hb hby at_582) hr
          · show Q_rm0 Z p1 p2 p3 q4 q5 p6 wE kE h0 n0 _ T887.heap _
            exact ⟨rfl, N889, KC890⟩
        · have pre902 : ∀ t, Steps p.tables e below (T830.setTop (mkF m 582 #[Si p1, Si p2, Si p3, Sl q4, S2, Sl q5, S2, Si p6, Si vZ0, Si vZ1, Si vZ2, Si vL0, Si vL1, Si vL2, Si (1 : Int32), Si vZ1, Si vL1, Si vV, Sr b77, Sr b160, Sl vO0, S2, Sl vO1, S2, Sl vO2, S2, Sr b611, Sr b646, Sr b671, Si (1 : Int32), Sl ((((vL1 + (0 : Int32)) + ((((vO0.toUInt64 >>> (((1 : Int32) + (own_bits vZ0)) &&& 0x3f).toInt64.toUInt64).toInt64) &&& (own_msk vZ1)).toInt32)).toInt64) - (vL1.toInt64)), S2] [(.int (1 : Int32))])) t → Steps p.tables e below (s₁.setTop (entryFrame m #[(.int p1), (.int p2), (.int p3), (.long q4), (.long q5), (.int p6)] maxLocals)) t := by
            intro t k
            refine pre875 t ?_
            refine XS.ifYes X830.here hx rfl (pc0 := 523) (pc' := 580) rfl (hb hby at_523) rfl ((if0 _ _).trans (flt (fun z => hd1 ((lw_lt _ _).mp z))).2.1) (by decide) (by decide) ?_
            refine XS.iload X830.here hx rfl (hb hby at_580) rfl ?_
            show Steps _ _ _ (T830.setTop (mkF m 582 #[Si p1, Si p2, Si p3, Sl q4, S2, Sl q5, S2, Si p6, Si vZ0, Si vZ1, Si vZ2, Si vL0, Si vL1, Si vL2, Si (1 : Int32), Si vZ1, Si vL1, Si vV, Sr b77, Sr b160, Sl vO0, S2, Sl vO1, S2, Sl vO2, S2, Sr b611, Sr b646, Sr b671, Si (1 : Int32), Sl ((((vL1 + (0 : Int32)) + ((((vO0.toUInt64 >>> (((1 : Int32) + (own_bits vZ0)) &&& 0x3f).toInt64.toUInt64).toInt64) &&& (own_msk vZ1)).toInt32)).toInt64) - (vL1.toInt64)), S2] [(.int (1 : Int32))])) _
            exact k
          obtain ⟨fs, hr, hrun, hended, hW, hsame⟩ := X830.leave (v := some (.int (1 : Int32))) (fun h => by rw [Bd.returns] at h; cases h)
          refine ⟨_, _, pre902 _ ?_, hrun, hended, _, _, rfl, ?_, ⟨_, rfl⟩, hW, hsame.mono (by decide) (by decide)⟩
          · exact retN X830 hx (t := .boolean) Bd.returns (by simp) (hb hby at_582) hr
          · show Q_rm0 Z p1 p2 p3 q4 q5 p6 wE kE h0 n0 _ T830.heap _
            exact ⟨rfl, N832, KC833⟩
    · have eSz : vSz = vZ2 := by rw [hvSz, hI]; rfl
      have eLo : vLo = vL2 := by rw [hvLo, hI]; rfl
      rw [hI, eSz, eLo] at pre712
      have hV := own_vv vL2 vZ2 p6 hz2 hl2 vV (by rw [hvV, eSz, eLo])
      have hV2 := own_lt2 hV.2 Y2
      have G2 := G2a hAB
      have F903 : Fld Z T708.heap b160 "com/example/darlington/darlington/core/StateLayout" "wordOf" "[I" (.ref r1_191) := (F698.keep q708_0 (ninS ne658 nin0))
      have F904 : Arv Z T708.heap r1_191 c1_191 .int (3 : Int32) [(.int (0 : Int32)), (.int (0 : Int32)), (.int (0 : Int32))] (.int (0 : Int32)) := (F699.keep q708_0 (ninS ne660 nin0))
      have F905 : Fld Z T708.heap b160 "com/example/darlington/darlington/core/StateLayout" "shiftOf" "[I" (.ref r2_191) := (F700.keep q708_0 (ninS ne658 nin0))
      have F906 : Arv Z T708.heap r2_191 c2_191 .int (3 : Int32) [(.int (1 : Int32)), (.int ((1 : Int32) + (own_bits vZ0))), (.int (((1 : Int32) + (own_bits vZ0)) + (own_bits vZ1)))] (.int (0 : Int32)) := (F701.keep q708_0 (ninS ne662 nin0))
      have F907 : Fld Z T708.heap b160 "com/example/darlington/darlington/core/StateLayout" "maskOf" "[J" (.ref r3_191) := (F702.keep q708_0 (ninS ne658 nin0))
      have F908 : Arv Z T708.heap r3_191 c3_191 .long (3 : Int32) [(.long (own_msk vZ0)), (.long (own_msk vZ1)), (.long (own_msk vZ2))] (.long (0 : Int64)) := (F703.keep q708_0 (ninS ne664 nin0))
      have F909 : Fld Z T708.heap b160 "com/example/darlington/darlington/core/StateLayout" "firstOf" "[I" (.ref r4_191) := (F704.keep q708_0 (ninS ne658 nin0))
      have F910 : Arv Z T708.heap r4_191 c4_191 .int (3 : Int32) [(.int (vL0 + (0 : Int32))), (.int (vL1 + (0 : Int32))), (.int (vL2 + (0 : Int32)))] (.int (0 : Int32)) := (F705.keep q708_0 (ninS ne666 nin0))
      have F911 : Arv Z T708.heap b611 k611 .long (3 : Int32) [(.long vO0), (.long vO1), (.long vO2)] (.long (0 : Int64)) := (F706.keep q708_0 (ninS ne667 nin0))
      have F913 : Exa Z T708.heap b160 "com/example/darlington/darlington/core/StateLayout" := (F709.keep q708_0)
      obtain ⟨cq912, kq912, q912a, q912b, q912c⟩ := isOf hZ rfl F913
      obtain ⟨_, _, ⟨T912, L912, k912, n912⟩, -, X912, ⟨Lc912, hQ912, l912, y912, z912⟩, st912⟩ := X708.virtualBack hx (y := (⟨"com/example/darlington/darlington/core/StateLayout", "set", "([JII)V"⟩ : MethodName)) (z := (⟨"com/example/darlington/darlington/core/StateLayout", "set", "([JII)V"⟩ : MethodName)) hown (mvT hZ (ow hw 159 rfl)) (mvT hZ (ow hw 160 rfl)) (notFace_of_selects (args := #[]) (mvT hZ (ow hw 162 rfl))) (mvT hZ (ow hw 162 rfl)) (mvT hZ (ow hw 161 rfl)) (by decide) (backOf (W := 0) (rm_set2A l Z a0 hw [] b160 b611 vV r1_191 r2_191 r3_191 r4_191 c1_191 c2_191 c3_191 c4_191 (1 : Int32) ((1 : Int32) + (own_bits vZ0)) (((1 : Int32) + (own_bits vZ0)) + (own_bits vZ1)) (own_msk vZ0) (own_msk vZ1) (own_msk vZ2) (vL0 + (0 : Int32)) (vL1 + (0 : Int32)) (vL2 + (0 : Int32)) k611 vO0 vO1 vO2 T708.heap n0 (Nat.le_trans Z0 KC711.1) F903 F904 F905 F906 F907 F908 F909 F910 F911 ge628) hZ (ow hw 163 rfl) (ow hw 88 rfl) (by decide) (by decide)) q912a q912c (g := (mkF m 317 #[Si p1, Si p2, Si p3, Sl q4, S2, Sl q5, S2, Si p6, Si vZ0, Si vZ1, Si vZ2, Si vL0, Si vL1, Si vL2, Si (2 : Int32), Si vZ2, Si vL2, Si vV, Sr b77, Sr b160, Sl vO0, S2, Sl vO1, S2, Sl vO2, S2, Sr b611, Sr b646, Sr b671, Su, Su, Su] [(.int vV), (.int (2 : Int32)), (.ref b611), (.ref b160)])) rfl (by rw [hml]; rfl) (Steps.refl _) (argsL := [(.ref b611), (.int (2 : Int32)), (.int vV)]) (rest := []) (lenOf pd_13 rfl) rfl (by show 2 * 0 + _ ≤ _; exact Nat.le_of_eq rfl) (hb hby at_317) (fun _ _ => ⟨rfl, rfl, (by decide : 13 + 0 ≤ _), (by decide : 45 + 0 ≤ _)⟩)
      dsimp only [Pt.U, Pt.locs, Pt.cells, Pt.slots] at X912 l912 y912 z912 st912 hQ912
      subst y912 z912
      obtain ⟨rfl, Nq912, q912_0, q912_1⟩ := hQ912
      have N914 := Eq.subst (motive := fun L => Fr n0 L) l912.symm (Fr.app N710 Nq912)
      have KC915 : Keep h0 T912.heap [] := KC711.trans q912_0 (allS (Or.inr sz629) all0)
      have F916 : Fld Z T912.heap b160 "com/example/darlington/darlington/core/StateLayout" "wordOf" "[I" (.ref r1_191) := (F903.keep q912_0 (ninS ne623 nin0))
      have F917 : Arv Z T912.heap r1_191 c1_191 .int (3 : Int32) [(.int (0 : Int32)), (.int (0 : Int32)), (.int (0 : Int32))] (.int (0 : Int32)) := (F904.keep q912_0 (ninS ne624 nin0))
      have F918 : Fld Z T912.heap b160 "com/example/darlington/darlington/core/StateLayout" "shiftOf" "[I" (.ref r2_191) := (F905.keep q912_0 (ninS ne623 nin0))
      have F919 : Arv Z T912.heap r2_191 c2_191 .int (3 : Int32) [(.int (1 : Int32)), (.int ((1 : Int32) + (own_bits vZ0))), (.int (((1 : Int32) + (own_bits vZ0)) + (own_bits vZ1)))] (.int (0 : Int32)) := (F906.keep q912_0 (ninS ne625 nin0))
      have F920 : Fld Z T912.heap b160 "com/example/darlington/darlington/core/StateLayout" "maskOf" "[J" (.ref r3_191) := (F907.keep q912_0 (ninS ne623 nin0))
      have F921 : Arv Z T912.heap r3_191 c3_191 .long (3 : Int32) [(.long (own_msk vZ0)), (.long (own_msk vZ1)), (.long (own_msk vZ2))] (.long (0 : Int64)) := (F908.keep q912_0 (ninS ne626 nin0))
      have F922 : Fld Z T912.heap b160 "com/example/darlington/darlington/core/StateLayout" "firstOf" "[I" (.ref r4_191) := (F909.keep q912_0 (ninS ne623 nin0))
      have F923 : Arv Z T912.heap r4_191 c4_191 .int (3 : Int32) [(.int (vL0 + (0 : Int32))), (.int (vL1 + (0 : Int32))), (.int (vL2 + (0 : Int32)))] (.int (0 : Int32)) := (F910.keep q912_0 (ninS ne627 nin0))
      have F924 : Arv Z T912.heap b671 k671 .int (3 : Int32) [(.int (0 : Int32)), (.int (0 : Int32)), (.int (0 : Int32))] (.int (0 : Int32)) := ((V671.keep q708_0 (ninS (Ne.symm ne694) nin0)).keep q912_0 (ninS (Ne.symm ne693) nin0))
      have F926 : Exa Z T912.heap b160 "com/example/darlington/darlington/core/StateLayout" := (F913.keep q912_0)
      obtain ⟨cq925, kq925, q925a, q925b, q925c⟩ := isOf hZ rfl F926
      obtain ⟨_, _, ⟨T925, L925, k925, n925⟩, -, X925, ⟨Lc925, hQ925, l925, y925, z925⟩, st925⟩ := X912.virtualBack hx (y := (⟨"com/example/darlington/darlington/core/StateLayout", "unpack", "([JI[I)V"⟩ : MethodName)) (z := (⟨"com/example/darlington/darlington/core/StateLayout", "unpack", "([JI[I)V"⟩ : MethodName)) hown (mvT hZ (ow hw 154 rfl)) (mvT hZ (ow hw 155 rfl)) (notFace_of_selects (args := #[]) (mvT hZ (ow hw 157 rfl))) (mvT hZ (ow hw 157 rfl)) (mvT hZ (ow hw 156 rfl)) (by decide) (backOf (W := 0) (rm_unpA l Z a0 hw [] b160 b611 b671 r1_191 r2_191 r3_191 r4_191 c1_191 c2_191 c3_191 c4_191 (1 : Int32) ((1 : Int32) + (own_bits vZ0)) (((1 : Int32) + (own_bits vZ0)) + (own_bits vZ1)) (own_msk vZ0) (own_msk vZ1) (own_msk vZ2) (vL0 + (0 : Int32)) (vL1 + (0 : Int32)) (vL2 + (0 : Int32)) k611 k671 (own_upd vO0 (((1 : Int32) + (own_bits vZ0)) + (own_bits vZ1)) (own_msk vZ2) (vL2 + (0 : Int32)) vV) vO1 vO2 (0 : Int32) (0 : Int32) (0 : Int32) T912.heap n0 (Nat.le_trans Z0 KC915.1) F916 F917 F918 F919 F920 F921 F922 F923 q912_1 F924 ge695 ne683 ne693 ne685 ne687 ne689 ne691) hZ (ow hw 158 rfl) (ow hw 88 rfl) (by decide) (by decide)) q925a q925c (g := (mkF m 327 #[Si p1, Si p2, Si p3, Sl q4, S2, Sl q5, S2, Si p6, Si vZ0, Si vZ1, Si vZ2, Si vL0, Si vL1, Si vL2, Si (2 : Int32), Si vZ2, Si vL2, Si vV, Sr b77, Sr b160, Sl vO0, S2, Sl vO1, S2, Sl vO2, S2, Sr b611, Sr b646, Sr b671, Su, Su, Su] [(.ref b671), (.int (0 : Int32)), (.ref b611), (.ref b160)])) rfl (by rw [hml]; rfl) (Steps.refl _) (argsL := [(.ref b611), (.int (0 : Int32)), (.ref b671)]) (rest := []) (lenOf pd_12 rfl) rfl (by show 2 * 0 + _ ≤ _; exact Nat.le_of_eq rfl) (hb hby at_327) (fun _ _ => ⟨rfl, rfl, (by decide : 13 + 0 ≤ _), (by decide : 45 + 0 ≤ _)⟩)
      dsimp only [Pt.U, Pt.locs, Pt.cells, Pt.slots] at X925 l925 y925 z925 st925 hQ925
      subst y925 z925
      obtain ⟨rfl, Nq925, q925_0, q925_1⟩ := hQ925
      have N927 := Eq.subst (motive := fun L => Fr n0 L) l925.symm (Fr.app N914 Nq925)
      have KC928 : Keep h0 T925.heap [] := KC915.trans q925_0 (allS (Or.inr sz696) all0)
      obtain ⟨c929, Arc929, Aqc929, Asc929, Anc929, Ahc929, Agc929⟩ := id q925_1
      have hin930 : ¬ ((2 : Int32) < 0 ∨ c929.slots.size ≤ ((2 : Int32)).toNatClampNeg) := inb_of Asc929 ⟨by decide, by decide⟩
      have hat931 : c929.slots[((2 : Int32)).toNatClampNeg]? = some (.int ((vL2 + (0 : Int32)) + (((((own_upd vO0 (((1 : Int32) + (own_bits vZ0)) + (own_bits vZ1)) (own_msk vZ2) (vL2 + (0 : Int32)) vV).toUInt64 >>> ((((1 : Int32) + (own_bits vZ0)) + (own_bits vZ1)) &&& 0x3f).toInt64.toUInt64).toInt64) &&& (own_msk vZ2)).toInt32))) := Has.at Ahc929 hin930 rfl
      have hc932 : ((vL2 + (0 : Int32)) + (((((own_upd vO0 (((1 : Int32) + (own_bits vZ0)) + (own_bits vZ1)) (own_msk vZ2) (vL2 + (0 : Int32)) vV).toUInt64 >>> ((((1 : Int32) + (own_bits vZ0)) + (own_bits vZ1)) &&& 0x3f).toInt64.toUInt64).toInt64) &&& (own_msk vZ2)).toInt32)) = vV := own_y337 (own_fuG G2) G2.2.2.2 B2 hV.1 hV2
      obtain ⟨c933, Arc933, Aqc933, Asc933, Anc933, Ahc933, Agc933⟩ := id q925_1
      have hin934 : ¬ ((0 : Int32) < 0 ∨ c933.slots.size ≤ ((0 : Int32)).toNatClampNeg) := inb_of Asc933 ⟨by decide, by decide⟩
      have hat935 : c933.slots[((0 : Int32)).toNatClampNeg]? = some (.int ((vL0 + (0 : Int32)) + (((((own_upd vO0 (((1 : Int32) + (own_bits vZ0)) + (own_bits vZ1)) (own_msk vZ2) (vL2 + (0 : Int32)) vV).toUInt64 >>> ((1 : Int32) &&& 0x3f).toInt64.toUInt64).toInt64) &&& (own_msk vZ0)).toInt32))) := Has.at Ahc933 hin934 rfl
      have F936 : Arv Z T925.heap b646 k646 .int (3 : Int32) [(.int ((vL0 + (0 : Int32)) + ((((vO0.toUInt64 >>> ((1 : Int32) &&& 0x3f).toInt64.toUInt64).toInt64) &&& (own_msk vZ0)).toInt32))), (.int ((vL1 + (0 : Int32)) + ((((vO0.toUInt64 >>> (((1 : Int32) + (own_bits vZ0)) &&& 0x3f).toInt64.toUInt64).toInt64) &&& (own_msk vZ1)).toInt32))), (.int ((vL2 + (0 : Int32)) + ((((vO0.toUInt64 >>> ((((1 : Int32) + (own_bits vZ0)) + (own_bits vZ1)) &&& 0x3f).toInt64.toUInt64).toInt64) &&& (own_msk vZ2)).toInt32)))] (.int (0 : Int32)) := ((q708_1.keep q912_0 (ninS (Ne.symm ne667) nin0)).keep q925_0 (ninS ne694 nin0))
      obtain ⟨c937, Arc937, Aqc937, Asc937, Anc937, Ahc937, Agc937⟩ := id F936
      have hin938 : ¬ ((0 : Int32) < 0 ∨ c937.slots.size ≤ ((0 : Int32)).toNatClampNeg) := inb_of Asc937 ⟨by decide, by decide⟩
      have hat939 : c937.slots[((0 : Int32)).toNatClampNeg]? = some (.int ((vL0 + (0 : Int32)) + ((((vO0.toUInt64 >>> ((1 : Int32) &&& 0x3f).toInt64.toUInt64).toInt64) &&& (own_msk vZ0)).toInt32))) := Has.at Ahc937 hin938 rfl
      have hc940 : ((vL0 + (0 : Int32)) + (((((own_upd vO0 (((1 : Int32) + (own_bits vZ0)) + (own_bits vZ1)) (own_msk vZ2) (vL2 + (0 : Int32)) vV).toUInt64 >>> ((1 : Int32) &&& 0x3f).toInt64.toUInt64).toInt64) &&& (own_msk vZ0)).toInt32)) = ((vL0 + (0 : Int32)) + ((((vO0.toUInt64 >>> ((1 : Int32) &&& 0x3f).toInt64.toUInt64).toInt64) &&& (own_msk vZ0)).toInt32)) := own_oth (own_foG G2 G0 (Or.inl (Nat.le_add_right _ _)))
      obtain ⟨c941, Arc941, Aqc941, Asc941, Anc941, Ahc941, Agc941⟩ := id q925_1
      have hin942 : ¬ ((1 : Int32) < 0 ∨ c941.slots.size ≤ ((1 : Int32)).toNatClampNeg) := inb_of Asc941 ⟨by decide, by decide⟩
      have hat943 : c941.slots[((1 : Int32)).toNatClampNeg]? = some (.int ((vL1 + (0 : Int32)) + (((((own_upd vO0 (((1 : Int32) + (own_bits vZ0)) + (own_bits vZ1)) (own_msk vZ2) (vL2 + (0 : Int32)) vV).toUInt64 >>> (((1 : Int32) + (own_bits vZ0)) &&& 0x3f).toInt64.toUInt64).toInt64) &&& (own_msk vZ1)).toInt32))) := Has.at Ahc941 hin942 rfl
      obtain ⟨c944, Arc944, Aqc944, Asc944, Anc944, Ahc944, Agc944⟩ := id F936
      have hin945 : ¬ ((1 : Int32) < 0 ∨ c944.slots.size ≤ ((1 : Int32)).toNatClampNeg) := inb_of Asc944 ⟨by decide, by decide⟩
      have hat946 : c944.slots[((1 : Int32)).toNatClampNeg]? = some (.int ((vL1 + (0 : Int32)) + ((((vO0.toUInt64 >>> (((1 : Int32) + (own_bits vZ0)) &&& 0x3f).toInt64.toUInt64).toInt64) &&& (own_msk vZ1)).toInt32))) := Has.at Ahc944 hin945 rfl
      have hc947 : ((vL1 + (0 : Int32)) + (((((own_upd vO0 (((1 : Int32) + (own_bits vZ0)) + (own_bits vZ1)) (own_msk vZ2) (vL2 + (0 : Int32)) vV).toUInt64 >>> (((1 : Int32) + (own_bits vZ0)) &&& 0x3f).toInt64.toUInt64).toInt64) &&& (own_msk vZ1)).toInt32)) = ((vL1 + (0 : Int32)) + ((((vO0.toUInt64 >>> (((1 : Int32) + (own_bits vZ0)) &&& 0x3f).toInt64.toUInt64).toInt64) &&& (own_msk vZ1)).toInt32)) := own_oth (own_foG G2 G1 (Or.inl (Nat.le_refl _)))
      have pre948 : ∀ t, Steps p.tables e below (T925.setTop (mkF m 427 #[Si p1, Si p2, Si p3, Sl q4, S2, Sl q5, S2, Si p6, Si vZ0, Si vZ1, Si vZ2, Si vL0, Si vL1, Si vL2, Si (2 : Int32), Si vZ2, Si vL2, Si vV, Sr b77, Sr b160, Sl vO0, S2, Sl vO1, S2, Sl vO2, S2, Sr b611, Sr b646, Sr b671, Si (1 : Int32), Su, Su] [])) t → Steps p.tables e below (s₁.setTop (entryFrame m #[(.int p1), (.int p2), (.int p3), (.long q4), (.long q5), (.int p6)] maxLocals)) t := by
        intro t k
        refine pre712 t ?_
        refine XS.aload X708.here hx rfl (hb hby at_309) rfl rfl ?_
        refine XS.aload X708.here hx rfl (hb hby at_311) rfl rfl ?_
        refine XS.iload X708.here hx rfl (hb hby at_313) rfl ?_
        refine XS.iload X708.here hx rfl (hb hby at_315) rfl ?_
        refine st912.trans ?_
        show Steps _ _ _ (T912.setTop (mkF m 320 #[Si p1, Si p2, Si p3, Sl q4, S2, Sl q5, S2, Si p6, Si vZ0, Si vZ1, Si vZ2, Si vL0, Si vL1, Si vL2, Si (2 : Int32), Si vZ2, Si vL2, Si vV, Sr b77, Sr b160, Sl vO0, S2, Sl vO1, S2, Sl vO2, S2, Sr b611, Sr b646, Sr b671, Su, Su, Su] [])) _
        refine XS.aload X912.here hx rfl (hb hby at_320) rfl rfl ?_
        refine XS.aload X912.here hx rfl (hb hby at_322) rfl rfl ?_
        refine XS.iconst X912.here hx rfl (hb hby at_324) ?_
        refine XS.aload X912.here hx rfl (hb hby at_325) rfl rfl ?_
        refine st925.trans ?_
        refine XS.aload X925.here hx rfl (hb hby at_330) rfl rfl ?_
        refine XS.iload X925.here hx rfl (hb hby at_332) rfl ?_
        refine X925.iaload hx (j := (2 : Int32)) (v := (.int ((vL2 + (0 : Int32)) + (((((own_upd vO0 (((1 : Int32) + (own_bits vZ0)) + (own_bits vZ1)) (own_msk vZ2) (vL2 + (0 : Int32)) vV).toUInt64 >>> ((((1 : Int32) + (own_bits vZ0)) + (own_bits vZ1)) &&& 0x3f).toInt64.toUInt64).toInt64) &&& (own_msk vZ2)).toInt32)))) Arc929.1 (State.isArrayOf_alike hZ.alike Arc929.2.1) Arc929.2.2 hin930 hat931 (g := (mkF m 334 #[Si p1, Si p2, Si p3, Sl q4, S2, Sl q5, S2, Si p6, Si vZ0, Si vZ1, Si vZ2, Si vL0, Si vL1, Si vL2, Si (2 : Int32), Si vZ2, Si vL2, Si vV, Sr b77, Sr b160, Sl vO0, S2, Sl vO1, S2, Sl vO2, S2, Sr b611, Sr b646, Sr b671, Su, Su, Su] [(.int (2 : Int32)), (.ref b671)])) rfl rfl (hb hby at_334) _ ?_
        refine XS.iload X925.here hx rfl (hb hby at_335) rfl ?_
        refine XS.icmpNo X925.here hx rfl (hb hby at_337) rfl (teq hc932).2 ?_
        show Steps _ _ _ (T925.setTop (mkF m 340 #[Si p1, Si p2, Si p3, Sl q4, S2, Sl q5, S2, Si p6, Si vZ0, Si vZ1, Si vZ2, Si vL0, Si vL1, Si vL2, Si (2 : Int32), Si vZ2, Si vL2, Si vV, Sr b77, Sr b160, Sl vO0, S2, Sl vO1, S2, Sl vO2, S2, Sr b611, Sr b646, Sr b671, Su, Su, Su] [])) _
        refine XS.iconst X925.here hx rfl (hb hby at_340) ?_
        refine XS.goto X925.here hx rfl (pc0 := 341) (pc' := 345) rfl (hb hby at_341) (by decide) (by decide) ?_
        refine XS.istore X925.here hx rfl (hb hby at_345) rfl (l' := #[Si p1, Si p2, Si p3, Sl q4, S2, Sl q5, S2, Si p6, Si vZ0, Si vZ1, Si vZ2, Si vL0, Si vL1, Si vL2, Si (2 : Int32), Si vZ2, Si vL2, Si vV, Sr b77, Sr b160, Sl vO0, S2, Sl vO1, S2, Sl vO2, S2, Sr b611, Sr b646, Sr b671, Si (1 : Int32), Su, Su]) rfl ?_
        refine XS.iload X925.here hx rfl (hb hby at_347) rfl ?_
        refine XS.iload X925.here hx rfl (hb hby at_349) rfl ?_
        refine XS.ifNo X925.here hx rfl (hb hby at_351) rfl ((if0 _ _).trans (feq (by decide)).1) ?_
        refine XS.aload X925.here hx rfl (hb hby at_354) rfl rfl ?_
        refine XS.iconst X925.here hx rfl (hb hby at_356) ?_
        refine X925.iaload hx (j := (0 : Int32)) (v := (.int ((vL0 + (0 : Int32)) + (((((own_upd vO0 (((1 : Int32) + (own_bits vZ0)) + (own_bits vZ1)) (own_msk vZ2) (vL2 + (0 : Int32)) vV).toUInt64 >>> ((1 : Int32) &&& 0x3f).toInt64.toUInt64).toInt64) &&& (own_msk vZ0)).toInt32)))) Arc933.1 (State.isArrayOf_alike hZ.alike Arc933.2.1) Arc933.2.2 hin934 hat935 (g := (mkF m 357 #[Si p1, Si p2, Si p3, Sl q4, S2, Sl q5, S2, Si p6, Si vZ0, Si vZ1, Si vZ2, Si vL0, Si vL1, Si vL2, Si (2 : Int32), Si vZ2, Si vL2, Si vV, Sr b77, Sr b160, Sl vO0, S2, Sl vO1, S2, Sl vO2, S2, Sr b611, Sr b646, Sr b671, Si (1 : Int32), Su, Su] [(.int (0 : Int32)), (.ref b671), (.int (1 : Int32))])) rfl rfl (hb hby at_357) _ ?_
        refine XS.aload X925.here hx rfl (hb hby at_358) rfl rfl ?_
        show Steps _ _ _ (T925.setTop (mkF m 360 #[Si p1, Si p2, Si p3, Sl q4, S2, Sl q5, S2, Si p6, Si vZ0, Si vZ1, Si vZ2, Si vL0, Si vL1, Si vL2, Si (2 : Int32), Si vZ2, Si vL2, Si vV, Sr b77, Sr b160, Sl vO0, S2, Sl vO1, S2, Sl vO2, S2, Sr b611, Sr b646, Sr b671, Si (1 : Int32), Su, Su] [(.ref b646), (.int ((vL0 + (0 : Int32)) + (((((own_upd vO0 (((1 : Int32) + (own_bits vZ0)) + (own_bits vZ1)) (own_msk vZ2) (vL2 + (0 : Int32)) vV).toUInt64 >>> ((1 : Int32) &&& 0x3f).toInt64.toUInt64).toInt64) &&& (own_msk vZ0)).toInt32))), (.int (1 : Int32))])) _
        refine XS.iconst X925.here hx rfl (hb hby at_360) ?_
        refine X925.iaload hx (j := (0 : Int32)) (v := (.int ((vL0 + (0 : Int32)) + ((((vO0.toUInt64 >>> ((1 : Int32) &&& 0x3f).toInt64.toUInt64).toInt64) &&& (own_msk vZ0)).toInt32)))) Arc937.1 (State.isArrayOf_alike hZ.alike Arc937.2.1) Arc937.2.2 hin938 hat939 (g := (mkF m 361 #[Si p1, Si p2, Si p3, Sl q4, S2, Sl q5, S2, Si p6, Si vZ0, Si vZ1, Si vZ2, Si vL0, Si vL1, Si vL2, Si (2 : Int32), Si vZ2, Si vL2, Si vV, Sr b77, Sr b160, Sl vO0, S2, Sl vO1, S2, Sl vO2, S2, Sr b611, Sr b646, Sr b671, Si (1 : Int32), Su, Su] [(.int (0 : Int32)), (.ref b646), (.int ((vL0 + (0 : Int32)) + (((((own_upd vO0 (((1 : Int32) + (own_bits vZ0)) + (own_bits vZ1)) (own_msk vZ2) (vL2 + (0 : Int32)) vV).toUInt64 >>> ((1 : Int32) &&& 0x3f).toInt64.toUInt64).toInt64) &&& (own_msk vZ0)).toInt32))), (.int (1 : Int32))])) rfl rfl (hb hby at_361) _ ?_
        refine XS.icmpNo X925.here hx rfl (hb hby at_362) rfl (teq hc940).2 ?_
        refine XS.iconst X925.here hx rfl (hb hby at_365) ?_
        refine XS.goto X925.here hx rfl (pc0 := 366) (pc' := 370) rfl (hb hby at_366) (by decide) (by decide) ?_
        refine XS.iand X925.here hx rfl (hb hby at_370) rfl ?_
        refine XS.istore X925.here hx rfl (hb hby at_371) rfl (l' := #[Si p1, Si p2, Si p3, Sl q4, S2, Sl q5, S2, Si p6, Si vZ0, Si vZ1, Si vZ2, Si vL0, Si vL1, Si vL2, Si (2 : Int32), Si vZ2, Si vL2, Si vV, Sr b77, Sr b160, Sl vO0, S2, Sl vO1, S2, Sl vO2, S2, Sr b611, Sr b646, Sr b671, Si (1 : Int32), Su, Su]) rfl ?_
        refine XS.iload X925.here hx rfl (hb hby at_373) rfl ?_
        refine XS.iload X925.here hx rfl (hb hby at_375) rfl ?_
        refine XS.iconst X925.here hx rfl (hb hby at_377) ?_
        show Steps _ _ _ (T925.setTop (mkF m 378 #[Si p1, Si p2, Si p3, Sl q4, S2, Sl q5, S2, Si p6, Si vZ0, Si vZ1, Si vZ2, Si vL0, Si vL1, Si vL2, Si (2 : Int32), Si vZ2, Si vL2, Si vV, Sr b77, Sr b160, Sl vO0, S2, Sl vO1, S2, Sl vO2, S2, Sr b611, Sr b646, Sr b671, Si (1 : Int32), Su, Su] [(.int (1 : Int32)), (.int (2 : Int32)), (.int (1 : Int32))])) _
        refine XS.icmpNo X925.here hx rfl (hb hby at_378) rfl (feq (by decide)).1 ?_
        refine XS.aload X925.here hx rfl (hb hby at_381) rfl rfl ?_
        refine XS.iconst X925.here hx rfl (hb hby at_383) ?_
        refine X925.iaload hx (j := (1 : Int32)) (v := (.int ((vL1 + (0 : Int32)) + (((((own_upd vO0 (((1 : Int32) + (own_bits vZ0)) + (own_bits vZ1)) (own_msk vZ2) (vL2 + (0 : Int32)) vV).toUInt64 >>> (((1 : Int32) + (own_bits vZ0)) &&& 0x3f).toInt64.toUInt64).toInt64) &&& (own_msk vZ1)).toInt32)))) Arc941.1 (State.isArrayOf_alike hZ.alike Arc941.2.1) Arc941.2.2 hin942 hat943 (g := (mkF m 384 #[Si p1, Si p2, Si p3, Sl q4, S2, Sl q5, S2, Si p6, Si vZ0, Si vZ1, Si vZ2, Si vL0, Si vL1, Si vL2, Si (2 : Int32), Si vZ2, Si vL2, Si vV, Sr b77, Sr b160, Sl vO0, S2, Sl vO1, S2, Sl vO2, S2, Sr b611, Sr b646, Sr b671, Si (1 : Int32), Su, Su] [(.int (1 : Int32)), (.ref b671), (.int (1 : Int32))])) rfl rfl (hb hby at_384) _ ?_
        refine XS.aload X925.here hx rfl (hb hby at_385) rfl rfl ?_
        refine XS.iconst X925.here hx rfl (hb hby at_387) ?_
        refine X925.iaload hx (j := (1 : Int32)) (v := (.int ((vL1 + (0 : Int32)) + ((((vO0.toUInt64 >>> (((1 : Int32) + (own_bits vZ0)) &&& 0x3f).toInt64.toUInt64).toInt64) &&& (own_msk vZ1)).toInt32)))) Arc944.1 (State.isArrayOf_alike hZ.alike Arc944.2.1) Arc944.2.2 hin945 hat946 (g := (mkF m 388 #[Si p1, Si p2, Si p3, Sl q4, S2, Sl q5, S2, Si p6, Si vZ0, Si vZ1, Si vZ2, Si vL0, Si vL1, Si vL2, Si (2 : Int32), Si vZ2, Si vL2, Si vV, Sr b77, Sr b160, Sl vO0, S2, Sl vO1, S2, Sl vO2, S2, Sr b611, Sr b646, Sr b671, Si (1 : Int32), Su, Su] [(.int (1 : Int32)), (.ref b646), (.int ((vL1 + (0 : Int32)) + (((((own_upd vO0 (((1 : Int32) + (own_bits vZ0)) + (own_bits vZ1)) (own_msk vZ2) (vL2 + (0 : Int32)) vV).toUInt64 >>> (((1 : Int32) + (own_bits vZ0)) &&& 0x3f).toInt64.toUInt64).toInt64) &&& (own_msk vZ1)).toInt32))), (.int (1 : Int32))])) rfl rfl (hb hby at_388) _ ?_
        refine XS.icmpNo X925.here hx rfl (hb hby at_389) rfl (teq hc947).2 ?_
        refine XS.iconst X925.here hx rfl (hb hby at_392) ?_
        refine XS.goto X925.here hx rfl (pc0 := 393) (pc' := 397) rfl (hb hby at_393) (by decide) (by decide) ?_
        show Steps _ _ _ (T925.setTop (mkF m 397 #[Si p1, Si p2, Si p3, Sl q4, S2, Sl q5, S2, Si p6, Si vZ0, Si vZ1, Si vZ2, Si vL0, Si vL1, Si vL2, Si (2 : Int32), Si vZ2, Si vL2, Si vV, Sr b77, Sr b160, Sl vO0, S2, Sl vO1, S2, Sl vO2, S2, Sr b611, Sr b646, Sr b671, Si (1 : Int32), Su, Su] [(.int (1 : Int32)), (.int (1 : Int32))])) _
        refine XS.iand X925.here hx rfl (hb hby at_397) rfl ?_
        refine XS.istore X925.here hx rfl (hb hby at_398) rfl (l' := #[Si p1, Si p2, Si p3, Sl q4, S2, Sl q5, S2, Si p6, Si vZ0, Si vZ1, Si vZ2, Si vL0, Si vL1, Si vL2, Si (2 : Int32), Si vZ2, Si vL2, Si vV, Sr b77, Sr b160, Sl vO0, S2, Sl vO1, S2, Sl vO2, S2, Sr b611, Sr b646, Sr b671, Si (1 : Int32), Su, Su]) rfl ?_
        refine XS.iload X925.here hx rfl (hb hby at_400) rfl ?_
        refine XS.iload X925.here hx rfl (hb hby at_402) rfl ?_
        refine XS.iconst X925.here hx rfl (hb hby at_404) ?_
        refine XS.icmpYes X925.here hx rfl (pc0 := 405) (pc' := 419) rfl (hb hby at_405) rfl (teq rfl).1 (by decide) (by decide) ?_
        refine XS.iconst X925.here hx rfl (hb hby at_419) ?_
        refine XS.goto X925.here hx rfl (pc0 := 420) (pc' := 424) rfl (hb hby at_420) (by decide) (by decide) ?_
        refine XS.iand X925.here hx rfl (hb hby at_424) rfl ?_
        refine XS.istore X925.here hx rfl (hb hby at_425) rfl (l' := #[Si p1, Si p2, Si p3, Sl q4, S2, Sl q5, S2, Si p6, Si vZ0, Si vZ1, Si vZ2, Si vL0, Si vL1, Si vL2, Si (2 : Int32), Si vZ2, Si vL2, Si vV, Sr b77, Sr b160, Sl vO0, S2, Sl vO1, S2, Sl vO2, S2, Sr b611, Sr b646, Sr b671, Si (1 : Int32), Su, Su]) rfl ?_
        show Steps _ _ _ (T925.setTop (mkF m 427 #[Si p1, Si p2, Si p3, Sl q4, S2, Sl q5, S2, Si p6, Si vZ0, Si vZ1, Si vZ2, Si vL0, Si vL1, Si vL2, Si (2 : Int32), Si vZ2, Si vL2, Si vV, Sr b77, Sr b160, Sl vO0, S2, Sl vO1, S2, Sl vO2, S2, Sr b611, Sr b646, Sr b671, Si (1 : Int32), Su, Su] [])) _
        exact k
      have F949 : Arv Z T925.heap b611 k611 .long (3 : Int32) [(.long (own_upd vO0 (((1 : Int32) + (own_bits vZ0)) + (own_bits vZ1)) (own_msk vZ2) (vL2 + (0 : Int32)) vV)), (.long vO1), (.long vO2)] (.long (0 : Int64)) := (q912_1.keep q925_0 (ninS ne693 nin0))
      obtain ⟨c950, Arc950, Aqc950, Asc950, Anc950, Ahc950, Agc950⟩ := id F949
      have hin951 : ¬ ((0 : Int32) < 0 ∨ c950.slots.size ≤ ((0 : Int32)).toNatClampNeg) := inb_of Asc950 ⟨by decide, by decide⟩
      have hat952 : c950.slots[((0 : Int32)).toNatClampNeg]? = some (.long (own_upd vO0 (((1 : Int32) + (own_bits vZ0)) + (own_bits vZ1)) (own_msk vZ2) (vL2 + (0 : Int32)) vV)) := Has.at Ahc950 hin951 rfl
      have hc953 : ((own_upd vO0 (((1 : Int32) + (own_bits vZ0)) + (own_bits vZ1)) (own_msk vZ2) (vL2 + (0 : Int32)) vV) &&& (1 : Int64)) = (1 : Int64) := by rw [hvO0]; exact own_lowG G2 (own_1b _ _)
      obtain ⟨c954, Arc954, Aqc954, Asc954, Anc954, Ahc954, Agc954⟩ := id F949
      have hin955 : ¬ ((2 : Int32) < 0 ∨ c954.slots.size ≤ ((2 : Int32)).toNatClampNeg) := inb_of Asc954 ⟨by decide, by decide⟩
      have hat956 : c954.slots[((2 : Int32)).toNatClampNeg]? = some (.long vO2) := Has.at Ahc954 hin955 rfl
      obtain ⟨c957, Arc957, Aqc957, Asc957, Anc957, Ahc957, Agc957⟩ := id F949
      have hin958 : ¬ ((0 : Int32) < 0 ∨ c957.slots.size ≤ ((0 : Int32)).toNatClampNeg) := inb_of Asc957 ⟨by decide, by decide⟩
      have hat959 : c957.slots[((0 : Int32)).toNatClampNeg]? = some (.long (own_upd vO0 (((1 : Int32) + (own_bits vZ0)) + (own_bits vZ1)) (own_msk vZ2) (vL2 + (0 : Int32)) vV)) := Has.at Ahc957 hin958 rfl
      obtain ⟨c961, Arc961, Aqc961, Asc961, Anc961, Ahc961, Agc961⟩ := id F949
      have hin962 : ¬ ((1 : Int32) < 0 ∨ c961.slots.size ≤ ((1 : Int32)).toNatClampNeg) := inb_of Asc961 ⟨by decide, by decide⟩
      have hat963 : c961.slots[((1 : Int32)).toNatClampNeg]? = some (.long vO1) := Has.at Ahc961 hin962 rfl
      have pre964 : ∀ t, Steps p.tables e below (T925.setTop (mkF m 495 #[Si p1, Si p2, Si p3, Sl q4, S2, Sl q5, S2, Si p6, Si vZ0, Si vZ1, Si vZ2, Si vL0, Si vL1, Si vL2, Si (2 : Int32), Si vZ2, Si vL2, Si vV, Sr b77, Sr b160, Sl vO0, S2, Sl vO1, S2, Sl vO2, S2, Sr b611, Sr b646, Sr b671, Si (1 : Int32), Su, Su] [(.int (1 : Int32)), (.int (1 : Int32))])) t → Steps p.tables e below (s₁.setTop (entryFrame m #[(.int p1), (.int p2), (.int p3), (.long q4), (.long q5), (.int p6)] maxLocals)) t := by
        intro t k
        refine pre948 t ?_
        refine XS.iload X925.here hx rfl (hb hby at_427) rfl ?_
        refine XS.aload X925.here hx rfl (hb hby at_429) rfl rfl ?_
        refine XS.iconst X925.here hx rfl (hb hby at_431) ?_
        refine X925.laload hx (j := (0 : Int32)) (v := (.long (own_upd vO0 (((1 : Int32) + (own_bits vZ0)) + (own_bits vZ1)) (own_msk vZ2) (vL2 + (0 : Int32)) vV))) Arc950.1 (State.isArrayOf_alike hZ.alike Arc950.2.1) Arc950.2.2 hin951 hat952 (g := (mkF m 432 #[Si p1, Si p2, Si p3, Sl q4, S2, Sl q5, S2, Si p6, Si vZ0, Si vZ1, Si vZ2, Si vL0, Si vL1, Si vL2, Si (2 : Int32), Si vZ2, Si vL2, Si vV, Sr b77, Sr b160, Sl vO0, S2, Sl vO1, S2, Sl vO2, S2, Sr b611, Sr b646, Sr b671, Si (1 : Int32), Su, Su] [(.int (0 : Int32)), (.ref b611), (.int (1 : Int32))])) rfl rfl (hb hby at_432) _ ?_
        refine XS.lconst X925.here hx rfl (hb hby at_433) ?_
        refine XS.land X925.here hx rfl (hb hby at_434) rfl ?_
        refine XS.lconst X925.here hx rfl (hb hby at_435) ?_
        refine XS.lcmp X925.here hx rfl (hb hby at_436) rfl ?_
        refine XS.ifNo X925.here hx rfl (hb hby at_437) rfl ((if0 _ _).trans (teq ((lw_eq _ _).mpr hc953)).2) ?_
        refine XS.iconst X925.here hx rfl (hb hby at_440) ?_
        show Steps _ _ _ (T925.setTop (mkF m 441 #[Si p1, Si p2, Si p3, Sl q4, S2, Sl q5, S2, Si p6, Si vZ0, Si vZ1, Si vZ2, Si vL0, Si vL1, Si vL2, Si (2 : Int32), Si vZ2, Si vL2, Si vV, Sr b77, Sr b160, Sl vO0, S2, Sl vO1, S2, Sl vO2, S2, Sr b611, Sr b646, Sr b671, Si (1 : Int32), Su, Su] [(.int (1 : Int32)), (.int (1 : Int32))])) _
        refine XS.goto X925.here hx rfl (pc0 := 441) (pc' := 445) rfl (hb hby at_441) (by decide) (by decide) ?_
        refine XS.iand X925.here hx rfl (hb hby at_445) rfl ?_
        refine XS.istore X925.here hx rfl (hb hby at_446) rfl (l' := #[Si p1, Si p2, Si p3, Sl q4, S2, Sl q5, S2, Si p6, Si vZ0, Si vZ1, Si vZ2, Si vL0, Si vL1, Si vL2, Si (2 : Int32), Si vZ2, Si vL2, Si vV, Sr b77, Sr b160, Sl vO0, S2, Sl vO1, S2, Sl vO2, S2, Sr b611, Sr b646, Sr b671, Si (1 : Int32), Su, Su]) rfl ?_
        refine XS.iload X925.here hx rfl (hb hby at_448) rfl ?_
        refine XS.aload X925.here hx rfl (hb hby at_450) rfl rfl ?_
        refine XS.iconst X925.here hx rfl (hb hby at_452) ?_
        refine X925.laload hx (j := (2 : Int32)) (v := (.long vO2)) Arc954.1 (State.isArrayOf_alike hZ.alike Arc954.2.1) Arc954.2.2 hin955 hat956 (g := (mkF m 453 #[Si p1, Si p2, Si p3, Sl q4, S2, Sl q5, S2, Si p6, Si vZ0, Si vZ1, Si vZ2, Si vL0, Si vL1, Si vL2, Si (2 : Int32), Si vZ2, Si vL2, Si vV, Sr b77, Sr b160, Sl vO0, S2, Sl vO1, S2, Sl vO2, S2, Sr b611, Sr b646, Sr b671, Si (1 : Int32), Su, Su] [(.int (2 : Int32)), (.ref b611), (.int (1 : Int32))])) rfl rfl (hb hby at_453) _ ?_
        refine XS.lload X925.here hx rfl (hb hby at_454) rfl ?_
        refine XS.lcmp X925.here hx rfl (hb hby at_456) rfl ?_
        refine XS.ifNo X925.here hx rfl (hb hby at_457) rfl ((if0 _ _).trans (teq ((lw_eq _ _).mpr rfl)).2) ?_
        show Steps _ _ _ (T925.setTop (mkF m 460 #[Si p1, Si p2, Si p3, Sl q4, S2, Sl q5, S2, Si p6, Si vZ0, Si vZ1, Si vZ2, Si vL0, Si vL1, Si vL2, Si (2 : Int32), Si vZ2, Si vL2, Si vV, Sr b77, Sr b160, Sl vO0, S2, Sl vO1, S2, Sl vO2, S2, Sr b611, Sr b646, Sr b671, Si (1 : Int32), Su, Su] [(.int (1 : Int32))])) _
        refine XS.iconst X925.here hx rfl (hb hby at_460) ?_
        refine XS.goto X925.here hx rfl (pc0 := 461) (pc' := 465) rfl (hb hby at_461) (by decide) (by decide) ?_
        refine XS.iand X925.here hx rfl (hb hby at_465) rfl ?_
        refine XS.istore X925.here hx rfl (hb hby at_466) rfl (l' := #[Si p1, Si p2, Si p3, Sl q4, S2, Sl q5, S2, Si p6, Si vZ0, Si vZ1, Si vZ2, Si vL0, Si vL1, Si vL2, Si (2 : Int32), Si vZ2, Si vL2, Si vV, Sr b77, Sr b160, Sl vO0, S2, Sl vO1, S2, Sl vO2, S2, Sr b611, Sr b646, Sr b671, Si (1 : Int32), Su, Su]) rfl ?_
        refine XS.iload X925.here hx rfl (hb hby at_468) rfl ?_
        refine XS.aload X925.here hx rfl (hb hby at_470) rfl rfl ?_
        refine XS.iconst X925.here hx rfl (hb hby at_472) ?_
        refine X925.laload hx (j := (0 : Int32)) (v := (.long (own_upd vO0 (((1 : Int32) + (own_bits vZ0)) + (own_bits vZ1)) (own_msk vZ2) (vL2 + (0 : Int32)) vV))) Arc957.1 (State.isArrayOf_alike hZ.alike Arc957.2.1) Arc957.2.2 hin958 hat959 (g := (mkF m 473 #[Si p1, Si p2, Si p3, Sl q4, S2, Sl q5, S2, Si p6, Si vZ0, Si vZ1, Si vZ2, Si vL0, Si vL1, Si vL2, Si (2 : Int32), Si vZ2, Si vL2, Si vV, Sr b77, Sr b160, Sl vO0, S2, Sl vO1, S2, Sl vO2, S2, Sr b611, Sr b646, Sr b671, Si (1 : Int32), Su, Su] [(.int (0 : Int32)), (.ref b611), (.int (1 : Int32))])) rfl rfl (hb hby at_473) _ ?_
        refine XS.lload X925.here hx rfl (hb hby at_474) rfl ?_
        refine XS.lcmp X925.here hx rfl (hb hby at_476) rfl ?_
        show Steps _ _ _ (T925.setTop (mkF m 477 #[Si p1, Si p2, Si p3, Sl q4, S2, Sl q5, S2, Si p6, Si vZ0, Si vZ1, Si vZ2, Si vL0, Si vL1, Si vL2, Si (2 : Int32), Si vZ2, Si vL2, Si vV, Sr b77, Sr b160, Sl vO0, S2, Sl vO1, S2, Sl vO2, S2, Sr b611, Sr b646, Sr b671, Si (1 : Int32), Su, Su] [(.int (lcmpW (own_upd vO0 (((1 : Int32) + (own_bits vZ0)) + (own_bits vZ1)) (own_msk vZ2) (vL2 + (0 : Int32)) vV) vO0)), (.int (1 : Int32))])) _
        by_cases hc960 : (own_upd vO0 (((1 : Int32) + (own_bits vZ0)) + (own_bits vZ1)) (own_msk vZ2) (vL2 + (0 : Int32)) vV) = vO0
        · refine XS.ifYes X925.here hx rfl (pc0 := 477) (pc' := 490) rfl (hb hby at_477) rfl ((if0 _ _).trans (teq ((lw_eq _ _).mpr hc960)).1) (by decide) (by decide) ?_
          refine XS.iconst X925.here hx rfl (hb hby at_490) ?_
          refine XS.goto X925.here hx rfl (pc0 := 491) (pc' := 495) rfl (hb hby at_491) (by decide) (by decide) ?_
          exact k
        · refine XS.ifNo X925.here hx rfl (hb hby at_477) rfl ((if0 _ _).trans (feq (fun z => hc960 ((lw_eq _ _).mp z))).1) ?_
          refine XS.aload X925.here hx rfl (hb hby at_480) rfl rfl ?_
          refine XS.iconst X925.here hx rfl (hb hby at_482) ?_
          refine X925.laload hx (j := (1 : Int32)) (v := (.long vO1)) Arc961.1 (State.isArrayOf_alike hZ.alike Arc961.2.1) Arc961.2.2 hin962 hat963 (g := (mkF m 483 #[Si p1, Si p2, Si p3, Sl q4, S2, Sl q5, S2, Si p6, Si vZ0, Si vZ1, Si vZ2, Si vL0, Si vL1, Si vL2, Si (2 : Int32), Si vZ2, Si vL2, Si vV, Sr b77, Sr b160, Sl vO0, S2, Sl vO1, S2, Sl vO2, S2, Sr b611, Sr b646, Sr b671, Si (1 : Int32), Su, Su] [(.int (1 : Int32)), (.ref b611), (.int (1 : Int32))])) rfl rfl (hb hby at_483) _ ?_
          refine XS.lload X925.here hx rfl (hb hby at_484) rfl ?_
          refine XS.lcmp X925.here hx rfl (hb hby at_486) rfl ?_
          refine XS.ifNo X925.here hx rfl (hb hby at_487) rfl ((if0 _ _).trans (teq ((lw_eq _ _).mpr rfl)).2) ?_
          refine XS.iconst X925.here hx rfl (hb hby at_490) ?_
          refine XS.goto X925.here hx rfl (pc0 := 491) (pc' := 495) rfl (hb hby at_491) (by decide) (by decide) ?_
          exact k
      obtain ⟨c965, Arc965, Aqc965, Asc965, Anc965, Ahc965, Agc965⟩ := id F936
      have hin966 : ¬ ((2 : Int32) < 0 ∨ c965.slots.size ≤ ((2 : Int32)).toNatClampNeg) := inb_of Asc965 ⟨by decide, by decide⟩
      have hat967 : c965.slots[((2 : Int32)).toNatClampNeg]? = some (.int ((vL2 + (0 : Int32)) + ((((vO0.toUInt64 >>> ((((1 : Int32) + (own_bits vZ0)) + (own_bits vZ1)) &&& 0x3f).toInt64.toUInt64).toInt64) &&& (own_msk vZ2)).toInt32))) := Has.at Ahc965 hin966 rfl
      have pre968 : ∀ t, Steps p.tables e below (T925.setTop (mkF m 514 #[Si p1, Si p2, Si p3, Sl q4, S2, Sl q5, S2, Si p6, Si vZ0, Si vZ1, Si vZ2, Si vL0, Si vL1, Si vL2, Si (2 : Int32), Si vZ2, Si vL2, Si vV, Sr b77, Sr b160, Sl vO0, S2, Sl vO1, S2, Sl vO2, S2, Sr b611, Sr b646, Sr b671, Si (1 : Int32), Sl ((((vL2 + (0 : Int32)) + ((((vO0.toUInt64 >>> ((((1 : Int32) + (own_bits vZ0)) + (own_bits vZ1)) &&& 0x3f).toInt64.toUInt64).toInt64) &&& (own_msk vZ2)).toInt32)).toInt64) - (vL2.toInt64)), S2] [(.int (lcmpW ((((vL2 + (0 : Int32)) + ((((vO0.toUInt64 >>> ((((1 : Int32) + (own_bits vZ0)) + (own_bits vZ1)) &&& 0x3f).toInt64.toUInt64).toInt64) &&& (own_msk vZ2)).toInt32)).toInt64) - (vL2.toInt64)) (0 : Int64)))])) t → Steps p.tables e below (s₁.setTop (entryFrame m #[(.int p1), (.int p2), (.int p3), (.long q4), (.long q5), (.int p6)] maxLocals)) t := by
        intro t k
        refine pre964 t ?_
        refine XS.iand X925.here hx rfl (hb hby at_495) rfl ?_
        refine XS.istore X925.here hx rfl (hb hby at_496) rfl (l' := #[Si p1, Si p2, Si p3, Sl q4, S2, Sl q5, S2, Si p6, Si vZ0, Si vZ1, Si vZ2, Si vL0, Si vL1, Si vL2, Si (2 : Int32), Si vZ2, Si vL2, Si vV, Sr b77, Sr b160, Sl vO0, S2, Sl vO1, S2, Sl vO2, S2, Sr b611, Sr b646, Sr b671, Si (1 : Int32), Su, Su]) rfl ?_
        refine XS.aload X925.here hx rfl (hb hby at_498) rfl rfl ?_
        refine XS.iload X925.here hx rfl (hb hby at_500) rfl ?_
        refine X925.iaload hx (j := (2 : Int32)) (v := (.int ((vL2 + (0 : Int32)) + ((((vO0.toUInt64 >>> ((((1 : Int32) + (own_bits vZ0)) + (own_bits vZ1)) &&& 0x3f).toInt64.toUInt64).toInt64) &&& (own_msk vZ2)).toInt32)))) Arc965.1 (State.isArrayOf_alike hZ.alike Arc965.2.1) Arc965.2.2 hin966 hat967 (g := (mkF m 502 #[Si p1, Si p2, Si p3, Sl q4, S2, Sl q5, S2, Si p6, Si vZ0, Si vZ1, Si vZ2, Si vL0, Si vL1, Si vL2, Si (2 : Int32), Si vZ2, Si vL2, Si vV, Sr b77, Sr b160, Sl vO0, S2, Sl vO1, S2, Sl vO2, S2, Sr b611, Sr b646, Sr b671, Si (1 : Int32), Su, Su] [(.int (2 : Int32)), (.ref b646)])) rfl rfl (hb hby at_502) _ ?_
        refine XS.i2l X925.here hx rfl (hb hby at_503) rfl ?_
        refine XS.iload X925.here hx rfl (hb hby at_504) rfl ?_
        refine XS.i2l X925.here hx rfl (hb hby at_506) rfl ?_
        refine XS.lsub X925.here hx rfl (hb hby at_507) rfl ?_
        refine XS.lstore X925.here hx rfl (hb hby at_508) rfl (l' := #[Si p1, Si p2, Si p3, Sl q4, S2, Sl q5, S2, Si p6, Si vZ0, Si vZ1, Si vZ2, Si vL0, Si vL1, Si vL2, Si (2 : Int32), Si vZ2, Si vL2, Si vV, Sr b77, Sr b160, Sl vO0, S2, Sl vO1, S2, Sl vO2, S2, Sr b611, Sr b646, Sr b671, Si (1 : Int32), Sl ((((vL2 + (0 : Int32)) + ((((vO0.toUInt64 >>> ((((1 : Int32) + (own_bits vZ0)) + (own_bits vZ1)) &&& 0x3f).toInt64.toUInt64).toInt64) &&& (own_msk vZ2)).toInt32)).toInt64) - (vL2.toInt64)), S2]) rfl ?_
        show Steps _ _ _ (T925.setTop (mkF m 510 #[Si p1, Si p2, Si p3, Sl q4, S2, Sl q5, S2, Si p6, Si vZ0, Si vZ1, Si vZ2, Si vL0, Si vL1, Si vL2, Si (2 : Int32), Si vZ2, Si vL2, Si vV, Sr b77, Sr b160, Sl vO0, S2, Sl vO1, S2, Sl vO2, S2, Sr b611, Sr b646, Sr b671, Si (1 : Int32), Sl ((((vL2 + (0 : Int32)) + ((((vO0.toUInt64 >>> ((((1 : Int32) + (own_bits vZ0)) + (own_bits vZ1)) &&& 0x3f).toInt64.toUInt64).toInt64) &&& (own_msk vZ2)).toInt32)).toInt64) - (vL2.toInt64)), S2] [])) _
        refine XS.lload X925.here hx rfl (hb hby at_510) rfl ?_
        refine XS.lconst X925.here hx rfl (hb hby at_512) ?_
        refine XS.lcmp X925.here hx rfl (hb hby at_513) rfl ?_
        exact k
      by_cases hd0 : ((((vL2 + (0 : Int32)) + ((((vO0.toUInt64 >>> ((((1 : Int32) + (own_bits vZ0)) + (own_bits vZ1)) &&& 0x3f).toInt64.toUInt64).toInt64) &&& (own_msk vZ2)).toInt32)).toInt64) - (vL2.toInt64)) < (0 : Int64)
      · have pre969 : ∀ t, Steps p.tables e below (T925.setTop (mkF m 582 #[Si p1, Si p2, Si p3, Sl q4, S2, Sl q5, S2, Si p6, Si vZ0, Si vZ1, Si vZ2, Si vL0, Si vL1, Si vL2, Si (2 : Int32), Si vZ2, Si vL2, Si vV, Sr b77, Sr b160, Sl vO0, S2, Sl vO1, S2, Sl vO2, S2, Sr b611, Sr b646, Sr b671, Si (1 : Int32), Sl ((((vL2 + (0 : Int32)) + ((((vO0.toUInt64 >>> ((((1 : Int32) + (own_bits vZ0)) + (own_bits vZ1)) &&& 0x3f).toInt64.toUInt64).toInt64) &&& (own_msk vZ2)).toInt32)).toInt64) - (vL2.toInt64)), S2] [(.int (1 : Int32))])) t → Steps p.tables e below (s₁.setTop (entryFrame m #[(.int p1), (.int p2), (.int p3), (.long q4), (.long q5), (.int p6)] maxLocals)) t := by
          intro t k
          refine pre968 t ?_
          refine XS.ifYes X925.here hx rfl (pc0 := 514) (pc' := 580) rfl (hb hby at_514) rfl ((if0 _ _).trans (tlt ((lw_lt _ _).mpr hd0)).1) (by decide) (by decide) ?_
          refine XS.iload X925.here hx rfl (hb hby at_580) rfl ?_
          exact k
        obtain ⟨fs, hr, hrun, hended, hW, hsame⟩ := X925.leave (v := some (.int (1 : Int32))) (fun h => by rw [Bd.returns] at h; cases h)
        refine ⟨_, _, pre969 _ ?_, hrun, hended, _, _, rfl, ?_, ⟨_, rfl⟩, hW, hsame.mono (by decide) (by decide)⟩
        · exact retN X925 hx (t := .boolean) Bd.returns (by simp) (hb hby at_582) hr
        · show Q_rm0 Z p1 p2 p3 q4 q5 p6 wE kE h0 n0 _ T925.heap _
          exact ⟨rfl, N927, KC928⟩
      · have pre970 : ∀ t, Steps p.tables e below (T925.setTop (mkF m 523 #[Si p1, Si p2, Si p3, Sl q4, S2, Sl q5, S2, Si p6, Si vZ0, Si vZ1, Si vZ2, Si vL0, Si vL1, Si vL2, Si (2 : Int32), Si vZ2, Si vL2, Si vV, Sr b77, Sr b160, Sl vO0, S2, Sl vO1, S2, Sl vO2, S2, Sr b611, Sr b646, Sr b671, Si (1 : Int32), Sl ((((vL2 + (0 : Int32)) + ((((vO0.toUInt64 >>> ((((1 : Int32) + (own_bits vZ0)) + (own_bits vZ1)) &&& 0x3f).toInt64.toUInt64).toInt64) &&& (own_msk vZ2)).toInt32)).toInt64) - (vL2.toInt64)), S2] [(.int (lcmpW ((((vL2 + (0 : Int32)) + ((((vO0.toUInt64 >>> ((((1 : Int32) + (own_bits vZ0)) + (own_bits vZ1)) &&& 0x3f).toInt64.toUInt64).toInt64) &&& (own_msk vZ2)).toInt32)).toInt64) - (vL2.toInt64)) (vZ2.toInt64)))])) t → Steps p.tables e below (s₁.setTop (entryFrame m #[(.int p1), (.int p2), (.int p3), (.long q4), (.long q5), (.int p6)] maxLocals)) t := by
          intro t k
          refine pre968 t ?_
          refine XS.ifNo X925.here hx rfl (hb hby at_514) rfl ((if0 _ _).trans (flt (fun z => hd0 ((lw_lt _ _).mp z))).1) ?_
          refine XS.lload X925.here hx rfl (hb hby at_517) rfl ?_
          refine XS.iload X925.here hx rfl (hb hby at_519) rfl ?_
          refine XS.i2l X925.here hx rfl (hb hby at_521) rfl ?_
          refine XS.lcmp X925.here hx rfl (hb hby at_522) rfl ?_
          exact k
        by_cases hd1 : ((((vL2 + (0 : Int32)) + ((((vO0.toUInt64 >>> ((((1 : Int32) + (own_bits vZ0)) + (own_bits vZ1)) &&& 0x3f).toInt64.toUInt64).toInt64) &&& (own_msk vZ2)).toInt32)).toInt64) - (vL2.toInt64)) < (vZ2.toInt64)
        · obtain ⟨c971, Arc971, Aqc971, Asc971, Anc971, Ahc971, Agc971⟩ := id F936
          have hin972 : ¬ ((2 : Int32) < 0 ∨ c971.slots.size ≤ ((2 : Int32)).toNatClampNeg) := inb_of Asc971 ⟨by decide, by decide⟩
          have hat973 : c971.slots[((2 : Int32)).toNatClampNeg]? = some (.int ((vL2 + (0 : Int32)) + ((((vO0.toUInt64 >>> ((((1 : Int32) + (own_bits vZ0)) + (own_bits vZ1)) &&& 0x3f).toInt64.toUInt64).toInt64) &&& (own_msk vZ2)).toInt32))) := Has.at Ahc971 hin972 rfl
          have F974 : Fld Z T925.heap b160 "com/example/darlington/darlington/core/StateLayout" "wordOf" "[I" (.ref r1_191) := (F916.keep q925_0 (ninS ne683 nin0))
          have F975 : Arv Z T925.heap r1_191 c1_191 .int (3 : Int32) [(.int (0 : Int32)), (.int (0 : Int32)), (.int (0 : Int32))] (.int (0 : Int32)) := (F917.keep q925_0 (ninS ne685 nin0))
          have F976 : Fld Z T925.heap b160 "com/example/darlington/darlington/core/StateLayout" "shiftOf" "[I" (.ref r2_191) := (F918.keep q925_0 (ninS ne683 nin0))
          have F977 : Arv Z T925.heap r2_191 c2_191 .int (3 : Int32) [(.int (1 : Int32)), (.int ((1 : Int32) + (own_bits vZ0))), (.int (((1 : Int32) + (own_bits vZ0)) + (own_bits vZ1)))] (.int (0 : Int32)) := (F919.keep q925_0 (ninS ne687 nin0))
          have F978 : Fld Z T925.heap b160 "com/example/darlington/darlington/core/StateLayout" "maskOf" "[J" (.ref r3_191) := (F920.keep q925_0 (ninS ne683 nin0))
          have F979 : Arv Z T925.heap r3_191 c3_191 .long (3 : Int32) [(.long (own_msk vZ0)), (.long (own_msk vZ1)), (.long (own_msk vZ2))] (.long (0 : Int64)) := (F921.keep q925_0 (ninS ne689 nin0))
          have F980 : Fld Z T925.heap b160 "com/example/darlington/darlington/core/StateLayout" "firstOf" "[I" (.ref r4_191) := (F922.keep q925_0 (ninS ne683 nin0))
          have F981 : Arv Z T925.heap r4_191 c4_191 .int (3 : Int32) [(.int (vL0 + (0 : Int32))), (.int (vL1 + (0 : Int32))), (.int (vL2 + (0 : Int32)))] (.int (0 : Int32)) := (F923.keep q925_0 (ninS ne691 nin0))
          have F983 : Exa Z T925.heap b160 "com/example/darlington/darlington/core/StateLayout" := (F926.keep q925_0)
          obtain ⟨cq982, kq982, q982a, q982b, q982c⟩ := isOf hZ rfl F983
          obtain ⟨_, _, ⟨T982, L982, k982, n982⟩, -, X982, ⟨Lc982, hQ982, l982, y982, z982⟩, st982⟩ := X925.virtualBack hx (y := (⟨"com/example/darlington/darlington/core/StateLayout", "set", "([JII)V"⟩ : MethodName)) (z := (⟨"com/example/darlington/darlington/core/StateLayout", "set", "([JII)V"⟩ : MethodName)) hown (mvT hZ (ow hw 159 rfl)) (mvT hZ (ow hw 160 rfl)) (notFace_of_selects (args := #[]) (mvT hZ (ow hw 162 rfl))) (mvT hZ (ow hw 162 rfl)) (mvT hZ (ow hw 161 rfl)) (by decide) (backOf (W := 0) (rm_set2A l Z a0 hw [] b160 b611 ((vL2 + (0 : Int32)) + ((((vO0.toUInt64 >>> ((((1 : Int32) + (own_bits vZ0)) + (own_bits vZ1)) &&& 0x3f).toInt64.toUInt64).toInt64) &&& (own_msk vZ2)).toInt32)) r1_191 r2_191 r3_191 r4_191 c1_191 c2_191 c3_191 c4_191 (1 : Int32) ((1 : Int32) + (own_bits vZ0)) (((1 : Int32) + (own_bits vZ0)) + (own_bits vZ1)) (own_msk vZ0) (own_msk vZ1) (own_msk vZ2) (vL0 + (0 : Int32)) (vL1 + (0 : Int32)) (vL2 + (0 : Int32)) k611 (own_upd vO0 (((1 : Int32) + (own_bits vZ0)) + (own_bits vZ1)) (own_msk vZ2) (vL2 + (0 : Int32)) vV) vO1 vO2 T925.heap n0 (Nat.le_trans Z0 KC928.1) F974 F975 F976 F977 F978 F979 F980 F981 F949 ge628) hZ (ow hw 163 rfl) (ow hw 88 rfl) (by decide) (by decide)) q982a q982c (g := (mkF m 537 #[Si p1, Si p2, Si p3, Sl q4, S2, Sl q5, S2, Si p6, Si vZ0, Si vZ1, Si vZ2, Si vL0, Si vL1, Si vL2, Si (2 : Int32), Si vZ2, Si vL2, Si vV, Sr b77, Sr b160, Sl vO0, S2, Sl vO1, S2, Sl vO2, S2, Sr b611, Sr b646, Sr b671, Si (1 : Int32), Sl ((((vL2 + (0 : Int32)) + ((((vO0.toUInt64 >>> ((((1 : Int32) + (own_bits vZ0)) + (own_bits vZ1)) &&& 0x3f).toInt64.toUInt64).toInt64) &&& (own_msk vZ2)).toInt32)).toInt64) - (vL2.toInt64)), S2] [(.int ((vL2 + (0 : Int32)) + ((((vO0.toUInt64 >>> ((((1 : Int32) + (own_bits vZ0)) + (own_bits vZ1)) &&& 0x3f).toInt64.toUInt64).toInt64) &&& (own_msk vZ2)).toInt32))), (.int (2 : Int32)), (.ref b611), (.ref b160)])) rfl (by rw [hml]; rfl) (Steps.refl _) (argsL := [(.ref b611), (.int (2 : Int32)), (.int ((vL2 + (0 : Int32)) + ((((vO0.toUInt64 >>> ((((1 : Int32) + (own_bits vZ0)) + (own_bits vZ1)) &&& 0x3f).toInt64.toUInt64).toInt64) &&& (own_msk vZ2)).toInt32)))]) (rest := []) (lenOf pd_13 rfl) rfl (by show 2 * 0 + _ ≤ _; exact Nat.le_of_eq rfl) (hb hby at_537) (fun _ _ => ⟨rfl, rfl, (by decide : 13 + 0 ≤ _), (by decide : 45 + 0 ≤ _)⟩)
          dsimp only [Pt.U, Pt.locs, Pt.cells, Pt.slots] at X982 l982 y982 z982 st982 hQ982
          subst y982 z982
          obtain ⟨rfl, Nq982, q982_0, q982_1⟩ := hQ982
          have N984 := Eq.subst (motive := fun L => Fr n0 L) l982.symm (Fr.app N927 Nq982)
          have KC985 : Keep h0 T982.heap [] := KC928.trans q982_0 (allS (Or.inr sz629) all0)
          obtain ⟨c986, Arc986, Aqc986, Asc986, Anc986, Ahc986, Agc986⟩ := id q982_1
          have hin987 : ¬ ((0 : Int32) < 0 ∨ c986.slots.size ≤ ((0 : Int32)).toNatClampNeg) := inb_of Asc986 ⟨by decide, by decide⟩
          have hat988 : c986.slots[((0 : Int32)).toNatClampNeg]? = some (.long (own_upd (own_upd vO0 (((1 : Int32) + (own_bits vZ0)) + (own_bits vZ1)) (own_msk vZ2) (vL2 + (0 : Int32)) vV) (((1 : Int32) + (own_bits vZ0)) + (own_bits vZ1)) (own_msk vZ2) (vL2 + (0 : Int32)) ((vL2 + (0 : Int32)) + ((((vO0.toUInt64 >>> ((((1 : Int32) + (own_bits vZ0)) + (own_bits vZ1)) &&& 0x3f).toInt64.toUInt64).toInt64) &&& (own_msk vZ2)).toInt32)))) := Has.at Ahc986 hin987 rfl
          have hc989 : (own_upd (own_upd vO0 (((1 : Int32) + (own_bits vZ0)) + (own_bits vZ1)) (own_msk vZ2) (vL2 + (0 : Int32)) vV) (((1 : Int32) + (own_bits vZ0)) + (own_bits vZ1)) (own_msk vZ2) (vL2 + (0 : Int32)) ((vL2 + (0 : Int32)) + ((((vO0.toUInt64 >>> ((((1 : Int32) + (own_bits vZ0)) + (own_bits vZ1)) &&& 0x3f).toInt64.toUInt64).toInt64) &&& (own_msk vZ2)).toInt32))) = vO0 := own_uuG G2 (own_back G2.2.2.2 B2 _ (own_fldB G2.2.2.2 B2).1 (own_fldB G2.2.2.2 B2).2 hd0)
          obtain ⟨c990, Arc990, Aqc990, Asc990, Anc990, Ahc990, Agc990⟩ := id q982_1
          have hin991 : ¬ ((1 : Int32) < 0 ∨ c990.slots.size ≤ ((1 : Int32)).toNatClampNeg) := inb_of Asc990 ⟨by decide, by decide⟩
          have hat992 : c990.slots[((1 : Int32)).toNatClampNeg]? = some (.long vO1) := Has.at Ahc990 hin991 rfl
          obtain ⟨c993, Arc993, Aqc993, Asc993, Anc993, Ahc993, Agc993⟩ := id q982_1
          have hin994 : ¬ ((2 : Int32) < 0 ∨ c993.slots.size ≤ ((2 : Int32)).toNatClampNeg) := inb_of Asc993 ⟨by decide, by decide⟩
          have hat995 : c993.slots[((2 : Int32)).toNatClampNeg]? = some (.long vO2) := Has.at Ahc993 hin994 rfl
          have pre996 : ∀ t, Steps p.tables e below (T982.setTop (mkF m 582 #[Si p1, Si p2, Si p3, Sl q4, S2, Sl q5, S2, Si p6, Si vZ0, Si vZ1, Si vZ2, Si vL0, Si vL1, Si vL2, Si (2 : Int32), Si vZ2, Si vL2, Si vV, Sr b77, Sr b160, Sl vO0, S2, Sl vO1, S2, Sl vO2, S2, Sr b611, Sr b646, Sr b671, Si (1 : Int32), Sl ((((vL2 + (0 : Int32)) + ((((vO0.toUInt64 >>> ((((1 : Int32) + (own_bits vZ0)) + (own_bits vZ1)) &&& 0x3f).toInt64.toUInt64).toInt64) &&& (own_msk vZ2)).toInt32)).toInt64) - (vL2.toInt64)), S2] [(.int (1 : Int32))])) t → Steps p.tables e below (s₁.setTop (entryFrame m #[(.int p1), (.int p2), (.int p3), (.long q4), (.long q5), (.int p6)] maxLocals)) t := by
            intro t k
            refine pre970 t ?_
            refine XS.ifNo X925.here hx rfl (hb hby at_523) rfl ((if0 _ _).trans (tlt ((lw_lt _ _).mpr hd1)).2.1) ?_
            refine XS.aload X925.here hx rfl (hb hby at_526) rfl rfl ?_
            show Steps _ _ _ (T925.setTop (mkF m 528 #[Si p1, Si p2, Si p3, Sl q4, S2, Sl q5, S2, Si p6, Si vZ0, Si vZ1, Si vZ2, Si vL0, Si vL1, Si vL2, Si (2 : Int32), Si vZ2, Si vL2, Si vV, Sr b77, Sr b160, Sl vO0, S2, Sl vO1, S2, Sl vO2, S2, Sr b611, Sr b646, Sr b671, Si (1 : Int32), Sl ((((vL2 + (0 : Int32)) + ((((vO0.toUInt64 >>> ((((1 : Int32) + (own_bits vZ0)) + (own_bits vZ1)) &&& 0x3f).toInt64.toUInt64).toInt64) &&& (own_msk vZ2)).toInt32)).toInt64) - (vL2.toInt64)), S2] [(.ref b160)])) _
            refine XS.aload X925.here hx rfl (hb hby at_528) rfl rfl ?_
            refine XS.iload X925.here hx rfl (hb hby at_530) rfl ?_
            refine XS.aload X925.here hx rfl (hb hby at_532) rfl rfl ?_
            refine XS.iload X925.here hx rfl (hb hby at_534) rfl ?_
            refine X925.iaload hx (j := (2 : Int32)) (v := (.int ((vL2 + (0 : Int32)) + ((((vO0.toUInt64 >>> ((((1 : Int32) + (own_bits vZ0)) + (own_bits vZ1)) &&& 0x3f).toInt64.toUInt64).toInt64) &&& (own_msk vZ2)).toInt32)))) Arc971.1 (State.isArrayOf_alike hZ.alike Arc971.2.1) Arc971.2.2 hin972 hat973 (g := (mkF m 536 #[Si p1, Si p2, Si p3, Sl q4, S2, Sl q5, S2, Si p6, Si vZ0, Si vZ1, Si vZ2, Si vL0, Si vL1, Si vL2, Si (2 : Int32), Si vZ2, Si vL2, Si vV, Sr b77, Sr b160, Sl vO0, S2, Sl vO1, S2, Sl vO2, S2, Sr b611, Sr b646, Sr b671, Si (1 : Int32), Sl ((((vL2 + (0 : Int32)) + ((((vO0.toUInt64 >>> ((((1 : Int32) + (own_bits vZ0)) + (own_bits vZ1)) &&& 0x3f).toInt64.toUInt64).toInt64) &&& (own_msk vZ2)).toInt32)).toInt64) - (vL2.toInt64)), S2] [(.int (2 : Int32)), (.ref b646), (.int (2 : Int32)), (.ref b611), (.ref b160)])) rfl rfl (hb hby at_536) _ ?_
            refine st982.trans ?_
            refine XS.iload X982.here hx rfl (hb hby at_540) rfl ?_
            refine XS.aload X982.here hx rfl (hb hby at_542) rfl rfl ?_
            refine XS.iconst X982.here hx rfl (hb hby at_544) ?_
            refine X982.laload hx (j := (0 : Int32)) (v := (.long (own_upd (own_upd vO0 (((1 : Int32) + (own_bits vZ0)) + (own_bits vZ1)) (own_msk vZ2) (vL2 + (0 : Int32)) vV) (((1 : Int32) + (own_bits vZ0)) + (own_bits vZ1)) (own_msk vZ2) (vL2 + (0 : Int32)) ((vL2 + (0 : Int32)) + ((((vO0.toUInt64 >>> ((((1 : Int32) + (own_bits vZ0)) + (own_bits vZ1)) &&& 0x3f).toInt64.toUInt64).toInt64) &&& (own_msk vZ2)).toInt32))))) Arc986.1 (State.isArrayOf_alike hZ.alike Arc986.2.1) Arc986.2.2 hin987 hat988 (g := (mkF m 545 #[Si p1, Si p2, Si p3, Sl q4, S2, Sl q5, S2, Si p6, Si vZ0, Si vZ1, Si vZ2, Si vL0, Si vL1, Si vL2, Si (2 : Int32), Si vZ2, Si vL2, Si vV, Sr b77, Sr b160, Sl vO0, S2, Sl vO1, S2, Sl vO2, S2, Sr b611, Sr b646, Sr b671, Si (1 : Int32), Sl ((((vL2 + (0 : Int32)) + ((((vO0.toUInt64 >>> ((((1 : Int32) + (own_bits vZ0)) + (own_bits vZ1)) &&& 0x3f).toInt64.toUInt64).toInt64) &&& (own_msk vZ2)).toInt32)).toInt64) - (vL2.toInt64)), S2] [(.int (0 : Int32)), (.ref b611), (.int (1 : Int32))])) rfl rfl (hb hby at_545) _ ?_
            show Steps _ _ _ (T982.setTop (mkF m 546 #[Si p1, Si p2, Si p3, Sl q4, S2, Sl q5, S2, Si p6, Si vZ0, Si vZ1, Si vZ2, Si vL0, Si vL1, Si vL2, Si (2 : Int32), Si vZ2, Si vL2, Si vV, Sr b77, Sr b160, Sl vO0, S2, Sl vO1, S2, Sl vO2, S2, Sr b611, Sr b646, Sr b671, Si (1 : Int32), Sl ((((vL2 + (0 : Int32)) + ((((vO0.toUInt64 >>> ((((1 : Int32) + (own_bits vZ0)) + (own_bits vZ1)) &&& 0x3f).toInt64.toUInt64).toInt64) &&& (own_msk vZ2)).toInt32)).toInt64) - (vL2.toInt64)), S2] [(.long (own_upd (own_upd vO0 (((1 : Int32) + (own_bits vZ0)) + (own_bits vZ1)) (own_msk vZ2) (vL2 + (0 : Int32)) vV) (((1 : Int32) + (own_bits vZ0)) + (own_bits vZ1)) (own_msk vZ2) (vL2 + (0 : Int32)) ((vL2 + (0 : Int32)) + ((((vO0.toUInt64 >>> ((((1 : Int32) + (own_bits vZ0)) + (own_bits vZ1)) &&& 0x3f).toInt64.toUInt64).toInt64) &&& (own_msk vZ2)).toInt32)))), (.int (1 : Int32))])) _
            refine XS.lload X982.here hx rfl (hb hby at_546) rfl ?_
            refine XS.lcmp X982.here hx rfl (hb hby at_548) rfl ?_
            refine XS.ifNo X982.here hx rfl (hb hby at_549) rfl ((if0 _ _).trans (teq ((lw_eq _ _).mpr hc989)).2) ?_
            refine XS.aload X982.here hx rfl (hb hby at_552) rfl rfl ?_
            refine XS.iconst X982.here hx rfl (hb hby at_554) ?_
            refine X982.laload hx (j := (1 : Int32)) (v := (.long vO1)) Arc990.1 (State.isArrayOf_alike hZ.alike Arc990.2.1) Arc990.2.2 hin991 hat992 (g := (mkF m 555 #[Si p1, Si p2, Si p3, Sl q4, S2, Sl q5, S2, Si p6, Si vZ0, Si vZ1, Si vZ2, Si vL0, Si vL1, Si vL2, Si (2 : Int32), Si vZ2, Si vL2, Si vV, Sr b77, Sr b160, Sl vO0, S2, Sl vO1, S2, Sl vO2, S2, Sr b611, Sr b646, Sr b671, Si (1 : Int32), Sl ((((vL2 + (0 : Int32)) + ((((vO0.toUInt64 >>> ((((1 : Int32) + (own_bits vZ0)) + (own_bits vZ1)) &&& 0x3f).toInt64.toUInt64).toInt64) &&& (own_msk vZ2)).toInt32)).toInt64) - (vL2.toInt64)), S2] [(.int (1 : Int32)), (.ref b611), (.int (1 : Int32))])) rfl rfl (hb hby at_555) _ ?_
            refine XS.lload X982.here hx rfl (hb hby at_556) rfl ?_
            refine XS.lcmp X982.here hx rfl (hb hby at_558) rfl ?_
            refine XS.ifNo X982.here hx rfl (hb hby at_559) rfl ((if0 _ _).trans (teq ((lw_eq _ _).mpr rfl)).2) ?_
            refine XS.aload X982.here hx rfl (hb hby at_562) rfl rfl ?_
            show Steps _ _ _ (T982.setTop (mkF m 564 #[Si p1, Si p2, Si p3, Sl q4, S2, Sl q5, S2, Si p6, Si vZ0, Si vZ1, Si vZ2, Si vL0, Si vL1, Si vL2, Si (2 : Int32), Si vZ2, Si vL2, Si vV, Sr b77, Sr b160, Sl vO0, S2, Sl vO1, S2, Sl vO2, S2, Sr b611, Sr b646, Sr b671, Si (1 : Int32), Sl ((((vL2 + (0 : Int32)) + ((((vO0.toUInt64 >>> ((((1 : Int32) + (own_bits vZ0)) + (own_bits vZ1)) &&& 0x3f).toInt64.toUInt64).toInt64) &&& (own_msk vZ2)).toInt32)).toInt64) - (vL2.toInt64)), S2] [(.ref b611), (.int (1 : Int32))])) _
            refine XS.iconst X982.here hx rfl (hb hby at_564) ?_
            refine X982.laload hx (j := (2 : Int32)) (v := (.long vO2)) Arc993.1 (State.isArrayOf_alike hZ.alike Arc993.2.1) Arc993.2.2 hin994 hat995 (g := (mkF m 565 #[Si p1, Si p2, Si p3, Sl q4, S2, Sl q5, S2, Si p6, Si vZ0, Si vZ1, Si vZ2, Si vL0, Si vL1, Si vL2, Si (2 : Int32), Si vZ2, Si vL2, Si vV, Sr b77, Sr b160, Sl vO0, S2, Sl vO1, S2, Sl vO2, S2, Sr b611, Sr b646, Sr b671, Si (1 : Int32), Sl ((((vL2 + (0 : Int32)) + ((((vO0.toUInt64 >>> ((((1 : Int32) + (own_bits vZ0)) + (own_bits vZ1)) &&& 0x3f).toInt64.toUInt64).toInt64) &&& (own_msk vZ2)).toInt32)).toInt64) - (vL2.toInt64)), S2] [(.int (2 : Int32)), (.ref b611), (.int (1 : Int32))])) rfl rfl (hb hby at_565) _ ?_
            refine XS.lload X982.here hx rfl (hb hby at_566) rfl ?_
            refine XS.lcmp X982.here hx rfl (hb hby at_568) rfl ?_
            refine XS.ifNo X982.here hx rfl (hb hby at_569) rfl ((if0 _ _).trans (teq ((lw_eq _ _).mpr rfl)).2) ?_
            refine XS.iconst X982.here hx rfl (hb hby at_572) ?_
            refine XS.goto X982.here hx rfl (pc0 := 573) (pc' := 577) rfl (hb hby at_573) (by decide) (by decide) ?_
            refine XS.iand X982.here hx rfl (hb hby at_577) rfl ?_
            refine XS.istore X982.here hx rfl (hb hby at_578) rfl (l' := #[Si p1, Si p2, Si p3, Sl q4, S2, Sl q5, S2, Si p6, Si vZ0, Si vZ1, Si vZ2, Si vL0, Si vL1, Si vL2, Si (2 : Int32), Si vZ2, Si vL2, Si vV, Sr b77, Sr b160, Sl vO0, S2, Sl vO1, S2, Sl vO2, S2, Sr b611, Sr b646, Sr b671, Si (1 : Int32), Sl ((((vL2 + (0 : Int32)) + ((((vO0.toUInt64 >>> ((((1 : Int32) + (own_bits vZ0)) + (own_bits vZ1)) &&& 0x3f).toInt64.toUInt64).toInt64) &&& (own_msk vZ2)).toInt32)).toInt64) - (vL2.toInt64)), S2]) rfl ?_
            refine XS.iload X982.here hx rfl (hb hby at_580) rfl ?_
            show Steps _ _ _ (T982.setTop (mkF m 582 #[Si p1, Si p2, Si p3, Sl q4, S2, Sl q5, S2, Si p6, Si vZ0, Si vZ1, Si vZ2, Si vL0, Si vL1, Si vL2, Si (2 : Int32), Si vZ2, Si vL2, Si vV, Sr b77, Sr b160, Sl vO0, S2, Sl vO1, S2, Sl vO2, S2, Sr b611, Sr b646, Sr b671, Si (1 : Int32), Sl ((((vL2 + (0 : Int32)) + ((((vO0.toUInt64 >>> ((((1 : Int32) + (own_bits vZ0)) + (own_bits vZ1)) &&& 0x3f).toInt64.toUInt64).toInt64) &&& (own_msk vZ2)).toInt32)).toInt64) - (vL2.toInt64)), S2] [(.int (1 : Int32))])) _
            exact k
          obtain ⟨fs, hr, hrun, hended, hW, hsame⟩ := X982.leave (v := some (.int (1 : Int32))) (fun h => by rw [Bd.returns] at h; cases h)
          refine ⟨_, _, pre996 _ ?_, hrun, hended, _, _, rfl, ?_, ⟨_, rfl⟩, hW, hsame.mono (by decide) (by decide)⟩
          · exact retN X982 hx (t := .boolean) Bd.returns (by simp) (hb hby at_582) hr
          · show Q_rm0 Z p1 p2 p3 q4 q5 p6 wE kE h0 n0 _ T982.heap _
            exact ⟨rfl, N984, KC985⟩
        · have pre997 : ∀ t, Steps p.tables e below (T925.setTop (mkF m 582 #[Si p1, Si p2, Si p3, Sl q4, S2, Sl q5, S2, Si p6, Si vZ0, Si vZ1, Si vZ2, Si vL0, Si vL1, Si vL2, Si (2 : Int32), Si vZ2, Si vL2, Si vV, Sr b77, Sr b160, Sl vO0, S2, Sl vO1, S2, Sl vO2, S2, Sr b611, Sr b646, Sr b671, Si (1 : Int32), Sl ((((vL2 + (0 : Int32)) + ((((vO0.toUInt64 >>> ((((1 : Int32) + (own_bits vZ0)) + (own_bits vZ1)) &&& 0x3f).toInt64.toUInt64).toInt64) &&& (own_msk vZ2)).toInt32)).toInt64) - (vL2.toInt64)), S2] [(.int (1 : Int32))])) t → Steps p.tables e below (s₁.setTop (entryFrame m #[(.int p1), (.int p2), (.int p3), (.long q4), (.long q5), (.int p6)] maxLocals)) t := by
            intro t k
            refine pre970 t ?_
            refine XS.ifYes X925.here hx rfl (pc0 := 523) (pc' := 580) rfl (hb hby at_523) rfl ((if0 _ _).trans (flt (fun z => hd1 ((lw_lt _ _).mp z))).2.1) (by decide) (by decide) ?_
            refine XS.iload X925.here hx rfl (hb hby at_580) rfl ?_
            show Steps _ _ _ (T925.setTop (mkF m 582 #[Si p1, Si p2, Si p3, Sl q4, S2, Sl q5, S2, Si p6, Si vZ0, Si vZ1, Si vZ2, Si vL0, Si vL1, Si vL2, Si (2 : Int32), Si vZ2, Si vL2, Si vV, Sr b77, Sr b160, Sl vO0, S2, Sl vO1, S2, Sl vO2, S2, Sr b611, Sr b646, Sr b671, Si (1 : Int32), Sl ((((vL2 + (0 : Int32)) + ((((vO0.toUInt64 >>> ((((1 : Int32) + (own_bits vZ0)) + (own_bits vZ1)) &&& 0x3f).toInt64.toUInt64).toInt64) &&& (own_msk vZ2)).toInt32)).toInt64) - (vL2.toInt64)), S2] [(.int (1 : Int32))])) _
            exact k
          obtain ⟨fs, hr, hrun, hended, hW, hsame⟩ := X925.leave (v := some (.int (1 : Int32))) (fun h => by rw [Bd.returns] at h; cases h)
          refine ⟨_, _, pre997 _ ?_, hrun, hended, _, _, rfl, ?_, ⟨_, rfl⟩, hW, hsame.mono (by decide) (by decide)⟩
          · exact retN X925 hx (t := .boolean) Bd.returns (by simp) (hb hby at_582) hr
          · show Q_rm0 Z p1 p2 p3 q4 q5 p6 wE kE h0 n0 _ T925.heap _
            exact ⟨rfl, N927, KC928⟩
set_option maxRecDepth 65536 in
set_option maxHeartbeats 40000000 in
theorem comes_1 {Post : Tables → Env → Array Value → State → Outcome → State → Prop} (hpost : ∀ tb e args s v u, (limb_1_1.after args s (.returned v) u = true ∧ limb_1_2.after args s (.returned v) u = true ∧ True) → FrameEnd s (.returned v) u (Jvm.fieldLocs frame_1_writes args s ++ Jvm.arrayLocs frame_1_arrays args s ++ Jvm.staticLocs frame_1_statics s) 40 192 → Post tb e args s (.returned v) u) :
    ArmFor flags0 classFile x code maxLocals ret World_1 tables_1 room_1 Calls_1 rest_1 Pre_1 Post := by
  intro l hfl _ _ p e ha hc hk s m args below hf hA hF happ hP
  obtain ⟨hcalls, hrest, hpre⟩ := hP
  obtain ⟨-, -, -, hnamed, -, -, -, hat⟩ := (Spec.applies_iff hf).mp happ
  obtain ⟨hg, hn⟩ := and_e (Cond.before_iff.mp (show (Jvm.Cond.and given_1 narrow_1).before args s = true from hpre))
  obtain ⟨g0, r0⟩ := and_e hg
  obtain ⟨g1, r1⟩ := and_e r0
  obtain ⟨g2, r2⟩ := and_e r1
  obtain ⟨g3, r3⟩ := and_e r2
  obtain ⟨g4, r4⟩ := and_e r3
  obtain ⟨g5, r5⟩ := and_e r4
  obtain ⟨w0, w1, w2, w3, w4, w5, rfl⟩ : ∃ w0 w1 w2 w3 w4 w5 : Value, args = #[w0, w1, w2, w3, w4, w5] := by
    have hs : args.size = 6 := by simpa [Cond.value, given_1] using g0
    obtain ⟨L⟩ := args
    match L, hs with
    | [w0, w1, w2, w3, w4, w5], _ => exact ⟨w0, w1, w2, w3, w4, w5, rfl⟩
  have hw := fun d (hd : d ∈ tables_1) => atoms_spec (ws := Jvm.Cond.code x code maxLocals ret :: tables_1) hat d (List.mem_cons_of_mem _ hd)
  have hfit : Fit s := fun {y c} hc i hi => by
    obtain ⟨ha, rfl⟩ := Array.getElem?_eq_some_iff.mp hc
    have q := List.all_eq_true.mp ((Array.all_eq_true_iff_forall_mem.mp hF) _ (Array.getElem_mem ha)) i (List.mem_range.mpr hi)
    simpa [Array.getElem?_eq_getElem hi] using q
  obtain ⟨i0, ei0⟩ := is_v g1
  obtain rfl : w0 = (.int i0) := Option.some.inj ei0
  obtain ⟨i1, ei1⟩ := is_v g2
  obtain rfl : w1 = (.int i1) := Option.some.inj ei1
  obtain ⟨i2, ei2⟩ := is_v g3
  obtain rfl : w2 = (.int i2) := Option.some.inj ei2
  obtain ⟨i3, ei3⟩ := isL_v g4
  obtain rfl : w3 = (.long i3) := Option.some.inj ei3
  obtain ⟨i4, ei4⟩ := isL_v g5
  obtain rfl : w4 = (.long i4) := Option.some.inj ei4
  obtain ⟨i5, ei5⟩ := is_v r5
  obtain rfl : w5 = (.int i5) := Option.some.inj ei5
  obtain ⟨hsets, hown0⟩ := atoms_of _ (rest_1_c_eq ▸ (show rest_1_c.before _ s = true from hrest))
  have y6 := Cond.before_iff.mp (hsets _ (List.mem_of_getElem? (i := 6) rfl))
  have y8 := Cond.before_iff.mp (hsets _ (List.mem_of_getElem? (i := 8) rfl))
  obtain ⟨wE, eE⟩ := arr_v y6
  obtain ⟨clE, hE⟩ := Arr.start eE y6
  obtain ⟨hsz, hsize⟩ := IntBox.length_fwd (Cond.before_iff.mpr y8) eE hE.1 hE.2.1 hE.2.2
  have SE := Sta.start eE (Or.inr ⟨(ow hw 10 rfl), hsets _ (List.mem_of_getElem? (i := 2) rfl)⟩)
  have VE : Arv s s.heap wE clE.cls (.object "java/lang/Object") (0 : Int32) [] .null := Arv.start hfit hE hsz hsize (by decide) rfl trivial
  obtain ⟨n, o, h1, h2, h3, _, L, rfl, ⟨rfl, N, -⟩, hq⟩ := rm0 l s _ hw tables_1 i0 i1 i2 i3 i4 i5 wE clE.cls s.heap s.heap.size (Nat.le_refl _) (Old.start s) SE VE p e ha hc hk s m _ below hf ((Spec.applies_iff_loose hf).mp happ).1 ⟨rfl, State.Warmed39.refl s, rfl⟩ trivial
  refine ⟨n, _, h1, h2, h3, hpost _ _ _ _ _ _ ⟨Cond.after_iff.mpr rfl, Cond.after_iff.mpr (eq_i res_at (Term.int_eval (1)) rfl), trivial⟩ ⟨hq.1, hq.2.1, (hq.2.2.sift fun y hy => Or.inr (N y hy)).mono (by decide) (by decide)⟩⟩
theorem main_1_1 : Claimed_1_1 := comes_1 fun _ _ _ _ _ _ h hF => ⟨h.1, hF⟩
theorem main_1_2 : Claimed_1_2 := comes_1 fun _ _ _ _ _ _ h hF => ⟨h.2.1, hF⟩
end Jvm.Pilot.@@N@@
namespace Jvm.Pilot.@@N@@
open Jvm Jvm.ClassFile Sem Op Lib Jvm.Free Jvm.Stand Jvm.Pilot.@@N@@.Jvm.D
/-! MADE BY PROGRAM (witnessworld.py) out of the Statement's table words and the real class files: 30 classes; the members and pool entries that the words name. The judged class is class 1, her method 1. -/
namespace start1
open Jvm.ClassFile
def u (s : String) : CpInfo := .utf8 (stringToUtf16 s)
/-- a pool by its gaps: so many unusable entries, then the entry; so many at the end -/
def gap : Nat → List CpInfo → List CpInfo
  | 0, r => r
  | n + 1, r => .unusable :: gap n r
def poolList (es : List (Nat × CpInfo)) (last : Nat) : List CpInfo := es.foldr (fun e r => gap e.1 (e.2 :: r)) (gap last [])
def pool (es : List (Nat × CpInfo)) (last : Nat) : Array CpInfo := ⟨poolList es last⟩
def fileOf (pool : Array CpInfo) (this : Nat) (attrs : Array Attribute := #[]) (ms : Array MethodInfo := #[]) (fl : Nat := 33) (sup : Nat := 0) (ifs : Array Nat := #[]) (fds : Array FieldInfo := #[]) : ClassFile where
  minorVersion := 0
  majorVersion := 65
  constantPool := pool
  accessFlags := fl
  thisClass := this
  superClass := sup
  interfaces := ifs
  fields := fds
  methods := ms
  attributes := attrs
def plain (name : String) (sup : Option ClassId) : Class where
  name := name
  kind := .ordinary
  loader := none
  accessFlags := 33
  super := sup
  interfaces := #[]
  cf := none
  fields := #[]
  methods := #[]
  instanceTypes := #[]
  staticTypes := #[]
  resolved := #[]
  callSites := []
  init := .initialized
  statics := none
  mirror := none

def pool0 : Array CpInfo := pool [(5, u "<init>"), (0, u "()V"), (1, .class_ 10), (1, u "java/lang/Object")] 113

def k0c0 : Code := { maxStack := 0, maxLocals := 1, code := object_method_1_code, exceptionTable := #[], attributes := #[] }
def k0m0 : Method := { name := "<init>", desc := "()V", sig := { parameters := [], returnType := none }, accessFlags := 1, code := some k0c0 }
/-- java/lang/Object -/
def k0 : Class := { plain "java/lang/Object" none with
  accessFlags := 33
  interfaces := #[]
  cf := some (fileOf pool0 8 #[] #[{ accessFlags := 1, nameIndex := 5, descriptorIndex := 6, attributes := #[] }] 33 0 #[] #[])
  fields := #[]
  methods := #[k0m0]
  instanceTypes := #[]
  staticTypes := #[]
  resolved := Array.replicate 124 none
  statics := none }

def pool1 : Array CpInfo := pool [(2, .class_ 4), (0, .nameAndType 5 6), (0, u "java/lang/Object"), (0, u "<init>"), (0, u "()V"), (0, .integer 2147483647), (0, .methodref 9 10), (0, .class_ 11), (0, .nameAndType 12 13), (0, u "java/lang/Math"), (0, u "max"), (0, u "(II)I"), (2, .methodref 9 17), (0, .nameAndType 18 13), (0, u "min"), (0, .class_ 20), (0, u "java/util/ArrayList"), (0, .methodref 19 3), (0, .class_ 23), (0, u "com/example/darlington/darlington/core/IntegerRange"), (0, .methodref 22 25), (0, .nameAndType 5 26), (0, u "(II)V"), (0, .interfaceMethodref 28 29), (0, .class_ 30), (0, .nameAndType 31 32), (0, u "java/util/List"), (0, u "add"), (0, u "(Ljava/lang/Object;)Z"), (0, .class_ 34), (0, u "com/example/darlington/darlington/core/StateLayout"), (0, .methodref 33 36), (0, .nameAndType 5 37), (0, u "(Ljava/util/List;)V"), (0, .long 11400714819323198485), (1, .long 18446744073709551615), (1, .methodref 33 43), (0, .nameAndType 44 45), (0, u "unpack"), (0, u "([JI[I)V"), (0, .methodref 33 47), (0, .nameAndType 48 49), (0, u "set"), (0, u "([JII)V"), (0, .class_ 51), (0, u "com/example/darlington/darlington/core/StateLayoutSetPinLaw"), (2, u "law"), (0, u "(IIIJJI)Z")] 7

def k1m0 : Method := { name := "<init>", desc := "()V", sig := { parameters := [], returnType := none }, accessFlags := 1, code := none }
def k1c1 : Code := { maxStack := 7, maxLocals := 32, code := code, exceptionTable := #[], attributes := #[] }
def k1m1 : Method := { name := "law", desc := "(IIIJJI)Z", sig := { parameters := [.int, .int, .int, .long, .long, .int], returnType := some .boolean }, accessFlags := 9, code := some k1c1 }
/-- com/example/darlington/darlington/core/StateLayoutSetPinLaw -/
def k1 : Class := { plain "com/example/darlington/darlington/core/StateLayoutSetPinLaw" (some 0) with
  accessFlags := 49
  interfaces := #[]
  cf := some (fileOf pool1 50 #[] #[{ accessFlags := 1, nameIndex := 5, descriptorIndex := 6, attributes := #[] }, { accessFlags := 9, nameIndex := 54, descriptorIndex := 55, attributes := #[] }] 49 2 #[] #[])
  fields := #[]
  methods := #[k1m0, k1m1]
  instanceTypes := #[]
  staticTypes := #[]
  resolved := Array.replicate 63 none
  statics := none }

def pool2 : Array CpInfo := pool [(1, .class_ 2), (0, u "java/lang/Math"), (1, .class_ 6), (1, u "java/lang/Object"), (0, u "<init>"), (0, u "()V"), (89, .class_ 100), (1, u "java/lang/Math$RandomNumberGeneratorHolder"), (71, u "negativeZeroFloatBits"), (0, u "J"), (2, u "negativeZeroDoubleBits"), (21, u "max"), (2, u "min"), (43, u "$assertionsDisabled"), (0, u "Z"), (88, u "(II)I"), (2, u "twoToTheDoubleScaleDown"), (0, u "D"), (4, u "twoToTheDoubleScaleUp"), (9, u "E"), (3, u "PI"), (2, u "TAU"), (2, u "DEGREES_TO_RADIANS"), (0, u "RADIANS_TO_DEGREES")] 94

def k2m0 : Method := { name := "<init>", desc := "()V", sig := { parameters := [], returnType := none }, accessFlags := 2, code := none }
def k2c1 : Code := { maxStack := 2, maxLocals := 2, code := jdk_29_method_65_code, exceptionTable := #[], attributes := #[] }
def k2m1 : Method := { name := "max", desc := "(II)I", sig := { parameters := [.int, .int], returnType := some .int }, accessFlags := 9, code := some k2c1 }
def k2c2 : Code := { maxStack := 2, maxLocals := 2, code := jdk_29_method_69_code, exceptionTable := #[], attributes := #[] }
def k2m2 : Method := { name := "min", desc := "(II)I", sig := { parameters := [.int, .int], returnType := some .int }, accessFlags := 9, code := some k2c2 }
/-- java/lang/Math -/
def k2 : Class := { plain "java/lang/Math" (some 0) with
  accessFlags := 49
  interfaces := #[]
  cf := some (fileOf pool2 1 #[.nestMembers #[98]] #[{ accessFlags := 2, nameIndex := 7, descriptorIndex := 8, attributes := #[] }, { accessFlags := 9, nameIndex := 198, descriptorIndex := 335, attributes := #[] }, { accessFlags := 9, nameIndex := 201, descriptorIndex := 335, attributes := #[] }] 49 4 #[] #[{ accessFlags := 25, nameIndex := 354, descriptorIndex := 339, attributes := #[] }, { accessFlags := 25, nameIndex := 358, descriptorIndex := 339, attributes := #[] }, { accessFlags := 25, nameIndex := 361, descriptorIndex := 339, attributes := #[] }, { accessFlags := 26, nameIndex := 364, descriptorIndex := 339, attributes := #[] }, { accessFlags := 26, nameIndex := 365, descriptorIndex := 339, attributes := #[] }, { accessFlags := 26, nameIndex := 172, descriptorIndex := 173, attributes := #[] }, { accessFlags := 26, nameIndex := 176, descriptorIndex := 173, attributes := #[] }, { accessFlags := 8, nameIndex := 344, descriptorIndex := 339, attributes := #[] }, { accessFlags := 8, nameIndex := 338, descriptorIndex := 339, attributes := #[] }, { accessFlags := 4120, nameIndex := 245, descriptorIndex := 246, attributes := #[] }])
  fields := #[{ name := "E", type := .double, accessFlags := 25, slot := 0, constantValue := 0 }, { name := "PI", type := .double, accessFlags := 25, slot := 1, constantValue := 0 }, { name := "TAU", type := .double, accessFlags := 25, slot := 2, constantValue := 0 }, { name := "DEGREES_TO_RADIANS", type := .double, accessFlags := 26, slot := 3, constantValue := 0 }, { name := "RADIANS_TO_DEGREES", type := .double, accessFlags := 26, slot := 4, constantValue := 0 }, { name := "negativeZeroFloatBits", type := .long, accessFlags := 26, slot := 5, constantValue := 0 }, { name := "negativeZeroDoubleBits", type := .long, accessFlags := 26, slot := 6, constantValue := 0 }, { name := "twoToTheDoubleScaleUp", type := .double, accessFlags := 8, slot := 7, constantValue := 0 }, { name := "twoToTheDoubleScaleDown", type := .double, accessFlags := 8, slot := 8, constantValue := 0 }, { name := "$assertionsDisabled", type := .boolean, accessFlags := 4120, slot := 9, constantValue := 0 }]
  methods := #[k2m0, k2m1, k2m2]
  instanceTypes := #[]
  staticTypes := #[.double, .double, .double, .double, .double, .long, .long, .double, .double, .boolean]
  resolved := Array.replicate 460 none
  statics := none }

def pool3 : Array CpInfo := pool [(8, .class_ 10), (1, u "java/lang/Iterable"), (24, .class_ 36), (0, u "java/lang/Object")] 25

/-- java/lang/Iterable -/
def k3 : Class := { plain "java/lang/Iterable" (some 0) with
  accessFlags := 1537
  interfaces := #[]
  cf := some (fileOf pool3 8 #[] #[] 1537 35 #[] #[])
  fields := #[]
  methods := #[]
  instanceTypes := #[]
  staticTypes := #[]
  resolved := Array.replicate 62 none
  statics := none }

def pool4 : Array CpInfo := pool [(10, .class_ 12), (1, u "java/util/Collection"), (47, .class_ 61), (0, u "java/lang/Object"), (0, .class_ 63), (0, u "java/lang/Iterable")] 51

/-- java/util/Collection -/
def k4 : Class := { plain "java/util/Collection" (some 0) with
  accessFlags := 1537
  interfaces := #[3]
  cf := some (fileOf pool4 10 #[] #[] 1537 60 #[62] #[])
  fields := #[]
  methods := #[]
  instanceTypes := #[]
  staticTypes := #[]
  resolved := Array.replicate 115 none
  statics := none }

def pool5 : Array CpInfo := pool [(1, .methodref 2 3), (0, .class_ 4), (0, .nameAndType 5 6), (0, u "java/lang/Object"), (0, u "<init>"), (0, u "()V"), (1, .class_ 10), (1, u "java/util/AbstractCollection"), (66, .class_ 78), (0, u "java/util/Collection")] 81

def k5c0 : Code := { maxStack := 1, maxLocals := 1, code := jdk_22_method_1_code, exceptionTable := #[], attributes := #[] }
def k5m0 : Method := { name := "<init>", desc := "()V", sig := { parameters := [], returnType := none }, accessFlags := 4, code := some k5c0 }
/-- java/util/AbstractCollection -/
def k5 : Class := { plain "java/util/AbstractCollection" (some 0) with
  accessFlags := 1057
  interfaces := #[4]
  cf := some (fileOf pool5 8 #[] #[{ accessFlags := 4, nameIndex := 5, descriptorIndex := 6, attributes := #[] }] 1057 2 #[77] #[])
  fields := #[]
  methods := #[k5m0]
  instanceTypes := #[]
  staticTypes := #[]
  resolved := Array.replicate 160 none
  statics := none }

def pool6 : Array CpInfo := pool [(8, .class_ 10), (1, u "java/util/SequencedCollection"), (15, .class_ 27), (0, u "java/lang/Object"), (0, .class_ 29), (0, u "java/util/Collection")] 27

/-- java/util/SequencedCollection -/
def k6 : Class := { plain "java/util/SequencedCollection" (some 0) with
  accessFlags := 1537
  interfaces := #[4]
  cf := some (fileOf pool6 8 #[] #[] 1537 26 #[28] #[])
  fields := #[]
  methods := #[]
  instanceTypes := #[]
  staticTypes := #[]
  resolved := Array.replicate 57 none
  statics := none }

def pool7 : Array CpInfo := pool [(8, .class_ 10), (1, u "java/util/List"), (49, u "add"), (3, u "(Ljava/lang/Object;)Z"), (10, u "get"), (0, u "(I)Ljava/lang/Object;"), (2, u "size"), (0, u "()I"), (22, .class_ 104), (0, u "java/lang/Object"), (15, .class_ 121), (0, u "java/util/SequencedCollection")] 129

def k7m0 : Method := { name := "size", desc := "()I", sig := { parameters := [], returnType := some .int }, accessFlags := 1025, code := none }
def k7m1 : Method := { name := "add", desc := "(Ljava/lang/Object;)Z", sig := { parameters := [(.object "java/lang/Object")], returnType := some .boolean }, accessFlags := 1025, code := none }
def k7m2 : Method := { name := "get", desc := "(I)Ljava/lang/Object;", sig := { parameters := [.int], returnType := some (.object "java/lang/Object") }, accessFlags := 1025, code := none }
/-- java/util/List -/
def k7 : Class := { plain "java/util/List" (some 0) with
  accessFlags := 1537
  interfaces := #[6]
  cf := some (fileOf pool7 8 #[] #[{ accessFlags := 1025, nameIndex := 79, descriptorIndex := 80, attributes := #[] }, { accessFlags := 1025, nameIndex := 60, descriptorIndex := 64, attributes := #[] }, { accessFlags := 1025, nameIndex := 75, descriptorIndex := 76, attributes := #[] }] 1537 103 #[120] #[])
  fields := #[]
  methods := #[k7m0, k7m1, k7m2]
  instanceTypes := #[]
  staticTypes := #[]
  resolved := Array.replicate 251 none
  statics := none }

def pool8 : Array CpInfo := pool [(1, .methodref 2 3), (0, .class_ 4), (0, .nameAndType 5 6), (0, u "java/util/AbstractCollection"), (0, u "<init>"), (0, u "()V"), (0, .fieldref 8 9), (0, .class_ 10), (0, .nameAndType 11 12), (0, u "java/util/AbstractList"), (0, u "modCount"), (0, u "I"), (64, .class_ 78), (0, u "java/util/AbstractList$Itr"), (3, .class_ 83), (0, u "java/util/AbstractList$ListItr"), (9, .class_ 94), (0, u "java/util/AbstractList$RandomAccessSubList"), (3, .class_ 99), (0, u "java/util/AbstractList$SubList"), (33, .class_ 134), (0, u "java/util/List"), (73, .class_ 209), (0, u "java/util/AbstractList$SubList$1"), (0, .class_ 211), (0, u "java/util/AbstractList$RandomAccessSpliterator")] 6

def k8c0 : Code := { maxStack := 2, maxLocals := 1, code := jdk_39_method_1_code, exceptionTable := #[], attributes := #[] }
def k8m0 : Method := { name := "<init>", desc := "()V", sig := { parameters := [], returnType := none }, accessFlags := 4, code := some k8c0 }
/-- java/util/AbstractList -/
def k8 : Class := { plain "java/util/AbstractList" (some 5) with
  accessFlags := 1057
  interfaces := #[7]
  cf := some (fileOf pool8 8 #[.nestMembers #[93, 98, 208, 210, 82, 77]] #[{ accessFlags := 4, nameIndex := 5, descriptorIndex := 6, attributes := #[] }] 1057 2 #[133] #[{ accessFlags := 132, nameIndex := 11, descriptorIndex := 12, attributes := #[] }])
  fields := #[{ name := "modCount", type := .int, accessFlags := 132, slot := 0, constantValue := 0 }]
  methods := #[k8m0]
  instanceTypes := #[.int]
  staticTypes := #[]
  resolved := Array.replicate 218 none
  statics := none }

def pool9 : Array CpInfo := pool [(1, .class_ 2), (0, u "java/util/RandomAccess"), (0, .class_ 4), (0, u "java/lang/Object")] 2

/-- java/util/RandomAccess -/
def k9 : Class := { plain "java/util/RandomAccess" (some 0) with
  accessFlags := 1537
  interfaces := #[]
  cf := some (fileOf pool9 1 #[] #[] 1537 3 #[] #[])
  fields := #[]
  methods := #[]
  instanceTypes := #[]
  staticTypes := #[]
  resolved := Array.replicate 7 none
  statics := none }

def pool10 : Array CpInfo := pool [(1, .class_ 2), (0, u "java/lang/Cloneable"), (0, .class_ 4), (0, u "java/lang/Object")] 2

/-- java/lang/Cloneable -/
def k10 : Class := { plain "java/lang/Cloneable" (some 0) with
  accessFlags := 1537
  interfaces := #[]
  cf := some (fileOf pool10 1 #[] #[] 1537 3 #[] #[])
  fields := #[]
  methods := #[]
  instanceTypes := #[]
  staticTypes := #[]
  resolved := Array.replicate 7 none
  statics := none }

def pool11 : Array CpInfo := pool [(1, .class_ 2), (0, u "java/io/Serializable"), (0, .class_ 4), (0, u "java/lang/Object")] 2

/-- java/io/Serializable -/
def k11 : Class := { plain "java/io/Serializable" (some 0) with
  accessFlags := 1537
  interfaces := #[]
  cf := some (fileOf pool11 1 #[] #[] 1537 3 #[] #[])
  fields := #[]
  methods := #[]
  instanceTypes := #[]
  staticTypes := #[]
  resolved := Array.replicate 7 none
  statics := none }

def pool12 : Array CpInfo := pool [(1, .methodref 2 3), (0, .class_ 4), (0, .nameAndType 5 6), (0, u "java/util/AbstractList"), (0, u "<init>"), (0, u "()V"), (0, .class_ 8), (0, u "java/lang/Object"), (0, .fieldref 10 11), (0, .class_ 12), (0, .nameAndType 13 14), (0, u "java/util/ArrayList"), (0, u "elementData"), (0, u "[Ljava/lang/Object;"), (2, u "EMPTY_ELEMENTDATA"), (21, .fieldref 10 40), (0, .nameAndType 41 14), (0, u "DEFAULTCAPACITY_EMPTY_ELEMENTDATA"), (5, u "()[Ljava/lang/Object;"), (0, .fieldref 10 49), (0, .nameAndType 50 51), (0, u "size"), (0, u "I"), (11, .fieldref 10 64), (0, .nameAndType 65 51), (0, u "modCount"), (3, .methodref 10 70), (0, .nameAndType 71 72), (0, u "grow"), (0, u "(I)[Ljava/lang/Object;"), (6, .methodref 80 81), (0, .class_ 82), (0, .nameAndType 83 84), (0, u "java/lang/Math"), (0, u "max"), (0, u "(II)I"), (11, u "(Ljava/lang/Object;)Z"), (21, .methodref 119 120), (0, .class_ 121), (0, .nameAndType 122 84), (0, u "java/util/Objects"), (0, u "checkIndex"), (0, .methodref 10 124), (0, .nameAndType 13 125), (0, u "(I)Ljava/lang/Object;"), (3, .methodref 10 130), (0, .nameAndType 71 47), (0, .methodref 10 132), (0, .nameAndType 133 134), (0, u "add"), (0, u "(Ljava/lang/Object;[Ljava/lang/Object;I)V"), (13, .class_ 149), (0, u "java/util/List"), (36, u "()I"), (75, .class_ 263), (0, u "java/util/ArrayList$ListItr"), (3, .class_ 268), (0, u "java/util/ArrayList$Itr"), (7, .class_ 277), (0, u "java/util/ArrayList$SubList"), (12, .class_ 291), (0, u "java/util/ArrayList$ArrayListSpliterator"), (37, .class_ 330), (0, u "java/util/RandomAccess"), (0, .class_ 332), (0, u "java/lang/Cloneable"), (0, .class_ 334), (0, u "java/io/Serializable"), (0, u "serialVersionUID"), (0, u "J"), (3, u "DEFAULT_CAPACITY"), (40, u "get"), (118, .class_ 501), (0, u "java/util/ArrayList$SubList$2"), (0, .class_ 503), (0, u "java/util/ArrayList$SubList$1")] 5

def k12c0 : Code := { maxStack := 2, maxLocals := 1, code := jdk_38_method_2_code, exceptionTable := #[], attributes := #[] }
def k12m0 : Method := { name := "<init>", desc := "()V", sig := { parameters := [], returnType := none }, accessFlags := 1, code := some k12c0 }
def k12c1 : Code := { maxStack := 4, maxLocals := 4, code := jdk_38_method_6_code, exceptionTable := #[], attributes := #[] }
def k12m1 : Method := { name := "grow", desc := "(I)[Ljava/lang/Object;", sig := { parameters := [.int], returnType := some (.array (.object "java/lang/Object")) }, accessFlags := 2, code := some k12c1 }
def k12c2 : Code := { maxStack := 3, maxLocals := 1, code := jdk_38_method_7_code, exceptionTable := #[], attributes := #[] }
def k12m2 : Method := { name := "grow", desc := "()[Ljava/lang/Object;", sig := { parameters := [], returnType := some (.array (.object "java/lang/Object")) }, accessFlags := 2, code := some k12c2 }
def k12c3 : Code := { maxStack := 1, maxLocals := 1, code := jdk_38_method_8_code, exceptionTable := #[], attributes := #[] }
def k12m3 : Method := { name := "size", desc := "()I", sig := { parameters := [], returnType := some .int }, accessFlags := 1, code := some k12c3 }
def k12c4 : Code := { maxStack := 2, maxLocals := 2, code := jdk_38_method_18_code, exceptionTable := #[], attributes := #[] }
def k12m4 : Method := { name := "elementData", desc := "(I)Ljava/lang/Object;", sig := { parameters := [.int], returnType := some (.object "java/lang/Object") }, accessFlags := 0, code := some k12c4 }
def k12c5 : Code := { maxStack := 2, maxLocals := 2, code := jdk_38_method_20_code, exceptionTable := #[], attributes := #[] }
def k12m5 : Method := { name := "get", desc := "(I)Ljava/lang/Object;", sig := { parameters := [.int], returnType := some (.object "java/lang/Object") }, accessFlags := 1, code := some k12c5 }
def k12c6 : Code := { maxStack := 3, maxLocals := 4, code := jdk_38_method_24_code, exceptionTable := #[], attributes := #[] }
def k12m6 : Method := { name := "add", desc := "(Ljava/lang/Object;[Ljava/lang/Object;I)V", sig := { parameters := [(.object "java/lang/Object"), (.array (.object "java/lang/Object")), .int], returnType := none }, accessFlags := 2, code := some k12c6 }
def k12c7 : Code := { maxStack := 4, maxLocals := 2, code := jdk_38_method_25_code, exceptionTable := #[], attributes := #[] }
def k12m7 : Method := { name := "add", desc := "(Ljava/lang/Object;)Z", sig := { parameters := [(.object "java/lang/Object")], returnType := some .boolean }, accessFlags := 1, code := some k12c7 }
/-- java/util/ArrayList -/
def k12 : Class := { plain "java/util/ArrayList" (some 8) with
  accessFlags := 33
  interfaces := #[7, 9, 10, 11]
  cf := some (fileOf pool12 10 #[.nestMembers #[290, 276, 500, 502, 262, 267]] #[{ accessFlags := 1, nameIndex := 5, descriptorIndex := 6, attributes := #[] }, { accessFlags := 2, nameIndex := 71, descriptorIndex := 72, attributes := #[] }, { accessFlags := 2, nameIndex := 71, descriptorIndex := 47, attributes := #[] }, { accessFlags := 1, nameIndex := 50, descriptorIndex := 186, attributes := #[] }, { accessFlags := 0, nameIndex := 13, descriptorIndex := 125, attributes := #[] }, { accessFlags := 1, nameIndex := 381, descriptorIndex := 125, attributes := #[] }, { accessFlags := 2, nameIndex := 133, descriptorIndex := 134, attributes := #[] }, { accessFlags := 1, nameIndex := 133, descriptorIndex := 96, attributes := #[] }] 33 2 #[148, 329, 331, 333] #[{ accessFlags := 26, nameIndex := 335, descriptorIndex := 336, attributes := #[] }, { accessFlags := 26, nameIndex := 340, descriptorIndex := 51, attributes := #[] }, { accessFlags := 26, nameIndex := 17, descriptorIndex := 14, attributes := #[] }, { accessFlags := 26, nameIndex := 41, descriptorIndex := 14, attributes := #[] }, { accessFlags := 128, nameIndex := 13, descriptorIndex := 14, attributes := #[] }, { accessFlags := 2, nameIndex := 50, descriptorIndex := 51, attributes := #[] }])
  fields := #[{ name := "serialVersionUID", type := .long, accessFlags := 26, slot := 0, constantValue := 0 }, { name := "DEFAULT_CAPACITY", type := .int, accessFlags := 26, slot := 1, constantValue := 0 }, { name := "EMPTY_ELEMENTDATA", type := (.array (.object "java/lang/Object")), accessFlags := 26, slot := 2, constantValue := 0 }, { name := "DEFAULTCAPACITY_EMPTY_ELEMENTDATA", type := (.array (.object "java/lang/Object")), accessFlags := 26, slot := 3, constantValue := 0 }, { name := "elementData", type := (.array (.object "java/lang/Object")), accessFlags := 128, slot := 1, constantValue := 0 }, { name := "size", type := .int, accessFlags := 2, slot := 2, constantValue := 0 }]
  methods := #[k12m0, k12m1, k12m2, k12m3, k12m4, k12m5, k12m6, k12m7]
  instanceTypes := #[.int, (.array (.object "java/lang/Object")), .int]
  staticTypes := #[.long, .int, (.array (.object "java/lang/Object")), (.array (.object "java/lang/Object"))]
  resolved := Array.replicate 509 none
  statics := some 0 }

def pool13 : Array CpInfo := pool [(1, .methodref 2 3), (0, .class_ 4), (0, .nameAndType 5 6), (0, u "java/lang/Object"), (0, u "<init>"), (0, u "()V"), (0, .fieldref 8 9), (0, .class_ 10), (0, .nameAndType 11 12), (0, u "com/example/darlington/darlington/core/FiniteType"), (0, u "first"), (0, u "I"), (0, .fieldref 8 14), (0, .nameAndType 15 12), (0, u "size"), (0, .methodref 17 18), (0, .class_ 19), (0, .nameAndType 20 21), (0, u "java/util/Objects"), (0, u "checkIndex"), (0, u "(II)I"), (22, u "(I)I"), (4, u "(II)V"), (2, u "()I"), (0, u "valueAt")] 28

def k13c0 : Code := { maxStack := 2, maxLocals := 3, code := prog_45_method_1_code, exceptionTable := #[], attributes := #[] }
def k13m0 : Method := { name := "<init>", desc := "(II)V", sig := { parameters := [.int, .int], returnType := none }, accessFlags := 0, code := some k13c0 }
def k13c1 : Code := { maxStack := 1, maxLocals := 1, code := prog_45_method_2_code, exceptionTable := #[], attributes := #[] }
def k13m1 : Method := { name := "size", desc := "()I", sig := { parameters := [], returnType := some .int }, accessFlags := 17, code := some k13c1 }
def k13c2 : Code := { maxStack := 3, maxLocals := 2, code := prog_45_method_3_code, exceptionTable := #[], attributes := #[] }
def k13m2 : Method := { name := "valueAt", desc := "(I)I", sig := { parameters := [.int], returnType := some .int }, accessFlags := 17, code := some k13c2 }
/-- com/example/darlington/darlington/core/FiniteType -/
def k13 : Class := { plain "com/example/darlington/darlington/core/FiniteType" (some 0) with
  accessFlags := 1057
  interfaces := #[]
  cf := some (fileOf pool13 8 #[] #[{ accessFlags := 0, nameIndex := 5, descriptorIndex := 49, attributes := #[] }, { accessFlags := 17, nameIndex := 15, descriptorIndex := 52, attributes := #[] }, { accessFlags := 17, nameIndex := 53, descriptorIndex := 44, attributes := #[] }] 1057 2 #[] #[{ accessFlags := 18, nameIndex := 11, descriptorIndex := 12, attributes := #[] }, { accessFlags := 18, nameIndex := 15, descriptorIndex := 12, attributes := #[] }])
  fields := #[{ name := "first", type := .int, accessFlags := 18, slot := 0, constantValue := 0 }, { name := "size", type := .int, accessFlags := 18, slot := 1, constantValue := 0 }]
  methods := #[k13m0, k13m1, k13m2]
  instanceTypes := #[.int, .int]
  staticTypes := #[]
  resolved := Array.replicate 82 none
  statics := none }

def pool14 : Array CpInfo := pool [(1, .methodref 2 3), (0, .class_ 4), (0, .nameAndType 5 6), (0, u "com/example/darlington/darlington/core/IntegerRange"), (0, u "checkedSize"), (0, u "(II)I"), (0, .methodref 8 9), (0, .class_ 10), (0, .nameAndType 11 12), (0, u "com/example/darlington/darlington/core/FiniteType"), (0, u "<init>"), (0, u "(II)V"), (15, .long 2147483647)] 45

def k14c0 : Code := { maxStack := 4, maxLocals := 3, code := prog_55_method_1_code, exceptionTable := #[], attributes := #[] }
def k14m0 : Method := { name := "<init>", desc := "(II)V", sig := { parameters := [.int, .int], returnType := none }, accessFlags := 1, code := some k14c0 }
def k14c1 : Code := { maxStack := 4, maxLocals := 4, code := prog_55_method_2_code, exceptionTable := #[], attributes := #[] }
def k14m1 : Method := { name := "checkedSize", desc := "(II)I", sig := { parameters := [.int, .int], returnType := some .int }, accessFlags := 10, code := some k14c1 }
/-- com/example/darlington/darlington/core/IntegerRange -/
def k14 : Class := { plain "com/example/darlington/darlington/core/IntegerRange" (some 13) with
  accessFlags := 49
  interfaces := #[]
  cf := some (fileOf pool14 2 #[] #[{ accessFlags := 1, nameIndex := 11, descriptorIndex := 12, attributes := #[] }, { accessFlags := 10, nameIndex := 5, descriptorIndex := 6, attributes := #[] }] 49 8 #[] #[])
  fields := #[]
  methods := #[k14m0, k14m1]
  instanceTypes := #[.int, .int]
  staticTypes := #[]
  resolved := Array.replicate 74 none
  statics := none }

def pool15 : Array CpInfo := pool [(1, .methodref 2 3), (0, .class_ 4), (0, .nameAndType 5 6), (0, u "java/lang/Object"), (0, u "<init>"), (0, u "()V"), (0, .interfaceMethodref 8 9), (0, .class_ 10), (0, .nameAndType 11 12), (0, u "java/util/List"), (0, u "size"), (0, u "()I"), (0, .fieldref 14 15), (0, .class_ 16), (0, .nameAndType 17 18), (0, u "com/example/darlington/darlington/core/StateLayout"), (0, u "wordOf"), (0, u "[I"), (0, .fieldref 14 20), (0, .nameAndType 21 18), (0, u "shiftOf"), (0, .fieldref 14 23), (0, .nameAndType 24 25), (0, u "maskOf"), (0, u "[J"), (0, .fieldref 14 27), (0, .nameAndType 28 18), (0, u "firstOf"), (0, .interfaceMethodref 8 30), (0, .nameAndType 31 32), (0, u "get"), (0, u "(I)Ljava/lang/Object;"), (0, .class_ 34), (0, u "com/example/darlington/darlington/core/FiniteType"), (0, .class_ 36), (0, u "java/lang/Integer"), (0, .methodref 33 9), (0, .methodref 35 39), (0, .nameAndType 40 41), (0, u "numberOfLeadingZeros"), (0, u "(I)I"), (2, .methodref 33 45), (0, .nameAndType 46 41), (0, u "valueAt"), (0, .fieldref 14 48), (0, .nameAndType 49 50), (0, u "wordsPerState"), (0, u "I"), (35, u "(Ljava/util/List;)V"), (6, .long 18446744073709551615), (22, u "set"), (0, u "([JII)V"), (0, u "unpack"), (0, u "([JI[I)V")] 6

def k15c0 : Code := { maxStack := 6, maxLocals := 8, code := prog_74_method_1_code, exceptionTable := #[], attributes := #[] }
def k15m0 : Method := { name := "<init>", desc := "(Ljava/util/List;)V", sig := { parameters := [(.object "java/util/List")], returnType := none }, accessFlags := 0, code := some k15c0 }
def k15c1 : Code := { maxStack := 8, maxLocals := 7, code := prog_74_method_5_code, exceptionTable := #[], attributes := #[] }
def k15m1 : Method := { name := "set", desc := "([JII)V", sig := { parameters := [(.array .long), .int, .int], returnType := none }, accessFlags := 0, code := some k15c1 }
def k15c2 : Code := { maxStack := 5, maxLocals := 7, code := prog_74_method_6_code, exceptionTable := #[], attributes := #[] }
def k15m2 : Method := { name := "unpack", desc := "([JI[I)V", sig := { parameters := [(.array .long), .int, (.array .int)], returnType := none }, accessFlags := 0, code := some k15c2 }
/-- com/example/darlington/darlington/core/StateLayout -/
def k15 : Class := { plain "com/example/darlington/darlington/core/StateLayout" (some 0) with
  accessFlags := 48
  interfaces := #[]
  cf := some (fileOf pool15 14 #[] #[{ accessFlags := 0, nameIndex := 5, descriptorIndex := 86, attributes := #[] }, { accessFlags := 0, nameIndex := 116, descriptorIndex := 117, attributes := #[] }, { accessFlags := 0, nameIndex := 118, descriptorIndex := 119, attributes := #[] }] 48 2 #[] #[{ accessFlags := 18, nameIndex := 17, descriptorIndex := 18, attributes := #[] }, { accessFlags := 18, nameIndex := 21, descriptorIndex := 18, attributes := #[] }, { accessFlags := 18, nameIndex := 24, descriptorIndex := 25, attributes := #[] }, { accessFlags := 18, nameIndex := 28, descriptorIndex := 18, attributes := #[] }, { accessFlags := 18, nameIndex := 49, descriptorIndex := 50, attributes := #[] }])
  fields := #[{ name := "wordOf", type := (.array .int), accessFlags := 18, slot := 0, constantValue := 0 }, { name := "shiftOf", type := (.array .int), accessFlags := 18, slot := 1, constantValue := 0 }, { name := "maskOf", type := (.array .long), accessFlags := 18, slot := 2, constantValue := 0 }, { name := "firstOf", type := (.array .int), accessFlags := 18, slot := 3, constantValue := 0 }, { name := "wordsPerState", type := .int, accessFlags := 18, slot := 4, constantValue := 0 }]
  methods := #[k15m0, k15m1, k15m2]
  instanceTypes := #[(.array .int), (.array .int), (.array .long), (.array .int), .int]
  staticTypes := #[]
  resolved := Array.replicate 126 none
  statics := none }

def pool16 : Array CpInfo := pool [(2, .class_ 4), (1, u "java/lang/Object"), (0, u "<init>"), (0, u "()V"), (35, .class_ 44), (1, u "java/util/Objects"), (60, .methodref 106 107), (0, .class_ 108), (0, .nameAndType 109 110), (0, u "jdk/internal/util/Preconditions"), (0, u "checkIndex"), (0, u "(IILjava/util/function/BiFunction;)I"), (60, u "(II)I")] 12

def k16m0 : Method := { name := "<init>", desc := "()V", sig := { parameters := [], returnType := none }, accessFlags := 2, code := none }
def k16c1 : Code := { maxStack := 3, maxLocals := 2, code := jdk_31_method_17_code, exceptionTable := #[], attributes := #[] }
def k16m1 : Method := { name := "checkIndex", desc := "(II)I", sig := { parameters := [.int, .int], returnType := some .int }, accessFlags := 9, code := some k16c1 }
/-- java/util/Objects -/
def k16 : Class := { plain "java/util/Objects" (some 0) with
  accessFlags := 49
  interfaces := #[]
  cf := some (fileOf pool16 42 #[] #[{ accessFlags := 2, nameIndex := 5, descriptorIndex := 6, attributes := #[] }, { accessFlags := 9, nameIndex := 109, descriptorIndex := 171, attributes := #[] }] 49 2 #[] #[])
  fields := #[]
  methods := #[k16m0, k16m1]
  instanceTypes := #[]
  staticTypes := #[]
  resolved := Array.replicate 184 none
  statics := none }

def pool17 : Array CpInfo := pool [(2, .class_ 4), (1, u "java/lang/Object"), (0, u "<init>"), (0, u "()V"), (17, .class_ 26), (1, u "jdk/internal/util/Preconditions"), (6, u "checkIndex"), (21, .class_ 56), (0, u "jdk/internal/util/Preconditions$4"), (57, .class_ 115), (0, u "jdk/internal/util/Preconditions$1"), (7, u "SIOOBE_FORMATTER"), (0, u "Ljava/util/function/BiFunction;"), (0, .class_ 126), (0, u "jdk/internal/util/Preconditions$2"), (3, u "AIOOBE_FORMATTER"), (0, .class_ 132), (0, u "jdk/internal/util/Preconditions$3"), (3, u "IOOBE_FORMATTER"), (41, u "(IILjava/util/function/BiFunction;)I")] 15

def k17m0 : Method := { name := "<init>", desc := "()V", sig := { parameters := [], returnType := none }, accessFlags := 1, code := none }
def k17c1 : Code := { maxStack := 3, maxLocals := 3, code := jdk_41_method_11_code, exceptionTable := #[], attributes := #[] }
def k17m1 : Method := { name := "checkIndex", desc := "(IILjava/util/function/BiFunction;)I", sig := { parameters := [.int, .int, (.object "java/util/function/BiFunction")], returnType := some .int }, accessFlags := 9, code := some k17c1 }
/-- jdk/internal/util/Preconditions -/
def k17 : Class := { plain "jdk/internal/util/Preconditions" (some 0) with
  accessFlags := 33
  interfaces := #[]
  cf := some (fileOf pool17 24 #[.nestMembers #[55, 131, 125, 114]] #[{ accessFlags := 1, nameIndex := 5, descriptorIndex := 6, attributes := #[] }, { accessFlags := 9, nameIndex := 33, descriptorIndex := 178, attributes := #[] }] 33 2 #[] #[{ accessFlags := 25, nameIndex := 123, descriptorIndex := 124, attributes := #[] }, { accessFlags := 25, nameIndex := 130, descriptorIndex := 124, attributes := #[] }, { accessFlags := 25, nameIndex := 136, descriptorIndex := 124, attributes := #[] }])
  fields := #[{ name := "SIOOBE_FORMATTER", type := (.object "java/util/function/BiFunction"), accessFlags := 25, slot := 0, constantValue := 0 }, { name := "AIOOBE_FORMATTER", type := (.object "java/util/function/BiFunction"), accessFlags := 25, slot := 1, constantValue := 0 }, { name := "IOOBE_FORMATTER", type := (.object "java/util/function/BiFunction"), accessFlags := 25, slot := 2, constantValue := 0 }]
  methods := #[k17m0, k17m1]
  instanceTypes := #[]
  staticTypes := #[(.object "java/util/function/BiFunction"), (.object "java/util/function/BiFunction"), (.object "java/util/function/BiFunction")]
  resolved := Array.replicate 194 none
  statics := none }

def pool18 : Array CpInfo := pool [(2, .class_ 4), (1, u "java/lang/Object"), (0, u "<init>"), (0, u "()V"), (1, .class_ 10), (1, u "java/lang/Number"), (2, .class_ 14), (0, u "java/io/Serializable"), (0, u "serialVersionUID"), (0, u "J")] 20

def k18m0 : Method := { name := "<init>", desc := "()V", sig := { parameters := [], returnType := none }, accessFlags := 1, code := none }
/-- java/lang/Number -/
def k18 : Class := { plain "java/lang/Number" (some 0) with
  accessFlags := 1057
  interfaces := #[11]
  cf := some (fileOf pool18 8 #[] #[{ accessFlags := 1, nameIndex := 5, descriptorIndex := 6, attributes := #[] }] 1057 2 #[13] #[{ accessFlags := 26, nameIndex := 15, descriptorIndex := 16, attributes := #[] }])
  fields := #[{ name := "serialVersionUID", type := .long, accessFlags := 26, slot := 0, constantValue := 0 }]
  methods := #[k18m0]
  instanceTypes := #[]
  staticTypes := #[.long]
  resolved := Array.replicate 37 none
  statics := none }

def pool19 : Array CpInfo := pool [(1, .class_ 2), (0, u "java/lang/Comparable"), (0, .class_ 4), (0, u "java/lang/Object")] 7

/-- java/lang/Comparable -/
def k19 : Class := { plain "java/lang/Comparable" (some 0) with
  accessFlags := 1537
  interfaces := #[]
  cf := some (fileOf pool19 1 #[] #[] 1537 3 #[] #[])
  fields := #[]
  methods := #[]
  instanceTypes := #[]
  staticTypes := #[]
  resolved := Array.replicate 12 none
  statics := none }

def pool20 : Array CpInfo := pool [(1, .class_ 2), (0, u "java/lang/constant/Constable"), (0, .class_ 4), (0, u "java/lang/Object")] 6

/-- java/lang/constant/Constable -/
def k20 : Class := { plain "java/lang/constant/Constable" (some 0) with
  accessFlags := 1537
  interfaces := #[]
  cf := some (fileOf pool20 1 #[] #[] 1537 3 #[] #[])
  fields := #[]
  methods := #[]
  instanceTypes := #[]
  staticTypes := #[]
  resolved := Array.replicate 11 none
  statics := none }

def pool21 : Array CpInfo := pool [(1, .class_ 2), (0, u "java/lang/constant/ConstantDesc"), (0, .class_ 4), (0, u "java/lang/Object")] 32

/-- java/lang/constant/ConstantDesc -/
def k21 : Class := { plain "java/lang/constant/ConstantDesc" (some 0) with
  accessFlags := 1537
  interfaces := #[]
  cf := some (fileOf pool21 1 #[] #[] 1537 3 #[] #[])
  fields := #[]
  methods := #[]
  instanceTypes := #[]
  staticTypes := #[]
  resolved := Array.replicate 37 none
  statics := none }

def pool22 : Array CpInfo := pool [(1, .class_ 2), (0, u "java/lang/Integer"), (16, u "digits"), (0, u "[C"), (32, u "numberOfLeadingZeros"), (0, u "(I)I"), (30, u "DigitOnes"), (0, u "[B"), (2, u "DigitTens"), (99, .class_ 190), (0, u "java/lang/Integer$IntegerCache"), (3, u "I"), (8, .class_ 204), (0, u "java/lang/Number"), (2, u "value"), (56, .integer 65536), (37, u "TYPE"), (0, u "Ljava/lang/Class;"), (0, .class_ 305), (0, u "java/lang/Comparable"), (0, .class_ 307), (0, u "java/lang/constant/Constable"), (0, .class_ 309), (0, u "java/lang/constant/ConstantDesc"), (0, u "MIN_VALUE"), (1, u "MAX_VALUE"), (3, u "SIZE"), (1, u "BYTES"), (1, u "serialVersionUID"), (0, u "J")] 131

def k22c0 : Code := { maxStack := 3, maxLocals := 2, code := jdk_33_method_47_code, exceptionTable := #[], attributes := #[] }
def k22m0 : Method := { name := "numberOfLeadingZeros", desc := "(I)I", sig := { parameters := [.int], returnType := some .int }, accessFlags := 9, code := some k22c0 }
/-- java/lang/Integer -/
def k22 : Class := { plain "java/lang/Integer" (some 18) with
  accessFlags := 49
  interfaces := #[19, 20, 21]
  cf := some (fileOf pool22 1 #[.nestMembers #[189]] #[{ accessFlags := 9, nameIndex := 53, descriptorIndex := 54, attributes := #[] }] 49 203 #[304, 306, 308] #[{ accessFlags := 25, nameIndex := 310, descriptorIndex := 194, attributes := #[] }, { accessFlags := 25, nameIndex := 312, descriptorIndex := 194, attributes := #[] }, { accessFlags := 25, nameIndex := 302, descriptorIndex := 303, attributes := #[] }, { accessFlags := 24, nameIndex := 19, descriptorIndex := 20, attributes := #[] }, { accessFlags := 24, nameIndex := 89, descriptorIndex := 86, attributes := #[] }, { accessFlags := 24, nameIndex := 85, descriptorIndex := 86, attributes := #[] }, { accessFlags := 18, nameIndex := 207, descriptorIndex := 194, attributes := #[] }, { accessFlags := 25, nameIndex := 316, descriptorIndex := 194, attributes := #[] }, { accessFlags := 25, nameIndex := 318, descriptorIndex := 194, attributes := #[] }, { accessFlags := 26, nameIndex := 320, descriptorIndex := 321, attributes := #[] }])
  fields := #[{ name := "MIN_VALUE", type := .int, accessFlags := 25, slot := 0, constantValue := 0 }, { name := "MAX_VALUE", type := .int, accessFlags := 25, slot := 1, constantValue := 0 }, { name := "TYPE", type := (.object "java/lang/Class"), accessFlags := 25, slot := 2, constantValue := 0 }, { name := "digits", type := (.array .char), accessFlags := 24, slot := 3, constantValue := 0 }, { name := "DigitTens", type := (.array .byte), accessFlags := 24, slot := 4, constantValue := 0 }, { name := "DigitOnes", type := (.array .byte), accessFlags := 24, slot := 5, constantValue := 0 }, { name := "value", type := .int, accessFlags := 18, slot := 0, constantValue := 0 }, { name := "SIZE", type := .int, accessFlags := 25, slot := 6, constantValue := 0 }, { name := "BYTES", type := .int, accessFlags := 25, slot := 7, constantValue := 0 }, { name := "serialVersionUID", type := .long, accessFlags := 26, slot := 8, constantValue := 0 }]
  methods := #[k22m0]
  instanceTypes := #[.int]
  staticTypes := #[.int, .int, (.object "java/lang/Class"), (.array .char), (.array .byte), (.array .byte), .int, .int, .long]
  resolved := Array.replicate 453 none
  statics := none }

/-- the primitive byte -/
def k23 : Class := { plain "byte" none with kind := .primitive 'B', accessFlags := 0x411 }
/-- [B -/
def k24 : Class := { plain "[B" (some 0) with kind := .array 23 .byte, interfaces := #[10, 11], accessFlags := 1041 }

/-- the primitive int -/
def k25 : Class := { plain "int" none with kind := .primitive 'I', accessFlags := 0x411 }
/-- [I -/
def k26 : Class := { plain "[I" (some 0) with kind := .array 25 .int, interfaces := #[10, 11], accessFlags := 1041 }

/-- the primitive long -/
def k27 : Class := { plain "long" none with kind := .primitive 'J', accessFlags := 0x411 }
/-- [J -/
def k28 : Class := { plain "[J" (some 0) with kind := .array 27 .long, interfaces := #[10, 11], accessFlags := 1041 }

/-- [Ljava/lang/Object; -/
def k29 : Class := { plain "[Ljava/lang/Object;" (some 0) with kind := .array 0 (.object "java/lang/Object"), interfaces := #[10, 11], accessFlags := 1041 }

def heap : Heap := #[{ cls := 12, slots := #[.long 0, .int 0, .ref 1, .ref 2], vm := .statics 12 },
  { cls := 29, slots := #[], vm := .none },
  { cls := 29, slots := #[], vm := .none }]
def classes : Array Class := #[k0, k1, k2, k3, k4, k5, k6, k7, k8, k9, k10, k11, k12, k13, k14, k15, k16, k17, k18, k19, k20, k21, k22, k23, k24, k25, k26, k27, k28, k29]
def interned : List (Array UInt16 × Addr) := []
def slotsUsed : Nat := 4
def theMethod : MethodId := ⟨1, 1⟩
def args0 : Array Value := #[.int 5, .int 6, .int 7, .long 8, .long 9, .int 1]
def aboutOver (below : List Frame) : State where
  vm := { classes := classes, interned := interned.toArray }
  heap := heap
  slotsUsed := slotsUsed
  threads := #[{ frames := .invoking theMethod args0 :: below }]
def below0 : List Frame := [.native { method := ⟨0, 0⟩, args := #[] }]
def about1 : State := aboutOver below0
def p0 : Program := .bare "" "" ""
def e0 : Env := launch0.env 0 0 0
theorem w_frames : about1.frames = Frame.invoking theMethod args0 :: below0 := rfl
set_option maxRecDepth 65536 in
theorem w_args : argsFit about1.vm theMethod args0 = true := by decide +kernel
set_option maxRecDepth 65536 in
theorem w_heap : heapFits about1 = true := by decide +kernel
set_option maxRecDepth 65536 in
theorem w_runnable : about1.curStatus? = some .runnable := by decide +kernel
set_option maxRecDepth 65536 in
theorem w_alone : about1.alone = true := by decide +kernel
set_option maxRecDepth 65536 in
theorem w_named : about1.methodNamed? x = some theMethod := by decide +kernel
set_option maxRecDepth 65536 in
theorem w_hears : about1.hears theMethod below0 = true := by decide +kernel
set_option maxRecDepth 65536 in
theorem w_ripe : about1.ripe theMethod args0 below0 = true := by decide +kernel
theorem w_running : about1.status = .running := rfl
set_option maxRecDepth 65536 in
theorem w_room : about1.hasRoom e0.platform room_1 = true :=
  launch0.hasRoom_least _ room_1 (by decide +kernel) (by decide +kernel) (by decide +kernel) (by decide +kernel) (by decide +kernel) (by decide +kernel)
theorem allAtoms_all (ts : List Jvm.Cond) (a : Array Jvm.Value) (st : Jvm.State) : (allAtoms ts).before a st = ts.all (fun c => c.before a st) := by
  induction ts with
  | nil => rfl
  | cons c t ih =>
    show (Jvm.Cond.and c (allAtoms t)).before a st = _
    rw [Jvm.Cond.before_and, ih, List.all_cons]
def words1 : List Jvm.Cond := Jvm.Cond.code x code maxLocals ret :: tables_1
/-- a 'code' word, met by the world's own term for the bytes: nothing is compared byte by byte -/
theorem code_word {y : MethodName} {bytes : ByteArray} {mx : Nat} {rt : Option FieldType} {a : Array Value} {s : State} {m : MethodId} {meth : Method} {c : Code} (h1 : s.methodNamed? y = some m) (h2 : s.vm.method? m = some meth) (h3 : meth.code = some c) (h4 : c.code = bytes)
    (h5 : (c.maxLocals == mx && c.exceptionTable.isEmpty && decide (c.maxStack ≤ mostOperands) && decide (meth.sig.returnType = rt) && !meth.locks && decide (parseMethodDescriptor y.desc = some meth.sig)) = true) : (Jvm.Cond.code y bytes mx rt).before a s = true := by
  simp only [Bool.and_eq_true, beq_iff_eq, Bool.not_eq_true', decide_eq_true_eq] at h5
  obtain ⟨⟨⟨⟨⟨g1, g2⟩, g3⟩, g4⟩, g5⟩, g6⟩ := h5
  simp [Cond.before, Cond.holds, Cond.value, h1, h2, h3, h4, g1, g2, g3, g4, g5, g6]
def isCode : Jvm.Cond → Bool
  | .code _ _ _ _ => true
  | _ => false
theorem all_split {L : List Jvm.Cond} {P : Jvm.Cond → Bool} (h1 : L.all (fun c => isCode c || P c) = true) (h2 : ∀ c ∈ L.filter isCode, P c = true) : L.all P = true := by
  refine List.all_eq_true.mpr fun c hc => ?_
  have h := List.all_eq_true.mp h1 c hc
  rcases Bool.eq_false_or_eq_true (isCode c) with hi | hi
  · exact h2 c (List.mem_filter.mpr ⟨hc, hi⟩)
  · simpa [hi] using h
set_option maxRecDepth 65536 in
theorem w_c0 : (Jvm.Cond.code x code maxLocals ret).before args0 about1 = true := code_word (m := ⟨1, 1⟩) (meth := k1m1) (c := k1c1) (by decide +kernel) rfl rfl rfl (by decide +kernel)
set_option maxRecDepth 65536 in
theorem w_c1 : (Jvm.Cond.code ({ cls := "java/lang/Math", name := "max", desc := "(II)I" } : Jvm.MethodName) jdk_29_method_65_code (2 : Nat) (Option.some Jvm.ClassFile.FieldType.int)).before args0 about1 = true := code_word (m := ⟨2, 1⟩) (meth := k2m1) (c := k2c1) (by decide +kernel) rfl rfl rfl (by decide +kernel)
set_option maxRecDepth 65536 in
theorem w_c2 : (Jvm.Cond.code ({ cls := "java/lang/Math", name := "min", desc := "(II)I" } : Jvm.MethodName) jdk_29_method_69_code (2 : Nat) (Option.some Jvm.ClassFile.FieldType.int)).before args0 about1 = true := code_word (m := ⟨2, 2⟩) (meth := k2m2) (c := k2c2) (by decide +kernel) rfl rfl rfl (by decide +kernel)
set_option maxRecDepth 65536 in
theorem w_c3 : (Jvm.Cond.code ({ cls := "java/util/ArrayList", name := "<init>", desc := "()V" } : Jvm.MethodName) jdk_38_method_2_code (1 : Nat) (Option.none : Option Jvm.ClassFile.FieldType)).before args0 about1 = true := code_word (m := ⟨12, 0⟩) (meth := k12m0) (c := k12c0) (by decide +kernel) rfl rfl rfl (by decide +kernel)
set_option maxRecDepth 65536 in
theorem w_c4 : (Jvm.Cond.code ({ cls := "java/util/AbstractList", name := "<init>", desc := "()V" } : Jvm.MethodName) jdk_39_method_1_code (1 : Nat) (Option.none : Option Jvm.ClassFile.FieldType)).before args0 about1 = true := code_word (m := ⟨8, 0⟩) (meth := k8m0) (c := k8c0) (by decide +kernel) rfl rfl rfl (by decide +kernel)
set_option maxRecDepth 65536 in
theorem w_c5 : (Jvm.Cond.code ({ cls := "java/util/AbstractCollection", name := "<init>", desc := "()V" } : Jvm.MethodName) jdk_22_method_1_code (1 : Nat) (Option.none : Option Jvm.ClassFile.FieldType)).before args0 about1 = true := code_word (m := ⟨5, 0⟩) (meth := k5m0) (c := k5c0) (by decide +kernel) rfl rfl rfl (by decide +kernel)
set_option maxRecDepth 65536 in
theorem w_c6 : (Jvm.Cond.code ({ cls := "java/lang/Object", name := "<init>", desc := "()V" } : Jvm.MethodName) object_method_1_code (1 : Nat) (Option.none : Option Jvm.ClassFile.FieldType)).before args0 about1 = true := code_word (m := ⟨0, 0⟩) (meth := k0m0) (c := k0c0) (by decide +kernel) rfl rfl rfl (by decide +kernel)
set_option maxRecDepth 65536 in
theorem w_c7 : (Jvm.Cond.code ({ cls := "com/example/darlington/darlington/core/IntegerRange", name := "<init>", desc := "(II)V" } : Jvm.MethodName) prog_55_method_1_code (3 : Nat) (Option.none : Option Jvm.ClassFile.FieldType)).before args0 about1 = true := code_word (m := ⟨14, 0⟩) (meth := k14m0) (c := k14c0) (by decide +kernel) rfl rfl rfl (by decide +kernel)
set_option maxRecDepth 65536 in
theorem w_c8 : (Jvm.Cond.code ({ cls := "com/example/darlington/darlington/core/IntegerRange", name := "checkedSize", desc := "(II)I" } : Jvm.MethodName) prog_55_method_2_code (4 : Nat) (Option.some Jvm.ClassFile.FieldType.int)).before args0 about1 = true := code_word (m := ⟨14, 1⟩) (meth := k14m1) (c := k14c1) (by decide +kernel) rfl rfl rfl (by decide +kernel)
set_option maxRecDepth 65536 in
theorem w_c9 : (Jvm.Cond.code ({ cls := "com/example/darlington/darlington/core/FiniteType", name := "<init>", desc := "(II)V" } : Jvm.MethodName) prog_45_method_1_code (3 : Nat) (Option.none : Option Jvm.ClassFile.FieldType)).before args0 about1 = true := code_word (m := ⟨13, 0⟩) (meth := k13m0) (c := k13c0) (by decide +kernel) rfl rfl rfl (by decide +kernel)
set_option maxRecDepth 65536 in
theorem w_c10 : (Jvm.Cond.code ({ cls := "java/util/ArrayList", name := "add", desc := "(Ljava/lang/Object;)Z" } : Jvm.MethodName) jdk_38_method_25_code (2 : Nat) (Option.some Jvm.ClassFile.FieldType.boolean)).before args0 about1 = true := code_word (m := ⟨12, 7⟩) (meth := k12m7) (c := k12c7) (by decide +kernel) rfl rfl rfl (by decide +kernel)
set_option maxRecDepth 65536 in
theorem w_c11 : (Jvm.Cond.code ({ cls := "java/util/ArrayList", name := "add", desc := "(Ljava/lang/Object;[Ljava/lang/Object;I)V" } : Jvm.MethodName) jdk_38_method_24_code (4 : Nat) (Option.none : Option Jvm.ClassFile.FieldType)).before args0 about1 = true := code_word (m := ⟨12, 6⟩) (meth := k12m6) (c := k12c6) (by decide +kernel) rfl rfl rfl (by decide +kernel)
set_option maxRecDepth 65536 in
theorem w_c12 : (Jvm.Cond.code ({ cls := "java/util/ArrayList", name := "grow", desc := "()[Ljava/lang/Object;" } : Jvm.MethodName) jdk_38_method_7_code (1 : Nat) (Option.some (Jvm.ClassFile.FieldType.array (Jvm.ClassFile.FieldType.object "java/lang/Object")))).before args0 about1 = true := code_word (m := ⟨12, 2⟩) (meth := k12m2) (c := k12c2) (by decide +kernel) rfl rfl rfl (by decide +kernel)
set_option maxRecDepth 65536 in
theorem w_c13 : (Jvm.Cond.code ({ cls := "java/util/ArrayList", name := "grow", desc := "(I)[Ljava/lang/Object;" } : Jvm.MethodName) jdk_38_method_6_code (4 : Nat) (Option.some (Jvm.ClassFile.FieldType.array (Jvm.ClassFile.FieldType.object "java/lang/Object")))).before args0 about1 = true := code_word (m := ⟨12, 1⟩) (meth := k12m1) (c := k12c1) (by decide +kernel) rfl rfl rfl (by decide +kernel)
set_option maxRecDepth 65536 in
theorem w_c14 : (Jvm.Cond.code ({ cls := "com/example/darlington/darlington/core/StateLayout", name := "<init>", desc := "(Ljava/util/List;)V" } : Jvm.MethodName) prog_74_method_1_code (8 : Nat) (Option.none : Option Jvm.ClassFile.FieldType)).before args0 about1 = true := code_word (m := ⟨15, 0⟩) (meth := k15m0) (c := k15c0) (by decide +kernel) rfl rfl rfl (by decide +kernel)
set_option maxRecDepth 65536 in
theorem w_c15 : (Jvm.Cond.code ({ cls := "java/util/ArrayList", name := "size", desc := "()I" } : Jvm.MethodName) jdk_38_method_8_code (1 : Nat) (Option.some Jvm.ClassFile.FieldType.int)).before args0 about1 = true := code_word (m := ⟨12, 3⟩) (meth := k12m3) (c := k12c3) (by decide +kernel) rfl rfl rfl (by decide +kernel)
set_option maxRecDepth 65536 in
theorem w_c16 : (Jvm.Cond.code ({ cls := "java/util/ArrayList", name := "get", desc := "(I)Ljava/lang/Object;" } : Jvm.MethodName) jdk_38_method_20_code (2 : Nat) (Option.some (Jvm.ClassFile.FieldType.object "java/lang/Object"))).before args0 about1 = true := code_word (m := ⟨12, 5⟩) (meth := k12m5) (c := k12c5) (by decide +kernel) rfl rfl rfl (by decide +kernel)
set_option maxRecDepth 65536 in
theorem w_c17 : (Jvm.Cond.code ({ cls := "java/util/Objects", name := "checkIndex", desc := "(II)I" } : Jvm.MethodName) jdk_31_method_17_code (2 : Nat) (Option.some Jvm.ClassFile.FieldType.int)).before args0 about1 = true := code_word (m := ⟨16, 1⟩) (meth := k16m1) (c := k16c1) (by decide +kernel) rfl rfl rfl (by decide +kernel)
set_option maxRecDepth 65536 in
theorem w_c18 : (Jvm.Cond.code ({ cls := "jdk/internal/util/Preconditions", name := "checkIndex", desc := "(IILjava/util/function/BiFunction;)I" } : Jvm.MethodName) jdk_41_method_11_code (3 : Nat) (Option.some Jvm.ClassFile.FieldType.int)).before args0 about1 = true := code_word (m := ⟨17, 1⟩) (meth := k17m1) (c := k17c1) (by decide +kernel) rfl rfl rfl (by decide +kernel)
set_option maxRecDepth 65536 in
theorem w_c19 : (Jvm.Cond.code ({ cls := "java/util/ArrayList", name := "elementData", desc := "(I)Ljava/lang/Object;" } : Jvm.MethodName) jdk_38_method_18_code (2 : Nat) (Option.some (Jvm.ClassFile.FieldType.object "java/lang/Object"))).before args0 about1 = true := code_word (m := ⟨12, 4⟩) (meth := k12m4) (c := k12c4) (by decide +kernel) rfl rfl rfl (by decide +kernel)
set_option maxRecDepth 65536 in
theorem w_c20 : (Jvm.Cond.code ({ cls := "com/example/darlington/darlington/core/FiniteType", name := "size", desc := "()I" } : Jvm.MethodName) prog_45_method_2_code (1 : Nat) (Option.some Jvm.ClassFile.FieldType.int)).before args0 about1 = true := code_word (m := ⟨13, 1⟩) (meth := k13m1) (c := k13c1) (by decide +kernel) rfl rfl rfl (by decide +kernel)
set_option maxRecDepth 65536 in
theorem w_c21 : (Jvm.Cond.code ({ cls := "java/lang/Integer", name := "numberOfLeadingZeros", desc := "(I)I" } : Jvm.MethodName) jdk_33_method_47_code (2 : Nat) (Option.some Jvm.ClassFile.FieldType.int)).before args0 about1 = true := code_word (m := ⟨22, 0⟩) (meth := k22m0) (c := k22c0) (by decide +kernel) rfl rfl rfl (by decide +kernel)
set_option maxRecDepth 65536 in
theorem w_c22 : (Jvm.Cond.code ({ cls := "com/example/darlington/darlington/core/FiniteType", name := "valueAt", desc := "(I)I" } : Jvm.MethodName) prog_45_method_3_code (2 : Nat) (Option.some Jvm.ClassFile.FieldType.int)).before args0 about1 = true := code_word (m := ⟨13, 2⟩) (meth := k13m2) (c := k13c2) (by decide +kernel) rfl rfl rfl (by decide +kernel)
set_option maxRecDepth 65536 in
theorem w_c23 : (Jvm.Cond.code ({ cls := "com/example/darlington/darlington/core/StateLayout", name := "unpack", desc := "([JI[I)V" } : Jvm.MethodName) prog_74_method_6_code (7 : Nat) (Option.none : Option Jvm.ClassFile.FieldType)).before args0 about1 = true := code_word (m := ⟨15, 2⟩) (meth := k15m2) (c := k15c2) (by decide +kernel) rfl rfl rfl (by decide +kernel)
set_option maxRecDepth 65536 in
theorem w_c24 : (Jvm.Cond.code ({ cls := "com/example/darlington/darlington/core/StateLayout", name := "set", desc := "([JII)V" } : Jvm.MethodName) prog_74_method_5_code (7 : Nat) (Option.none : Option Jvm.ClassFile.FieldType)).before args0 about1 = true := code_word (m := ⟨15, 1⟩) (meth := k15m1) (c := k15c1) (by decide +kernel) rfl rfl rfl (by decide +kernel)
def codes1 : List Jvm.Cond := [Jvm.Cond.code x code maxLocals ret, Jvm.Cond.code ({ cls := "java/lang/Math", name := "max", desc := "(II)I" } : Jvm.MethodName) jdk_29_method_65_code (2 : Nat) (Option.some Jvm.ClassFile.FieldType.int), Jvm.Cond.code ({ cls := "java/lang/Math", name := "min", desc := "(II)I" } : Jvm.MethodName) jdk_29_method_69_code (2 : Nat) (Option.some Jvm.ClassFile.FieldType.int), Jvm.Cond.code ({ cls := "java/util/ArrayList", name := "<init>", desc := "()V" } : Jvm.MethodName) jdk_38_method_2_code (1 : Nat) (Option.none : Option Jvm.ClassFile.FieldType), Jvm.Cond.code ({ cls := "java/util/AbstractList", name := "<init>", desc := "()V" } : Jvm.MethodName) jdk_39_method_1_code (1 : Nat) (Option.none : Option Jvm.ClassFile.FieldType), Jvm.Cond.code ({ cls := "java/util/AbstractCollection", name := "<init>", desc := "()V" } : Jvm.MethodName) jdk_22_method_1_code (1 : Nat) (Option.none : Option Jvm.ClassFile.FieldType), Jvm.Cond.code ({ cls := "java/lang/Object", name := "<init>", desc := "()V" } : Jvm.MethodName) object_method_1_code (1 : Nat) (Option.none : Option Jvm.ClassFile.FieldType), Jvm.Cond.code ({ cls := "com/example/darlington/darlington/core/IntegerRange", name := "<init>", desc := "(II)V" } : Jvm.MethodName) prog_55_method_1_code (3 : Nat) (Option.none : Option Jvm.ClassFile.FieldType), Jvm.Cond.code ({ cls := "com/example/darlington/darlington/core/IntegerRange", name := "checkedSize", desc := "(II)I" } : Jvm.MethodName) prog_55_method_2_code (4 : Nat) (Option.some Jvm.ClassFile.FieldType.int), Jvm.Cond.code ({ cls := "com/example/darlington/darlington/core/FiniteType", name := "<init>", desc := "(II)V" } : Jvm.MethodName) prog_45_method_1_code (3 : Nat) (Option.none : Option Jvm.ClassFile.FieldType), Jvm.Cond.code ({ cls := "java/util/ArrayList", name := "add", desc := "(Ljava/lang/Object;)Z" } : Jvm.MethodName) jdk_38_method_25_code (2 : Nat) (Option.some Jvm.ClassFile.FieldType.boolean), Jvm.Cond.code ({ cls := "java/util/ArrayList", name := "add", desc := "(Ljava/lang/Object;[Ljava/lang/Object;I)V" } : Jvm.MethodName) jdk_38_method_24_code (4 : Nat) (Option.none : Option Jvm.ClassFile.FieldType), Jvm.Cond.code ({ cls := "java/util/ArrayList", name := "grow", desc := "()[Ljava/lang/Object;" } : Jvm.MethodName) jdk_38_method_7_code (1 : Nat) (Option.some (Jvm.ClassFile.FieldType.array (Jvm.ClassFile.FieldType.object "java/lang/Object"))), Jvm.Cond.code ({ cls := "java/util/ArrayList", name := "grow", desc := "(I)[Ljava/lang/Object;" } : Jvm.MethodName) jdk_38_method_6_code (4 : Nat) (Option.some (Jvm.ClassFile.FieldType.array (Jvm.ClassFile.FieldType.object "java/lang/Object"))), Jvm.Cond.code ({ cls := "com/example/darlington/darlington/core/StateLayout", name := "<init>", desc := "(Ljava/util/List;)V" } : Jvm.MethodName) prog_74_method_1_code (8 : Nat) (Option.none : Option Jvm.ClassFile.FieldType), Jvm.Cond.code ({ cls := "java/util/ArrayList", name := "size", desc := "()I" } : Jvm.MethodName) jdk_38_method_8_code (1 : Nat) (Option.some Jvm.ClassFile.FieldType.int), Jvm.Cond.code ({ cls := "java/util/ArrayList", name := "get", desc := "(I)Ljava/lang/Object;" } : Jvm.MethodName) jdk_38_method_20_code (2 : Nat) (Option.some (Jvm.ClassFile.FieldType.object "java/lang/Object")), Jvm.Cond.code ({ cls := "java/util/Objects", name := "checkIndex", desc := "(II)I" } : Jvm.MethodName) jdk_31_method_17_code (2 : Nat) (Option.some Jvm.ClassFile.FieldType.int), Jvm.Cond.code ({ cls := "jdk/internal/util/Preconditions", name := "checkIndex", desc := "(IILjava/util/function/BiFunction;)I" } : Jvm.MethodName) jdk_41_method_11_code (3 : Nat) (Option.some Jvm.ClassFile.FieldType.int), Jvm.Cond.code ({ cls := "java/util/ArrayList", name := "elementData", desc := "(I)Ljava/lang/Object;" } : Jvm.MethodName) jdk_38_method_18_code (2 : Nat) (Option.some (Jvm.ClassFile.FieldType.object "java/lang/Object")), Jvm.Cond.code ({ cls := "com/example/darlington/darlington/core/FiniteType", name := "size", desc := "()I" } : Jvm.MethodName) prog_45_method_2_code (1 : Nat) (Option.some Jvm.ClassFile.FieldType.int), Jvm.Cond.code ({ cls := "java/lang/Integer", name := "numberOfLeadingZeros", desc := "(I)I" } : Jvm.MethodName) jdk_33_method_47_code (2 : Nat) (Option.some Jvm.ClassFile.FieldType.int), Jvm.Cond.code ({ cls := "com/example/darlington/darlington/core/FiniteType", name := "valueAt", desc := "(I)I" } : Jvm.MethodName) prog_45_method_3_code (2 : Nat) (Option.some Jvm.ClassFile.FieldType.int), Jvm.Cond.code ({ cls := "com/example/darlington/darlington/core/StateLayout", name := "unpack", desc := "([JI[I)V" } : Jvm.MethodName) prog_74_method_6_code (7 : Nat) (Option.none : Option Jvm.ClassFile.FieldType), Jvm.Cond.code ({ cls := "com/example/darlington/darlington/core/StateLayout", name := "set", desc := "([JII)V" } : Jvm.MethodName) prog_74_method_5_code (7 : Nat) (Option.none : Option Jvm.ClassFile.FieldType)]
set_option maxRecDepth 65536 in
theorem codes_eq : words1.filter isCode = codes1 := rfl
theorem w_codes : ∀ c ∈ words1.filter isCode, c.before args0 about1 = true := by
  rw [codes_eq]
  intro c hc
  simp only [codes1, List.mem_cons, List.not_mem_nil, or_false] at hc
  rcases hc with rfl | rfl | rfl | rfl | rfl | rfl | rfl | rfl | rfl | rfl | rfl | rfl | rfl | rfl | rfl | rfl | rfl | rfl | rfl | rfl | rfl | rfl | rfl | rfl | rfl
  · exact w_c0
  · exact w_c1
  · exact w_c2
  · exact w_c3
  · exact w_c4
  · exact w_c5
  · exact w_c6
  · exact w_c7
  · exact w_c8
  · exact w_c9
  · exact w_c10
  · exact w_c11
  · exact w_c12
  · exact w_c13
  · exact w_c14
  · exact w_c15
  · exact w_c16
  · exact w_c17
  · exact w_c18
  · exact w_c19
  · exact w_c20
  · exact w_c21
  · exact w_c22
  · exact w_c23
  · exact w_c24
set_option maxRecDepth 65536 in
theorem w_t1 : (words1.take 24).all (fun c => isCode c || c.before args0 about1) = true := by decide +kernel
set_option maxRecDepth 65536 in
theorem w_t2 : ((words1.drop 24).take 24).all (fun c => isCode c || c.before args0 about1) = true := by decide +kernel
set_option maxRecDepth 65536 in
theorem w_t3 : (((words1.drop 24).drop 24).take 24).all (fun c => isCode c || c.before args0 about1) = true := by decide +kernel
set_option maxRecDepth 65536 in
theorem w_t4 : ((((words1.drop 24).drop 24).drop 24).take 24).all (fun c => isCode c || c.before args0 about1) = true := by decide +kernel
set_option maxRecDepth 65536 in
theorem w_t5 : (((((words1.drop 24).drop 24).drop 24).drop 24).take 24).all (fun c => isCode c || c.before args0 about1) = true := by decide +kernel
set_option maxRecDepth 65536 in
theorem w_t6 : ((((((words1.drop 24).drop 24).drop 24).drop 24).drop 24).take 24).all (fun c => isCode c || c.before args0 about1) = true := by decide +kernel
set_option maxRecDepth 65536 in
theorem w_t7 : ((((((words1.drop 24).drop 24).drop 24).drop 24).drop 24).drop 24).all (fun c => isCode c || c.before args0 about1) = true := by decide +kernel
theorem w_tables : (allAtoms (Jvm.Cond.code x code maxLocals ret :: tables_1)).before args0 about1 = true := by
  rw [allAtoms_all]
  show words1.all (fun c => c.before args0 about1) = true
  refine all_split ?_ w_codes
  rw [← List.take_append_drop 24 words1, List.all_append, w_t1, ← List.take_append_drop 24 (words1.drop 24), List.all_append, w_t2, ← List.take_append_drop 24 ((words1.drop 24).drop 24), List.all_append, w_t3, ← List.take_append_drop 24 (((words1.drop 24).drop 24).drop 24), List.all_append, w_t4, ← List.take_append_drop 24 ((((words1.drop 24).drop 24).drop 24).drop 24), List.all_append, w_t5, ← List.take_append_drop 24 (((((words1.drop 24).drop 24).drop 24).drop 24).drop 24), List.all_append, w_t6, w_t7]
  rfl
set_option maxRecDepth 65536 in
theorem w_rest : rest_1_c.before args0 about1 = true := by decide +kernel
set_option maxRecDepth 65536 in
theorem w_case : (Jvm.Cond.and given_1 narrow_1).before args0 about1 = true := by decide +kernel
theorem w_applies : (headSpec (Jvm.Cond.code x code maxLocals ret :: tables_1) room_1).applies x e0.platform about1 = true :=
  (Spec.applies_iff w_frames).mpr ⟨w_running, w_runnable, w_alone, w_named, w_hears, w_ripe, w_room, w_tables⟩
theorem atStart : AtStart classFile x code maxLocals ret World_1 tables_1 room_1 Calls_1 rest_1 Pre_1 launch0 p0 e0 about1 theMethod args0 below0 :=
  ⟨lists_1, trivial, launch0.admits_env _ _ _, launch0.least_env, fairChoices_fair.cas, fairChoices_fair.clock, w_frames, w_args, w_heap, w_applies, trivial, w_rest, w_case⟩
end start1
theorem witness_1 : WitnessClaimed_1 := ⟨start1.p0, start1.e0, start1.about1, start1.theMethod, start1.args0, start1.below0, start1.atStart⟩
end Jvm.Pilot.@@N@@
