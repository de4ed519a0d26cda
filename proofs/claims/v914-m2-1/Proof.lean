import JvmDerived
import JvmDerived.Pilot.@@N@@Statement
import JvmDerived.Pilot.@@N@@Code
set_option linter.unusedVariables false
set_option linter.unusedSimpArgs false
namespace Jvm.Pilot.@@N@@
open Jvm Jvm.ClassFile Sem Op Lib Jvm.Free Jvm.Stand Jvm.LawKit Jvm.RoadKit Bundle Jvm.Pilot.@@N@@.Jvm.D
theorem pd_0 : parseMethodDescriptor "()V" = some ⟨[], none⟩ := by decide +kernel
theorem pd_1 : parseMethodDescriptor "(C)Z" = some ⟨[.char], some .boolean⟩ := by decide +kernel
theorem pd_2 : parseMethodDescriptor "(C)[B" = some ⟨[.char], some (.array .byte)⟩ := by decide +kernel
theorem pd_3 : parseMethodDescriptor "([BB)V" = some ⟨[(.array .byte), .byte], none⟩ := by decide +kernel
theorem pd_4 : parseMethodDescriptor "()Z" = some ⟨[], some .boolean⟩ := by decide +kernel
theorem pd_5 : parseMethodDescriptor "(II)V" = some ⟨[.int, .int], none⟩ := by decide +kernel
theorem pd_6 : parseMethodDescriptor "(C)Ljava/lang/String;" = some ⟨[.char], some (.object "java/lang/String")⟩ := by decide +kernel
theorem pd_7 : parseMethodDescriptor "(Lcom/example/oriflamme/oriflamme/language/Position;Ljava/lang/String;Lcom/example/oriflamme/oriflamme/language/Type;)V" = some ⟨[(.object "com/example/oriflamme/oriflamme/language/Position"), (.object "java/lang/String"), (.object "com/example/oriflamme/oriflamme/language/Type")], none⟩ := by decide +kernel
theorem pd_8 : parseMethodDescriptor "(Lcom/example/oriflamme/oriflamme/language/Position;Ljava/lang/String;Ljava/util/List;ZLcom/example/oriflamme/oriflamme/language/Type$Base;Lcom/example/oriflamme/oriflamme/language/RecordType;)V" = some ⟨[(.object "com/example/oriflamme/oriflamme/language/Position"), (.object "java/lang/String"), (.object "java/util/List"), .boolean, (.object "com/example/oriflamme/oriflamme/language/Type$Base"), (.object "com/example/oriflamme/oriflamme/language/RecordType")], none⟩ := by decide +kernel
theorem d2_0 : decode jdk_30_method_1_code 0 = .ok (.aload_n 0, 1) := by decide +kernel
theorem d2_1 : decode jdk_30_method_1_code 1 = .ok (.invokespecial 1, 3) := by decide +kernel
theorem d2_4 : decode jdk_30_method_1_code 4 = .ok (.return_, 1) := by decide +kernel
theorem pn_2 : plainName "java/lang/Record" = true := by first | (simp [plainName, overriddenIn]; done) | decide +kernel
theorem ef_2 (m : MethodId) (a1 : Addr) : entryFrame m #[(.ref a1)] 1 = mkF m 0 #[.val (.ref a1)] [] := by first | (simp [entryFrame, mkF, argsToLocals, Value.category]; done) | rfl
def Q2 (Z : State) (a1 : Addr) (h0 : Heap) (n0 : Nat) (v : Option Value) (h : Heap) (L : List Loc) : Prop := v = none ∧ Fr n0 L ∧ h = h0
set_option maxRecDepth 65536 in
set_option maxHeartbeats 40000000 in
theorem rm2 (l : Launch) (Z : State) (a0 : Array Value) (hw : ∀ d ∈ tables_1, d.before a0 Z = true) (ws : List Jvm.Cond) (a1 : Addr) (h0 : Heap) (n0 : Nat) (Z0 : n0 ≤ h0.size) :
    MetFree l (⟨"java/lang/Record", "<init>", "()V"⟩ : MethodName) (head1 (Jvm.Cond.code (⟨"java/lang/Record", "<init>", "()V"⟩ : MethodName) jdk_30_method_1_code 1 none :: ws) ({ frames := 1, cells := 0, slots := 0, locals := 12 } : Room)) (fun a U => a = #[(.ref a1)] ∧ Z.Warmed39 U.vm ∧ U.heap = h0) (fun _ _ _ _ _ => True) (fun _ U oo U' => ∃ v L, oo = .returned v ∧ Q2 Z a1 h0 n0 v U'.heap L ∧ FrameEnd U oo U' L ({ frames := 1, cells := 0, slots := 0, locals := 12 } : Room).cells ({ frames := 1, cells := 0, slots := 0, locals := 12 } : Room).slots) := by
  refine MetFree.of_bodySF (plainFor_of_name pn_2) hisR ?_
  intro p e s m args below meth c s₁ Bd hml0 hP hK
  obtain ⟨rfl, hZ, hh⟩ := hP
  have hx := Bd.exec
  have hby := Bd.bytes
  have hml : c.maxLocals = 1 := hml0
  have hown : s.vm.findClass "java/lang/Record" = some m.cls := findClass_of_methodNamed Bd.named
  have hnm := (name_of_methodNamed Bd.named Bd.method).1
  have X0 : Stand p l e ({ frames := 1, cells := 0, slots := 0, locals := 12 } : Room) s m #[(.ref a1)] below meth c s₁ [] 0 0 := Stand.of_body Bd
  have e0 : s₁.heap = h0 := by rw [← hh, Bd.state]; rfl
  have N0 := Fr.nil n0
  have K0 : Keep h0 h0 [] := Keep.refl _ _
  have pre0 : ∀ tg, Steps p.tables e below (s₁.setTop (mkF m 0 #[.val (.ref a1)] [])) tg → Steps p.tables e below (s₁.setTop (entryFrame m #[(.ref a1)] 1)) tg := fun tg k => castTop (ef_2 m a1) k
  have st1 : ∀ tg, Steps p.tables e below (s₁.setTop (mkF m 1 #[.val (.ref a1)] [(.ref a1)])) tg → Steps p.tables e below (s₁.setTop (mkF m 0 #[.val (.ref a1)] [])) tg := by
    intro tg kt
    show Steps p.tables e below (s₁.setTop (mkF m 0 #[.val (.ref a1)] [])) tg
    refine XS.aloadN X0.here hx rfl (hb hby d2_0) rfl rfl ?_
    exact kt
  obtain ⟨T2, X2, e2, st2⟩ := initO X0 hx hZ hown (hw _ (List.mem_of_getElem? (i := 11) rfl)) (hw _ (List.mem_of_getElem? (i := 12) rfl)) (hw _ (List.mem_of_getElem? (i := 13) rfl)) e0 (g := (mkF m 1 #[.val (.ref a1)] [(.ref a1)])) rfl (by rw [hml]; rfl) rfl (hb hby d2_1) (by decide) (W := 0) (by show 2 * 0 + _ ≤ _; exact Nat.le_of_eq rfl) (by decide)
  obtain ⟨fs, hr, hrun, hended, hW, hsame⟩ := X2.leave (v := none) (fun _ => rfl)
  refine ⟨_, _, pre0 _ ?_, hrun, hended, _, _, rfl, ?_, ⟨_, rfl⟩, hW, hsame.mono (by decide) (by decide)⟩
  · refine st1 _ ?_
    show Steps p.tables e below (s₁.setTop (mkF m 1 #[.val (.ref a1)] [(.ref a1)])) _
    refine st2 _ ?_
    show Steps p.tables e below (T2.setTop (mkF m 4 #[.val (.ref a1)] [])) _
    exact X2.returnOut hx Bd.returns (hb hby d2_4) hr
  · show Q2 Z a1 h0 n0 _ T2.heap _
    rw [e2]
    exact ⟨rfl, N0, rfl⟩
theorem d1_0 : decode prog_33_method_1_code 0 = .ok (.aload_n 0, 1) := by decide +kernel
theorem d1_1 : decode prog_33_method_1_code 1 = .ok (.invokespecial 1, 3) := by decide +kernel
theorem d1_4 : decode prog_33_method_1_code 4 = .ok (.aload_n 0, 1) := by decide +kernel
theorem d1_5 : decode prog_33_method_1_code 5 = .ok (.iload_n 1, 1) := by decide +kernel
theorem d1_6 : decode prog_33_method_1_code 6 = .ok (.putfield 7, 3) := by decide +kernel
theorem d1_9 : decode prog_33_method_1_code 9 = .ok (.aload_n 0, 1) := by decide +kernel
theorem d1_10 : decode prog_33_method_1_code 10 = .ok (.iload_n 2, 1) := by decide +kernel
theorem d1_11 : decode prog_33_method_1_code 11 = .ok (.putfield 13, 3) := by decide +kernel
theorem d1_14 : decode prog_33_method_1_code 14 = .ok (.return_, 1) := by decide +kernel
theorem pn_1 : plainName "com/example/oriflamme/oriflamme/language/Position" = true := by first | (simp [plainName, overriddenIn]; done) | decide +kernel
theorem ef_1 (m : MethodId) (a1 : Addr) (p2 : Int32) (p3 : Int32) : entryFrame m #[(.ref a1), (.int p2), (.int p3)] 3 = mkF m 0 #[.val (.ref a1), .val (.int p2), .val (.int p3)] [] := by first | (simp [entryFrame, mkF, argsToLocals, Value.category]; done) | rfl
def Q1 (Z : State) (a1 : Addr) (p2 : Int32) (p3 : Int32) (h0 : Heap) (n0 : Nat) (v : Option Value) (h : Heap) (L : List Loc) : Prop := v = none ∧ Fr n0 L ∧ Keep h0 h [a1] ∧ Exa Z h a1 "com/example/oriflamme/oriflamme/language/Position" ∧ Fld Z h a1 "com/example/oriflamme/oriflamme/language/Position" "line" "I" (.int p2) ∧ Fld Z h a1 "com/example/oriflamme/oriflamme/language/Position" "column" "I" (.int p3)
set_option maxRecDepth 65536 in
set_option maxHeartbeats 40000000 in
theorem rm1 (l : Launch) (Z : State) (a0 : Array Value) (hw : ∀ d ∈ tables_1, d.before a0 Z = true) (ws : List Jvm.Cond) (a1 : Addr) (p2 : Int32) (p3 : Int32) (h0 : Heap) (n0 : Nat) (Z0 : n0 ≤ h0.size) (F_line : Fld Z h0 a1 "com/example/oriflamme/oriflamme/language/Position" "line" "I" (.int (0 : Int32))) (F_column : Fld Z h0 a1 "com/example/oriflamme/oriflamme/language/Position" "column" "I" (.int (0 : Int32))) (E_a1 : Exa Z h0 a1 "com/example/oriflamme/oriflamme/language/Position") (g_a1 : n0 ≤ a1) :
    MetFree l (⟨"com/example/oriflamme/oriflamme/language/Position", "<init>", "(II)V"⟩ : MethodName) (head1 (Jvm.Cond.code (⟨"com/example/oriflamme/oriflamme/language/Position", "<init>", "(II)V"⟩ : MethodName) prog_33_method_1_code 3 none :: ws) ({ frames := 2, cells := 0, slots := 0, locals := 24 } : Room)) (fun a U => a = #[(.ref a1), (.int p2), (.int p3)] ∧ Z.Warmed39 U.vm ∧ U.heap = h0) (fun _ _ _ _ _ => True) (fun _ U oo U' => ∃ v L, oo = .returned v ∧ Q1 Z a1 p2 p3 h0 n0 v U'.heap L ∧ FrameEnd U oo U' L ({ frames := 2, cells := 0, slots := 0, locals := 24 } : Room).cells ({ frames := 2, cells := 0, slots := 0, locals := 24 } : Room).slots) := by
  refine MetFree.of_bodySF (plainFor_of_name pn_1) hisR ?_
  intro p e s m args below meth c s₁ Bd hml0 hP hK
  obtain ⟨rfl, hZ, hh⟩ := hP
  have hx := Bd.exec
  have hby := Bd.bytes
  have hml : c.maxLocals = 3 := hml0
  have hown : s.vm.findClass "com/example/oriflamme/oriflamme/language/Position" = some m.cls := findClass_of_methodNamed Bd.named
  have hnm := (name_of_methodNamed Bd.named Bd.method).1
  have X0 : Stand p l e ({ frames := 2, cells := 0, slots := 0, locals := 24 } : Room) s m #[(.ref a1), (.int p2), (.int p3)] below meth c s₁ [] 0 0 := Stand.of_body Bd
  have e0 : s₁.heap = h0 := by rw [← hh, Bd.state]; rfl
  have N0 := Fr.nil n0
  have K0 : Keep h0 h0 [a1] := Keep.refl _ _
  have pre0 : ∀ tg, Steps p.tables e below (s₁.setTop (mkF m 0 #[.val (.ref a1), .val (.int p2), .val (.int p3)] [])) tg → Steps p.tables e below (s₁.setTop (entryFrame m #[(.ref a1), (.int p2), (.int p3)] 3)) tg := fun tg k => castTop (ef_1 m a1 p2 p3) k
  have st1 : ∀ tg, Steps p.tables e below (s₁.setTop (mkF m 1 #[.val (.ref a1), .val (.int p2), .val (.int p3)] [(.ref a1)])) tg → Steps p.tables e below (s₁.setTop (mkF m 0 #[.val (.ref a1), .val (.int p2), .val (.int p3)] [])) tg := by
    intro tg kt
    show Steps p.tables e below (s₁.setTop (mkF m 0 #[.val (.ref a1), .val (.int p2), .val (.int p3)] [])) tg
    refine XS.aloadN X0.here hx rfl (hb hby d1_0) rfl rfl ?_
    exact kt
  obtain ⟨_, _, ⟨T2, L2, k2, n2⟩, -, X2, ⟨Lc2, hQ2, l2, y2, z2⟩, st2⟩ := X0.specialBack hx (y := (⟨"java/lang/Record", "<init>", "()V"⟩ : MethodName)) rfl hown (mvT hZ (hw _ (List.mem_of_getElem? (i := 6) rfl))) (mvT hZ (hw _ (List.mem_of_getElem? (i := 7) rfl))) (mvT hZ (hw _ (List.mem_of_getElem? (i := 10) rfl))) (by decide) (backOf (W := 0) (rm2 l Z a0 hw [] a1 h0 n0 Z0) hZ (hw _ (List.mem_of_getElem? (i := 10) rfl)) (hw _ (List.mem_of_getElem? (i := 9) rfl)) (by decide) (by decide)) (g := (mkF m 1 #[.val (.ref a1), .val (.int p2), .val (.int p3)] [(.ref a1)])) rfl (by rw [hml]; rfl) (Steps.refl _) (a := a1) (argsL := []) (rest := []) (lenOf pd_0 rfl) rfl (by show 2 * 0 + _ ≤ _; exact Nat.le_of_eq rfl) (hb hby d1_1) (fun _ _ => ⟨rfl, e0, (by decide : 0 + 0 ≤ _), (by decide : 0 + 0 ≤ _)⟩)
  dsimp only [Pt.U, Pt.locs, Pt.cells, Pt.slots] at X2 l2 y2 z2 st2 hQ2
  subst l2 y2 z2
  obtain ⟨rfl, N2q, e2⟩ := hQ2
  have N2 := Fr.app N0 N2q
  have st3 : ∀ tg, Steps p.tables e below (T2.setTop (mkF m 6 #[.val (.ref a1), .val (.int p2), .val (.int p3)] [(.int p2), (.ref a1)])) tg → Steps p.tables e below (T2.setTop (mkF m 4 #[.val (.ref a1), .val (.int p2), .val (.int p3)] [])) tg := by
    intro tg kt
    show Steps p.tables e below (T2.setTop (mkF m 4 #[.val (.ref a1), .val (.int p2), .val (.int p3)] [])) tg
    refine XS.aloadN X2.here hx rfl (hb hby d1_4) rfl rfl ?_
    show Steps p.tables e below (T2.setTop (mkF m 5 #[.val (.ref a1), .val (.int p2), .val (.int p3)] [(.ref a1)])) tg
    refine XS.iloadN X2.here hx rfl (hb hby d1_5) rfl ?_
    exact kt
  obtain ⟨T4, h4, X4, e4, W4, st4⟩ := putF X2 hx hZ hown (host := "") (Or.inl (hw _ (List.mem_of_getElem? (i := 14) rfl))) Via.refl e2 F_line E_a1 (Or.inr ⟨(hw _ (List.mem_of_getElem? (i := 15) rfl)), rfl, hnm⟩) (hw _ (List.mem_of_getElem? (i := 1) rfl)) (ty := .int) (by decide) rfl rfl (g := (mkF m 6 #[.val (.ref a1), .val (.int p2), .val (.int p3)] [(.int p2), (.ref a1)])) rfl rfl (hb hby d1_6)
  have N4 := Fr.snoc X4 N2 g_a1
  have K4 : Keep h0 h4 [a1] := K0.wr W4 (Or.inl (List.mem_of_getElem? (i := 0) rfl))
  have Z4 : n0 ≤ h4.size := Nat.le_trans Z0 (Keep.of_wr W4).1
  have G5 : Exa Z h4 a1 "com/example/oriflamme/oriflamme/language/Position" := E_a1.wr W4
  have G6 : Fld Z h4 a1 "com/example/oriflamme/oriflamme/language/Position" "column" "I" (.int (0 : Int32)) := F_column.other W4 (Or.inr (slot_ne (Or.inr (hw _ (List.mem_of_getElem? (i := 17) rfl))) (Or.inr (hw _ (List.mem_of_getElem? (i := 15) rfl))) (by decide) (t := .int) (t' := .int) (by decide) (by decide)))
  have G7 : Fld Z h4 a1 "com/example/oriflamme/oriflamme/language/Position" "line" "I" (.int p2) := F_line.same W4
  have st8 : ∀ tg, Steps p.tables e below (T4.setTop (mkF m 11 #[.val (.ref a1), .val (.int p2), .val (.int p3)] [(.int p3), (.ref a1)])) tg → Steps p.tables e below (T4.setTop (mkF m 9 #[.val (.ref a1), .val (.int p2), .val (.int p3)] [])) tg := by
    intro tg kt
    show Steps p.tables e below (T4.setTop (mkF m 9 #[.val (.ref a1), .val (.int p2), .val (.int p3)] [])) tg
    refine XS.aloadN X4.here hx rfl (hb hby d1_9) rfl rfl ?_
    show Steps p.tables e below (T4.setTop (mkF m 10 #[.val (.ref a1), .val (.int p2), .val (.int p3)] [(.ref a1)])) tg
    refine XS.iloadN X4.here hx rfl (hb hby d1_10) rfl ?_
    exact kt
  obtain ⟨T9, h9, X9, e9, W9, st9⟩ := putF X4 hx hZ hown (host := "") (Or.inl (hw _ (List.mem_of_getElem? (i := 16) rfl))) Via.refl e4 G6 G5 (Or.inr ⟨(hw _ (List.mem_of_getElem? (i := 17) rfl)), rfl, hnm⟩) (hw _ (List.mem_of_getElem? (i := 1) rfl)) (ty := .int) (by decide) rfl rfl (g := (mkF m 11 #[.val (.ref a1), .val (.int p2), .val (.int p3)] [(.int p3), (.ref a1)])) rfl rfl (hb hby d1_11)
  have N9 := Fr.snoc X9 N4 g_a1
  have K9 : Keep h0 h9 [a1] := K4.wr W9 (Or.inl (List.mem_of_getElem? (i := 0) rfl))
  have Z9 : n0 ≤ h9.size := Nat.le_trans Z4 (Keep.of_wr W9).1
  have G10 : Exa Z h9 a1 "com/example/oriflamme/oriflamme/language/Position" := G5.wr W9
  have G11 : Fld Z h9 a1 "com/example/oriflamme/oriflamme/language/Position" "line" "I" (.int p2) := G7.other W9 (Or.inr (slot_ne (Or.inr (hw _ (List.mem_of_getElem? (i := 15) rfl))) (Or.inr (hw _ (List.mem_of_getElem? (i := 17) rfl))) (by decide) (t := .int) (t' := .int) (by decide) (by decide)))
  have G12 : Fld Z h9 a1 "com/example/oriflamme/oriflamme/language/Position" "column" "I" (.int p3) := G6.same W9
  obtain ⟨fs, hr, hrun, hended, hW, hsame⟩ := X9.leave (v := none) (fun _ => rfl)
  refine ⟨_, _, pre0 _ ?_, hrun, hended, _, _, rfl, ?_, ⟨_, rfl⟩, hW, hsame.mono (by decide) (by decide)⟩
  · refine st1 _ ?_
    show Steps p.tables e below (s₁.setTop (mkF m 1 #[.val (.ref a1), .val (.int p2), .val (.int p3)] [(.ref a1)])) _
    refine st2.trans ?_
    refine st3 _ ?_
    show Steps p.tables e below (T2.setTop (mkF m 6 #[.val (.ref a1), .val (.int p2), .val (.int p3)] [(.int p2), (.ref a1)])) _
    refine st4 _ ?_
    refine st8 _ ?_
    show Steps p.tables e below (T4.setTop (mkF m 11 #[.val (.ref a1), .val (.int p2), .val (.int p3)] [(.int p3), (.ref a1)])) _
    refine st9 _ ?_
    show Steps p.tables e below (T9.setTop (mkF m 14 #[.val (.ref a1), .val (.int p2), .val (.int p3)] [])) _
    exact X9.returnOut hx Bd.returns (hb hby d1_14) hr
  · show Q1 Z a1 p2 p3 h0 n0 _ T9.heap _
    rw [e9]
    exact ⟨rfl, N9, K9, G10, G11, G12⟩
theorem d5_0 : decode jdk_43_method_3_code 0 = .ok (.iload_n 0, 1) := by decide +kernel
theorem d5_1 : decode jdk_43_method_3_code 1 = .ok (.sipush 255, 3) := by decide +kernel
theorem d5_4 : decode jdk_43_method_3_code 4 = .ok (.if_icmp .gt 7, 3) := by decide +kernel
theorem d5_7 : decode jdk_43_method_3_code 7 = .ok (.iconst 1, 1) := by decide +kernel
theorem d5_8 : decode jdk_43_method_3_code 8 = .ok (.goto 4, 3) := by decide +kernel
theorem d5_11 : decode jdk_43_method_3_code 11 = .ok (.iconst 0, 1) := by decide +kernel
theorem d5_12 : decode jdk_43_method_3_code 12 = .ok (.ireturn, 1) := by decide +kernel
theorem pn_5 : plainName "java/lang/StringLatin1" = true := by first | (simp [plainName, overriddenIn]; done) | decide +kernel
theorem ef_5 (m : MethodId) (p1 : Int32) : entryFrame m #[(.int p1)] 1 = mkF m 0 #[.val (.int p1)] [] := by first | (simp [entryFrame, mkF, argsToLocals, Value.category]; done) | rfl
def rv5 (p1 : Int32) : Int32 :=
  if (255 : Int32) < p1 then (0 : Int32) else (1 : Int32)
def Q5 (Z : State) (p1 : Int32) (h0 : Heap) (n0 : Nat) (v : Option Value) (h : Heap) (L : List Loc) : Prop := v = some (.int (rv5 p1)) ∧ Fr n0 L ∧ h = h0
set_option maxRecDepth 65536 in
set_option maxHeartbeats 40000000 in
theorem rm5 (l : Launch) (Z : State) (a0 : Array Value) (hw : ∀ d ∈ tables_1, d.before a0 Z = true) (ws : List Jvm.Cond) (p1 : Int32) (h0 : Heap) (n0 : Nat) (Z0 : n0 ≤ h0.size) :
    MetFree l (⟨"java/lang/StringLatin1", "canEncode", "(C)Z"⟩ : MethodName) (head1 (Jvm.Cond.code (⟨"java/lang/StringLatin1", "canEncode", "(C)Z"⟩ : MethodName) jdk_43_method_3_code 1 (some .boolean) :: ws) ({ frames := 0, cells := 0, slots := 0, locals := 0 } : Room)) (fun a U => a = #[(.int p1)] ∧ Z.Warmed39 U.vm ∧ U.heap = h0) (fun _ _ _ _ _ => True) (fun _ U oo U' => ∃ v L, oo = .returned v ∧ Q5 Z p1 h0 n0 v U'.heap L ∧ FrameEnd U oo U' L ({ frames := 0, cells := 0, slots := 0, locals := 0 } : Room).cells ({ frames := 0, cells := 0, slots := 0, locals := 0 } : Room).slots) := by
  refine MetFree.of_bodySF (plainFor_of_name pn_5) hisR ?_
  intro p e s m args below meth c s₁ Bd hml0 hP hK
  obtain ⟨rfl, hZ, hh⟩ := hP
  have hx := Bd.exec
  have hby := Bd.bytes
  have hml : c.maxLocals = 1 := hml0
  have hown : s.vm.findClass "java/lang/StringLatin1" = some m.cls := findClass_of_methodNamed Bd.named
  have hnm := (name_of_methodNamed Bd.named Bd.method).1
  have X0 : Stand p l e ({ frames := 0, cells := 0, slots := 0, locals := 0 } : Room) s m #[(.int p1)] below meth c s₁ [] 0 0 := Stand.of_body Bd
  have e0 : s₁.heap = h0 := by rw [← hh, Bd.state]; rfl
  have N0 := Fr.nil n0
  have K0 : Keep h0 h0 [] := Keep.refl _ _
  have pre0 : ∀ tg, Steps p.tables e below (s₁.setTop (mkF m 0 #[.val (.int p1)] [])) tg → Steps p.tables e below (s₁.setTop (entryFrame m #[(.int p1)] 1)) tg := fun tg k => castTop (ef_5 m p1) k
  have st2 : ∀ tg, Steps p.tables e below (s₁.setTop (mkF m 4 #[.val (.int p1)] [(.int (255 : Int32)), (.int p1)])) tg → Steps p.tables e below (s₁.setTop (mkF m 0 #[.val (.int p1)] [])) tg := by
    intro tg kt
    show Steps p.tables e below (s₁.setTop (mkF m 0 #[.val (.int p1)] [])) tg
    refine XS.iloadN X0.here hx rfl (hb hby d5_0) rfl ?_
    show Steps p.tables e below (s₁.setTop (mkF m 1 #[.val (.int p1)] [(.int p1)])) tg
    refine XS.sipush X0.here hx rfl (hb hby d5_1) ?_
    exact kt
  by_cases hc4_1 : (255 : Int32) < p1
  · -- pc 4: (255 : Int32) < p1
    have st3 : ∀ tg, Steps p.tables e below (s₁.setTop (mkF m 12 #[.val (.int p1)] [(.int (0 : Int32))])) tg → Steps p.tables e below (s₁.setTop (mkF m 4 #[.val (.int p1)] [(.int (255 : Int32)), (.int p1)])) tg := by
      intro tg kt
      show Steps p.tables e below (s₁.setTop (mkF m 4 #[.val (.int p1)] [(.int (255 : Int32)), (.int p1)])) tg
      refine XS.icmpYes X0.here hx rfl (pc0 := 4) (pc' := 11) rfl (hb hby d5_4) rfl (XT.ii_gt_t hc4_1) (by decide) (by decide) ?_
      show Steps p.tables e below (s₁.setTop (mkF m 11 #[.val (.int p1)] [])) tg
      refine XS.iconst X0.here hx rfl (hb hby d5_11) ?_
      exact kt
    obtain ⟨fs, hr, hrun, hended, hW, hsame⟩ := X0.leave (v := some (.int (0 : Int32))) (fun h => by rw [Bd.returns] at h; cases h)
    refine ⟨_, _, pre0 _ ?_, hrun, hended, _, _, rfl, ?_, ⟨_, rfl⟩, hW, hsame.mono (by decide) (by decide)⟩
    · refine st2 _ ?_
      refine st3 _ ?_
      show Steps p.tables e below (s₁.setTop (mkF m 12 #[.val (.int p1)] [(.int (0 : Int32))])) _
      exact retN X0 hx (t := .boolean) Bd.returns (by simp) (hb hby d5_12) hr
    · show Q5 Z p1 h0 n0 _ s₁.heap _
      rw [e0]
      refine ⟨?_, N0, rfl⟩
      simp only [rv5, if_pos hc4_1]
  · -- pc 4: not (255 : Int32) < p1
    have st4 : ∀ tg, Steps p.tables e below (s₁.setTop (mkF m 12 #[.val (.int p1)] [(.int (1 : Int32))])) tg → Steps p.tables e below (s₁.setTop (mkF m 4 #[.val (.int p1)] [(.int (255 : Int32)), (.int p1)])) tg := by
      intro tg kt
      show Steps p.tables e below (s₁.setTop (mkF m 4 #[.val (.int p1)] [(.int (255 : Int32)), (.int p1)])) tg
      refine XS.icmpNo X0.here hx rfl (hb hby d5_4) rfl (XT.ii_gt_f hc4_1) ?_
      show Steps p.tables e below (s₁.setTop (mkF m 7 #[.val (.int p1)] [])) tg
      refine XS.iconst X0.here hx rfl (hb hby d5_7) ?_
      show Steps p.tables e below (s₁.setTop (mkF m 8 #[.val (.int p1)] [(.int (1 : Int32))])) tg
      refine XS.goto X0.here hx rfl (pc0 := 8) (pc' := 12) rfl (hb hby d5_8) (by decide) (by decide) ?_
      exact kt
    obtain ⟨fs, hr, hrun, hended, hW, hsame⟩ := X0.leave (v := some (.int (1 : Int32))) (fun h => by rw [Bd.returns] at h; cases h)
    refine ⟨_, _, pre0 _ ?_, hrun, hended, _, _, rfl, ?_, ⟨_, rfl⟩, hW, hsame.mono (by decide) (by decide)⟩
    · refine st2 _ ?_
      refine st4 _ ?_
      show Steps p.tables e below (s₁.setTop (mkF m 12 #[.val (.int p1)] [(.int (1 : Int32))])) _
      exact retN X0 hx (t := .boolean) Bd.returns (by simp) (hb hby d5_12) hr
    · show Q5 Z p1 h0 n0 _ s₁.heap _
      rw [e0]
      refine ⟨?_, N0, rfl⟩
      simp only [rv5, if_neg hc4_1]
theorem d6_0 : decode jdk_43_method_46_code 0 = .ok (.iconst 1, 1) := by decide +kernel
theorem d6_1 : decode jdk_43_method_46_code 1 = .ok (.newarray .byte, 2) := by decide +kernel
theorem d6_3 : decode jdk_43_method_46_code 3 = .ok (.dup, 1) := by decide +kernel
theorem d6_4 : decode jdk_43_method_46_code 4 = .ok (.iconst 0, 1) := by decide +kernel
theorem d6_5 : decode jdk_43_method_46_code 5 = .ok (.iload_n 0, 1) := by decide +kernel
theorem d6_6 : decode jdk_43_method_46_code 6 = .ok (.i2b, 1) := by decide +kernel
theorem d6_7 : decode jdk_43_method_46_code 7 = .ok (.bastore, 1) := by decide +kernel
theorem d6_8 : decode jdk_43_method_46_code 8 = .ok (.areturn, 1) := by decide +kernel
theorem pn_6 : plainName "java/lang/StringLatin1" = true := by first | (simp [plainName, overriddenIn]; done) | decide +kernel
theorem ef_6 (m : MethodId) (p1 : Int32) : entryFrame m #[(.int p1)] 1 = mkF m 0 #[.val (.int p1)] [] := by first | (simp [entryFrame, mkF, argsToLocals, Value.category]; done) | rfl
def Q6 (Z : State) (p1 : Int32) (h0 : Heap) (n0 : Nat) (v : Option Value) (h : Heap) (L : List Loc) : Prop := ∃ b, v = some (.ref b) ∧ Fr n0 L ∧ Keep h0 h [] ∧ n0 ≤ b ∧ h0.size ≤ b
set_option maxRecDepth 65536 in
set_option maxHeartbeats 40000000 in
theorem rm6 (l : Launch) (Z : State) (a0 : Array Value) (hw : ∀ d ∈ tables_1, d.before a0 Z = true) (ws : List Jvm.Cond) (p1 : Int32) (h0 : Heap) (n0 : Nat) (Z0 : n0 ≤ h0.size) :
    MetFree l (⟨"java/lang/StringLatin1", "toBytes", "(C)[B"⟩ : MethodName) (head1 (Jvm.Cond.code (⟨"java/lang/StringLatin1", "toBytes", "(C)[B"⟩ : MethodName) jdk_43_method_46_code 1 (some (.array .byte)) :: ws) ({ frames := 0, cells := 1, slots := 1, locals := 0 } : Room)) (fun a U => a = #[(.int p1)] ∧ Z.Warmed39 U.vm ∧ U.heap = h0) (fun _ _ _ _ _ => True) (fun _ U oo U' => ∃ v L, oo = .returned v ∧ Q6 Z p1 h0 n0 v U'.heap L ∧ FrameEnd U oo U' L ({ frames := 0, cells := 1, slots := 1, locals := 0 } : Room).cells ({ frames := 0, cells := 1, slots := 1, locals := 0 } : Room).slots) := by
  refine MetFree.of_bodySF (plainFor_of_name pn_6) hisR ?_
  intro p e s m args below meth c s₁ Bd hml0 hP hK
  obtain ⟨rfl, hZ, hh⟩ := hP
  have hx := Bd.exec
  have hby := Bd.bytes
  have hml : c.maxLocals = 1 := hml0
  have hown : s.vm.findClass "java/lang/StringLatin1" = some m.cls := findClass_of_methodNamed Bd.named
  have hnm := (name_of_methodNamed Bd.named Bd.method).1
  have X0 : Stand p l e ({ frames := 0, cells := 1, slots := 1, locals := 0 } : Room) s m #[(.int p1)] below meth c s₁ [] 0 0 := Stand.of_body Bd
  have e0 : s₁.heap = h0 := by rw [← hh, Bd.state]; rfl
  have N0 := Fr.nil n0
  have K0 : Keep h0 h0 [] := Keep.refl _ _
  have pre0 : ∀ tg, Steps p.tables e below (s₁.setTop (mkF m 0 #[.val (.int p1)] [])) tg → Steps p.tables e below (s₁.setTop (entryFrame m #[(.int p1)] 1)) tg := fun tg k => castTop (ef_6 m p1) k
  have st1 : ∀ tg, Steps p.tables e below (s₁.setTop (mkF m 1 #[.val (.int p1)] [(.int (1 : Int32))])) tg → Steps p.tables e below (s₁.setTop (mkF m 0 #[.val (.int p1)] [])) tg := by
    intro tg kt
    show Steps p.tables e below (s₁.setTop (mkF m 0 #[.val (.int p1)] [])) tg
    refine XS.iconst X0.here hx rfl (hb hby d6_0) ?_
    exact kt
  obtain ⟨T2, h2, k2, X2, e2, E2, A2, st2⟩ := newP X0 hx hZ (hw _ (List.mem_of_getElem? (i := 32) rfl)) e0 (g := (mkF m 1 #[.val (.int p1)] [(.int (1 : Int32))])) rfl (hb hby d6_1) rfl (by decide) (cap := 1) (by decide) (by decide) (by decide) (by decide)
  obtain ⟨b2, gz2⟩ : ∃ z, z = h0.size := ⟨_, rfl⟩
  rw [← gz2] at A2 st2
  have g_b2 : n0 ≤ b2 := Nat.le_trans Z0 (Nat.le_of_eq gz2.symm)
  have sz_b2 : h0.size ≤ b2 := Nat.le_trans K0.1 (Nat.le_of_eq gz2.symm)
  have K2 : Keep h0 h2 [] := K0.ext E2
  have Z2 : n0 ≤ h2.size := Nat.le_trans Z0 E2.1
  have G3 : Arv Z h2 b2 k2 .byte (1 : Int32) [(.int (0 : Int32))] (.int (0 : Int32)) := (Arv.new A2 (by decide)).pad (pad_rep [] (.int (0 : Int32)) 1)
  have st4 : ∀ tg, Steps p.tables e below (T2.setTop (mkF m 7 #[.val (.int p1)] [(.int (p1.toInt8.toInt32)), (.int (0 : Int32)), (.ref b2), (.ref b2)])) tg → Steps p.tables e below (T2.setTop (mkF m 3 #[.val (.int p1)] [(.ref b2)])) tg := by
    intro tg kt
    show Steps p.tables e below (T2.setTop (mkF m 3 #[.val (.int p1)] [(.ref b2)])) tg
    refine XS.dup X2.here hx rfl (hb hby d6_3) rfl rfl ?_
    show Steps p.tables e below (T2.setTop (mkF m 4 #[.val (.int p1)] [(.ref b2), (.ref b2)])) tg
    refine XS.iconst X2.here hx rfl (hb hby d6_4) ?_
    show Steps p.tables e below (T2.setTop (mkF m 5 #[.val (.int p1)] [(.int (0 : Int32)), (.ref b2), (.ref b2)])) tg
    refine XS.iloadN X2.here hx rfl (hb hby d6_5) rfl ?_
    show Steps p.tables e below (T2.setTop (mkF m 6 #[.val (.int p1)] [(.int p1), (.int (0 : Int32)), (.ref b2), (.ref b2)])) tg
    refine XS.i2b X2.here hx rfl (hb hby d6_6) rfl ?_
    exact kt
  obtain ⟨cl5, Ar5, qa5, Sa5, Na5, Ha5, Ga5⟩ := G3
  have hin5 : ¬ ((0 : Int32) < 0 ∨ cl5.slots.size ≤ ((0 : Int32)).toNatClampNeg) := inb_of Sa5 ⟨by decide, by decide⟩
  obtain ⟨T6, h6, X6, e6, W6, st6⟩ := stB X2 hx hZ e2 Ar5 (j := (0 : Int32)) hin5 (g := (mkF m 7 #[.val (.int p1)] [(.int (p1.toInt8.toInt32)), (.int (0 : Int32)), (.ref b2), (.ref b2)])) rfl rfl (hb hby d6_7)
  have N6 := Fr.snoc X6 N0 g_b2
  have K6 : Keep h0 h6 [] := K2.wr W6 (Or.inr sz_b2)
  have Z6 : n0 ≤ h6.size := Nat.le_trans Z2 (Keep.of_wr W6).1
  have G7 : Arv Z h6 b2 k2 .byte (1 : Int32) [(.int (nar .byte (p1.toInt8.toInt32)))] (.int (0 : Int32)) := Arv.set Ar5 qa5 Sa5 Na5 Ha5 Ga5 (fits_nar_byte _) W6 0 rfl (Nat.le_of_ble_eq_true rfl)
  obtain ⟨fs, hr, hrun, hended, hW, hsame⟩ := X6.leave (v := some (.ref b2)) (fun h => by rw [Bd.returns] at h; cases h)
  refine ⟨_, _, pre0 _ ?_, hrun, hended, _, _, rfl, ?_, ⟨_, rfl⟩, hW, hsame.mono (by decide) (by decide)⟩
  · refine st1 _ ?_
    show Steps p.tables e below (s₁.setTop (mkF m 1 #[.val (.int p1)] [(.int (1 : Int32))])) _
    refine st2 _ ?_
    refine st4 _ ?_
    show Steps p.tables e below (T2.setTop (mkF m 7 #[.val (.int p1)] [(.int (p1.toInt8.toInt32)), (.int (0 : Int32)), (.ref b2), (.ref b2)])) _
    refine st6 _ ?_
    show Steps p.tables e below (T6.setTop (mkF m 8 #[.val (.int p1)] [(.ref b2)])) _
    exact retOut X6 hx Bd.returns rfl (Or.inr (Or.inr (Or.inr (Or.inr ⟨rfl, rfl, rfl⟩)))) (hb hby d6_8) hr
  · show Q6 Z p1 h0 n0 _ T6.heap _
    rw [e6]
    exact ⟨b2, rfl, N6, K6, g_b2, sz_b2⟩
theorem d7_0 : decode jdk_42_method_151_code 0 = .ok (.aload_n 0, 1) := by decide +kernel
theorem d7_1 : decode jdk_42_method_151_code 1 = .ok (.invokespecial 1, 3) := by decide +kernel
theorem d7_4 : decode jdk_42_method_151_code 4 = .ok (.aload_n 0, 1) := by decide +kernel
theorem d7_5 : decode jdk_42_method_151_code 5 = .ok (.aload_n 1, 1) := by decide +kernel
theorem d7_6 : decode jdk_42_method_151_code 6 = .ok (.putfield 9, 3) := by decide +kernel
theorem d7_9 : decode jdk_42_method_151_code 9 = .ok (.aload_n 0, 1) := by decide +kernel
theorem d7_10 : decode jdk_42_method_151_code 10 = .ok (.iload_n 2, 1) := by decide +kernel
theorem d7_11 : decode jdk_42_method_151_code 11 = .ok (.putfield 15, 3) := by decide +kernel
theorem d7_14 : decode jdk_42_method_151_code 14 = .ok (.return_, 1) := by decide +kernel
theorem pn_7 : plainName "java/lang/String" = true := by first | (simp [plainName, overriddenIn]; done) | decide +kernel
theorem ef_7 (m : MethodId) (a1 : Addr) (a2 : Addr) (p3 : Int32) : entryFrame m #[(.ref a1), (.ref a2), (.int p3)] 3 = mkF m 0 #[.val (.ref a1), .val (.ref a2), .val (.int p3)] [] := by first | (simp [entryFrame, mkF, argsToLocals, Value.category]; done) | rfl
def Q7 (Z : State) (a1 : Addr) (a2 : Addr) (p3 : Int32) (h0 : Heap) (n0 : Nat) (v : Option Value) (h : Heap) (L : List Loc) : Prop := v = none ∧ Fr n0 L ∧ Keep h0 h [a1] ∧ Exa Z h a1 "java/lang/String" ∧ Fld Z h a1 "java/lang/String" "value" "[B" (.ref a2) ∧ Fld Z h a1 "java/lang/String" "coder" "B" (.int (nar .byte p3))
set_option maxRecDepth 65536 in
set_option maxHeartbeats 40000000 in
theorem rm7 (l : Launch) (Z : State) (a0 : Array Value) (hw : ∀ d ∈ tables_1, d.before a0 Z = true) (ws : List Jvm.Cond) (a1 : Addr) (a2 : Addr) (p3 : Int32) (h0 : Heap) (n0 : Nat) (Z0 : n0 ≤ h0.size) (F_value : Fld Z h0 a1 "java/lang/String" "value" "[B" .null) (F_coder : Fld Z h0 a1 "java/lang/String" "coder" "B" (.int (0 : Int32))) (E_a1 : Exa Z h0 a1 "java/lang/String") (g_a1 : n0 ≤ a1) :
    MetFree l (⟨"java/lang/String", "<init>", "([BB)V"⟩ : MethodName) (head1 (Jvm.Cond.code (⟨"java/lang/String", "<init>", "([BB)V"⟩ : MethodName) jdk_42_method_151_code 3 none :: ws) ({ frames := 1, cells := 0, slots := 0, locals := 12 } : Room)) (fun a U => a = #[(.ref a1), (.ref a2), (.int p3)] ∧ Z.Warmed39 U.vm ∧ U.heap = h0) (fun _ _ _ _ _ => True) (fun _ U oo U' => ∃ v L, oo = .returned v ∧ Q7 Z a1 a2 p3 h0 n0 v U'.heap L ∧ FrameEnd U oo U' L ({ frames := 1, cells := 0, slots := 0, locals := 12 } : Room).cells ({ frames := 1, cells := 0, slots := 0, locals := 12 } : Room).slots) := by
  refine MetFree.of_bodySF (plainFor_of_name pn_7) hisR ?_
  intro p e s m args below meth c s₁ Bd hml0 hP hK
  obtain ⟨rfl, hZ, hh⟩ := hP
  have hx := Bd.exec
  have hby := Bd.bytes
  have hml : c.maxLocals = 3 := hml0
  have hown : s.vm.findClass "java/lang/String" = some m.cls := findClass_of_methodNamed Bd.named
  have hnm := (name_of_methodNamed Bd.named Bd.method).1
  have X0 : Stand p l e ({ frames := 1, cells := 0, slots := 0, locals := 12 } : Room) s m #[(.ref a1), (.ref a2), (.int p3)] below meth c s₁ [] 0 0 := Stand.of_body Bd
  have e0 : s₁.heap = h0 := by rw [← hh, Bd.state]; rfl
  have N0 := Fr.nil n0
  have K0 : Keep h0 h0 [a1] := Keep.refl _ _
  have pre0 : ∀ tg, Steps p.tables e below (s₁.setTop (mkF m 0 #[.val (.ref a1), .val (.ref a2), .val (.int p3)] [])) tg → Steps p.tables e below (s₁.setTop (entryFrame m #[(.ref a1), (.ref a2), (.int p3)] 3)) tg := fun tg k => castTop (ef_7 m a1 a2 p3) k
  have st1 : ∀ tg, Steps p.tables e below (s₁.setTop (mkF m 1 #[.val (.ref a1), .val (.ref a2), .val (.int p3)] [(.ref a1)])) tg → Steps p.tables e below (s₁.setTop (mkF m 0 #[.val (.ref a1), .val (.ref a2), .val (.int p3)] [])) tg := by
    intro tg kt
    show Steps p.tables e below (s₁.setTop (mkF m 0 #[.val (.ref a1), .val (.ref a2), .val (.int p3)] [])) tg
    refine XS.aloadN X0.here hx rfl (hb hby d7_0) rfl rfl ?_
    exact kt
  obtain ⟨T2, X2, e2, st2⟩ := initO X0 hx hZ hown (hw _ (List.mem_of_getElem? (i := 37) rfl)) (hw _ (List.mem_of_getElem? (i := 12) rfl)) (hw _ (List.mem_of_getElem? (i := 13) rfl)) e0 (g := (mkF m 1 #[.val (.ref a1), .val (.ref a2), .val (.int p3)] [(.ref a1)])) rfl (by rw [hml]; rfl) rfl (hb hby d7_1) (by decide) (W := 0) (by show 2 * 0 + _ ≤ _; exact Nat.le_of_eq rfl) (by decide)
  have st3 : ∀ tg, Steps p.tables e below (T2.setTop (mkF m 6 #[.val (.ref a1), .val (.ref a2), .val (.int p3)] [(.ref a2), (.ref a1)])) tg → Steps p.tables e below (T2.setTop (mkF m 4 #[.val (.ref a1), .val (.ref a2), .val (.int p3)] [])) tg := by
    intro tg kt
    show Steps p.tables e below (T2.setTop (mkF m 4 #[.val (.ref a1), .val (.ref a2), .val (.int p3)] [])) tg
    refine XS.aloadN X2.here hx rfl (hb hby d7_4) rfl rfl ?_
    show Steps p.tables e below (T2.setTop (mkF m 5 #[.val (.ref a1), .val (.ref a2), .val (.int p3)] [(.ref a1)])) tg
    refine XS.aloadN X2.here hx rfl (hb hby d7_5) rfl rfl ?_
    exact kt
  obtain ⟨T4, h4, X4, e4, W4, st4⟩ := putF X2 hx hZ hown (host := "") (Or.inl (hw _ (List.mem_of_getElem? (i := 38) rfl))) Via.refl e2 F_value E_a1 (Or.inr ⟨(hw _ (List.mem_of_getElem? (i := 39) rfl)), rfl, hnm⟩) (hw _ (List.mem_of_getElem? (i := 28) rfl)) (ty := (.array .byte)) (by decide) rfl rfl (g := (mkF m 6 #[.val (.ref a1), .val (.ref a2), .val (.int p3)] [(.ref a2), (.ref a1)])) rfl rfl (hb hby d7_6)
  have N4 := Fr.snoc X4 N0 g_a1
  have K4 : Keep h0 h4 [a1] := K0.wr W4 (Or.inl (List.mem_of_getElem? (i := 0) rfl))
  have Z4 : n0 ≤ h4.size := Nat.le_trans Z0 (Keep.of_wr W4).1
  have G5 : Exa Z h4 a1 "java/lang/String" := E_a1.wr W4
  have G6 : Fld Z h4 a1 "java/lang/String" "coder" "B" (.int (0 : Int32)) := F_coder.other W4 (Or.inr (slot_ne (Or.inr (hw _ (List.mem_of_getElem? (i := 41) rfl))) (Or.inr (hw _ (List.mem_of_getElem? (i := 39) rfl))) (by decide) (t := .byte) (t' := (.array .byte)) (by decide) (by decide)))
  have G7 : Fld Z h4 a1 "java/lang/String" "value" "[B" (.ref a2) := F_value.same W4
  have st8 : ∀ tg, Steps p.tables e below (T4.setTop (mkF m 11 #[.val (.ref a1), .val (.ref a2), .val (.int p3)] [(.int p3), (.ref a1)])) tg → Steps p.tables e below (T4.setTop (mkF m 9 #[.val (.ref a1), .val (.ref a2), .val (.int p3)] [])) tg := by
    intro tg kt
    show Steps p.tables e below (T4.setTop (mkF m 9 #[.val (.ref a1), .val (.ref a2), .val (.int p3)] [])) tg
    refine XS.aloadN X4.here hx rfl (hb hby d7_9) rfl rfl ?_
    show Steps p.tables e below (T4.setTop (mkF m 10 #[.val (.ref a1), .val (.ref a2), .val (.int p3)] [(.ref a1)])) tg
    refine XS.iloadN X4.here hx rfl (hb hby d7_10) rfl ?_
    exact kt
  obtain ⟨T9, h9, X9, e9, W9, st9⟩ := putFN X4 hx hZ hown (hw _ (List.mem_of_getElem? (i := 40) rfl)) Via.refl e4 G6 G5 (Or.inr ⟨(hw _ (List.mem_of_getElem? (i := 41) rfl)), rfl, hnm⟩) (hw _ (List.mem_of_getElem? (i := 28) rfl)) (ty := .byte) (v' := .int (nar .byte p3)) (by decide) rfl (fits_nar_byte _) (g := (mkF m 11 #[.val (.ref a1), .val (.ref a2), .val (.int p3)] [(.int p3), (.ref a1)])) rfl rfl (hb hby d7_11)
  have N9 := Fr.snoc X9 N4 g_a1
  have K9 : Keep h0 h9 [a1] := K4.wr W9 (Or.inl (List.mem_of_getElem? (i := 0) rfl))
  have Z9 : n0 ≤ h9.size := Nat.le_trans Z4 (Keep.of_wr W9).1
  have G10 : Exa Z h9 a1 "java/lang/String" := G5.wr W9
  have G11 : Fld Z h9 a1 "java/lang/String" "value" "[B" (.ref a2) := G7.other W9 (Or.inr (slot_ne (Or.inr (hw _ (List.mem_of_getElem? (i := 39) rfl))) (Or.inr (hw _ (List.mem_of_getElem? (i := 41) rfl))) (by decide) (t := (.array .byte)) (t' := .byte) (by decide) (by decide)))
  have G12 : Fld Z h9 a1 "java/lang/String" "coder" "B" (.int (nar .byte p3)) := G6.same W9
  obtain ⟨fs, hr, hrun, hended, hW, hsame⟩ := X9.leave (v := none) (fun _ => rfl)
  refine ⟨_, _, pre0 _ ?_, hrun, hended, _, _, rfl, ?_, ⟨_, rfl⟩, hW, hsame.mono (by decide) (by decide)⟩
  · refine st1 _ ?_
    show Steps p.tables e below (s₁.setTop (mkF m 1 #[.val (.ref a1), .val (.ref a2), .val (.int p3)] [(.ref a1)])) _
    refine st2 _ ?_
    refine st3 _ ?_
    show Steps p.tables e below (T2.setTop (mkF m 6 #[.val (.ref a1), .val (.ref a2), .val (.int p3)] [(.ref a2), (.ref a1)])) _
    refine st4 _ ?_
    refine st8 _ ?_
    show Steps p.tables e below (T4.setTop (mkF m 11 #[.val (.ref a1), .val (.ref a2), .val (.int p3)] [(.int p3), (.ref a1)])) _
    refine st9 _ ?_
    show Steps p.tables e below (T9.setTop (mkF m 14 #[.val (.ref a1), .val (.ref a2), .val (.int p3)] [])) _
    exact X9.returnOut hx Bd.returns (hb hby d7_14) hr
  · show Q7 Z a1 a2 p3 h0 n0 _ T9.heap _
    rw [e9]
    exact ⟨rfl, N9, K9, G10, G11, G12⟩
theorem d4_0 : decode jdk_42_method_139_code 0 = .ok (.getstatic 38, 3) := by decide +kernel
theorem d4_3 : decode jdk_42_method_139_code 3 = .ok (.ifCond .eq 23, 3) := by decide +kernel
theorem d4_6 : decode jdk_42_method_139_code 6 = .ok (.iload_n 0, 1) := by decide +kernel
theorem d4_7 : decode jdk_42_method_139_code 7 = .ok (.invokestatic 1015, 3) := by decide +kernel
theorem d4_10 : decode jdk_42_method_139_code 10 = .ok (.ifCond .eq 16, 3) := by decide +kernel
theorem d4_13 : decode jdk_42_method_139_code 13 = .ok (.new 10, 3) := by decide +kernel
theorem d4_16 : decode jdk_42_method_139_code 16 = .ok (.dup, 1) := by decide +kernel
theorem d4_17 : decode jdk_42_method_139_code 17 = .ok (.iload_n 0, 1) := by decide +kernel
theorem d4_18 : decode jdk_42_method_139_code 18 = .ok (.invokestatic 1018, 3) := by decide +kernel
theorem d4_21 : decode jdk_42_method_139_code 21 = .ok (.iconst 0, 1) := by decide +kernel
theorem d4_22 : decode jdk_42_method_139_code 22 = .ok (.invokespecial 209, 3) := by decide +kernel
theorem d4_25 : decode jdk_42_method_139_code 25 = .ok (.areturn, 1) := by decide +kernel
theorem pn_4 : plainName "java/lang/String" = true := by first | (simp [plainName, overriddenIn]; done) | decide +kernel
theorem ef_4 (m : MethodId) (p1 : Int32) : entryFrame m #[(.int p1)] 1 = mkF m 0 #[.val (.int p1)] [] := by first | (simp [entryFrame, mkF, argsToLocals, Value.category]; done) | rfl
def Q4 (Z : State) (p1 : Int32) (wc : Int32) (h0 : Heap) (n0 : Nat) (v : Option Value) (h : Heap) (L : List Loc) : Prop := ∃ b, v = some (.ref b) ∧ Fr n0 L ∧ Keep h0 h [] ∧ n0 ≤ b ∧ h0.size ≤ b
set_option maxRecDepth 65536 in
set_option maxHeartbeats 40000000 in
theorem rm4 (l : Launch) (Z : State) (a0 : Array Value) (hw : ∀ d ∈ tables_1, d.before a0 Z = true) (ws : List Jvm.Cond) (p1 : Int32) (wc : Int32) (h0 : Heap) (n0 : Nat) (Z0 : n0 ≤ h0.size) (OLD : Old Z n0 h0) (S_c : Sta Z Z.heap "java/lang/String" "COMPACT_STRINGS" "Z" (.int wc)) (hwc : ¬ (wc = 0)) (hp : ¬ ((255 : Int32) < p1)) :
    MetFree l (⟨"java/lang/String", "valueOf", "(C)Ljava/lang/String;"⟩ : MethodName) (head1 (Jvm.Cond.code (⟨"java/lang/String", "valueOf", "(C)Ljava/lang/String;"⟩ : MethodName) jdk_42_method_139_code 1 (some (.object "java/lang/String")) :: ws) ({ frames := 2, cells := 2, slots := 5, locals := 27 } : Room)) (fun a U => a = #[(.int p1)] ∧ Z.Warmed39 U.vm ∧ U.heap = h0) (fun _ _ _ _ _ => True) (fun _ U oo U' => ∃ v L, oo = .returned v ∧ Q4 Z p1 wc h0 n0 v U'.heap L ∧ FrameEnd U oo U' L ({ frames := 2, cells := 2, slots := 5, locals := 27 } : Room).cells ({ frames := 2, cells := 2, slots := 5, locals := 27 } : Room).slots) := by
  refine MetFree.of_bodySF (plainFor_of_name pn_4) hisR ?_
  intro p e s m args below meth c s₁ Bd hml0 hP hK
  obtain ⟨rfl, hZ, hh⟩ := hP
  have hx := Bd.exec
  have hby := Bd.bytes
  have hml : c.maxLocals = 1 := hml0
  have hown : s.vm.findClass "java/lang/String" = some m.cls := findClass_of_methodNamed Bd.named
  have hnm := (name_of_methodNamed Bd.named Bd.method).1
  have X0 : Stand p l e ({ frames := 2, cells := 2, slots := 5, locals := 27 } : Room) s m #[(.int p1)] below meth c s₁ [] 0 0 := Stand.of_body Bd
  have e0 : s₁.heap = h0 := by rw [← hh, Bd.state]; rfl
  have N0 := Fr.nil n0
  have K0 : Keep h0 h0 [] := Keep.refl _ _
  have pre0 : ∀ tg, Steps p.tables e below (s₁.setTop (mkF m 0 #[.val (.int p1)] [])) tg → Steps p.tables e below (s₁.setTop (entryFrame m #[(.int p1)] 1)) tg := fun tg k => castTop (ef_4 m p1) k
  obtain ⟨T1, X1, e1, st1⟩ := getS2 X0 hx hZ hown (host := "") (Or.inl (hw _ (List.mem_of_getElem? (i := 22) rfl))) Via.refl e0 (Sta.ext OLD.2 S_c) (g := (mkF m 0 #[.val (.int p1)] [])) rfl (hb hby d4_0)
  have st2 : ∀ tg, Steps p.tables e below (T1.setTop (mkF m 7 #[.val (.int p1)] [(.int p1)])) tg → Steps p.tables e below (T1.setTop (mkF m 3 #[.val (.int p1)] [(.int wc)])) tg := by
    intro tg kt
    show Steps p.tables e below (T1.setTop (mkF m 3 #[.val (.int p1)] [(.int wc)])) tg
    refine XS.ifNo X1.here hx rfl (hb hby d4_3) rfl (XT.i0_eq_f hwc) ?_
    show Steps p.tables e below (T1.setTop (mkF m 6 #[.val (.int p1)] [])) tg
    refine XS.iloadN X1.here hx rfl (hb hby d4_6) rfl ?_
    exact kt
  obtain ⟨_, _, ⟨T3, L3, k3, n3⟩, -, X3, ⟨Lc3, hQ3, l3, y3, z3⟩, st3⟩ := Jvm.LawKit.callS X1 hx (y := (⟨"java/lang/StringLatin1", "canEncode", "(C)Z"⟩ : MethodName)) hown (mvT hZ (hw _ (List.mem_of_getElem? (i := 23) rfl))) (mvT hZ (hw _ (List.mem_of_getElem? (i := 24) rfl))) (mvT hZ (hw _ (List.mem_of_getElem? (i := 25) rfl))) (mvT hZ (hw _ (List.mem_of_getElem? (i := 26) rfl))) (by decide) (backOf (W := 0) (rm5 l Z a0 hw [] p1 h0 n0 Z0) hZ (hw _ (List.mem_of_getElem? (i := 26) rfl)) (hw _ (List.mem_of_getElem? (i := 25) rfl)) (by decide) (by decide)) (g := (mkF m 7 #[.val (.int p1)] [(.int p1)])) rfl (by rw [hml]; rfl) (argsL := [(.int p1)]) (rest := []) (lenOf pd_1 rfl) rfl (by show 2 * 0 + _ ≤ _; exact Nat.le_of_eq rfl) (hb hby d4_7) (fun _ _ => ⟨rfl, e1, (by decide : 0 + 0 ≤ _), (by decide : 0 + 0 ≤ _)⟩)
  dsimp only [Pt.U, Pt.locs, Pt.cells, Pt.slots] at X3 l3 y3 z3 st3 hQ3
  subst l3 y3 z3
  obtain ⟨rfl, N3q, e3⟩ := hQ3
  have N3 := Fr.app N0 N3q
  obtain ⟨r3, hr3⟩ : ∃ z, z = rv5 p1 := ⟨_, rfl⟩
  rw [← hr3] at st3
  have hf4 : ¬ (r3 = 0) := by rw [hr3]; simp only [rv5, if_neg hp]; decide
  have st5 : ∀ tg, Steps p.tables e below (T3.setTop (mkF m 13 #[.val (.int p1)] [])) tg → Steps p.tables e below (T3.setTop (mkF m 10 #[.val (.int p1)] [(.int r3)])) tg := by
    intro tg kt
    show Steps p.tables e below (T3.setTop (mkF m 10 #[.val (.int p1)] [(.int r3)])) tg
    refine XS.ifNo X3.here hx rfl (hb hby d4_10) rfl (XT.i0_eq_f hf4) ?_
    exact kt
  obtain ⟨T6, h6, X6, e6, E6, A6, D6, -, st6⟩ := newO X3 hx hZ hown (hw _ (List.mem_of_getElem? (i := 27) rfl)) (hw _ (List.mem_of_getElem? (i := 28) rfl)) (hw _ (List.mem_of_getElem? (i := 20) rfl)) e3 (g := (mkF m 13 #[.val (.int p1)] [])) rfl (hb hby d4_13) (by decide) (by decide)
  obtain ⟨b6, gz6⟩ : ∃ z, z = h0.size := ⟨_, rfl⟩
  rw [← gz6] at A6 D6 st6
  have g_b6 : n0 ≤ b6 := Nat.le_trans Z0 (Nat.le_of_eq gz6.symm)
  have sz_b6 : h0.size ≤ b6 := Nat.le_trans K0.1 (Nat.le_of_eq gz6.symm)
  have G7 : Old Z n0 h6 := OLD.ext E6
  have K6 : Keep h0 h6 [] := K0.ext E6
  have Z6 : n0 ≤ h6.size := Nat.le_trans Z0 E6.1
  have G8 : Exa Z h6 b6 "java/lang/String" := A6
  have G9 : Fld Z h6 b6 "java/lang/String" "value" "[B" .null := D6 (Or.inr (hw _ (List.mem_of_getElem? (i := 39) rfl))) (ty := (.array .byte)) (by decide)
  have G10 : Fld Z h6 b6 "java/lang/String" "coder" "B" (.int (0 : Int32)) := D6 (Or.inr (hw _ (List.mem_of_getElem? (i := 41) rfl))) (ty := .byte) (by decide)
  have st11 : ∀ tg, Steps p.tables e below (T6.setTop (mkF m 18 #[.val (.int p1)] [(.int p1), (.ref b6), (.ref b6)])) tg → Steps p.tables e below (T6.setTop (mkF m 16 #[.val (.int p1)] [(.ref b6)])) tg := by
    intro tg kt
    show Steps p.tables e below (T6.setTop (mkF m 16 #[.val (.int p1)] [(.ref b6)])) tg
    refine XS.dup X6.here hx rfl (hb hby d4_16) rfl rfl ?_
    show Steps p.tables e below (T6.setTop (mkF m 17 #[.val (.int p1)] [(.ref b6), (.ref b6)])) tg
    refine XS.iloadN X6.here hx rfl (hb hby d4_17) rfl ?_
    exact kt
  obtain ⟨_, _, ⟨T12, L12, k12, n12⟩, -, X12, ⟨Lc12, hQ12, l12, y12, z12⟩, st12⟩ := Jvm.LawKit.callS X6 hx (y := (⟨"java/lang/StringLatin1", "toBytes", "(C)[B"⟩ : MethodName)) hown (mvT hZ (hw _ (List.mem_of_getElem? (i := 29) rfl))) (mvT hZ (hw _ (List.mem_of_getElem? (i := 30) rfl))) (mvT hZ (hw _ (List.mem_of_getElem? (i := 25) rfl))) (mvT hZ (hw _ (List.mem_of_getElem? (i := 31) rfl))) (by decide) (backOf (W := 2) (rm6 l Z a0 hw [] p1 h6 n0 Z6) hZ (hw _ (List.mem_of_getElem? (i := 31) rfl)) (hw _ (List.mem_of_getElem? (i := 25) rfl)) (by decide) (by decide)) (g := (mkF m 18 #[.val (.int p1)] [(.int p1), (.ref b6), (.ref b6)])) rfl (by rw [hml]; rfl) (argsL := [(.int p1)]) (rest := [(.ref b6), (.ref b6)]) (lenOf pd_2 rfl) rfl (by show 2 * 0 + _ ≤ _; exact Nat.le_of_eq rfl) (hb hby d4_18) (fun _ _ => ⟨rfl, e6, (by decide : 1 + 1 ≤ _), (by decide : 4 + 1 ≤ _)⟩)
  dsimp only [Pt.U, Pt.locs, Pt.cells, Pt.slots] at X12 l12 y12 z12 st12 hQ12
  subst l12 y12 z12
  obtain ⟨b12, rfl, N12q, K12q, g_b12, sz12q⟩ := hQ12
  have N12 := Fr.app N3 N12q
  have ne_b6_b12 : b6 ≠ b12 := Nat.ne_of_lt (Nat.lt_of_lt_of_le G8.lt sz12q)
  have sz_b12 : h0.size ≤ b12 := Nat.le_trans K6.1 sz12q
  have G13 : Old Z n0 T12.heap := G7.keep K12q (all0)
  have G14 : Exa Z T12.heap b6 "java/lang/String" := G8.keep K12q
  have G15 : Fld Z T12.heap b6 "java/lang/String" "value" "[B" .null := G9.keep K12q (nin0)
  have G16 : Fld Z T12.heap b6 "java/lang/String" "coder" "B" (.int (0 : Int32)) := G10.keep K12q (nin0)
  have K12 : Keep h0 T12.heap [] := K6.trans K12q all0
  have Z12 : n0 ≤ T12.heap.size := Nat.le_trans Z6 K12q.1
  have st17 : ∀ tg, Steps p.tables e below (T12.setTop (mkF m 22 #[.val (.int p1)] [(.int (0 : Int32)), (.ref b12), (.ref b6), (.ref b6)])) tg → Steps p.tables e below (T12.setTop (mkF m 21 #[.val (.int p1)] [(.ref b12), (.ref b6), (.ref b6)])) tg := by
    intro tg kt
    show Steps p.tables e below (T12.setTop (mkF m 21 #[.val (.int p1)] [(.ref b12), (.ref b6), (.ref b6)])) tg
    refine XS.iconst X12.here hx rfl (hb hby d4_21) ?_
    exact kt
  obtain ⟨_, _, ⟨T18, L18, k18, n18⟩, -, X18, ⟨Lc18, hQ18, l18, y18, z18⟩, st18⟩ := X12.specialBack hx (y := (⟨"java/lang/String", "<init>", "([BB)V"⟩ : MethodName)) rfl hown (mvT hZ (hw _ (List.mem_of_getElem? (i := 33) rfl))) (mvT hZ (hw _ (List.mem_of_getElem? (i := 34) rfl))) (mvT hZ (hw _ (List.mem_of_getElem? (i := 36) rfl))) (by decide) (backOf (W := 1) (rm7 l Z a0 hw [] b6 b12 (0 : Int32) T12.heap n0 Z12 G15 G16 G14 g_b6) hZ (hw _ (List.mem_of_getElem? (i := 36) rfl)) (hw _ (List.mem_of_getElem? (i := 20) rfl)) (by decide) (by decide)) (g := (mkF m 22 #[.val (.int p1)] [(.int (0 : Int32)), (.ref b12), (.ref b6), (.ref b6)])) rfl (by rw [hml]; rfl) (Steps.refl _) (a := b6) (argsL := [(.ref b12), (.int (0 : Int32))]) (rest := [(.ref b6)]) (lenOf pd_3 rfl) rfl (by show 2 * 0 + _ ≤ _; exact Nat.le_of_eq rfl) (hb hby d4_22) (fun _ _ => ⟨rfl, rfl, (by decide : 2 + 0 ≤ _), (by decide : 5 + 0 ≤ _)⟩)
  dsimp only [Pt.U, Pt.locs, Pt.cells, Pt.slots] at X18 l18 y18 z18 st18 hQ18
  subst l18 y18 z18
  obtain ⟨rfl, N18q, K18q, E18q, F18q0, F18q1⟩ := hQ18
  have N18 := Fr.app N12 N18q
  have G19 : Old Z n0 T18.heap := G13.keep K18q (allS g_b6 (all0))
  have G20 : Exa Z T18.heap b6 "java/lang/String" := G14.keep K18q
  have K18 : Keep h0 T18.heap [] := K12.trans K18q (allS (Or.inr sz_b6) all0)
  have Z18 : n0 ≤ T18.heap.size := Nat.le_trans Z12 K18q.1
  obtain ⟨fs, hr, hrun, hended, hW, hsame⟩ := X18.leave (v := some (.ref b6)) (fun h => by rw [Bd.returns] at h; cases h)
  refine ⟨_, _, pre0 _ ?_, hrun, hended, _, _, rfl, ?_, ⟨_, rfl⟩, hW, hsame.mono (by decide) (by decide)⟩
  · show Steps p.tables e below (s₁.setTop (mkF m 0 #[.val (.int p1)] [])) _
    refine st1 _ ?_
    refine st2 _ ?_
    show Steps p.tables e below (T1.setTop (mkF m 7 #[.val (.int p1)] [(.int p1)])) _
    refine st3 _ ?_
    refine st5 _ ?_
    show Steps p.tables e below (T3.setTop (mkF m 13 #[.val (.int p1)] [])) _
    refine st6 _ ?_
    refine st11 _ ?_
    show Steps p.tables e below (T6.setTop (mkF m 18 #[.val (.int p1)] [(.int p1), (.ref b6), (.ref b6)])) _
    refine st12 _ ?_
    refine st17 _ ?_
    show Steps p.tables e below (T12.setTop (mkF m 22 #[.val (.int p1)] [(.int (0 : Int32)), (.ref b12), (.ref b6), (.ref b6)])) _
    refine st18.trans ?_
    show Steps p.tables e below (T18.setTop (mkF m 25 #[.val (.int p1)] [(.ref b6)])) _
    exact retOut X18 hx Bd.returns rfl (Or.inr (Or.inr (Or.inr (Or.inr ⟨rfl, rfl, rfl⟩)))) (hb hby d4_25) hr
  · show Q4 Z p1 wc h0 n0 _ T18.heap _
    skip
    exact ⟨b6, rfl, N18, K18, g_b6, sz_b6⟩
theorem d10_0 : decode jdk_22_method_1_code 0 = .ok (.aload_n 0, 1) := by decide +kernel
theorem d10_1 : decode jdk_22_method_1_code 1 = .ok (.invokespecial 1, 3) := by decide +kernel
theorem d10_4 : decode jdk_22_method_1_code 4 = .ok (.return_, 1) := by decide +kernel
theorem pn_10 : plainName "java/util/AbstractCollection" = true := by first | (simp [plainName, overriddenIn]; done) | decide +kernel
theorem ef_10 (m : MethodId) (a1 : Addr) : entryFrame m #[(.ref a1)] 1 = mkF m 0 #[.val (.ref a1)] [] := by first | (simp [entryFrame, mkF, argsToLocals, Value.category]; done) | rfl
def Q10 (Z : State) (a1 : Addr) (h0 : Heap) (n0 : Nat) (v : Option Value) (h : Heap) (L : List Loc) : Prop := v = none ∧ Fr n0 L ∧ h = h0
set_option maxRecDepth 65536 in
set_option maxHeartbeats 40000000 in
theorem rm10 (l : Launch) (Z : State) (a0 : Array Value) (hw : ∀ d ∈ tables_1, d.before a0 Z = true) (ws : List Jvm.Cond) (a1 : Addr) (h0 : Heap) (n0 : Nat) (Z0 : n0 ≤ h0.size) :
    MetFree l (⟨"java/util/AbstractCollection", "<init>", "()V"⟩ : MethodName) (head1 (Jvm.Cond.code (⟨"java/util/AbstractCollection", "<init>", "()V"⟩ : MethodName) jdk_22_method_1_code 1 none :: ws) ({ frames := 1, cells := 0, slots := 0, locals := 12 } : Room)) (fun a U => a = #[(.ref a1)] ∧ Z.Warmed39 U.vm ∧ U.heap = h0) (fun _ _ _ _ _ => True) (fun _ U oo U' => ∃ v L, oo = .returned v ∧ Q10 Z a1 h0 n0 v U'.heap L ∧ FrameEnd U oo U' L ({ frames := 1, cells := 0, slots := 0, locals := 12 } : Room).cells ({ frames := 1, cells := 0, slots := 0, locals := 12 } : Room).slots) := by
  refine MetFree.of_bodySF (plainFor_of_name pn_10) hisR ?_
  intro p e s m args below meth c s₁ Bd hml0 hP hK
  obtain ⟨rfl, hZ, hh⟩ := hP
  have hx := Bd.exec
  have hby := Bd.bytes
  have hml : c.maxLocals = 1 := hml0
  have hown : s.vm.findClass "java/util/AbstractCollection" = some m.cls := findClass_of_methodNamed Bd.named
  have hnm := (name_of_methodNamed Bd.named Bd.method).1
  have X0 : Stand p l e ({ frames := 1, cells := 0, slots := 0, locals := 12 } : Room) s m #[(.ref a1)] below meth c s₁ [] 0 0 := Stand.of_body Bd
  have e0 : s₁.heap = h0 := by rw [← hh, Bd.state]; rfl
  have N0 := Fr.nil n0
  have K0 : Keep h0 h0 [] := Keep.refl _ _
  have pre0 : ∀ tg, Steps p.tables e below (s₁.setTop (mkF m 0 #[.val (.ref a1)] [])) tg → Steps p.tables e below (s₁.setTop (entryFrame m #[(.ref a1)] 1)) tg := fun tg k => castTop (ef_10 m a1) k
  have st1 : ∀ tg, Steps p.tables e below (s₁.setTop (mkF m 1 #[.val (.ref a1)] [(.ref a1)])) tg → Steps p.tables e below (s₁.setTop (mkF m 0 #[.val (.ref a1)] [])) tg := by
    intro tg kt
    show Steps p.tables e below (s₁.setTop (mkF m 0 #[.val (.ref a1)] [])) tg
    refine XS.aloadN X0.here hx rfl (hb hby d10_0) rfl rfl ?_
    exact kt
  obtain ⟨T2, X2, e2, st2⟩ := initO X0 hx hZ hown (hw _ (List.mem_of_getElem? (i := 60) rfl)) (hw _ (List.mem_of_getElem? (i := 12) rfl)) (hw _ (List.mem_of_getElem? (i := 13) rfl)) e0 (g := (mkF m 1 #[.val (.ref a1)] [(.ref a1)])) rfl (by rw [hml]; rfl) rfl (hb hby d10_1) (by decide) (W := 0) (by show 2 * 0 + _ ≤ _; exact Nat.le_of_eq rfl) (by decide)
  obtain ⟨fs, hr, hrun, hended, hW, hsame⟩ := X2.leave (v := none) (fun _ => rfl)
  refine ⟨_, _, pre0 _ ?_, hrun, hended, _, _, rfl, ?_, ⟨_, rfl⟩, hW, hsame.mono (by decide) (by decide)⟩
  · refine st1 _ ?_
    show Steps p.tables e below (s₁.setTop (mkF m 1 #[.val (.ref a1)] [(.ref a1)])) _
    refine st2 _ ?_
    show Steps p.tables e below (T2.setTop (mkF m 4 #[.val (.ref a1)] [])) _
    exact X2.returnOut hx Bd.returns (hb hby d10_4) hr
  · show Q10 Z a1 h0 n0 _ T2.heap _
    rw [e2]
    exact ⟨rfl, N0, rfl⟩
theorem d9_0 : decode jdk_39_method_1_code 0 = .ok (.aload_n 0, 1) := by decide +kernel
theorem d9_1 : decode jdk_39_method_1_code 1 = .ok (.invokespecial 1, 3) := by decide +kernel
theorem d9_4 : decode jdk_39_method_1_code 4 = .ok (.aload_n 0, 1) := by decide +kernel
theorem d9_5 : decode jdk_39_method_1_code 5 = .ok (.iconst 0, 1) := by decide +kernel
theorem d9_6 : decode jdk_39_method_1_code 6 = .ok (.putfield 7, 3) := by decide +kernel
theorem d9_9 : decode jdk_39_method_1_code 9 = .ok (.return_, 1) := by decide +kernel
theorem pn_9 : plainName "java/util/AbstractList" = true := by first | (simp [plainName, overriddenIn]; done) | decide +kernel
theorem ef_9 (m : MethodId) (a1 : Addr) : entryFrame m #[(.ref a1)] 1 = mkF m 0 #[.val (.ref a1)] [] := by first | (simp [entryFrame, mkF, argsToLocals, Value.category]; done) | rfl
def Q9 (Z : State) (a1 : Addr) (h0 : Heap) (n0 : Nat) (v : Option Value) (h : Heap) (L : List Loc) : Prop := v = none ∧ Fr n0 L ∧ Keep h0 h [a1] ∧ Exa Z h a1 "java/util/ArrayList" ∧ Fld Z h a1 "java/util/AbstractList" "modCount" "I" (.int (0 : Int32)) ∧ Fld Z h a1 "java/util/ArrayList" "elementData" "[Ljava/lang/Object;" .null
set_option maxRecDepth 65536 in
set_option maxHeartbeats 40000000 in
theorem rm9 (l : Launch) (Z : State) (a0 : Array Value) (hw : ∀ d ∈ tables_1, d.before a0 Z = true) (ws : List Jvm.Cond) (a1 : Addr) (h0 : Heap) (n0 : Nat) (Z0 : n0 ≤ h0.size) (F_modCount : Fld Z h0 a1 "java/util/AbstractList" "modCount" "I" (.int (0 : Int32))) (F_elementData : Fld Z h0 a1 "java/util/ArrayList" "elementData" "[Ljava/lang/Object;" .null) (E_a1 : Exa Z h0 a1 "java/util/ArrayList") (g_a1 : n0 ≤ a1) :
    MetFree l (⟨"java/util/AbstractList", "<init>", "()V"⟩ : MethodName) (head1 (Jvm.Cond.code (⟨"java/util/AbstractList", "<init>", "()V"⟩ : MethodName) jdk_39_method_1_code 1 none :: ws) ({ frames := 2, cells := 0, slots := 0, locals := 24 } : Room)) (fun a U => a = #[(.ref a1)] ∧ Z.Warmed39 U.vm ∧ U.heap = h0) (fun _ _ _ _ _ => True) (fun _ U oo U' => ∃ v L, oo = .returned v ∧ Q9 Z a1 h0 n0 v U'.heap L ∧ FrameEnd U oo U' L ({ frames := 2, cells := 0, slots := 0, locals := 24 } : Room).cells ({ frames := 2, cells := 0, slots := 0, locals := 24 } : Room).slots) := by
  refine MetFree.of_bodySF (plainFor_of_name pn_9) hisR ?_
  intro p e s m args below meth c s₁ Bd hml0 hP hK
  obtain ⟨rfl, hZ, hh⟩ := hP
  have hx := Bd.exec
  have hby := Bd.bytes
  have hml : c.maxLocals = 1 := hml0
  have hown : s.vm.findClass "java/util/AbstractList" = some m.cls := findClass_of_methodNamed Bd.named
  have hnm := (name_of_methodNamed Bd.named Bd.method).1
  have X0 : Stand p l e ({ frames := 2, cells := 0, slots := 0, locals := 24 } : Room) s m #[(.ref a1)] below meth c s₁ [] 0 0 := Stand.of_body Bd
  have e0 : s₁.heap = h0 := by rw [← hh, Bd.state]; rfl
  have N0 := Fr.nil n0
  have K0 : Keep h0 h0 [a1] := Keep.refl _ _
  have pre0 : ∀ tg, Steps p.tables e below (s₁.setTop (mkF m 0 #[.val (.ref a1)] [])) tg → Steps p.tables e below (s₁.setTop (entryFrame m #[(.ref a1)] 1)) tg := fun tg k => castTop (ef_9 m a1) k
  have st1 : ∀ tg, Steps p.tables e below (s₁.setTop (mkF m 1 #[.val (.ref a1)] [(.ref a1)])) tg → Steps p.tables e below (s₁.setTop (mkF m 0 #[.val (.ref a1)] [])) tg := by
    intro tg kt
    show Steps p.tables e below (s₁.setTop (mkF m 0 #[.val (.ref a1)] [])) tg
    refine XS.aloadN X0.here hx rfl (hb hby d9_0) rfl rfl ?_
    exact kt
  obtain ⟨_, _, ⟨T2, L2, k2, n2⟩, -, X2, ⟨Lc2, hQ2, l2, y2, z2⟩, st2⟩ := X0.specialBack hx (y := (⟨"java/util/AbstractCollection", "<init>", "()V"⟩ : MethodName)) rfl hown (mvT hZ (hw _ (List.mem_of_getElem? (i := 54) rfl))) (mvT hZ (hw _ (List.mem_of_getElem? (i := 55) rfl))) (mvT hZ (hw _ (List.mem_of_getElem? (i := 59) rfl))) (by decide) (backOf (W := 0) (rm10 l Z a0 hw [] a1 h0 n0 Z0) hZ (hw _ (List.mem_of_getElem? (i := 59) rfl)) (hw _ (List.mem_of_getElem? (i := 58) rfl)) (by decide) (by decide)) (g := (mkF m 1 #[.val (.ref a1)] [(.ref a1)])) rfl (by rw [hml]; rfl) (Steps.refl _) (a := a1) (argsL := []) (rest := []) (lenOf pd_0 rfl) rfl (by show 2 * 0 + _ ≤ _; exact Nat.le_of_eq rfl) (hb hby d9_1) (fun _ _ => ⟨rfl, e0, (by decide : 0 + 0 ≤ _), (by decide : 0 + 0 ≤ _)⟩)
  dsimp only [Pt.U, Pt.locs, Pt.cells, Pt.slots] at X2 l2 y2 z2 st2 hQ2
  subst l2 y2 z2
  obtain ⟨rfl, N2q, e2⟩ := hQ2
  have N2 := Fr.app N0 N2q
  have st3 : ∀ tg, Steps p.tables e below (T2.setTop (mkF m 6 #[.val (.ref a1)] [(.int (0 : Int32)), (.ref a1)])) tg → Steps p.tables e below (T2.setTop (mkF m 4 #[.val (.ref a1)] [])) tg := by
    intro tg kt
    show Steps p.tables e below (T2.setTop (mkF m 4 #[.val (.ref a1)] [])) tg
    refine XS.aloadN X2.here hx rfl (hb hby d9_4) rfl rfl ?_
    show Steps p.tables e below (T2.setTop (mkF m 5 #[.val (.ref a1)] [(.ref a1)])) tg
    refine XS.iconst X2.here hx rfl (hb hby d9_5) ?_
    exact kt
  obtain ⟨T4, h4, X4, e4, W4, st4⟩ := putF X2 hx hZ hown (host := "") (Or.inl (hw _ (List.mem_of_getElem? (i := 61) rfl))) Via.refl e2 F_modCount E_a1 (Or.inl (hw _ (List.mem_of_getElem? (i := 62) rfl))) (hw _ (List.mem_of_getElem? (i := 43) rfl)) (ty := .int) (by decide) rfl rfl (g := (mkF m 6 #[.val (.ref a1)] [(.int (0 : Int32)), (.ref a1)])) rfl rfl (hb hby d9_6)
  have N4 := Fr.snoc X4 N2 g_a1
  have K4 : Keep h0 h4 [a1] := K0.wr W4 (Or.inl (List.mem_of_getElem? (i := 0) rfl))
  have Z4 : n0 ≤ h4.size := Nat.le_trans Z0 (Keep.of_wr W4).1
  have G5 : Exa Z h4 a1 "java/util/ArrayList" := E_a1.wr W4
  have G6 : Fld Z h4 a1 "java/util/ArrayList" "elementData" "[Ljava/lang/Object;" .null := F_elementData.other W4 (Or.inr (slot_ne (Or.inl (hw _ (List.mem_of_getElem? (i := 65) rfl))) (Or.inl (hw _ (List.mem_of_getElem? (i := 62) rfl))) (by decide) (t := (.array (.object "java/lang/Object"))) (t' := .int) (by decide) (by decide)))
  have G7 : Fld Z h4 a1 "java/util/AbstractList" "modCount" "I" (.int (0 : Int32)) := F_modCount.same W4
  obtain ⟨fs, hr, hrun, hended, hW, hsame⟩ := X4.leave (v := none) (fun _ => rfl)
  refine ⟨_, _, pre0 _ ?_, hrun, hended, _, _, rfl, ?_, ⟨_, rfl⟩, hW, hsame.mono (by decide) (by decide)⟩
  · refine st1 _ ?_
    show Steps p.tables e below (s₁.setTop (mkF m 1 #[.val (.ref a1)] [(.ref a1)])) _
    refine st2.trans ?_
    refine st3 _ ?_
    show Steps p.tables e below (T2.setTop (mkF m 6 #[.val (.ref a1)] [(.int (0 : Int32)), (.ref a1)])) _
    refine st4 _ ?_
    show Steps p.tables e below (T4.setTop (mkF m 9 #[.val (.ref a1)] [])) _
    exact X4.returnOut hx Bd.returns (hb hby d9_9) hr
  · show Q9 Z a1 h0 n0 _ T4.heap _
    rw [e4]
    exact ⟨rfl, N4, K4, G5, G7, G6⟩
theorem d8_0 : decode jdk_38_method_2_code 0 = .ok (.aload_n 0, 1) := by decide +kernel
theorem d8_1 : decode jdk_38_method_2_code 1 = .ok (.invokespecial 1, 3) := by decide +kernel
theorem d8_4 : decode jdk_38_method_2_code 4 = .ok (.aload_n 0, 1) := by decide +kernel
theorem d8_5 : decode jdk_38_method_2_code 5 = .ok (.getstatic 39, 3) := by decide +kernel
theorem d8_8 : decode jdk_38_method_2_code 8 = .ok (.putfield 9, 3) := by decide +kernel
theorem d8_11 : decode jdk_38_method_2_code 11 = .ok (.return_, 1) := by decide +kernel
theorem pn_8 : plainName "java/util/ArrayList" = true := by first | (simp [plainName, overriddenIn]; done) | decide +kernel
theorem ef_8 (m : MethodId) (a1 : Addr) : entryFrame m #[(.ref a1)] 1 = mkF m 0 #[.val (.ref a1)] [] := by first | (simp [entryFrame, mkF, argsToLocals, Value.category]; done) | rfl
def Q8 (Z : State) (a1 : Addr) (wd : Addr) (h0 : Heap) (n0 : Nat) (v : Option Value) (h : Heap) (L : List Loc) : Prop := v = none ∧ Fr n0 L ∧ Keep h0 h [a1] ∧ Exa Z h a1 "java/util/ArrayList" ∧ Fld Z h a1 "java/util/AbstractList" "modCount" "I" (.int (0 : Int32)) ∧ Fld Z h a1 "java/util/ArrayList" "elementData" "[Ljava/lang/Object;" (.ref wd)
set_option maxRecDepth 65536 in
set_option maxHeartbeats 40000000 in
theorem rm8 (l : Launch) (Z : State) (a0 : Array Value) (hw : ∀ d ∈ tables_1, d.before a0 Z = true) (ws : List Jvm.Cond) (a1 : Addr) (wd : Addr) (h0 : Heap) (n0 : Nat) (Z0 : n0 ≤ h0.size) (F_modCount : Fld Z h0 a1 "java/util/AbstractList" "modCount" "I" (.int (0 : Int32))) (F_elementData : Fld Z h0 a1 "java/util/ArrayList" "elementData" "[Ljava/lang/Object;" .null) (E_a1 : Exa Z h0 a1 "java/util/ArrayList") (g_a1 : n0 ≤ a1) (OLD : Old Z n0 h0) (S_d : Sta Z Z.heap "java/util/ArrayList" "DEFAULTCAPACITY_EMPTY_ELEMENTDATA" "[Ljava/lang/Object;" (.ref wd)) :
    MetFree l (⟨"java/util/ArrayList", "<init>", "()V"⟩ : MethodName) (head1 (Jvm.Cond.code (⟨"java/util/ArrayList", "<init>", "()V"⟩ : MethodName) jdk_38_method_2_code 1 none :: ws) ({ frames := 3, cells := 0, slots := 0, locals := 36 } : Room)) (fun a U => a = #[(.ref a1)] ∧ Z.Warmed39 U.vm ∧ U.heap = h0) (fun _ _ _ _ _ => True) (fun _ U oo U' => ∃ v L, oo = .returned v ∧ Q8 Z a1 wd h0 n0 v U'.heap L ∧ FrameEnd U oo U' L ({ frames := 3, cells := 0, slots := 0, locals := 36 } : Room).cells ({ frames := 3, cells := 0, slots := 0, locals := 36 } : Room).slots) := by
  refine MetFree.of_bodySF (plainFor_of_name pn_8) hisR ?_
  intro p e s m args below meth c s₁ Bd hml0 hP hK
  obtain ⟨rfl, hZ, hh⟩ := hP
  have hx := Bd.exec
  have hby := Bd.bytes
  have hml : c.maxLocals = 1 := hml0
  have hown : s.vm.findClass "java/util/ArrayList" = some m.cls := findClass_of_methodNamed Bd.named
  have hnm := (name_of_methodNamed Bd.named Bd.method).1
  have X0 : Stand p l e ({ frames := 3, cells := 0, slots := 0, locals := 36 } : Room) s m #[(.ref a1)] below meth c s₁ [] 0 0 := Stand.of_body Bd
  have e0 : s₁.heap = h0 := by rw [← hh, Bd.state]; rfl
  have N0 := Fr.nil n0
  have K0 : Keep h0 h0 [a1] := Keep.refl _ _
  have pre0 : ∀ tg, Steps p.tables e below (s₁.setTop (mkF m 0 #[.val (.ref a1)] [])) tg → Steps p.tables e below (s₁.setTop (entryFrame m #[(.ref a1)] 1)) tg := fun tg k => castTop (ef_8 m a1) k
  have st1 : ∀ tg, Steps p.tables e below (s₁.setTop (mkF m 1 #[.val (.ref a1)] [(.ref a1)])) tg → Steps p.tables e below (s₁.setTop (mkF m 0 #[.val (.ref a1)] [])) tg := by
    intro tg kt
    show Steps p.tables e below (s₁.setTop (mkF m 0 #[.val (.ref a1)] [])) tg
    refine XS.aloadN X0.here hx rfl (hb hby d8_0) rfl rfl ?_
    exact kt
  obtain ⟨_, _, ⟨T2, L2, k2, n2⟩, -, X2, ⟨Lc2, hQ2, l2, y2, z2⟩, st2⟩ := X0.specialBack hx (y := (⟨"java/util/AbstractList", "<init>", "()V"⟩ : MethodName)) rfl hown (mvT hZ (hw _ (List.mem_of_getElem? (i := 48) rfl))) (mvT hZ (hw _ (List.mem_of_getElem? (i := 49) rfl))) (mvT hZ (hw _ (List.mem_of_getElem? (i := 53) rfl))) (by decide) (backOf (W := 0) (rm9 l Z a0 hw [] a1 h0 n0 Z0 F_modCount F_elementData E_a1 g_a1) hZ (hw _ (List.mem_of_getElem? (i := 53) rfl)) (hw _ (List.mem_of_getElem? (i := 52) rfl)) (by decide) (by decide)) (g := (mkF m 1 #[.val (.ref a1)] [(.ref a1)])) rfl (by rw [hml]; rfl) (Steps.refl _) (a := a1) (argsL := []) (rest := []) (lenOf pd_0 rfl) rfl (by show 2 * 0 + _ ≤ _; exact Nat.le_of_eq rfl) (hb hby d8_1) (fun _ _ => ⟨rfl, e0, (by decide : 0 + 0 ≤ _), (by decide : 0 + 0 ≤ _)⟩)
  dsimp only [Pt.U, Pt.locs, Pt.cells, Pt.slots] at X2 l2 y2 z2 st2 hQ2
  subst l2 y2 z2
  obtain ⟨rfl, N2q, K2q, E2q, F2q0, F2q1⟩ := hQ2
  have N2 := Fr.app N0 N2q
  have G3 : Old Z n0 T2.heap := OLD.keep K2q (allS g_a1 (all0))
  have G4 : Exa Z T2.heap a1 "java/util/ArrayList" := E_a1.keep K2q
  have K2 : Keep h0 T2.heap [a1] := K0.trans K2q (allS (Or.inl (List.mem_of_getElem? (i := 0) rfl)) all0)
  have Z2 : n0 ≤ T2.heap.size := Nat.le_trans Z0 K2q.1
  have st5 : ∀ tg, Steps p.tables e below (T2.setTop (mkF m 5 #[.val (.ref a1)] [(.ref a1)])) tg → Steps p.tables e below (T2.setTop (mkF m 4 #[.val (.ref a1)] [])) tg := by
    intro tg kt
    show Steps p.tables e below (T2.setTop (mkF m 4 #[.val (.ref a1)] [])) tg
    refine XS.aloadN X2.here hx rfl (hb hby d8_4) rfl rfl ?_
    exact kt
  obtain ⟨T6, X6, e6, st6⟩ := getS2 X2 hx hZ hown (host := "") (Or.inl (hw _ (List.mem_of_getElem? (i := 63) rfl))) Via.refl rfl (Sta.ext G3.2 S_d) (g := (mkF m 5 #[.val (.ref a1)] [(.ref a1)])) rfl (hb hby d8_5)
  obtain ⟨T7, h7, X7, e7, W7, st7⟩ := putF X6 hx hZ hown (host := "") (Or.inl (hw _ (List.mem_of_getElem? (i := 64) rfl))) Via.refl e6 F2q1 E2q (Or.inl (hw _ (List.mem_of_getElem? (i := 65) rfl))) (hw _ (List.mem_of_getElem? (i := 43) rfl)) (ty := (.array (.object "java/lang/Object"))) (by decide) rfl rfl (g := (mkF m 8 #[.val (.ref a1)] [(.ref wd), (.ref a1)])) rfl rfl (hb hby d8_8)
  have N7 := Fr.snoc X7 N2 g_a1
  have K7 : Keep h0 h7 [a1] := K2.wr W7 (Or.inl (List.mem_of_getElem? (i := 0) rfl))
  have Z7 : n0 ≤ h7.size := Nat.le_trans Z2 (Keep.of_wr W7).1
  have G8 : Old Z n0 h7 := G3.wr W7 g_a1
  have G9 : Exa Z h7 a1 "java/util/ArrayList" := E2q.wr W7
  have G10 : Fld Z h7 a1 "java/util/AbstractList" "modCount" "I" (.int (0 : Int32)) := F2q0.other W7 (Or.inr (slot_ne (Or.inl (hw _ (List.mem_of_getElem? (i := 62) rfl))) (Or.inl (hw _ (List.mem_of_getElem? (i := 65) rfl))) (by decide) (t := .int) (t' := (.array (.object "java/lang/Object"))) (by decide) (by decide)))
  have G11 : Fld Z h7 a1 "java/util/ArrayList" "elementData" "[Ljava/lang/Object;" (.ref wd) := F2q1.same W7
  obtain ⟨fs, hr, hrun, hended, hW, hsame⟩ := X7.leave (v := none) (fun _ => rfl)
  refine ⟨_, _, pre0 _ ?_, hrun, hended, _, _, rfl, ?_, ⟨_, rfl⟩, hW, hsame.mono (by decide) (by decide)⟩
  · refine st1 _ ?_
    show Steps p.tables e below (s₁.setTop (mkF m 1 #[.val (.ref a1)] [(.ref a1)])) _
    refine st2.trans ?_
    refine st5 _ ?_
    show Steps p.tables e below (T2.setTop (mkF m 5 #[.val (.ref a1)] [(.ref a1)])) _
    refine st6 _ ?_
    show Steps p.tables e below (T6.setTop (mkF m 8 #[.val (.ref a1)] [(.ref wd), (.ref a1)])) _
    refine st7 _ ?_
    show Steps p.tables e below (T7.setTop (mkF m 11 #[.val (.ref a1)] [])) _
    exact X7.returnOut hx Bd.returns (hb hby d8_11) hr
  · show Q8 Z a1 wd h0 n0 _ T7.heap _
    rw [e7]
    exact ⟨rfl, N7, K7, G9, G10, G11⟩
theorem d11_0 : decode prog_14_method_1_code 0 = .ok (.aload_n 0, 1) := by decide +kernel
theorem d11_1 : decode prog_14_method_1_code 1 = .ok (.invokespecial 1, 3) := by decide +kernel
theorem d11_4 : decode prog_14_method_1_code 4 = .ok (.aload_n 0, 1) := by decide +kernel
theorem d11_5 : decode prog_14_method_1_code 5 = .ok (.aload_n 1, 1) := by decide +kernel
theorem d11_6 : decode prog_14_method_1_code 6 = .ok (.putfield 7, 3) := by decide +kernel
theorem d11_9 : decode prog_14_method_1_code 9 = .ok (.aload_n 0, 1) := by decide +kernel
theorem d11_10 : decode prog_14_method_1_code 10 = .ok (.aload_n 2, 1) := by decide +kernel
theorem d11_11 : decode prog_14_method_1_code 11 = .ok (.putfield 13, 3) := by decide +kernel
theorem d11_14 : decode prog_14_method_1_code 14 = .ok (.aload_n 0, 1) := by decide +kernel
theorem d11_15 : decode prog_14_method_1_code 15 = .ok (.aload_n 3, 1) := by decide +kernel
theorem d11_16 : decode prog_14_method_1_code 16 = .ok (.putfield 17, 3) := by decide +kernel
theorem d11_19 : decode prog_14_method_1_code 19 = .ok (.return_, 1) := by decide +kernel
theorem pn_11 : plainName "com/example/oriflamme/oriflamme/language/Expr$Param" = true := by first | (simp [plainName, overriddenIn]; done) | decide +kernel
theorem ef_11 (m : MethodId) (a1 : Addr) (a2 : Addr) (a3 : Addr) (a4 : Addr) : entryFrame m #[(.ref a1), (.ref a2), (.ref a3), (.ref a4)] 4 = mkF m 0 #[.val (.ref a1), .val (.ref a2), .val (.ref a3), .val (.ref a4)] [] := by first | (simp [entryFrame, mkF, argsToLocals, Value.category]; done) | rfl
def Q11 (Z : State) (a1 : Addr) (a2 : Addr) (a3 : Addr) (a4 : Addr) (h0 : Heap) (n0 : Nat) (v : Option Value) (h : Heap) (L : List Loc) : Prop := v = none ∧ Fr n0 L ∧ Keep h0 h [a1] ∧ Exa Z h a1 "com/example/oriflamme/oriflamme/language/Expr$Param" ∧ Fld Z h a1 "com/example/oriflamme/oriflamme/language/Expr$Param" "at" "Lcom/example/oriflamme/oriflamme/language/Position;" (.ref a2) ∧ Fld Z h a1 "com/example/oriflamme/oriflamme/language/Expr$Param" "name" "Ljava/lang/String;" (.ref a3) ∧ Fld Z h a1 "com/example/oriflamme/oriflamme/language/Expr$Param" "type" "Lcom/example/oriflamme/oriflamme/language/Type;" (.ref a4)
set_option maxRecDepth 65536 in
set_option maxHeartbeats 40000000 in
theorem rm11 (l : Launch) (Z : State) (a0 : Array Value) (hw : ∀ d ∈ tables_1, d.before a0 Z = true) (ws : List Jvm.Cond) (a1 : Addr) (a2 : Addr) (a3 : Addr) (a4 : Addr) (h0 : Heap) (n0 : Nat) (Z0 : n0 ≤ h0.size) (F_at : Fld Z h0 a1 "com/example/oriflamme/oriflamme/language/Expr$Param" "at" "Lcom/example/oriflamme/oriflamme/language/Position;" .null) (F_name : Fld Z h0 a1 "com/example/oriflamme/oriflamme/language/Expr$Param" "name" "Ljava/lang/String;" .null) (F_type : Fld Z h0 a1 "com/example/oriflamme/oriflamme/language/Expr$Param" "type" "Lcom/example/oriflamme/oriflamme/language/Type;" .null) (E_a1 : Exa Z h0 a1 "com/example/oriflamme/oriflamme/language/Expr$Param") (g_a1 : n0 ≤ a1) :
    MetFree l (⟨"com/example/oriflamme/oriflamme/language/Expr$Param", "<init>", "(Lcom/example/oriflamme/oriflamme/language/Position;Ljava/lang/String;Lcom/example/oriflamme/oriflamme/language/Type;)V"⟩ : MethodName) (head1 (Jvm.Cond.code (⟨"com/example/oriflamme/oriflamme/language/Expr$Param", "<init>", "(Lcom/example/oriflamme/oriflamme/language/Position;Ljava/lang/String;Lcom/example/oriflamme/oriflamme/language/Type;)V"⟩ : MethodName) prog_14_method_1_code 4 none :: ws) ({ frames := 2, cells := 0, slots := 0, locals := 24 } : Room)) (fun a U => a = #[(.ref a1), (.ref a2), (.ref a3), (.ref a4)] ∧ Z.Warmed39 U.vm ∧ U.heap = h0) (fun _ _ _ _ _ => True) (fun _ U oo U' => ∃ v L, oo = .returned v ∧ Q11 Z a1 a2 a3 a4 h0 n0 v U'.heap L ∧ FrameEnd U oo U' L ({ frames := 2, cells := 0, slots := 0, locals := 24 } : Room).cells ({ frames := 2, cells := 0, slots := 0, locals := 24 } : Room).slots) := by
  refine MetFree.of_bodySF (plainFor_of_name pn_11) hisR ?_
  intro p e s m args below meth c s₁ Bd hml0 hP hK
  obtain ⟨rfl, hZ, hh⟩ := hP
  have hx := Bd.exec
  have hby := Bd.bytes
  have hml : c.maxLocals = 4 := hml0
  have hown : s.vm.findClass "com/example/oriflamme/oriflamme/language/Expr$Param" = some m.cls := findClass_of_methodNamed Bd.named
  have hnm := (name_of_methodNamed Bd.named Bd.method).1
  have X0 : Stand p l e ({ frames := 2, cells := 0, slots := 0, locals := 24 } : Room) s m #[(.ref a1), (.ref a2), (.ref a3), (.ref a4)] below meth c s₁ [] 0 0 := Stand.of_body Bd
  have e0 : s₁.heap = h0 := by rw [← hh, Bd.state]; rfl
  have N0 := Fr.nil n0
  have K0 : Keep h0 h0 [a1] := Keep.refl _ _
  have pre0 : ∀ tg, Steps p.tables e below (s₁.setTop (mkF m 0 #[.val (.ref a1), .val (.ref a2), .val (.ref a3), .val (.ref a4)] [])) tg → Steps p.tables e below (s₁.setTop (entryFrame m #[(.ref a1), (.ref a2), (.ref a3), (.ref a4)] 4)) tg := fun tg k => castTop (ef_11 m a1 a2 a3 a4) k
  have st1 : ∀ tg, Steps p.tables e below (s₁.setTop (mkF m 1 #[.val (.ref a1), .val (.ref a2), .val (.ref a3), .val (.ref a4)] [(.ref a1)])) tg → Steps p.tables e below (s₁.setTop (mkF m 0 #[.val (.ref a1), .val (.ref a2), .val (.ref a3), .val (.ref a4)] [])) tg := by
    intro tg kt
    show Steps p.tables e below (s₁.setTop (mkF m 0 #[.val (.ref a1), .val (.ref a2), .val (.ref a3), .val (.ref a4)] [])) tg
    refine XS.aloadN X0.here hx rfl (hb hby d11_0) rfl rfl ?_
    exact kt
  obtain ⟨_, _, ⟨T2, L2, k2, n2⟩, -, X2, ⟨Lc2, hQ2, l2, y2, z2⟩, st2⟩ := X0.specialBack hx (y := (⟨"java/lang/Record", "<init>", "()V"⟩ : MethodName)) rfl hown (mvT hZ (hw _ (List.mem_of_getElem? (i := 72) rfl))) (mvT hZ (hw _ (List.mem_of_getElem? (i := 7) rfl))) (mvT hZ (hw _ (List.mem_of_getElem? (i := 10) rfl))) (by decide) (backOf (W := 0) (rm2 l Z a0 hw [] a1 h0 n0 Z0) hZ (hw _ (List.mem_of_getElem? (i := 10) rfl)) (hw _ (List.mem_of_getElem? (i := 9) rfl)) (by decide) (by decide)) (g := (mkF m 1 #[.val (.ref a1), .val (.ref a2), .val (.ref a3), .val (.ref a4)] [(.ref a1)])) rfl (by rw [hml]; rfl) (Steps.refl _) (a := a1) (argsL := []) (rest := []) (lenOf pd_0 rfl) rfl (by show 2 * 0 + _ ≤ _; exact Nat.le_of_eq rfl) (hb hby d11_1) (fun _ _ => ⟨rfl, e0, (by decide : 0 + 0 ≤ _), (by decide : 0 + 0 ≤ _)⟩)
  dsimp only [Pt.U, Pt.locs, Pt.cells, Pt.slots] at X2 l2 y2 z2 st2 hQ2
  subst l2 y2 z2
  obtain ⟨rfl, N2q, e2⟩ := hQ2
  have N2 := Fr.app N0 N2q
  have st3 : ∀ tg, Steps p.tables e below (T2.setTop (mkF m 6 #[.val (.ref a1), .val (.ref a2), .val (.ref a3), .val (.ref a4)] [(.ref a2), (.ref a1)])) tg → Steps p.tables e below (T2.setTop (mkF m 4 #[.val (.ref a1), .val (.ref a2), .val (.ref a3), .val (.ref a4)] [])) tg := by
    intro tg kt
    show Steps p.tables e below (T2.setTop (mkF m 4 #[.val (.ref a1), .val (.ref a2), .val (.ref a3), .val (.ref a4)] [])) tg
    refine XS.aloadN X2.here hx rfl (hb hby d11_4) rfl rfl ?_
    show Steps p.tables e below (T2.setTop (mkF m 5 #[.val (.ref a1), .val (.ref a2), .val (.ref a3), .val (.ref a4)] [(.ref a1)])) tg
    refine XS.aloadN X2.here hx rfl (hb hby d11_5) rfl rfl ?_
    exact kt
  obtain ⟨T4, h4, X4, e4, W4, st4⟩ := putF X2 hx hZ hown (host := "") (Or.inl (hw _ (List.mem_of_getElem? (i := 73) rfl))) Via.refl e2 F_at E_a1 (Or.inr ⟨(hw _ (List.mem_of_getElem? (i := 74) rfl)), rfl, hnm⟩) (hw _ (List.mem_of_getElem? (i := 67) rfl)) (ty := (.object "com/example/oriflamme/oriflamme/language/Position")) (by decide) rfl rfl (g := (mkF m 6 #[.val (.ref a1), .val (.ref a2), .val (.ref a3), .val (.ref a4)] [(.ref a2), (.ref a1)])) rfl rfl (hb hby d11_6)
  have N4 := Fr.snoc X4 N2 g_a1
  have K4 : Keep h0 h4 [a1] := K0.wr W4 (Or.inl (List.mem_of_getElem? (i := 0) rfl))
  have Z4 : n0 ≤ h4.size := Nat.le_trans Z0 (Keep.of_wr W4).1
  have G5 : Exa Z h4 a1 "com/example/oriflamme/oriflamme/language/Expr$Param" := E_a1.wr W4
  have G6 : Fld Z h4 a1 "com/example/oriflamme/oriflamme/language/Expr$Param" "name" "Ljava/lang/String;" .null := F_name.other W4 (Or.inr (slot_ne (Or.inr (hw _ (List.mem_of_getElem? (i := 76) rfl))) (Or.inr (hw _ (List.mem_of_getElem? (i := 74) rfl))) (by decide) (t := (.object "java/lang/String")) (t' := (.object "com/example/oriflamme/oriflamme/language/Position")) (by decide) (by decide)))
  have G7 : Fld Z h4 a1 "com/example/oriflamme/oriflamme/language/Expr$Param" "type" "Lcom/example/oriflamme/oriflamme/language/Type;" .null := F_type.other W4 (Or.inr (slot_ne (Or.inr (hw _ (List.mem_of_getElem? (i := 78) rfl))) (Or.inr (hw _ (List.mem_of_getElem? (i := 74) rfl))) (by decide) (t := (.object "com/example/oriflamme/oriflamme/language/Type")) (t' := (.object "com/example/oriflamme/oriflamme/language/Position")) (by decide) (by decide)))
  have G8 : Fld Z h4 a1 "com/example/oriflamme/oriflamme/language/Expr$Param" "at" "Lcom/example/oriflamme/oriflamme/language/Position;" (.ref a2) := F_at.same W4
  have st9 : ∀ tg, Steps p.tables e below (T4.setTop (mkF m 11 #[.val (.ref a1), .val (.ref a2), .val (.ref a3), .val (.ref a4)] [(.ref a3), (.ref a1)])) tg → Steps p.tables e below (T4.setTop (mkF m 9 #[.val (.ref a1), .val (.ref a2), .val (.ref a3), .val (.ref a4)] [])) tg := by
    intro tg kt
    show Steps p.tables e below (T4.setTop (mkF m 9 #[.val (.ref a1), .val (.ref a2), .val (.ref a3), .val (.ref a4)] [])) tg
    refine XS.aloadN X4.here hx rfl (hb hby d11_9) rfl rfl ?_
    show Steps p.tables e below (T4.setTop (mkF m 10 #[.val (.ref a1), .val (.ref a2), .val (.ref a3), .val (.ref a4)] [(.ref a1)])) tg
    refine XS.aloadN X4.here hx rfl (hb hby d11_10) rfl rfl ?_
    exact kt
  obtain ⟨T10, h10, X10, e10, W10, st10⟩ := putF X4 hx hZ hown (host := "") (Or.inl (hw _ (List.mem_of_getElem? (i := 75) rfl))) Via.refl e4 G6 G5 (Or.inr ⟨(hw _ (List.mem_of_getElem? (i := 76) rfl)), rfl, hnm⟩) (hw _ (List.mem_of_getElem? (i := 67) rfl)) (ty := (.object "java/lang/String")) (by decide) rfl rfl (g := (mkF m 11 #[.val (.ref a1), .val (.ref a2), .val (.ref a3), .val (.ref a4)] [(.ref a3), (.ref a1)])) rfl rfl (hb hby d11_11)
  have N10 := Fr.snoc X10 N4 g_a1
  have K10 : Keep h0 h10 [a1] := K4.wr W10 (Or.inl (List.mem_of_getElem? (i := 0) rfl))
  have Z10 : n0 ≤ h10.size := Nat.le_trans Z4 (Keep.of_wr W10).1
  have G11 : Exa Z h10 a1 "com/example/oriflamme/oriflamme/language/Expr$Param" := G5.wr W10
  have G12 : Fld Z h10 a1 "com/example/oriflamme/oriflamme/language/Expr$Param" "type" "Lcom/example/oriflamme/oriflamme/language/Type;" .null := G7.other W10 (Or.inr (slot_ne (Or.inr (hw _ (List.mem_of_getElem? (i := 78) rfl))) (Or.inr (hw _ (List.mem_of_getElem? (i := 76) rfl))) (by decide) (t := (.object "com/example/oriflamme/oriflamme/language/Type")) (t' := (.object "java/lang/String")) (by decide) (by decide)))
  have G13 : Fld Z h10 a1 "com/example/oriflamme/oriflamme/language/Expr$Param" "at" "Lcom/example/oriflamme/oriflamme/language/Position;" (.ref a2) := G8.other W10 (Or.inr (slot_ne (Or.inr (hw _ (List.mem_of_getElem? (i := 74) rfl))) (Or.inr (hw _ (List.mem_of_getElem? (i := 76) rfl))) (by decide) (t := (.object "com/example/oriflamme/oriflamme/language/Position")) (t' := (.object "java/lang/String")) (by decide) (by decide)))
  have G14 : Fld Z h10 a1 "com/example/oriflamme/oriflamme/language/Expr$Param" "name" "Ljava/lang/String;" (.ref a3) := G6.same W10
  have st15 : ∀ tg, Steps p.tables e below (T10.setTop (mkF m 16 #[.val (.ref a1), .val (.ref a2), .val (.ref a3), .val (.ref a4)] [(.ref a4), (.ref a1)])) tg → Steps p.tables e below (T10.setTop (mkF m 14 #[.val (.ref a1), .val (.ref a2), .val (.ref a3), .val (.ref a4)] [])) tg := by
    intro tg kt
    show Steps p.tables e below (T10.setTop (mkF m 14 #[.val (.ref a1), .val (.ref a2), .val (.ref a3), .val (.ref a4)] [])) tg
    refine XS.aloadN X10.here hx rfl (hb hby d11_14) rfl rfl ?_
    show Steps p.tables e below (T10.setTop (mkF m 15 #[.val (.ref a1), .val (.ref a2), .val (.ref a3), .val (.ref a4)] [(.ref a1)])) tg
    refine XS.aloadN X10.here hx rfl (hb hby d11_15) rfl rfl ?_
    exact kt
  obtain ⟨T16, h16, X16, e16, W16, st16⟩ := putF X10 hx hZ hown (host := "") (Or.inl (hw _ (List.mem_of_getElem? (i := 77) rfl))) Via.refl e10 G12 G11 (Or.inr ⟨(hw _ (List.mem_of_getElem? (i := 78) rfl)), rfl, hnm⟩) (hw _ (List.mem_of_getElem? (i := 67) rfl)) (ty := (.object "com/example/oriflamme/oriflamme/language/Type")) (by decide) rfl rfl (g := (mkF m 16 #[.val (.ref a1), .val (.ref a2), .val (.ref a3), .val (.ref a4)] [(.ref a4), (.ref a1)])) rfl rfl (hb hby d11_16)
  have N16 := Fr.snoc X16 N10 g_a1
  have K16 : Keep h0 h16 [a1] := K10.wr W16 (Or.inl (List.mem_of_getElem? (i := 0) rfl))
  have Z16 : n0 ≤ h16.size := Nat.le_trans Z10 (Keep.of_wr W16).1
  have G17 : Exa Z h16 a1 "com/example/oriflamme/oriflamme/language/Expr$Param" := G11.wr W16
  have G18 : Fld Z h16 a1 "com/example/oriflamme/oriflamme/language/Expr$Param" "at" "Lcom/example/oriflamme/oriflamme/language/Position;" (.ref a2) := G13.other W16 (Or.inr (slot_ne (Or.inr (hw _ (List.mem_of_getElem? (i := 74) rfl))) (Or.inr (hw _ (List.mem_of_getElem? (i := 78) rfl))) (by decide) (t := (.object "com/example/oriflamme/oriflamme/language/Position")) (t' := (.object "com/example/oriflamme/oriflamme/language/Type")) (by decide) (by decide)))
  have G19 : Fld Z h16 a1 "com/example/oriflamme/oriflamme/language/Expr$Param" "name" "Ljava/lang/String;" (.ref a3) := G14.other W16 (Or.inr (slot_ne (Or.inr (hw _ (List.mem_of_getElem? (i := 76) rfl))) (Or.inr (hw _ (List.mem_of_getElem? (i := 78) rfl))) (by decide) (t := (.object "java/lang/String")) (t' := (.object "com/example/oriflamme/oriflamme/language/Type")) (by decide) (by decide)))
  have G20 : Fld Z h16 a1 "com/example/oriflamme/oriflamme/language/Expr$Param" "type" "Lcom/example/oriflamme/oriflamme/language/Type;" (.ref a4) := G12.same W16
  obtain ⟨fs, hr, hrun, hended, hW, hsame⟩ := X16.leave (v := none) (fun _ => rfl)
  refine ⟨_, _, pre0 _ ?_, hrun, hended, _, _, rfl, ?_, ⟨_, rfl⟩, hW, hsame.mono (by decide) (by decide)⟩
  · refine st1 _ ?_
    show Steps p.tables e below (s₁.setTop (mkF m 1 #[.val (.ref a1), .val (.ref a2), .val (.ref a3), .val (.ref a4)] [(.ref a1)])) _
    refine st2.trans ?_
    refine st3 _ ?_
    show Steps p.tables e below (T2.setTop (mkF m 6 #[.val (.ref a1), .val (.ref a2), .val (.ref a3), .val (.ref a4)] [(.ref a2), (.ref a1)])) _
    refine st4 _ ?_
    refine st9 _ ?_
    show Steps p.tables e below (T4.setTop (mkF m 11 #[.val (.ref a1), .val (.ref a2), .val (.ref a3), .val (.ref a4)] [(.ref a3), (.ref a1)])) _
    refine st10 _ ?_
    refine st15 _ ?_
    show Steps p.tables e below (T10.setTop (mkF m 16 #[.val (.ref a1), .val (.ref a2), .val (.ref a3), .val (.ref a4)] [(.ref a4), (.ref a1)])) _
    refine st16 _ ?_
    show Steps p.tables e below (T16.setTop (mkF m 19 #[.val (.ref a1), .val (.ref a2), .val (.ref a3), .val (.ref a4)] [])) _
    exact X16.returnOut hx Bd.returns (hb hby d11_19) hr
  · show Q11 Z a1 a2 a3 a4 h0 n0 _ T16.heap _
    rw [e16]
    exact ⟨rfl, N16, K16, G17, G18, G19, G20⟩
theorem ef_11n (m : MethodId) (a1 : Addr) (a2 : Addr) (a3 : Addr) : entryFrame m #[(.ref a1), (.ref a2), (.ref a3), .null] 4 = mkF m 0 #[.val (.ref a1), .val (.ref a2), .val (.ref a3), .val .null] [] := by first | (simp [entryFrame, mkF, argsToLocals, Value.category]; done) | rfl
def Q11n (Z : State) (a1 : Addr) (a2 : Addr) (a3 : Addr) (h0 : Heap) (n0 : Nat) (v : Option Value) (h : Heap) (L : List Loc) : Prop := v = none ∧ Fr n0 L ∧ Keep h0 h [a1] ∧ Exa Z h a1 "com/example/oriflamme/oriflamme/language/Expr$Param" ∧ Fld Z h a1 "com/example/oriflamme/oriflamme/language/Expr$Param" "at" "Lcom/example/oriflamme/oriflamme/language/Position;" (.ref a2) ∧ Fld Z h a1 "com/example/oriflamme/oriflamme/language/Expr$Param" "name" "Ljava/lang/String;" (.ref a3) ∧ Fld Z h a1 "com/example/oriflamme/oriflamme/language/Expr$Param" "type" "Lcom/example/oriflamme/oriflamme/language/Type;" .null
set_option maxRecDepth 65536 in
set_option maxHeartbeats 40000000 in
theorem rm11n (l : Launch) (Z : State) (a0 : Array Value) (hw : ∀ d ∈ tables_1, d.before a0 Z = true) (ws : List Jvm.Cond) (a1 : Addr) (a2 : Addr) (a3 : Addr) (h0 : Heap) (n0 : Nat) (Z0 : n0 ≤ h0.size) (F_at : Fld Z h0 a1 "com/example/oriflamme/oriflamme/language/Expr$Param" "at" "Lcom/example/oriflamme/oriflamme/language/Position;" .null) (F_name : Fld Z h0 a1 "com/example/oriflamme/oriflamme/language/Expr$Param" "name" "Ljava/lang/String;" .null) (F_type : Fld Z h0 a1 "com/example/oriflamme/oriflamme/language/Expr$Param" "type" "Lcom/example/oriflamme/oriflamme/language/Type;" .null) (E_a1 : Exa Z h0 a1 "com/example/oriflamme/oriflamme/language/Expr$Param") (g_a1 : n0 ≤ a1) :
    MetFree l (⟨"com/example/oriflamme/oriflamme/language/Expr$Param", "<init>", "(Lcom/example/oriflamme/oriflamme/language/Position;Ljava/lang/String;Lcom/example/oriflamme/oriflamme/language/Type;)V"⟩ : MethodName) (head1 (Jvm.Cond.code (⟨"com/example/oriflamme/oriflamme/language/Expr$Param", "<init>", "(Lcom/example/oriflamme/oriflamme/language/Position;Ljava/lang/String;Lcom/example/oriflamme/oriflamme/language/Type;)V"⟩ : MethodName) prog_14_method_1_code 4 none :: ws) ({ frames := 2, cells := 0, slots := 0, locals := 24 } : Room)) (fun a U => a = #[(.ref a1), (.ref a2), (.ref a3), .null] ∧ Z.Warmed39 U.vm ∧ U.heap = h0) (fun _ _ _ _ _ => True) (fun _ U oo U' => ∃ v L, oo = .returned v ∧ Q11n Z a1 a2 a3 h0 n0 v U'.heap L ∧ FrameEnd U oo U' L ({ frames := 2, cells := 0, slots := 0, locals := 24 } : Room).cells ({ frames := 2, cells := 0, slots := 0, locals := 24 } : Room).slots) := by
  refine MetFree.of_bodySF (plainFor_of_name pn_11) hisR ?_
  intro p e s m args below meth c s₁ Bd hml0 hP hK
  obtain ⟨rfl, hZ, hh⟩ := hP
  have hx := Bd.exec
  have hby := Bd.bytes
  have hml : c.maxLocals = 4 := hml0
  have hown : s.vm.findClass "com/example/oriflamme/oriflamme/language/Expr$Param" = some m.cls := findClass_of_methodNamed Bd.named
  have hnm := (name_of_methodNamed Bd.named Bd.method).1
  have X0 : Stand p l e ({ frames := 2, cells := 0, slots := 0, locals := 24 } : Room) s m #[(.ref a1), (.ref a2), (.ref a3), .null] below meth c s₁ [] 0 0 := Stand.of_body Bd
  have e0 : s₁.heap = h0 := by rw [← hh, Bd.state]; rfl
  have N0 := Fr.nil n0
  have K0 : Keep h0 h0 [a1] := Keep.refl _ _
  have pre0 : ∀ tg, Steps p.tables e below (s₁.setTop (mkF m 0 #[.val (.ref a1), .val (.ref a2), .val (.ref a3), .val .null] [])) tg → Steps p.tables e below (s₁.setTop (entryFrame m #[(.ref a1), (.ref a2), (.ref a3), .null] 4)) tg := fun tg k => castTop (ef_11n m a1 a2 a3) k
  have st1 : ∀ tg, Steps p.tables e below (s₁.setTop (mkF m 1 #[.val (.ref a1), .val (.ref a2), .val (.ref a3), .val .null] [(.ref a1)])) tg → Steps p.tables e below (s₁.setTop (mkF m 0 #[.val (.ref a1), .val (.ref a2), .val (.ref a3), .val .null] [])) tg := by
    intro tg kt
    show Steps p.tables e below (s₁.setTop (mkF m 0 #[.val (.ref a1), .val (.ref a2), .val (.ref a3), .val .null] [])) tg
    refine XS.aloadN X0.here hx rfl (hb hby d11_0) rfl rfl ?_
    exact kt
  obtain ⟨_, _, ⟨T2, L2, k2, n2⟩, -, X2, ⟨Lc2, hQ2, l2, y2, z2⟩, st2⟩ := X0.specialBack hx (y := (⟨"java/lang/Record", "<init>", "()V"⟩ : MethodName)) rfl hown (mvT hZ (hw _ (List.mem_of_getElem? (i := 72) rfl))) (mvT hZ (hw _ (List.mem_of_getElem? (i := 7) rfl))) (mvT hZ (hw _ (List.mem_of_getElem? (i := 10) rfl))) (by decide) (backOf (W := 0) (rm2 l Z a0 hw [] a1 h0 n0 Z0) hZ (hw _ (List.mem_of_getElem? (i := 10) rfl)) (hw _ (List.mem_of_getElem? (i := 9) rfl)) (by decide) (by decide)) (g := (mkF m 1 #[.val (.ref a1), .val (.ref a2), .val (.ref a3), .val .null] [(.ref a1)])) rfl (by rw [hml]; rfl) (Steps.refl _) (a := a1) (argsL := []) (rest := []) (lenOf pd_0 rfl) rfl (by show 2 * 0 + _ ≤ _; exact Nat.le_of_eq rfl) (hb hby d11_1) (fun _ _ => ⟨rfl, e0, (by decide : 0 + 0 ≤ _), (by decide : 0 + 0 ≤ _)⟩)
  dsimp only [Pt.U, Pt.locs, Pt.cells, Pt.slots] at X2 l2 y2 z2 st2 hQ2
  subst l2 y2 z2
  obtain ⟨rfl, N2q, e2⟩ := hQ2
  have N2 := Fr.app N0 N2q
  have st3 : ∀ tg, Steps p.tables e below (T2.setTop (mkF m 6 #[.val (.ref a1), .val (.ref a2), .val (.ref a3), .val .null] [(.ref a2), (.ref a1)])) tg → Steps p.tables e below (T2.setTop (mkF m 4 #[.val (.ref a1), .val (.ref a2), .val (.ref a3), .val .null] [])) tg := by
    intro tg kt
    show Steps p.tables e below (T2.setTop (mkF m 4 #[.val (.ref a1), .val (.ref a2), .val (.ref a3), .val .null] [])) tg
    refine XS.aloadN X2.here hx rfl (hb hby d11_4) rfl rfl ?_
    show Steps p.tables e below (T2.setTop (mkF m 5 #[.val (.ref a1), .val (.ref a2), .val (.ref a3), .val .null] [(.ref a1)])) tg
    refine XS.aloadN X2.here hx rfl (hb hby d11_5) rfl rfl ?_
    exact kt
  obtain ⟨T4, h4, X4, e4, W4, st4⟩ := putF X2 hx hZ hown (host := "") (Or.inl (hw _ (List.mem_of_getElem? (i := 73) rfl))) Via.refl e2 F_at E_a1 (Or.inr ⟨(hw _ (List.mem_of_getElem? (i := 74) rfl)), rfl, hnm⟩) (hw _ (List.mem_of_getElem? (i := 67) rfl)) (ty := (.object "com/example/oriflamme/oriflamme/language/Position")) (by decide) rfl rfl (g := (mkF m 6 #[.val (.ref a1), .val (.ref a2), .val (.ref a3), .val .null] [(.ref a2), (.ref a1)])) rfl rfl (hb hby d11_6)
  have N4 := Fr.snoc X4 N2 g_a1
  have K4 : Keep h0 h4 [a1] := K0.wr W4 (Or.inl (List.mem_of_getElem? (i := 0) rfl))
  have Z4 : n0 ≤ h4.size := Nat.le_trans Z0 (Keep.of_wr W4).1
  have G5 : Exa Z h4 a1 "com/example/oriflamme/oriflamme/language/Expr$Param" := E_a1.wr W4
  have G6 : Fld Z h4 a1 "com/example/oriflamme/oriflamme/language/Expr$Param" "name" "Ljava/lang/String;" .null := F_name.other W4 (Or.inr (slot_ne (Or.inr (hw _ (List.mem_of_getElem? (i := 76) rfl))) (Or.inr (hw _ (List.mem_of_getElem? (i := 74) rfl))) (by decide) (t := (.object "java/lang/String")) (t' := (.object "com/example/oriflamme/oriflamme/language/Position")) (by decide) (by decide)))
  have G7 : Fld Z h4 a1 "com/example/oriflamme/oriflamme/language/Expr$Param" "type" "Lcom/example/oriflamme/oriflamme/language/Type;" .null := F_type.other W4 (Or.inr (slot_ne (Or.inr (hw _ (List.mem_of_getElem? (i := 78) rfl))) (Or.inr (hw _ (List.mem_of_getElem? (i := 74) rfl))) (by decide) (t := (.object "com/example/oriflamme/oriflamme/language/Type")) (t' := (.object "com/example/oriflamme/oriflamme/language/Position")) (by decide) (by decide)))
  have G8 : Fld Z h4 a1 "com/example/oriflamme/oriflamme/language/Expr$Param" "at" "Lcom/example/oriflamme/oriflamme/language/Position;" (.ref a2) := F_at.same W4
  have st9 : ∀ tg, Steps p.tables e below (T4.setTop (mkF m 11 #[.val (.ref a1), .val (.ref a2), .val (.ref a3), .val .null] [(.ref a3), (.ref a1)])) tg → Steps p.tables e below (T4.setTop (mkF m 9 #[.val (.ref a1), .val (.ref a2), .val (.ref a3), .val .null] [])) tg := by
    intro tg kt
    show Steps p.tables e below (T4.setTop (mkF m 9 #[.val (.ref a1), .val (.ref a2), .val (.ref a3), .val .null] [])) tg
    refine XS.aloadN X4.here hx rfl (hb hby d11_9) rfl rfl ?_
    show Steps p.tables e below (T4.setTop (mkF m 10 #[.val (.ref a1), .val (.ref a2), .val (.ref a3), .val .null] [(.ref a1)])) tg
    refine XS.aloadN X4.here hx rfl (hb hby d11_10) rfl rfl ?_
    exact kt
  obtain ⟨T10, h10, X10, e10, W10, st10⟩ := putF X4 hx hZ hown (host := "") (Or.inl (hw _ (List.mem_of_getElem? (i := 75) rfl))) Via.refl e4 G6 G5 (Or.inr ⟨(hw _ (List.mem_of_getElem? (i := 76) rfl)), rfl, hnm⟩) (hw _ (List.mem_of_getElem? (i := 67) rfl)) (ty := (.object "java/lang/String")) (by decide) rfl rfl (g := (mkF m 11 #[.val (.ref a1), .val (.ref a2), .val (.ref a3), .val .null] [(.ref a3), (.ref a1)])) rfl rfl (hb hby d11_11)
  have N10 := Fr.snoc X10 N4 g_a1
  have K10 : Keep h0 h10 [a1] := K4.wr W10 (Or.inl (List.mem_of_getElem? (i := 0) rfl))
  have Z10 : n0 ≤ h10.size := Nat.le_trans Z4 (Keep.of_wr W10).1
  have G11 : Exa Z h10 a1 "com/example/oriflamme/oriflamme/language/Expr$Param" := G5.wr W10
  have G12 : Fld Z h10 a1 "com/example/oriflamme/oriflamme/language/Expr$Param" "type" "Lcom/example/oriflamme/oriflamme/language/Type;" .null := G7.other W10 (Or.inr (slot_ne (Or.inr (hw _ (List.mem_of_getElem? (i := 78) rfl))) (Or.inr (hw _ (List.mem_of_getElem? (i := 76) rfl))) (by decide) (t := (.object "com/example/oriflamme/oriflamme/language/Type")) (t' := (.object "java/lang/String")) (by decide) (by decide)))
  have G13 : Fld Z h10 a1 "com/example/oriflamme/oriflamme/language/Expr$Param" "at" "Lcom/example/oriflamme/oriflamme/language/Position;" (.ref a2) := G8.other W10 (Or.inr (slot_ne (Or.inr (hw _ (List.mem_of_getElem? (i := 74) rfl))) (Or.inr (hw _ (List.mem_of_getElem? (i := 76) rfl))) (by decide) (t := (.object "com/example/oriflamme/oriflamme/language/Position")) (t' := (.object "java/lang/String")) (by decide) (by decide)))
  have G14 : Fld Z h10 a1 "com/example/oriflamme/oriflamme/language/Expr$Param" "name" "Ljava/lang/String;" (.ref a3) := G6.same W10
  have st15 : ∀ tg, Steps p.tables e below (T10.setTop (mkF m 16 #[.val (.ref a1), .val (.ref a2), .val (.ref a3), .val .null] [.null, (.ref a1)])) tg → Steps p.tables e below (T10.setTop (mkF m 14 #[.val (.ref a1), .val (.ref a2), .val (.ref a3), .val .null] [])) tg := by
    intro tg kt
    show Steps p.tables e below (T10.setTop (mkF m 14 #[.val (.ref a1), .val (.ref a2), .val (.ref a3), .val .null] [])) tg
    refine XS.aloadN X10.here hx rfl (hb hby d11_14) rfl rfl ?_
    show Steps p.tables e below (T10.setTop (mkF m 15 #[.val (.ref a1), .val (.ref a2), .val (.ref a3), .val .null] [(.ref a1)])) tg
    refine XS.aloadN X10.here hx rfl (hb hby d11_15) rfl rfl ?_
    exact kt
  obtain ⟨T16, h16, X16, e16, W16, st16⟩ := putF X10 hx hZ hown (host := "") (Or.inl (hw _ (List.mem_of_getElem? (i := 77) rfl))) Via.refl e10 G12 G11 (Or.inr ⟨(hw _ (List.mem_of_getElem? (i := 78) rfl)), rfl, hnm⟩) (hw _ (List.mem_of_getElem? (i := 67) rfl)) (ty := (.object "com/example/oriflamme/oriflamme/language/Type")) (by decide) rfl rfl (g := (mkF m 16 #[.val (.ref a1), .val (.ref a2), .val (.ref a3), .val .null] [.null, (.ref a1)])) rfl rfl (hb hby d11_16)
  have N16 := Fr.snoc X16 N10 g_a1
  have K16 : Keep h0 h16 [a1] := K10.wr W16 (Or.inl (List.mem_of_getElem? (i := 0) rfl))
  have Z16 : n0 ≤ h16.size := Nat.le_trans Z10 (Keep.of_wr W16).1
  have G17 : Exa Z h16 a1 "com/example/oriflamme/oriflamme/language/Expr$Param" := G11.wr W16
  have G18 : Fld Z h16 a1 "com/example/oriflamme/oriflamme/language/Expr$Param" "at" "Lcom/example/oriflamme/oriflamme/language/Position;" (.ref a2) := G13.other W16 (Or.inr (slot_ne (Or.inr (hw _ (List.mem_of_getElem? (i := 74) rfl))) (Or.inr (hw _ (List.mem_of_getElem? (i := 78) rfl))) (by decide) (t := (.object "com/example/oriflamme/oriflamme/language/Position")) (t' := (.object "com/example/oriflamme/oriflamme/language/Type")) (by decide) (by decide)))
  have G19 : Fld Z h16 a1 "com/example/oriflamme/oriflamme/language/Expr$Param" "name" "Ljava/lang/String;" (.ref a3) := G14.other W16 (Or.inr (slot_ne (Or.inr (hw _ (List.mem_of_getElem? (i := 76) rfl))) (Or.inr (hw _ (List.mem_of_getElem? (i := 78) rfl))) (by decide) (t := (.object "java/lang/String")) (t' := (.object "com/example/oriflamme/oriflamme/language/Type")) (by decide) (by decide)))
  have G20 : Fld Z h16 a1 "com/example/oriflamme/oriflamme/language/Expr$Param" "type" "Lcom/example/oriflamme/oriflamme/language/Type;" .null := G12.same W16
  obtain ⟨fs, hr, hrun, hended, hW, hsame⟩ := X16.leave (v := none) (fun _ => rfl)
  refine ⟨_, _, pre0 _ ?_, hrun, hended, _, _, rfl, ?_, ⟨_, rfl⟩, hW, hsame.mono (by decide) (by decide)⟩
  · refine st1 _ ?_
    show Steps p.tables e below (s₁.setTop (mkF m 1 #[.val (.ref a1), .val (.ref a2), .val (.ref a3), .val .null] [(.ref a1)])) _
    refine st2.trans ?_
    refine st3 _ ?_
    show Steps p.tables e below (T2.setTop (mkF m 6 #[.val (.ref a1), .val (.ref a2), .val (.ref a3), .val .null] [(.ref a2), (.ref a1)])) _
    refine st4 _ ?_
    refine st9 _ ?_
    show Steps p.tables e below (T4.setTop (mkF m 11 #[.val (.ref a1), .val (.ref a2), .val (.ref a3), .val .null] [(.ref a3), (.ref a1)])) _
    refine st10 _ ?_
    refine st15 _ ?_
    show Steps p.tables e below (T10.setTop (mkF m 16 #[.val (.ref a1), .val (.ref a2), .val (.ref a3), .val .null] [.null, (.ref a1)])) _
    refine st16 _ ?_
    show Steps p.tables e below (T16.setTop (mkF m 19 #[.val (.ref a1), .val (.ref a2), .val (.ref a3), .val .null] [])) _
    exact X16.returnOut hx Bd.returns (hb hby d11_19) hr
  · show Q11n Z a1 a2 a3 h0 n0 _ T16.heap _
    rw [e16]
    exact ⟨rfl, N16, K16, G17, G18, G19, G20⟩
theorem d13_0 : decode prog_55_method_1_code 0 = .ok (.aload_n 0, 1) := by decide +kernel
theorem d13_1 : decode prog_55_method_1_code 1 = .ok (.invokespecial 1, 3) := by decide +kernel
theorem d13_4 : decode prog_55_method_1_code 4 = .ok (.aload_n 0, 1) := by decide +kernel
theorem d13_5 : decode prog_55_method_1_code 5 = .ok (.aload_n 1, 1) := by decide +kernel
theorem d13_6 : decode prog_55_method_1_code 6 = .ok (.putfield 7, 3) := by decide +kernel
theorem d13_9 : decode prog_55_method_1_code 9 = .ok (.aload_n 0, 1) := by decide +kernel
theorem d13_10 : decode prog_55_method_1_code 10 = .ok (.aload_n 2, 1) := by decide +kernel
theorem d13_11 : decode prog_55_method_1_code 11 = .ok (.putfield 13, 3) := by decide +kernel
theorem d13_14 : decode prog_55_method_1_code 14 = .ok (.aload_n 0, 1) := by decide +kernel
theorem d13_15 : decode prog_55_method_1_code 15 = .ok (.aload_n 3, 1) := by decide +kernel
theorem d13_16 : decode prog_55_method_1_code 16 = .ok (.putfield 17, 3) := by decide +kernel
theorem d13_19 : decode prog_55_method_1_code 19 = .ok (.aload_n 0, 1) := by decide +kernel
theorem d13_20 : decode prog_55_method_1_code 20 = .ok (.iload 4, 2) := by decide +kernel
theorem d13_22 : decode prog_55_method_1_code 22 = .ok (.putfield 21, 3) := by decide +kernel
theorem d13_25 : decode prog_55_method_1_code 25 = .ok (.aload_n 0, 1) := by decide +kernel
theorem d13_26 : decode prog_55_method_1_code 26 = .ok (.aload 5, 2) := by decide +kernel
theorem d13_28 : decode prog_55_method_1_code 28 = .ok (.putfield 25, 3) := by decide +kernel
theorem d13_31 : decode prog_55_method_1_code 31 = .ok (.aload_n 0, 1) := by decide +kernel
theorem d13_32 : decode prog_55_method_1_code 32 = .ok (.aload 6, 2) := by decide +kernel
theorem d13_34 : decode prog_55_method_1_code 34 = .ok (.putfield 29, 3) := by decide +kernel
theorem d13_37 : decode prog_55_method_1_code 37 = .ok (.return_, 1) := by decide +kernel
theorem pn_13 : plainName "com/example/oriflamme/oriflamme/language/Type" = true := by first | (simp [plainName, overriddenIn]; done) | decide +kernel
theorem ef_13 (m : MethodId) (a1 : Addr) (a2 : Addr) (a3 : Addr) (a4 : Addr) (p5 : Int32) : entryFrame m #[(.ref a1), (.ref a2), (.ref a3), (.ref a4), (.int p5), .null, .null] 7 = mkF m 0 #[.val (.ref a1), .val (.ref a2), .val (.ref a3), .val (.ref a4), .val (.int p5), .val .null, .val .null] [] := by first | (simp [entryFrame, mkF, argsToLocals, Value.category]; done) | rfl
def Q13 (Z : State) (a1 : Addr) (a2 : Addr) (a3 : Addr) (a4 : Addr) (p5 : Int32) (h0 : Heap) (n0 : Nat) (v : Option Value) (h : Heap) (L : List Loc) : Prop := v = none ∧ Fr n0 L ∧ Keep h0 h [a1] ∧ Exa Z h a1 "com/example/oriflamme/oriflamme/language/Type" ∧ Fld Z h a1 "com/example/oriflamme/oriflamme/language/Type" "at" "Lcom/example/oriflamme/oriflamme/language/Position;" (.ref a2) ∧ Fld Z h a1 "com/example/oriflamme/oriflamme/language/Type" "name" "Ljava/lang/String;" (.ref a3) ∧ Fld Z h a1 "com/example/oriflamme/oriflamme/language/Type" "arguments" "Ljava/util/List;" (.ref a4) ∧ Fld Z h a1 "com/example/oriflamme/oriflamme/language/Type" "optional" "Z" (.int (nar .boolean p5)) ∧ Fld Z h a1 "com/example/oriflamme/oriflamme/language/Type" "base" "Lcom/example/oriflamme/oriflamme/language/Type$Base;" .null ∧ Fld Z h a1 "com/example/oriflamme/oriflamme/language/Type" "record" "Lcom/example/oriflamme/oriflamme/language/RecordType;" .null
set_option maxRecDepth 65536 in
set_option maxHeartbeats 40000000 in
theorem rm13 (l : Launch) (Z : State) (a0 : Array Value) (hw : ∀ d ∈ tables_1, d.before a0 Z = true) (ws : List Jvm.Cond) (a1 : Addr) (a2 : Addr) (a3 : Addr) (a4 : Addr) (p5 : Int32) (h0 : Heap) (n0 : Nat) (Z0 : n0 ≤ h0.size) (F_at : Fld Z h0 a1 "com/example/oriflamme/oriflamme/language/Type" "at" "Lcom/example/oriflamme/oriflamme/language/Position;" .null) (F_name : Fld Z h0 a1 "com/example/oriflamme/oriflamme/language/Type" "name" "Ljava/lang/String;" .null) (F_arguments : Fld Z h0 a1 "com/example/oriflamme/oriflamme/language/Type" "arguments" "Ljava/util/List;" .null) (F_optional : Fld Z h0 a1 "com/example/oriflamme/oriflamme/language/Type" "optional" "Z" (.int (0 : Int32))) (F_base : Fld Z h0 a1 "com/example/oriflamme/oriflamme/language/Type" "base" "Lcom/example/oriflamme/oriflamme/language/Type$Base;" .null) (F_record : Fld Z h0 a1 "com/example/oriflamme/oriflamme/language/Type" "record" "Lcom/example/oriflamme/oriflamme/language/RecordType;" .null) (E_a1 : Exa Z h0 a1 "com/example/oriflamme/oriflamme/language/Type") (g_a1 : n0 ≤ a1) :
    MetFree l (⟨"com/example/oriflamme/oriflamme/language/Type", "<init>", "(Lcom/example/oriflamme/oriflamme/language/Position;Ljava/lang/String;Ljava/util/List;ZLcom/example/oriflamme/oriflamme/language/Type$Base;Lcom/example/oriflamme/oriflamme/language/RecordType;)V"⟩ : MethodName) (head1 (Jvm.Cond.code (⟨"com/example/oriflamme/oriflamme/language/Type", "<init>", "(Lcom/example/oriflamme/oriflamme/language/Position;Ljava/lang/String;Ljava/util/List;ZLcom/example/oriflamme/oriflamme/language/Type$Base;Lcom/example/oriflamme/oriflamme/language/RecordType;)V"⟩ : MethodName) prog_55_method_1_code 7 none :: ws) ({ frames := 2, cells := 0, slots := 0, locals := 24 } : Room)) (fun a U => a = #[(.ref a1), (.ref a2), (.ref a3), (.ref a4), (.int p5), .null, .null] ∧ Z.Warmed39 U.vm ∧ U.heap = h0) (fun _ _ _ _ _ => True) (fun _ U oo U' => ∃ v L, oo = .returned v ∧ Q13 Z a1 a2 a3 a4 p5 h0 n0 v U'.heap L ∧ FrameEnd U oo U' L ({ frames := 2, cells := 0, slots := 0, locals := 24 } : Room).cells ({ frames := 2, cells := 0, slots := 0, locals := 24 } : Room).slots) := by
  refine MetFree.of_bodySF (plainFor_of_name pn_13) hisR ?_
  intro p e s m args below meth c s₁ Bd hml0 hP hK
  obtain ⟨rfl, hZ, hh⟩ := hP
  have hx := Bd.exec
  have hby := Bd.bytes
  have hml : c.maxLocals = 7 := hml0
  have hown : s.vm.findClass "com/example/oriflamme/oriflamme/language/Type" = some m.cls := findClass_of_methodNamed Bd.named
  have hnm := (name_of_methodNamed Bd.named Bd.method).1
  have X0 : Stand p l e ({ frames := 2, cells := 0, slots := 0, locals := 24 } : Room) s m #[(.ref a1), (.ref a2), (.ref a3), (.ref a4), (.int p5), .null, .null] below meth c s₁ [] 0 0 := Stand.of_body Bd
  have e0 : s₁.heap = h0 := by rw [← hh, Bd.state]; rfl
  have N0 := Fr.nil n0
  have K0 : Keep h0 h0 [a1] := Keep.refl _ _
  have pre0 : ∀ tg, Steps p.tables e below (s₁.setTop (mkF m 0 #[.val (.ref a1), .val (.ref a2), .val (.ref a3), .val (.ref a4), .val (.int p5), .val .null, .val .null] [])) tg → Steps p.tables e below (s₁.setTop (entryFrame m #[(.ref a1), (.ref a2), (.ref a3), (.ref a4), (.int p5), .null, .null] 7)) tg := fun tg k => castTop (ef_13 m a1 a2 a3 a4 p5) k
  have st1 : ∀ tg, Steps p.tables e below (s₁.setTop (mkF m 1 #[.val (.ref a1), .val (.ref a2), .val (.ref a3), .val (.ref a4), .val (.int p5), .val .null, .val .null] [(.ref a1)])) tg → Steps p.tables e below (s₁.setTop (mkF m 0 #[.val (.ref a1), .val (.ref a2), .val (.ref a3), .val (.ref a4), .val (.int p5), .val .null, .val .null] [])) tg := by
    intro tg kt
    show Steps p.tables e below (s₁.setTop (mkF m 0 #[.val (.ref a1), .val (.ref a2), .val (.ref a3), .val (.ref a4), .val (.int p5), .val .null, .val .null] [])) tg
    refine XS.aloadN X0.here hx rfl (hb hby d13_0) rfl rfl ?_
    exact kt
  obtain ⟨_, _, ⟨T2, L2, k2, n2⟩, -, X2, ⟨Lc2, hQ2, l2, y2, z2⟩, st2⟩ := X0.specialBack hx (y := (⟨"java/lang/Record", "<init>", "()V"⟩ : MethodName)) rfl hown (mvT hZ (hw _ (List.mem_of_getElem? (i := 90) rfl))) (mvT hZ (hw _ (List.mem_of_getElem? (i := 7) rfl))) (mvT hZ (hw _ (List.mem_of_getElem? (i := 10) rfl))) (by decide) (backOf (W := 0) (rm2 l Z a0 hw [] a1 h0 n0 Z0) hZ (hw _ (List.mem_of_getElem? (i := 10) rfl)) (hw _ (List.mem_of_getElem? (i := 9) rfl)) (by decide) (by decide)) (g := (mkF m 1 #[.val (.ref a1), .val (.ref a2), .val (.ref a3), .val (.ref a4), .val (.int p5), .val .null, .val .null] [(.ref a1)])) rfl (by rw [hml]; rfl) (Steps.refl _) (a := a1) (argsL := []) (rest := []) (lenOf pd_0 rfl) rfl (by show 2 * 0 + _ ≤ _; exact Nat.le_of_eq rfl) (hb hby d13_1) (fun _ _ => ⟨rfl, e0, (by decide : 0 + 0 ≤ _), (by decide : 0 + 0 ≤ _)⟩)
  dsimp only [Pt.U, Pt.locs, Pt.cells, Pt.slots] at X2 l2 y2 z2 st2 hQ2
  subst l2 y2 z2
  obtain ⟨rfl, N2q, e2⟩ := hQ2
  have N2 := Fr.app N0 N2q
  have st3 : ∀ tg, Steps p.tables e below (T2.setTop (mkF m 6 #[.val (.ref a1), .val (.ref a2), .val (.ref a3), .val (.ref a4), .val (.int p5), .val .null, .val .null] [(.ref a2), (.ref a1)])) tg → Steps p.tables e below (T2.setTop (mkF m 4 #[.val (.ref a1), .val (.ref a2), .val (.ref a3), .val (.ref a4), .val (.int p5), .val .null, .val .null] [])) tg := by
    intro tg kt
    show Steps p.tables e below (T2.setTop (mkF m 4 #[.val (.ref a1), .val (.ref a2), .val (.ref a3), .val (.ref a4), .val (.int p5), .val .null, .val .null] [])) tg
    refine XS.aloadN X2.here hx rfl (hb hby d13_4) rfl rfl ?_
    show Steps p.tables e below (T2.setTop (mkF m 5 #[.val (.ref a1), .val (.ref a2), .val (.ref a3), .val (.ref a4), .val (.int p5), .val .null, .val .null] [(.ref a1)])) tg
    refine XS.aloadN X2.here hx rfl (hb hby d13_5) rfl rfl ?_
    exact kt
  obtain ⟨T4, h4, X4, e4, W4, st4⟩ := putF X2 hx hZ hown (host := "") (Or.inl (hw _ (List.mem_of_getElem? (i := 91) rfl))) Via.refl e2 F_at E_a1 (Or.inr ⟨(hw _ (List.mem_of_getElem? (i := 92) rfl)), rfl, hnm⟩) (hw _ (List.mem_of_getElem? (i := 85) rfl)) (ty := (.object "com/example/oriflamme/oriflamme/language/Position")) (by decide) rfl rfl (g := (mkF m 6 #[.val (.ref a1), .val (.ref a2), .val (.ref a3), .val (.ref a4), .val (.int p5), .val .null, .val .null] [(.ref a2), (.ref a1)])) rfl rfl (hb hby d13_6)
  have N4 := Fr.snoc X4 N2 g_a1
  have K4 : Keep h0 h4 [a1] := K0.wr W4 (Or.inl (List.mem_of_getElem? (i := 0) rfl))
  have Z4 : n0 ≤ h4.size := Nat.le_trans Z0 (Keep.of_wr W4).1
  have G5 : Exa Z h4 a1 "com/example/oriflamme/oriflamme/language/Type" := E_a1.wr W4
  have G6 : Fld Z h4 a1 "com/example/oriflamme/oriflamme/language/Type" "name" "Ljava/lang/String;" .null := F_name.other W4 (Or.inr (slot_ne (Or.inr (hw _ (List.mem_of_getElem? (i := 94) rfl))) (Or.inr (hw _ (List.mem_of_getElem? (i := 92) rfl))) (by decide) (t := (.object "java/lang/String")) (t' := (.object "com/example/oriflamme/oriflamme/language/Position")) (by decide) (by decide)))
  have G7 : Fld Z h4 a1 "com/example/oriflamme/oriflamme/language/Type" "arguments" "Ljava/util/List;" .null := F_arguments.other W4 (Or.inr (slot_ne (Or.inr (hw _ (List.mem_of_getElem? (i := 96) rfl))) (Or.inr (hw _ (List.mem_of_getElem? (i := 92) rfl))) (by decide) (t := (.object "java/util/List")) (t' := (.object "com/example/oriflamme/oriflamme/language/Position")) (by decide) (by decide)))
  have G8 : Fld Z h4 a1 "com/example/oriflamme/oriflamme/language/Type" "optional" "Z" (.int (0 : Int32)) := F_optional.other W4 (Or.inr (slot_ne (Or.inr (hw _ (List.mem_of_getElem? (i := 98) rfl))) (Or.inr (hw _ (List.mem_of_getElem? (i := 92) rfl))) (by decide) (t := .boolean) (t' := (.object "com/example/oriflamme/oriflamme/language/Position")) (by decide) (by decide)))
  have G9 : Fld Z h4 a1 "com/example/oriflamme/oriflamme/language/Type" "base" "Lcom/example/oriflamme/oriflamme/language/Type$Base;" .null := F_base.other W4 (Or.inr (slot_ne (Or.inr (hw _ (List.mem_of_getElem? (i := 100) rfl))) (Or.inr (hw _ (List.mem_of_getElem? (i := 92) rfl))) (by decide) (t := (.object "com/example/oriflamme/oriflamme/language/Type$Base")) (t' := (.object "com/example/oriflamme/oriflamme/language/Position")) (by decide) (by decide)))
  have G10 : Fld Z h4 a1 "com/example/oriflamme/oriflamme/language/Type" "record" "Lcom/example/oriflamme/oriflamme/language/RecordType;" .null := F_record.other W4 (Or.inr (slot_ne (Or.inr (hw _ (List.mem_of_getElem? (i := 102) rfl))) (Or.inr (hw _ (List.mem_of_getElem? (i := 92) rfl))) (by decide) (t := (.object "com/example/oriflamme/oriflamme/language/RecordType")) (t' := (.object "com/example/oriflamme/oriflamme/language/Position")) (by decide) (by decide)))
  have G11 : Fld Z h4 a1 "com/example/oriflamme/oriflamme/language/Type" "at" "Lcom/example/oriflamme/oriflamme/language/Position;" (.ref a2) := F_at.same W4
  have st12 : ∀ tg, Steps p.tables e below (T4.setTop (mkF m 11 #[.val (.ref a1), .val (.ref a2), .val (.ref a3), .val (.ref a4), .val (.int p5), .val .null, .val .null] [(.ref a3), (.ref a1)])) tg → Steps p.tables e below (T4.setTop (mkF m 9 #[.val (.ref a1), .val (.ref a2), .val (.ref a3), .val (.ref a4), .val (.int p5), .val .null, .val .null] [])) tg := by
    intro tg kt
    show Steps p.tables e below (T4.setTop (mkF m 9 #[.val (.ref a1), .val (.ref a2), .val (.ref a3), .val (.ref a4), .val (.int p5), .val .null, .val .null] [])) tg
    refine XS.aloadN X4.here hx rfl (hb hby d13_9) rfl rfl ?_
    show Steps p.tables e below (T4.setTop (mkF m 10 #[.val (.ref a1), .val (.ref a2), .val (.ref a3), .val (.ref a4), .val (.int p5), .val .null, .val .null] [(.ref a1)])) tg
    refine XS.aloadN X4.here hx rfl (hb hby d13_10) rfl rfl ?_
    exact kt
  obtain ⟨T13, h13, X13, e13, W13, st13⟩ := putF X4 hx hZ hown (host := "") (Or.inl (hw _ (List.mem_of_getElem? (i := 93) rfl))) Via.refl e4 G6 G5 (Or.inr ⟨(hw _ (List.mem_of_getElem? (i := 94) rfl)), rfl, hnm⟩) (hw _ (List.mem_of_getElem? (i := 85) rfl)) (ty := (.object "java/lang/String")) (by decide) rfl rfl (g := (mkF m 11 #[.val (.ref a1), .val (.ref a2), .val (.ref a3), .val (.ref a4), .val (.int p5), .val .null, .val .null] [(.ref a3), (.ref a1)])) rfl rfl (hb hby d13_11)
  have N13 := Fr.snoc X13 N4 g_a1
  have K13 : Keep h0 h13 [a1] := K4.wr W13 (Or.inl (List.mem_of_getElem? (i := 0) rfl))
  have Z13 : n0 ≤ h13.size := Nat.le_trans Z4 (Keep.of_wr W13).1
  have G14 : Exa Z h13 a1 "com/example/oriflamme/oriflamme/language/Type" := G5.wr W13
  have G15 : Fld Z h13 a1 "com/example/oriflamme/oriflamme/language/Type" "arguments" "Ljava/util/List;" .null := G7.other W13 (Or.inr (slot_ne (Or.inr (hw _ (List.mem_of_getElem? (i := 96) rfl))) (Or.inr (hw _ (List.mem_of_getElem? (i := 94) rfl))) (by decide) (t := (.object "java/util/List")) (t' := (.object "java/lang/String")) (by decide) (by decide)))
  have G16 : Fld Z h13 a1 "com/example/oriflamme/oriflamme/language/Type" "optional" "Z" (.int (0 : Int32)) := G8.other W13 (Or.inr (slot_ne (Or.inr (hw _ (List.mem_of_getElem? (i := 98) rfl))) (Or.inr (hw _ (List.mem_of_getElem? (i := 94) rfl))) (by decide) (t := .boolean) (t' := (.object "java/lang/String")) (by decide) (by decide)))
  have G17 : Fld Z h13 a1 "com/example/oriflamme/oriflamme/language/Type" "base" "Lcom/example/oriflamme/oriflamme/language/Type$Base;" .null := G9.other W13 (Or.inr (slot_ne (Or.inr (hw _ (List.mem_of_getElem? (i := 100) rfl))) (Or.inr (hw _ (List.mem_of_getElem? (i := 94) rfl))) (by decide) (t := (.object "com/example/oriflamme/oriflamme/language/Type$Base")) (t' := (.object "java/lang/String")) (by decide) (by decide)))
  have G18 : Fld Z h13 a1 "com/example/oriflamme/oriflamme/language/Type" "record" "Lcom/example/oriflamme/oriflamme/language/RecordType;" .null := G10.other W13 (Or.inr (slot_ne (Or.inr (hw _ (List.mem_of_getElem? (i := 102) rfl))) (Or.inr (hw _ (List.mem_of_getElem? (i := 94) rfl))) (by decide) (t := (.object "com/example/oriflamme/oriflamme/language/RecordType")) (t' := (.object "java/lang/String")) (by decide) (by decide)))
  have G19 : Fld Z h13 a1 "com/example/oriflamme/oriflamme/language/Type" "at" "Lcom/example/oriflamme/oriflamme/language/Position;" (.ref a2) := G11.other W13 (Or.inr (slot_ne (Or.inr (hw _ (List.mem_of_getElem? (i := 92) rfl))) (Or.inr (hw _ (List.mem_of_getElem? (i := 94) rfl))) (by decide) (t := (.object "com/example/oriflamme/oriflamme/language/Position")) (t' := (.object "java/lang/String")) (by decide) (by decide)))
  have G20 : Fld Z h13 a1 "com/example/oriflamme/oriflamme/language/Type" "name" "Ljava/lang/String;" (.ref a3) := G6.same W13
  have st21 : ∀ tg, Steps p.tables e below (T13.setTop (mkF m 16 #[.val (.ref a1), .val (.ref a2), .val (.ref a3), .val (.ref a4), .val (.int p5), .val .null, .val .null] [(.ref a4), (.ref a1)])) tg → Steps p.tables e below (T13.setTop (mkF m 14 #[.val (.ref a1), .val (.ref a2), .val (.ref a3), .val (.ref a4), .val (.int p5), .val .null, .val .null] [])) tg := by
    intro tg kt
    show Steps p.tables e below (T13.setTop (mkF m 14 #[.val (.ref a1), .val (.ref a2), .val (.ref a3), .val (.ref a4), .val (.int p5), .val .null, .val .null] [])) tg
    refine XS.aloadN X13.here hx rfl (hb hby d13_14) rfl rfl ?_
    show Steps p.tables e below (T13.setTop (mkF m 15 #[.val (.ref a1), .val (.ref a2), .val (.ref a3), .val (.ref a4), .val (.int p5), .val .null, .val .null] [(.ref a1)])) tg
    refine XS.aloadN X13.here hx rfl (hb hby d13_15) rfl rfl ?_
    exact kt
  obtain ⟨T22, h22, X22, e22, W22, st22⟩ := putF X13 hx hZ hown (host := "") (Or.inl (hw _ (List.mem_of_getElem? (i := 95) rfl))) Via.refl e13 G15 G14 (Or.inr ⟨(hw _ (List.mem_of_getElem? (i := 96) rfl)), rfl, hnm⟩) (hw _ (List.mem_of_getElem? (i := 85) rfl)) (ty := (.object "java/util/List")) (by decide) rfl rfl (g := (mkF m 16 #[.val (.ref a1), .val (.ref a2), .val (.ref a3), .val (.ref a4), .val (.int p5), .val .null, .val .null] [(.ref a4), (.ref a1)])) rfl rfl (hb hby d13_16)
  have N22 := Fr.snoc X22 N13 g_a1
  have K22 : Keep h0 h22 [a1] := K13.wr W22 (Or.inl (List.mem_of_getElem? (i := 0) rfl))
  have Z22 : n0 ≤ h22.size := Nat.le_trans Z13 (Keep.of_wr W22).1
  have G23 : Exa Z h22 a1 "com/example/oriflamme/oriflamme/language/Type" := G14.wr W22
  have G24 : Fld Z h22 a1 "com/example/oriflamme/oriflamme/language/Type" "optional" "Z" (.int (0 : Int32)) := G16.other W22 (Or.inr (slot_ne (Or.inr (hw _ (List.mem_of_getElem? (i := 98) rfl))) (Or.inr (hw _ (List.mem_of_getElem? (i := 96) rfl))) (by decide) (t := .boolean) (t' := (.object "java/util/List")) (by decide) (by decide)))
  have G25 : Fld Z h22 a1 "com/example/oriflamme/oriflamme/language/Type" "base" "Lcom/example/oriflamme/oriflamme/language/Type$Base;" .null := G17.other W22 (Or.inr (slot_ne (Or.inr (hw _ (List.mem_of_getElem? (i := 100) rfl))) (Or.inr (hw _ (List.mem_of_getElem? (i := 96) rfl))) (by decide) (t := (.object "com/example/oriflamme/oriflamme/language/Type$Base")) (t' := (.object "java/util/List")) (by decide) (by decide)))
  have G26 : Fld Z h22 a1 "com/example/oriflamme/oriflamme/language/Type" "record" "Lcom/example/oriflamme/oriflamme/language/RecordType;" .null := G18.other W22 (Or.inr (slot_ne (Or.inr (hw _ (List.mem_of_getElem? (i := 102) rfl))) (Or.inr (hw _ (List.mem_of_getElem? (i := 96) rfl))) (by decide) (t := (.object "com/example/oriflamme/oriflamme/language/RecordType")) (t' := (.object "java/util/List")) (by decide) (by decide)))
  have G27 : Fld Z h22 a1 "com/example/oriflamme/oriflamme/language/Type" "at" "Lcom/example/oriflamme/oriflamme/language/Position;" (.ref a2) := G19.other W22 (Or.inr (slot_ne (Or.inr (hw _ (List.mem_of_getElem? (i := 92) rfl))) (Or.inr (hw _ (List.mem_of_getElem? (i := 96) rfl))) (by decide) (t := (.object "com/example/oriflamme/oriflamme/language/Position")) (t' := (.object "java/util/List")) (by decide) (by decide)))
  have G28 : Fld Z h22 a1 "com/example/oriflamme/oriflamme/language/Type" "name" "Ljava/lang/String;" (.ref a3) := G20.other W22 (Or.inr (slot_ne (Or.inr (hw _ (List.mem_of_getElem? (i := 94) rfl))) (Or.inr (hw _ (List.mem_of_getElem? (i := 96) rfl))) (by decide) (t := (.object "java/lang/String")) (t' := (.object "java/util/List")) (by decide) (by decide)))
  have G29 : Fld Z h22 a1 "com/example/oriflamme/oriflamme/language/Type" "arguments" "Ljava/util/List;" (.ref a4) := G15.same W22
  have st30 : ∀ tg, Steps p.tables e below (T22.setTop (mkF m 22 #[.val (.ref a1), .val (.ref a2), .val (.ref a3), .val (.ref a4), .val (.int p5), .val .null, .val .null] [(.int p5), (.ref a1)])) tg → Steps p.tables e below (T22.setTop (mkF m 19 #[.val (.ref a1), .val (.ref a2), .val (.ref a3), .val (.ref a4), .val (.int p5), .val .null, .val .null] [])) tg := by
    intro tg kt
    show Steps p.tables e below (T22.setTop (mkF m 19 #[.val (.ref a1), .val (.ref a2), .val (.ref a3), .val (.ref a4), .val (.int p5), .val .null, .val .null] [])) tg
    refine XS.aloadN X22.here hx rfl (hb hby d13_19) rfl rfl ?_
    show Steps p.tables e below (T22.setTop (mkF m 20 #[.val (.ref a1), .val (.ref a2), .val (.ref a3), .val (.ref a4), .val (.int p5), .val .null, .val .null] [(.ref a1)])) tg
    refine XS.iload X22.here hx rfl (hb hby d13_20) rfl ?_
    exact kt
  obtain ⟨T31, h31, X31, e31, W31, st31⟩ := putFN X22 hx hZ hown (hw _ (List.mem_of_getElem? (i := 97) rfl)) Via.refl e22 G24 G23 (Or.inr ⟨(hw _ (List.mem_of_getElem? (i := 98) rfl)), rfl, hnm⟩) (hw _ (List.mem_of_getElem? (i := 85) rfl)) (ty := .boolean) (v' := .int (nar .boolean p5)) (by decide) rfl (fits_nar_bool _) (g := (mkF m 22 #[.val (.ref a1), .val (.ref a2), .val (.ref a3), .val (.ref a4), .val (.int p5), .val .null, .val .null] [(.int p5), (.ref a1)])) rfl rfl (hb hby d13_22)
  have N31 := Fr.snoc X31 N22 g_a1
  have K31 : Keep h0 h31 [a1] := K22.wr W31 (Or.inl (List.mem_of_getElem? (i := 0) rfl))
  have Z31 : n0 ≤ h31.size := Nat.le_trans Z22 (Keep.of_wr W31).1
  have G32 : Exa Z h31 a1 "com/example/oriflamme/oriflamme/language/Type" := G23.wr W31
  have G33 : Fld Z h31 a1 "com/example/oriflamme/oriflamme/language/Type" "base" "Lcom/example/oriflamme/oriflamme/language/Type$Base;" .null := G25.other W31 (Or.inr (slot_ne (Or.inr (hw _ (List.mem_of_getElem? (i := 100) rfl))) (Or.inr (hw _ (List.mem_of_getElem? (i := 98) rfl))) (by decide) (t := (.object "com/example/oriflamme/oriflamme/language/Type$Base")) (t' := .boolean) (by decide) (by decide)))
  have G34 : Fld Z h31 a1 "com/example/oriflamme/oriflamme/language/Type" "record" "Lcom/example/oriflamme/oriflamme/language/RecordType;" .null := G26.other W31 (Or.inr (slot_ne (Or.inr (hw _ (List.mem_of_getElem? (i := 102) rfl))) (Or.inr (hw _ (List.mem_of_getElem? (i := 98) rfl))) (by decide) (t := (.object "com/example/oriflamme/oriflamme/language/RecordType")) (t' := .boolean) (by decide) (by decide)))
  have G35 : Fld Z h31 a1 "com/example/oriflamme/oriflamme/language/Type" "at" "Lcom/example/oriflamme/oriflamme/language/Position;" (.ref a2) := G27.other W31 (Or.inr (slot_ne (Or.inr (hw _ (List.mem_of_getElem? (i := 92) rfl))) (Or.inr (hw _ (List.mem_of_getElem? (i := 98) rfl))) (by decide) (t := (.object "com/example/oriflamme/oriflamme/language/Position")) (t' := .boolean) (by decide) (by decide)))
  have G36 : Fld Z h31 a1 "com/example/oriflamme/oriflamme/language/Type" "name" "Ljava/lang/String;" (.ref a3) := G28.other W31 (Or.inr (slot_ne (Or.inr (hw _ (List.mem_of_getElem? (i := 94) rfl))) (Or.inr (hw _ (List.mem_of_getElem? (i := 98) rfl))) (by decide) (t := (.object "java/lang/String")) (t' := .boolean) (by decide) (by decide)))
  have G37 : Fld Z h31 a1 "com/example/oriflamme/oriflamme/language/Type" "arguments" "Ljava/util/List;" (.ref a4) := G29.other W31 (Or.inr (slot_ne (Or.inr (hw _ (List.mem_of_getElem? (i := 96) rfl))) (Or.inr (hw _ (List.mem_of_getElem? (i := 98) rfl))) (by decide) (t := (.object "java/util/List")) (t' := .boolean) (by decide) (by decide)))
  have G38 : Fld Z h31 a1 "com/example/oriflamme/oriflamme/language/Type" "optional" "Z" (.int (nar .boolean p5)) := G24.same W31
  have st39 : ∀ tg, Steps p.tables e below (T31.setTop (mkF m 28 #[.val (.ref a1), .val (.ref a2), .val (.ref a3), .val (.ref a4), .val (.int p5), .val .null, .val .null] [.null, (.ref a1)])) tg → Steps p.tables e below (T31.setTop (mkF m 25 #[.val (.ref a1), .val (.ref a2), .val (.ref a3), .val (.ref a4), .val (.int p5), .val .null, .val .null] [])) tg := by
    intro tg kt
    show Steps p.tables e below (T31.setTop (mkF m 25 #[.val (.ref a1), .val (.ref a2), .val (.ref a3), .val (.ref a4), .val (.int p5), .val .null, .val .null] [])) tg
    refine XS.aloadN X31.here hx rfl (hb hby d13_25) rfl rfl ?_
    show Steps p.tables e below (T31.setTop (mkF m 26 #[.val (.ref a1), .val (.ref a2), .val (.ref a3), .val (.ref a4), .val (.int p5), .val .null, .val .null] [(.ref a1)])) tg
    refine XS.aload X31.here hx rfl (hb hby d13_26) rfl rfl ?_
    exact kt
  obtain ⟨T40, h40, X40, e40, W40, st40⟩ := putF X31 hx hZ hown (host := "") (Or.inl (hw _ (List.mem_of_getElem? (i := 99) rfl))) Via.refl e31 G33 G32 (Or.inr ⟨(hw _ (List.mem_of_getElem? (i := 100) rfl)), rfl, hnm⟩) (hw _ (List.mem_of_getElem? (i := 85) rfl)) (ty := (.object "com/example/oriflamme/oriflamme/language/Type$Base")) (by decide) rfl rfl (g := (mkF m 28 #[.val (.ref a1), .val (.ref a2), .val (.ref a3), .val (.ref a4), .val (.int p5), .val .null, .val .null] [.null, (.ref a1)])) rfl rfl (hb hby d13_28)
  have N40 := Fr.snoc X40 N31 g_a1
  have K40 : Keep h0 h40 [a1] := K31.wr W40 (Or.inl (List.mem_of_getElem? (i := 0) rfl))
  have Z40 : n0 ≤ h40.size := Nat.le_trans Z31 (Keep.of_wr W40).1
  have G41 : Exa Z h40 a1 "com/example/oriflamme/oriflamme/language/Type" := G32.wr W40
  have G42 : Fld Z h40 a1 "com/example/oriflamme/oriflamme/language/Type" "record" "Lcom/example/oriflamme/oriflamme/language/RecordType;" .null := G34.other W40 (Or.inr (slot_ne (Or.inr (hw _ (List.mem_of_getElem? (i := 102) rfl))) (Or.inr (hw _ (List.mem_of_getElem? (i := 100) rfl))) (by decide) (t := (.object "com/example/oriflamme/oriflamme/language/RecordType")) (t' := (.object "com/example/oriflamme/oriflamme/language/Type$Base")) (by decide) (by decide)))
  have G43 : Fld Z h40 a1 "com/example/oriflamme/oriflamme/language/Type" "at" "Lcom/example/oriflamme/oriflamme/language/Position;" (.ref a2) := G35.other W40 (Or.inr (slot_ne (Or.inr (hw _ (List.mem_of_getElem? (i := 92) rfl))) (Or.inr (hw _ (List.mem_of_getElem? (i := 100) rfl))) (by decide) (t := (.object "com/example/oriflamme/oriflamme/language/Position")) (t' := (.object "com/example/oriflamme/oriflamme/language/Type$Base")) (by decide) (by decide)))
  have G44 : Fld Z h40 a1 "com/example/oriflamme/oriflamme/language/Type" "name" "Ljava/lang/String;" (.ref a3) := G36.other W40 (Or.inr (slot_ne (Or.inr (hw _ (List.mem_of_getElem? (i := 94) rfl))) (Or.inr (hw _ (List.mem_of_getElem? (i := 100) rfl))) (by decide) (t := (.object "java/lang/String")) (t' := (.object "com/example/oriflamme/oriflamme/language/Type$Base")) (by decide) (by decide)))
  have G45 : Fld Z h40 a1 "com/example/oriflamme/oriflamme/language/Type" "arguments" "Ljava/util/List;" (.ref a4) := G37.other W40 (Or.inr (slot_ne (Or.inr (hw _ (List.mem_of_getElem? (i := 96) rfl))) (Or.inr (hw _ (List.mem_of_getElem? (i := 100) rfl))) (by decide) (t := (.object "java/util/List")) (t' := (.object "com/example/oriflamme/oriflamme/language/Type$Base")) (by decide) (by decide)))
  have G46 : Fld Z h40 a1 "com/example/oriflamme/oriflamme/language/Type" "optional" "Z" (.int (nar .boolean p5)) := G38.other W40 (Or.inr (slot_ne (Or.inr (hw _ (List.mem_of_getElem? (i := 98) rfl))) (Or.inr (hw _ (List.mem_of_getElem? (i := 100) rfl))) (by decide) (t := .boolean) (t' := (.object "com/example/oriflamme/oriflamme/language/Type$Base")) (by decide) (by decide)))
  have G47 : Fld Z h40 a1 "com/example/oriflamme/oriflamme/language/Type" "base" "Lcom/example/oriflamme/oriflamme/language/Type$Base;" .null := G33.same W40
  have st48 : ∀ tg, Steps p.tables e below (T40.setTop (mkF m 34 #[.val (.ref a1), .val (.ref a2), .val (.ref a3), .val (.ref a4), .val (.int p5), .val .null, .val .null] [.null, (.ref a1)])) tg → Steps p.tables e below (T40.setTop (mkF m 31 #[.val (.ref a1), .val (.ref a2), .val (.ref a3), .val (.ref a4), .val (.int p5), .val .null, .val .null] [])) tg := by
    intro tg kt
    show Steps p.tables e below (T40.setTop (mkF m 31 #[.val (.ref a1), .val (.ref a2), .val (.ref a3), .val (.ref a4), .val (.int p5), .val .null, .val .null] [])) tg
    refine XS.aloadN X40.here hx rfl (hb hby d13_31) rfl rfl ?_
    show Steps p.tables e below (T40.setTop (mkF m 32 #[.val (.ref a1), .val (.ref a2), .val (.ref a3), .val (.ref a4), .val (.int p5), .val .null, .val .null] [(.ref a1)])) tg
    refine XS.aload X40.here hx rfl (hb hby d13_32) rfl rfl ?_
    exact kt
  obtain ⟨T49, h49, X49, e49, W49, st49⟩ := putF X40 hx hZ hown (host := "") (Or.inl (hw _ (List.mem_of_getElem? (i := 101) rfl))) Via.refl e40 G42 G41 (Or.inr ⟨(hw _ (List.mem_of_getElem? (i := 102) rfl)), rfl, hnm⟩) (hw _ (List.mem_of_getElem? (i := 85) rfl)) (ty := (.object "com/example/oriflamme/oriflamme/language/RecordType")) (by decide) rfl rfl (g := (mkF m 34 #[.val (.ref a1), .val (.ref a2), .val (.ref a3), .val (.ref a4), .val (.int p5), .val .null, .val .null] [.null, (.ref a1)])) rfl rfl (hb hby d13_34)
  have N49 := Fr.snoc X49 N40 g_a1
  have K49 : Keep h0 h49 [a1] := K40.wr W49 (Or.inl (List.mem_of_getElem? (i := 0) rfl))
  have Z49 : n0 ≤ h49.size := Nat.le_trans Z40 (Keep.of_wr W49).1
  have G50 : Exa Z h49 a1 "com/example/oriflamme/oriflamme/language/Type" := G41.wr W49
  have G51 : Fld Z h49 a1 "com/example/oriflamme/oriflamme/language/Type" "at" "Lcom/example/oriflamme/oriflamme/language/Position;" (.ref a2) := G43.other W49 (Or.inr (slot_ne (Or.inr (hw _ (List.mem_of_getElem? (i := 92) rfl))) (Or.inr (hw _ (List.mem_of_getElem? (i := 102) rfl))) (by decide) (t := (.object "com/example/oriflamme/oriflamme/language/Position")) (t' := (.object "com/example/oriflamme/oriflamme/language/RecordType")) (by decide) (by decide)))
  have G52 : Fld Z h49 a1 "com/example/oriflamme/oriflamme/language/Type" "name" "Ljava/lang/String;" (.ref a3) := G44.other W49 (Or.inr (slot_ne (Or.inr (hw _ (List.mem_of_getElem? (i := 94) rfl))) (Or.inr (hw _ (List.mem_of_getElem? (i := 102) rfl))) (by decide) (t := (.object "java/lang/String")) (t' := (.object "com/example/oriflamme/oriflamme/language/RecordType")) (by decide) (by decide)))
  have G53 : Fld Z h49 a1 "com/example/oriflamme/oriflamme/language/Type" "arguments" "Ljava/util/List;" (.ref a4) := G45.other W49 (Or.inr (slot_ne (Or.inr (hw _ (List.mem_of_getElem? (i := 96) rfl))) (Or.inr (hw _ (List.mem_of_getElem? (i := 102) rfl))) (by decide) (t := (.object "java/util/List")) (t' := (.object "com/example/oriflamme/oriflamme/language/RecordType")) (by decide) (by decide)))
  have G54 : Fld Z h49 a1 "com/example/oriflamme/oriflamme/language/Type" "optional" "Z" (.int (nar .boolean p5)) := G46.other W49 (Or.inr (slot_ne (Or.inr (hw _ (List.mem_of_getElem? (i := 98) rfl))) (Or.inr (hw _ (List.mem_of_getElem? (i := 102) rfl))) (by decide) (t := .boolean) (t' := (.object "com/example/oriflamme/oriflamme/language/RecordType")) (by decide) (by decide)))
  have G55 : Fld Z h49 a1 "com/example/oriflamme/oriflamme/language/Type" "base" "Lcom/example/oriflamme/oriflamme/language/Type$Base;" .null := G47.other W49 (Or.inr (slot_ne (Or.inr (hw _ (List.mem_of_getElem? (i := 100) rfl))) (Or.inr (hw _ (List.mem_of_getElem? (i := 102) rfl))) (by decide) (t := (.object "com/example/oriflamme/oriflamme/language/Type$Base")) (t' := (.object "com/example/oriflamme/oriflamme/language/RecordType")) (by decide) (by decide)))
  have G56 : Fld Z h49 a1 "com/example/oriflamme/oriflamme/language/Type" "record" "Lcom/example/oriflamme/oriflamme/language/RecordType;" .null := G42.same W49
  obtain ⟨fs, hr, hrun, hended, hW, hsame⟩ := X49.leave (v := none) (fun _ => rfl)
  refine ⟨_, _, pre0 _ ?_, hrun, hended, _, _, rfl, ?_, ⟨_, rfl⟩, hW, hsame.mono (by decide) (by decide)⟩
  · refine st1 _ ?_
    show Steps p.tables e below (s₁.setTop (mkF m 1 #[.val (.ref a1), .val (.ref a2), .val (.ref a3), .val (.ref a4), .val (.int p5), .val .null, .val .null] [(.ref a1)])) _
    refine st2.trans ?_
    refine st3 _ ?_
    show Steps p.tables e below (T2.setTop (mkF m 6 #[.val (.ref a1), .val (.ref a2), .val (.ref a3), .val (.ref a4), .val (.int p5), .val .null, .val .null] [(.ref a2), (.ref a1)])) _
    refine st4 _ ?_
    refine st12 _ ?_
    show Steps p.tables e below (T4.setTop (mkF m 11 #[.val (.ref a1), .val (.ref a2), .val (.ref a3), .val (.ref a4), .val (.int p5), .val .null, .val .null] [(.ref a3), (.ref a1)])) _
    refine st13 _ ?_
    refine st21 _ ?_
    show Steps p.tables e below (T13.setTop (mkF m 16 #[.val (.ref a1), .val (.ref a2), .val (.ref a3), .val (.ref a4), .val (.int p5), .val .null, .val .null] [(.ref a4), (.ref a1)])) _
    refine st22 _ ?_
    refine st30 _ ?_
    show Steps p.tables e below (T22.setTop (mkF m 22 #[.val (.ref a1), .val (.ref a2), .val (.ref a3), .val (.ref a4), .val (.int p5), .val .null, .val .null] [(.int p5), (.ref a1)])) _
    refine st31 _ ?_
    refine st39 _ ?_
    show Steps p.tables e below (T31.setTop (mkF m 28 #[.val (.ref a1), .val (.ref a2), .val (.ref a3), .val (.ref a4), .val (.int p5), .val .null, .val .null] [.null, (.ref a1)])) _
    refine st40 _ ?_
    refine st48 _ ?_
    show Steps p.tables e below (T40.setTop (mkF m 34 #[.val (.ref a1), .val (.ref a2), .val (.ref a3), .val (.ref a4), .val (.int p5), .val .null, .val .null] [.null, (.ref a1)])) _
    refine st49 _ ?_
    show Steps p.tables e below (T49.setTop (mkF m 37 #[.val (.ref a1), .val (.ref a2), .val (.ref a3), .val (.ref a4), .val (.int p5), .val .null, .val .null] [])) _
    exact X49.returnOut hx Bd.returns (hb hby d13_37) hr
  · show Q13 Z a1 a2 a3 a4 p5 h0 n0 _ T49.heap _
    rw [e49]
    exact ⟨rfl, N49, K49, G50, G51, G52, G53, G54, G55, G56⟩
theorem d14_0 : decode prog_55_method_10_code 0 = .ok (.aload_n 0, 1) := by decide +kernel
theorem d14_1 : decode prog_55_method_10_code 1 = .ok (.getfield 21, 3) := by decide +kernel
theorem d14_4 : decode prog_55_method_10_code 4 = .ok (.ireturn, 1) := by decide +kernel
theorem pn_14 : plainName "com/example/oriflamme/oriflamme/language/Type" = true := by first | (simp [plainName, overriddenIn]; done) | decide +kernel
theorem ef_14 (m : MethodId) (a1 : Addr) : entryFrame m #[(.ref a1)] 1 = mkF m 0 #[.val (.ref a1)] [] := by first | (simp [entryFrame, mkF, argsToLocals, Value.category]; done) | rfl
def rv14 (a1 : Addr) (o : Int32) : Int32 :=
  (nar .boolean o)
def Q14 (Z : State) (a1 : Addr) (o : Int32) (h0 : Heap) (n0 : Nat) (v : Option Value) (h : Heap) (L : List Loc) : Prop := v = some (.int (rv14 a1 o)) ∧ Fr n0 L ∧ h = h0
set_option maxRecDepth 65536 in
set_option maxHeartbeats 40000000 in
theorem rm14 (l : Launch) (Z : State) (a0 : Array Value) (hw : ∀ d ∈ tables_1, d.before a0 Z = true) (ws : List Jvm.Cond) (a1 : Addr) (o : Int32) (h0 : Heap) (n0 : Nat) (Z0 : n0 ≤ h0.size) (F1 : Fld Z h0 a1 "com/example/oriflamme/oriflamme/language/Type" "optional" "Z" (.int o)) :
    MetFree l (⟨"com/example/oriflamme/oriflamme/language/Type", "optional", "()Z"⟩ : MethodName) (head1 (Jvm.Cond.code (⟨"com/example/oriflamme/oriflamme/language/Type", "optional", "()Z"⟩ : MethodName) prog_55_method_10_code 1 (some .boolean) :: ws) ({ frames := 0, cells := 0, slots := 0, locals := 0 } : Room)) (fun a U => a = #[(.ref a1)] ∧ Z.Warmed39 U.vm ∧ U.heap = h0) (fun _ _ _ _ _ => True) (fun _ U oo U' => ∃ v L, oo = .returned v ∧ Q14 Z a1 o h0 n0 v U'.heap L ∧ FrameEnd U oo U' L ({ frames := 0, cells := 0, slots := 0, locals := 0 } : Room).cells ({ frames := 0, cells := 0, slots := 0, locals := 0 } : Room).slots) := by
  refine MetFree.of_bodySF (plainFor_of_name pn_14) hisR ?_
  intro p e s m args below meth c s₁ Bd hml0 hP hK
  obtain ⟨rfl, hZ, hh⟩ := hP
  have hx := Bd.exec
  have hby := Bd.bytes
  have hml : c.maxLocals = 1 := hml0
  have hown : s.vm.findClass "com/example/oriflamme/oriflamme/language/Type" = some m.cls := findClass_of_methodNamed Bd.named
  have hnm := (name_of_methodNamed Bd.named Bd.method).1
  have X0 : Stand p l e ({ frames := 0, cells := 0, slots := 0, locals := 0 } : Room) s m #[(.ref a1)] below meth c s₁ [] 0 0 := Stand.of_body Bd
  have e0 : s₁.heap = h0 := by rw [← hh, Bd.state]; rfl
  have N0 := Fr.nil n0
  have K0 : Keep h0 h0 [] := Keep.refl _ _
  have pre0 : ∀ tg, Steps p.tables e below (s₁.setTop (mkF m 0 #[.val (.ref a1)] [])) tg → Steps p.tables e below (s₁.setTop (entryFrame m #[(.ref a1)] 1)) tg := fun tg k => castTop (ef_14 m a1) k
  have st1 : ∀ tg, Steps p.tables e below (s₁.setTop (mkF m 1 #[.val (.ref a1)] [(.ref a1)])) tg → Steps p.tables e below (s₁.setTop (mkF m 0 #[.val (.ref a1)] [])) tg := by
    intro tg kt
    show Steps p.tables e below (s₁.setTop (mkF m 0 #[.val (.ref a1)] [])) tg
    refine XS.aloadN X0.here hx rfl (hb hby d14_0) rfl rfl ?_
    exact kt
  obtain ⟨T2, X2, e2, st2⟩ := getF X0 hx hZ hown (host := "") (Or.inl (hw _ (List.mem_of_getElem? (i := 97) rfl))) Via.refl e0 F1 (g := (mkF m 1 #[.val (.ref a1)] [(.ref a1)])) rfl rfl (hb hby d14_1)
  obtain ⟨fs, hr, hrun, hended, hW, hsame⟩ := X2.leave (v := some (.int (nar .boolean o))) (fun h => by rw [Bd.returns] at h; cases h)
  refine ⟨_, _, pre0 _ ?_, hrun, hended, _, _, rfl, ?_, ⟨_, rfl⟩, hW, hsame.mono (by decide) (by decide)⟩
  · refine st1 _ ?_
    show Steps p.tables e below (s₁.setTop (mkF m 1 #[.val (.ref a1)] [(.ref a1)])) _
    refine st2 _ ?_
    show Steps p.tables e below (T2.setTop (mkF m 4 #[.val (.ref a1)] [(.int o)])) _
    exact retN X2 hx (t := .boolean) Bd.returns (by simp) (hb hby d14_4) hr
  · show Q14 Z a1 o h0 n0 _ T2.heap _
    rw [e2]
    refine ⟨?_, N0, rfl⟩
    simp only [rv14]
theorem d12_0 : decode prog_14_method_2_code 0 = .ok (.aload_n 0, 1) := by decide +kernel
theorem d12_1 : decode prog_14_method_2_code 1 = .ok (.getfield 17, 3) := by decide +kernel
theorem d12_4 : decode prog_14_method_2_code 4 = .ok (.ifnull 13, 3) := by decide +kernel
theorem d12_17 : decode prog_14_method_2_code 17 = .ok (.iconst 1, 1) := by decide +kernel
theorem d12_18 : decode prog_14_method_2_code 18 = .ok (.goto 4, 3) := by decide +kernel
theorem d12_22 : decode prog_14_method_2_code 22 = .ok (.ireturn, 1) := by decide +kernel
theorem pn_12 : plainName "com/example/oriflamme/oriflamme/language/Expr$Param" = true := by first | (simp [plainName, overriddenIn]; done) | decide +kernel
theorem ef_12n (m : MethodId) (a1 : Addr) : entryFrame m #[(.ref a1)] 1 = mkF m 0 #[.val (.ref a1)] [] := by first | (simp [entryFrame, mkF, argsToLocals, Value.category]; done) | rfl
def rv12n (a1 : Addr) : Int32 :=
  (1 : Int32)
def Q12n (Z : State) (a1 : Addr) (h0 : Heap) (n0 : Nat) (v : Option Value) (h : Heap) (L : List Loc) : Prop := v = some (.int (rv12n a1)) ∧ Fr n0 L ∧ h = h0
set_option maxRecDepth 65536 in
set_option maxHeartbeats 40000000 in
theorem rm12n (l : Launch) (Z : State) (a0 : Array Value) (hw : ∀ d ∈ tables_1, d.before a0 Z = true) (ws : List Jvm.Cond) (a1 : Addr) (h0 : Heap) (n0 : Nat) (Z0 : n0 ≤ h0.size) (F1 : Fld Z h0 a1 "com/example/oriflamme/oriflamme/language/Expr$Param" "type" "Lcom/example/oriflamme/oriflamme/language/Type;" .null) :
    MetFree l (⟨"com/example/oriflamme/oriflamme/language/Expr$Param", "isRequired", "()Z"⟩ : MethodName) (head1 (Jvm.Cond.code (⟨"com/example/oriflamme/oriflamme/language/Expr$Param", "isRequired", "()Z"⟩ : MethodName) prog_14_method_2_code 1 (some .boolean) :: ws) ({ frames := 0, cells := 0, slots := 0, locals := 0 } : Room)) (fun a U => a = #[(.ref a1)] ∧ Z.Warmed39 U.vm ∧ U.heap = h0) (fun _ _ _ _ _ => True) (fun _ U oo U' => ∃ v L, oo = .returned v ∧ Q12n Z a1 h0 n0 v U'.heap L ∧ FrameEnd U oo U' L ({ frames := 0, cells := 0, slots := 0, locals := 0 } : Room).cells ({ frames := 0, cells := 0, slots := 0, locals := 0 } : Room).slots) := by
  refine MetFree.of_bodySF (plainFor_of_name pn_12) hisR ?_
  intro p e s m args below meth c s₁ Bd hml0 hP hK
  obtain ⟨rfl, hZ, hh⟩ := hP
  have hx := Bd.exec
  have hby := Bd.bytes
  have hml : c.maxLocals = 1 := hml0
  have hown : s.vm.findClass "com/example/oriflamme/oriflamme/language/Expr$Param" = some m.cls := findClass_of_methodNamed Bd.named
  have hnm := (name_of_methodNamed Bd.named Bd.method).1
  have X0 : Stand p l e ({ frames := 0, cells := 0, slots := 0, locals := 0 } : Room) s m #[(.ref a1)] below meth c s₁ [] 0 0 := Stand.of_body Bd
  have e0 : s₁.heap = h0 := by rw [← hh, Bd.state]; rfl
  have N0 := Fr.nil n0
  have K0 : Keep h0 h0 [] := Keep.refl _ _
  have pre0 : ∀ tg, Steps p.tables e below (s₁.setTop (mkF m 0 #[.val (.ref a1)] [])) tg → Steps p.tables e below (s₁.setTop (entryFrame m #[(.ref a1)] 1)) tg := fun tg k => castTop (ef_12n m a1) k
  have st1 : ∀ tg, Steps p.tables e below (s₁.setTop (mkF m 1 #[.val (.ref a1)] [(.ref a1)])) tg → Steps p.tables e below (s₁.setTop (mkF m 0 #[.val (.ref a1)] [])) tg := by
    intro tg kt
    show Steps p.tables e below (s₁.setTop (mkF m 0 #[.val (.ref a1)] [])) tg
    refine XS.aloadN X0.here hx rfl (hb hby d12_0) rfl rfl ?_
    exact kt
  obtain ⟨T2, X2, e2, st2⟩ := getF X0 hx hZ hown (host := "") (Or.inl (hw _ (List.mem_of_getElem? (i := 77) rfl))) Via.refl e0 F1 (g := (mkF m 1 #[.val (.ref a1)] [(.ref a1)])) rfl rfl (hb hby d12_1)
  have st3 : ∀ tg, Steps p.tables e below (T2.setTop (mkF m 22 #[.val (.ref a1)] [(.int (1 : Int32))])) tg → Steps p.tables e below (T2.setTop (mkF m 4 #[.val (.ref a1)] [.null])) tg := by
    intro tg kt
    show Steps p.tables e below (T2.setTop (mkF m 4 #[.val (.ref a1)] [.null])) tg
    refine XS.ifnullYes X2.here hx rfl (pc0 := 4) (pc' := 17) rfl (hb hby d12_4) rfl (by decide) (by decide) ?_
    show Steps p.tables e below (T2.setTop (mkF m 17 #[.val (.ref a1)] [])) tg
    refine XS.iconst X2.here hx rfl (hb hby d12_17) ?_
    show Steps p.tables e below (T2.setTop (mkF m 18 #[.val (.ref a1)] [(.int (1 : Int32))])) tg
    refine XS.goto X2.here hx rfl (pc0 := 18) (pc' := 22) rfl (hb hby d12_18) (by decide) (by decide) ?_
    exact kt
  obtain ⟨fs, hr, hrun, hended, hW, hsame⟩ := X2.leave (v := some (.int (1 : Int32))) (fun h => by rw [Bd.returns] at h; cases h)
  refine ⟨_, _, pre0 _ ?_, hrun, hended, _, _, rfl, ?_, ⟨_, rfl⟩, hW, hsame.mono (by decide) (by decide)⟩
  · refine st1 _ ?_
    show Steps p.tables e below (s₁.setTop (mkF m 1 #[.val (.ref a1)] [(.ref a1)])) _
    refine st2 _ ?_
    refine st3 _ ?_
    show Steps p.tables e below (T2.setTop (mkF m 22 #[.val (.ref a1)] [(.int (1 : Int32))])) _
    exact retN X2 hx (t := .boolean) Bd.returns (by simp) (hb hby d12_22) hr
  · show Q12n Z a1 h0 n0 _ T2.heap _
    rw [e2]
    refine ⟨?_, N0, rfl⟩
    simp only [rv12n]
theorem d12_7 : decode prog_14_method_2_code 7 = .ok (.aload_n 0, 1) := by decide +kernel
theorem d12_8 : decode prog_14_method_2_code 8 = .ok (.getfield 17, 3) := by decide +kernel
theorem d12_11 : decode prog_14_method_2_code 11 = .ok (.invokevirtual 21, 3) := by decide +kernel
theorem d12_14 : decode prog_14_method_2_code 14 = .ok (.ifCond .ne 7, 3) := by decide +kernel
theorem d12_21 : decode prog_14_method_2_code 21 = .ok (.iconst 0, 1) := by decide +kernel
theorem ef_12 (m : MethodId) (a1 : Addr) : entryFrame m #[(.ref a1)] 1 = mkF m 0 #[.val (.ref a1)] [] := by first | (simp [entryFrame, mkF, argsToLocals, Value.category]; done) | rfl
def rv12 (a1 : Addr) (t : Addr) (o : Int32) : Int32 :=
  if (rv14 t o) = 0 then (1 : Int32) else (0 : Int32)
def Q12 (Z : State) (a1 : Addr) (t : Addr) (o : Int32) (h0 : Heap) (n0 : Nat) (v : Option Value) (h : Heap) (L : List Loc) : Prop := v = some (.int (rv12 a1 t o)) ∧ Fr n0 L ∧ h = h0
set_option maxRecDepth 65536 in
set_option maxHeartbeats 40000000 in
theorem rm12 (l : Launch) (Z : State) (a0 : Array Value) (hw : ∀ d ∈ tables_1, d.before a0 Z = true) (ws : List Jvm.Cond) (a1 : Addr) (t : Addr) (o : Int32) (h0 : Heap) (n0 : Nat) (Z0 : n0 ≤ h0.size) (F1 : Fld Z h0 a1 "com/example/oriflamme/oriflamme/language/Expr$Param" "type" "Lcom/example/oriflamme/oriflamme/language/Type;" (.ref t)) (E2 : Exa Z h0 t "com/example/oriflamme/oriflamme/language/Type") (F2 : Fld Z h0 t "com/example/oriflamme/oriflamme/language/Type" "optional" "Z" (.int o)) :
    MetFree l (⟨"com/example/oriflamme/oriflamme/language/Expr$Param", "isRequired", "()Z"⟩ : MethodName) (head1 (Jvm.Cond.code (⟨"com/example/oriflamme/oriflamme/language/Expr$Param", "isRequired", "()Z"⟩ : MethodName) prog_14_method_2_code 1 (some .boolean) :: ws) ({ frames := 1, cells := 0, slots := 0, locals := 12 } : Room)) (fun a U => a = #[(.ref a1)] ∧ Z.Warmed39 U.vm ∧ U.heap = h0) (fun _ _ _ _ _ => True) (fun _ U oo U' => ∃ v L, oo = .returned v ∧ Q12 Z a1 t o h0 n0 v U'.heap L ∧ FrameEnd U oo U' L ({ frames := 1, cells := 0, slots := 0, locals := 12 } : Room).cells ({ frames := 1, cells := 0, slots := 0, locals := 12 } : Room).slots) := by
  refine MetFree.of_bodySF (plainFor_of_name pn_12) hisR ?_
  intro p e s m args below meth c s₁ Bd hml0 hP hK
  obtain ⟨rfl, hZ, hh⟩ := hP
  have hx := Bd.exec
  have hby := Bd.bytes
  have hml : c.maxLocals = 1 := hml0
  have hown : s.vm.findClass "com/example/oriflamme/oriflamme/language/Expr$Param" = some m.cls := findClass_of_methodNamed Bd.named
  have hnm := (name_of_methodNamed Bd.named Bd.method).1
  have X0 : Stand p l e ({ frames := 1, cells := 0, slots := 0, locals := 12 } : Room) s m #[(.ref a1)] below meth c s₁ [] 0 0 := Stand.of_body Bd
  have e0 : s₁.heap = h0 := by rw [← hh, Bd.state]; rfl
  have N0 := Fr.nil n0
  have K0 : Keep h0 h0 [] := Keep.refl _ _
  have pre0 : ∀ tg, Steps p.tables e below (s₁.setTop (mkF m 0 #[.val (.ref a1)] [])) tg → Steps p.tables e below (s₁.setTop (entryFrame m #[(.ref a1)] 1)) tg := fun tg k => castTop (ef_12 m a1) k
  have st1 : ∀ tg, Steps p.tables e below (s₁.setTop (mkF m 1 #[.val (.ref a1)] [(.ref a1)])) tg → Steps p.tables e below (s₁.setTop (mkF m 0 #[.val (.ref a1)] [])) tg := by
    intro tg kt
    show Steps p.tables e below (s₁.setTop (mkF m 0 #[.val (.ref a1)] [])) tg
    refine XS.aloadN X0.here hx rfl (hb hby d12_0) rfl rfl ?_
    exact kt
  obtain ⟨T2, X2, e2, st2⟩ := getF X0 hx hZ hown (host := "") (Or.inl (hw _ (List.mem_of_getElem? (i := 77) rfl))) Via.refl e0 F1 (g := (mkF m 1 #[.val (.ref a1)] [(.ref a1)])) rfl rfl (hb hby d12_1)
  have st3 : ∀ tg, Steps p.tables e below (T2.setTop (mkF m 8 #[.val (.ref a1)] [(.ref a1)])) tg → Steps p.tables e below (T2.setTop (mkF m 4 #[.val (.ref a1)] [(.ref t)])) tg := by
    intro tg kt
    show Steps p.tables e below (T2.setTop (mkF m 4 #[.val (.ref a1)] [(.ref t)])) tg
    refine XS.ifnullNo X2.here hx rfl (hb hby d12_4) rfl ?_
    show Steps p.tables e below (T2.setTop (mkF m 7 #[.val (.ref a1)] [])) tg
    refine XS.aloadN X2.here hx rfl (hb hby d12_7) rfl rfl ?_
    exact kt
  obtain ⟨T4, X4, e4, st4⟩ := getF X2 hx hZ hown (host := "") (Or.inl (hw _ (List.mem_of_getElem? (i := 77) rfl))) Via.refl e2 F1 (g := (mkF m 8 #[.val (.ref a1)] [(.ref a1)])) rfl rfl (hb hby d12_8)
  obtain ⟨cq5, kq5, q5a, q5b, q5c⟩ := isOf hZ e4 E2
  obtain ⟨_, _, ⟨T5, L5, k5, n5⟩, -, X5, ⟨Lc5, hQ5, l5, y5, z5⟩, st5⟩ := X4.virtualBack hx (y := (⟨"com/example/oriflamme/oriflamme/language/Type", "optional", "()Z"⟩ : MethodName)) (z := (⟨"com/example/oriflamme/oriflamme/language/Type", "optional", "()Z"⟩ : MethodName)) hown (mvT hZ (hw _ (List.mem_of_getElem? (i := 103) rfl))) (mvT hZ (hw _ (List.mem_of_getElem? (i := 104) rfl))) (notFace_of_selects (args := #[]) (mvT hZ (hw _ (List.mem_of_getElem? (i := 106) rfl)))) (mvT hZ (hw _ (List.mem_of_getElem? (i := 106) rfl))) (mvT hZ (hw _ (List.mem_of_getElem? (i := 105) rfl))) (by decide) (backOf (W := 0) (rm14 l Z a0 hw [] t o h0 n0 Z0 F2) hZ (hw _ (List.mem_of_getElem? (i := 107) rfl)) (hw _ (List.mem_of_getElem? (i := 86) rfl)) (by decide) (by decide)) q5a q5c (g := (mkF m 11 #[.val (.ref a1)] [(.ref t)])) rfl (by rw [hml]; rfl) (Steps.refl _) (argsL := []) (rest := []) (lenOf pd_4 rfl) rfl (by show 2 * 0 + _ ≤ _; exact Nat.le_of_eq rfl) (hb hby d12_11) (fun _ _ => ⟨rfl, e4, (by decide : 0 + 0 ≤ _), (by decide : 0 + 0 ≤ _)⟩)
  dsimp only [Pt.U, Pt.locs, Pt.cells, Pt.slots] at X5 l5 y5 z5 st5 hQ5
  subst l5 y5 z5
  obtain ⟨rfl, N5q, e5⟩ := hQ5
  have N5 := Fr.app N0 N5q
  obtain ⟨r5, hr5⟩ : ∃ z, z = rv14 t o := ⟨_, rfl⟩
  rw [← hr5] at st5
  by_cases hc14_6 : r5 = 0
  · -- pc 14: r5 = 0
    have st7 : ∀ tg, Steps p.tables e below (T5.setTop (mkF m 22 #[.val (.ref a1)] [(.int (1 : Int32))])) tg → Steps p.tables e below (T5.setTop (mkF m 14 #[.val (.ref a1)] [(.int r5)])) tg := by
      intro tg kt
      show Steps p.tables e below (T5.setTop (mkF m 14 #[.val (.ref a1)] [(.int r5)])) tg
      refine XS.ifNo X5.here hx rfl (hb hby d12_14) rfl (XT.i0_ne_f hc14_6) ?_
      show Steps p.tables e below (T5.setTop (mkF m 17 #[.val (.ref a1)] [])) tg
      refine XS.iconst X5.here hx rfl (hb hby d12_17) ?_
      show Steps p.tables e below (T5.setTop (mkF m 18 #[.val (.ref a1)] [(.int (1 : Int32))])) tg
      refine XS.goto X5.here hx rfl (pc0 := 18) (pc' := 22) rfl (hb hby d12_18) (by decide) (by decide) ?_
      exact kt
    obtain ⟨fs, hr, hrun, hended, hW, hsame⟩ := X5.leave (v := some (.int (1 : Int32))) (fun h => by rw [Bd.returns] at h; cases h)
    refine ⟨_, _, pre0 _ ?_, hrun, hended, _, _, rfl, ?_, ⟨_, rfl⟩, hW, hsame.mono (by decide) (by decide)⟩
    · refine st1 _ ?_
      show Steps p.tables e below (s₁.setTop (mkF m 1 #[.val (.ref a1)] [(.ref a1)])) _
      refine st2 _ ?_
      refine st3 _ ?_
      show Steps p.tables e below (T2.setTop (mkF m 8 #[.val (.ref a1)] [(.ref a1)])) _
      refine st4 _ ?_
      show Steps p.tables e below (T4.setTop (mkF m 11 #[.val (.ref a1)] [(.ref t)])) _
      refine st5.trans ?_
      refine st7 _ ?_
      show Steps p.tables e below (T5.setTop (mkF m 22 #[.val (.ref a1)] [(.int (1 : Int32))])) _
      exact retN X5 hx (t := .boolean) Bd.returns (by simp) (hb hby d12_22) hr
    · show Q12 Z a1 t o h0 n0 _ T5.heap _
      rw [e5]
      refine ⟨?_, N5, rfl⟩
      subst hr5; simp only [rv12, if_pos hc14_6]
  · -- pc 14: not r5 = 0
    have st8 : ∀ tg, Steps p.tables e below (T5.setTop (mkF m 22 #[.val (.ref a1)] [(.int (0 : Int32))])) tg → Steps p.tables e below (T5.setTop (mkF m 14 #[.val (.ref a1)] [(.int r5)])) tg := by
      intro tg kt
      show Steps p.tables e below (T5.setTop (mkF m 14 #[.val (.ref a1)] [(.int r5)])) tg
      refine XS.ifYes X5.here hx rfl (pc0 := 14) (pc' := 21) rfl (hb hby d12_14) rfl (XT.i0_ne_t hc14_6) (by decide) (by decide) ?_
      show Steps p.tables e below (T5.setTop (mkF m 21 #[.val (.ref a1)] [])) tg
      refine XS.iconst X5.here hx rfl (hb hby d12_21) ?_
      exact kt
    obtain ⟨fs, hr, hrun, hended, hW, hsame⟩ := X5.leave (v := some (.int (0 : Int32))) (fun h => by rw [Bd.returns] at h; cases h)
    refine ⟨_, _, pre0 _ ?_, hrun, hended, _, _, rfl, ?_, ⟨_, rfl⟩, hW, hsame.mono (by decide) (by decide)⟩
    · refine st1 _ ?_
      show Steps p.tables e below (s₁.setTop (mkF m 1 #[.val (.ref a1)] [(.ref a1)])) _
      refine st2 _ ?_
      refine st3 _ ?_
      show Steps p.tables e below (T2.setTop (mkF m 8 #[.val (.ref a1)] [(.ref a1)])) _
      refine st4 _ ?_
      show Steps p.tables e below (T4.setTop (mkF m 11 #[.val (.ref a1)] [(.ref t)])) _
      refine st5.trans ?_
      refine st8 _ ?_
      show Steps p.tables e below (T5.setTop (mkF m 22 #[.val (.ref a1)] [(.int (0 : Int32))])) _
      exact retN X5 hx (t := .boolean) Bd.returns (by simp) (hb hby d12_22) hr
    · show Q12 Z a1 t o h0 n0 _ T5.heap _
      rw [e5]
      refine ⟨?_, N5, rfl⟩
      subst hr5; simp only [rv12, if_neg hc14_6]
theorem own_m255 (x : Int32) : 0 ≤ (x &&& (255 : Int32)).toInt ∧ (x &&& (255 : Int32)).toInt ≤ 255 := by
  have h : (x &&& (255 : Int32)).toBitVec.toNat < 256 := by
    simp only [Int32.toBitVec_and, BitVec.toNat_and]
    exact Nat.lt_succ_of_le Nat.and_le_right
  have e : (x &&& (255 : Int32)).toInt = ((x &&& (255 : Int32)).toBitVec.toNat : Int) := by
    show (x &&& (255 : Int32)).toBitVec.toInt = _
    exact BitVec.toInt_eq_toNat_of_lt (by omega)
  omega
theorem own_01 {P : Prop} [Decidable P] {v : Int32} (h : v = if P then (0 : Int32) else (1 : Int32)) : v = 0 ∨ v = 1 := by
  by_cases q : P
  · exact Or.inl (h.trans (if_pos q))
  · exact Or.inr (h.trans (if_neg q))
theorem own_opt0 (a t : Addr) : rv12 a t (nar .boolean 0) = 1 := by unfold rv12 rv14; decide
theorem own_opt1 (a t : Addr) : rv12 a t (nar .boolean 1) = 0 := by unfold rv12 rv14; decide
theorem own_c (x : Int32) : ¬ ((255 : Int32) < (x &&& (255 : Int32)).toUInt32.toUInt16.toUInt32.toInt32) := by
  rw [i2c_mask]
  have h := own_m255 x
  have z : (255 : Int32).toInt = 255 := by decide
  rw [Int32.lt_iff_toInt_lt]
  omega
theorem own_nz {args : Array Value} {s : State} {t : Term} {x : Int32} (ev : t.eval args s none [] s = some (.int x)) (h : (Cond.not (.eq t (.int 0))).value args s none s [] = some true) : ¬ (x = 0) := by
  intro q
  have := not_v h
  simp [Cond.value, ev, Term.int_eval, q] at this
theorem pn_0 : plainName "com/example/oriflamme/oriflamme/language/ParamIsRequiredPinLaw" = true := by first | (simp [plainName, overriddenIn]; done) | decide +kernel
theorem ef_0 (m : MethodId) (p1 : Int32) (p2 : Int32) (p3 : Int32) (p4 : Int32) (p5 : Int32) : entryFrame m #[(.int p1), (.int p2), (.int p3), (.int p4), (.int p5)] maxLocals = mkF m 0 #[.val (.int p1), .val (.int p2), .val (.int p3), .val (.int p4), .val (.int p5), .unset, .unset, .unset, .unset, .unset, .unset, .unset, .unset, .unset] [] := by first | (simp [entryFrame, mkF, argsToLocals, Value.category, maxLocals]; done) | rfl
def Q0 (Z : State) (p1 : Int32) (p2 : Int32) (p3 : Int32) (p4 : Int32) (p5 : Int32) (wc : Int32) (wd : Addr) (h0 : Heap) (n0 : Nat) (v : Option Value) (h : Heap) (L : List Loc) : Prop := v = some (.int (1 : Int32)) ∧ Fr n0 L
set_option maxRecDepth 65536 in
set_option maxHeartbeats 40000000 in
theorem rm0 (l : Launch) (Z : State) (a0 : Array Value) (hw : ∀ d ∈ tables_1, d.before a0 Z = true) (ws : List Jvm.Cond) (p1 : Int32) (p2 : Int32) (p3 : Int32) (p4 : Int32) (p5 : Int32) (wc : Int32) (wd : Addr) (h0 : Heap) (n0 : Nat) (Z0 : n0 ≤ h0.size) (OLD : Old Z n0 h0) (S_c : Sta Z Z.heap "java/lang/String" "COMPACT_STRINGS" "Z" (.int wc)) (hwc : ¬ (wc = 0)) (S_d : Sta Z Z.heap "java/util/ArrayList" "DEFAULTCAPACITY_EMPTY_ELEMENTDATA" "[Ljava/lang/Object;" (.ref wd)) :
    MetFree l x (head1 (Jvm.Cond.code x code maxLocals ret :: ws) room_1) (fun a U => a = #[(.int p1), (.int p2), (.int p3), (.int p4), (.int p5)] ∧ Z.Warmed39 U.vm ∧ U.heap = h0) (fun _ _ _ _ _ => True) (fun _ U oo U' => ∃ v L, oo = .returned v ∧ Q0 Z p1 p2 p3 p4 p5 wc wd h0 n0 v U'.heap L ∧ FrameEnd U oo U' L room_1.cells room_1.slots) := by
  refine MetFree.of_bodySF (plainFor_of_name pn_0) hisR ?_
  intro p e s m args below meth c s₁ Bd hml0 hP hK
  obtain ⟨rfl, hZ, hh⟩ := hP
  have hx := Bd.exec
  have hby := Bd.bytes
  have hml : c.maxLocals = 14 := hml0
  have hown : s.vm.findClass "com/example/oriflamme/oriflamme/language/ParamIsRequiredPinLaw" = some m.cls := findClass_of_methodNamed Bd.named
  have hnm := (name_of_methodNamed Bd.named Bd.method).1
  have X0 : Stand p l e room_1 s m #[(.int p1), (.int p2), (.int p3), (.int p4), (.int p5)] below meth c s₁ [] 0 0 := Stand.of_body Bd
  have e0 : s₁.heap = h0 := by rw [← hh, Bd.state]; rfl
  have N0 := Fr.nil n0
  have K0 : Keep h0 h0 [] := Keep.refl _ _
  have pre0 : ∀ tg, Steps p.tables e below (s₁.setTop (mkF m 0 #[.val (.int p1), .val (.int p2), .val (.int p3), .val (.int p4), .val (.int p5), .unset, .unset, .unset, .unset, .unset, .unset, .unset, .unset, .unset] [])) tg → Steps p.tables e below (s₁.setTop (entryFrame m #[(.int p1), (.int p2), (.int p3), (.int p4), (.int p5)] maxLocals)) tg := fun tg k => castTop (ef_0 m p1 p2 p3 p4 p5) k
  have st2 : ∀ tg, Steps p.tables e below (s₁.setTop (mkF m 3 #[.val (.int p1), .val (.int p2), .val (.int p3), .val (.int p4), .val (.int p5), .unset, .unset, .unset, .unset, .unset, .unset, .unset, .unset, .unset] [(.int (p1 &&& (1 : Int32)))])) tg → Steps p.tables e below (s₁.setTop (mkF m 0 #[.val (.int p1), .val (.int p2), .val (.int p3), .val (.int p4), .val (.int p5), .unset, .unset, .unset, .unset, .unset, .unset, .unset, .unset, .unset] [])) tg := by
    intro tg kt
    show Steps p.tables e below (s₁.setTop (mkF m 0 #[.val (.int p1), .val (.int p2), .val (.int p3), .val (.int p4), .val (.int p5), .unset, .unset, .unset, .unset, .unset, .unset, .unset, .unset, .unset] [])) tg
    refine XS.iloadN X0.here hx rfl (hb hby at_0) rfl ?_
    show Steps p.tables e below (s₁.setTop (mkF m 1 #[.val (.int p1), .val (.int p2), .val (.int p3), .val (.int p4), .val (.int p5), .unset, .unset, .unset, .unset, .unset, .unset, .unset, .unset, .unset] [(.int p1)])) tg
    refine XS.iconst X0.here hx rfl (hb hby at_1) ?_
    show Steps p.tables e below (s₁.setTop (mkF m 2 #[.val (.int p1), .val (.int p2), .val (.int p3), .val (.int p4), .val (.int p5), .unset, .unset, .unset, .unset, .unset, .unset, .unset, .unset, .unset] [(.int (1 : Int32)), (.int p1)])) tg
    refine XS.iand X0.here hx rfl (hb hby at_2) rfl ?_
    exact kt
  obtain ⟨v3, hv3⟩ : ∃ z, z = if (p1 &&& (1 : Int32)) = 0 then (0 : Int32) else (1 : Int32) := ⟨_, rfl⟩
  have st4 : ∀ tg, Steps p.tables e below (s₁.setTop (mkF m 11 #[.val (.int p1), .val (.int p2), .val (.int p3), .val (.int p4), .val (.int p5), .unset, .unset, .unset, .unset, .unset, .unset, .unset, .unset, .unset] [(.int v3)])) tg → Steps p.tables e below (s₁.setTop (mkF m 3 #[.val (.int p1), .val (.int p2), .val (.int p3), .val (.int p4), .val (.int p5), .unset, .unset, .unset, .unset, .unset, .unset, .unset, .unset, .unset] [(.int (p1 &&& (1 : Int32)))])) tg := by
    intro tg kt
    by_cases hc3_1 : (p1 &&& (1 : Int32)) = 0
    · have qv3 : v3 = (0 : Int32) := hv3.trans (if_pos hc3_1)
      rw [qv3] at kt
      show Steps p.tables e below (s₁.setTop (mkF m 3 #[.val (.int p1), .val (.int p2), .val (.int p3), .val (.int p4), .val (.int p5), .unset, .unset, .unset, .unset, .unset, .unset, .unset, .unset, .unset] [(.int (p1 &&& (1 : Int32)))])) tg
      refine XS.ifYes X0.here hx rfl (pc0 := 3) (pc' := 10) rfl (hb hby at_3) rfl (XT.i0_eq_t hc3_1) (by decide) (by decide) ?_
      show Steps p.tables e below (s₁.setTop (mkF m 10 #[.val (.int p1), .val (.int p2), .val (.int p3), .val (.int p4), .val (.int p5), .unset, .unset, .unset, .unset, .unset, .unset, .unset, .unset, .unset] [])) tg
      refine XS.iconst X0.here hx rfl (hb hby at_10) ?_
      exact kt
    · have qv3 : v3 = (1 : Int32) := hv3.trans (if_neg hc3_1)
      rw [qv3] at kt
      show Steps p.tables e below (s₁.setTop (mkF m 3 #[.val (.int p1), .val (.int p2), .val (.int p3), .val (.int p4), .val (.int p5), .unset, .unset, .unset, .unset, .unset, .unset, .unset, .unset, .unset] [(.int (p1 &&& (1 : Int32)))])) tg
      refine XS.ifNo X0.here hx rfl (hb hby at_3) rfl (XT.i0_eq_f hc3_1) ?_
      show Steps p.tables e below (s₁.setTop (mkF m 6 #[.val (.int p1), .val (.int p2), .val (.int p3), .val (.int p4), .val (.int p5), .unset, .unset, .unset, .unset, .unset, .unset, .unset, .unset, .unset] [])) tg
      refine XS.iconst X0.here hx rfl (hb hby at_6) ?_
      show Steps p.tables e below (s₁.setTop (mkF m 7 #[.val (.int p1), .val (.int p2), .val (.int p3), .val (.int p4), .val (.int p5), .unset, .unset, .unset, .unset, .unset, .unset, .unset, .unset, .unset] [(.int (1 : Int32))])) tg
      refine XS.goto X0.here hx rfl (pc0 := 7) (pc' := 11) rfl (hb hby at_7) (by decide) (by decide) ?_
      exact kt
  have st6 : ∀ tg, Steps p.tables e below (s₁.setTop (mkF m 16 #[.val (.int p1), .val (.int p2), .val (.int p3), .val (.int p4), .val (.int p5), .val (.int v3), .unset, .unset, .unset, .unset, .unset, .unset, .unset, .unset] [(.int (p1 &&& (2 : Int32)))])) tg → Steps p.tables e below (s₁.setTop (mkF m 11 #[.val (.int p1), .val (.int p2), .val (.int p3), .val (.int p4), .val (.int p5), .unset, .unset, .unset, .unset, .unset, .unset, .unset, .unset, .unset] [(.int v3)])) tg := by
    intro tg kt
    show Steps p.tables e below (s₁.setTop (mkF m 11 #[.val (.int p1), .val (.int p2), .val (.int p3), .val (.int p4), .val (.int p5), .unset, .unset, .unset, .unset, .unset, .unset, .unset, .unset, .unset] [(.int v3)])) tg
    refine XS.istore X0.here hx rfl (hb hby at_11) rfl (l' := #[.val (.int p1), .val (.int p2), .val (.int p3), .val (.int p4), .val (.int p5), .val (.int v3), .unset, .unset, .unset, .unset, .unset, .unset, .unset, .unset]) rfl ?_
    show Steps p.tables e below (s₁.setTop (mkF m 13 #[.val (.int p1), .val (.int p2), .val (.int p3), .val (.int p4), .val (.int p5), .val (.int v3), .unset, .unset, .unset, .unset, .unset, .unset, .unset, .unset] [])) tg
    refine XS.iloadN X0.here hx rfl (hb hby at_13) rfl ?_
    show Steps p.tables e below (s₁.setTop (mkF m 14 #[.val (.int p1), .val (.int p2), .val (.int p3), .val (.int p4), .val (.int p5), .val (.int v3), .unset, .unset, .unset, .unset, .unset, .unset, .unset, .unset] [(.int p1)])) tg
    refine XS.iconst X0.here hx rfl (hb hby at_14) ?_
    show Steps p.tables e below (s₁.setTop (mkF m 15 #[.val (.int p1), .val (.int p2), .val (.int p3), .val (.int p4), .val (.int p5), .val (.int v3), .unset, .unset, .unset, .unset, .unset, .unset, .unset, .unset] [(.int (2 : Int32)), (.int p1)])) tg
    refine XS.iand X0.here hx rfl (hb hby at_15) rfl ?_
    exact kt
  obtain ⟨v7, hv7⟩ : ∃ z, z = if (p1 &&& (2 : Int32)) = 0 then (0 : Int32) else (1 : Int32) := ⟨_, rfl⟩
  have st8 : ∀ tg, Steps p.tables e below (s₁.setTop (mkF m 24 #[.val (.int p1), .val (.int p2), .val (.int p3), .val (.int p4), .val (.int p5), .val (.int v3), .unset, .unset, .unset, .unset, .unset, .unset, .unset, .unset] [(.int v7)])) tg → Steps p.tables e below (s₁.setTop (mkF m 16 #[.val (.int p1), .val (.int p2), .val (.int p3), .val (.int p4), .val (.int p5), .val (.int v3), .unset, .unset, .unset, .unset, .unset, .unset, .unset, .unset] [(.int (p1 &&& (2 : Int32)))])) tg := by
    intro tg kt
    by_cases hc16_5 : (p1 &&& (2 : Int32)) = 0
    · have qv7 : v7 = (0 : Int32) := hv7.trans (if_pos hc16_5)
      rw [qv7] at kt
      show Steps p.tables e below (s₁.setTop (mkF m 16 #[.val (.int p1), .val (.int p2), .val (.int p3), .val (.int p4), .val (.int p5), .val (.int v3), .unset, .unset, .unset, .unset, .unset, .unset, .unset, .unset] [(.int (p1 &&& (2 : Int32)))])) tg
      refine XS.ifYes X0.here hx rfl (pc0 := 16) (pc' := 23) rfl (hb hby at_16) rfl (XT.i0_eq_t hc16_5) (by decide) (by decide) ?_
      show Steps p.tables e below (s₁.setTop (mkF m 23 #[.val (.int p1), .val (.int p2), .val (.int p3), .val (.int p4), .val (.int p5), .val (.int v3), .unset, .unset, .unset, .unset, .unset, .unset, .unset, .unset] [])) tg
      refine XS.iconst X0.here hx rfl (hb hby at_23) ?_
      exact kt
    · have qv7 : v7 = (1 : Int32) := hv7.trans (if_neg hc16_5)
      rw [qv7] at kt
      show Steps p.tables e below (s₁.setTop (mkF m 16 #[.val (.int p1), .val (.int p2), .val (.int p3), .val (.int p4), .val (.int p5), .val (.int v3), .unset, .unset, .unset, .unset, .unset, .unset, .unset, .unset] [(.int (p1 &&& (2 : Int32)))])) tg
      refine XS.ifNo X0.here hx rfl (hb hby at_16) rfl (XT.i0_eq_f hc16_5) ?_
      show Steps p.tables e below (s₁.setTop (mkF m 19 #[.val (.int p1), .val (.int p2), .val (.int p3), .val (.int p4), .val (.int p5), .val (.int v3), .unset, .unset, .unset, .unset, .unset, .unset, .unset, .unset] [])) tg
      refine XS.iconst X0.here hx rfl (hb hby at_19) ?_
      show Steps p.tables e below (s₁.setTop (mkF m 20 #[.val (.int p1), .val (.int p2), .val (.int p3), .val (.int p4), .val (.int p5), .val (.int v3), .unset, .unset, .unset, .unset, .unset, .unset, .unset, .unset] [(.int (1 : Int32))])) tg
      refine XS.goto X0.here hx rfl (pc0 := 20) (pc' := 24) rfl (hb hby at_20) (by decide) (by decide) ?_
      exact kt
  have st9 : ∀ tg, Steps p.tables e below (s₁.setTop (mkF m 26 #[.val (.int p1), .val (.int p2), .val (.int p3), .val (.int p4), .val (.int p5), .val (.int v3), .val (.int v7), .unset, .unset, .unset, .unset, .unset, .unset, .unset] [])) tg → Steps p.tables e below (s₁.setTop (mkF m 24 #[.val (.int p1), .val (.int p2), .val (.int p3), .val (.int p4), .val (.int p5), .val (.int v3), .unset, .unset, .unset, .unset, .unset, .unset, .unset, .unset] [(.int v7)])) tg := by
    intro tg kt
    show Steps p.tables e below (s₁.setTop (mkF m 24 #[.val (.int p1), .val (.int p2), .val (.int p3), .val (.int p4), .val (.int p5), .val (.int v3), .unset, .unset, .unset, .unset, .unset, .unset, .unset, .unset] [(.int v7)])) tg
    refine XS.istore X0.here hx rfl (hb hby at_24) rfl (l' := #[.val (.int p1), .val (.int p2), .val (.int p3), .val (.int p4), .val (.int p5), .val (.int v3), .val (.int v7), .unset, .unset, .unset, .unset, .unset, .unset, .unset]) rfl ?_
    exact kt
  obtain ⟨T10, h10, X10, e10, E10, A10, D10, -, st10⟩ := newO X0 hx hZ hown (hw _ (List.mem_of_getElem? (i := 0) rfl)) (hw _ (List.mem_of_getElem? (i := 1) rfl)) (hw _ (List.mem_of_getElem? (i := 2) rfl)) e0 (g := (mkF m 26 #[.val (.int p1), .val (.int p2), .val (.int p3), .val (.int p4), .val (.int p5), .val (.int v3), .val (.int v7), .unset, .unset, .unset, .unset, .unset, .unset, .unset] [])) rfl (hb hby at_26) (by decide) (by decide)
  obtain ⟨b10, gz10⟩ : ∃ z, z = h0.size := ⟨_, rfl⟩
  rw [← gz10] at A10 D10 st10
  have g_b10 : n0 ≤ b10 := Nat.le_trans Z0 (Nat.le_of_eq gz10.symm)
  have sz_b10 : h0.size ≤ b10 := Nat.le_trans K0.1 (Nat.le_of_eq gz10.symm)
  have G11 : Old Z n0 h10 := OLD.ext E10
  have K10 : Keep h0 h10 [] := K0.ext E10
  have Z10 : n0 ≤ h10.size := Nat.le_trans Z0 E10.1
  have G12 : Exa Z h10 b10 "com/example/oriflamme/oriflamme/language/Position" := A10
  have G13 : Fld Z h10 b10 "com/example/oriflamme/oriflamme/language/Position" "line" "I" (.int (0 : Int32)) := D10 (Or.inr (hw _ (List.mem_of_getElem? (i := 15) rfl))) (ty := .int) (by decide)
  have G14 : Fld Z h10 b10 "com/example/oriflamme/oriflamme/language/Position" "column" "I" (.int (0 : Int32)) := D10 (Or.inr (hw _ (List.mem_of_getElem? (i := 17) rfl))) (ty := .int) (by decide)
  have st15 : ∀ tg, Steps p.tables e below (T10.setTop (mkF m 32 #[.val (.int p1), .val (.int p2), .val (.int p3), .val (.int p4), .val (.int p5), .val (.int v3), .val (.int v7), .unset, .unset, .unset, .unset, .unset, .unset, .unset] [(.int p3), (.int p2), (.ref b10), (.ref b10)])) tg → Steps p.tables e below (T10.setTop (mkF m 29 #[.val (.int p1), .val (.int p2), .val (.int p3), .val (.int p4), .val (.int p5), .val (.int v3), .val (.int v7), .unset, .unset, .unset, .unset, .unset, .unset, .unset] [(.ref b10)])) tg := by
    intro tg kt
    show Steps p.tables e below (T10.setTop (mkF m 29 #[.val (.int p1), .val (.int p2), .val (.int p3), .val (.int p4), .val (.int p5), .val (.int v3), .val (.int v7), .unset, .unset, .unset, .unset, .unset, .unset, .unset] [(.ref b10)])) tg
    refine XS.dup X10.here hx rfl (hb hby at_29) rfl rfl ?_
    show Steps p.tables e below (T10.setTop (mkF m 30 #[.val (.int p1), .val (.int p2), .val (.int p3), .val (.int p4), .val (.int p5), .val (.int v3), .val (.int v7), .unset, .unset, .unset, .unset, .unset, .unset, .unset] [(.ref b10), (.ref b10)])) tg
    refine XS.iloadN X10.here hx rfl (hb hby at_30) rfl ?_
    show Steps p.tables e below (T10.setTop (mkF m 31 #[.val (.int p1), .val (.int p2), .val (.int p3), .val (.int p4), .val (.int p5), .val (.int v3), .val (.int v7), .unset, .unset, .unset, .unset, .unset, .unset, .unset] [(.int p2), (.ref b10), (.ref b10)])) tg
    refine XS.iloadN X10.here hx rfl (hb hby at_31) rfl ?_
    exact kt
  obtain ⟨_, _, ⟨T16, L16, k16, n16⟩, -, X16, ⟨Lc16, hQ16, l16, y16, z16⟩, st16⟩ := X10.specialBack hx (y := (⟨"com/example/oriflamme/oriflamme/language/Position", "<init>", "(II)V"⟩ : MethodName)) rfl hown (mvT hZ (hw _ (List.mem_of_getElem? (i := 3) rfl))) (mvT hZ (hw _ (List.mem_of_getElem? (i := 4) rfl))) (mvT hZ (hw _ (List.mem_of_getElem? (i := 5) rfl))) (by decide) (backOf (W := 1) (rm1 l Z a0 hw [] b10 p2 p3 h10 n0 Z10 G13 G14 G12 g_b10) hZ (hw _ (List.mem_of_getElem? (i := 5) rfl)) (hw _ (List.mem_of_getElem? (i := 2) rfl)) (by decide) (by decide)) (g := (mkF m 32 #[.val (.int p1), .val (.int p2), .val (.int p3), .val (.int p4), .val (.int p5), .val (.int v3), .val (.int v7), .unset, .unset, .unset, .unset, .unset, .unset, .unset] [(.int p3), (.int p2), (.ref b10), (.ref b10)])) rfl (by rw [hml]; rfl) (Steps.refl _) (a := b10) (argsL := [(.int p2), (.int p3)]) (rest := [(.ref b10)]) (lenOf pd_5 rfl) rfl (by show 2 * 0 + _ ≤ _; exact Nat.le_of_eq rfl) (hb hby at_32) (fun _ _ => ⟨rfl, e10, (by decide : 1 + 0 ≤ _), (by decide : 2 + 0 ≤ _)⟩)
  dsimp only [Pt.U, Pt.locs, Pt.cells, Pt.slots] at X16 l16 y16 z16 st16 hQ16
  subst l16 y16 z16
  obtain ⟨rfl, N16q, K16q, E16q, F16q0, F16q1⟩ := hQ16
  have N16 := Fr.app N0 N16q
  have G17 : Old Z n0 T16.heap := G11.keep K16q (allS g_b10 (all0))
  have G18 : Exa Z T16.heap b10 "com/example/oriflamme/oriflamme/language/Position" := G12.keep K16q
  have K16 : Keep h0 T16.heap [] := K10.trans K16q (allS (Or.inr sz_b10) all0)
  have Z16 : n0 ≤ T16.heap.size := Nat.le_trans Z10 K16q.1
  have st19 : ∀ tg, Steps p.tables e below (T16.setTop (mkF m 43 #[.val (.int p1), .val (.int p2), .val (.int p3), .val (.int p4), .val (.int p5), .val (.int v3), .val (.int v7), .val (.ref b10), .unset, .unset, .unset, .unset, .unset, .unset] [(.int ((p4 &&& (255 : Int32)).toUInt32.toUInt16.toUInt32.toInt32))])) tg → Steps p.tables e below (T16.setTop (mkF m 35 #[.val (.int p1), .val (.int p2), .val (.int p3), .val (.int p4), .val (.int p5), .val (.int v3), .val (.int v7), .unset, .unset, .unset, .unset, .unset, .unset, .unset] [(.ref b10)])) tg := by
    intro tg kt
    show Steps p.tables e below (T16.setTop (mkF m 35 #[.val (.int p1), .val (.int p2), .val (.int p3), .val (.int p4), .val (.int p5), .val (.int v3), .val (.int v7), .unset, .unset, .unset, .unset, .unset, .unset, .unset] [(.ref b10)])) tg
    refine XS.astore X16.here hx rfl (hb hby at_35) rfl rfl (l' := #[.val (.int p1), .val (.int p2), .val (.int p3), .val (.int p4), .val (.int p5), .val (.int v3), .val (.int v7), .val (.ref b10), .unset, .unset, .unset, .unset, .unset, .unset]) rfl ?_
    show Steps p.tables e below (T16.setTop (mkF m 37 #[.val (.int p1), .val (.int p2), .val (.int p3), .val (.int p4), .val (.int p5), .val (.int v3), .val (.int v7), .val (.ref b10), .unset, .unset, .unset, .unset, .unset, .unset] [])) tg
    refine XS.iloadN X16.here hx rfl (hb hby at_37) rfl ?_
    show Steps p.tables e below (T16.setTop (mkF m 38 #[.val (.int p1), .val (.int p2), .val (.int p3), .val (.int p4), .val (.int p5), .val (.int v3), .val (.int v7), .val (.ref b10), .unset, .unset, .unset, .unset, .unset, .unset] [(.int p4)])) tg
    refine XS.sipush X16.here hx rfl (hb hby at_38) ?_
    show Steps p.tables e below (T16.setTop (mkF m 41 #[.val (.int p1), .val (.int p2), .val (.int p3), .val (.int p4), .val (.int p5), .val (.int v3), .val (.int v7), .val (.ref b10), .unset, .unset, .unset, .unset, .unset, .unset] [(.int (255 : Int32)), (.int p4)])) tg
    refine XS.iand X16.here hx rfl (hb hby at_41) rfl ?_
    show Steps p.tables e below (T16.setTop (mkF m 42 #[.val (.int p1), .val (.int p2), .val (.int p3), .val (.int p4), .val (.int p5), .val (.int v3), .val (.int v7), .val (.ref b10), .unset, .unset, .unset, .unset, .unset, .unset] [(.int (p4 &&& (255 : Int32)))])) tg
    refine XS.i2c X16.here hx rfl (hb hby at_42) rfl ?_
    exact kt
  obtain ⟨_, _, ⟨T20, L20, k20, n20⟩, -, X20, ⟨Lc20, hQ20, l20, y20, z20⟩, st20⟩ := Jvm.LawKit.callS X16 hx (y := (⟨"java/lang/String", "valueOf", "(C)Ljava/lang/String;"⟩ : MethodName)) hown (mvT hZ (hw _ (List.mem_of_getElem? (i := 18) rfl))) (mvT hZ (hw _ (List.mem_of_getElem? (i := 19) rfl))) (mvT hZ (hw _ (List.mem_of_getElem? (i := 20) rfl))) (mvT hZ (hw _ (List.mem_of_getElem? (i := 21) rfl))) (by decide) (backOf (W := 0) (rm4 l Z a0 hw [] ((p4 &&& (255 : Int32)).toUInt32.toUInt16.toUInt32.toInt32) wc T16.heap n0 Z16 G17 S_c hwc (own_c _)) hZ (hw _ (List.mem_of_getElem? (i := 21) rfl)) (hw _ (List.mem_of_getElem? (i := 20) rfl)) (by decide) (by decide)) (g := (mkF m 43 #[.val (.int p1), .val (.int p2), .val (.int p3), .val (.int p4), .val (.int p5), .val (.int v3), .val (.int v7), .val (.ref b10), .unset, .unset, .unset, .unset, .unset, .unset] [(.int ((p4 &&& (255 : Int32)).toUInt32.toUInt16.toUInt32.toInt32))])) rfl (by rw [hml]; rfl) (argsL := [(.int ((p4 &&& (255 : Int32)).toUInt32.toUInt16.toUInt32.toInt32))]) (rest := []) (lenOf pd_6 rfl) rfl (by show 2 * 0 + _ ≤ _; exact Nat.le_of_eq rfl) (hb hby at_43) (fun _ _ => ⟨rfl, rfl, (by decide : 1 + 2 ≤ _), (by decide : 2 + 5 ≤ _)⟩)
  dsimp only [Pt.U, Pt.locs, Pt.cells, Pt.slots] at X20 l20 y20 z20 st20 hQ20
  subst l20 y20 z20
  obtain ⟨b20, rfl, N20q, K20q, g_b20, sz20q⟩ := hQ20
  have N20 := Fr.app N16 N20q
  have ne_b10_b20 : b10 ≠ b20 := Nat.ne_of_lt (Nat.lt_of_lt_of_le E16q.lt sz20q)
  have sz_b20 : h0.size ≤ b20 := Nat.le_trans K16.1 sz20q
  have G21 : Old Z n0 T20.heap := G17.keep K20q (all0)
  have G22 : Exa Z T20.heap b10 "com/example/oriflamme/oriflamme/language/Position" := E16q.keep K20q
  have G23 : Fld Z T20.heap b10 "com/example/oriflamme/oriflamme/language/Position" "line" "I" (.int p2) := F16q0.keep K20q (nin0)
  have G24 : Fld Z T20.heap b10 "com/example/oriflamme/oriflamme/language/Position" "column" "I" (.int p3) := F16q1.keep K20q (nin0)
  have K20 : Keep h0 T20.heap [] := K16.trans K20q all0
  have Z20 : n0 ≤ T20.heap.size := Nat.le_trans Z16 K20q.1
  have st25 : ∀ tg, Steps p.tables e below (T20.setTop (mkF m 55 #[.val (.int p1), .val (.int p2), .val (.int p3), .val (.int p4), .val (.int p5), .val (.int v3), .val (.int v7), .val (.ref b10), .val (.ref b20), .unset, .unset, .unset, .unset, .unset] [(.int ((p5 &&& (255 : Int32)).toUInt32.toUInt16.toUInt32.toInt32))])) tg → Steps p.tables e below (T20.setTop (mkF m 46 #[.val (.int p1), .val (.int p2), .val (.int p3), .val (.int p4), .val (.int p5), .val (.int v3), .val (.int v7), .val (.ref b10), .unset, .unset, .unset, .unset, .unset, .unset] [(.ref b20)])) tg := by
    intro tg kt
    show Steps p.tables e below (T20.setTop (mkF m 46 #[.val (.int p1), .val (.int p2), .val (.int p3), .val (.int p4), .val (.int p5), .val (.int v3), .val (.int v7), .val (.ref b10), .unset, .unset, .unset, .unset, .unset, .unset] [(.ref b20)])) tg
    refine XS.astore X20.here hx rfl (hb hby at_46) rfl rfl (l' := #[.val (.int p1), .val (.int p2), .val (.int p3), .val (.int p4), .val (.int p5), .val (.int v3), .val (.int v7), .val (.ref b10), .val (.ref b20), .unset, .unset, .unset, .unset, .unset]) rfl ?_
    show Steps p.tables e below (T20.setTop (mkF m 48 #[.val (.int p1), .val (.int p2), .val (.int p3), .val (.int p4), .val (.int p5), .val (.int v3), .val (.int v7), .val (.ref b10), .val (.ref b20), .unset, .unset, .unset, .unset, .unset] [])) tg
    refine XS.iload X20.here hx rfl (hb hby at_48) rfl ?_
    show Steps p.tables e below (T20.setTop (mkF m 50 #[.val (.int p1), .val (.int p2), .val (.int p3), .val (.int p4), .val (.int p5), .val (.int v3), .val (.int v7), .val (.ref b10), .val (.ref b20), .unset, .unset, .unset, .unset, .unset] [(.int p5)])) tg
    refine XS.sipush X20.here hx rfl (hb hby at_50) ?_
    show Steps p.tables e below (T20.setTop (mkF m 53 #[.val (.int p1), .val (.int p2), .val (.int p3), .val (.int p4), .val (.int p5), .val (.int v3), .val (.int v7), .val (.ref b10), .val (.ref b20), .unset, .unset, .unset, .unset, .unset] [(.int (255 : Int32)), (.int p5)])) tg
    refine XS.iand X20.here hx rfl (hb hby at_53) rfl ?_
    show Steps p.tables e below (T20.setTop (mkF m 54 #[.val (.int p1), .val (.int p2), .val (.int p3), .val (.int p4), .val (.int p5), .val (.int v3), .val (.int v7), .val (.ref b10), .val (.ref b20), .unset, .unset, .unset, .unset, .unset] [(.int (p5 &&& (255 : Int32)))])) tg
    refine XS.i2c X20.here hx rfl (hb hby at_54) rfl ?_
    exact kt
  obtain ⟨_, _, ⟨T26, L26, k26, n26⟩, -, X26, ⟨Lc26, hQ26, l26, y26, z26⟩, st26⟩ := Jvm.LawKit.callS X20 hx (y := (⟨"java/lang/String", "valueOf", "(C)Ljava/lang/String;"⟩ : MethodName)) hown (mvT hZ (hw _ (List.mem_of_getElem? (i := 18) rfl))) (mvT hZ (hw _ (List.mem_of_getElem? (i := 19) rfl))) (mvT hZ (hw _ (List.mem_of_getElem? (i := 20) rfl))) (mvT hZ (hw _ (List.mem_of_getElem? (i := 21) rfl))) (by decide) (backOf (W := 0) (rm4 l Z a0 hw [] ((p5 &&& (255 : Int32)).toUInt32.toUInt16.toUInt32.toInt32) wc T20.heap n0 Z20 G21 S_c hwc (own_c _)) hZ (hw _ (List.mem_of_getElem? (i := 21) rfl)) (hw _ (List.mem_of_getElem? (i := 20) rfl)) (by decide) (by decide)) (g := (mkF m 55 #[.val (.int p1), .val (.int p2), .val (.int p3), .val (.int p4), .val (.int p5), .val (.int v3), .val (.int v7), .val (.ref b10), .val (.ref b20), .unset, .unset, .unset, .unset, .unset] [(.int ((p5 &&& (255 : Int32)).toUInt32.toUInt16.toUInt32.toInt32))])) rfl (by rw [hml]; rfl) (argsL := [(.int ((p5 &&& (255 : Int32)).toUInt32.toUInt16.toUInt32.toInt32))]) (rest := []) (lenOf pd_6 rfl) rfl (by show 2 * 0 + _ ≤ _; exact Nat.le_of_eq rfl) (hb hby at_55) (fun _ _ => ⟨rfl, rfl, (by decide : 3 + 2 ≤ _), (by decide : 7 + 5 ≤ _)⟩)
  dsimp only [Pt.U, Pt.locs, Pt.cells, Pt.slots] at X26 l26 y26 z26 st26 hQ26
  subst l26 y26 z26
  obtain ⟨b26, rfl, N26q, K26q, g_b26, sz26q⟩ := hQ26
  have N26 := Fr.app N20 N26q
  have ne_b10_b26 : b10 ≠ b26 := Nat.ne_of_lt (Nat.lt_of_lt_of_le G22.lt sz26q)
  have sz_b26 : h0.size ≤ b26 := Nat.le_trans K20.1 sz26q
  have G27 : Old Z n0 T26.heap := G21.keep K26q (all0)
  have G28 : Exa Z T26.heap b10 "com/example/oriflamme/oriflamme/language/Position" := G22.keep K26q
  have G29 : Fld Z T26.heap b10 "com/example/oriflamme/oriflamme/language/Position" "line" "I" (.int p2) := G23.keep K26q (nin0)
  have G30 : Fld Z T26.heap b10 "com/example/oriflamme/oriflamme/language/Position" "column" "I" (.int p3) := G24.keep K26q (nin0)
  have K26 : Keep h0 T26.heap [] := K20.trans K26q all0
  have Z26 : n0 ≤ T26.heap.size := Nat.le_trans Z20 K26q.1
  have st31 : ∀ tg, Steps p.tables e below (T26.setTop (mkF m 60 #[.val (.int p1), .val (.int p2), .val (.int p3), .val (.int p4), .val (.int p5), .val (.int v3), .val (.int v7), .val (.ref b10), .val (.ref b20), .val (.ref b26), .unset, .unset, .unset, .unset] [])) tg → Steps p.tables e below (T26.setTop (mkF m 58 #[.val (.int p1), .val (.int p2), .val (.int p3), .val (.int p4), .val (.int p5), .val (.int v3), .val (.int v7), .val (.ref b10), .val (.ref b20), .unset, .unset, .unset, .unset, .unset] [(.ref b26)])) tg := by
    intro tg kt
    show Steps p.tables e below (T26.setTop (mkF m 58 #[.val (.int p1), .val (.int p2), .val (.int p3), .val (.int p4), .val (.int p5), .val (.int v3), .val (.int v7), .val (.ref b10), .val (.ref b20), .unset, .unset, .unset, .unset, .unset] [(.ref b26)])) tg
    refine XS.astore X26.here hx rfl (hb hby at_58) rfl rfl (l' := #[.val (.int p1), .val (.int p2), .val (.int p3), .val (.int p4), .val (.int p5), .val (.int v3), .val (.int v7), .val (.ref b10), .val (.ref b20), .val (.ref b26), .unset, .unset, .unset, .unset]) rfl ?_
    exact kt
  obtain ⟨T32, h32, X32, e32, E32, A32, D32, -, st32⟩ := newO X26 hx hZ hown (hw _ (List.mem_of_getElem? (i := 42) rfl)) (hw _ (List.mem_of_getElem? (i := 43) rfl)) (hw _ (List.mem_of_getElem? (i := 44) rfl)) rfl (g := (mkF m 60 #[.val (.int p1), .val (.int p2), .val (.int p3), .val (.int p4), .val (.int p5), .val (.int v3), .val (.int v7), .val (.ref b10), .val (.ref b20), .val (.ref b26), .unset, .unset, .unset, .unset] [])) rfl (hb hby at_60) (by decide) (by decide)
  obtain ⟨b32, gz32⟩ : ∃ z, z = T26.heap.size := ⟨_, rfl⟩
  rw [← gz32] at A32 D32 st32
  have ne_b10_b32 : b10 ≠ b32 := Nat.ne_of_lt (Nat.lt_of_lt_of_le G28.lt (Nat.le_of_eq gz32.symm))
  have g_b32 : n0 ≤ b32 := Nat.le_trans Z26 (Nat.le_of_eq gz32.symm)
  have sz_b32 : h0.size ≤ b32 := Nat.le_trans K26.1 (Nat.le_of_eq gz32.symm)
  have G33 : Old Z n0 h32 := G27.ext E32
  have G34 : Exa Z h32 b10 "com/example/oriflamme/oriflamme/language/Position" := G28.ext E32
  have G35 : Fld Z h32 b10 "com/example/oriflamme/oriflamme/language/Position" "line" "I" (.int p2) := G29.ext E32
  have G36 : Fld Z h32 b10 "com/example/oriflamme/oriflamme/language/Position" "column" "I" (.int p3) := G30.ext E32
  have K32 : Keep h0 h32 [] := K26.ext E32
  have Z32 : n0 ≤ h32.size := Nat.le_trans Z26 E32.1
  have G37 : Exa Z h32 b32 "java/util/ArrayList" := A32
  have G38 : Fld Z h32 b32 "java/util/AbstractList" "modCount" "I" (.int (0 : Int32)) := D32 (Or.inl (hw _ (List.mem_of_getElem? (i := 62) rfl))) (ty := .int) (by decide)
  have G39 : Fld Z h32 b32 "java/util/ArrayList" "elementData" "[Ljava/lang/Object;" .null := D32 (Or.inl (hw _ (List.mem_of_getElem? (i := 65) rfl))) (ty := (.array (.object "java/lang/Object"))) (by decide)
  have st40 : ∀ tg, Steps p.tables e below (T32.setTop (mkF m 64 #[.val (.int p1), .val (.int p2), .val (.int p3), .val (.int p4), .val (.int p5), .val (.int v3), .val (.int v7), .val (.ref b10), .val (.ref b20), .val (.ref b26), .unset, .unset, .unset, .unset] [(.ref b32), (.ref b32)])) tg → Steps p.tables e below (T32.setTop (mkF m 63 #[.val (.int p1), .val (.int p2), .val (.int p3), .val (.int p4), .val (.int p5), .val (.int v3), .val (.int v7), .val (.ref b10), .val (.ref b20), .val (.ref b26), .unset, .unset, .unset, .unset] [(.ref b32)])) tg := by
    intro tg kt
    show Steps p.tables e below (T32.setTop (mkF m 63 #[.val (.int p1), .val (.int p2), .val (.int p3), .val (.int p4), .val (.int p5), .val (.int v3), .val (.int v7), .val (.ref b10), .val (.ref b20), .val (.ref b26), .unset, .unset, .unset, .unset] [(.ref b32)])) tg
    refine XS.dup X32.here hx rfl (hb hby at_63) rfl rfl ?_
    exact kt
  obtain ⟨_, _, ⟨T41, L41, k41, n41⟩, -, X41, ⟨Lc41, hQ41, l41, y41, z41⟩, st41⟩ := X32.specialBack hx (y := (⟨"java/util/ArrayList", "<init>", "()V"⟩ : MethodName)) rfl hown (mvT hZ (hw _ (List.mem_of_getElem? (i := 45) rfl))) (mvT hZ (hw _ (List.mem_of_getElem? (i := 46) rfl))) (mvT hZ (hw _ (List.mem_of_getElem? (i := 47) rfl))) (by decide) (backOf (W := 1) (rm8 l Z a0 hw [] b32 wd h32 n0 Z32 G38 G39 G37 g_b32 G33 S_d) hZ (hw _ (List.mem_of_getElem? (i := 47) rfl)) (hw _ (List.mem_of_getElem? (i := 44) rfl)) (by decide) (by decide)) (g := (mkF m 64 #[.val (.int p1), .val (.int p2), .val (.int p3), .val (.int p4), .val (.int p5), .val (.int v3), .val (.int v7), .val (.ref b10), .val (.ref b20), .val (.ref b26), .unset, .unset, .unset, .unset] [(.ref b32), (.ref b32)])) rfl (by rw [hml]; rfl) (Steps.refl _) (a := b32) (argsL := []) (rest := [(.ref b32)]) (lenOf pd_0 rfl) rfl (by show 2 * 0 + _ ≤ _; exact Nat.le_of_eq rfl) (hb hby at_64) (fun _ _ => ⟨rfl, e32, (by decide : 6 + 0 ≤ _), (by decide : 15 + 0 ≤ _)⟩)
  dsimp only [Pt.U, Pt.locs, Pt.cells, Pt.slots] at X41 l41 y41 z41 st41 hQ41
  subst l41 y41 z41
  obtain ⟨rfl, N41q, K41q, E41q, F41q0, F41q1⟩ := hQ41
  have N41 := Fr.app N26 N41q
  have G42 : Old Z n0 T41.heap := G33.keep K41q (allS g_b32 (all0))
  have G43 : Exa Z T41.heap b10 "com/example/oriflamme/oriflamme/language/Position" := G34.keep K41q
  have G44 : Fld Z T41.heap b10 "com/example/oriflamme/oriflamme/language/Position" "line" "I" (.int p2) := G35.keep K41q (ninS ne_b10_b32 (nin0))
  have G45 : Fld Z T41.heap b10 "com/example/oriflamme/oriflamme/language/Position" "column" "I" (.int p3) := G36.keep K41q (ninS ne_b10_b32 (nin0))
  have G46 : Exa Z T41.heap b32 "java/util/ArrayList" := G37.keep K41q
  have K41 : Keep h0 T41.heap [] := K32.trans K41q (allS (Or.inr sz_b32) all0)
  have Z41 : n0 ≤ T41.heap.size := Nat.le_trans Z32 K41q.1
  have st48 : ∀ tg, Steps p.tables e below (T41.setTop (mkF m 74 #[.val (.int p1), .val (.int p2), .val (.int p3), .val (.int p4), .val (.int p5), .val (.int v3), .val (.int v7), .val (.ref b10), .val (.ref b20), .val (.ref b26), .val (.ref b32), .val .null, .unset, .unset] [(.int v3)])) tg → Steps p.tables e below (T41.setTop (mkF m 67 #[.val (.int p1), .val (.int p2), .val (.int p3), .val (.int p4), .val (.int p5), .val (.int v3), .val (.int v7), .val (.ref b10), .val (.ref b20), .val (.ref b26), .unset, .unset, .unset, .unset] [(.ref b32)])) tg := by
    intro tg kt
    show Steps p.tables e below (T41.setTop (mkF m 67 #[.val (.int p1), .val (.int p2), .val (.int p3), .val (.int p4), .val (.int p5), .val (.int v3), .val (.int v7), .val (.ref b10), .val (.ref b20), .val (.ref b26), .unset, .unset, .unset, .unset] [(.ref b32)])) tg
    refine XS.astore X41.here hx rfl (hb hby at_67) rfl rfl (l' := #[.val (.int p1), .val (.int p2), .val (.int p3), .val (.int p4), .val (.int p5), .val (.int v3), .val (.int v7), .val (.ref b10), .val (.ref b20), .val (.ref b26), .val (.ref b32), .unset, .unset, .unset]) rfl ?_
    show Steps p.tables e below (T41.setTop (mkF m 69 #[.val (.int p1), .val (.int p2), .val (.int p3), .val (.int p4), .val (.int p5), .val (.int v3), .val (.int v7), .val (.ref b10), .val (.ref b20), .val (.ref b26), .val (.ref b32), .unset, .unset, .unset] [])) tg
    refine XS.aconstNull X41.here hx rfl (hb hby at_69) ?_
    show Steps p.tables e below (T41.setTop (mkF m 70 #[.val (.int p1), .val (.int p2), .val (.int p3), .val (.int p4), .val (.int p5), .val (.int v3), .val (.int v7), .val (.ref b10), .val (.ref b20), .val (.ref b26), .val (.ref b32), .unset, .unset, .unset] [.null])) tg
    refine XS.astore X41.here hx rfl (hb hby at_70) rfl rfl (l' := #[.val (.int p1), .val (.int p2), .val (.int p3), .val (.int p4), .val (.int p5), .val (.int v3), .val (.int v7), .val (.ref b10), .val (.ref b20), .val (.ref b26), .val (.ref b32), .val .null, .unset, .unset]) rfl ?_
    show Steps p.tables e below (T41.setTop (mkF m 72 #[.val (.int p1), .val (.int p2), .val (.int p3), .val (.int p4), .val (.int p5), .val (.int v3), .val (.int v7), .val (.ref b10), .val (.ref b20), .val (.ref b26), .val (.ref b32), .val .null, .unset, .unset] [])) tg
    refine XS.iload X41.here hx rfl (hb hby at_72) rfl ?_
    exact kt
  by_cases hc74_47 : v3 = 0
  · -- pc 74: v3 = 0
    have st49 : ∀ tg, Steps p.tables e below (T41.setTop (mkF m 96 #[.val (.int p1), .val (.int p2), .val (.int p3), .val (.int p4), .val (.int p5), .val (.int v3), .val (.int v7), .val (.ref b10), .val (.ref b20), .val (.ref b26), .val (.ref b32), .val .null, .unset, .unset] [])) tg → Steps p.tables e below (T41.setTop (mkF m 74 #[.val (.int p1), .val (.int p2), .val (.int p3), .val (.int p4), .val (.int p5), .val (.int v3), .val (.int v7), .val (.ref b10), .val (.ref b20), .val (.ref b26), .val (.ref b32), .val .null, .unset, .unset] [(.int v3)])) tg := by
      intro tg kt
      show Steps p.tables e below (T41.setTop (mkF m 74 #[.val (.int p1), .val (.int p2), .val (.int p3), .val (.int p4), .val (.int p5), .val (.int v3), .val (.int v7), .val (.ref b10), .val (.ref b20), .val (.ref b26), .val (.ref b32), .val .null, .unset, .unset] [(.int v3)])) tg
      refine XS.ifYes X41.here hx rfl (pc0 := 74) (pc' := 96) rfl (hb hby at_74) rfl (XT.i0_eq_t hc74_47) (by decide) (by decide) ?_
      exact kt
    obtain ⟨T50, h50, X50, e50, E50, A50, D50, -, st50⟩ := newO X41 hx hZ hown (hw _ (List.mem_of_getElem? (i := 66) rfl)) (hw _ (List.mem_of_getElem? (i := 67) rfl)) (hw _ (List.mem_of_getElem? (i := 68) rfl)) rfl (g := (mkF m 96 #[.val (.int p1), .val (.int p2), .val (.int p3), .val (.int p4), .val (.int p5), .val (.int v3), .val (.int v7), .val (.ref b10), .val (.ref b20), .val (.ref b26), .val (.ref b32), .val .null, .unset, .unset] [])) rfl (hb hby at_96) (by decide) (by decide)
    obtain ⟨b50, gz50⟩ : ∃ z, z = T41.heap.size := ⟨_, rfl⟩
    rw [← gz50] at A50 D50 st50
    have ne_b10_b50 : b10 ≠ b50 := Nat.ne_of_lt (Nat.lt_of_lt_of_le G43.lt (Nat.le_of_eq gz50.symm))
    have ne_b32_b50 : b32 ≠ b50 := Nat.ne_of_lt (Nat.lt_of_lt_of_le E41q.lt (Nat.le_of_eq gz50.symm))
    have g_b50 : n0 ≤ b50 := Nat.le_trans Z41 (Nat.le_of_eq gz50.symm)
    have sz_b50 : h0.size ≤ b50 := Nat.le_trans K41.1 (Nat.le_of_eq gz50.symm)
    have G51 : Old Z n0 h50 := G42.ext E50
    have G52 : Exa Z h50 b10 "com/example/oriflamme/oriflamme/language/Position" := G43.ext E50
    have G53 : Fld Z h50 b10 "com/example/oriflamme/oriflamme/language/Position" "line" "I" (.int p2) := G44.ext E50
    have G54 : Fld Z h50 b10 "com/example/oriflamme/oriflamme/language/Position" "column" "I" (.int p3) := G45.ext E50
    have G55 : Exa Z h50 b32 "java/util/ArrayList" := E41q.ext E50
    have G56 : Fld Z h50 b32 "java/util/AbstractList" "modCount" "I" (.int (0 : Int32)) := F41q0.ext E50
    have G57 : Fld Z h50 b32 "java/util/ArrayList" "elementData" "[Ljava/lang/Object;" (.ref wd) := F41q1.ext E50
    have K50 : Keep h0 h50 [] := K41.ext E50
    have Z50 : n0 ≤ h50.size := Nat.le_trans Z41 E50.1
    have G58 : Exa Z h50 b50 "com/example/oriflamme/oriflamme/language/Expr$Param" := A50
    have G59 : Fld Z h50 b50 "com/example/oriflamme/oriflamme/language/Expr$Param" "at" "Lcom/example/oriflamme/oriflamme/language/Position;" .null := D50 (Or.inr (hw _ (List.mem_of_getElem? (i := 74) rfl))) (ty := (.object "com/example/oriflamme/oriflamme/language/Position")) (by decide)
    have G60 : Fld Z h50 b50 "com/example/oriflamme/oriflamme/language/Expr$Param" "name" "Ljava/lang/String;" .null := D50 (Or.inr (hw _ (List.mem_of_getElem? (i := 76) rfl))) (ty := (.object "java/lang/String")) (by decide)
    have G61 : Fld Z h50 b50 "com/example/oriflamme/oriflamme/language/Expr$Param" "type" "Lcom/example/oriflamme/oriflamme/language/Type;" .null := D50 (Or.inr (hw _ (List.mem_of_getElem? (i := 78) rfl))) (ty := (.object "com/example/oriflamme/oriflamme/language/Type")) (by decide)
    have st62 : ∀ tg, Steps p.tables e below (T50.setTop (mkF m 106 #[.val (.int p1), .val (.int p2), .val (.int p3), .val (.int p4), .val (.int p5), .val (.int v3), .val (.int v7), .val (.ref b10), .val (.ref b20), .val (.ref b26), .val (.ref b32), .val .null, .unset, .unset] [.null, (.ref b20), (.ref b10), (.ref b50), (.ref b50)])) tg → Steps p.tables e below (T50.setTop (mkF m 99 #[.val (.int p1), .val (.int p2), .val (.int p3), .val (.int p4), .val (.int p5), .val (.int v3), .val (.int v7), .val (.ref b10), .val (.ref b20), .val (.ref b26), .val (.ref b32), .val .null, .unset, .unset] [(.ref b50)])) tg := by
      intro tg kt
      show Steps p.tables e below (T50.setTop (mkF m 99 #[.val (.int p1), .val (.int p2), .val (.int p3), .val (.int p4), .val (.int p5), .val (.int v3), .val (.int v7), .val (.ref b10), .val (.ref b20), .val (.ref b26), .val (.ref b32), .val .null, .unset, .unset] [(.ref b50)])) tg
      refine XS.dup X50.here hx rfl (hb hby at_99) rfl rfl ?_
      show Steps p.tables e below (T50.setTop (mkF m 100 #[.val (.int p1), .val (.int p2), .val (.int p3), .val (.int p4), .val (.int p5), .val (.int v3), .val (.int v7), .val (.ref b10), .val (.ref b20), .val (.ref b26), .val (.ref b32), .val .null, .unset, .unset] [(.ref b50), (.ref b50)])) tg
      refine XS.aload X50.here hx rfl (hb hby at_100) rfl rfl ?_
      show Steps p.tables e below (T50.setTop (mkF m 102 #[.val (.int p1), .val (.int p2), .val (.int p3), .val (.int p4), .val (.int p5), .val (.int v3), .val (.int v7), .val (.ref b10), .val (.ref b20), .val (.ref b26), .val (.ref b32), .val .null, .unset, .unset] [(.ref b10), (.ref b50), (.ref b50)])) tg
      refine XS.aload X50.here hx rfl (hb hby at_102) rfl rfl ?_
      show Steps p.tables e below (T50.setTop (mkF m 104 #[.val (.int p1), .val (.int p2), .val (.int p3), .val (.int p4), .val (.int p5), .val (.int v3), .val (.int v7), .val (.ref b10), .val (.ref b20), .val (.ref b26), .val (.ref b32), .val .null, .unset, .unset] [(.ref b20), (.ref b10), (.ref b50), (.ref b50)])) tg
      refine XS.aload X50.here hx rfl (hb hby at_104) rfl rfl ?_
      exact kt
    obtain ⟨_, _, ⟨T63, L63, k63, n63⟩, -, X63, ⟨Lc63, hQ63, l63, y63, z63⟩, st63⟩ := X50.specialBack hx (y := (⟨"com/example/oriflamme/oriflamme/language/Expr$Param", "<init>", "(Lcom/example/oriflamme/oriflamme/language/Position;Ljava/lang/String;Lcom/example/oriflamme/oriflamme/language/Type;)V"⟩ : MethodName)) rfl hown (mvT hZ (hw _ (List.mem_of_getElem? (i := 69) rfl))) (mvT hZ (hw _ (List.mem_of_getElem? (i := 70) rfl))) (mvT hZ (hw _ (List.mem_of_getElem? (i := 71) rfl))) (by decide) (backOf (W := 1) (rm11n l Z a0 hw [] b50 b10 b20 h50 n0 Z50 G59 G60 G61 G58 g_b50) hZ (hw _ (List.mem_of_getElem? (i := 71) rfl)) (hw _ (List.mem_of_getElem? (i := 68) rfl)) (by decide) (by decide)) (g := (mkF m 106 #[.val (.int p1), .val (.int p2), .val (.int p3), .val (.int p4), .val (.int p5), .val (.int v3), .val (.int v7), .val (.ref b10), .val (.ref b20), .val (.ref b26), .val (.ref b32), .val .null, .unset, .unset] [.null, (.ref b20), (.ref b10), (.ref b50), (.ref b50)])) rfl (by rw [hml]; rfl) (Steps.refl _) (a := b50) (argsL := [(.ref b10), (.ref b20), .null]) (rest := [(.ref b50)]) (lenOf pd_7 rfl) rfl (by show 2 * 0 + _ ≤ _; exact Nat.le_of_eq rfl) (hb hby at_106) (fun _ _ => ⟨rfl, e50, (by decide : 7 + 0 ≤ _), (by decide : 18 + 0 ≤ _)⟩)
    dsimp only [Pt.U, Pt.locs, Pt.cells, Pt.slots] at X63 l63 y63 z63 st63 hQ63
    subst l63 y63 z63
    obtain ⟨rfl, N63q, K63q, E63q, F63q0, F63q1, F63q2⟩ := hQ63
    have N63 := Fr.app N41 N63q
    have G64 : Old Z n0 T63.heap := G51.keep K63q (allS g_b50 (all0))
    have G65 : Exa Z T63.heap b10 "com/example/oriflamme/oriflamme/language/Position" := G52.keep K63q
    have G66 : Fld Z T63.heap b10 "com/example/oriflamme/oriflamme/language/Position" "line" "I" (.int p2) := G53.keep K63q (ninS ne_b10_b50 (nin0))
    have G67 : Fld Z T63.heap b10 "com/example/oriflamme/oriflamme/language/Position" "column" "I" (.int p3) := G54.keep K63q (ninS ne_b10_b50 (nin0))
    have G68 : Exa Z T63.heap b32 "java/util/ArrayList" := G55.keep K63q
    have G69 : Fld Z T63.heap b32 "java/util/AbstractList" "modCount" "I" (.int (0 : Int32)) := G56.keep K63q (ninS ne_b32_b50 (nin0))
    have G70 : Fld Z T63.heap b32 "java/util/ArrayList" "elementData" "[Ljava/lang/Object;" (.ref wd) := G57.keep K63q (ninS ne_b32_b50 (nin0))
    have G71 : Exa Z T63.heap b50 "com/example/oriflamme/oriflamme/language/Expr$Param" := G58.keep K63q
    have K63 : Keep h0 T63.heap [] := K50.trans K63q (allS (Or.inr sz_b50) all0)
    have Z63 : n0 ≤ T63.heap.size := Nat.le_trans Z50 K63q.1
    have st72 : ∀ tg, Steps p.tables e below (T63.setTop (mkF m 138 #[.val (.int p1), .val (.int p2), .val (.int p3), .val (.int p4), .val (.int p5), .val (.int v3), .val (.int v7), .val (.ref b10), .val (.ref b20), .val (.ref b26), .val (.ref b32), .val .null, .val (.ref b50), .val (.int (1 : Int32))] [(.ref b50)])) tg → Steps p.tables e below (T63.setTop (mkF m 109 #[.val (.int p1), .val (.int p2), .val (.int p3), .val (.int p4), .val (.int p5), .val (.int v3), .val (.int v7), .val (.ref b10), .val (.ref b20), .val (.ref b26), .val (.ref b32), .val .null, .unset, .unset] [(.ref b50)])) tg := by
      intro tg kt
      show Steps p.tables e below (T63.setTop (mkF m 109 #[.val (.int p1), .val (.int p2), .val (.int p3), .val (.int p4), .val (.int p5), .val (.int v3), .val (.int v7), .val (.ref b10), .val (.ref b20), .val (.ref b26), .val (.ref b32), .val .null, .unset, .unset] [(.ref b50)])) tg
      refine XS.astore X63.here hx rfl (hb hby at_109) rfl rfl (l' := #[.val (.int p1), .val (.int p2), .val (.int p3), .val (.int p4), .val (.int p5), .val (.int v3), .val (.int v7), .val (.ref b10), .val (.ref b20), .val (.ref b26), .val (.ref b32), .val .null, .val (.ref b50), .unset]) rfl ?_
      show Steps p.tables e below (T63.setTop (mkF m 111 #[.val (.int p1), .val (.int p2), .val (.int p3), .val (.int p4), .val (.int p5), .val (.int v3), .val (.int v7), .val (.ref b10), .val (.ref b20), .val (.ref b26), .val (.ref b32), .val .null, .val (.ref b50), .unset] [])) tg
      refine XS.iload X63.here hx rfl (hb hby at_111) rfl ?_
      show Steps p.tables e below (T63.setTop (mkF m 113 #[.val (.int p1), .val (.int p2), .val (.int p3), .val (.int p4), .val (.int p5), .val (.int v3), .val (.int v7), .val (.ref b10), .val (.ref b20), .val (.ref b26), .val (.ref b32), .val .null, .val (.ref b50), .unset] [(.int v3)])) tg
      refine XS.ifNo X63.here hx rfl (hb hby at_113) rfl (XT.i0_ne_f hc74_47) ?_
      show Steps p.tables e below (T63.setTop (mkF m 116 #[.val (.int p1), .val (.int p2), .val (.int p3), .val (.int p4), .val (.int p5), .val (.int v3), .val (.int v7), .val (.ref b10), .val (.ref b20), .val (.ref b26), .val (.ref b32), .val .null, .val (.ref b50), .unset] [])) tg
      refine XS.iconst X63.here hx rfl (hb hby at_116) ?_
      show Steps p.tables e below (T63.setTop (mkF m 117 #[.val (.int p1), .val (.int p2), .val (.int p3), .val (.int p4), .val (.int p5), .val (.int v3), .val (.int v7), .val (.ref b10), .val (.ref b20), .val (.ref b26), .val (.ref b32), .val .null, .val (.ref b50), .unset] [(.int (1 : Int32))])) tg
      refine XS.istore X63.here hx rfl (hb hby at_117) rfl (l' := #[.val (.int p1), .val (.int p2), .val (.int p3), .val (.int p4), .val (.int p5), .val (.int v3), .val (.int v7), .val (.ref b10), .val (.ref b20), .val (.ref b26), .val (.ref b32), .val .null, .val (.ref b50), .val (.int (1 : Int32))]) rfl ?_
      show Steps p.tables e below (T63.setTop (mkF m 119 #[.val (.int p1), .val (.int p2), .val (.int p3), .val (.int p4), .val (.int p5), .val (.int v3), .val (.int v7), .val (.ref b10), .val (.ref b20), .val (.ref b26), .val (.ref b32), .val .null, .val (.ref b50), .val (.int (1 : Int32))] [])) tg
      refine XS.goto X63.here hx rfl (pc0 := 119) (pc' := 136) rfl (hb hby at_119) (by decide) (by decide) ?_
      show Steps p.tables e below (T63.setTop (mkF m 136 #[.val (.int p1), .val (.int p2), .val (.int p3), .val (.int p4), .val (.int p5), .val (.int v3), .val (.int v7), .val (.ref b10), .val (.ref b20), .val (.ref b26), .val (.ref b32), .val .null, .val (.ref b50), .val (.int (1 : Int32))] [])) tg
      refine XS.aload X63.here hx rfl (hb hby at_136) rfl rfl ?_
      exact kt
    obtain ⟨cq73, kq73, q73a, q73b, q73c⟩ := isOf hZ rfl E63q
    obtain ⟨_, _, ⟨T73, L73, k73, n73⟩, -, X73, ⟨Lc73, hQ73, l73, y73, z73⟩, st73⟩ := X63.virtualBack hx (y := (⟨"com/example/oriflamme/oriflamme/language/Expr$Param", "isRequired", "()Z"⟩ : MethodName)) (z := (⟨"com/example/oriflamme/oriflamme/language/Expr$Param", "isRequired", "()Z"⟩ : MethodName)) hown (mvT hZ (hw _ (List.mem_of_getElem? (i := 79) rfl))) (mvT hZ (hw _ (List.mem_of_getElem? (i := 80) rfl))) (notFace_of_selects (args := #[]) (mvT hZ (hw _ (List.mem_of_getElem? (i := 82) rfl)))) (mvT hZ (hw _ (List.mem_of_getElem? (i := 82) rfl))) (mvT hZ (hw _ (List.mem_of_getElem? (i := 81) rfl))) (by decide) (backOf (W := 0) (rm12n l Z a0 hw [] b50 T63.heap n0 Z63 F63q2) hZ (hw _ (List.mem_of_getElem? (i := 83) rfl)) (hw _ (List.mem_of_getElem? (i := 68) rfl)) (by decide) (by decide)) q73a q73c (g := (mkF m 138 #[.val (.int p1), .val (.int p2), .val (.int p3), .val (.int p4), .val (.int p5), .val (.int v3), .val (.int v7), .val (.ref b10), .val (.ref b20), .val (.ref b26), .val (.ref b32), .val .null, .val (.ref b50), .val (.int (1 : Int32))] [(.ref b50)])) rfl (by rw [hml]; rfl) (Steps.refl _) (argsL := []) (rest := []) (lenOf pd_4 rfl) rfl (by show 2 * 0 + _ ≤ _; exact Nat.le_of_eq rfl) (hb hby at_138) (fun _ _ => ⟨rfl, rfl, (by decide : 7 + 0 ≤ _), (by decide : 18 + 0 ≤ _)⟩)
    dsimp only [Pt.U, Pt.locs, Pt.cells, Pt.slots] at X73 l73 y73 z73 st73 hQ73
    subst l73 y73 z73
    obtain ⟨rfl, N73q, e73⟩ := hQ73
    have N73 := Fr.app N63 N73q
    obtain ⟨r73, hr73⟩ : ∃ z, z = rv12n b50 := ⟨_, rfl⟩
    rw [← hr73] at st73
    have st75 : ∀ tg, Steps p.tables e below (T73.setTop (mkF m 143 #[.val (.int p1), .val (.int p2), .val (.int p3), .val (.int p4), .val (.int p5), .val (.int v3), .val (.int v7), .val (.ref b10), .val (.ref b20), .val (.ref b26), .val (.ref b32), .val .null, .val (.ref b50), .val (.int (1 : Int32))] [(.int (1 : Int32)), (.int r73)])) tg → Steps p.tables e below (T73.setTop (mkF m 141 #[.val (.int p1), .val (.int p2), .val (.int p3), .val (.int p4), .val (.int p5), .val (.int v3), .val (.int v7), .val (.ref b10), .val (.ref b20), .val (.ref b26), .val (.ref b32), .val .null, .val (.ref b50), .val (.int (1 : Int32))] [(.int r73)])) tg := by
      intro tg kt
      show Steps p.tables e below (T73.setTop (mkF m 141 #[.val (.int p1), .val (.int p2), .val (.int p3), .val (.int p4), .val (.int p5), .val (.int v3), .val (.int v7), .val (.ref b10), .val (.ref b20), .val (.ref b26), .val (.ref b32), .val .null, .val (.ref b50), .val (.int (1 : Int32))] [(.int r73)])) tg
      refine XS.iload X73.here hx rfl (hb hby at_141) rfl ?_
      exact kt
    have hf74 : r73 = (1 : Int32) := by rw [hr73]; rfl
    have st76 : ∀ tg, Steps p.tables e below (T73.setTop (mkF m 151 #[.val (.int p1), .val (.int p2), .val (.int p3), .val (.int p4), .val (.int p5), .val (.int v3), .val (.int v7), .val (.ref b10), .val (.ref b20), .val (.ref b26), .val (.ref b32), .val .null, .val (.ref b50), .val (.int (1 : Int32))] [(.int (1 : Int32))])) tg → Steps p.tables e below (T73.setTop (mkF m 143 #[.val (.int p1), .val (.int p2), .val (.int p3), .val (.int p4), .val (.int p5), .val (.int v3), .val (.int v7), .val (.ref b10), .val (.ref b20), .val (.ref b26), .val (.ref b32), .val .null, .val (.ref b50), .val (.int (1 : Int32))] [(.int (1 : Int32)), (.int r73)])) tg := by
      intro tg kt
      show Steps p.tables e below (T73.setTop (mkF m 143 #[.val (.int p1), .val (.int p2), .val (.int p3), .val (.int p4), .val (.int p5), .val (.int v3), .val (.int v7), .val (.ref b10), .val (.ref b20), .val (.ref b26), .val (.ref b32), .val .null, .val (.ref b50), .val (.int (1 : Int32))] [(.int (1 : Int32)), (.int r73)])) tg
      refine XS.icmpNo X73.here hx rfl (hb hby at_143) rfl (XT.ii_ne_f hf74) ?_
      show Steps p.tables e below (T73.setTop (mkF m 146 #[.val (.int p1), .val (.int p2), .val (.int p3), .val (.int p4), .val (.int p5), .val (.int v3), .val (.int v7), .val (.ref b10), .val (.ref b20), .val (.ref b26), .val (.ref b32), .val .null, .val (.ref b50), .val (.int (1 : Int32))] [])) tg
      refine XS.iconst X73.here hx rfl (hb hby at_146) ?_
      show Steps p.tables e below (T73.setTop (mkF m 147 #[.val (.int p1), .val (.int p2), .val (.int p3), .val (.int p4), .val (.int p5), .val (.int v3), .val (.int v7), .val (.ref b10), .val (.ref b20), .val (.ref b26), .val (.ref b32), .val .null, .val (.ref b50), .val (.int (1 : Int32))] [(.int (1 : Int32))])) tg
      refine XS.goto X73.here hx rfl (pc0 := 147) (pc' := 151) rfl (hb hby at_147) (by decide) (by decide) ?_
      exact kt
    obtain ⟨fs, hr, hrun, hended, hW, hsame⟩ := X73.leave (v := some (.int (1 : Int32))) (fun h => by rw [Bd.returns] at h; cases h)
    refine ⟨_, _, pre0 _ ?_, hrun, hended, _, _, rfl, ?_, ⟨_, rfl⟩, hW, hsame.mono (by decide) (by decide)⟩
    · refine st2 _ ?_
      refine st4 _ ?_
      refine st6 _ ?_
      refine st8 _ ?_
      refine st9 _ ?_
      show Steps p.tables e below (s₁.setTop (mkF m 26 #[.val (.int p1), .val (.int p2), .val (.int p3), .val (.int p4), .val (.int p5), .val (.int v3), .val (.int v7), .unset, .unset, .unset, .unset, .unset, .unset, .unset] [])) _
      refine st10 _ ?_
      refine st15 _ ?_
      show Steps p.tables e below (T10.setTop (mkF m 32 #[.val (.int p1), .val (.int p2), .val (.int p3), .val (.int p4), .val (.int p5), .val (.int v3), .val (.int v7), .unset, .unset, .unset, .unset, .unset, .unset, .unset] [(.int p3), (.int p2), (.ref b10), (.ref b10)])) _
      refine st16.trans ?_
      refine st19 _ ?_
      show Steps p.tables e below (T16.setTop (mkF m 43 #[.val (.int p1), .val (.int p2), .val (.int p3), .val (.int p4), .val (.int p5), .val (.int v3), .val (.int v7), .val (.ref b10), .unset, .unset, .unset, .unset, .unset, .unset] [(.int ((p4 &&& (255 : Int32)).toUInt32.toUInt16.toUInt32.toInt32))])) _
      refine st20 _ ?_
      refine st25 _ ?_
      show Steps p.tables e below (T20.setTop (mkF m 55 #[.val (.int p1), .val (.int p2), .val (.int p3), .val (.int p4), .val (.int p5), .val (.int v3), .val (.int v7), .val (.ref b10), .val (.ref b20), .unset, .unset, .unset, .unset, .unset] [(.int ((p5 &&& (255 : Int32)).toUInt32.toUInt16.toUInt32.toInt32))])) _
      refine st26 _ ?_
      refine st31 _ ?_
      show Steps p.tables e below (T26.setTop (mkF m 60 #[.val (.int p1), .val (.int p2), .val (.int p3), .val (.int p4), .val (.int p5), .val (.int v3), .val (.int v7), .val (.ref b10), .val (.ref b20), .val (.ref b26), .unset, .unset, .unset, .unset] [])) _
      refine st32 _ ?_
      refine st40 _ ?_
      show Steps p.tables e below (T32.setTop (mkF m 64 #[.val (.int p1), .val (.int p2), .val (.int p3), .val (.int p4), .val (.int p5), .val (.int v3), .val (.int v7), .val (.ref b10), .val (.ref b20), .val (.ref b26), .unset, .unset, .unset, .unset] [(.ref b32), (.ref b32)])) _
      refine st41.trans ?_
      refine st48 _ ?_
      refine st49 _ ?_
      show Steps p.tables e below (T41.setTop (mkF m 96 #[.val (.int p1), .val (.int p2), .val (.int p3), .val (.int p4), .val (.int p5), .val (.int v3), .val (.int v7), .val (.ref b10), .val (.ref b20), .val (.ref b26), .val (.ref b32), .val .null, .unset, .unset] [])) _
      refine st50 _ ?_
      refine st62 _ ?_
      show Steps p.tables e below (T50.setTop (mkF m 106 #[.val (.int p1), .val (.int p2), .val (.int p3), .val (.int p4), .val (.int p5), .val (.int v3), .val (.int v7), .val (.ref b10), .val (.ref b20), .val (.ref b26), .val (.ref b32), .val .null, .unset, .unset] [.null, (.ref b20), (.ref b10), (.ref b50), (.ref b50)])) _
      refine st63.trans ?_
      refine st72 _ ?_
      show Steps p.tables e below (T63.setTop (mkF m 138 #[.val (.int p1), .val (.int p2), .val (.int p3), .val (.int p4), .val (.int p5), .val (.int v3), .val (.int v7), .val (.ref b10), .val (.ref b20), .val (.ref b26), .val (.ref b32), .val .null, .val (.ref b50), .val (.int (1 : Int32))] [(.ref b50)])) _
      refine st73.trans ?_
      refine st75 _ ?_
      refine st76 _ ?_
      show Steps p.tables e below (T73.setTop (mkF m 151 #[.val (.int p1), .val (.int p2), .val (.int p3), .val (.int p4), .val (.int p5), .val (.int v3), .val (.int v7), .val (.ref b10), .val (.ref b20), .val (.ref b26), .val (.ref b32), .val .null, .val (.ref b50), .val (.int (1 : Int32))] [(.int (1 : Int32))])) _
      exact retN X73 hx (t := .boolean) Bd.returns (by simp) (hb hby at_151) hr
    · show Q0 Z p1 p2 p3 p4 p5 wc wd h0 n0 _ T73.heap _
      rw [e73]
      exact ⟨rfl, N73⟩
  · -- pc 74: not v3 = 0
    have st77 : ∀ tg, Steps p.tables e below (T41.setTop (mkF m 77 #[.val (.int p1), .val (.int p2), .val (.int p3), .val (.int p4), .val (.int p5), .val (.int v3), .val (.int v7), .val (.ref b10), .val (.ref b20), .val (.ref b26), .val (.ref b32), .val .null, .unset, .unset] [])) tg → Steps p.tables e below (T41.setTop (mkF m 74 #[.val (.int p1), .val (.int p2), .val (.int p3), .val (.int p4), .val (.int p5), .val (.int v3), .val (.int v7), .val (.ref b10), .val (.ref b20), .val (.ref b26), .val (.ref b32), .val .null, .unset, .unset] [(.int v3)])) tg := by
      intro tg kt
      show Steps p.tables e below (T41.setTop (mkF m 74 #[.val (.int p1), .val (.int p2), .val (.int p3), .val (.int p4), .val (.int p5), .val (.int v3), .val (.int v7), .val (.ref b10), .val (.ref b20), .val (.ref b26), .val (.ref b32), .val .null, .unset, .unset] [(.int v3)])) tg
      refine XS.ifNo X41.here hx rfl (hb hby at_74) rfl (XT.i0_eq_f hc74_47) ?_
      exact kt
    obtain ⟨T78, h78, X78, e78, E78, A78, D78, -, st78⟩ := newO X41 hx hZ hown (hw _ (List.mem_of_getElem? (i := 84) rfl)) (hw _ (List.mem_of_getElem? (i := 85) rfl)) (hw _ (List.mem_of_getElem? (i := 86) rfl)) rfl (g := (mkF m 77 #[.val (.int p1), .val (.int p2), .val (.int p3), .val (.int p4), .val (.int p5), .val (.int v3), .val (.int v7), .val (.ref b10), .val (.ref b20), .val (.ref b26), .val (.ref b32), .val .null, .unset, .unset] [])) rfl (hb hby at_77) (by decide) (by decide)
    obtain ⟨b78, gz78⟩ : ∃ z, z = T41.heap.size := ⟨_, rfl⟩
    rw [← gz78] at A78 D78 st78
    have ne_b10_b78 : b10 ≠ b78 := Nat.ne_of_lt (Nat.lt_of_lt_of_le G43.lt (Nat.le_of_eq gz78.symm))
    have ne_b32_b78 : b32 ≠ b78 := Nat.ne_of_lt (Nat.lt_of_lt_of_le E41q.lt (Nat.le_of_eq gz78.symm))
    have g_b78 : n0 ≤ b78 := Nat.le_trans Z41 (Nat.le_of_eq gz78.symm)
    have sz_b78 : h0.size ≤ b78 := Nat.le_trans K41.1 (Nat.le_of_eq gz78.symm)
    have G79 : Old Z n0 h78 := G42.ext E78
    have G80 : Exa Z h78 b10 "com/example/oriflamme/oriflamme/language/Position" := G43.ext E78
    have G81 : Fld Z h78 b10 "com/example/oriflamme/oriflamme/language/Position" "line" "I" (.int p2) := G44.ext E78
    have G82 : Fld Z h78 b10 "com/example/oriflamme/oriflamme/language/Position" "column" "I" (.int p3) := G45.ext E78
    have G83 : Exa Z h78 b32 "java/util/ArrayList" := E41q.ext E78
    have G84 : Fld Z h78 b32 "java/util/AbstractList" "modCount" "I" (.int (0 : Int32)) := F41q0.ext E78
    have G85 : Fld Z h78 b32 "java/util/ArrayList" "elementData" "[Ljava/lang/Object;" (.ref wd) := F41q1.ext E78
    have K78 : Keep h0 h78 [] := K41.ext E78
    have Z78 : n0 ≤ h78.size := Nat.le_trans Z41 E78.1
    have G86 : Exa Z h78 b78 "com/example/oriflamme/oriflamme/language/Type" := A78
    have G87 : Fld Z h78 b78 "com/example/oriflamme/oriflamme/language/Type" "at" "Lcom/example/oriflamme/oriflamme/language/Position;" .null := D78 (Or.inr (hw _ (List.mem_of_getElem? (i := 92) rfl))) (ty := (.object "com/example/oriflamme/oriflamme/language/Position")) (by decide)
    have G88 : Fld Z h78 b78 "com/example/oriflamme/oriflamme/language/Type" "name" "Ljava/lang/String;" .null := D78 (Or.inr (hw _ (List.mem_of_getElem? (i := 94) rfl))) (ty := (.object "java/lang/String")) (by decide)
    have G89 : Fld Z h78 b78 "com/example/oriflamme/oriflamme/language/Type" "arguments" "Ljava/util/List;" .null := D78 (Or.inr (hw _ (List.mem_of_getElem? (i := 96) rfl))) (ty := (.object "java/util/List")) (by decide)
    have G90 : Fld Z h78 b78 "com/example/oriflamme/oriflamme/language/Type" "optional" "Z" (.int (0 : Int32)) := D78 (Or.inr (hw _ (List.mem_of_getElem? (i := 98) rfl))) (ty := .boolean) (by decide)
    have G91 : Fld Z h78 b78 "com/example/oriflamme/oriflamme/language/Type" "base" "Lcom/example/oriflamme/oriflamme/language/Type$Base;" .null := D78 (Or.inr (hw _ (List.mem_of_getElem? (i := 100) rfl))) (ty := (.object "com/example/oriflamme/oriflamme/language/Type$Base")) (by decide)
    have G92 : Fld Z h78 b78 "com/example/oriflamme/oriflamme/language/Type" "record" "Lcom/example/oriflamme/oriflamme/language/RecordType;" .null := D78 (Or.inr (hw _ (List.mem_of_getElem? (i := 102) rfl))) (ty := (.object "com/example/oriflamme/oriflamme/language/RecordType")) (by decide)
    have st93 : ∀ tg, Steps p.tables e below (T78.setTop (mkF m 91 #[.val (.int p1), .val (.int p2), .val (.int p3), .val (.int p4), .val (.int p5), .val (.int v3), .val (.int v7), .val (.ref b10), .val (.ref b20), .val (.ref b26), .val (.ref b32), .val .null, .unset, .unset] [.null, .null, (.int v7), (.ref b32), (.ref b26), (.ref b10), (.ref b78), (.ref b78)])) tg → Steps p.tables e below (T78.setTop (mkF m 80 #[.val (.int p1), .val (.int p2), .val (.int p3), .val (.int p4), .val (.int p5), .val (.int v3), .val (.int v7), .val (.ref b10), .val (.ref b20), .val (.ref b26), .val (.ref b32), .val .null, .unset, .unset] [(.ref b78)])) tg := by
      intro tg kt
      show Steps p.tables e below (T78.setTop (mkF m 80 #[.val (.int p1), .val (.int p2), .val (.int p3), .val (.int p4), .val (.int p5), .val (.int v3), .val (.int v7), .val (.ref b10), .val (.ref b20), .val (.ref b26), .val (.ref b32), .val .null, .unset, .unset] [(.ref b78)])) tg
      refine XS.dup X78.here hx rfl (hb hby at_80) rfl rfl ?_
      show Steps p.tables e below (T78.setTop (mkF m 81 #[.val (.int p1), .val (.int p2), .val (.int p3), .val (.int p4), .val (.int p5), .val (.int v3), .val (.int v7), .val (.ref b10), .val (.ref b20), .val (.ref b26), .val (.ref b32), .val .null, .unset, .unset] [(.ref b78), (.ref b78)])) tg
      refine XS.aload X78.here hx rfl (hb hby at_81) rfl rfl ?_
      show Steps p.tables e below (T78.setTop (mkF m 83 #[.val (.int p1), .val (.int p2), .val (.int p3), .val (.int p4), .val (.int p5), .val (.int v3), .val (.int v7), .val (.ref b10), .val (.ref b20), .val (.ref b26), .val (.ref b32), .val .null, .unset, .unset] [(.ref b10), (.ref b78), (.ref b78)])) tg
      refine XS.aload X78.here hx rfl (hb hby at_83) rfl rfl ?_
      show Steps p.tables e below (T78.setTop (mkF m 85 #[.val (.int p1), .val (.int p2), .val (.int p3), .val (.int p4), .val (.int p5), .val (.int v3), .val (.int v7), .val (.ref b10), .val (.ref b20), .val (.ref b26), .val (.ref b32), .val .null, .unset, .unset] [(.ref b26), (.ref b10), (.ref b78), (.ref b78)])) tg
      refine XS.aload X78.here hx rfl (hb hby at_85) rfl rfl ?_
      show Steps p.tables e below (T78.setTop (mkF m 87 #[.val (.int p1), .val (.int p2), .val (.int p3), .val (.int p4), .val (.int p5), .val (.int v3), .val (.int v7), .val (.ref b10), .val (.ref b20), .val (.ref b26), .val (.ref b32), .val .null, .unset, .unset] [(.ref b32), (.ref b26), (.ref b10), (.ref b78), (.ref b78)])) tg
      refine XS.iload X78.here hx rfl (hb hby at_87) rfl ?_
      show Steps p.tables e below (T78.setTop (mkF m 89 #[.val (.int p1), .val (.int p2), .val (.int p3), .val (.int p4), .val (.int p5), .val (.int v3), .val (.int v7), .val (.ref b10), .val (.ref b20), .val (.ref b26), .val (.ref b32), .val .null, .unset, .unset] [(.int v7), (.ref b32), (.ref b26), (.ref b10), (.ref b78), (.ref b78)])) tg
      refine XS.aconstNull X78.here hx rfl (hb hby at_89) ?_
      show Steps p.tables e below (T78.setTop (mkF m 90 #[.val (.int p1), .val (.int p2), .val (.int p3), .val (.int p4), .val (.int p5), .val (.int v3), .val (.int v7), .val (.ref b10), .val (.ref b20), .val (.ref b26), .val (.ref b32), .val .null, .unset, .unset] [.null, (.int v7), (.ref b32), (.ref b26), (.ref b10), (.ref b78), (.ref b78)])) tg
      refine XS.aconstNull X78.here hx rfl (hb hby at_90) ?_
      exact kt
    obtain ⟨_, _, ⟨T94, L94, k94, n94⟩, -, X94, ⟨Lc94, hQ94, l94, y94, z94⟩, st94⟩ := X78.specialBack hx (y := (⟨"com/example/oriflamme/oriflamme/language/Type", "<init>", "(Lcom/example/oriflamme/oriflamme/language/Position;Ljava/lang/String;Ljava/util/List;ZLcom/example/oriflamme/oriflamme/language/Type$Base;Lcom/example/oriflamme/oriflamme/language/RecordType;)V"⟩ : MethodName)) rfl hown (mvT hZ (hw _ (List.mem_of_getElem? (i := 87) rfl))) (mvT hZ (hw _ (List.mem_of_getElem? (i := 88) rfl))) (mvT hZ (hw _ (List.mem_of_getElem? (i := 89) rfl))) (by decide) (backOf (W := 1) (rm13 l Z a0 hw [] b78 b10 b26 b32 v7 h78 n0 Z78 G87 G88 G89 G90 G91 G92 G86 g_b78) hZ (hw _ (List.mem_of_getElem? (i := 89) rfl)) (hw _ (List.mem_of_getElem? (i := 86) rfl)) (by decide) (by decide)) (g := (mkF m 91 #[.val (.int p1), .val (.int p2), .val (.int p3), .val (.int p4), .val (.int p5), .val (.int v3), .val (.int v7), .val (.ref b10), .val (.ref b20), .val (.ref b26), .val (.ref b32), .val .null, .unset, .unset] [.null, .null, (.int v7), (.ref b32), (.ref b26), (.ref b10), (.ref b78), (.ref b78)])) rfl (by rw [hml]; rfl) (Steps.refl _) (a := b78) (argsL := [(.ref b10), (.ref b26), (.ref b32), (.int v7), .null, .null]) (rest := [(.ref b78)]) (lenOf pd_8 rfl) rfl (by show 2 * 0 + _ ≤ _; exact Nat.le_of_eq rfl) (hb hby at_91) (fun _ _ => ⟨rfl, e78, (by decide : 7 + 0 ≤ _), (by decide : 21 + 0 ≤ _)⟩)
    dsimp only [Pt.U, Pt.locs, Pt.cells, Pt.slots] at X94 l94 y94 z94 st94 hQ94
    subst l94 y94 z94
    obtain ⟨rfl, N94q, K94q, E94q, F94q0, F94q1, F94q2, F94q3, F94q4, F94q5⟩ := hQ94
    have N94 := Fr.app N41 N94q
    have G95 : Old Z n0 T94.heap := G79.keep K94q (allS g_b78 (all0))
    have G96 : Exa Z T94.heap b10 "com/example/oriflamme/oriflamme/language/Position" := G80.keep K94q
    have G97 : Fld Z T94.heap b10 "com/example/oriflamme/oriflamme/language/Position" "line" "I" (.int p2) := G81.keep K94q (ninS ne_b10_b78 (nin0))
    have G98 : Fld Z T94.heap b10 "com/example/oriflamme/oriflamme/language/Position" "column" "I" (.int p3) := G82.keep K94q (ninS ne_b10_b78 (nin0))
    have G99 : Exa Z T94.heap b32 "java/util/ArrayList" := G83.keep K94q
    have G100 : Fld Z T94.heap b32 "java/util/AbstractList" "modCount" "I" (.int (0 : Int32)) := G84.keep K94q (ninS ne_b32_b78 (nin0))
    have G101 : Fld Z T94.heap b32 "java/util/ArrayList" "elementData" "[Ljava/lang/Object;" (.ref wd) := G85.keep K94q (ninS ne_b32_b78 (nin0))
    have G102 : Exa Z T94.heap b78 "com/example/oriflamme/oriflamme/language/Type" := G86.keep K94q
    have K94 : Keep h0 T94.heap [] := K78.trans K94q (allS (Or.inr sz_b78) all0)
    have Z94 : n0 ≤ T94.heap.size := Nat.le_trans Z78 K94q.1
    have st103 : ∀ tg, Steps p.tables e below (T94.setTop (mkF m 96 #[.val (.int p1), .val (.int p2), .val (.int p3), .val (.int p4), .val (.int p5), .val (.int v3), .val (.int v7), .val (.ref b10), .val (.ref b20), .val (.ref b26), .val (.ref b32), .val (.ref b78), .unset, .unset] [])) tg → Steps p.tables e below (T94.setTop (mkF m 94 #[.val (.int p1), .val (.int p2), .val (.int p3), .val (.int p4), .val (.int p5), .val (.int v3), .val (.int v7), .val (.ref b10), .val (.ref b20), .val (.ref b26), .val (.ref b32), .val .null, .unset, .unset] [(.ref b78)])) tg := by
      intro tg kt
      show Steps p.tables e below (T94.setTop (mkF m 94 #[.val (.int p1), .val (.int p2), .val (.int p3), .val (.int p4), .val (.int p5), .val (.int v3), .val (.int v7), .val (.ref b10), .val (.ref b20), .val (.ref b26), .val (.ref b32), .val .null, .unset, .unset] [(.ref b78)])) tg
      refine XS.astore X94.here hx rfl (hb hby at_94) rfl rfl (l' := #[.val (.int p1), .val (.int p2), .val (.int p3), .val (.int p4), .val (.int p5), .val (.int v3), .val (.int v7), .val (.ref b10), .val (.ref b20), .val (.ref b26), .val (.ref b32), .val (.ref b78), .unset, .unset]) rfl ?_
      exact kt
    obtain ⟨T104, h104, X104, e104, E104, A104, D104, -, st104⟩ := newO X94 hx hZ hown (hw _ (List.mem_of_getElem? (i := 66) rfl)) (hw _ (List.mem_of_getElem? (i := 67) rfl)) (hw _ (List.mem_of_getElem? (i := 68) rfl)) rfl (g := (mkF m 96 #[.val (.int p1), .val (.int p2), .val (.int p3), .val (.int p4), .val (.int p5), .val (.int v3), .val (.int v7), .val (.ref b10), .val (.ref b20), .val (.ref b26), .val (.ref b32), .val (.ref b78), .unset, .unset] [])) rfl (hb hby at_96) (by decide) (by decide)
    obtain ⟨b104, gz104⟩ : ∃ z, z = T94.heap.size := ⟨_, rfl⟩
    rw [← gz104] at A104 D104 st104
    have ne_b10_b104 : b10 ≠ b104 := Nat.ne_of_lt (Nat.lt_of_lt_of_le G96.lt (Nat.le_of_eq gz104.symm))
    have ne_b32_b104 : b32 ≠ b104 := Nat.ne_of_lt (Nat.lt_of_lt_of_le G99.lt (Nat.le_of_eq gz104.symm))
    have ne_b78_b104 : b78 ≠ b104 := Nat.ne_of_lt (Nat.lt_of_lt_of_le E94q.lt (Nat.le_of_eq gz104.symm))
    have g_b104 : n0 ≤ b104 := Nat.le_trans Z94 (Nat.le_of_eq gz104.symm)
    have sz_b104 : h0.size ≤ b104 := Nat.le_trans K94.1 (Nat.le_of_eq gz104.symm)
    have G105 : Old Z n0 h104 := G95.ext E104
    have G106 : Exa Z h104 b10 "com/example/oriflamme/oriflamme/language/Position" := G96.ext E104
    have G107 : Fld Z h104 b10 "com/example/oriflamme/oriflamme/language/Position" "line" "I" (.int p2) := G97.ext E104
    have G108 : Fld Z h104 b10 "com/example/oriflamme/oriflamme/language/Position" "column" "I" (.int p3) := G98.ext E104
    have G109 : Exa Z h104 b32 "java/util/ArrayList" := G99.ext E104
    have G110 : Fld Z h104 b32 "java/util/AbstractList" "modCount" "I" (.int (0 : Int32)) := G100.ext E104
    have G111 : Fld Z h104 b32 "java/util/ArrayList" "elementData" "[Ljava/lang/Object;" (.ref wd) := G101.ext E104
    have G112 : Exa Z h104 b78 "com/example/oriflamme/oriflamme/language/Type" := E94q.ext E104
    have G113 : Fld Z h104 b78 "com/example/oriflamme/oriflamme/language/Type" "at" "Lcom/example/oriflamme/oriflamme/language/Position;" (.ref b10) := F94q0.ext E104
    have G114 : Fld Z h104 b78 "com/example/oriflamme/oriflamme/language/Type" "name" "Ljava/lang/String;" (.ref b26) := F94q1.ext E104
    have G115 : Fld Z h104 b78 "com/example/oriflamme/oriflamme/language/Type" "arguments" "Ljava/util/List;" (.ref b32) := F94q2.ext E104
    have G116 : Fld Z h104 b78 "com/example/oriflamme/oriflamme/language/Type" "optional" "Z" (.int (nar .boolean v7)) := F94q3.ext E104
    have G117 : Fld Z h104 b78 "com/example/oriflamme/oriflamme/language/Type" "base" "Lcom/example/oriflamme/oriflamme/language/Type$Base;" .null := F94q4.ext E104
    have G118 : Fld Z h104 b78 "com/example/oriflamme/oriflamme/language/Type" "record" "Lcom/example/oriflamme/oriflamme/language/RecordType;" .null := F94q5.ext E104
    have K104 : Keep h0 h104 [] := K94.ext E104
    have Z104 : n0 ≤ h104.size := Nat.le_trans Z94 E104.1
    have G119 : Exa Z h104 b104 "com/example/oriflamme/oriflamme/language/Expr$Param" := A104
    have G120 : Fld Z h104 b104 "com/example/oriflamme/oriflamme/language/Expr$Param" "at" "Lcom/example/oriflamme/oriflamme/language/Position;" .null := D104 (Or.inr (hw _ (List.mem_of_getElem? (i := 74) rfl))) (ty := (.object "com/example/oriflamme/oriflamme/language/Position")) (by decide)
    have G121 : Fld Z h104 b104 "com/example/oriflamme/oriflamme/language/Expr$Param" "name" "Ljava/lang/String;" .null := D104 (Or.inr (hw _ (List.mem_of_getElem? (i := 76) rfl))) (ty := (.object "java/lang/String")) (by decide)
    have G122 : Fld Z h104 b104 "com/example/oriflamme/oriflamme/language/Expr$Param" "type" "Lcom/example/oriflamme/oriflamme/language/Type;" .null := D104 (Or.inr (hw _ (List.mem_of_getElem? (i := 78) rfl))) (ty := (.object "com/example/oriflamme/oriflamme/language/Type")) (by decide)
    have st123 : ∀ tg, Steps p.tables e below (T104.setTop (mkF m 106 #[.val (.int p1), .val (.int p2), .val (.int p3), .val (.int p4), .val (.int p5), .val (.int v3), .val (.int v7), .val (.ref b10), .val (.ref b20), .val (.ref b26), .val (.ref b32), .val (.ref b78), .unset, .unset] [(.ref b78), (.ref b20), (.ref b10), (.ref b104), (.ref b104)])) tg → Steps p.tables e below (T104.setTop (mkF m 99 #[.val (.int p1), .val (.int p2), .val (.int p3), .val (.int p4), .val (.int p5), .val (.int v3), .val (.int v7), .val (.ref b10), .val (.ref b20), .val (.ref b26), .val (.ref b32), .val (.ref b78), .unset, .unset] [(.ref b104)])) tg := by
      intro tg kt
      show Steps p.tables e below (T104.setTop (mkF m 99 #[.val (.int p1), .val (.int p2), .val (.int p3), .val (.int p4), .val (.int p5), .val (.int v3), .val (.int v7), .val (.ref b10), .val (.ref b20), .val (.ref b26), .val (.ref b32), .val (.ref b78), .unset, .unset] [(.ref b104)])) tg
      refine XS.dup X104.here hx rfl (hb hby at_99) rfl rfl ?_
      show Steps p.tables e below (T104.setTop (mkF m 100 #[.val (.int p1), .val (.int p2), .val (.int p3), .val (.int p4), .val (.int p5), .val (.int v3), .val (.int v7), .val (.ref b10), .val (.ref b20), .val (.ref b26), .val (.ref b32), .val (.ref b78), .unset, .unset] [(.ref b104), (.ref b104)])) tg
      refine XS.aload X104.here hx rfl (hb hby at_100) rfl rfl ?_
      show Steps p.tables e below (T104.setTop (mkF m 102 #[.val (.int p1), .val (.int p2), .val (.int p3), .val (.int p4), .val (.int p5), .val (.int v3), .val (.int v7), .val (.ref b10), .val (.ref b20), .val (.ref b26), .val (.ref b32), .val (.ref b78), .unset, .unset] [(.ref b10), (.ref b104), (.ref b104)])) tg
      refine XS.aload X104.here hx rfl (hb hby at_102) rfl rfl ?_
      show Steps p.tables e below (T104.setTop (mkF m 104 #[.val (.int p1), .val (.int p2), .val (.int p3), .val (.int p4), .val (.int p5), .val (.int v3), .val (.int v7), .val (.ref b10), .val (.ref b20), .val (.ref b26), .val (.ref b32), .val (.ref b78), .unset, .unset] [(.ref b20), (.ref b10), (.ref b104), (.ref b104)])) tg
      refine XS.aload X104.here hx rfl (hb hby at_104) rfl rfl ?_
      exact kt
    obtain ⟨_, _, ⟨T124, L124, k124, n124⟩, -, X124, ⟨Lc124, hQ124, l124, y124, z124⟩, st124⟩ := X104.specialBack hx (y := (⟨"com/example/oriflamme/oriflamme/language/Expr$Param", "<init>", "(Lcom/example/oriflamme/oriflamme/language/Position;Ljava/lang/String;Lcom/example/oriflamme/oriflamme/language/Type;)V"⟩ : MethodName)) rfl hown (mvT hZ (hw _ (List.mem_of_getElem? (i := 69) rfl))) (mvT hZ (hw _ (List.mem_of_getElem? (i := 70) rfl))) (mvT hZ (hw _ (List.mem_of_getElem? (i := 71) rfl))) (by decide) (backOf (W := 1) (rm11 l Z a0 hw [] b104 b10 b20 b78 h104 n0 Z104 G120 G121 G122 G119 g_b104) hZ (hw _ (List.mem_of_getElem? (i := 71) rfl)) (hw _ (List.mem_of_getElem? (i := 68) rfl)) (by decide) (by decide)) (g := (mkF m 106 #[.val (.int p1), .val (.int p2), .val (.int p3), .val (.int p4), .val (.int p5), .val (.int v3), .val (.int v7), .val (.ref b10), .val (.ref b20), .val (.ref b26), .val (.ref b32), .val (.ref b78), .unset, .unset] [(.ref b78), (.ref b20), (.ref b10), (.ref b104), (.ref b104)])) rfl (by rw [hml]; rfl) (Steps.refl _) (a := b104) (argsL := [(.ref b10), (.ref b20), (.ref b78)]) (rest := [(.ref b104)]) (lenOf pd_7 rfl) rfl (by show 2 * 0 + _ ≤ _; exact Nat.le_of_eq rfl) (hb hby at_106) (fun _ _ => ⟨rfl, e104, (by decide : 8 + 0 ≤ _), (by decide : 24 + 0 ≤ _)⟩)
    dsimp only [Pt.U, Pt.locs, Pt.cells, Pt.slots] at X124 l124 y124 z124 st124 hQ124
    subst l124 y124 z124
    obtain ⟨rfl, N124q, K124q, E124q, F124q0, F124q1, F124q2⟩ := hQ124
    have N124 := Fr.app N94 N124q
    have G125 : Old Z n0 T124.heap := G105.keep K124q (allS g_b104 (all0))
    have G126 : Exa Z T124.heap b10 "com/example/oriflamme/oriflamme/language/Position" := G106.keep K124q
    have G127 : Fld Z T124.heap b10 "com/example/oriflamme/oriflamme/language/Position" "line" "I" (.int p2) := G107.keep K124q (ninS ne_b10_b104 (nin0))
    have G128 : Fld Z T124.heap b10 "com/example/oriflamme/oriflamme/language/Position" "column" "I" (.int p3) := G108.keep K124q (ninS ne_b10_b104 (nin0))
    have G129 : Exa Z T124.heap b32 "java/util/ArrayList" := G109.keep K124q
    have G130 : Fld Z T124.heap b32 "java/util/AbstractList" "modCount" "I" (.int (0 : Int32)) := G110.keep K124q (ninS ne_b32_b104 (nin0))
    have G131 : Fld Z T124.heap b32 "java/util/ArrayList" "elementData" "[Ljava/lang/Object;" (.ref wd) := G111.keep K124q (ninS ne_b32_b104 (nin0))
    have G132 : Exa Z T124.heap b78 "com/example/oriflamme/oriflamme/language/Type" := G112.keep K124q
    have G133 : Fld Z T124.heap b78 "com/example/oriflamme/oriflamme/language/Type" "at" "Lcom/example/oriflamme/oriflamme/language/Position;" (.ref b10) := G113.keep K124q (ninS ne_b78_b104 (nin0))
    have G134 : Fld Z T124.heap b78 "com/example/oriflamme/oriflamme/language/Type" "name" "Ljava/lang/String;" (.ref b26) := G114.keep K124q (ninS ne_b78_b104 (nin0))
    have G135 : Fld Z T124.heap b78 "com/example/oriflamme/oriflamme/language/Type" "arguments" "Ljava/util/List;" (.ref b32) := G115.keep K124q (ninS ne_b78_b104 (nin0))
    have G136 : Fld Z T124.heap b78 "com/example/oriflamme/oriflamme/language/Type" "optional" "Z" (.int (nar .boolean v7)) := G116.keep K124q (ninS ne_b78_b104 (nin0))
    have G137 : Fld Z T124.heap b78 "com/example/oriflamme/oriflamme/language/Type" "base" "Lcom/example/oriflamme/oriflamme/language/Type$Base;" .null := G117.keep K124q (ninS ne_b78_b104 (nin0))
    have G138 : Fld Z T124.heap b78 "com/example/oriflamme/oriflamme/language/Type" "record" "Lcom/example/oriflamme/oriflamme/language/RecordType;" .null := G118.keep K124q (ninS ne_b78_b104 (nin0))
    have G139 : Exa Z T124.heap b104 "com/example/oriflamme/oriflamme/language/Expr$Param" := G119.keep K124q
    have K124 : Keep h0 T124.heap [] := K104.trans K124q (allS (Or.inr sz_b104) all0)
    have Z124 : n0 ≤ T124.heap.size := Nat.le_trans Z104 K124q.1
    have st141 : ∀ tg, Steps p.tables e below (T124.setTop (mkF m 124 #[.val (.int p1), .val (.int p2), .val (.int p3), .val (.int p4), .val (.int p5), .val (.int v3), .val (.int v7), .val (.ref b10), .val (.ref b20), .val (.ref b26), .val (.ref b32), .val (.ref b78), .val (.ref b104), .unset] [(.int v7)])) tg → Steps p.tables e below (T124.setTop (mkF m 109 #[.val (.int p1), .val (.int p2), .val (.int p3), .val (.int p4), .val (.int p5), .val (.int v3), .val (.int v7), .val (.ref b10), .val (.ref b20), .val (.ref b26), .val (.ref b32), .val (.ref b78), .unset, .unset] [(.ref b104)])) tg := by
      intro tg kt
      show Steps p.tables e below (T124.setTop (mkF m 109 #[.val (.int p1), .val (.int p2), .val (.int p3), .val (.int p4), .val (.int p5), .val (.int v3), .val (.int v7), .val (.ref b10), .val (.ref b20), .val (.ref b26), .val (.ref b32), .val (.ref b78), .unset, .unset] [(.ref b104)])) tg
      refine XS.astore X124.here hx rfl (hb hby at_109) rfl rfl (l' := #[.val (.int p1), .val (.int p2), .val (.int p3), .val (.int p4), .val (.int p5), .val (.int v3), .val (.int v7), .val (.ref b10), .val (.ref b20), .val (.ref b26), .val (.ref b32), .val (.ref b78), .val (.ref b104), .unset]) rfl ?_
      show Steps p.tables e below (T124.setTop (mkF m 111 #[.val (.int p1), .val (.int p2), .val (.int p3), .val (.int p4), .val (.int p5), .val (.int v3), .val (.int v7), .val (.ref b10), .val (.ref b20), .val (.ref b26), .val (.ref b32), .val (.ref b78), .val (.ref b104), .unset] [])) tg
      refine XS.iload X124.here hx rfl (hb hby at_111) rfl ?_
      show Steps p.tables e below (T124.setTop (mkF m 113 #[.val (.int p1), .val (.int p2), .val (.int p3), .val (.int p4), .val (.int p5), .val (.int v3), .val (.int v7), .val (.ref b10), .val (.ref b20), .val (.ref b26), .val (.ref b32), .val (.ref b78), .val (.ref b104), .unset] [(.int v3)])) tg
      refine XS.ifYes X124.here hx rfl (pc0 := 113) (pc' := 122) rfl (hb hby at_113) rfl (XT.i0_ne_t hc74_47) (by decide) (by decide) ?_
      show Steps p.tables e below (T124.setTop (mkF m 122 #[.val (.int p1), .val (.int p2), .val (.int p3), .val (.int p4), .val (.int p5), .val (.int v3), .val (.int v7), .val (.ref b10), .val (.ref b20), .val (.ref b26), .val (.ref b32), .val (.ref b78), .val (.ref b104), .unset] [])) tg
      refine XS.iload X124.here hx rfl (hb hby at_122) rfl ?_
      exact kt
    by_cases hc124_140 : v7 = 0
    · -- pc 124: v7 = 0
      have st142 : ∀ tg, Steps p.tables e below (T124.setTop (mkF m 138 #[.val (.int p1), .val (.int p2), .val (.int p3), .val (.int p4), .val (.int p5), .val (.int v3), .val (.int v7), .val (.ref b10), .val (.ref b20), .val (.ref b26), .val (.ref b32), .val (.ref b78), .val (.ref b104), .val (.int (1 : Int32))] [(.ref b104)])) tg → Steps p.tables e below (T124.setTop (mkF m 124 #[.val (.int p1), .val (.int p2), .val (.int p3), .val (.int p4), .val (.int p5), .val (.int v3), .val (.int v7), .val (.ref b10), .val (.ref b20), .val (.ref b26), .val (.ref b32), .val (.ref b78), .val (.ref b104), .unset] [(.int v7)])) tg := by
        intro tg kt
        show Steps p.tables e below (T124.setTop (mkF m 124 #[.val (.int p1), .val (.int p2), .val (.int p3), .val (.int p4), .val (.int p5), .val (.int v3), .val (.int v7), .val (.ref b10), .val (.ref b20), .val (.ref b26), .val (.ref b32), .val (.ref b78), .val (.ref b104), .unset] [(.int v7)])) tg
        refine XS.ifYes X124.here hx rfl (pc0 := 124) (pc' := 133) rfl (hb hby at_124) rfl (XT.i0_eq_t hc124_140) (by decide) (by decide) ?_
        show Steps p.tables e below (T124.setTop (mkF m 133 #[.val (.int p1), .val (.int p2), .val (.int p3), .val (.int p4), .val (.int p5), .val (.int v3), .val (.int v7), .val (.ref b10), .val (.ref b20), .val (.ref b26), .val (.ref b32), .val (.ref b78), .val (.ref b104), .unset] [])) tg
        refine XS.iconst X124.here hx rfl (hb hby at_133) ?_
        show Steps p.tables e below (T124.setTop (mkF m 134 #[.val (.int p1), .val (.int p2), .val (.int p3), .val (.int p4), .val (.int p5), .val (.int v3), .val (.int v7), .val (.ref b10), .val (.ref b20), .val (.ref b26), .val (.ref b32), .val (.ref b78), .val (.ref b104), .unset] [(.int (1 : Int32))])) tg
        refine XS.istore X124.here hx rfl (hb hby at_134) rfl (l' := #[.val (.int p1), .val (.int p2), .val (.int p3), .val (.int p4), .val (.int p5), .val (.int v3), .val (.int v7), .val (.ref b10), .val (.ref b20), .val (.ref b26), .val (.ref b32), .val (.ref b78), .val (.ref b104), .val (.int (1 : Int32))]) rfl ?_
        show Steps p.tables e below (T124.setTop (mkF m 136 #[.val (.int p1), .val (.int p2), .val (.int p3), .val (.int p4), .val (.int p5), .val (.int v3), .val (.int v7), .val (.ref b10), .val (.ref b20), .val (.ref b26), .val (.ref b32), .val (.ref b78), .val (.ref b104), .val (.int (1 : Int32))] [])) tg
        refine XS.aload X124.here hx rfl (hb hby at_136) rfl rfl ?_
        exact kt
      obtain ⟨cq143, kq143, q143a, q143b, q143c⟩ := isOf hZ rfl E124q
      obtain ⟨_, _, ⟨T143, L143, k143, n143⟩, -, X143, ⟨Lc143, hQ143, l143, y143, z143⟩, st143⟩ := X124.virtualBack hx (y := (⟨"com/example/oriflamme/oriflamme/language/Expr$Param", "isRequired", "()Z"⟩ : MethodName)) (z := (⟨"com/example/oriflamme/oriflamme/language/Expr$Param", "isRequired", "()Z"⟩ : MethodName)) hown (mvT hZ (hw _ (List.mem_of_getElem? (i := 79) rfl))) (mvT hZ (hw _ (List.mem_of_getElem? (i := 80) rfl))) (notFace_of_selects (args := #[]) (mvT hZ (hw _ (List.mem_of_getElem? (i := 82) rfl)))) (mvT hZ (hw _ (List.mem_of_getElem? (i := 82) rfl))) (mvT hZ (hw _ (List.mem_of_getElem? (i := 81) rfl))) (by decide) (backOf (W := 0) (rm12 l Z a0 hw [] b104 b78 (nar .boolean v7) T124.heap n0 Z124 F124q2 G132 G136) hZ (hw _ (List.mem_of_getElem? (i := 83) rfl)) (hw _ (List.mem_of_getElem? (i := 68) rfl)) (by decide) (by decide)) q143a q143c (g := (mkF m 138 #[.val (.int p1), .val (.int p2), .val (.int p3), .val (.int p4), .val (.int p5), .val (.int v3), .val (.int v7), .val (.ref b10), .val (.ref b20), .val (.ref b26), .val (.ref b32), .val (.ref b78), .val (.ref b104), .val (.int (1 : Int32))] [(.ref b104)])) rfl (by rw [hml]; rfl) (Steps.refl _) (argsL := []) (rest := []) (lenOf pd_4 rfl) rfl (by show 2 * 0 + _ ≤ _; exact Nat.le_of_eq rfl) (hb hby at_138) (fun _ _ => ⟨rfl, rfl, (by decide : 8 + 0 ≤ _), (by decide : 24 + 0 ≤ _)⟩)
      dsimp only [Pt.U, Pt.locs, Pt.cells, Pt.slots] at X143 l143 y143 z143 st143 hQ143
      subst l143 y143 z143
      obtain ⟨rfl, N143q, e143⟩ := hQ143
      have N143 := Fr.app N124 N143q
      obtain ⟨r143, hr143⟩ : ∃ z, z = rv12 b104 b78 (nar .boolean v7) := ⟨_, rfl⟩
      rw [← hr143] at st143
      have st145 : ∀ tg, Steps p.tables e below (T143.setTop (mkF m 143 #[.val (.int p1), .val (.int p2), .val (.int p3), .val (.int p4), .val (.int p5), .val (.int v3), .val (.int v7), .val (.ref b10), .val (.ref b20), .val (.ref b26), .val (.ref b32), .val (.ref b78), .val (.ref b104), .val (.int (1 : Int32))] [(.int (1 : Int32)), (.int r143)])) tg → Steps p.tables e below (T143.setTop (mkF m 141 #[.val (.int p1), .val (.int p2), .val (.int p3), .val (.int p4), .val (.int p5), .val (.int v3), .val (.int v7), .val (.ref b10), .val (.ref b20), .val (.ref b26), .val (.ref b32), .val (.ref b78), .val (.ref b104), .val (.int (1 : Int32))] [(.int r143)])) tg := by
        intro tg kt
        show Steps p.tables e below (T143.setTop (mkF m 141 #[.val (.int p1), .val (.int p2), .val (.int p3), .val (.int p4), .val (.int p5), .val (.int v3), .val (.int v7), .val (.ref b10), .val (.ref b20), .val (.ref b26), .val (.ref b32), .val (.ref b78), .val (.ref b104), .val (.int (1 : Int32))] [(.int r143)])) tg
        refine XS.iload X143.here hx rfl (hb hby at_141) rfl ?_
        exact kt
      have hf144 : r143 = (1 : Int32) := by rw [hr143, hc124_140]; exact own_opt0 _ _
      have st146 : ∀ tg, Steps p.tables e below (T143.setTop (mkF m 151 #[.val (.int p1), .val (.int p2), .val (.int p3), .val (.int p4), .val (.int p5), .val (.int v3), .val (.int v7), .val (.ref b10), .val (.ref b20), .val (.ref b26), .val (.ref b32), .val (.ref b78), .val (.ref b104), .val (.int (1 : Int32))] [(.int (1 : Int32))])) tg → Steps p.tables e below (T143.setTop (mkF m 143 #[.val (.int p1), .val (.int p2), .val (.int p3), .val (.int p4), .val (.int p5), .val (.int v3), .val (.int v7), .val (.ref b10), .val (.ref b20), .val (.ref b26), .val (.ref b32), .val (.ref b78), .val (.ref b104), .val (.int (1 : Int32))] [(.int (1 : Int32)), (.int r143)])) tg := by
        intro tg kt
        show Steps p.tables e below (T143.setTop (mkF m 143 #[.val (.int p1), .val (.int p2), .val (.int p3), .val (.int p4), .val (.int p5), .val (.int v3), .val (.int v7), .val (.ref b10), .val (.ref b20), .val (.ref b26), .val (.ref b32), .val (.ref b78), .val (.ref b104), .val (.int (1 : Int32))] [(.int (1 : Int32)), (.int r143)])) tg
        refine XS.icmpNo X143.here hx rfl (hb hby at_143) rfl (XT.ii_ne_f hf144) ?_
        show Steps p.tables e below (T143.setTop (mkF m 146 #[.val (.int p1), .val (.int p2), .val (.int p3), .val (.int p4), .val (.int p5), .val (.int v3), .val (.int v7), .val (.ref b10), .val (.ref b20), .val (.ref b26), .val (.ref b32), .val (.ref b78), .val (.ref b104), .val (.int (1 : Int32))] [])) tg
        refine XS.iconst X143.here hx rfl (hb hby at_146) ?_
        show Steps p.tables e below (T143.setTop (mkF m 147 #[.val (.int p1), .val (.int p2), .val (.int p3), .val (.int p4), .val (.int p5), .val (.int v3), .val (.int v7), .val (.ref b10), .val (.ref b20), .val (.ref b26), .val (.ref b32), .val (.ref b78), .val (.ref b104), .val (.int (1 : Int32))] [(.int (1 : Int32))])) tg
        refine XS.goto X143.here hx rfl (pc0 := 147) (pc' := 151) rfl (hb hby at_147) (by decide) (by decide) ?_
        exact kt
      obtain ⟨fs, hr, hrun, hended, hW, hsame⟩ := X143.leave (v := some (.int (1 : Int32))) (fun h => by rw [Bd.returns] at h; cases h)
      refine ⟨_, _, pre0 _ ?_, hrun, hended, _, _, rfl, ?_, ⟨_, rfl⟩, hW, hsame.mono (by decide) (by decide)⟩
      · refine st2 _ ?_
        refine st4 _ ?_
        refine st6 _ ?_
        refine st8 _ ?_
        refine st9 _ ?_
        show Steps p.tables e below (s₁.setTop (mkF m 26 #[.val (.int p1), .val (.int p2), .val (.int p3), .val (.int p4), .val (.int p5), .val (.int v3), .val (.int v7), .unset, .unset, .unset, .unset, .unset, .unset, .unset] [])) _
        refine st10 _ ?_
        refine st15 _ ?_
        show Steps p.tables e below (T10.setTop (mkF m 32 #[.val (.int p1), .val (.int p2), .val (.int p3), .val (.int p4), .val (.int p5), .val (.int v3), .val (.int v7), .unset, .unset, .unset, .unset, .unset, .unset, .unset] [(.int p3), (.int p2), (.ref b10), (.ref b10)])) _
        refine st16.trans ?_
        refine st19 _ ?_
        show Steps p.tables e below (T16.setTop (mkF m 43 #[.val (.int p1), .val (.int p2), .val (.int p3), .val (.int p4), .val (.int p5), .val (.int v3), .val (.int v7), .val (.ref b10), .unset, .unset, .unset, .unset, .unset, .unset] [(.int ((p4 &&& (255 : Int32)).toUInt32.toUInt16.toUInt32.toInt32))])) _
        refine st20 _ ?_
        refine st25 _ ?_
        show Steps p.tables e below (T20.setTop (mkF m 55 #[.val (.int p1), .val (.int p2), .val (.int p3), .val (.int p4), .val (.int p5), .val (.int v3), .val (.int v7), .val (.ref b10), .val (.ref b20), .unset, .unset, .unset, .unset, .unset] [(.int ((p5 &&& (255 : Int32)).toUInt32.toUInt16.toUInt32.toInt32))])) _
        refine st26 _ ?_
        refine st31 _ ?_
        show Steps p.tables e below (T26.setTop (mkF m 60 #[.val (.int p1), .val (.int p2), .val (.int p3), .val (.int p4), .val (.int p5), .val (.int v3), .val (.int v7), .val (.ref b10), .val (.ref b20), .val (.ref b26), .unset, .unset, .unset, .unset] [])) _
        refine st32 _ ?_
        refine st40 _ ?_
        show Steps p.tables e below (T32.setTop (mkF m 64 #[.val (.int p1), .val (.int p2), .val (.int p3), .val (.int p4), .val (.int p5), .val (.int v3), .val (.int v7), .val (.ref b10), .val (.ref b20), .val (.ref b26), .unset, .unset, .unset, .unset] [(.ref b32), (.ref b32)])) _
        refine st41.trans ?_
        refine st48 _ ?_
        refine st77 _ ?_
        show Steps p.tables e below (T41.setTop (mkF m 77 #[.val (.int p1), .val (.int p2), .val (.int p3), .val (.int p4), .val (.int p5), .val (.int v3), .val (.int v7), .val (.ref b10), .val (.ref b20), .val (.ref b26), .val (.ref b32), .val .null, .unset, .unset] [])) _
        refine st78 _ ?_
        refine st93 _ ?_
        show Steps p.tables e below (T78.setTop (mkF m 91 #[.val (.int p1), .val (.int p2), .val (.int p3), .val (.int p4), .val (.int p5), .val (.int v3), .val (.int v7), .val (.ref b10), .val (.ref b20), .val (.ref b26), .val (.ref b32), .val .null, .unset, .unset] [.null, .null, (.int v7), (.ref b32), (.ref b26), (.ref b10), (.ref b78), (.ref b78)])) _
        refine st94.trans ?_
        refine st103 _ ?_
        show Steps p.tables e below (T94.setTop (mkF m 96 #[.val (.int p1), .val (.int p2), .val (.int p3), .val (.int p4), .val (.int p5), .val (.int v3), .val (.int v7), .val (.ref b10), .val (.ref b20), .val (.ref b26), .val (.ref b32), .val (.ref b78), .unset, .unset] [])) _
        refine st104 _ ?_
        refine st123 _ ?_
        show Steps p.tables e below (T104.setTop (mkF m 106 #[.val (.int p1), .val (.int p2), .val (.int p3), .val (.int p4), .val (.int p5), .val (.int v3), .val (.int v7), .val (.ref b10), .val (.ref b20), .val (.ref b26), .val (.ref b32), .val (.ref b78), .unset, .unset] [(.ref b78), (.ref b20), (.ref b10), (.ref b104), (.ref b104)])) _
        refine st124.trans ?_
        refine st141 _ ?_
        refine st142 _ ?_
        show Steps p.tables e below (T124.setTop (mkF m 138 #[.val (.int p1), .val (.int p2), .val (.int p3), .val (.int p4), .val (.int p5), .val (.int v3), .val (.int v7), .val (.ref b10), .val (.ref b20), .val (.ref b26), .val (.ref b32), .val (.ref b78), .val (.ref b104), .val (.int (1 : Int32))] [(.ref b104)])) _
        refine st143.trans ?_
        refine st145 _ ?_
        refine st146 _ ?_
        show Steps p.tables e below (T143.setTop (mkF m 151 #[.val (.int p1), .val (.int p2), .val (.int p3), .val (.int p4), .val (.int p5), .val (.int v3), .val (.int v7), .val (.ref b10), .val (.ref b20), .val (.ref b26), .val (.ref b32), .val (.ref b78), .val (.ref b104), .val (.int (1 : Int32))] [(.int (1 : Int32))])) _
        exact retN X143 hx (t := .boolean) Bd.returns (by simp) (hb hby at_151) hr
      · show Q0 Z p1 p2 p3 p4 p5 wc wd h0 n0 _ T143.heap _
        rw [e143]
        exact ⟨rfl, N143⟩
    · -- pc 124: not v7 = 0
      have st147 : ∀ tg, Steps p.tables e below (T124.setTop (mkF m 138 #[.val (.int p1), .val (.int p2), .val (.int p3), .val (.int p4), .val (.int p5), .val (.int v3), .val (.int v7), .val (.ref b10), .val (.ref b20), .val (.ref b26), .val (.ref b32), .val (.ref b78), .val (.ref b104), .val (.int (0 : Int32))] [(.ref b104)])) tg → Steps p.tables e below (T124.setTop (mkF m 124 #[.val (.int p1), .val (.int p2), .val (.int p3), .val (.int p4), .val (.int p5), .val (.int v3), .val (.int v7), .val (.ref b10), .val (.ref b20), .val (.ref b26), .val (.ref b32), .val (.ref b78), .val (.ref b104), .unset] [(.int v7)])) tg := by
        intro tg kt
        show Steps p.tables e below (T124.setTop (mkF m 124 #[.val (.int p1), .val (.int p2), .val (.int p3), .val (.int p4), .val (.int p5), .val (.int v3), .val (.int v7), .val (.ref b10), .val (.ref b20), .val (.ref b26), .val (.ref b32), .val (.ref b78), .val (.ref b104), .unset] [(.int v7)])) tg
        refine XS.ifNo X124.here hx rfl (hb hby at_124) rfl (XT.i0_eq_f hc124_140) ?_
        show Steps p.tables e below (T124.setTop (mkF m 127 #[.val (.int p1), .val (.int p2), .val (.int p3), .val (.int p4), .val (.int p5), .val (.int v3), .val (.int v7), .val (.ref b10), .val (.ref b20), .val (.ref b26), .val (.ref b32), .val (.ref b78), .val (.ref b104), .unset] [])) tg
        refine XS.iconst X124.here hx rfl (hb hby at_127) ?_
        show Steps p.tables e below (T124.setTop (mkF m 128 #[.val (.int p1), .val (.int p2), .val (.int p3), .val (.int p4), .val (.int p5), .val (.int v3), .val (.int v7), .val (.ref b10), .val (.ref b20), .val (.ref b26), .val (.ref b32), .val (.ref b78), .val (.ref b104), .unset] [(.int (0 : Int32))])) tg
        refine XS.istore X124.here hx rfl (hb hby at_128) rfl (l' := #[.val (.int p1), .val (.int p2), .val (.int p3), .val (.int p4), .val (.int p5), .val (.int v3), .val (.int v7), .val (.ref b10), .val (.ref b20), .val (.ref b26), .val (.ref b32), .val (.ref b78), .val (.ref b104), .val (.int (0 : Int32))]) rfl ?_
        show Steps p.tables e below (T124.setTop (mkF m 130 #[.val (.int p1), .val (.int p2), .val (.int p3), .val (.int p4), .val (.int p5), .val (.int v3), .val (.int v7), .val (.ref b10), .val (.ref b20), .val (.ref b26), .val (.ref b32), .val (.ref b78), .val (.ref b104), .val (.int (0 : Int32))] [])) tg
        refine XS.goto X124.here hx rfl (pc0 := 130) (pc' := 136) rfl (hb hby at_130) (by decide) (by decide) ?_
        show Steps p.tables e below (T124.setTop (mkF m 136 #[.val (.int p1), .val (.int p2), .val (.int p3), .val (.int p4), .val (.int p5), .val (.int v3), .val (.int v7), .val (.ref b10), .val (.ref b20), .val (.ref b26), .val (.ref b32), .val (.ref b78), .val (.ref b104), .val (.int (0 : Int32))] [])) tg
        refine XS.aload X124.here hx rfl (hb hby at_136) rfl rfl ?_
        exact kt
      obtain ⟨cq148, kq148, q148a, q148b, q148c⟩ := isOf hZ rfl E124q
      obtain ⟨_, _, ⟨T148, L148, k148, n148⟩, -, X148, ⟨Lc148, hQ148, l148, y148, z148⟩, st148⟩ := X124.virtualBack hx (y := (⟨"com/example/oriflamme/oriflamme/language/Expr$Param", "isRequired", "()Z"⟩ : MethodName)) (z := (⟨"com/example/oriflamme/oriflamme/language/Expr$Param", "isRequired", "()Z"⟩ : MethodName)) hown (mvT hZ (hw _ (List.mem_of_getElem? (i := 79) rfl))) (mvT hZ (hw _ (List.mem_of_getElem? (i := 80) rfl))) (notFace_of_selects (args := #[]) (mvT hZ (hw _ (List.mem_of_getElem? (i := 82) rfl)))) (mvT hZ (hw _ (List.mem_of_getElem? (i := 82) rfl))) (mvT hZ (hw _ (List.mem_of_getElem? (i := 81) rfl))) (by decide) (backOf (W := 0) (rm12 l Z a0 hw [] b104 b78 (nar .boolean v7) T124.heap n0 Z124 F124q2 G132 G136) hZ (hw _ (List.mem_of_getElem? (i := 83) rfl)) (hw _ (List.mem_of_getElem? (i := 68) rfl)) (by decide) (by decide)) q148a q148c (g := (mkF m 138 #[.val (.int p1), .val (.int p2), .val (.int p3), .val (.int p4), .val (.int p5), .val (.int v3), .val (.int v7), .val (.ref b10), .val (.ref b20), .val (.ref b26), .val (.ref b32), .val (.ref b78), .val (.ref b104), .val (.int (0 : Int32))] [(.ref b104)])) rfl (by rw [hml]; rfl) (Steps.refl _) (argsL := []) (rest := []) (lenOf pd_4 rfl) rfl (by show 2 * 0 + _ ≤ _; exact Nat.le_of_eq rfl) (hb hby at_138) (fun _ _ => ⟨rfl, rfl, (by decide : 8 + 0 ≤ _), (by decide : 24 + 0 ≤ _)⟩)
      dsimp only [Pt.U, Pt.locs, Pt.cells, Pt.slots] at X148 l148 y148 z148 st148 hQ148
      subst l148 y148 z148
      obtain ⟨rfl, N148q, e148⟩ := hQ148
      have N148 := Fr.app N124 N148q
      obtain ⟨r148, hr148⟩ : ∃ z, z = rv12 b104 b78 (nar .boolean v7) := ⟨_, rfl⟩
      rw [← hr148] at st148
      have st150 : ∀ tg, Steps p.tables e below (T148.setTop (mkF m 143 #[.val (.int p1), .val (.int p2), .val (.int p3), .val (.int p4), .val (.int p5), .val (.int v3), .val (.int v7), .val (.ref b10), .val (.ref b20), .val (.ref b26), .val (.ref b32), .val (.ref b78), .val (.ref b104), .val (.int (0 : Int32))] [(.int (0 : Int32)), (.int r148)])) tg → Steps p.tables e below (T148.setTop (mkF m 141 #[.val (.int p1), .val (.int p2), .val (.int p3), .val (.int p4), .val (.int p5), .val (.int v3), .val (.int v7), .val (.ref b10), .val (.ref b20), .val (.ref b26), .val (.ref b32), .val (.ref b78), .val (.ref b104), .val (.int (0 : Int32))] [(.int r148)])) tg := by
        intro tg kt
        show Steps p.tables e below (T148.setTop (mkF m 141 #[.val (.int p1), .val (.int p2), .val (.int p3), .val (.int p4), .val (.int p5), .val (.int v3), .val (.int v7), .val (.ref b10), .val (.ref b20), .val (.ref b26), .val (.ref b32), .val (.ref b78), .val (.ref b104), .val (.int (0 : Int32))] [(.int r148)])) tg
        refine XS.iload X148.here hx rfl (hb hby at_141) rfl ?_
        exact kt
      have hf149 : r148 = (0 : Int32) := by rw [hr148, (own_01 hv7).resolve_left hc124_140]; exact own_opt1 _ _
      have st151 : ∀ tg, Steps p.tables e below (T148.setTop (mkF m 151 #[.val (.int p1), .val (.int p2), .val (.int p3), .val (.int p4), .val (.int p5), .val (.int v3), .val (.int v7), .val (.ref b10), .val (.ref b20), .val (.ref b26), .val (.ref b32), .val (.ref b78), .val (.ref b104), .val (.int (0 : Int32))] [(.int (1 : Int32))])) tg → Steps p.tables e below (T148.setTop (mkF m 143 #[.val (.int p1), .val (.int p2), .val (.int p3), .val (.int p4), .val (.int p5), .val (.int v3), .val (.int v7), .val (.ref b10), .val (.ref b20), .val (.ref b26), .val (.ref b32), .val (.ref b78), .val (.ref b104), .val (.int (0 : Int32))] [(.int (0 : Int32)), (.int r148)])) tg := by
        intro tg kt
        show Steps p.tables e below (T148.setTop (mkF m 143 #[.val (.int p1), .val (.int p2), .val (.int p3), .val (.int p4), .val (.int p5), .val (.int v3), .val (.int v7), .val (.ref b10), .val (.ref b20), .val (.ref b26), .val (.ref b32), .val (.ref b78), .val (.ref b104), .val (.int (0 : Int32))] [(.int (0 : Int32)), (.int r148)])) tg
        refine XS.icmpNo X148.here hx rfl (hb hby at_143) rfl (XT.ii_ne_f hf149) ?_
        show Steps p.tables e below (T148.setTop (mkF m 146 #[.val (.int p1), .val (.int p2), .val (.int p3), .val (.int p4), .val (.int p5), .val (.int v3), .val (.int v7), .val (.ref b10), .val (.ref b20), .val (.ref b26), .val (.ref b32), .val (.ref b78), .val (.ref b104), .val (.int (0 : Int32))] [])) tg
        refine XS.iconst X148.here hx rfl (hb hby at_146) ?_
        show Steps p.tables e below (T148.setTop (mkF m 147 #[.val (.int p1), .val (.int p2), .val (.int p3), .val (.int p4), .val (.int p5), .val (.int v3), .val (.int v7), .val (.ref b10), .val (.ref b20), .val (.ref b26), .val (.ref b32), .val (.ref b78), .val (.ref b104), .val (.int (0 : Int32))] [(.int (1 : Int32))])) tg
        refine XS.goto X148.here hx rfl (pc0 := 147) (pc' := 151) rfl (hb hby at_147) (by decide) (by decide) ?_
        exact kt
      obtain ⟨fs, hr, hrun, hended, hW, hsame⟩ := X148.leave (v := some (.int (1 : Int32))) (fun h => by rw [Bd.returns] at h; cases h)
      refine ⟨_, _, pre0 _ ?_, hrun, hended, _, _, rfl, ?_, ⟨_, rfl⟩, hW, hsame.mono (by decide) (by decide)⟩
      · refine st2 _ ?_
        refine st4 _ ?_
        refine st6 _ ?_
        refine st8 _ ?_
        refine st9 _ ?_
        show Steps p.tables e below (s₁.setTop (mkF m 26 #[.val (.int p1), .val (.int p2), .val (.int p3), .val (.int p4), .val (.int p5), .val (.int v3), .val (.int v7), .unset, .unset, .unset, .unset, .unset, .unset, .unset] [])) _
        refine st10 _ ?_
        refine st15 _ ?_
        show Steps p.tables e below (T10.setTop (mkF m 32 #[.val (.int p1), .val (.int p2), .val (.int p3), .val (.int p4), .val (.int p5), .val (.int v3), .val (.int v7), .unset, .unset, .unset, .unset, .unset, .unset, .unset] [(.int p3), (.int p2), (.ref b10), (.ref b10)])) _
        refine st16.trans ?_
        refine st19 _ ?_
        show Steps p.tables e below (T16.setTop (mkF m 43 #[.val (.int p1), .val (.int p2), .val (.int p3), .val (.int p4), .val (.int p5), .val (.int v3), .val (.int v7), .val (.ref b10), .unset, .unset, .unset, .unset, .unset, .unset] [(.int ((p4 &&& (255 : Int32)).toUInt32.toUInt16.toUInt32.toInt32))])) _
        refine st20 _ ?_
        refine st25 _ ?_
        show Steps p.tables e below (T20.setTop (mkF m 55 #[.val (.int p1), .val (.int p2), .val (.int p3), .val (.int p4), .val (.int p5), .val (.int v3), .val (.int v7), .val (.ref b10), .val (.ref b20), .unset, .unset, .unset, .unset, .unset] [(.int ((p5 &&& (255 : Int32)).toUInt32.toUInt16.toUInt32.toInt32))])) _
        refine st26 _ ?_
        refine st31 _ ?_
        show Steps p.tables e below (T26.setTop (mkF m 60 #[.val (.int p1), .val (.int p2), .val (.int p3), .val (.int p4), .val (.int p5), .val (.int v3), .val (.int v7), .val (.ref b10), .val (.ref b20), .val (.ref b26), .unset, .unset, .unset, .unset] [])) _
        refine st32 _ ?_
        refine st40 _ ?_
        show Steps p.tables e below (T32.setTop (mkF m 64 #[.val (.int p1), .val (.int p2), .val (.int p3), .val (.int p4), .val (.int p5), .val (.int v3), .val (.int v7), .val (.ref b10), .val (.ref b20), .val (.ref b26), .unset, .unset, .unset, .unset] [(.ref b32), (.ref b32)])) _
        refine st41.trans ?_
        refine st48 _ ?_
        refine st77 _ ?_
        show Steps p.tables e below (T41.setTop (mkF m 77 #[.val (.int p1), .val (.int p2), .val (.int p3), .val (.int p4), .val (.int p5), .val (.int v3), .val (.int v7), .val (.ref b10), .val (.ref b20), .val (.ref b26), .val (.ref b32), .val .null, .unset, .unset] [])) _
        refine st78 _ ?_
        refine st93 _ ?_
        show Steps p.tables e below (T78.setTop (mkF m 91 #[.val (.int p1), .val (.int p2), .val (.int p3), .val (.int p4), .val (.int p5), .val (.int v3), .val (.int v7), .val (.ref b10), .val (.ref b20), .val (.ref b26), .val (.ref b32), .val .null, .unset, .unset] [.null, .null, (.int v7), (.ref b32), (.ref b26), (.ref b10), (.ref b78), (.ref b78)])) _
        refine st94.trans ?_
        refine st103 _ ?_
        show Steps p.tables e below (T94.setTop (mkF m 96 #[.val (.int p1), .val (.int p2), .val (.int p3), .val (.int p4), .val (.int p5), .val (.int v3), .val (.int v7), .val (.ref b10), .val (.ref b20), .val (.ref b26), .val (.ref b32), .val (.ref b78), .unset, .unset] [])) _
        refine st104 _ ?_
        refine st123 _ ?_
        show Steps p.tables e below (T104.setTop (mkF m 106 #[.val (.int p1), .val (.int p2), .val (.int p3), .val (.int p4), .val (.int p5), .val (.int v3), .val (.int v7), .val (.ref b10), .val (.ref b20), .val (.ref b26), .val (.ref b32), .val (.ref b78), .unset, .unset] [(.ref b78), (.ref b20), (.ref b10), (.ref b104), (.ref b104)])) _
        refine st124.trans ?_
        refine st141 _ ?_
        refine st147 _ ?_
        show Steps p.tables e below (T124.setTop (mkF m 138 #[.val (.int p1), .val (.int p2), .val (.int p3), .val (.int p4), .val (.int p5), .val (.int v3), .val (.int v7), .val (.ref b10), .val (.ref b20), .val (.ref b26), .val (.ref b32), .val (.ref b78), .val (.ref b104), .val (.int (0 : Int32))] [(.ref b104)])) _
        refine st148.trans ?_
        refine st150 _ ?_
        refine st151 _ ?_
        show Steps p.tables e below (T148.setTop (mkF m 151 #[.val (.int p1), .val (.int p2), .val (.int p3), .val (.int p4), .val (.int p5), .val (.int v3), .val (.int v7), .val (.ref b10), .val (.ref b20), .val (.ref b26), .val (.ref b32), .val (.ref b78), .val (.ref b104), .val (.int (0 : Int32))] [(.int (1 : Int32))])) _
        exact retN X148 hx (t := .boolean) Bd.returns (by simp) (hb hby at_151) hr
      · show Q0 Z p1 p2 p3 p4 p5 wc wd h0 n0 _ T148.heap _
        rw [e148]
        exact ⟨rfl, N148⟩
set_option maxRecDepth 65536 in
set_option maxHeartbeats 40000000 in
theorem comes_1 {Post : Tables → Env → Array Value → State → Outcome → State → Prop} (hpost : ∀ tb e args s v u, (limb_1_1.after args s (.returned v) u = true ∧ limb_1_2.after args s (.returned v) u = true ∧ True) → FrameEnd s (.returned v) u (Jvm.fieldLocs frame_1_writes args s ++ Jvm.arrayLocs frame_1_arrays args s ++ Jvm.staticLocs frame_1_statics s) 24 128 → Post tb e args s (.returned v) u) :
    ArmFor flags0 classFile x code maxLocals ret World_1 tables_1 room_1 Calls_1 rest_1 Pre_1 Post := by
  intro l hfl _ _ p e ha hc hk s m args below hf hA hF happ hP
  obtain ⟨hcalls, hrest, hpre⟩ := hP
  obtain ⟨-, -, -, hnamed, -, -, -, hat⟩ := (Spec.applies_iff hf).mp happ
  obtain ⟨hg, hn⟩ := and_e (Cond.before_iff.mp (show (Jvm.Cond.and given_1 narrow_1).before args s = true from hpre))
  obtain ⟨k0, j0⟩ := and_e hg
  obtain ⟨k1, j1⟩ := and_e j0
  obtain ⟨k2, j2⟩ := and_e j1
  obtain ⟨k3, j3⟩ := and_e j2
  obtain ⟨k4, j4⟩ := and_e j3
  obtain ⟨w0, w1, w2, w3, w4, rfl⟩ : ∃ w0 w1 w2 w3 w4 : Value, args = #[w0, w1, w2, w3, w4] := by
    have hs : args.size = 5 := by simpa [Cond.value, given_1] using k0
    obtain ⟨L⟩ := args
    match L, hs with
    | [w0, w1, w2, w3, w4], _ => exact ⟨w0, w1, w2, w3, w4, rfl⟩
  have hw := fun d (hd : d ∈ tables_1) => atoms_spec (ws := Jvm.Cond.code x code maxLocals ret :: tables_1) hat d (List.mem_cons_of_mem _ hd)
  have hfit : Fit s := fun {y c} hc i hi => by
    obtain ⟨ha, rfl⟩ := Array.getElem?_eq_some_iff.mp hc
    have q := List.all_eq_true.mp ((Array.all_eq_true_iff_forall_mem.mp hF) _ (Array.getElem_mem ha)) i (List.mem_range.mpr hi)
    simpa [Array.getElem?_eq_getElem hi] using q
  obtain ⟨hsets, hown0⟩ := atoms_of _ (rest_1_c_eq ▸ (show rest_1_c.before _ s = true from hrest))
  have hr0 := Cond.before_iff.mp hown0
  obtain ⟨i0, ei0⟩ := is_v k1
  obtain rfl : w0 = (.int i0) := Option.some.inj ei0
  obtain ⟨i1, ei1⟩ := is_v k2
  obtain rfl : w1 = (.int i1) := Option.some.inj ei1
  obtain ⟨i2, ei2⟩ := is_v k3
  obtain rfl : w2 = (.int i2) := Option.some.inj ei2
  obtain ⟨i3, ei3⟩ := is_v k4
  obtain rfl : w3 = (.int i3) := Option.some.inj ei3
  obtain ⟨i4, ei4⟩ := is_v j4
  obtain rfl : w4 = (.int i4) := Option.some.inj ei4
  obtain ⟨wc, evc⟩ := is_v (Cond.before_iff.mp (hsets _ (List.mem_of_getElem? (i := 1) rfl)))
  have S_c := Sta.start evc (Or.inl (hsets _ (List.mem_of_getElem? (i := 0) rfl)))
  have hwc : ¬ (wc = 0) := own_nz evc (Cond.before_iff.mp (hsets _ (List.mem_of_getElem? (i := 2) rfl)))
  obtain ⟨wd, evd⟩ := exa_v (Cond.before_iff.mp (hsets _ (List.mem_of_getElem? (i := 16) rfl)))
  have S_d := Sta.start evd (Or.inr ⟨(hw _ (List.mem_of_getElem? (i := 44) rfl)), hsets _ (List.mem_of_getElem? (i := 11) rfl)⟩)
  obtain ⟨n, o, h1, h2, h3, _, L, rfl, ⟨rfl, N⟩, hq⟩ := rm0 l s _ hw tables_1 i0 i1 i2 i3 i4 wc wd s.heap s.heap.size (Nat.le_refl _) (Old.start s) S_c hwc S_d p e ha hc hk s m _ below hf ((Spec.applies_iff_loose hf).mp happ).1 ⟨rfl, State.Warmed39.refl s, rfl⟩ trivial
  refine ⟨n, _, h1, h2, h3, hpost _ _ _ _ _ _ ⟨Cond.after_iff.mpr rfl, Cond.after_iff.mpr (eq_i res_at (Term.int_eval (1)) rfl), trivial⟩ ⟨hq.1, hq.2.1, (hq.2.2.sift fun y hy => Or.inr (N y hy)).mono (by decide) (by decide)⟩⟩
theorem main_1_1 : Claimed_1_1 := comes_1 fun _ _ _ _ _ _ h hF => ⟨h.1, hF⟩
theorem main_1_2 : Claimed_1_2 := comes_1 fun _ _ _ _ _ _ h hF => ⟨h.2.1, hF⟩
end Jvm.Pilot.@@N@@
namespace Jvm.Pilot.@@N@@
open Jvm Jvm.ClassFile Sem Op Lib Jvm.Free Jvm.Stand Jvm.Pilot.@@N@@.Jvm.D
/-! MADE BY PROGRAM (witnessworld.py) out of the Statement's table words and the real class files: 29 classes; the members and pool entries that the words name. The judged class is class 1, her method 1. -/
namespace start1
open Jvm.ClassFile
def u (s : String) : CpInfo := .utf8 (stringToUtf16 s)
/-- a pool by its gaps: so many unusable entries, then the entry; so many at the end -/
def gap : Nat → List CpInfo → List CpInfo
  | 0, r => r
  | n + 1, r => .unusable :: gap n r
def poolList (es : List (Nat × CpInfo)) (last : Nat) : List CpInfo := es.foldr (fun e r => gap e.1 (e.2 :: r)) (gap last [])
def pool (es : List (Nat × CpInfo)) (last : Nat) : Array CpInfo := ⟨poolList es last⟩
def fileOf (pool : Array CpInfo) (this : Nat) (attrs : Array Attribute := #[]) (ms : Array MethodInfo := #[]) (fl : Nat := 33) (sup : Nat := 0) (ifs : Array Nat := #[]) (fds : Array FieldInfo := #[]) : ClassFile where
  minorVersion := 0
  majorVersion := 65
  constantPool := pool
  accessFlags := fl
  thisClass := this
  superClass := sup
  interfaces := ifs
  fields := fds
  methods := ms
  attributes := attrs
def plain (name : String) (sup : Option ClassId) : Class where
  name := name
  kind := .ordinary
  loader := none
  accessFlags := 33
  super := sup
  interfaces := #[]
  cf := none
  fields := #[]
  methods := #[]
  instanceTypes := #[]
  staticTypes := #[]
  resolved := #[]
  callSites := []
  init := .initialized
  statics := none
  mirror := none

def pool0 : Array CpInfo := pool [(5, u "<init>"), (0, u "()V"), (1, .class_ 10), (1, u "java/lang/Object")] 113

def k0c0 : Code := { maxStack := 0, maxLocals := 1, code := object_method_1_code, exceptionTable := #[], attributes := #[] }
def k0m0 : Method := { name := "<init>", desc := "()V", sig := { parameters := [], returnType := none }, accessFlags := 1, code := some k0c0 }
/-- java/lang/Object -/
def k0 : Class := { plain "java/lang/Object" none with
  accessFlags := 33
  interfaces := #[]
  cf := some (fileOf pool0 8 #[] #[{ accessFlags := 1, nameIndex := 5, descriptorIndex := 6, attributes := #[] }] 33 0 #[] #[])
  fields := #[]
  methods := #[k0m0]
  instanceTypes := #[]
  staticTypes := #[]
  resolved := Array.replicate 124 none
  statics := none }

def pool1 : Array CpInfo := pool [(2, .class_ 4), (0, .nameAndType 5 6), (0, u "java/lang/Object"), (0, u "<init>"), (0, u "()V"), (0, .class_ 8), (0, u "com/example/oriflamme/oriflamme/language/Position"), (0, .methodref 7 10), (0, .nameAndType 5 11), (0, u "(II)V"), (0, .methodref 13 14), (0, .class_ 15), (0, .nameAndType 16 17), (0, u "java/lang/String"), (0, u "valueOf"), (0, u "(C)Ljava/lang/String;"), (0, .class_ 19), (0, u "java/util/ArrayList"), (0, .methodref 18 3), (0, .class_ 22), (0, u "com/example/oriflamme/oriflamme/language/Type"), (0, .methodref 21 24), (0, .nameAndType 5 25), (0, u "(Lcom/example/oriflamme/oriflamme/language/Position;Ljava/lang/String;Ljava/util/List;ZLcom/example/oriflamme/oriflamme/language/Type$Base;Lcom/example/oriflamme/oriflamme/language/RecordType;)V"), (0, .class_ 27), (0, u "com/example/oriflamme/oriflamme/language/Expr$Param"), (0, .methodref 26 29), (0, .nameAndType 5 30), (0, u "(Lcom/example/oriflamme/oriflamme/language/Position;Ljava/lang/String;Lcom/example/oriflamme/oriflamme/language/Type;)V"), (0, .methodref 26 32), (0, .nameAndType 33 34), (0, u "isRequired"), (0, u "()Z"), (0, .class_ 36), (0, u "com/example/oriflamme/oriflamme/language/ParamIsRequiredPinLaw"), (2, u "law"), (0, u "(IIIII)Z")] 10

def k1m0 : Method := { name := "<init>", desc := "()V", sig := { parameters := [], returnType := none }, accessFlags := 2, code := none }
def k1c1 : Code := { maxStack := 8, maxLocals := 14, code := code, exceptionTable := #[], attributes := #[] }
def k1m1 : Method := { name := "law", desc := "(IIIII)Z", sig := { parameters := [.int, .int, .int, .int, .int], returnType := some .boolean }, accessFlags := 9, code := some k1c1 }
/-- com/example/oriflamme/oriflamme/language/ParamIsRequiredPinLaw -/
def k1 : Class := { plain "com/example/oriflamme/oriflamme/language/ParamIsRequiredPinLaw" (some 0) with
  accessFlags := 49
  interfaces := #[]
  cf := some (fileOf pool1 35 #[] #[{ accessFlags := 2, nameIndex := 5, descriptorIndex := 6, attributes := #[] }, { accessFlags := 9, nameIndex := 39, descriptorIndex := 40, attributes := #[] }] 49 2 #[] #[])
  fields := #[]
  methods := #[k1m0, k1m1]
  instanceTypes := #[]
  staticTypes := #[]
  resolved := Array.replicate 51 none
  statics := none }

def pool2 : Array CpInfo := pool [(1, .methodref 2 3), (0, .class_ 4), (0, .nameAndType 5 6), (0, u "java/lang/Object"), (0, u "<init>"), (0, u "()V"), (0, .class_ 8), (0, u "java/lang/Record")] 13

def k2c0 : Code := { maxStack := 1, maxLocals := 1, code := jdk_30_method_1_code, exceptionTable := #[], attributes := #[] }
def k2m0 : Method := { name := "<init>", desc := "()V", sig := { parameters := [], returnType := none }, accessFlags := 4, code := some k2c0 }
/-- java/lang/Record -/
def k2 : Class := { plain "java/lang/Record" (some 0) with
  accessFlags := 1057
  interfaces := #[]
  cf := some (fileOf pool2 7 #[] #[{ accessFlags := 4, nameIndex := 5, descriptorIndex := 6, attributes := #[] }] 1057 2 #[] #[])
  fields := #[]
  methods := #[k2m0]
  instanceTypes := #[]
  staticTypes := #[]
  resolved := Array.replicate 22 none
  statics := none }

def pool3 : Array CpInfo := pool [(1, .methodref 2 3), (0, .class_ 4), (0, .nameAndType 5 6), (0, u "java/lang/Record"), (0, u "<init>"), (0, u "()V"), (0, .fieldref 8 9), (0, .class_ 10), (0, .nameAndType 11 12), (0, u "com/example/oriflamme/oriflamme/language/Position"), (0, u "line"), (0, u "I"), (0, .fieldref 8 14), (0, .nameAndType 15 12), (0, u "column"), (12, u "(II)V")] 27

def k3c0 : Code := { maxStack := 2, maxLocals := 3, code := prog_33_method_1_code, exceptionTable := #[], attributes := #[] }
def k3m0 : Method := { name := "<init>", desc := "(II)V", sig := { parameters := [.int, .int], returnType := none }, accessFlags := 1, code := some k3c0 }
/-- com/example/oriflamme/oriflamme/language/Position -/
def k3 : Class := { plain "com/example/oriflamme/oriflamme/language/Position" (some 2) with
  accessFlags := 49
  interfaces := #[]
  cf := some (fileOf pool3 8 #[] #[{ accessFlags := 1, nameIndex := 5, descriptorIndex := 28, attributes := #[] }] 49 2 #[] #[{ accessFlags := 18, nameIndex := 11, descriptorIndex := 12, attributes := #[] }, { accessFlags := 18, nameIndex := 15, descriptorIndex := 12, attributes := #[] }])
  fields := #[{ name := "line", type := .int, accessFlags := 18, slot := 0, constantValue := 0 }, { name := "column", type := .int, accessFlags := 18, slot := 1, constantValue := 0 }]
  methods := #[k3m0]
  instanceTypes := #[.int, .int]
  staticTypes := #[]
  resolved := Array.replicate 56 none
  statics := none }

def pool4 : Array CpInfo := pool [(1, .class_ 2), (0, u "java/io/Serializable"), (0, .class_ 4), (0, u "java/lang/Object")] 2

/-- java/io/Serializable -/
def k4 : Class := { plain "java/io/Serializable" (some 0) with
  accessFlags := 1537
  interfaces := #[]
  cf := some (fileOf pool4 1 #[] #[] 1537 3 #[] #[])
  fields := #[]
  methods := #[]
  instanceTypes := #[]
  staticTypes := #[]
  resolved := Array.replicate 7 none
  statics := none }

def pool5 : Array CpInfo := pool [(1, .class_ 2), (0, u "java/lang/Comparable"), (0, .class_ 4), (0, u "java/lang/Object")] 7

/-- java/lang/Comparable -/
def k5 : Class := { plain "java/lang/Comparable" (some 0) with
  accessFlags := 1537
  interfaces := #[]
  cf := some (fileOf pool5 1 #[] #[] 1537 3 #[] #[])
  fields := #[]
  methods := #[]
  instanceTypes := #[]
  staticTypes := #[]
  resolved := Array.replicate 12 none
  statics := none }

def pool6 : Array CpInfo := pool [(2, .class_ 4), (1, u "java/lang/CharSequence"), (42, .class_ 48), (0, u "java/lang/CharSequence$1CodePointIterator"), (10, .class_ 60), (0, u "java/lang/CharSequence$1CharIterator"), (5, .class_ 67), (0, u "java/lang/Object")] 63

/-- java/lang/CharSequence -/
def k6 : Class := { plain "java/lang/CharSequence" (some 0) with
  accessFlags := 1537
  interfaces := #[]
  cf := some (fileOf pool6 2 #[.nestMembers #[47, 59]] #[] 1537 66 #[] #[])
  fields := #[]
  methods := #[]
  instanceTypes := #[]
  staticTypes := #[]
  resolved := Array.replicate 131 none
  statics := none }

def pool7 : Array CpInfo := pool [(1, .class_ 2), (0, u "java/lang/constant/Constable"), (0, .class_ 4), (0, u "java/lang/Object")] 6

/-- java/lang/constant/Constable -/
def k7 : Class := { plain "java/lang/constant/Constable" (some 0) with
  accessFlags := 1537
  interfaces := #[]
  cf := some (fileOf pool7 1 #[] #[] 1537 3 #[] #[])
  fields := #[]
  methods := #[]
  instanceTypes := #[]
  staticTypes := #[]
  resolved := Array.replicate 11 none
  statics := none }

def pool8 : Array CpInfo := pool [(1, .class_ 2), (0, u "java/lang/constant/ConstantDesc"), (0, .class_ 4), (0, u "java/lang/Object")] 32

/-- java/lang/constant/ConstantDesc -/
def k8 : Class := { plain "java/lang/constant/ConstantDesc" (some 0) with
  accessFlags := 1537
  interfaces := #[]
  cf := some (fileOf pool8 1 #[] #[] 1537 3 #[] #[])
  fields := #[]
  methods := #[]
  instanceTypes := #[]
  staticTypes := #[]
  resolved := Array.replicate 37 none
  statics := none }

def pool9 : Array CpInfo := pool [(1, .methodref 2 3), (0, .class_ 4), (0, .nameAndType 5 6), (0, u "java/lang/Object"), (0, u "<init>"), (0, u "()V"), (2, .fieldref 10 11), (0, .class_ 12), (0, .nameAndType 13 14), (0, u "java/lang/String"), (0, u "value"), (0, u "[B"), (0, .fieldref 10 16), (0, .nameAndType 17 18), (0, u "coder"), (0, u "B"), (2, u "hash"), (0, u "I"), (2, u "hashIsZero"), (0, u "Z"), (11, .fieldref 10 39), (0, .nameAndType 40 26), (0, u "COMPACT_STRINGS"), (12, u "toBytes"), (53, .class_ 109), (1, u "java/lang/StringLatin1"), (99, .methodref 10 210), (0, .nameAndType 5 211), (0, u "([BB)V"), (157, u "(C)Z"), (205, .class_ 576), (0, u "java/lang/CharSequence"), (22, u "CASE_INSENSITIVE_ORDER"), (0, u "Ljava/util/Comparator;"), (181, u "valueOf"), (0, u "(C)Ljava/lang/String;"), (231, .methodref 107 1016), (0, .nameAndType 1017 369), (0, u "canEncode"), (0, .methodref 107 1019), (0, .nameAndType 53 1020), (0, u "(C)[B"), (80, u "serialPersistentFields"), (0, u "[Ljava/io/ObjectStreamField;"), (0, .class_ 1104), (0, u "java/lang/String$CaseInsensitiveComparator"), (1, .class_ 1107), (0, u "java/io/Serializable"), (0, .class_ 1109), (0, u "java/lang/Comparable"), (0, .class_ 1111), (0, u "java/lang/constant/Constable"), (0, .class_ 1113), (0, u "java/lang/constant/ConstantDesc"), (2, u "serialVersionUID"), (0, u "J"), (3, u "REPL"), (0, u "C"), (2, u "LATIN1"), (1, u "UTF16")] 323

def k9m0 : Method := { name := "<init>", desc := "()V", sig := { parameters := [], returnType := none }, accessFlags := 1, code := none }
def k9c1 : Code := { maxStack := 4, maxLocals := 1, code := jdk_42_method_139_code, exceptionTable := #[], attributes := #[] }
def k9m1 : Method := { name := "valueOf", desc := "(C)Ljava/lang/String;", sig := { parameters := [.char], returnType := some (.object "java/lang/String") }, accessFlags := 9, code := some k9c1 }
def k9c2 : Code := { maxStack := 2, maxLocals := 3, code := jdk_42_method_151_code, exceptionTable := #[], attributes := #[] }
def k9m2 : Method := { name := "<init>", desc := "([BB)V", sig := { parameters := [(.array .byte), .byte], returnType := none }, accessFlags := 0, code := some k9c2 }
/-- java/lang/String -/
def k9 : Class := { plain "java/lang/String" (some 0) with
  accessFlags := 49
  interfaces := #[4, 5, 6, 7, 8]
  cf := some (fileOf pool9 10 #[.nestMembers #[1103]] #[{ accessFlags := 1, nameIndex := 5, descriptorIndex := 6, attributes := #[] }, { accessFlags := 9, nameIndex := 782, descriptorIndex := 783, attributes := #[] }, { accessFlags := 0, nameIndex := 5, descriptorIndex := 211, attributes := #[] }] 49 2 #[1106, 1108, 575, 1110, 1112] #[{ accessFlags := 18, nameIndex := 13, descriptorIndex := 14, attributes := #[] }, { accessFlags := 18, nameIndex := 17, descriptorIndex := 18, attributes := #[] }, { accessFlags := 2, nameIndex := 21, descriptorIndex := 22, attributes := #[] }, { accessFlags := 2, nameIndex := 25, descriptorIndex := 26, attributes := #[] }, { accessFlags := 26, nameIndex := 1116, descriptorIndex := 1117, attributes := #[] }, { accessFlags := 24, nameIndex := 40, descriptorIndex := 26, attributes := #[] }, { accessFlags := 26, nameIndex := 1101, descriptorIndex := 1102, attributes := #[] }, { accessFlags := 26, nameIndex := 1121, descriptorIndex := 1122, attributes := #[] }, { accessFlags := 25, nameIndex := 599, descriptorIndex := 600, attributes := #[] }, { accessFlags := 24, nameIndex := 1125, descriptorIndex := 18, attributes := #[] }, { accessFlags := 24, nameIndex := 1127, descriptorIndex := 18, attributes := #[] }])
  fields := #[{ name := "value", type := (.array .byte), accessFlags := 18, slot := 0, constantValue := 0 }, { name := "coder", type := .byte, accessFlags := 18, slot := 1, constantValue := 0 }, { name := "hash", type := .int, accessFlags := 2, slot := 2, constantValue := 0 }, { name := "hashIsZero", type := .boolean, accessFlags := 2, slot := 3, constantValue := 0 }, { name := "serialVersionUID", type := .long, accessFlags := 26, slot := 0, constantValue := 0 }, { name := "COMPACT_STRINGS", type := .boolean, accessFlags := 24, slot := 1, constantValue := 0 }, { name := "serialPersistentFields", type := (.array (.object "java/io/ObjectStreamField")), accessFlags := 26, slot := 2, constantValue := 0 }, { name := "REPL", type := .char, accessFlags := 26, slot := 3, constantValue := 0 }, { name := "CASE_INSENSITIVE_ORDER", type := (.object "java/util/Comparator"), accessFlags := 25, slot := 4, constantValue := 0 }, { name := "LATIN1", type := .byte, accessFlags := 24, slot := 5, constantValue := 0 }, { name := "UTF16", type := .byte, accessFlags := 24, slot := 6, constantValue := 0 }]
  methods := #[k9m0, k9m1, k9m2]
  instanceTypes := #[(.array .byte), .byte, .int, .boolean]
  staticTypes := #[.long, .boolean, (.array (.object "java/io/ObjectStreamField")), .char, (.object "java/util/Comparator"), .byte, .byte]
  resolved := Array.replicate 1451 none
  statics := some 0 }

def pool10 : Array CpInfo := pool [(4, .class_ 6), (1, u "java/lang/Object"), (0, u "<init>"), (0, u "()V"), (5, .class_ 16), (1, u "java/lang/StringLatin1"), (73, u "canEncode"), (14, u "(C)Z"), (15, u "$assertionsDisabled"), (0, u "Z"), (98, .class_ 223), (1, u "java/lang/StringLatin1$LinesSpliterator"), (156, u "toBytes"), (1, u "(C)[B"), (7, .class_ 391), (0, u "java/lang/StringLatin1$CharsSpliterator")] 3

def k10m0 : Method := { name := "<init>", desc := "()V", sig := { parameters := [], returnType := none }, accessFlags := 0, code := none }
def k10c1 : Code := { maxStack := 2, maxLocals := 1, code := jdk_43_method_3_code, exceptionTable := #[], attributes := #[] }
def k10m1 : Method := { name := "canEncode", desc := "(C)Z", sig := { parameters := [.char], returnType := some .boolean }, accessFlags := 9, code := some k10c1 }
def k10c2 : Code := { maxStack := 4, maxLocals := 1, code := jdk_43_method_46_code, exceptionTable := #[], attributes := #[] }
def k10m2 : Method := { name := "toBytes", desc := "(C)[B", sig := { parameters := [.char], returnType := some (.array .byte) }, accessFlags := 9, code := some k10c2 }
/-- java/lang/StringLatin1 -/
def k10 : Class := { plain "java/lang/StringLatin1" (some 0) with
  accessFlags := 48
  interfaces := #[]
  cf := some (fileOf pool10 14 #[.nestMembers #[390, 221]] #[{ accessFlags := 0, nameIndex := 7, descriptorIndex := 8, attributes := #[] }, { accessFlags := 9, nameIndex := 90, descriptorIndex := 105, attributes := #[] }, { accessFlags := 9, nameIndex := 380, descriptorIndex := 382, attributes := #[] }] 48 4 #[] #[{ accessFlags := 4120, nameIndex := 121, descriptorIndex := 122, attributes := #[] }])
  fields := #[{ name := "$assertionsDisabled", type := .boolean, accessFlags := 4120, slot := 0, constantValue := 0 }]
  methods := #[k10m0, k10m1, k10m2]
  instanceTypes := #[]
  staticTypes := #[.boolean]
  resolved := Array.replicate 395 none
  statics := none }

def pool11 : Array CpInfo := pool [(8, .class_ 10), (1, u "java/lang/Iterable"), (24, .class_ 36), (0, u "java/lang/Object")] 25

/-- java/lang/Iterable -/
def k11 : Class := { plain "java/lang/Iterable" (some 0) with
  accessFlags := 1537
  interfaces := #[]
  cf := some (fileOf pool11 8 #[] #[] 1537 35 #[] #[])
  fields := #[]
  methods := #[]
  instanceTypes := #[]
  staticTypes := #[]
  resolved := Array.replicate 62 none
  statics := none }

def pool12 : Array CpInfo := pool [(10, .class_ 12), (1, u "java/util/Collection"), (47, .class_ 61), (0, u "java/lang/Object"), (0, .class_ 63), (0, u "java/lang/Iterable")] 51

/-- java/util/Collection -/
def k12 : Class := { plain "java/util/Collection" (some 0) with
  accessFlags := 1537
  interfaces := #[11]
  cf := some (fileOf pool12 10 #[] #[] 1537 60 #[62] #[])
  fields := #[]
  methods := #[]
  instanceTypes := #[]
  staticTypes := #[]
  resolved := Array.replicate 115 none
  statics := none }

def pool13 : Array CpInfo := pool [(1, .methodref 2 3), (0, .class_ 4), (0, .nameAndType 5 6), (0, u "java/lang/Object"), (0, u "<init>"), (0, u "()V"), (1, .class_ 10), (1, u "java/util/AbstractCollection"), (66, .class_ 78), (0, u "java/util/Collection")] 81

def k13c0 : Code := { maxStack := 1, maxLocals := 1, code := jdk_22_method_1_code, exceptionTable := #[], attributes := #[] }
def k13m0 : Method := { name := "<init>", desc := "()V", sig := { parameters := [], returnType := none }, accessFlags := 4, code := some k13c0 }
/-- java/util/AbstractCollection -/
def k13 : Class := { plain "java/util/AbstractCollection" (some 0) with
  accessFlags := 1057
  interfaces := #[12]
  cf := some (fileOf pool13 8 #[] #[{ accessFlags := 4, nameIndex := 5, descriptorIndex := 6, attributes := #[] }] 1057 2 #[77] #[])
  fields := #[]
  methods := #[k13m0]
  instanceTypes := #[]
  staticTypes := #[]
  resolved := Array.replicate 160 none
  statics := none }

def pool14 : Array CpInfo := pool [(8, .class_ 10), (1, u "java/util/SequencedCollection"), (15, .class_ 27), (0, u "java/lang/Object"), (0, .class_ 29), (0, u "java/util/Collection")] 27

/-- java/util/SequencedCollection -/
def k14 : Class := { plain "java/util/SequencedCollection" (some 0) with
  accessFlags := 1537
  interfaces := #[12]
  cf := some (fileOf pool14 8 #[] #[] 1537 26 #[28] #[])
  fields := #[]
  methods := #[]
  instanceTypes := #[]
  staticTypes := #[]
  resolved := Array.replicate 57 none
  statics := none }

def pool15 : Array CpInfo := pool [(8, .class_ 10), (1, u "java/util/List"), (92, .class_ 104), (0, u "java/lang/Object"), (15, .class_ 121), (0, u "java/util/SequencedCollection")] 129

/-- java/util/List -/
def k15 : Class := { plain "java/util/List" (some 0) with
  accessFlags := 1537
  interfaces := #[14]
  cf := some (fileOf pool15 8 #[] #[] 1537 103 #[120] #[])
  fields := #[]
  methods := #[]
  instanceTypes := #[]
  staticTypes := #[]
  resolved := Array.replicate 251 none
  statics := none }

def pool16 : Array CpInfo := pool [(1, .methodref 2 3), (0, .class_ 4), (0, .nameAndType 5 6), (0, u "java/util/AbstractCollection"), (0, u "<init>"), (0, u "()V"), (0, .fieldref 8 9), (0, .class_ 10), (0, .nameAndType 11 12), (0, u "java/util/AbstractList"), (0, u "modCount"), (0, u "I"), (64, .class_ 78), (0, u "java/util/AbstractList$Itr"), (3, .class_ 83), (0, u "java/util/AbstractList$ListItr"), (9, .class_ 94), (0, u "java/util/AbstractList$RandomAccessSubList"), (3, .class_ 99), (0, u "java/util/AbstractList$SubList"), (33, .class_ 134), (0, u "java/util/List"), (73, .class_ 209), (0, u "java/util/AbstractList$SubList$1"), (0, .class_ 211), (0, u "java/util/AbstractList$RandomAccessSpliterator")] 6

def k16c0 : Code := { maxStack := 2, maxLocals := 1, code := jdk_39_method_1_code, exceptionTable := #[], attributes := #[] }
def k16m0 : Method := { name := "<init>", desc := "()V", sig := { parameters := [], returnType := none }, accessFlags := 4, code := some k16c0 }
/-- java/util/AbstractList -/
def k16 : Class := { plain "java/util/AbstractList" (some 13) with
  accessFlags := 1057
  interfaces := #[15]
  cf := some (fileOf pool16 8 #[.nestMembers #[93, 98, 208, 210, 82, 77]] #[{ accessFlags := 4, nameIndex := 5, descriptorIndex := 6, attributes := #[] }] 1057 2 #[133] #[{ accessFlags := 132, nameIndex := 11, descriptorIndex := 12, attributes := #[] }])
  fields := #[{ name := "modCount", type := .int, accessFlags := 132, slot := 0, constantValue := 0 }]
  methods := #[k16m0]
  instanceTypes := #[.int]
  staticTypes := #[]
  resolved := Array.replicate 218 none
  statics := none }

def pool17 : Array CpInfo := pool [(1, .class_ 2), (0, u "java/util/RandomAccess"), (0, .class_ 4), (0, u "java/lang/Object")] 2

/-- java/util/RandomAccess -/
def k17 : Class := { plain "java/util/RandomAccess" (some 0) with
  accessFlags := 1537
  interfaces := #[]
  cf := some (fileOf pool17 1 #[] #[] 1537 3 #[] #[])
  fields := #[]
  methods := #[]
  instanceTypes := #[]
  staticTypes := #[]
  resolved := Array.replicate 7 none
  statics := none }

def pool18 : Array CpInfo := pool [(1, .class_ 2), (0, u "java/lang/Cloneable"), (0, .class_ 4), (0, u "java/lang/Object")] 2

/-- java/lang/Cloneable -/
def k18 : Class := { plain "java/lang/Cloneable" (some 0) with
  accessFlags := 1537
  interfaces := #[]
  cf := some (fileOf pool18 1 #[] #[] 1537 3 #[] #[])
  fields := #[]
  methods := #[]
  instanceTypes := #[]
  staticTypes := #[]
  resolved := Array.replicate 7 none
  statics := none }

def pool19 : Array CpInfo := pool [(1, .methodref 2 3), (0, .class_ 4), (0, .nameAndType 5 6), (0, u "java/util/AbstractList"), (0, u "<init>"), (0, u "()V"), (2, .fieldref 10 11), (0, .class_ 12), (0, .nameAndType 13 14), (0, u "java/util/ArrayList"), (0, u "elementData"), (0, u "[Ljava/lang/Object;"), (2, u "EMPTY_ELEMENTDATA"), (21, .fieldref 10 40), (0, .nameAndType 41 14), (0, u "DEFAULTCAPACITY_EMPTY_ELEMENTDATA"), (8, u "size"), (0, u "I"), (96, .class_ 149), (0, u "java/util/List"), (112, .class_ 263), (0, u "java/util/ArrayList$ListItr"), (3, .class_ 268), (0, u "java/util/ArrayList$Itr"), (7, .class_ 277), (0, u "java/util/ArrayList$SubList"), (12, .class_ 291), (0, u "java/util/ArrayList$ArrayListSpliterator"), (37, .class_ 330), (0, u "java/util/RandomAccess"), (0, .class_ 332), (0, u "java/lang/Cloneable"), (0, .class_ 334), (0, u "java/io/Serializable"), (0, u "serialVersionUID"), (0, u "J"), (3, u "DEFAULT_CAPACITY"), (159, .class_ 501), (0, u "java/util/ArrayList$SubList$2"), (0, .class_ 503), (0, u "java/util/ArrayList$SubList$1")] 5

def k19c0 : Code := { maxStack := 2, maxLocals := 1, code := jdk_38_method_2_code, exceptionTable := #[], attributes := #[] }
def k19m0 : Method := { name := "<init>", desc := "()V", sig := { parameters := [], returnType := none }, accessFlags := 1, code := some k19c0 }
/-- java/util/ArrayList -/
def k19 : Class := { plain "java/util/ArrayList" (some 16) with
  accessFlags := 33
  interfaces := #[15, 17, 18, 4]
  cf := some (fileOf pool19 10 #[.nestMembers #[290, 276, 500, 502, 262, 267]] #[{ accessFlags := 1, nameIndex := 5, descriptorIndex := 6, attributes := #[] }] 33 2 #[148, 329, 331, 333] #[{ accessFlags := 26, nameIndex := 335, descriptorIndex := 336, attributes := #[] }, { accessFlags := 26, nameIndex := 340, descriptorIndex := 51, attributes := #[] }, { accessFlags := 26, nameIndex := 17, descriptorIndex := 14, attributes := #[] }, { accessFlags := 26, nameIndex := 41, descriptorIndex := 14, attributes := #[] }, { accessFlags := 128, nameIndex := 13, descriptorIndex := 14, attributes := #[] }, { accessFlags := 2, nameIndex := 50, descriptorIndex := 51, attributes := #[] }])
  fields := #[{ name := "serialVersionUID", type := .long, accessFlags := 26, slot := 0, constantValue := 0 }, { name := "DEFAULT_CAPACITY", type := .int, accessFlags := 26, slot := 1, constantValue := 0 }, { name := "EMPTY_ELEMENTDATA", type := (.array (.object "java/lang/Object")), accessFlags := 26, slot := 2, constantValue := 0 }, { name := "DEFAULTCAPACITY_EMPTY_ELEMENTDATA", type := (.array (.object "java/lang/Object")), accessFlags := 26, slot := 3, constantValue := 0 }, { name := "elementData", type := (.array (.object "java/lang/Object")), accessFlags := 128, slot := 1, constantValue := 0 }, { name := "size", type := .int, accessFlags := 2, slot := 2, constantValue := 0 }]
  methods := #[k19m0]
  instanceTypes := #[.int, (.array (.object "java/lang/Object")), .int]
  staticTypes := #[.long, .int, (.array (.object "java/lang/Object")), (.array (.object "java/lang/Object"))]
  resolved := Array.replicate 509 none
  statics := some 1 }

def pool20 : Array CpInfo := pool [(1, .methodref 2 3), (0, .class_ 4), (0, .nameAndType 5 6), (0, u "java/lang/Record"), (0, u "<init>"), (0, u "()V"), (0, .fieldref 8 9), (0, .class_ 10), (0, .nameAndType 11 12), (0, u "com/example/oriflamme/oriflamme/language/Expr$Param"), (0, u "at"), (0, u "Lcom/example/oriflamme/oriflamme/language/Position;"), (0, .fieldref 8 14), (0, .nameAndType 15 16), (0, u "name"), (0, u "Ljava/lang/String;"), (0, .fieldref 8 18), (0, .nameAndType 19 20), (0, u "type"), (0, u "Lcom/example/oriflamme/oriflamme/language/Type;"), (0, .methodref 22 23), (0, .class_ 24), (0, .nameAndType 25 26), (0, u "com/example/oriflamme/oriflamme/language/Type"), (0, u "optional"), (0, u "()Z"), (12, u "(Lcom/example/oriflamme/oriflamme/language/Position;Ljava/lang/String;Lcom/example/oriflamme/oriflamme/language/Type;)V"), (3, u "isRequired"), (9, .class_ 54), (0, u "com/example/oriflamme/oriflamme/language/Expr")] 21

def k20c0 : Code := { maxStack := 2, maxLocals := 4, code := prog_14_method_1_code, exceptionTable := #[], attributes := #[] }
def k20m0 : Method := { name := "<init>", desc := "(Lcom/example/oriflamme/oriflamme/language/Position;Ljava/lang/String;Lcom/example/oriflamme/oriflamme/language/Type;)V", sig := { parameters := [(.object "com/example/oriflamme/oriflamme/language/Position"), (.object "java/lang/String"), (.object "com/example/oriflamme/oriflamme/language/Type")], returnType := none }, accessFlags := 1, code := some k20c0 }
def k20c1 : Code := { maxStack := 1, maxLocals := 1, code := prog_14_method_2_code, exceptionTable := #[], attributes := #[] }
def k20m1 : Method := { name := "isRequired", desc := "()Z", sig := { parameters := [], returnType := some .boolean }, accessFlags := 1, code := some k20c1 }
/-- com/example/oriflamme/oriflamme/language/Expr$Param -/
def k20 : Class := { plain "com/example/oriflamme/oriflamme/language/Expr$Param" (some 2) with
  accessFlags := 49
  interfaces := #[]
  cf := some (fileOf pool20 8 #[.nestHost 53] #[{ accessFlags := 1, nameIndex := 5, descriptorIndex := 39, attributes := #[] }, { accessFlags := 1, nameIndex := 43, descriptorIndex := 26, attributes := #[] }] 49 2 #[] #[{ accessFlags := 18, nameIndex := 11, descriptorIndex := 12, attributes := #[] }, { accessFlags := 18, nameIndex := 15, descriptorIndex := 16, attributes := #[] }, { accessFlags := 18, nameIndex := 19, descriptorIndex := 20, attributes := #[] }])
  fields := #[{ name := "at", type := (.object "com/example/oriflamme/oriflamme/language/Position"), accessFlags := 18, slot := 0, constantValue := 0 }, { name := "name", type := (.object "java/lang/String"), accessFlags := 18, slot := 1, constantValue := 0 }, { name := "type", type := (.object "com/example/oriflamme/oriflamme/language/Type"), accessFlags := 18, slot := 2, constantValue := 0 }]
  methods := #[k20m0, k20m1]
  instanceTypes := #[(.object "com/example/oriflamme/oriflamme/language/Position"), (.object "java/lang/String"), (.object "com/example/oriflamme/oriflamme/language/Type")]
  staticTypes := #[]
  resolved := Array.replicate 76 none
  statics := none }

def pool21 : Array CpInfo := pool [(1, .methodref 2 3), (0, .class_ 4), (0, .nameAndType 5 6), (0, u "java/lang/Record"), (0, u "<init>"), (0, u "()V"), (0, .fieldref 8 9), (0, .class_ 10), (0, .nameAndType 11 12), (0, u "com/example/oriflamme/oriflamme/language/Type"), (0, u "at"), (0, u "Lcom/example/oriflamme/oriflamme/language/Position;"), (0, .fieldref 8 14), (0, .nameAndType 15 16), (0, u "name"), (0, u "Ljava/lang/String;"), (0, .fieldref 8 18), (0, .nameAndType 19 20), (0, u "arguments"), (0, u "Ljava/util/List;"), (0, .fieldref 8 22), (0, .nameAndType 23 24), (0, u "optional"), (0, u "Z"), (0, .fieldref 8 26), (0, .nameAndType 27 28), (0, u "base"), (0, u "Lcom/example/oriflamme/oriflamme/language/Type$Base;"), (0, .fieldref 8 30), (0, .nameAndType 31 32), (0, u "record"), (0, u "Lcom/example/oriflamme/oriflamme/language/RecordType;"), (5, u "()Z"), (42, u "(Lcom/example/oriflamme/oriflamme/language/Position;Ljava/lang/String;Ljava/util/List;ZLcom/example/oriflamme/oriflamme/language/Type$Base;Lcom/example/oriflamme/oriflamme/language/RecordType;)V"), (34, .class_ 117), (0, u "com/example/oriflamme/oriflamme/language/Type$Base")] 45

def k21c0 : Code := { maxStack := 2, maxLocals := 7, code := prog_55_method_1_code, exceptionTable := #[], attributes := #[] }
def k21m0 : Method := { name := "<init>", desc := "(Lcom/example/oriflamme/oriflamme/language/Position;Ljava/lang/String;Ljava/util/List;ZLcom/example/oriflamme/oriflamme/language/Type$Base;Lcom/example/oriflamme/oriflamme/language/RecordType;)V", sig := { parameters := [(.object "com/example/oriflamme/oriflamme/language/Position"), (.object "java/lang/String"), (.object "java/util/List"), .boolean, (.object "com/example/oriflamme/oriflamme/language/Type$Base"), (.object "com/example/oriflamme/oriflamme/language/RecordType")], returnType := none }, accessFlags := 1, code := some k21c0 }
def k21c1 : Code := { maxStack := 1, maxLocals := 1, code := prog_55_method_10_code, exceptionTable := #[], attributes := #[] }
def k21m1 : Method := { name := "optional", desc := "()Z", sig := { parameters := [], returnType := some .boolean }, accessFlags := 1, code := some k21c1 }
/-- com/example/oriflamme/oriflamme/language/Type -/
def k21 : Class := { plain "com/example/oriflamme/oriflamme/language/Type" (some 2) with
  accessFlags := 49
  interfaces := #[]
  cf := some (fileOf pool21 8 #[.nestMembers #[116]] #[{ accessFlags := 1, nameIndex := 5, descriptorIndex := 81, attributes := #[] }, { accessFlags := 1, nameIndex := 23, descriptorIndex := 38, attributes := #[] }] 49 2 #[] #[{ accessFlags := 18, nameIndex := 11, descriptorIndex := 12, attributes := #[] }, { accessFlags := 18, nameIndex := 15, descriptorIndex := 16, attributes := #[] }, { accessFlags := 18, nameIndex := 19, descriptorIndex := 20, attributes := #[] }, { accessFlags := 18, nameIndex := 23, descriptorIndex := 24, attributes := #[] }, { accessFlags := 18, nameIndex := 27, descriptorIndex := 28, attributes := #[] }, { accessFlags := 18, nameIndex := 31, descriptorIndex := 32, attributes := #[] }])
  fields := #[{ name := "at", type := (.object "com/example/oriflamme/oriflamme/language/Position"), accessFlags := 18, slot := 0, constantValue := 0 }, { name := "name", type := (.object "java/lang/String"), accessFlags := 18, slot := 1, constantValue := 0 }, { name := "arguments", type := (.object "java/util/List"), accessFlags := 18, slot := 2, constantValue := 0 }, { name := "optional", type := .boolean, accessFlags := 18, slot := 3, constantValue := 0 }, { name := "base", type := (.object "com/example/oriflamme/oriflamme/language/Type$Base"), accessFlags := 18, slot := 4, constantValue := 0 }, { name := "record", type := (.object "com/example/oriflamme/oriflamme/language/RecordType"), accessFlags := 18, slot := 5, constantValue := 0 }]
  methods := #[k21m0, k21m1]
  instanceTypes := #[(.object "com/example/oriflamme/oriflamme/language/Position"), (.object "java/lang/String"), (.object "java/util/List"), .boolean, (.object "com/example/oriflamme/oriflamme/language/Type$Base"), (.object "com/example/oriflamme/oriflamme/language/RecordType")]
  staticTypes := #[]
  resolved := Array.replicate 163 none
  statics := none }

def pool22 : Array CpInfo := pool [(2, .class_ 4), (1, u "java/lang/Object"), (0, u "<init>"), (0, u "()V"), (17, .class_ 26), (1, u "jdk/internal/util/Preconditions"), (28, .class_ 56), (0, u "jdk/internal/util/Preconditions$4"), (57, .class_ 115), (0, u "jdk/internal/util/Preconditions$1"), (7, u "SIOOBE_FORMATTER"), (0, u "Ljava/util/function/BiFunction;"), (0, .class_ 126), (0, u "jdk/internal/util/Preconditions$2"), (3, u "AIOOBE_FORMATTER"), (0, .class_ 132), (0, u "jdk/internal/util/Preconditions$3"), (3, u "IOOBE_FORMATTER")] 57

def k22m0 : Method := { name := "<init>", desc := "()V", sig := { parameters := [], returnType := none }, accessFlags := 1, code := none }
/-- jdk/internal/util/Preconditions -/
def k22 : Class := { plain "jdk/internal/util/Preconditions" (some 0) with
  accessFlags := 33
  interfaces := #[]
  cf := some (fileOf pool22 24 #[.nestMembers #[55, 131, 125, 114]] #[{ accessFlags := 1, nameIndex := 5, descriptorIndex := 6, attributes := #[] }] 33 2 #[] #[{ accessFlags := 25, nameIndex := 123, descriptorIndex := 124, attributes := #[] }, { accessFlags := 25, nameIndex := 130, descriptorIndex := 124, attributes := #[] }, { accessFlags := 25, nameIndex := 136, descriptorIndex := 124, attributes := #[] }])
  fields := #[{ name := "SIOOBE_FORMATTER", type := (.object "java/util/function/BiFunction"), accessFlags := 25, slot := 0, constantValue := 0 }, { name := "AIOOBE_FORMATTER", type := (.object "java/util/function/BiFunction"), accessFlags := 25, slot := 1, constantValue := 0 }, { name := "IOOBE_FORMATTER", type := (.object "java/util/function/BiFunction"), accessFlags := 25, slot := 2, constantValue := 0 }]
  methods := #[k22m0]
  instanceTypes := #[]
  staticTypes := #[(.object "java/util/function/BiFunction"), (.object "java/util/function/BiFunction"), (.object "java/util/function/BiFunction")]
  resolved := Array.replicate 194 none
  statics := some 2 }

def pool23 : Array CpInfo := pool [(9, u "<init>"), (6, .class_ 18), (1, u "java/lang/Object"), (0, u "()V"), (1, .class_ 23), (1, u "jdk/internal/util/ArraysSupport"), (0, u "LOG2_ARRAY_LONG_INDEX_SCALE"), (0, u "I"), (2, u "U"), (0, u "Ljdk/internal/misc/Unsafe;"), (8, u "BIG_ENDIAN"), (0, u "Z"), (8, u "LOG2_BYTE_BIT_SIZE"), (4, u "LOG2_ARRAY_INT_INDEX_SCALE"), (54, u "JLA"), (0, u "Ljdk/internal/access/JavaLangAccess;"), (11, u "LOG2_ARRAY_BOOLEAN_INDEX_SCALE"), (9, u "LOG2_ARRAY_BYTE_INDEX_SCALE"), (5, u "LOG2_ARRAY_CHAR_INDEX_SCALE"), (5, u "LOG2_ARRAY_SHORT_INDEX_SCALE"), (18, u "LOG2_ARRAY_FLOAT_INDEX_SCALE"), (24, u "LOG2_ARRAY_DOUBLE_INDEX_SCALE"), (89, u "T_BOOLEAN"), (2, u "T_CHAR"), (1, u "T_FLOAT"), (1, u "T_DOUBLE"), (1, u "T_BYTE"), (1, u "T_SHORT"), (1, u "T_INT"), (1, u "T_LONG"), (1, u "SOFT_MAX_ARRAY_LENGTH")] 83

def k23m0 : Method := { name := "<init>", desc := "()V", sig := { parameters := [], returnType := none }, accessFlags := 2, code := none }
/-- jdk/internal/util/ArraysSupport -/
def k23 : Class := { plain "jdk/internal/util/ArraysSupport" (some 0) with
  accessFlags := 33
  interfaces := #[]
  cf := some (fileOf pool23 21 #[] #[{ accessFlags := 2, nameIndex := 9, descriptorIndex := 19, attributes := #[] }] 33 16 #[] #[{ accessFlags := 24, nameIndex := 28, descriptorIndex := 29, attributes := #[] }, { accessFlags := 26, nameIndex := 38, descriptorIndex := 39, attributes := #[] }, { accessFlags := 25, nameIndex := 121, descriptorIndex := 25, attributes := #[] }, { accessFlags := 25, nameIndex := 131, descriptorIndex := 25, attributes := #[] }, { accessFlags := 25, nameIndex := 137, descriptorIndex := 25, attributes := #[] }, { accessFlags := 25, nameIndex := 143, descriptorIndex := 25, attributes := #[] }, { accessFlags := 25, nameIndex := 53, descriptorIndex := 25, attributes := #[] }, { accessFlags := 25, nameIndex := 24, descriptorIndex := 25, attributes := #[] }, { accessFlags := 25, nameIndex := 162, descriptorIndex := 25, attributes := #[] }, { accessFlags := 25, nameIndex := 187, descriptorIndex := 25, attributes := #[] }, { accessFlags := 26, nameIndex := 48, descriptorIndex := 25, attributes := #[] }, { accessFlags := 25, nameIndex := 277, descriptorIndex := 25, attributes := #[] }, { accessFlags := 25, nameIndex := 280, descriptorIndex := 25, attributes := #[] }, { accessFlags := 25, nameIndex := 282, descriptorIndex := 25, attributes := #[] }, { accessFlags := 25, nameIndex := 284, descriptorIndex := 25, attributes := #[] }, { accessFlags := 25, nameIndex := 286, descriptorIndex := 25, attributes := #[] }, { accessFlags := 25, nameIndex := 288, descriptorIndex := 25, attributes := #[] }, { accessFlags := 25, nameIndex := 290, descriptorIndex := 25, attributes := #[] }, { accessFlags := 25, nameIndex := 292, descriptorIndex := 25, attributes := #[] }, { accessFlags := 26, nameIndex := 108, descriptorIndex := 109, attributes := #[] }, { accessFlags := 25, nameIndex := 294, descriptorIndex := 25, attributes := #[] }])
  fields := #[{ name := "U", type := (.object "jdk/internal/misc/Unsafe"), accessFlags := 24, slot := 0, constantValue := 0 }, { name := "BIG_ENDIAN", type := .boolean, accessFlags := 26, slot := 1, constantValue := 0 }, { name := "LOG2_ARRAY_BOOLEAN_INDEX_SCALE", type := .int, accessFlags := 25, slot := 2, constantValue := 0 }, { name := "LOG2_ARRAY_BYTE_INDEX_SCALE", type := .int, accessFlags := 25, slot := 3, constantValue := 0 }, { name := "LOG2_ARRAY_CHAR_INDEX_SCALE", type := .int, accessFlags := 25, slot := 4, constantValue := 0 }, { name := "LOG2_ARRAY_SHORT_INDEX_SCALE", type := .int, accessFlags := 25, slot := 5, constantValue := 0 }, { name := "LOG2_ARRAY_INT_INDEX_SCALE", type := .int, accessFlags := 25, slot := 6, constantValue := 0 }, { name := "LOG2_ARRAY_LONG_INDEX_SCALE", type := .int, accessFlags := 25, slot := 7, constantValue := 0 }, { name := "LOG2_ARRAY_FLOAT_INDEX_SCALE", type := .int, accessFlags := 25, slot := 8, constantValue := 0 }, { name := "LOG2_ARRAY_DOUBLE_INDEX_SCALE", type := .int, accessFlags := 25, slot := 9, constantValue := 0 }, { name := "LOG2_BYTE_BIT_SIZE", type := .int, accessFlags := 26, slot := 10, constantValue := 0 }, { name := "T_BOOLEAN", type := .int, accessFlags := 25, slot := 11, constantValue := 0 }, { name := "T_CHAR", type := .int, accessFlags := 25, slot := 12, constantValue := 0 }, { name := "T_FLOAT", type := .int, accessFlags := 25, slot := 13, constantValue := 0 }, { name := "T_DOUBLE", type := .int, accessFlags := 25, slot := 14, constantValue := 0 }, { name := "T_BYTE", type := .int, accessFlags := 25, slot := 15, constantValue := 0 }, { name := "T_SHORT", type := .int, accessFlags := 25, slot := 16, constantValue := 0 }, { name := "T_INT", type := .int, accessFlags := 25, slot := 17, constantValue := 0 }, { name := "T_LONG", type := .int, accessFlags := 25, slot := 18, constantValue := 0 }, { name := "JLA", type := (.object "jdk/internal/access/JavaLangAccess"), accessFlags := 26, slot := 19, constantValue := 0 }, { name := "SOFT_MAX_ARRAY_LENGTH", type := .int, accessFlags := 25, slot := 20, constantValue := 0 }]
  methods := #[k23m0]
  instanceTypes := #[]
  staticTypes := #[(.object "jdk/internal/misc/Unsafe"), .boolean, .int, .int, .int, .int, .int, .int, .int, .int, .int, .int, .int, .int, .int, .int, .int, .int, .int, (.object "jdk/internal/access/JavaLangAccess"), .int]
  resolved := Array.replicate 378 none
  statics := none }

/-- the primitive byte -/
def k24 : Class := { plain "byte" none with kind := .primitive 'B', accessFlags := 0x411 }
/-- [B -/
def k25 : Class := { plain "[B" (some 0) with kind := .array 24 .byte, interfaces := #[18, 4], accessFlags := 1041 }

/-- the primitive int -/
def k26 : Class := { plain "int" none with kind := .primitive 'I', accessFlags := 0x411 }
/-- [I -/
def k27 : Class := { plain "[I" (some 0) with kind := .array 26 .int, interfaces := #[18, 4], accessFlags := 1041 }

/-- [Ljava/lang/Object; -/
def k28 : Class := { plain "[Ljava/lang/Object;" (some 0) with kind := .array 0 (.object "java/lang/Object"), interfaces := #[18, 4], accessFlags := 1041 }

def heap : Heap := #[{ cls := 9, slots := #[.long 0, .int 1, .null, .int 0, .null, .int 0, .int 0], vm := .statics 9 },
  { cls := 19, slots := #[.long 0, .int 0, .ref 3, .ref 4], vm := .statics 19 },
  { cls := 22, slots := #[.null, .null, .null], vm := .statics 22 },
  { cls := 28, slots := #[], vm := .none },
  { cls := 28, slots := #[], vm := .none }]
def classes : Array Class := #[k0, k1, k2, k3, k4, k5, k6, k7, k8, k9, k10, k11, k12, k13, k14, k15, k16, k17, k18, k19, k20, k21, k22, k23, k24, k25, k26, k27, k28]
def interned : List (Array UInt16 × Addr) := []
def slotsUsed : Nat := 14
def theMethod : MethodId := ⟨1, 1⟩
def args0 : Array Value := #[.int 5, .int 5, .int 5, .int 5, .int 5]
def aboutOver (below : List Frame) : State where
  vm := { classes := classes, interned := interned.toArray }
  heap := heap
  slotsUsed := slotsUsed
  threads := #[{ frames := .invoking theMethod args0 :: below }]
def below0 : List Frame := [.native { method := ⟨0, 0⟩, args := #[] }]
def about1 : State := aboutOver below0
def p0 : Program := .bare "" "" ""
def e0 : Env := launch0.env 0 0 0
theorem w_frames : about1.frames = Frame.invoking theMethod args0 :: below0 := rfl
set_option maxRecDepth 65536 in
theorem w_args : argsFit about1.vm theMethod args0 = true := by decide +kernel
set_option maxRecDepth 65536 in
theorem w_heap : heapFits about1 = true := by decide +kernel
set_option maxRecDepth 65536 in
theorem w_runnable : about1.curStatus? = some .runnable := by decide +kernel
set_option maxRecDepth 65536 in
theorem w_alone : about1.alone = true := by decide +kernel
set_option maxRecDepth 65536 in
theorem w_named : about1.methodNamed? x = some theMethod := by decide +kernel
set_option maxRecDepth 65536 in
theorem w_hears : about1.hears theMethod below0 = true := by decide +kernel
set_option maxRecDepth 65536 in
theorem w_ripe : about1.ripe theMethod args0 below0 = true := by decide +kernel
theorem w_running : about1.status = .running := rfl
set_option maxRecDepth 65536 in
theorem w_room : about1.hasRoom e0.platform room_1 = true :=
  launch0.hasRoom_least _ room_1 (by decide +kernel) (by decide +kernel) (by decide +kernel) (by decide +kernel) (by decide +kernel) (by decide +kernel)
theorem allAtoms_all (ts : List Jvm.Cond) (a : Array Jvm.Value) (st : Jvm.State) : (allAtoms ts).before a st = ts.all (fun c => c.before a st) := by
  induction ts with
  | nil => rfl
  | cons c t ih =>
    show (Jvm.Cond.and c (allAtoms t)).before a st = _
    rw [Jvm.Cond.before_and, ih, List.all_cons]
def words1 : List Jvm.Cond := Jvm.Cond.code x code maxLocals ret :: tables_1
/-- a 'code' word, met by the world's own term for the bytes: nothing is compared byte by byte -/
theorem code_word {y : MethodName} {bytes : ByteArray} {mx : Nat} {rt : Option FieldType} {a : Array Value} {s : State} {m : MethodId} {meth : Method} {c : Code} (h1 : s.methodNamed? y = some m) (h2 : s.vm.method? m = some meth) (h3 : meth.code = some c) (h4 : c.code = bytes)
    (h5 : (c.maxLocals == mx && c.exceptionTable.isEmpty && decide (c.maxStack ≤ mostOperands) && decide (meth.sig.returnType = rt) && !meth.locks && decide (parseMethodDescriptor y.desc = some meth.sig)) = true) : (Jvm.Cond.code y bytes mx rt).before a s = true := by
  simp only [Bool.and_eq_true, beq_iff_eq, Bool.not_eq_true', decide_eq_true_eq] at h5
  obtain ⟨⟨⟨⟨⟨g1, g2⟩, g3⟩, g4⟩, g5⟩, g6⟩ := h5
  simp [Cond.before, Cond.holds, Cond.value, h1, h2, h3, h4, g1, g2, g3, g4, g5, g6]
def isCode : Jvm.Cond → Bool
  | .code _ _ _ _ => true
  | _ => false
theorem all_split {L : List Jvm.Cond} {P : Jvm.Cond → Bool} (h1 : L.all (fun c => isCode c || P c) = true) (h2 : ∀ c ∈ L.filter isCode, P c = true) : L.all P = true := by
  refine List.all_eq_true.mpr fun c hc => ?_
  have h := List.all_eq_true.mp h1 c hc
  rcases Bool.eq_false_or_eq_true (isCode c) with hi | hi
  · exact h2 c (List.mem_filter.mpr ⟨hc, hi⟩)
  · simpa [hi] using h
set_option maxRecDepth 65536 in
theorem w_c0 : (Jvm.Cond.code x code maxLocals ret).before args0 about1 = true := code_word (m := ⟨1, 1⟩) (meth := k1m1) (c := k1c1) (by decide +kernel) rfl rfl rfl (by decide +kernel)
set_option maxRecDepth 65536 in
theorem w_c1 : (Jvm.Cond.code ({ cls := "com/example/oriflamme/oriflamme/language/Position", name := "<init>", desc := "(II)V" } : Jvm.MethodName) prog_33_method_1_code (3 : Nat) (Option.none : Option Jvm.ClassFile.FieldType)).before args0 about1 = true := code_word (m := ⟨3, 0⟩) (meth := k3m0) (c := k3c0) (by decide +kernel) rfl rfl rfl (by decide +kernel)
set_option maxRecDepth 65536 in
theorem w_c2 : (Jvm.Cond.code ({ cls := "java/lang/Record", name := "<init>", desc := "()V" } : Jvm.MethodName) jdk_30_method_1_code (1 : Nat) (Option.none : Option Jvm.ClassFile.FieldType)).before args0 about1 = true := code_word (m := ⟨2, 0⟩) (meth := k2m0) (c := k2c0) (by decide +kernel) rfl rfl rfl (by decide +kernel)
set_option maxRecDepth 65536 in
theorem w_c3 : (Jvm.Cond.code ({ cls := "java/lang/Object", name := "<init>", desc := "()V" } : Jvm.MethodName) object_method_1_code (1 : Nat) (Option.none : Option Jvm.ClassFile.FieldType)).before args0 about1 = true := code_word (m := ⟨0, 0⟩) (meth := k0m0) (c := k0c0) (by decide +kernel) rfl rfl rfl (by decide +kernel)
set_option maxRecDepth 65536 in
theorem w_c4 : (Jvm.Cond.code ({ cls := "java/lang/String", name := "valueOf", desc := "(C)Ljava/lang/String;" } : Jvm.MethodName) jdk_42_method_139_code (1 : Nat) (Option.some (Jvm.ClassFile.FieldType.object "java/lang/String"))).before args0 about1 = true := code_word (m := ⟨9, 1⟩) (meth := k9m1) (c := k9c1) (by decide +kernel) rfl rfl rfl (by decide +kernel)
set_option maxRecDepth 65536 in
theorem w_c5 : (Jvm.Cond.code ({ cls := "java/lang/StringLatin1", name := "canEncode", desc := "(C)Z" } : Jvm.MethodName) jdk_43_method_3_code (1 : Nat) (Option.some Jvm.ClassFile.FieldType.boolean)).before args0 about1 = true := code_word (m := ⟨10, 1⟩) (meth := k10m1) (c := k10c1) (by decide +kernel) rfl rfl rfl (by decide +kernel)
set_option maxRecDepth 65536 in
theorem w_c6 : (Jvm.Cond.code ({ cls := "java/lang/StringLatin1", name := "toBytes", desc := "(C)[B" } : Jvm.MethodName) jdk_43_method_46_code (1 : Nat) (Option.some (Jvm.ClassFile.FieldType.array Jvm.ClassFile.FieldType.byte))).before args0 about1 = true := code_word (m := ⟨10, 2⟩) (meth := k10m2) (c := k10c2) (by decide +kernel) rfl rfl rfl (by decide +kernel)
set_option maxRecDepth 65536 in
theorem w_c7 : (Jvm.Cond.code ({ cls := "java/lang/String", name := "<init>", desc := "([BB)V" } : Jvm.MethodName) jdk_42_method_151_code (3 : Nat) (Option.none : Option Jvm.ClassFile.FieldType)).before args0 about1 = true := code_word (m := ⟨9, 2⟩) (meth := k9m2) (c := k9c2) (by decide +kernel) rfl rfl rfl (by decide +kernel)
set_option maxRecDepth 65536 in
theorem w_c8 : (Jvm.Cond.code ({ cls := "java/util/ArrayList", name := "<init>", desc := "()V" } : Jvm.MethodName) jdk_38_method_2_code (1 : Nat) (Option.none : Option Jvm.ClassFile.FieldType)).before args0 about1 = true := code_word (m := ⟨19, 0⟩) (meth := k19m0) (c := k19c0) (by decide +kernel) rfl rfl rfl (by decide +kernel)
set_option maxRecDepth 65536 in
theorem w_c9 : (Jvm.Cond.code ({ cls := "java/util/AbstractList", name := "<init>", desc := "()V" } : Jvm.MethodName) jdk_39_method_1_code (1 : Nat) (Option.none : Option Jvm.ClassFile.FieldType)).before args0 about1 = true := code_word (m := ⟨16, 0⟩) (meth := k16m0) (c := k16c0) (by decide +kernel) rfl rfl rfl (by decide +kernel)
set_option maxRecDepth 65536 in
theorem w_c10 : (Jvm.Cond.code ({ cls := "java/util/AbstractCollection", name := "<init>", desc := "()V" } : Jvm.MethodName) jdk_22_method_1_code (1 : Nat) (Option.none : Option Jvm.ClassFile.FieldType)).before args0 about1 = true := code_word (m := ⟨13, 0⟩) (meth := k13m0) (c := k13c0) (by decide +kernel) rfl rfl rfl (by decide +kernel)
set_option maxRecDepth 65536 in
theorem w_c11 : (Jvm.Cond.code ({ cls := "com/example/oriflamme/oriflamme/language/Expr$Param", name := "<init>", desc := "(Lcom/example/oriflamme/oriflamme/language/Position;Ljava/lang/String;Lcom/example/oriflamme/oriflamme/language/Type;)V" } : Jvm.MethodName) prog_14_method_1_code (4 : Nat) (Option.none : Option Jvm.ClassFile.FieldType)).before args0 about1 = true := code_word (m := ⟨20, 0⟩) (meth := k20m0) (c := k20c0) (by decide +kernel) rfl rfl rfl (by decide +kernel)
set_option maxRecDepth 65536 in
theorem w_c12 : (Jvm.Cond.code ({ cls := "com/example/oriflamme/oriflamme/language/Expr$Param", name := "isRequired", desc := "()Z" } : Jvm.MethodName) prog_14_method_2_code (1 : Nat) (Option.some Jvm.ClassFile.FieldType.boolean)).before args0 about1 = true := code_word (m := ⟨20, 1⟩) (meth := k20m1) (c := k20c1) (by decide +kernel) rfl rfl rfl (by decide +kernel)
set_option maxRecDepth 65536 in
theorem w_c13 : (Jvm.Cond.code ({ cls := "com/example/oriflamme/oriflamme/language/Type", name := "<init>", desc := "(Lcom/example/oriflamme/oriflamme/language/Position;Ljava/lang/String;Ljava/util/List;ZLcom/example/oriflamme/oriflamme/language/Type$Base;Lcom/example/oriflamme/oriflamme/language/RecordType;)V" } : Jvm.MethodName) prog_55_method_1_code (7 : Nat) (Option.none : Option Jvm.ClassFile.FieldType)).before args0 about1 = true := code_word (m := ⟨21, 0⟩) (meth := k21m0) (c := k21c0) (by decide +kernel) rfl rfl rfl (by decide +kernel)
set_option maxRecDepth 65536 in
theorem w_c14 : (Jvm.Cond.code ({ cls := "com/example/oriflamme/oriflamme/language/Type", name := "optional", desc := "()Z" } : Jvm.MethodName) prog_55_method_10_code (1 : Nat) (Option.some Jvm.ClassFile.FieldType.boolean)).before args0 about1 = true := code_word (m := ⟨21, 1⟩) (meth := k21m1) (c := k21c1) (by decide +kernel) rfl rfl rfl (by decide +kernel)
def codes1 : List Jvm.Cond := [Jvm.Cond.code x code maxLocals ret, Jvm.Cond.code ({ cls := "com/example/oriflamme/oriflamme/language/Position", name := "<init>", desc := "(II)V" } : Jvm.MethodName) prog_33_method_1_code (3 : Nat) (Option.none : Option Jvm.ClassFile.FieldType), Jvm.Cond.code ({ cls := "java/lang/Record", name := "<init>", desc := "()V" } : Jvm.MethodName) jdk_30_method_1_code (1 : Nat) (Option.none : Option Jvm.ClassFile.FieldType), Jvm.Cond.code ({ cls := "java/lang/Object", name := "<init>", desc := "()V" } : Jvm.MethodName) object_method_1_code (1 : Nat) (Option.none : Option Jvm.ClassFile.FieldType), Jvm.Cond.code ({ cls := "java/lang/String", name := "valueOf", desc := "(C)Ljava/lang/String;" } : Jvm.MethodName) jdk_42_method_139_code (1 : Nat) (Option.some (Jvm.ClassFile.FieldType.object "java/lang/String")), Jvm.Cond.code ({ cls := "java/lang/StringLatin1", name := "canEncode", desc := "(C)Z" } : Jvm.MethodName) jdk_43_method_3_code (1 : Nat) (Option.some Jvm.ClassFile.FieldType.boolean), Jvm.Cond.code ({ cls := "java/lang/StringLatin1", name := "toBytes", desc := "(C)[B" } : Jvm.MethodName) jdk_43_method_46_code (1 : Nat) (Option.some (Jvm.ClassFile.FieldType.array Jvm.ClassFile.FieldType.byte)), Jvm.Cond.code ({ cls := "java/lang/String", name := "<init>", desc := "([BB)V" } : Jvm.MethodName) jdk_42_method_151_code (3 : Nat) (Option.none : Option Jvm.ClassFile.FieldType), Jvm.Cond.code ({ cls := "java/util/ArrayList", name := "<init>", desc := "()V" } : Jvm.MethodName) jdk_38_method_2_code (1 : Nat) (Option.none : Option Jvm.ClassFile.FieldType), Jvm.Cond.code ({ cls := "java/util/AbstractList", name := "<init>", desc := "()V" } : Jvm.MethodName) jdk_39_method_1_code (1 : Nat) (Option.none : Option Jvm.ClassFile.FieldType), Jvm.Cond.code ({ cls := "java/util/AbstractCollection", name := "<init>", desc := "()V" } : Jvm.MethodName) jdk_22_method_1_code (1 : Nat) (Option.none : Option Jvm.ClassFile.FieldType), Jvm.Cond.code ({ cls := "com/example/oriflamme/oriflamme/language/Expr$Param", name := "<init>", desc := "(Lcom/example/oriflamme/oriflamme/language/Position;Ljava/lang/String;Lcom/example/oriflamme/oriflamme/language/Type;)V" } : Jvm.MethodName) prog_14_method_1_code (4 : Nat) (Option.none : Option Jvm.ClassFile.FieldType), Jvm.Cond.code ({ cls := "com/example/oriflamme/oriflamme/language/Expr$Param", name := "isRequired", desc := "()Z" } : Jvm.MethodName) prog_14_method_2_code (1 : Nat) (Option.some Jvm.ClassFile.FieldType.boolean), Jvm.Cond.code ({ cls := "com/example/oriflamme/oriflamme/language/Type", name := "<init>", desc := "(Lcom/example/oriflamme/oriflamme/language/Position;Ljava/lang/String;Ljava/util/List;ZLcom/example/oriflamme/oriflamme/language/Type$Base;Lcom/example/oriflamme/oriflamme/language/RecordType;)V" } : Jvm.MethodName) prog_55_method_1_code (7 : Nat) (Option.none : Option Jvm.ClassFile.FieldType), Jvm.Cond.code ({ cls := "com/example/oriflamme/oriflamme/language/Type", name := "optional", desc := "()Z" } : Jvm.MethodName) prog_55_method_10_code (1 : Nat) (Option.some Jvm.ClassFile.FieldType.boolean)]
set_option maxRecDepth 65536 in
theorem codes_eq : words1.filter isCode = codes1 := rfl
theorem w_codes : ∀ c ∈ words1.filter isCode, c.before args0 about1 = true := by
  rw [codes_eq]
  intro c hc
  simp only [codes1, List.mem_cons, List.not_mem_nil, or_false] at hc
  rcases hc with rfl | rfl | rfl | rfl | rfl | rfl | rfl | rfl | rfl | rfl | rfl | rfl | rfl | rfl | rfl
  · exact w_c0
  · exact w_c1
  · exact w_c2
  · exact w_c3
  · exact w_c4
  · exact w_c5
  · exact w_c6
  · exact w_c7
  · exact w_c8
  · exact w_c9
  · exact w_c10
  · exact w_c11
  · exact w_c12
  · exact w_c13
  · exact w_c14
set_option maxRecDepth 65536 in
theorem w_t1 : (words1.take 24).all (fun c => isCode c || c.before args0 about1) = true := by decide +kernel
set_option maxRecDepth 65536 in
theorem w_t2 : ((words1.drop 24).take 24).all (fun c => isCode c || c.before args0 about1) = true := by decide +kernel
set_option maxRecDepth 65536 in
theorem w_t3 : (((words1.drop 24).drop 24).take 24).all (fun c => isCode c || c.before args0 about1) = true := by decide +kernel
set_option maxRecDepth 65536 in
theorem w_t4 : ((((words1.drop 24).drop 24).drop 24).take 24).all (fun c => isCode c || c.before args0 about1) = true := by decide +kernel
set_option maxRecDepth 65536 in
theorem w_t5 : ((((words1.drop 24).drop 24).drop 24).drop 24).all (fun c => isCode c || c.before args0 about1) = true := by decide +kernel
theorem w_tables : (allAtoms (Jvm.Cond.code x code maxLocals ret :: tables_1)).before args0 about1 = true := by
  rw [allAtoms_all]
  show words1.all (fun c => c.before args0 about1) = true
  refine all_split ?_ w_codes
  rw [← List.take_append_drop 24 words1, List.all_append, w_t1, ← List.take_append_drop 24 (words1.drop 24), List.all_append, w_t2, ← List.take_append_drop 24 ((words1.drop 24).drop 24), List.all_append, w_t3, ← List.take_append_drop 24 (((words1.drop 24).drop 24).drop 24), List.all_append, w_t4, w_t5]
  rfl
set_option maxRecDepth 65536 in
theorem w_rest : rest_1_c.before args0 about1 = true := by decide +kernel
set_option maxRecDepth 65536 in
theorem w_case : (Jvm.Cond.and given_1 narrow_1).before args0 about1 = true := by decide +kernel
theorem w_applies : (headSpec (Jvm.Cond.code x code maxLocals ret :: tables_1) room_1).applies x e0.platform about1 = true :=
  (Spec.applies_iff w_frames).mpr ⟨w_running, w_runnable, w_alone, w_named, w_hears, w_ripe, w_room, w_tables⟩
theorem atStart : AtStart classFile x code maxLocals ret World_1 tables_1 room_1 Calls_1 rest_1 Pre_1 launch0 p0 e0 about1 theMethod args0 below0 :=
  ⟨lists_1, trivial, launch0.admits_env _ _ _, launch0.least_env, fairChoices_fair.cas, fairChoices_fair.clock, w_frames, w_args, w_heap, w_applies, trivial, w_rest, w_case⟩
end start1
theorem witness_1 : WitnessClaimed_1 := ⟨start1.p0, start1.e0, start1.about1, start1.theMethod, start1.args0, start1.below0, start1.atStart⟩
end Jvm.Pilot.@@N@@
