import JvmDerived
import JvmDerived.Pilot.@@N@@Statement
import JvmDerived.Pilot.@@N@@Code
set_option linter.unusedVariables false
set_option linter.unusedSimpArgs false
namespace Jvm.Pilot.@@N@@
open Jvm Jvm.ClassFile Sem Op Lib Jvm.Free Jvm.Stand Jvm.LawKit Jvm.RoadKit Bundle Jvm.Pilot.@@N@@.Jvm.D
theorem pd_0 : parseMethodDescriptor "()V" = some ⟨[], none⟩ := by decide +kernel
theorem pd_1 : parseMethodDescriptor "(D)V" = some ⟨[.double], none⟩ := by decide +kernel
theorem pd_2 : parseMethodDescriptor "(D)Ljava/lang/Double;" = some ⟨[.double], some (.object "java/lang/Double")⟩ := by decide +kernel
theorem pd_3 : parseMethodDescriptor "(JJJJ)V" = some ⟨[.long, .long, .long, .long], none⟩ := by decide +kernel
theorem pd_4 : parseMethodDescriptor "()Ljava/lang/Double;" = some ⟨[], some (.object "java/lang/Double")⟩ := by decide +kernel
theorem pd_5 : parseMethodDescriptor "()D" = some ⟨[], some .double⟩ := by decide +kernel
theorem pd_6 : parseMethodDescriptor "(J)J" = some ⟨[.long], some .long⟩ := by decide +kernel
theorem d2_0 : decode jdk_30_method_1_code 0 = .ok (.aload_n 0, 1) := by decide +kernel
theorem d2_1 : decode jdk_30_method_1_code 1 = .ok (.invokespecial 1, 3) := by decide +kernel
theorem d2_4 : decode jdk_30_method_1_code 4 = .ok (.return_, 1) := by decide +kernel
theorem pn_2 : plainName "java/lang/Record" = true := by first | (simp [plainName, overriddenIn]; done) | decide +kernel
theorem ef_2 (m : MethodId) (a1 : Addr) : entryFrame m #[(.ref a1)] 1 = mkF m 0 #[.val (.ref a1)] [] := by first | (simp [entryFrame, mkF, argsToLocals, Value.category]; done) | rfl
def Q2 (Z : State) (a1 : Addr) (h0 : Heap) (n0 : Nat) (v : Option Value) (h : Heap) (L : List Loc) : Prop := v = none ∧ Fr n0 L ∧ h = h0
set_option maxRecDepth 65536 in
set_option maxHeartbeats 40000000 in
theorem rm2 (l : Launch) (Z : State) (a0 : Array Value) (hw : ∀ d ∈ tables_1, d.before a0 Z = true) (ws : List Jvm.Cond) (a1 : Addr) (h0 : Heap) (n0 : Nat) (Z0 : n0 ≤ h0.size) :
    MetFree l (⟨"java/lang/Record", "<init>", "()V"⟩ : MethodName) (head1 (Jvm.Cond.code (⟨"java/lang/Record", "<init>", "()V"⟩ : MethodName) jdk_30_method_1_code 1 none :: ws) ({ frames := 1, cells := 0, slots := 0, locals := 12 } : Room)) (fun a U => a = #[(.ref a1)] ∧ Z.Warmed39 U.vm ∧ U.heap = h0) (fun _ _ _ _ _ => True) (fun _ U oo U' => ∃ v L, oo = .returned v ∧ Q2 Z a1 h0 n0 v U'.heap L ∧ FrameEnd U oo U' L ({ frames := 1, cells := 0, slots := 0, locals := 12 } : Room).cells ({ frames := 1, cells := 0, slots := 0, locals := 12 } : Room).slots) := by
  refine MetFree.of_bodySF (plainFor_of_name pn_2) hisR ?_
  intro p e s m args below meth c s₁ Bd hml0 hP hK
  obtain ⟨rfl, hZ, hh⟩ := hP
  have hx := Bd.exec
  have hby := Bd.bytes
  have hml : c.maxLocals = 1 := hml0
  have hown : s.vm.findClass "java/lang/Record" = some m.cls := findClass_of_methodNamed Bd.named
  have hnm := (name_of_methodNamed Bd.named Bd.method).1
  have X0 : Stand p l e ({ frames := 1, cells := 0, slots := 0, locals := 12 } : Room) s m #[(.ref a1)] below meth c s₁ [] 0 0 := Stand.of_body Bd
  have e0 : s₁.heap = h0 := by rw [← hh, Bd.state]; rfl
  have N0 := Fr.nil n0
  have K0 : Keep h0 h0 [] := Keep.refl _ _
  have pre0 : ∀ tg, Steps p.tables e below (s₁.setTop (mkF m 0 #[.val (.ref a1)] [])) tg → Steps p.tables e below (s₁.setTop (entryFrame m #[(.ref a1)] 1)) tg := fun tg k => castTop (ef_2 m a1) k
  have st1 : ∀ tg, Steps p.tables e below (s₁.setTop (mkF m 1 #[.val (.ref a1)] [(.ref a1)])) tg → Steps p.tables e below (s₁.setTop (mkF m 0 #[.val (.ref a1)] [])) tg := by
    intro tg kt
    refine XS.aloadN X0.here hx rfl (hb hby d2_0) rfl rfl ?_
    exact kt
  obtain ⟨T2, X2, e2, st2⟩ := initO X0 hx hZ hown (hw _ (List.mem_of_getElem? (i := 11) rfl)) (hw _ (List.mem_of_getElem? (i := 12) rfl)) (hw _ (List.mem_of_getElem? (i := 13) rfl)) e0 (g := (mkF m 1 #[.val (.ref a1)] [(.ref a1)])) rfl (by rw [hml]; rfl) rfl (hb hby d2_1) (by decide) (W := 0) (by show 2 * 0 + _ ≤ _; exact Nat.le_of_eq rfl) (by decide)
  obtain ⟨fs, hr, hrun, hended, hW, hsame⟩ := X2.leave (v := none) (fun _ => rfl)
  refine ⟨_, _, pre0 _ ?_, hrun, hended, _, _, rfl, ?_, ⟨_, rfl⟩, hW, hsame.mono (by decide) (by decide)⟩
  · refine st1 _ ?_
    show Steps p.tables e below (s₁.setTop (mkF m 1 #[.val (.ref a1)] [(.ref a1)])) _
    refine st2 _ ?_
    show Steps p.tables e below (T2.setTop (mkF m 4 #[.val (.ref a1)] [])) _
    exact X2.returnOut hx Bd.returns (hb hby d2_4) hr
  · show Q2 Z a1 h0 n0 _ T2.heap _
    rw [e2]
    exact ⟨rfl, N0, rfl⟩
theorem d7_0 : decode jdk_18_method_1_code 0 = .ok (.aload_n 0, 1) := by decide +kernel
theorem d7_1 : decode jdk_18_method_1_code 1 = .ok (.invokespecial 1, 3) := by decide +kernel
theorem d7_4 : decode jdk_18_method_1_code 4 = .ok (.return_, 1) := by decide +kernel
theorem pn_7 : plainName "java/lang/Number" = true := by first | (simp [plainName, overriddenIn]; done) | decide +kernel
theorem ef_7 (m : MethodId) (a1 : Addr) : entryFrame m #[(.ref a1)] 1 = mkF m 0 #[.val (.ref a1)] [] := by first | (simp [entryFrame, mkF, argsToLocals, Value.category]; done) | rfl
def Q7 (Z : State) (a1 : Addr) (h0 : Heap) (n0 : Nat) (v : Option Value) (h : Heap) (L : List Loc) : Prop := v = none ∧ Fr n0 L ∧ h = h0
set_option maxRecDepth 65536 in
set_option maxHeartbeats 40000000 in
theorem rm7 (l : Launch) (Z : State) (a0 : Array Value) (hw : ∀ d ∈ tables_1, d.before a0 Z = true) (ws : List Jvm.Cond) (a1 : Addr) (h0 : Heap) (n0 : Nat) (Z0 : n0 ≤ h0.size) :
    MetFree l (⟨"java/lang/Number", "<init>", "()V"⟩ : MethodName) (head1 (Jvm.Cond.code (⟨"java/lang/Number", "<init>", "()V"⟩ : MethodName) jdk_18_method_1_code 1 none :: ws) ({ frames := 1, cells := 0, slots := 0, locals := 12 } : Room)) (fun a U => a = #[(.ref a1)] ∧ Z.Warmed39 U.vm ∧ U.heap = h0) (fun _ _ _ _ _ => True) (fun _ U oo U' => ∃ v L, oo = .returned v ∧ Q7 Z a1 h0 n0 v U'.heap L ∧ FrameEnd U oo U' L ({ frames := 1, cells := 0, slots := 0, locals := 12 } : Room).cells ({ frames := 1, cells := 0, slots := 0, locals := 12 } : Room).slots) := by
  refine MetFree.of_bodySF (plainFor_of_name pn_7) hisR ?_
  intro p e s m args below meth c s₁ Bd hml0 hP hK
  obtain ⟨rfl, hZ, hh⟩ := hP
  have hx := Bd.exec
  have hby := Bd.bytes
  have hml : c.maxLocals = 1 := hml0
  have hown : s.vm.findClass "java/lang/Number" = some m.cls := findClass_of_methodNamed Bd.named
  have hnm := (name_of_methodNamed Bd.named Bd.method).1
  have X0 : Stand p l e ({ frames := 1, cells := 0, slots := 0, locals := 12 } : Room) s m #[(.ref a1)] below meth c s₁ [] 0 0 := Stand.of_body Bd
  have e0 : s₁.heap = h0 := by rw [← hh, Bd.state]; rfl
  have N0 := Fr.nil n0
  have K0 : Keep h0 h0 [] := Keep.refl _ _
  have pre0 : ∀ tg, Steps p.tables e below (s₁.setTop (mkF m 0 #[.val (.ref a1)] [])) tg → Steps p.tables e below (s₁.setTop (entryFrame m #[(.ref a1)] 1)) tg := fun tg k => castTop (ef_7 m a1) k
  have st1 : ∀ tg, Steps p.tables e below (s₁.setTop (mkF m 1 #[.val (.ref a1)] [(.ref a1)])) tg → Steps p.tables e below (s₁.setTop (mkF m 0 #[.val (.ref a1)] [])) tg := by
    intro tg kt
    refine XS.aloadN X0.here hx rfl (hb hby d7_0) rfl rfl ?_
    exact kt
  obtain ⟨T2, X2, e2, st2⟩ := initO X0 hx hZ hown (hw _ (List.mem_of_getElem? (i := 43) rfl)) (hw _ (List.mem_of_getElem? (i := 12) rfl)) (hw _ (List.mem_of_getElem? (i := 13) rfl)) e0 (g := (mkF m 1 #[.val (.ref a1)] [(.ref a1)])) rfl (by rw [hml]; rfl) rfl (hb hby d7_1) (by decide) (W := 0) (by show 2 * 0 + _ ≤ _; exact Nat.le_of_eq rfl) (by decide)
  obtain ⟨fs, hr, hrun, hended, hW, hsame⟩ := X2.leave (v := none) (fun _ => rfl)
  refine ⟨_, _, pre0 _ ?_, hrun, hended, _, _, rfl, ?_, ⟨_, rfl⟩, hW, hsame.mono (by decide) (by decide)⟩
  · refine st1 _ ?_
    show Steps p.tables e below (s₁.setTop (mkF m 1 #[.val (.ref a1)] [(.ref a1)])) _
    refine st2 _ ?_
    show Steps p.tables e below (T2.setTop (mkF m 4 #[.val (.ref a1)] [])) _
    exact X2.returnOut hx Bd.returns (hb hby d7_4) hr
  · show Q7 Z a1 h0 n0 _ T2.heap _
    rw [e2]
    exact ⟨rfl, N0, rfl⟩
theorem d1_0 : decode prog_71_method_1_code 0 = .ok (.aload_n 0, 1) := by decide +kernel
theorem d1_1 : decode prog_71_method_1_code 1 = .ok (.invokespecial 1, 3) := by decide +kernel
theorem d1_4 : decode prog_71_method_1_code 4 = .ok (.aload_n 0, 1) := by decide +kernel
theorem d1_5 : decode prog_71_method_1_code 5 = .ok (.lload_n 1, 1) := by decide +kernel
theorem d1_6 : decode prog_71_method_1_code 6 = .ok (.putfield 7, 3) := by decide +kernel
theorem d1_9 : decode prog_71_method_1_code 9 = .ok (.aload_n 0, 1) := by decide +kernel
theorem d1_10 : decode prog_71_method_1_code 10 = .ok (.lload_n 3, 1) := by decide +kernel
theorem d1_11 : decode prog_71_method_1_code 11 = .ok (.putfield 13, 3) := by decide +kernel
theorem d1_14 : decode prog_71_method_1_code 14 = .ok (.aload_n 0, 1) := by decide +kernel
theorem d1_15 : decode prog_71_method_1_code 15 = .ok (.lload 5, 2) := by decide +kernel
theorem d1_17 : decode prog_71_method_1_code 17 = .ok (.putfield 16, 3) := by decide +kernel
theorem d1_20 : decode prog_71_method_1_code 20 = .ok (.aload_n 0, 1) := by decide +kernel
theorem d1_21 : decode prog_71_method_1_code 21 = .ok (.lload 7, 2) := by decide +kernel
theorem d1_23 : decode prog_71_method_1_code 23 = .ok (.putfield 19, 3) := by decide +kernel
theorem d1_26 : decode prog_71_method_1_code 26 = .ok (.return_, 1) := by decide +kernel
theorem pn_1 : plainName "com/example/oriflamme/oriflamme/runtime/RunFigures" = true := by first | (simp [plainName, overriddenIn]; done) | decide +kernel
theorem ef_1 (m : MethodId) (a1 : Addr) (q2 : Int64) (q3 : Int64) (q4 : Int64) (q5 : Int64) : entryFrame m #[(.ref a1), (.long q2), (.long q3), (.long q4), (.long q5)] 9 = mkF m 0 #[.val (.ref a1), .val (.long q2), .second, .val (.long q3), .second, .val (.long q4), .second, .val (.long q5), .second] [] := by first | (simp [entryFrame, mkF, argsToLocals, Value.category]; done) | rfl
def Q1 (Z : State) (a1 : Addr) (q2 : Int64) (q3 : Int64) (q4 : Int64) (q5 : Int64) (h0 : Heap) (n0 : Nat) (v : Option Value) (h : Heap) (L : List Loc) : Prop := v = none ∧ Fr n0 L ∧ Keep h0 h [a1] ∧ Exa Z h a1 "com/example/oriflamme/oriflamme/runtime/RunFigures" ∧ Fld Z h a1 "com/example/oriflamme/oriflamme/runtime/RunFigures" "runs" "J" (.long q2) ∧ Fld Z h a1 "com/example/oriflamme/oriflamme/runtime/RunFigures" "succeeded" "J" (.long q3) ∧ Fld Z h a1 "com/example/oriflamme/oriflamme/runtime/RunFigures" "failed" "J" (.long q4) ∧ Fld Z h a1 "com/example/oriflamme/oriflamme/runtime/RunFigures" "totalDurationMs" "J" (.long q5)
set_option maxRecDepth 65536 in
set_option maxHeartbeats 40000000 in
theorem rm1 (l : Launch) (Z : State) (a0 : Array Value) (hw : ∀ d ∈ tables_1, d.before a0 Z = true) (ws : List Jvm.Cond) (a1 : Addr) (q2 : Int64) (q3 : Int64) (q4 : Int64) (q5 : Int64) (h0 : Heap) (n0 : Nat) (Z0 : n0 ≤ h0.size) (F_runs : Fld Z h0 a1 "com/example/oriflamme/oriflamme/runtime/RunFigures" "runs" "J" (.long (0 : Int64))) (F_succeeded : Fld Z h0 a1 "com/example/oriflamme/oriflamme/runtime/RunFigures" "succeeded" "J" (.long (0 : Int64))) (F_failed : Fld Z h0 a1 "com/example/oriflamme/oriflamme/runtime/RunFigures" "failed" "J" (.long (0 : Int64))) (F_totalDurationMs : Fld Z h0 a1 "com/example/oriflamme/oriflamme/runtime/RunFigures" "totalDurationMs" "J" (.long (0 : Int64))) (E_a1 : Exa Z h0 a1 "com/example/oriflamme/oriflamme/runtime/RunFigures") (g_a1 : n0 ≤ a1) :
    MetFree l (⟨"com/example/oriflamme/oriflamme/runtime/RunFigures", "<init>", "(JJJJ)V"⟩ : MethodName) (head1 (Jvm.Cond.code (⟨"com/example/oriflamme/oriflamme/runtime/RunFigures", "<init>", "(JJJJ)V"⟩ : MethodName) prog_71_method_1_code 9 none :: ws) ({ frames := 2, cells := 0, slots := 0, locals := 24 } : Room)) (fun a U => a = #[(.ref a1), (.long q2), (.long q3), (.long q4), (.long q5)] ∧ Z.Warmed39 U.vm ∧ U.heap = h0) (fun _ _ _ _ _ => True) (fun _ U oo U' => ∃ v L, oo = .returned v ∧ Q1 Z a1 q2 q3 q4 q5 h0 n0 v U'.heap L ∧ FrameEnd U oo U' L ({ frames := 2, cells := 0, slots := 0, locals := 24 } : Room).cells ({ frames := 2, cells := 0, slots := 0, locals := 24 } : Room).slots) := by
  refine MetFree.of_bodySF (plainFor_of_name pn_1) hisR ?_
  intro p e s m args below meth c s₁ Bd hml0 hP hK
  obtain ⟨rfl, hZ, hh⟩ := hP
  have hx := Bd.exec
  have hby := Bd.bytes
  have hml : c.maxLocals = 9 := hml0
  have hown : s.vm.findClass "com/example/oriflamme/oriflamme/runtime/RunFigures" = some m.cls := findClass_of_methodNamed Bd.named
  have hnm := (name_of_methodNamed Bd.named Bd.method).1
  have X0 : Stand p l e ({ frames := 2, cells := 0, slots := 0, locals := 24 } : Room) s m #[(.ref a1), (.long q2), (.long q3), (.long q4), (.long q5)] below meth c s₁ [] 0 0 := Stand.of_body Bd
  have e0 : s₁.heap = h0 := by rw [← hh, Bd.state]; rfl
  have N0 := Fr.nil n0
  have K0 : Keep h0 h0 [a1] := Keep.refl _ _
  have pre0 : ∀ tg, Steps p.tables e below (s₁.setTop (mkF m 0 #[.val (.ref a1), .val (.long q2), .second, .val (.long q3), .second, .val (.long q4), .second, .val (.long q5), .second] [])) tg → Steps p.tables e below (s₁.setTop (entryFrame m #[(.ref a1), (.long q2), (.long q3), (.long q4), (.long q5)] 9)) tg := fun tg k => castTop (ef_1 m a1 q2 q3 q4 q5) k
  have st1 : ∀ tg, Steps p.tables e below (s₁.setTop (mkF m 1 #[.val (.ref a1), .val (.long q2), .second, .val (.long q3), .second, .val (.long q4), .second, .val (.long q5), .second] [(.ref a1)])) tg → Steps p.tables e below (s₁.setTop (mkF m 0 #[.val (.ref a1), .val (.long q2), .second, .val (.long q3), .second, .val (.long q4), .second, .val (.long q5), .second] [])) tg := by
    intro tg kt
    refine XS.aloadN X0.here hx rfl (hb hby d1_0) rfl rfl ?_
    exact kt
  obtain ⟨_, _, ⟨T2, L2, k2, n2⟩, -, X2, ⟨Lc2, hQ2, l2, y2, z2⟩, st2⟩ := X0.specialBack hx (y := (⟨"java/lang/Record", "<init>", "()V"⟩ : MethodName)) rfl hown (mvT hZ (hw _ (List.mem_of_getElem? (i := 6) rfl))) (mvT hZ (hw _ (List.mem_of_getElem? (i := 7) rfl))) (mvT hZ (hw _ (List.mem_of_getElem? (i := 10) rfl))) (by decide) (backOf (W := 0) (rm2 l Z a0 hw [] a1 h0 n0 Z0) hZ (hw _ (List.mem_of_getElem? (i := 10) rfl)) (hw _ (List.mem_of_getElem? (i := 9) rfl)) (by decide) (by decide)) (g := (mkF m 1 #[.val (.ref a1), .val (.long q2), .second, .val (.long q3), .second, .val (.long q4), .second, .val (.long q5), .second] [(.ref a1)])) rfl (by rw [hml]; rfl) (Steps.refl _) (a := a1) (argsL := []) (rest := []) (lenOf pd_0 rfl) rfl (by show 2 * 0 + _ ≤ _; exact Nat.le_of_eq rfl) (hb hby d1_1) (fun _ _ => ⟨rfl, e0, (by decide : 0 + 0 ≤ _), (by decide : 0 + 0 ≤ _)⟩)
  dsimp only [Pt.U, Pt.locs, Pt.cells, Pt.slots] at X2 l2 y2 z2 st2 hQ2
  subst l2 y2 z2
  obtain ⟨rfl, N2q, e2⟩ := hQ2
  have N2 := Fr.app N0 N2q
  have st3 : ∀ tg, Steps p.tables e below (T2.setTop (mkF m 6 #[.val (.ref a1), .val (.long q2), .second, .val (.long q3), .second, .val (.long q4), .second, .val (.long q5), .second] [(.long q2), (.ref a1)])) tg → Steps p.tables e below (T2.setTop (mkF m 4 #[.val (.ref a1), .val (.long q2), .second, .val (.long q3), .second, .val (.long q4), .second, .val (.long q5), .second] [])) tg := by
    intro tg kt
    refine XS.aloadN X2.here hx rfl (hb hby d1_4) rfl rfl ?_
    refine XS.lloadN X2.here hx rfl (hb hby d1_5) rfl ?_
    exact kt
  obtain ⟨T4, h4, X4, e4, W4, st4⟩ := putF X2 hx hZ hown (host := "") (Or.inl (hw _ (List.mem_of_getElem? (i := 14) rfl))) Via.refl e2 F_runs E_a1 (Or.inr ⟨(hw _ (List.mem_of_getElem? (i := 15) rfl)), rfl, hnm⟩) (hw _ (List.mem_of_getElem? (i := 1) rfl)) (ty := .long) (by decide) rfl rfl (g := (mkF m 6 #[.val (.ref a1), .val (.long q2), .second, .val (.long q3), .second, .val (.long q4), .second, .val (.long q5), .second] [(.long q2), (.ref a1)])) rfl rfl (hb hby d1_6)
  have N4 := Fr.snoc X4 N2 g_a1
  have K4 : Keep h0 h4 [a1] := K0.wr W4 (Or.inl (List.mem_of_getElem? (i := 0) rfl))
  have Z4 : n0 ≤ h4.size := Nat.le_trans Z0 (Keep.of_wr W4).1
  have G5 : Exa Z h4 a1 "com/example/oriflamme/oriflamme/runtime/RunFigures" := E_a1.wr W4
  have G6 : Fld Z h4 a1 "com/example/oriflamme/oriflamme/runtime/RunFigures" "succeeded" "J" (.long (0 : Int64)) := F_succeeded.other W4 (Or.inr (slot_ne (Or.inr (hw _ (List.mem_of_getElem? (i := 17) rfl))) (Or.inr (hw _ (List.mem_of_getElem? (i := 15) rfl))) (by decide) (t := .long) (t' := .long) (by decide) (by decide)))
  have G7 : Fld Z h4 a1 "com/example/oriflamme/oriflamme/runtime/RunFigures" "failed" "J" (.long (0 : Int64)) := F_failed.other W4 (Or.inr (slot_ne (Or.inr (hw _ (List.mem_of_getElem? (i := 19) rfl))) (Or.inr (hw _ (List.mem_of_getElem? (i := 15) rfl))) (by decide) (t := .long) (t' := .long) (by decide) (by decide)))
  have G8 : Fld Z h4 a1 "com/example/oriflamme/oriflamme/runtime/RunFigures" "totalDurationMs" "J" (.long (0 : Int64)) := F_totalDurationMs.other W4 (Or.inr (slot_ne (Or.inr (hw _ (List.mem_of_getElem? (i := 21) rfl))) (Or.inr (hw _ (List.mem_of_getElem? (i := 15) rfl))) (by decide) (t := .long) (t' := .long) (by decide) (by decide)))
  have G9 : Fld Z h4 a1 "com/example/oriflamme/oriflamme/runtime/RunFigures" "runs" "J" (.long q2) := F_runs.same W4
  have st10 : ∀ tg, Steps p.tables e below (T4.setTop (mkF m 11 #[.val (.ref a1), .val (.long q2), .second, .val (.long q3), .second, .val (.long q4), .second, .val (.long q5), .second] [(.long q3), (.ref a1)])) tg → Steps p.tables e below (T4.setTop (mkF m 9 #[.val (.ref a1), .val (.long q2), .second, .val (.long q3), .second, .val (.long q4), .second, .val (.long q5), .second] [])) tg := by
    intro tg kt
    refine XS.aloadN X4.here hx rfl (hb hby d1_9) rfl rfl ?_
    refine XS.lloadN X4.here hx rfl (hb hby d1_10) rfl ?_
    exact kt
  obtain ⟨T11, h11, X11, e11, W11, st11⟩ := putF X4 hx hZ hown (host := "") (Or.inl (hw _ (List.mem_of_getElem? (i := 16) rfl))) Via.refl e4 G6 G5 (Or.inr ⟨(hw _ (List.mem_of_getElem? (i := 17) rfl)), rfl, hnm⟩) (hw _ (List.mem_of_getElem? (i := 1) rfl)) (ty := .long) (by decide) rfl rfl (g := (mkF m 11 #[.val (.ref a1), .val (.long q2), .second, .val (.long q3), .second, .val (.long q4), .second, .val (.long q5), .second] [(.long q3), (.ref a1)])) rfl rfl (hb hby d1_11)
  have N11 := Fr.snoc X11 N4 g_a1
  have K11 : Keep h0 h11 [a1] := K4.wr W11 (Or.inl (List.mem_of_getElem? (i := 0) rfl))
  have Z11 : n0 ≤ h11.size := Nat.le_trans Z4 (Keep.of_wr W11).1
  have G12 : Exa Z h11 a1 "com/example/oriflamme/oriflamme/runtime/RunFigures" := G5.wr W11
  have G13 : Fld Z h11 a1 "com/example/oriflamme/oriflamme/runtime/RunFigures" "failed" "J" (.long (0 : Int64)) := G7.other W11 (Or.inr (slot_ne (Or.inr (hw _ (List.mem_of_getElem? (i := 19) rfl))) (Or.inr (hw _ (List.mem_of_getElem? (i := 17) rfl))) (by decide) (t := .long) (t' := .long) (by decide) (by decide)))
  have G14 : Fld Z h11 a1 "com/example/oriflamme/oriflamme/runtime/RunFigures" "totalDurationMs" "J" (.long (0 : Int64)) := G8.other W11 (Or.inr (slot_ne (Or.inr (hw _ (List.mem_of_getElem? (i := 21) rfl))) (Or.inr (hw _ (List.mem_of_getElem? (i := 17) rfl))) (by decide) (t := .long) (t' := .long) (by decide) (by decide)))
  have G15 : Fld Z h11 a1 "com/example/oriflamme/oriflamme/runtime/RunFigures" "runs" "J" (.long q2) := G9.other W11 (Or.inr (slot_ne (Or.inr (hw _ (List.mem_of_getElem? (i := 15) rfl))) (Or.inr (hw _ (List.mem_of_getElem? (i := 17) rfl))) (by decide) (t := .long) (t' := .long) (by decide) (by decide)))
  have G16 : Fld Z h11 a1 "com/example/oriflamme/oriflamme/runtime/RunFigures" "succeeded" "J" (.long q3) := G6.same W11
  have st17 : ∀ tg, Steps p.tables e below (T11.setTop (mkF m 17 #[.val (.ref a1), .val (.long q2), .second, .val (.long q3), .second, .val (.long q4), .second, .val (.long q5), .second] [(.long q4), (.ref a1)])) tg → Steps p.tables e below (T11.setTop (mkF m 14 #[.val (.ref a1), .val (.long q2), .second, .val (.long q3), .second, .val (.long q4), .second, .val (.long q5), .second] [])) tg := by
    intro tg kt
    refine XS.aloadN X11.here hx rfl (hb hby d1_14) rfl rfl ?_
    refine XS.lload X11.here hx rfl (hb hby d1_15) rfl ?_
    exact kt
  obtain ⟨T18, h18, X18, e18, W18, st18⟩ := putF X11 hx hZ hown (host := "") (Or.inl (hw _ (List.mem_of_getElem? (i := 18) rfl))) Via.refl e11 G13 G12 (Or.inr ⟨(hw _ (List.mem_of_getElem? (i := 19) rfl)), rfl, hnm⟩) (hw _ (List.mem_of_getElem? (i := 1) rfl)) (ty := .long) (by decide) rfl rfl (g := (mkF m 17 #[.val (.ref a1), .val (.long q2), .second, .val (.long q3), .second, .val (.long q4), .second, .val (.long q5), .second] [(.long q4), (.ref a1)])) rfl rfl (hb hby d1_17)
  have N18 := Fr.snoc X18 N11 g_a1
  have K18 : Keep h0 h18 [a1] := K11.wr W18 (Or.inl (List.mem_of_getElem? (i := 0) rfl))
  have Z18 : n0 ≤ h18.size := Nat.le_trans Z11 (Keep.of_wr W18).1
  have G19 : Exa Z h18 a1 "com/example/oriflamme/oriflamme/runtime/RunFigures" := G12.wr W18
  have G20 : Fld Z h18 a1 "com/example/oriflamme/oriflamme/runtime/RunFigures" "totalDurationMs" "J" (.long (0 : Int64)) := G14.other W18 (Or.inr (slot_ne (Or.inr (hw _ (List.mem_of_getElem? (i := 21) rfl))) (Or.inr (hw _ (List.mem_of_getElem? (i := 19) rfl))) (by decide) (t := .long) (t' := .long) (by decide) (by decide)))
  have G21 : Fld Z h18 a1 "com/example/oriflamme/oriflamme/runtime/RunFigures" "runs" "J" (.long q2) := G15.other W18 (Or.inr (slot_ne (Or.inr (hw _ (List.mem_of_getElem? (i := 15) rfl))) (Or.inr (hw _ (List.mem_of_getElem? (i := 19) rfl))) (by decide) (t := .long) (t' := .long) (by decide) (by decide)))
  have G22 : Fld Z h18 a1 "com/example/oriflamme/oriflamme/runtime/RunFigures" "succeeded" "J" (.long q3) := G16.other W18 (Or.inr (slot_ne (Or.inr (hw _ (List.mem_of_getElem? (i := 17) rfl))) (Or.inr (hw _ (List.mem_of_getElem? (i := 19) rfl))) (by decide) (t := .long) (t' := .long) (by decide) (by decide)))
  have G23 : Fld Z h18 a1 "com/example/oriflamme/oriflamme/runtime/RunFigures" "failed" "J" (.long q4) := G13.same W18
  have st24 : ∀ tg, Steps p.tables e below (T18.setTop (mkF m 23 #[.val (.ref a1), .val (.long q2), .second, .val (.long q3), .second, .val (.long q4), .second, .val (.long q5), .second] [(.long q5), (.ref a1)])) tg → Steps p.tables e below (T18.setTop (mkF m 20 #[.val (.ref a1), .val (.long q2), .second, .val (.long q3), .second, .val (.long q4), .second, .val (.long q5), .second] [])) tg := by
    intro tg kt
    refine XS.aloadN X18.here hx rfl (hb hby d1_20) rfl rfl ?_
    refine XS.lload X18.here hx rfl (hb hby d1_21) rfl ?_
    exact kt
  obtain ⟨T25, h25, X25, e25, W25, st25⟩ := putF X18 hx hZ hown (host := "") (Or.inl (hw _ (List.mem_of_getElem? (i := 20) rfl))) Via.refl e18 G20 G19 (Or.inr ⟨(hw _ (List.mem_of_getElem? (i := 21) rfl)), rfl, hnm⟩) (hw _ (List.mem_of_getElem? (i := 1) rfl)) (ty := .long) (by decide) rfl rfl (g := (mkF m 23 #[.val (.ref a1), .val (.long q2), .second, .val (.long q3), .second, .val (.long q4), .second, .val (.long q5), .second] [(.long q5), (.ref a1)])) rfl rfl (hb hby d1_23)
  have N25 := Fr.snoc X25 N18 g_a1
  have K25 : Keep h0 h25 [a1] := K18.wr W25 (Or.inl (List.mem_of_getElem? (i := 0) rfl))
  have Z25 : n0 ≤ h25.size := Nat.le_trans Z18 (Keep.of_wr W25).1
  have G26 : Exa Z h25 a1 "com/example/oriflamme/oriflamme/runtime/RunFigures" := G19.wr W25
  have G27 : Fld Z h25 a1 "com/example/oriflamme/oriflamme/runtime/RunFigures" "runs" "J" (.long q2) := G21.other W25 (Or.inr (slot_ne (Or.inr (hw _ (List.mem_of_getElem? (i := 15) rfl))) (Or.inr (hw _ (List.mem_of_getElem? (i := 21) rfl))) (by decide) (t := .long) (t' := .long) (by decide) (by decide)))
  have G28 : Fld Z h25 a1 "com/example/oriflamme/oriflamme/runtime/RunFigures" "succeeded" "J" (.long q3) := G22.other W25 (Or.inr (slot_ne (Or.inr (hw _ (List.mem_of_getElem? (i := 17) rfl))) (Or.inr (hw _ (List.mem_of_getElem? (i := 21) rfl))) (by decide) (t := .long) (t' := .long) (by decide) (by decide)))
  have G29 : Fld Z h25 a1 "com/example/oriflamme/oriflamme/runtime/RunFigures" "failed" "J" (.long q4) := G23.other W25 (Or.inr (slot_ne (Or.inr (hw _ (List.mem_of_getElem? (i := 19) rfl))) (Or.inr (hw _ (List.mem_of_getElem? (i := 21) rfl))) (by decide) (t := .long) (t' := .long) (by decide) (by decide)))
  have G30 : Fld Z h25 a1 "com/example/oriflamme/oriflamme/runtime/RunFigures" "totalDurationMs" "J" (.long q5) := G20.same W25
  obtain ⟨fs, hr, hrun, hended, hW, hsame⟩ := X25.leave (v := none) (fun _ => rfl)
  refine ⟨_, _, pre0 _ ?_, hrun, hended, _, _, rfl, ?_, ⟨_, rfl⟩, hW, hsame.mono (by decide) (by decide)⟩
  · refine st1 _ ?_
    show Steps p.tables e below (s₁.setTop (mkF m 1 #[.val (.ref a1), .val (.long q2), .second, .val (.long q3), .second, .val (.long q4), .second, .val (.long q5), .second] [(.ref a1)])) _
    refine st2.trans ?_
    refine st3 _ ?_
    show Steps p.tables e below (T2.setTop (mkF m 6 #[.val (.ref a1), .val (.long q2), .second, .val (.long q3), .second, .val (.long q4), .second, .val (.long q5), .second] [(.long q2), (.ref a1)])) _
    refine st4 _ ?_
    refine st10 _ ?_
    show Steps p.tables e below (T4.setTop (mkF m 11 #[.val (.ref a1), .val (.long q2), .second, .val (.long q3), .second, .val (.long q4), .second, .val (.long q5), .second] [(.long q3), (.ref a1)])) _
    refine st11 _ ?_
    refine st17 _ ?_
    show Steps p.tables e below (T11.setTop (mkF m 17 #[.val (.ref a1), .val (.long q2), .second, .val (.long q3), .second, .val (.long q4), .second, .val (.long q5), .second] [(.long q4), (.ref a1)])) _
    refine st18 _ ?_
    refine st24 _ ?_
    show Steps p.tables e below (T18.setTop (mkF m 23 #[.val (.ref a1), .val (.long q2), .second, .val (.long q3), .second, .val (.long q4), .second, .val (.long q5), .second] [(.long q5), (.ref a1)])) _
    refine st25 _ ?_
    show Steps p.tables e below (T25.setTop (mkF m 26 #[.val (.ref a1), .val (.long q2), .second, .val (.long q3), .second, .val (.long q4), .second, .val (.long q5), .second] [])) _
    exact X25.returnOut hx Bd.returns (hb hby d1_26) hr
  · show Q1 Z a1 q2 q3 q4 q5 h0 n0 _ T25.heap _
    rw [e25]
    exact ⟨rfl, N25, K25, G26, G27, G28, G29, G30⟩
theorem d6_0 : decode jdk_117_method_9_code 0 = .ok (.aload_n 0, 1) := by decide +kernel
theorem d6_1 : decode jdk_117_method_9_code 1 = .ok (.invokespecial 113, 3) := by decide +kernel
theorem d6_4 : decode jdk_117_method_9_code 4 = .ok (.aload_n 0, 1) := by decide +kernel
theorem d6_5 : decode jdk_117_method_9_code 5 = .ok (.dload_n 1, 1) := by decide +kernel
theorem d6_6 : decode jdk_117_method_9_code 6 = .ok (.putfield 118, 3) := by decide +kernel
theorem d6_9 : decode jdk_117_method_9_code 9 = .ok (.return_, 1) := by decide +kernel
theorem pn_6 : plainName "java/lang/Double" = true := by first | (simp [plainName, overriddenIn]; done) | decide +kernel
theorem ef_6 (m : MethodId) (a1 : Addr) (f2 : UInt64) : entryFrame m #[(.ref a1), (.double f2)] 3 = mkF m 0 #[.val (.ref a1), .val (.double f2), .second] [] := by first | (simp [entryFrame, mkF, argsToLocals, Value.category]; done) | rfl
def Q6 (Z : State) (a1 : Addr) (f2 : UInt64) (h0 : Heap) (n0 : Nat) (v : Option Value) (h : Heap) (L : List Loc) : Prop := v = none ∧ Fr n0 L ∧ Keep h0 h [a1] ∧ Exa Z h a1 "java/lang/Double" ∧ Fld Z h a1 "java/lang/Double" "value" "D" (.double f2)
set_option maxRecDepth 65536 in
set_option maxHeartbeats 40000000 in
theorem rm6 (l : Launch) (Z : State) (a0 : Array Value) (hw : ∀ d ∈ tables_1, d.before a0 Z = true) (ws : List Jvm.Cond) (a1 : Addr) (f2 : UInt64) (h0 : Heap) (n0 : Nat) (Z0 : n0 ≤ h0.size) (F_value : Fld Z h0 a1 "java/lang/Double" "value" "D" (.double (0 : UInt64))) (E_a1 : Exa Z h0 a1 "java/lang/Double") (g_a1 : n0 ≤ a1) :
    MetFree l (⟨"java/lang/Double", "<init>", "(D)V"⟩ : MethodName) (head1 (Jvm.Cond.code (⟨"java/lang/Double", "<init>", "(D)V"⟩ : MethodName) jdk_117_method_9_code 3 none :: ws) ({ frames := 2, cells := 0, slots := 0, locals := 24 } : Room)) (fun a U => a = #[(.ref a1), (.double f2)] ∧ Z.Warmed39 U.vm ∧ U.heap = h0) (fun _ _ _ _ _ => True) (fun _ U oo U' => ∃ v L, oo = .returned v ∧ Q6 Z a1 f2 h0 n0 v U'.heap L ∧ FrameEnd U oo U' L ({ frames := 2, cells := 0, slots := 0, locals := 24 } : Room).cells ({ frames := 2, cells := 0, slots := 0, locals := 24 } : Room).slots) := by
  refine MetFree.of_bodySF (plainFor_of_name pn_6) hisR ?_
  intro p e s m args below meth c s₁ Bd hml0 hP hK
  obtain ⟨rfl, hZ, hh⟩ := hP
  have hx := Bd.exec
  have hby := Bd.bytes
  have hml : c.maxLocals = 3 := hml0
  have hown : s.vm.findClass "java/lang/Double" = some m.cls := findClass_of_methodNamed Bd.named
  have hnm := (name_of_methodNamed Bd.named Bd.method).1
  have X0 : Stand p l e ({ frames := 2, cells := 0, slots := 0, locals := 24 } : Room) s m #[(.ref a1), (.double f2)] below meth c s₁ [] 0 0 := Stand.of_body Bd
  have e0 : s₁.heap = h0 := by rw [← hh, Bd.state]; rfl
  have N0 := Fr.nil n0
  have K0 : Keep h0 h0 [a1] := Keep.refl _ _
  have pre0 : ∀ tg, Steps p.tables e below (s₁.setTop (mkF m 0 #[.val (.ref a1), .val (.double f2), .second] [])) tg → Steps p.tables e below (s₁.setTop (entryFrame m #[(.ref a1), (.double f2)] 3)) tg := fun tg k => castTop (ef_6 m a1 f2) k
  have st1 : ∀ tg, Steps p.tables e below (s₁.setTop (mkF m 1 #[.val (.ref a1), .val (.double f2), .second] [(.ref a1)])) tg → Steps p.tables e below (s₁.setTop (mkF m 0 #[.val (.ref a1), .val (.double f2), .second] [])) tg := by
    intro tg kt
    refine XS.aloadN X0.here hx rfl (hb hby d6_0) rfl rfl ?_
    exact kt
  obtain ⟨_, _, ⟨T2, L2, k2, n2⟩, -, X2, ⟨Lc2, hQ2, l2, y2, z2⟩, st2⟩ := X0.specialBack hx (y := (⟨"java/lang/Number", "<init>", "()V"⟩ : MethodName)) rfl hown (mvT hZ (hw _ (List.mem_of_getElem? (i := 37) rfl))) (mvT hZ (hw _ (List.mem_of_getElem? (i := 38) rfl))) (mvT hZ (hw _ (List.mem_of_getElem? (i := 42) rfl))) (by decide) (backOf (W := 0) (rm7 l Z a0 hw [] a1 h0 n0 Z0) hZ (hw _ (List.mem_of_getElem? (i := 42) rfl)) (hw _ (List.mem_of_getElem? (i := 41) rfl)) (by decide) (by decide)) (g := (mkF m 1 #[.val (.ref a1), .val (.double f2), .second] [(.ref a1)])) rfl (by rw [hml]; rfl) (Steps.refl _) (a := a1) (argsL := []) (rest := []) (lenOf pd_0 rfl) rfl (by show 2 * 0 + _ ≤ _; exact Nat.le_of_eq rfl) (hb hby d6_1) (fun _ _ => ⟨rfl, e0, (by decide : 0 + 0 ≤ _), (by decide : 0 + 0 ≤ _)⟩)
  dsimp only [Pt.U, Pt.locs, Pt.cells, Pt.slots] at X2 l2 y2 z2 st2 hQ2
  subst l2 y2 z2
  obtain ⟨rfl, N2q, e2⟩ := hQ2
  have N2 := Fr.app N0 N2q
  have st3 : ∀ tg, Steps p.tables e below (T2.setTop (mkF m 6 #[.val (.ref a1), .val (.double f2), .second] [(.double f2), (.ref a1)])) tg → Steps p.tables e below (T2.setTop (mkF m 4 #[.val (.ref a1), .val (.double f2), .second] [])) tg := by
    intro tg kt
    refine XS.aloadN X2.here hx rfl (hb hby d6_4) rfl rfl ?_
    refine XS.dloadN X2.here hx rfl (hb hby d6_5) rfl ?_
    exact kt
  obtain ⟨T4, h4, X4, e4, W4, st4⟩ := putF X2 hx hZ hown (host := "") (Or.inl (hw _ (List.mem_of_getElem? (i := 44) rfl))) Via.refl e2 F_value E_a1 (Or.inr ⟨(hw _ (List.mem_of_getElem? (i := 45) rfl)), rfl, hnm⟩) (hw _ (List.mem_of_getElem? (i := 32) rfl)) (ty := .double) (by decide) rfl rfl (g := (mkF m 6 #[.val (.ref a1), .val (.double f2), .second] [(.double f2), (.ref a1)])) rfl rfl (hb hby d6_6)
  have N4 := Fr.snoc X4 N2 g_a1
  have K4 : Keep h0 h4 [a1] := K0.wr W4 (Or.inl (List.mem_of_getElem? (i := 0) rfl))
  have Z4 : n0 ≤ h4.size := Nat.le_trans Z0 (Keep.of_wr W4).1
  have G5 : Exa Z h4 a1 "java/lang/Double" := E_a1.wr W4
  have G6 : Fld Z h4 a1 "java/lang/Double" "value" "D" (.double f2) := F_value.same W4
  obtain ⟨fs, hr, hrun, hended, hW, hsame⟩ := X4.leave (v := none) (fun _ => rfl)
  refine ⟨_, _, pre0 _ ?_, hrun, hended, _, _, rfl, ?_, ⟨_, rfl⟩, hW, hsame.mono (by decide) (by decide)⟩
  · refine st1 _ ?_
    show Steps p.tables e below (s₁.setTop (mkF m 1 #[.val (.ref a1), .val (.double f2), .second] [(.ref a1)])) _
    refine st2.trans ?_
    refine st3 _ ?_
    show Steps p.tables e below (T2.setTop (mkF m 6 #[.val (.ref a1), .val (.double f2), .second] [(.double f2), (.ref a1)])) _
    refine st4 _ ?_
    show Steps p.tables e below (T4.setTop (mkF m 9 #[.val (.ref a1), .val (.double f2), .second] [])) _
    exact X4.returnOut hx Bd.returns (hb hby d6_9) hr
  · show Q6 Z a1 f2 h0 n0 _ T4.heap _
    rw [e4]
    exact ⟨rfl, N4, K4, G5, G6⟩
theorem d5_0 : decode jdk_117_method_4_code 0 = .ok (.new 1, 3) := by decide +kernel
theorem d5_3 : decode jdk_117_method_4_code 3 = .ok (.dup, 1) := by decide +kernel
theorem d5_4 : decode jdk_117_method_4_code 4 = .ok (.dload_n 0, 1) := by decide +kernel
theorem d5_5 : decode jdk_117_method_4_code 5 = .ok (.invokespecial 105, 3) := by decide +kernel
theorem d5_8 : decode jdk_117_method_4_code 8 = .ok (.areturn, 1) := by decide +kernel
theorem pn_5 : plainName "java/lang/Double" = true := by first | (simp [plainName, overriddenIn]; done) | decide +kernel
theorem ef_5 (m : MethodId) (f1 : UInt64) : entryFrame m #[(.double f1)] 2 = mkF m 0 #[.val (.double f1), .second] [] := by first | (simp [entryFrame, mkF, argsToLocals, Value.category]; done) | rfl
def Q5 (Z : State) (f1 : UInt64) (h0 : Heap) (n0 : Nat) (v : Option Value) (h : Heap) (L : List Loc) : Prop := ∃ b, v = some (.ref b) ∧ Fr n0 L ∧ Keep h0 h [] ∧ n0 ≤ b ∧ h0.size ≤ b ∧ Exa Z h b "java/lang/Double" ∧ Fld Z h b "java/lang/Double" "value" "D" (.double f1)
set_option maxRecDepth 65536 in
set_option maxHeartbeats 40000000 in
theorem rm5 (l : Launch) (Z : State) (a0 : Array Value) (hw : ∀ d ∈ tables_1, d.before a0 Z = true) (ws : List Jvm.Cond) (f1 : UInt64) (h0 : Heap) (n0 : Nat) (Z0 : n0 ≤ h0.size) :
    MetFree l (⟨"java/lang/Double", "valueOf", "(D)Ljava/lang/Double;"⟩ : MethodName) (head1 (Jvm.Cond.code (⟨"java/lang/Double", "valueOf", "(D)Ljava/lang/Double;"⟩ : MethodName) jdk_117_method_4_code 2 (some (.object "java/lang/Double")) :: ws) ({ frames := 3, cells := 1, slots := 1, locals := 39 } : Room)) (fun a U => a = #[(.double f1)] ∧ Z.Warmed39 U.vm ∧ U.heap = h0) (fun _ _ _ _ _ => True) (fun _ U oo U' => ∃ v L, oo = .returned v ∧ Q5 Z f1 h0 n0 v U'.heap L ∧ FrameEnd U oo U' L ({ frames := 3, cells := 1, slots := 1, locals := 39 } : Room).cells ({ frames := 3, cells := 1, slots := 1, locals := 39 } : Room).slots) := by
  refine MetFree.of_bodySF (plainFor_of_name pn_5) hisR ?_
  intro p e s m args below meth c s₁ Bd hml0 hP hK
  obtain ⟨rfl, hZ, hh⟩ := hP
  have hx := Bd.exec
  have hby := Bd.bytes
  have hml : c.maxLocals = 2 := hml0
  have hown : s.vm.findClass "java/lang/Double" = some m.cls := findClass_of_methodNamed Bd.named
  have hnm := (name_of_methodNamed Bd.named Bd.method).1
  have X0 : Stand p l e ({ frames := 3, cells := 1, slots := 1, locals := 39 } : Room) s m #[(.double f1)] below meth c s₁ [] 0 0 := Stand.of_body Bd
  have e0 : s₁.heap = h0 := by rw [← hh, Bd.state]; rfl
  have N0 := Fr.nil n0
  have K0 : Keep h0 h0 [] := Keep.refl _ _
  have pre0 : ∀ tg, Steps p.tables e below (s₁.setTop (mkF m 0 #[.val (.double f1), .second] [])) tg → Steps p.tables e below (s₁.setTop (entryFrame m #[(.double f1)] 2)) tg := fun tg k => castTop (ef_5 m f1) k
  obtain ⟨T1, h1, X1, e1, E1, A1, D1, -, st1⟩ := newO X0 hx hZ hown (hw _ (List.mem_of_getElem? (i := 31) rfl)) (hw _ (List.mem_of_getElem? (i := 32) rfl)) (hw _ (List.mem_of_getElem? (i := 29) rfl)) e0 (g := (mkF m 0 #[.val (.double f1), .second] [])) rfl (hb hby d5_0) (by decide) (by decide)
  obtain ⟨b1, gz1⟩ : ∃ z, z = h0.size := ⟨_, rfl⟩
  rw [← gz1] at A1 D1 st1
  have g_b1 : n0 ≤ b1 := Nat.le_trans Z0 (Nat.le_of_eq gz1.symm)
  have sz_b1 : h0.size ≤ b1 := Nat.le_trans K0.1 (Nat.le_of_eq gz1.symm)
  have K1 : Keep h0 h1 [] := K0.ext E1
  have Z1 : n0 ≤ h1.size := Nat.le_trans Z0 E1.1
  have G2 : Exa Z h1 b1 "java/lang/Double" := A1
  have G3 : Fld Z h1 b1 "java/lang/Double" "value" "D" (.double (0 : UInt64)) := D1 (Or.inr (hw _ (List.mem_of_getElem? (i := 45) rfl))) (ty := .double) (by decide)
  have st4 : ∀ tg, Steps p.tables e below (T1.setTop (mkF m 5 #[.val (.double f1), .second] [(.double f1), (.ref b1), (.ref b1)])) tg → Steps p.tables e below (T1.setTop (mkF m 3 #[.val (.double f1), .second] [(.ref b1)])) tg := by
    intro tg kt
    refine XS.dup X1.here hx rfl (hb hby d5_3) rfl rfl ?_
    refine XS.dloadN X1.here hx rfl (hb hby d5_4) rfl ?_
    exact kt
  obtain ⟨_, _, ⟨T5, L5, k5, n5⟩, -, X5, ⟨Lc5, hQ5, l5, y5, z5⟩, st5⟩ := X1.specialBack hx (y := (⟨"java/lang/Double", "<init>", "(D)V"⟩ : MethodName)) rfl hown (mvT hZ (hw _ (List.mem_of_getElem? (i := 33) rfl))) (mvT hZ (hw _ (List.mem_of_getElem? (i := 34) rfl))) (mvT hZ (hw _ (List.mem_of_getElem? (i := 36) rfl))) (by decide) (backOf (W := 1) (rm6 l Z a0 hw [] b1 f1 h1 n0 Z1 G3 G2 g_b1) hZ (hw _ (List.mem_of_getElem? (i := 36) rfl)) (hw _ (List.mem_of_getElem? (i := 29) rfl)) (by decide) (by decide)) (g := (mkF m 5 #[.val (.double f1), .second] [(.double f1), (.ref b1), (.ref b1)])) rfl (by rw [hml]; rfl) (Steps.refl _) (a := b1) (argsL := [(.double f1)]) (rest := [(.ref b1)]) (lenOf pd_1 rfl) rfl (by show 2 * 0 + _ ≤ _; exact Nat.le_of_eq rfl) (hb hby d5_5) (fun _ _ => ⟨rfl, e1, (by decide : 1 + 0 ≤ _), (by decide : 1 + 0 ≤ _)⟩)
  dsimp only [Pt.U, Pt.locs, Pt.cells, Pt.slots] at X5 l5 y5 z5 st5 hQ5
  subst l5 y5 z5
  obtain ⟨rfl, N5q, K5q, E5q, F5q0⟩ := hQ5
  have N5 := Fr.app N0 N5q
  have G6 : Exa Z T5.heap b1 "java/lang/Double" := G2.keep K5q
  have K5 : Keep h0 T5.heap [] := K1.trans K5q (allS (Or.inr sz_b1) all0)
  have Z5 : n0 ≤ T5.heap.size := Nat.le_trans Z1 K5q.1
  obtain ⟨fs, hr, hrun, hended, hW, hsame⟩ := X5.leave (v := some (.ref b1)) (fun h => by rw [Bd.returns] at h; cases h)
  refine ⟨_, _, pre0 _ ?_, hrun, hended, _, _, rfl, ?_, ⟨_, rfl⟩, hW, hsame.mono (by decide) (by decide)⟩
  · show Steps p.tables e below (s₁.setTop (mkF m 0 #[.val (.double f1), .second] [])) _
    refine st1 _ ?_
    refine st4 _ ?_
    show Steps p.tables e below (T1.setTop (mkF m 5 #[.val (.double f1), .second] [(.double f1), (.ref b1), (.ref b1)])) _
    refine st5.trans ?_
    show Steps p.tables e below (T5.setTop (mkF m 8 #[.val (.double f1), .second] [(.ref b1)])) _
    exact retOut X5 hx Bd.returns rfl (Or.inr (Or.inr (Or.inr (Or.inr ⟨rfl, rfl, rfl⟩)))) (hb hby d5_8) hr
  · show Q5 Z f1 h0 n0 _ T5.heap _
    skip
    exact ⟨b1, rfl, N5, K5, g_b1, sz_b1, E5q, F5q0⟩
theorem d4_0 : decode prog_71_method_4_code 0 = .ok (.aload_n 0, 1) := by decide +kernel
theorem d4_1 : decode prog_71_method_4_code 1 = .ok (.getfield 7, 3) := by decide +kernel
theorem d4_4 : decode prog_71_method_4_code 4 = .ok (.lconst 0, 1) := by decide +kernel
theorem d4_5 : decode prog_71_method_4_code 5 = .ok (.lcmp, 1) := by decide +kernel
theorem d4_6 : decode prog_71_method_4_code 6 = .ok (.ifCond .ne 7, 3) := by decide +kernel
theorem d4_13 : decode prog_71_method_4_code 13 = .ok (.aload_n 0, 1) := by decide +kernel
theorem d4_14 : decode prog_71_method_4_code 14 = .ok (.getfield 19, 3) := by decide +kernel
theorem d4_17 : decode prog_71_method_4_code 17 = .ok (.l2d, 1) := by decide +kernel
theorem d4_18 : decode prog_71_method_4_code 18 = .ok (.aload_n 0, 1) := by decide +kernel
theorem d4_19 : decode prog_71_method_4_code 19 = .ok (.getfield 7, 3) := by decide +kernel
theorem d4_22 : decode prog_71_method_4_code 22 = .ok (.l2d, 1) := by decide +kernel
theorem d4_23 : decode prog_71_method_4_code 23 = .ok (.ddiv, 1) := by decide +kernel
theorem d4_24 : decode prog_71_method_4_code 24 = .ok (.invokestatic 47, 3) := by decide +kernel
theorem d4_27 : decode prog_71_method_4_code 27 = .ok (.areturn, 1) := by decide +kernel
theorem pn_4 : plainName "com/example/oriflamme/oriflamme/runtime/RunFigures" = true := by first | (simp [plainName, overriddenIn]; done) | decide +kernel
theorem ef_4 (m : MethodId) (a1 : Addr) : entryFrame m #[(.ref a1)] 1 = mkF m 0 #[.val (.ref a1)] [] := by first | (simp [entryFrame, mkF, argsToLocals, Value.category]; done) | rfl
def Q4 (Z : State) (a1 : Addr) (r : Int64) (t : Int64) (h0 : Heap) (n0 : Nat) (v : Option Value) (h : Heap) (L : List Loc) : Prop := ∃ b, v = some (.ref b) ∧ Fr n0 L ∧ Keep h0 h [] ∧ n0 ≤ b ∧ h0.size ≤ b ∧ Exa Z h b "java/lang/Double" ∧ Fld Z h b "java/lang/Double" "value" "D" (.double (FP.ddiv (FP.l2d t) (FP.l2d r)))
set_option maxRecDepth 65536 in
set_option maxHeartbeats 40000000 in
theorem rm4 (l : Launch) (Z : State) (a0 : Array Value) (hw : ∀ d ∈ tables_1, d.before a0 Z = true) (ws : List Jvm.Cond) (a1 : Addr) (r : Int64) (t : Int64) (h0 : Heap) (n0 : Nat) (Z0 : n0 ≤ h0.size) (F_r : Fld Z h0 a1 "com/example/oriflamme/oriflamme/runtime/RunFigures" "runs" "J" (.long r)) (F_t : Fld Z h0 a1 "com/example/oriflamme/oriflamme/runtime/RunFigures" "totalDurationMs" "J" (.long t)) (hr0 : ¬ (r = (0 : Int64))) :
    MetFree l (⟨"com/example/oriflamme/oriflamme/runtime/RunFigures", "averageDurationMs", "()Ljava/lang/Double;"⟩ : MethodName) (head1 (Jvm.Cond.code (⟨"com/example/oriflamme/oriflamme/runtime/RunFigures", "averageDurationMs", "()Ljava/lang/Double;"⟩ : MethodName) prog_71_method_4_code 1 (some (.object "java/lang/Double")) :: ws) ({ frames := 4, cells := 1, slots := 1, locals := 52 } : Room)) (fun a U => a = #[(.ref a1)] ∧ Z.Warmed39 U.vm ∧ U.heap = h0) (fun _ _ _ _ _ => True) (fun _ U oo U' => ∃ v L, oo = .returned v ∧ Q4 Z a1 r t h0 n0 v U'.heap L ∧ FrameEnd U oo U' L ({ frames := 4, cells := 1, slots := 1, locals := 52 } : Room).cells ({ frames := 4, cells := 1, slots := 1, locals := 52 } : Room).slots) := by
  refine MetFree.of_bodySF (plainFor_of_name pn_4) hisR ?_
  intro p e s m args below meth c s₁ Bd hml0 hP hK
  obtain ⟨rfl, hZ, hh⟩ := hP
  have hx := Bd.exec
  have hby := Bd.bytes
  have hml : c.maxLocals = 1 := hml0
  have hown : s.vm.findClass "com/example/oriflamme/oriflamme/runtime/RunFigures" = some m.cls := findClass_of_methodNamed Bd.named
  have hnm := (name_of_methodNamed Bd.named Bd.method).1
  have X0 : Stand p l e ({ frames := 4, cells := 1, slots := 1, locals := 52 } : Room) s m #[(.ref a1)] below meth c s₁ [] 0 0 := Stand.of_body Bd
  have e0 : s₁.heap = h0 := by rw [← hh, Bd.state]; rfl
  have N0 := Fr.nil n0
  have K0 : Keep h0 h0 [] := Keep.refl _ _
  have pre0 : ∀ tg, Steps p.tables e below (s₁.setTop (mkF m 0 #[.val (.ref a1)] [])) tg → Steps p.tables e below (s₁.setTop (entryFrame m #[(.ref a1)] 1)) tg := fun tg k => castTop (ef_4 m a1) k
  have st1 : ∀ tg, Steps p.tables e below (s₁.setTop (mkF m 1 #[.val (.ref a1)] [(.ref a1)])) tg → Steps p.tables e below (s₁.setTop (mkF m 0 #[.val (.ref a1)] [])) tg := by
    intro tg kt
    refine XS.aloadN X0.here hx rfl (hb hby d4_0) rfl rfl ?_
    exact kt
  obtain ⟨T2, X2, e2, st2⟩ := getF X0 hx hZ hown (host := "") (Or.inl (hw _ (List.mem_of_getElem? (i := 14) rfl))) Via.refl e0 F_r (g := (mkF m 1 #[.val (.ref a1)] [(.ref a1)])) rfl rfl (hb hby d4_1)
  have st3 : ∀ tg, Steps p.tables e below (T2.setTop (mkF m 14 #[.val (.ref a1)] [(.ref a1)])) tg → Steps p.tables e below (T2.setTop (mkF m 4 #[.val (.ref a1)] [(.long r)])) tg := by
    intro tg kt
    refine XS.lconst X2.here hx rfl (hb hby d4_4) ?_
    refine XS.lcmp X2.here hx rfl (hb hby d4_5) rfl ?_
    refine XS.ifYes X2.here hx rfl (pc0 := 6) (pc' := 13) rfl (hb hby d4_6) rfl (XT.ll_ne_t hr0) (by decide) (by decide) ?_
    refine XS.aloadN X2.here hx rfl (hb hby d4_13) rfl rfl ?_
    exact kt
  obtain ⟨T4, X4, e4, st4⟩ := getF X2 hx hZ hown (host := "") (Or.inl (hw _ (List.mem_of_getElem? (i := 20) rfl))) Via.refl e2 F_t (g := (mkF m 14 #[.val (.ref a1)] [(.ref a1)])) rfl rfl (hb hby d4_14)
  have st5 : ∀ tg, Steps p.tables e below (T4.setTop (mkF m 19 #[.val (.ref a1)] [(.ref a1), (.double (FP.l2d t))])) tg → Steps p.tables e below (T4.setTop (mkF m 17 #[.val (.ref a1)] [(.long t)])) tg := by
    intro tg kt
    refine XS.l2dS X4.here hx rfl (hb hby d4_17) rfl rfl ?_
    refine XS.aloadN X4.here hx rfl (hb hby d4_18) rfl rfl ?_
    exact kt
  obtain ⟨T6, X6, e6, st6⟩ := getF X4 hx hZ hown (host := "") (Or.inl (hw _ (List.mem_of_getElem? (i := 14) rfl))) Via.refl e4 F_r (g := (mkF m 19 #[.val (.ref a1)] [(.ref a1), (.double (FP.l2d t))])) rfl rfl (hb hby d4_19)
  have st7 : ∀ tg, Steps p.tables e below (T6.setTop (mkF m 24 #[.val (.ref a1)] [(.double (FP.ddiv (FP.l2d t) (FP.l2d r)))])) tg → Steps p.tables e below (T6.setTop (mkF m 22 #[.val (.ref a1)] [(.long r), (.double (FP.l2d t))])) tg := by
    intro tg kt
    refine XS.l2dS X6.here hx rfl (hb hby d4_22) rfl rfl ?_
    refine XS.ddivS X6.here hx rfl (hb hby d4_23) rfl (Jvm.Free.Fl.ddiv_out (Jvm.Free.Fl.l2d_fin _).noNaN (Jvm.Free.Fl.l2d_fin _) (Jvm.Free.Fl.l2d_nz hr0)) rfl ?_
    exact kt
  obtain ⟨_, _, ⟨T8, L8, k8, n8⟩, -, X8, ⟨Lc8, hQ8, l8, y8, z8⟩, st8⟩ := Jvm.LawKit.callS X6 hx (y := (⟨"java/lang/Double", "valueOf", "(D)Ljava/lang/Double;"⟩ : MethodName)) hown (mvT hZ (hw _ (List.mem_of_getElem? (i := 27) rfl))) (mvT hZ (hw _ (List.mem_of_getElem? (i := 28) rfl))) (mvT hZ (hw _ (List.mem_of_getElem? (i := 29) rfl))) (mvT hZ (hw _ (List.mem_of_getElem? (i := 30) rfl))) (by decide) (backOf (W := 0) (rm5 l Z a0 hw [] (FP.ddiv (FP.l2d t) (FP.l2d r)) h0 n0 Z0) hZ (hw _ (List.mem_of_getElem? (i := 30) rfl)) (hw _ (List.mem_of_getElem? (i := 29) rfl)) (by decide) (by decide)) (g := (mkF m 24 #[.val (.ref a1)] [(.double (FP.ddiv (FP.l2d t) (FP.l2d r)))])) rfl (by rw [hml]; rfl) (argsL := [(.double (FP.ddiv (FP.l2d t) (FP.l2d r)))]) (rest := []) (lenOf pd_2 rfl) rfl (by show 2 * 0 + _ ≤ _; exact Nat.le_of_eq rfl) (hb hby d4_24) (fun _ _ => ⟨rfl, e6, (by decide : 0 + 1 ≤ _), (by decide : 0 + 1 ≤ _)⟩)
  dsimp only [Pt.U, Pt.locs, Pt.cells, Pt.slots] at X8 l8 y8 z8 st8 hQ8
  subst l8 y8 z8
  obtain ⟨b8, rfl, N8q, K8q, g_b8, sz8q, Ex8, Fv8⟩ := hQ8
  have N8 := Fr.app N0 N8q
  have ne_a1_b8 : a1 ≠ b8 := Nat.ne_of_lt (Nat.lt_of_lt_of_le F_r.lt sz8q)
  have sz_b8 : h0.size ≤ b8 := Nat.le_trans K0.1 sz8q
  have G9 : Fld Z T8.heap a1 "com/example/oriflamme/oriflamme/runtime/RunFigures" "runs" "J" (.long r) := F_r.keep K8q (nin0)
  have G10 : Fld Z T8.heap a1 "com/example/oriflamme/oriflamme/runtime/RunFigures" "totalDurationMs" "J" (.long t) := F_t.keep K8q (nin0)
  have K8 : Keep h0 T8.heap [] := K0.trans K8q all0
  have Z8 : n0 ≤ T8.heap.size := Nat.le_trans Z0 K8q.1
  obtain ⟨fs, hr, hrun, hended, hW, hsame⟩ := X8.leave (v := some (.ref b8)) (fun h => by rw [Bd.returns] at h; cases h)
  refine ⟨_, _, pre0 _ ?_, hrun, hended, _, _, rfl, ?_, ⟨_, rfl⟩, hW, hsame.mono (by decide) (by decide)⟩
  · refine st1 _ ?_
    show Steps p.tables e below (s₁.setTop (mkF m 1 #[.val (.ref a1)] [(.ref a1)])) _
    refine st2 _ ?_
    refine st3 _ ?_
    show Steps p.tables e below (T2.setTop (mkF m 14 #[.val (.ref a1)] [(.ref a1)])) _
    refine st4 _ ?_
    refine st5 _ ?_
    show Steps p.tables e below (T4.setTop (mkF m 19 #[.val (.ref a1)] [(.ref a1), (.double (FP.l2d t))])) _
    refine st6 _ ?_
    refine st7 _ ?_
    show Steps p.tables e below (T6.setTop (mkF m 24 #[.val (.ref a1)] [(.double (FP.ddiv (FP.l2d t) (FP.l2d r)))])) _
    refine st8 _ ?_
    show Steps p.tables e below (T8.setTop (mkF m 27 #[.val (.ref a1)] [(.ref b8)])) _
    exact retOut X8 hx Bd.returns rfl (Or.inr (Or.inr (Or.inr (Or.inr ⟨rfl, rfl, rfl⟩)))) (hb hby d4_27) hr
  · show Q4 Z a1 r t h0 n0 _ T8.heap _
    skip
    exact ⟨b8, rfl, N8, K8, g_b8, sz_b8, Ex8, Fv8⟩
theorem d4_9 : decode prog_71_method_4_code 9 = .ok (.aconst_null, 1) := by decide +kernel
theorem d4_10 : decode prog_71_method_4_code 10 = .ok (.goto 17, 3) := by decide +kernel
theorem ef_4n (m : MethodId) (a1 : Addr) : entryFrame m #[(.ref a1)] 1 = mkF m 0 #[.val (.ref a1)] [] := by first | (simp [entryFrame, mkF, argsToLocals, Value.category]; done) | rfl
def Q4n (Z : State) (a1 : Addr) (h0 : Heap) (n0 : Nat) (v : Option Value) (h : Heap) (L : List Loc) : Prop := v = some .null ∧ Fr n0 L ∧ h = h0
set_option maxRecDepth 65536 in
set_option maxHeartbeats 40000000 in
theorem rm4n (l : Launch) (Z : State) (a0 : Array Value) (hw : ∀ d ∈ tables_1, d.before a0 Z = true) (ws : List Jvm.Cond) (a1 : Addr) (h0 : Heap) (n0 : Nat) (Z0 : n0 ≤ h0.size) (F_r : Fld Z h0 a1 "com/example/oriflamme/oriflamme/runtime/RunFigures" "runs" "J" (.long (0 : Int64))) :
    MetFree l (⟨"com/example/oriflamme/oriflamme/runtime/RunFigures", "averageDurationMs", "()Ljava/lang/Double;"⟩ : MethodName) (head1 (Jvm.Cond.code (⟨"com/example/oriflamme/oriflamme/runtime/RunFigures", "averageDurationMs", "()Ljava/lang/Double;"⟩ : MethodName) prog_71_method_4_code 1 (some (.object "java/lang/Double")) :: ws) ({ frames := 0, cells := 0, slots := 0, locals := 0 } : Room)) (fun a U => a = #[(.ref a1)] ∧ Z.Warmed39 U.vm ∧ U.heap = h0) (fun _ _ _ _ _ => True) (fun _ U oo U' => ∃ v L, oo = .returned v ∧ Q4n Z a1 h0 n0 v U'.heap L ∧ FrameEnd U oo U' L ({ frames := 0, cells := 0, slots := 0, locals := 0 } : Room).cells ({ frames := 0, cells := 0, slots := 0, locals := 0 } : Room).slots) := by
  refine MetFree.of_bodySF (plainFor_of_name pn_4) hisR ?_
  intro p e s m args below meth c s₁ Bd hml0 hP hK
  obtain ⟨rfl, hZ, hh⟩ := hP
  have hx := Bd.exec
  have hby := Bd.bytes
  have hml : c.maxLocals = 1 := hml0
  have hown : s.vm.findClass "com/example/oriflamme/oriflamme/runtime/RunFigures" = some m.cls := findClass_of_methodNamed Bd.named
  have hnm := (name_of_methodNamed Bd.named Bd.method).1
  have X0 : Stand p l e ({ frames := 0, cells := 0, slots := 0, locals := 0 } : Room) s m #[(.ref a1)] below meth c s₁ [] 0 0 := Stand.of_body Bd
  have e0 : s₁.heap = h0 := by rw [← hh, Bd.state]; rfl
  have N0 := Fr.nil n0
  have K0 : Keep h0 h0 [] := Keep.refl _ _
  have pre0 : ∀ tg, Steps p.tables e below (s₁.setTop (mkF m 0 #[.val (.ref a1)] [])) tg → Steps p.tables e below (s₁.setTop (entryFrame m #[(.ref a1)] 1)) tg := fun tg k => castTop (ef_4n m a1) k
  have st1 : ∀ tg, Steps p.tables e below (s₁.setTop (mkF m 1 #[.val (.ref a1)] [(.ref a1)])) tg → Steps p.tables e below (s₁.setTop (mkF m 0 #[.val (.ref a1)] [])) tg := by
    intro tg kt
    refine XS.aloadN X0.here hx rfl (hb hby d4_0) rfl rfl ?_
    exact kt
  obtain ⟨T2, X2, e2, st2⟩ := getF X0 hx hZ hown (host := "") (Or.inl (hw _ (List.mem_of_getElem? (i := 14) rfl))) Via.refl e0 F_r (g := (mkF m 1 #[.val (.ref a1)] [(.ref a1)])) rfl rfl (hb hby d4_1)
  have st3 : ∀ tg, Steps p.tables e below (T2.setTop (mkF m 27 #[.val (.ref a1)] [.null])) tg → Steps p.tables e below (T2.setTop (mkF m 4 #[.val (.ref a1)] [(.long (0 : Int64))])) tg := by
    intro tg kt
    refine XS.lconst X2.here hx rfl (hb hby d4_4) ?_
    refine XS.lcmp X2.here hx rfl (hb hby d4_5) rfl ?_
    refine XS.ifNo X2.here hx rfl (hb hby d4_6) rfl (XT.ll_ne_f (by decide)) ?_
    refine XS.aconstNull X2.here hx rfl (hb hby d4_9) ?_
    show Steps p.tables e below (T2.setTop (mkF m 10 #[.val (.ref a1)] [.null])) tg
    refine XS.goto X2.here hx rfl (pc0 := 10) (pc' := 27) rfl (hb hby d4_10) (by decide) (by decide) ?_
    exact kt
  obtain ⟨fs, hr, hrun, hended, hW, hsame⟩ := X2.leave (v := some .null) (fun h => by rw [Bd.returns] at h; cases h)
  refine ⟨_, _, pre0 _ ?_, hrun, hended, _, _, rfl, ?_, ⟨_, rfl⟩, hW, hsame.mono (by decide) (by decide)⟩
  · refine st1 _ ?_
    show Steps p.tables e below (s₁.setTop (mkF m 1 #[.val (.ref a1)] [(.ref a1)])) _
    refine st2 _ ?_
    refine st3 _ ?_
    show Steps p.tables e below (T2.setTop (mkF m 27 #[.val (.ref a1)] [.null])) _
    exact retOut X2 hx Bd.returns rfl (Or.inr (Or.inr (Or.inr (Or.inr ⟨rfl, rfl, rfl⟩)))) (hb hby d4_27) hr
  · show Q4n Z a1 h0 n0 _ T2.heap _
    rw [e2]
    exact ⟨rfl, N0, rfl⟩
theorem d8_0 : decode jdk_117_method_19_code 0 = .ok (.aload_n 0, 1) := by decide +kernel
theorem d8_1 : decode jdk_117_method_19_code 1 = .ok (.getfield 118, 3) := by decide +kernel
theorem d8_4 : decode jdk_117_method_19_code 4 = .ok (.dreturn, 1) := by decide +kernel
theorem pn_8 : plainName "java/lang/Double" = true := by first | (simp [plainName, overriddenIn]; done) | decide +kernel
theorem ef_8 (m : MethodId) (a1 : Addr) : entryFrame m #[(.ref a1)] 1 = mkF m 0 #[.val (.ref a1)] [] := by first | (simp [entryFrame, mkF, argsToLocals, Value.category]; done) | rfl
def Q8 (Z : State) (a1 : Addr) (x : UInt64) (h0 : Heap) (n0 : Nat) (v : Option Value) (h : Heap) (L : List Loc) : Prop := v = some (.double x) ∧ Fr n0 L ∧ h = h0
set_option maxRecDepth 65536 in
set_option maxHeartbeats 40000000 in
theorem rm8 (l : Launch) (Z : State) (a0 : Array Value) (hw : ∀ d ∈ tables_1, d.before a0 Z = true) (ws : List Jvm.Cond) (a1 : Addr) (x : UInt64) (h0 : Heap) (n0 : Nat) (Z0 : n0 ≤ h0.size) (F_v : Fld Z h0 a1 "java/lang/Double" "value" "D" (.double x)) :
    MetFree l (⟨"java/lang/Double", "doubleValue", "()D"⟩ : MethodName) (head1 (Jvm.Cond.code (⟨"java/lang/Double", "doubleValue", "()D"⟩ : MethodName) jdk_117_method_19_code 1 (some .double) :: ws) ({ frames := 0, cells := 0, slots := 0, locals := 0 } : Room)) (fun a U => a = #[(.ref a1)] ∧ Z.Warmed39 U.vm ∧ U.heap = h0) (fun _ _ _ _ _ => True) (fun _ U oo U' => ∃ v L, oo = .returned v ∧ Q8 Z a1 x h0 n0 v U'.heap L ∧ FrameEnd U oo U' L ({ frames := 0, cells := 0, slots := 0, locals := 0 } : Room).cells ({ frames := 0, cells := 0, slots := 0, locals := 0 } : Room).slots) := by
  refine MetFree.of_bodySF (plainFor_of_name pn_8) hisR ?_
  intro p e s m args below meth c s₁ Bd hml0 hP hK
  obtain ⟨rfl, hZ, hh⟩ := hP
  have hx := Bd.exec
  have hby := Bd.bytes
  have hml : c.maxLocals = 1 := hml0
  have hown : s.vm.findClass "java/lang/Double" = some m.cls := findClass_of_methodNamed Bd.named
  have hnm := (name_of_methodNamed Bd.named Bd.method).1
  have X0 : Stand p l e ({ frames := 0, cells := 0, slots := 0, locals := 0 } : Room) s m #[(.ref a1)] below meth c s₁ [] 0 0 := Stand.of_body Bd
  have e0 : s₁.heap = h0 := by rw [← hh, Bd.state]; rfl
  have N0 := Fr.nil n0
  have K0 : Keep h0 h0 [] := Keep.refl _ _
  have pre0 : ∀ tg, Steps p.tables e below (s₁.setTop (mkF m 0 #[.val (.ref a1)] [])) tg → Steps p.tables e below (s₁.setTop (entryFrame m #[(.ref a1)] 1)) tg := fun tg k => castTop (ef_8 m a1) k
  have st1 : ∀ tg, Steps p.tables e below (s₁.setTop (mkF m 1 #[.val (.ref a1)] [(.ref a1)])) tg → Steps p.tables e below (s₁.setTop (mkF m 0 #[.val (.ref a1)] [])) tg := by
    intro tg kt
    refine XS.aloadN X0.here hx rfl (hb hby d8_0) rfl rfl ?_
    exact kt
  obtain ⟨T2, X2, e2, st2⟩ := getF X0 hx hZ hown (host := "") (Or.inl (hw _ (List.mem_of_getElem? (i := 44) rfl))) Via.refl e0 F_v (g := (mkF m 1 #[.val (.ref a1)] [(.ref a1)])) rfl rfl (hb hby d8_1)
  obtain ⟨fs, hr, hrun, hended, hW, hsame⟩ := X2.leave (v := some (.double x)) (fun h => by rw [Bd.returns] at h; cases h)
  refine ⟨_, _, pre0 _ ?_, hrun, hended, _, _, rfl, ?_, ⟨_, rfl⟩, hW, hsame.mono (by decide) (by decide)⟩
  · refine st1 _ ?_
    show Steps p.tables e below (s₁.setTop (mkF m 1 #[.val (.ref a1)] [(.ref a1)])) _
    refine st2 _ ?_
    show Steps p.tables e below (T2.setTop (mkF m 4 #[.val (.ref a1)] [(.double x)])) _
    exact retOut X2 hx Bd.returns rfl (Or.inr (Or.inr (Or.inl ⟨rfl, rfl, _, rfl⟩))) (hb hby d8_4) hr
  · show Q8 Z a1 x h0 n0 _ T2.heap _
    rw [e2]
    exact ⟨rfl, N0, rfl⟩
theorem d9_0 : decode jdk_29_method_61_code 0 = .ok (.lload_n 0, 1) := by decide +kernel
theorem d9_1 : decode jdk_29_method_61_code 1 = .ok (.lconst 0, 1) := by decide +kernel
theorem d9_2 : decode jdk_29_method_61_code 2 = .ok (.lcmp, 1) := by decide +kernel
theorem d9_3 : decode jdk_29_method_61_code 3 = .ok (.ifCond .ge 8, 3) := by decide +kernel
theorem d9_6 : decode jdk_29_method_61_code 6 = .ok (.lload_n 0, 1) := by decide +kernel
theorem d9_7 : decode jdk_29_method_61_code 7 = .ok (.lneg, 1) := by decide +kernel
theorem d9_8 : decode jdk_29_method_61_code 8 = .ok (.goto 4, 3) := by decide +kernel
theorem d9_11 : decode jdk_29_method_61_code 11 = .ok (.lload_n 0, 1) := by decide +kernel
theorem d9_12 : decode jdk_29_method_61_code 12 = .ok (.lreturn, 1) := by decide +kernel
theorem ef_9 (m : MethodId) (q1 : Int64) : entryFrame m #[(.long q1)] 2 = mkF m 0 #[.val (.long q1), .second] [] := by first | (simp [entryFrame, mkF, argsToLocals, Value.category]; done) | rfl
def rv9 (q1 : Int64) : Int64 :=
  if q1 < (0 : Int64) then (-q1) else q1
def Q9 (Z : State) (q1 : Int64) (h0 : Heap) (n0 : Nat) (v : Option Value) (h : Heap) (L : List Loc) : Prop := v = some (.long (rv9 q1)) ∧ Fr n0 L ∧ h = h0
set_option maxRecDepth 65536 in
set_option maxHeartbeats 40000000 in
theorem rm9 (l : Launch) (Z : State) (a0 : Array Value) (hw : ∀ d ∈ tables_1, d.before a0 Z = true) (ws : List Jvm.Cond) (q1 : Int64) (h0 : Heap) (n0 : Nat) (Z0 : n0 ≤ h0.size) :
    MetFree l (⟨"java/lang/Math", "abs", "(J)J"⟩ : MethodName) (head1 (Jvm.Cond.code (⟨"java/lang/Math", "abs", "(J)J"⟩ : MethodName) jdk_29_method_61_code 2 (some .long) :: ws) ({ frames := 0, cells := 0, slots := 0, locals := 0 } : Room)) (fun a U => a = #[(.long q1)] ∧ Z.Warmed39 U.vm ∧ U.heap = h0) (fun _ _ _ _ _ => True) (fun _ U oo U' => ∃ v L, oo = .returned v ∧ Q9 Z q1 h0 n0 v U'.heap L ∧ FrameEnd U oo U' L ({ frames := 0, cells := 0, slots := 0, locals := 0 } : Room).cells ({ frames := 0, cells := 0, slots := 0, locals := 0 } : Room).slots) := by
  refine MetFree.of_bodySF (Jvm.Free.JP.mathPlain rfl (by decide +kernel)) hisR ?_
  intro p e s m args below meth c s₁ Bd hml0 hP hK
  obtain ⟨rfl, hZ, hh⟩ := hP
  have hx := Bd.exec
  have hby := Bd.bytes
  have hml : c.maxLocals = 2 := hml0
  have hown : s.vm.findClass "java/lang/Math" = some m.cls := findClass_of_methodNamed Bd.named
  have hnm := (name_of_methodNamed Bd.named Bd.method).1
  have X0 : Stand p l e ({ frames := 0, cells := 0, slots := 0, locals := 0 } : Room) s m #[(.long q1)] below meth c s₁ [] 0 0 := Stand.of_body Bd
  have e0 : s₁.heap = h0 := by rw [← hh, Bd.state]; rfl
  have N0 := Fr.nil n0
  have K0 : Keep h0 h0 [] := Keep.refl _ _
  have pre0 : ∀ tg, Steps p.tables e below (s₁.setTop (mkF m 0 #[.val (.long q1), .second] [])) tg → Steps p.tables e below (s₁.setTop (entryFrame m #[(.long q1)] 2)) tg := fun tg k => castTop (ef_9 m q1) k
  have st2 : ∀ tg, Steps p.tables e below (s₁.setTop (mkF m 3 #[.val (.long q1), .second] [(.int (lcmpW q1 (0 : Int64)))])) tg → Steps p.tables e below (s₁.setTop (mkF m 0 #[.val (.long q1), .second] [])) tg := by
    intro tg kt
    refine XS.lloadN X0.here hx rfl (hb hby d9_0) rfl ?_
    refine XS.lconst X0.here hx rfl (hb hby d9_1) ?_
    refine XS.lcmp X0.here hx rfl (hb hby d9_2) rfl ?_
    exact kt
  by_cases hc3_1 : q1 < (0 : Int64)
  · -- pc 3: q1 < (0 : Int64)
    have st3 : ∀ tg, Steps p.tables e below (s₁.setTop (mkF m 12 #[.val (.long q1), .second] [(.long (-q1))])) tg → Steps p.tables e below (s₁.setTop (mkF m 3 #[.val (.long q1), .second] [(.int (lcmpW q1 (0 : Int64)))])) tg := by
      intro tg kt
      refine XS.ifNo X0.here hx rfl (hb hby d9_3) rfl (XT.ll_ge_f hc3_1) ?_
      refine XS.lloadN X0.here hx rfl (hb hby d9_6) rfl ?_
      refine XS.lneg X0.here hx rfl (hb hby d9_7) rfl ?_
      refine XS.goto X0.here hx rfl (pc0 := 8) (pc' := 12) rfl (hb hby d9_8) (by decide) (by decide) ?_
      exact kt
    obtain ⟨fs, hr, hrun, hended, hW, hsame⟩ := X0.leave (v := some (.long (-q1))) (fun h => by rw [Bd.returns] at h; cases h)
    refine ⟨_, _, pre0 _ ?_, hrun, hended, _, _, rfl, ?_, ⟨_, rfl⟩, hW, hsame.mono (by decide) (by decide)⟩
    · refine st2 _ ?_
      refine st3 _ ?_
      show Steps p.tables e below (s₁.setTop (mkF m 12 #[.val (.long q1), .second] [(.long (-q1))])) _
      exact retOut X0 hx Bd.returns rfl (Or.inr (Or.inl ⟨rfl, rfl, _, rfl⟩)) (hb hby d9_12) hr
    · show Q9 Z q1 h0 n0 _ s₁.heap _
      rw [e0]
      refine ⟨?_, N0, rfl⟩
      simp only [rv9, if_pos hc3_1]
  · -- pc 3: not q1 < (0 : Int64)
    have st4 : ∀ tg, Steps p.tables e below (s₁.setTop (mkF m 12 #[.val (.long q1), .second] [(.long q1)])) tg → Steps p.tables e below (s₁.setTop (mkF m 3 #[.val (.long q1), .second] [(.int (lcmpW q1 (0 : Int64)))])) tg := by
      intro tg kt
      refine XS.ifYes X0.here hx rfl (pc0 := 3) (pc' := 11) rfl (hb hby d9_3) rfl (XT.ll_ge_t hc3_1) (by decide) (by decide) ?_
      refine XS.lloadN X0.here hx rfl (hb hby d9_11) rfl ?_
      exact kt
    obtain ⟨fs, hr, hrun, hended, hW, hsame⟩ := X0.leave (v := some (.long q1)) (fun h => by rw [Bd.returns] at h; cases h)
    refine ⟨_, _, pre0 _ ?_, hrun, hended, _, _, rfl, ?_, ⟨_, rfl⟩, hW, hsame.mono (by decide) (by decide)⟩
    · refine st2 _ ?_
      refine st4 _ ?_
      show Steps p.tables e below (s₁.setTop (mkF m 12 #[.val (.long q1), .second] [(.long q1)])) _
      exact retOut X0 hx Bd.returns rfl (Or.inr (Or.inl ⟨rfl, rfl, _, rfl⟩)) (hb hby d9_12) hr
    · show Q9 Z q1 h0 n0 _ s₁.heap _
      rw [e0]
      refine ⟨?_, N0, rfl⟩
      simp only [rv9, if_neg hc3_1]
section Floats
open Jvm.FP Jvm.FP.Core Jvm.Free.Fl
theorem own_pow {q r : Int} : (-q).toNat + r.toNat + (q - r).toNat = (r - q).toNat + q.toNat + (-r).toNat := by omega
theorem own_wh {i : Int} {s : Bool} {c : Nat} {q : Int} (h : Whole i (.fin s c q)) : c * 2 ^ q.toNat = i.natAbs * 2 ^ (-q).toNat := by
  have h1 : signed s (c * 2 ^ q.toNat) = i * ((2 ^ (-q).toNat : Nat) : Int) := h
  have h2 := congrArg Int.natAbs h1
  rw [natAbs_signed, Int.natAbs_mul, Int.natAbs_natCast] at h2
  exact h2
/-- the quotient of two whole numbers, as one rounding -/
theorem own_div {a b : Int64} (ha : Small53 a) (hb : Small53 b) (hb0 : b.toInt ≠ 0) :
    val64 (Core.ddiv (Core.l2d a) (Core.l2d b)) = roundRatio b64 ((decide (a.toInt < 0)) != (decide (b.toInt < 0))) a.toInt.natAbs b.toInt.natAbs 0 := by
  obtain ⟨c, q, ea⟩ := l2d_shape a
  obtain ⟨d, r, eb⟩ := l2d_shape b
  have wa := l2d_whole ha
  have wb := l2d_whole hb
  rw [ea] at wa
  rw [eb] at wb
  have pa := own_wh wa
  have pb := own_wh wb
  have hB : 0 < b.toInt.natAbs := by omega
  have hd : d ≠ 0 := by
    intro z
    rw [z, Nat.zero_mul] at pb
    have := Nat.mul_pos hB (Nat.two_pow_pos (-r).toNat)
    omega
  rw [val64_ddiv, ea, eb]
  show (if d = 0 then _ else roundRatio b64 _ c d (q - r)) = _
  rw [if_neg hd]
  refine roundRatio_congr (Nat.pos_of_ne_zero hd) hB ?_
  have e1 : (q - r - 0).toNat = (q - r).toNat := by rw [Int.sub_zero]
  have e2 : (0 - (q - r)).toNat = (r - q).toNat := by rw [show 0 - (q - r) = r - q by omega]
  rw [e1, e2]
  have hp : 0 < 2 ^ q.toNat * 2 ^ (-r).toNat := Nat.mul_pos (Nat.two_pow_pos _) (Nat.two_pow_pos _)
  refine Nat.eq_of_mul_eq_mul_right hp ?_
  have l : c * b.toInt.natAbs * 2 ^ (q - r).toNat * (2 ^ q.toNat * 2 ^ (-r).toNat) = (c * 2 ^ q.toNat) * (b.toInt.natAbs * 2 ^ (-r).toNat) * 2 ^ (q - r).toNat := by
    simp only [Nat.mul_assoc, Nat.mul_comm, Nat.mul_left_comm]
  have rr : a.toInt.natAbs * d * 2 ^ (r - q).toNat * (2 ^ q.toNat * 2 ^ (-r).toNat) = a.toInt.natAbs * d * 2 ^ ((r - q).toNat + q.toNat + (-r).toNat) := by
    rw [Nat.pow_add, Nat.pow_add]; simp only [Nat.mul_assoc]
  rw [l, pa, ← pb, rr, ← own_pow, Nat.pow_add, Nat.pow_add]
  simp only [Nat.mul_assoc, Nat.mul_comm, Nat.mul_left_comm]
theorem own_below_hi {A B k : Nat} (h : A < (k + 1) * B) (hk : k ≤ 1023) : Below A B 10 := by
  show A * 2 ^ (-(10 : Int)).toNat < B * 2 ^ (10 : Int).toNat
  have e1 : (-(10 : Int)).toNat = 0 := by decide
  have e2 : (10 : Int).toNat = 10 := by decide
  rw [e1, e2]
  have : (k + 1) * B ≤ 1024 * B := Nat.mul_le_mul_right _ (by omega)
  omega
theorem own_below_lo {A B : Nat} (hA : 0 < A) (hB : B ≤ 2 ^ 31) : ¬ Below A B (-31) := by
  show ¬ (A * 2 ^ (-(-31 : Int)).toNat < B * 2 ^ (-31 : Int).toNat)
  have e1 : (-(-31 : Int)).toNat = 31 := by decide
  have e2 : (-31 : Int).toNat = 0 := by decide
  rw [e1, e2]
  omega
/-- strictly between two whole numbers stays strictly between them -/
theorem own_strict {s : Bool} {A B k : Nat} (hB : 0 < B) (hB31 : B ≤ 2 ^ 31) (h1 : k * B < A) (h2 : A < (k + 1) * B) (hk : k ≤ 1023) :
    ∃ z : Nat, zval b64 (roundRatio b64 s A B 0) = signed s z ∧ k * one64 < z ∧ z < (k + 1) * one64 := by
  have hA : 0 < A := by omega
  have sp := leading_spec hA hB
  have hL1 : leading A B < 10 := lt_of_below sp.1 (own_below_hi h2 hk)
  have hL2 : -31 < leading A B + 1 := lt_of_below (own_below_lo hA hB31) sp.2
  have hqm : b64.qmin = -1074 := by decide
  have hqx : b64.qmax = 971 := by decide
  have hp : b64.p = 53 := rfl
  have hQ : quantum b64 A B 0 = leading A B - 52 := by
    unfold quantum
    rw [hqm, hp]
    omega
  obtain ⟨K, hK⟩ : ∃ K : Nat, leading A B - 52 = -(K : Int) := ⟨(52 - leading A B).toNat, by omega⟩
  have hK1 : 43 ≤ K := by omega
  have hK2 : K ≤ 83 := by omega
  rw [hK] at hQ
  have hun : unitsNum A 0 (-(K : Int)) = A * 2 ^ K := by
    unfold unitsNum; rw [show (0 - -(K : Int)).toNat = K by omega]
  have hud : unitsDen B 0 (-(K : Int)) = B := by
    unfold unitsDen; rw [show (-(K : Int) - 0).toNat = 0 by omega]; simp
  have hle := nearest_units_le (f := b64) hA hB 0
  rw [hQ, hun, hud] at hle
  have pK : 2 ^ 31 ≤ 2 ^ K := Nat.pow_le_pow_right (by decide) (by omega)
  obtain ⟨M, hM⟩ : ∃ M, M = nearest (A * 2 ^ K) B := ⟨_, rfl⟩
  have m1 : k * 2 ^ K + 1 ≤ M := by
    rw [hM]
    refine nearest_ge hB ?_
    have : (k * B + 1) * 2 ^ K ≤ A * 2 ^ K := Nat.mul_le_mul_right _ h1
    rw [Nat.add_mul, Nat.one_mul] at this
    rw [Nat.add_mul, Nat.one_mul, Nat.mul_assoc, Nat.mul_comm (2 ^ K) B, ← Nat.mul_assoc]
    omega
  have m2 : M + 1 ≤ (k + 1) * 2 ^ K := by
    have hpos : 0 < (k + 1) * 2 ^ K := Nat.mul_pos (by omega) (Nat.two_pow_pos _)
    have : M ≤ (k + 1) * 2 ^ K - 1 := by
      rw [hM]
      refine nearest_le hB ?_
      have : (A + 1) * 2 ^ K ≤ (k + 1) * B * 2 ^ K := Nat.mul_le_mul_right _ h2
      rw [Nat.add_mul, Nat.one_mul] at this
      rw [Nat.sub_mul, Nat.one_mul, Nat.mul_assoc, Nat.mul_comm (2 ^ K) B, ← Nat.mul_assoc]
      omega
    omega
  have hr : roundRatio b64 s A B 0 = settle b64 s M (-(K : Int)) := by
    unfold roundRatio roundAt
    rw [if_neg (by omega), hQ, hun, hud, hM]
  have hfin : ∃ t c q, settle b64 s M (-(K : Int)) = .fin t c q := by
    unfold settle bound
    rw [hqx]
    split
    · rw [if_pos (by omega)]; exact ⟨_, _, _, rfl⟩
    · rw [if_pos (by omega)]; exact ⟨_, _, _, rfl⟩
  obtain ⟨t, c, q, hf⟩ := hfin
  have hM53 : M ≤ 2 ^ b64.p := by rw [hM]; exact hle
  obtain ⟨rfl, hv⟩ := settle_value good_b64 hM53 hf (e0 := b64.qmin) (by rw [hqm]; omega)
  have hz : zval b64 (.fin t c q) = signed t (M * 2 ^ (1074 - K)) := by
    show signed t (inUnits c q b64.qmin) = _
    rw [hv]
    unfold inUnits
    rw [hqm, show (-(K : Int) - -1074).toNat = 1074 - K by omega]
  refine ⟨M * 2 ^ (1074 - K), by rw [hr, hf, hz], ?_, ?_⟩
  · have e : one64 = 2 ^ K * 2 ^ (1074 - K) := by
      unfold one64; rw [← Nat.pow_add, show K + (1074 - K) = 1074 by omega]
    rw [e, ← Nat.mul_assoc]
    exact Nat.mul_lt_mul_of_pos_right (by omega) (Nat.two_pow_pos _)
  · have e : one64 = 2 ^ K * 2 ^ (1074 - K) := by
      unfold one64; rw [← Nat.pow_add, show K + (1074 - K) = 1074 by omega]
    rw [e, ← Nat.mul_assoc]
    exact Nat.mul_lt_mul_of_pos_right (by omega) (Nat.two_pow_pos _)
/-- .. said of whole numbers with signs -/
theorem own_between {a b : Int64} {lo : Int} (ha : Small53 a) (hb : Small53 b) (hb31 : b.toInt.natAbs ≤ 2 ^ 31) (hlo : -1024 ≤ lo ∧ lo ≤ 1023)
    (h : (0 < b.toInt ∧ lo * b.toInt < a.toInt ∧ a.toInt < (lo + 1) * b.toInt) ∨ (b.toInt < 0 ∧ (lo + 1) * b.toInt < a.toInt ∧ a.toInt < lo * b.toInt)) :
    lo * (one64 : Int) < zval b64 (val64 (Core.ddiv (Core.l2d a) (Core.l2d b))) ∧ zval b64 (val64 (Core.ddiv (Core.l2d a) (Core.l2d b))) < (lo + 1) * (one64 : Int) := by
  have hb0 : b.toInt ≠ 0 := by omega
  rw [own_div ha hb hb0]
  generalize a.toInt = x at *
  generalize b.toInt = y at *
  have hB : 0 < y.natAbs := by omega
  by_cases hs : 0 ≤ lo
  · obtain ⟨k, rfl⟩ : ∃ k : Nat, lo = k := ⟨lo.toNat, by omega⟩
    have key : (k * y.natAbs < x.natAbs ∧ x.natAbs < (k + 1) * y.natAbs) ∧ (decide (x < 0) != decide (y < 0)) = false := by
      rcases h with ⟨h0, h1, h2⟩ | ⟨h0, h1, h2⟩
      · obtain ⟨Y, rfl⟩ : ∃ Y : Nat, y = Y := ⟨y.toNat, by omega⟩
        have g1 : ((k * Y : Nat) : Int) < x := by rw [Int.natCast_mul]; exact h1
        have g2 : x < (((k + 1) * Y : Nat) : Int) := by rw [Int.natCast_mul]; exact h2
        refine ⟨⟨by rw [Int.natAbs_natCast]; omega, by rw [Int.natAbs_natCast]; omega⟩, ?_⟩
        have q1 : decide (x < 0) = false := by simp; omega
        have q2 : decide ((Y : Int) < 0) = false := by simp
        rw [q1, q2]; rfl
      · obtain ⟨Y, rfl⟩ : ∃ Y : Nat, y = -(Y : Int) := ⟨(-y).toNat, by omega⟩
        have g1 : -(((k + 1) * Y : Nat) : Int) < x := by rw [Int.natCast_mul, ← Int.mul_neg]; exact h1
        have g2 : x < -((k * Y : Nat) : Int) := by rw [Int.natCast_mul, ← Int.mul_neg]; exact h2
        refine ⟨⟨by rw [Int.natAbs_neg, Int.natAbs_natCast]; omega, by rw [Int.natAbs_neg, Int.natAbs_natCast]; omega⟩, ?_⟩
        have q1 : decide (x < 0) = true := by simp; omega
        have q2 : decide (-(Y : Int) < 0) = true := by simp; omega
        rw [q1, q2]; rfl
    rw [key.2]
    obtain ⟨z, hz, z1, z2⟩ := own_strict (s := false) hB hb31 key.1.1 key.1.2 (by omega)
    rw [hz]
    show _ < (z : Int) ∧ (z : Int) < _
    have e1 : (k : Int) * (one64 : Int) = ((k * one64 : Nat) : Int) := by rw [Int.natCast_mul]
    have e2 : ((k : Int) + 1) * (one64 : Int) = (((k + 1) * one64 : Nat) : Int) := by rw [Int.natCast_mul]; rfl
    rw [e1, e2]; omega
  · obtain ⟨k, hk⟩ : ∃ k : Nat, lo = -((k : Int) + 1) := ⟨(-(lo + 1)).toNat, by omega⟩
    have key : (k * y.natAbs < x.natAbs ∧ x.natAbs < (k + 1) * y.natAbs) ∧ (decide (x < 0) != decide (y < 0)) = true := by
      have t1 : lo + 1 = -(k : Int) := by omega
      rw [t1, hk] at h
      rcases h with ⟨h0, h1, h2⟩ | ⟨h0, h1, h2⟩
      · obtain ⟨Y, rfl⟩ : ∃ Y : Nat, y = Y := ⟨y.toNat, by omega⟩
        have g1 : -(((k + 1) * Y : Nat) : Int) < x := by rw [Int.natCast_mul, ← Int.neg_mul]; exact h1
        have g2 : x < -((k * Y : Nat) : Int) := by rw [Int.natCast_mul, ← Int.neg_mul]; exact h2
        refine ⟨⟨by rw [Int.natAbs_natCast]; omega, by rw [Int.natAbs_natCast]; omega⟩, ?_⟩
        have q1 : decide (x < 0) = true := by simp; omega
        have q2 : decide ((Y : Int) < 0) = false := by simp
        rw [q1, q2]; rfl
      · obtain ⟨Y, rfl⟩ : ∃ Y : Nat, y = -(Y : Int) := ⟨(-y).toNat, by omega⟩
        have g1 : ((k * Y : Nat) : Int) < x := by rw [Int.natCast_mul, ← Int.neg_mul_neg]; exact h1
        have g2 : x < (((k + 1) * Y : Nat) : Int) := by rw [Int.natCast_mul, ← Int.neg_mul_neg]; exact h2
        refine ⟨⟨by rw [Int.natAbs_neg, Int.natAbs_natCast]; omega, by rw [Int.natAbs_neg, Int.natAbs_natCast]; omega⟩, ?_⟩
        have q1 : decide (x < 0) = false := by simp; omega
        have q2 : decide (-(Y : Int) < 0) = true := by simp; omega
        rw [q1, q2]; rfl
    rw [key.2]
    obtain ⟨z, hz, z1, z2⟩ := own_strict (s := true) hB hb31 key.1.1 key.1.2 (by omega)
    rw [hz]
    show _ < -(z : Int) ∧ -(z : Int) < _
    have e1 : lo * (one64 : Int) = -(((k + 1) * one64 : Nat) : Int) := by rw [hk, Int.neg_mul, Int.natCast_mul]; rfl
    have e2 : (lo + 1) * (one64 : Int) = -((k * one64 : Nat) : Int) := by rw [show lo + 1 = -(k : Int) by omega, Int.neg_mul, Int.natCast_mul]
    rw [e1, e2]; omega
theorem own_notnan {a b : Int64} (hb : b ≠ 0) : val64 (Core.ddiv (Core.l2d a) (Core.l2d b)) ≠ .nan := by
  have h : NoNaN64 (FP.ddiv (FP.l2d a) (FP.l2d b)) := ddiv_out (Jvm.Free.Fl.l2d_fin a).noNaN (Jvm.Free.Fl.l2d_fin b) (l2d_nz hb)
  exact (notNaN_iff _).mp (noNaN64_no.mp h)
theorem own_l2dz {a : Int64} (h : Small53 a) : zval b64 (val64 (Core.l2d a)) = a.toInt * (one64 : Int) := DInt_zval (l2d_whole h)
theorem own_l2dn (a : Int64) : val64 (Core.l2d a) ≠ .nan := (notNaN_iff _).mp (l2d_notNaN a)
/-- mode 2, a rest: strictly between -/
theorem own_lt_lo {a b l : Int64} (ha : Small53 a) (hb : Small53 b) (hl : Small53 l) (hb31 : b.toInt.natAbs ≤ 2 ^ 31) (hlo : -1024 ≤ l.toInt ∧ l.toInt ≤ 1023) (hb0 : b ≠ 0)
    (h : (0 < b.toInt ∧ l.toInt * b.toInt < a.toInt ∧ a.toInt < (l.toInt + 1) * b.toInt) ∨ (b.toInt < 0 ∧ (l.toInt + 1) * b.toInt < a.toInt ∧ a.toInt < l.toInt * b.toInt)) :
    Jvm.Op.cmpValue (FP.dcmp (FP.l2d l) (FP.ddiv (FP.l2d a) (FP.l2d b))) .g = -1 := by
  have k := (own_between ha hb hb31 hlo h).1
  have e : FP.dcmp (FP.l2d l) (FP.ddiv (FP.l2d a) (FP.l2d b)) = some .lt := by
    show Core.dcmp _ _ = _
    rw [dcmp_zval (own_l2dn l) (own_notnan hb0), own_l2dz hl, compare_ite, if_pos k]
  rw [e]; rfl
theorem own_lt_hi {a b l u : Int64} (ha : Small53 a) (hb : Small53 b) (hu : Small53 u) (hb31 : b.toInt.natAbs ≤ 2 ^ 31) (hlo : -1024 ≤ l.toInt ∧ l.toInt ≤ 1023) (hul : u.toInt = l.toInt + 1) (hb0 : b ≠ 0)
    (h : (0 < b.toInt ∧ l.toInt * b.toInt < a.toInt ∧ a.toInt < (l.toInt + 1) * b.toInt) ∨ (b.toInt < 0 ∧ (l.toInt + 1) * b.toInt < a.toInt ∧ a.toInt < l.toInt * b.toInt)) :
    Jvm.Op.cmpValue (FP.dcmp (FP.ddiv (FP.l2d a) (FP.l2d b)) (FP.l2d u)) .g = -1 := by
  have k := (own_between ha hb hb31 hlo h).2
  have e : FP.dcmp (FP.ddiv (FP.l2d a) (FP.l2d b)) (FP.l2d u) = some .lt := by
    show Core.dcmp _ _ = _
    rw [dcmp_zval (own_notnan hb0) (own_l2dn u), own_l2dz hu, hul, compare_ite, if_pos k]
  rw [e]; rfl
/-- mode 2, no rest: the very whole number -/
theorem own_exact {a b q : Int64} (ha : Small53 a) (hb : Small53 b) (hq : Small53 q) (hb0 : b ≠ 0) (h : a.toInt = q.toInt * b.toInt) :
    Jvm.Op.cmpValue (FP.dcmp (FP.ddiv (FP.l2d a) (FP.l2d b)) (FP.l2d q)) .l = 0 := by
  have hbi : b.toInt ≠ 0 := fun z => hb0 (Int64.toInt_inj.mp z)
  have hB : 0 < b.toInt.natAbs := by omega
  have e : zval b64 (val64 (Core.ddiv (Core.l2d a) (Core.l2d b))) = zval b64 (val64 (Core.l2d q)) := by
    rw [own_div ha hb hbi]
    have c1 : roundRatio b64 (decide (a.toInt < 0) != decide (b.toInt < 0)) a.toInt.natAbs b.toInt.natAbs 0 = roundRatio b64 (decide (a.toInt < 0) != decide (b.toInt < 0)) q.toInt.natAbs 1 0 := by
      refine roundRatio_congr hB (by decide) ?_
      rw [h, Int.natAbs_mul]; simp
    have c2 : val64 (Core.l2d q) = roundRatio b64 (decide (q.toInt < 0)) q.toInt.natAbs 1 0 := val64_l2d q
    rw [c1, c2]
    by_cases z : q.toInt = 0
    · rw [z]
      unfold roundRatio
      simp only [Int.natAbs_zero, if_true]
      show signed _ (inUnits 0 _ _) = signed _ (inUnits 0 _ _)
      unfold inUnits
      rw [Nat.zero_mul, signed_zero, signed_zero]
    · have sg : (decide (a.toInt < 0) != decide (b.toInt < 0)) = decide (q.toInt < 0) := by
        rw [h]
        rcases Int.lt_or_gt_of_ne z with z1 | z1 <;> rcases Int.lt_or_gt_of_ne hbi with y1 | y1
        · have := Int.mul_pos_of_neg_of_neg z1 y1
          rw [decide_eq_false (by omega), decide_eq_true y1, decide_eq_true z1]; rfl
        · have := Int.mul_neg_of_neg_of_pos z1 y1
          rw [decide_eq_true this, decide_eq_false (by omega), decide_eq_true z1]; rfl
        · have := Int.mul_neg_of_pos_of_neg z1 y1
          rw [decide_eq_true this, decide_eq_true y1, decide_eq_false (by omega)]; rfl
        · have := Int.mul_pos z1 y1
          rw [decide_eq_false (by omega), decide_eq_false (by omega), decide_eq_false (by omega)]; rfl
      rw [sg]
  have e2 : FP.dcmp (FP.ddiv (FP.l2d a) (FP.l2d b)) (FP.l2d q) = some .eq := by
    show Core.dcmp _ _ = _
    rw [dcmp_zval (own_notnan hb0) (own_l2dn q), e, compare_ite, if_neg (by omega), if_pos rfl]
  rw [e2]; rfl
/-- mode 1: a number by itself -/
theorem own_one {a : Int64} (ha : a ≠ 0) : Jvm.Op.cmpValue (FP.dcmp (FP.ddiv (FP.l2d a) (FP.l2d a)) FP.dconst1) .l = 0 := by
  obtain ⟨c, q, ea⟩ := l2d_shape a
  have hc : c ≠ 0 := by
    intro z
    have hz : zval b64 (val64 (Core.l2d a)) = 0 := by
      rw [ea, z]
      show signed _ (inUnits 0 _ _) = _
      unfold inUnits; rw [Nat.zero_mul, signed_zero]
    have h1 := (zval_eq_zero (own_l2dn a)).mp hz
    have h2 := (Core.l2d_big (v := a) (fun z => ha (Int64.toInt_inj.mp z))).1
    omega
  have e : val64 (Core.ddiv (Core.l2d a) (Core.l2d a)) = val64 Core.dconst1 := by
    rw [val64_ddiv, ea, val64_dconst1]
    show (if c = 0 then _ else roundRatio b64 _ c c (q - q)) = _
    rw [if_neg hc, show q - q = 0 by omega, show (decide (a.toInt < 0) != decide (a.toInt < 0)) = false by simp]
    refine roundRatio_exact good_b64 (Nat.pos_of_ne_zero hc) ?_ ?_
    · refine ⟨by decide, by decide, by decide, Or.inr (by decide)⟩
    · show c * 2 ^ (0 - -52 : Int).toNat = 2 ^ 52 * c * 2 ^ (-52 - 0 : Int).toNat
      rw [show (0 - -52 : Int).toNat = 52 by decide, show (-52 - 0 : Int).toNat = 0 by decide]
      rw [Nat.mul_comm]; simp
  have e2 : FP.dcmp (FP.ddiv (FP.l2d a) (FP.l2d a)) FP.dconst1 = some .eq := by
    show Core.dcmp _ Core.dconst1 = _
    rw [dcmp_zval (own_notnan ha) (by rw [val64_dconst1]; simp), e, compare_ite, if_neg (by omega), if_pos rfl]
  rw [e2]; rfl
/-- mode 3: nought by a number -/
theorem own_zero {a : Int64} (ha : a ≠ 0) : Jvm.Op.cmpValue (FP.dcmp (FP.ddiv (FP.l2d 0) (FP.l2d a)) FP.dconst0) .l = 0 := by
  obtain ⟨c, q, ea⟩ := l2d_shape a
  have hc : c ≠ 0 := by
    intro z
    have hz : zval b64 (val64 (Core.l2d a)) = 0 := by
      rw [ea, z]
      show signed _ (inUnits 0 _ _) = _
      unfold inUnits; rw [Nat.zero_mul, signed_zero]
    have h1 := (zval_eq_zero (own_l2dn a)).mp hz
    have h2 := (Core.l2d_big (v := a) (fun z => ha (Int64.toInt_inj.mp z))).1
    omega
  have e0 : val64 (Core.l2d 0) = .fin false 0 b64.qmin := by rw [Core.l2d_zero]; exact val64_dconst0
  have e : zval b64 (val64 (Core.ddiv (Core.l2d 0) (Core.l2d a))) = 0 := by
    rw [val64_ddiv, ea, e0]
    show zval b64 (if c = 0 then _ else roundRatio b64 _ 0 c _) = _
    rw [if_neg hc]
    unfold roundRatio
    rw [if_pos rfl]
    show signed _ (inUnits 0 _ _) = _
    unfold inUnits; rw [Nat.zero_mul, signed_zero]
  have e2 : FP.dcmp (FP.ddiv (FP.l2d 0) (FP.l2d a)) FP.dconst0 = some .eq := by
    show Core.dcmp _ Core.dconst0 = _
    have z0 : zval b64 (val64 Core.dconst0) = 0 := by
      rw [val64_dconst0]
      show signed _ (inUnits 0 _ _) = _
      unfold inUnits; rw [Nat.zero_mul, signed_zero]
    rw [dcmp_zval (own_notnan ha) (by rw [val64_dconst0]; simp), e, z0, compare_ite, if_neg (by omega), if_pos rfl]
  rw [e2]; rfl
theorem own_r {p : Int32} {r : Int64} (h : r = if p = 0 then (1 : Int64) else (p.toInt64)) : r.toInt ≠ 0 ∧ -2147483648 ≤ r.toInt ∧ r.toInt ≤ 2147483647 := by
  by_cases q : p = 0
  · rw [h, if_pos q]; decide
  · rw [h, if_neg q, Int32.toInt_toInt64]
    have h1 := Int32.le_toInt p
    have h2 := Int32.toInt_lt p
    refine ⟨fun z => q (Int32.toInt_inj.mp z), by omega, by omega⟩
theorem own_a {r a : Int64} (hr : r.toInt ≠ 0 ∧ -2147483648 ≤ r.toInt ∧ r.toInt ≤ 2147483647) (h : a = rv9 r) : a.toInt = r.toInt.natAbs := by
  have z : (0 : Int64).toInt = 0 := by decide
  unfold rv9 at h
  by_cases q : r < (0 : Int64)
  · rw [h, if_pos q, Int64.toInt_neg]
    rw [Int64.lt_iff_toInt_lt, z] at q
    rw [Int.bmod_eq_of_le (by omega) (by omega)]; omega
  · rw [h, if_neg q]
    rw [Int64.lt_iff_toInt_lt, z] at q
    omega
theorem own_a0 {p : Int32} {r a : Int64} (hr : r = if p = 0 then (1 : Int64) else (p.toInt64)) (h : a = rv9 r) : a ≠ 0 := by
  have k := own_r hr
  have e := own_a k h
  intro z
  rw [z] at e
  have : (0 : Int64).toInt = 0 := by decide
  omega
theorem own_q {p : Int32} {q : Int64} (h : q = ((p % (1024 : Int32)).toInt64)) : -1023 ≤ q.toInt ∧ q.toInt ≤ 1023 := by
  have e : (1024 : Int32).toInt = 1024 := by decide
  rw [h, Int32.toInt_toInt64, Int32.toInt_mod, e]
  have := Int.natAbs_tmod p.toInt 1024
  have h2 : p.toInt.natAbs % (1024 : Int).natAbs < 1024 := Nat.mod_lt _ (by decide)
  omega
theorem own_max (x : Int64) : 0 ≤ (x &&& (9223372036854775807 : Int64)).toInt := by
  have h : (x &&& (9223372036854775807 : Int64)).toBitVec.toNat < 2 ^ 63 := by
    simp only [Int64.toBitVec_and, BitVec.toNat_and]
    exact Nat.lt_succ_of_le Nat.and_le_right
  have e : (x &&& (9223372036854775807 : Int64)).toInt = ((x &&& (9223372036854775807 : Int64)).toBitVec.toNat : Int) := by
    show (x &&& (9223372036854775807 : Int64)).toBitVec.toInt = _
    exact BitVec.toInt_eq_toNat_of_lt (by omega)
  omega
theorem own_s {x a s : Int64} {r : Int} (ha : a.toInt = r.natAbs) (hr : r ≠ 0) (h : s = ((x &&& (9223372036854775807 : Int64)) % a)) : 0 ≤ s.toInt ∧ s.toInt < r.natAbs := by
  have m := own_max x
  rw [h, Int64.toInt_mod, ha]
  generalize (x &&& (9223372036854775807 : Int64)).toInt = y at *
  exact ⟨Int.tmod_nonneg _ m, Int.tmod_lt_of_pos _ (by omega)⟩
theorem own_mulb {x y : Int} (hx : -1023 ≤ x ∧ x ≤ 1023) (hy : -2147483648 ≤ y ∧ y ≤ 2147483647) : -2196875771904 ≤ x * y ∧ x * y ≤ 2196875771904 := by
  have h : x.natAbs * y.natAbs ≤ 1023 * 2147483648 := Nat.mul_le_mul (by omega) (by omega)
  rw [← Int.natAbs_mul] at h
  omega
theorem own_t {q r s t : Int64} (hq : -1023 ≤ q.toInt ∧ q.toInt ≤ 1023) (hr : r.toInt ≠ 0 ∧ -2147483648 ≤ r.toInt ∧ r.toInt ≤ 2147483647) (hs : 0 ≤ s.toInt ∧ s.toInt < r.toInt.natAbs) (h : t = ((q * r) + s)) : t.toInt = q.toInt * r.toInt + s.toInt := by
  have b := own_mulb hq hr.2
  rw [h, Int64.toInt_add, Int64.toInt_mul]
  generalize q.toInt * r.toInt = m at *
  rw [Int.bmod_eq_of_le (n := m) (by omega) (by omega)]
  exact Int.bmod_eq_of_le (by omega) (by omega)
def OwnM (q r s t : Int64) : Prop := (-1023 ≤ q.toInt ∧ q.toInt ≤ 1023) ∧ (r.toInt ≠ 0 ∧ -2147483648 ≤ r.toInt ∧ r.toInt ≤ 2147483647) ∧ (0 ≤ s.toInt ∧ s.toInt < r.toInt.natAbs) ∧ t.toInt = q.toInt * r.toInt + s.toInt
theorem OwnM.fq {q r s t : Int64} (M : OwnM q r s t) : -1023 ≤ q.toInt ∧ q.toInt ≤ 1023 := M.1
theorem OwnM.fr {q r s t : Int64} (M : OwnM q r s t) : r.toInt ≠ 0 ∧ -2147483648 ≤ r.toInt ∧ r.toInt ≤ 2147483647 := M.2.1
theorem OwnM.fs {q r s t : Int64} (M : OwnM q r s t) : 0 ≤ s.toInt ∧ s.toInt < r.toInt.natAbs := M.2.2.1
theorem OwnM.ft {q r s t : Int64} (M : OwnM q r s t) : t.toInt = q.toInt * r.toInt + s.toInt := M.2.2.2
theorem own_m {p3 p4 : Int32} {q5 q r a s t : Int64} (hq : q = ((p3 % (1024 : Int32)).toInt64)) (hr : r = if p4 = 0 then (1 : Int64) else (p4.toInt64)) (ha : a = rv9 r) (hs : s = ((q5 &&& (9223372036854775807 : Int64)) % a)) (ht : t = ((q * r) + s)) : OwnM q r s t :=
  have h1 := own_q hq
  have h2 := own_r hr
  have h3 := own_s (own_a h2 ha) h2.1 hs
  ⟨h1, h2, h3, own_t h1 h2 h3 ht⟩
theorem OwnM.r0 {q r s t : Int64} (M : OwnM q r s t) : ¬ (r = (0 : Int64)) := by
  intro z
  have := M.fr.1
  rw [z] at this
  exact this (by decide)
theorem own_sm {a : Int64} (h1 : -9007199254740992 < a.toInt) (h2 : a.toInt < 9007199254740992) : Small53 a := ⟨h1, h2⟩
theorem OwnM.tb {q r s t : Int64} (M : OwnM q r s t) : Small53 t := by
  have b := own_mulb M.fq M.fr.2
  have := M.ft; have := M.fs; have := M.fr
  exact own_sm (by omega) (by omega)
theorem OwnM.rb {q r s t : Int64} (M : OwnM q r s t) : Small53 r := by
  have := M.fr
  exact own_sm (by omega) (by omega)
theorem OwnM.qb {q r s t : Int64} (M : OwnM q r s t) : Small53 q := by
  have := M.fq
  exact own_sm (by omega) (by omega)
theorem OwnM.exact {q r s t : Int64} (M : OwnM q r s t) (h : s = (0 : Int64)) : Jvm.Op.cmpValue (FP.dcmp (FP.ddiv (FP.l2d t) (FP.l2d r)) (FP.l2d q)) .l = 0 := by
  refine own_exact M.tb M.rb M.qb M.r0 ?_
  have e := M.ft
  rw [h] at e
  have z : (0 : Int64).toInt = 0 := by decide
  omega
theorem own_p1 {q : Int64} (h : -1023 ≤ q.toInt ∧ q.toInt ≤ 1023) : (q + (1 : Int64)).toInt = q.toInt + 1 := by
  have z : (1 : Int64).toInt = 1 := by decide
  rw [Int64.toInt_add, z]; exact Int.bmod_eq_of_le (by omega) (by omega)
theorem own_m1 {q : Int64} (h : -1023 ≤ q.toInt ∧ q.toInt ≤ 1023) : (q - (1 : Int64)).toInt = q.toInt - 1 := by
  have z : (1 : Int64).toInt = 1 := by decide
  rw [Int64.toInt_sub, z]; exact Int.bmod_eq_of_le (by omega) (by omega)
theorem OwnM.bet {q r s t : Int64} (M : OwnM q r s t) (h0 : ¬ (s = (0 : Int64))) {b : Int} (hb : (0 < r.toInt ∧ b = q.toInt) ∨ (r.toInt < 0 ∧ b = q.toInt - 1)) :
    (0 < r.toInt ∧ b * r.toInt < t.toInt ∧ t.toInt < (b + 1) * r.toInt) ∨ (r.toInt < 0 ∧ (b + 1) * r.toInt < t.toInt ∧ t.toInt < b * r.toInt) := by
  have e := M.ft
  have hs := M.fs
  have s0 : s.toInt ≠ 0 := fun z => h0 (Int64.toInt_inj.mp (by rw [z]; decide))
  rcases hb with ⟨h, rfl⟩ | ⟨h, rfl⟩
  · refine Or.inl ⟨h, ?_, ?_⟩
    · omega
    · rw [Int.add_mul, Int.one_mul]; omega
  · refine Or.inr ⟨h, ?_, ?_⟩
    · rw [show q.toInt - 1 + 1 = q.toInt by omega]; omega
    · rw [Int.sub_mul, Int.one_mul]; omega
theorem OwnM.b31 {q r s t : Int64} (M : OwnM q r s t) : r.toInt.natAbs ≤ 2 ^ 31 := by have := M.fr; omega
theorem OwnM.lo1 {q r s t : Int64} (M : OwnM q r s t) (h0 : ¬ (s = (0 : Int64))) (h : (0 : Int64) < r) : Jvm.Op.cmpValue (FP.dcmp (FP.l2d q) (FP.ddiv (FP.l2d t) (FP.l2d r))) .g = -1 := by
  rw [Int64.lt_iff_toInt_lt, show (0 : Int64).toInt = 0 by decide] at h
  have := M.fq
  exact own_lt_lo M.tb M.rb M.qb M.b31 (by omega) M.r0 (M.bet h0 (Or.inl ⟨h, rfl⟩))
theorem OwnM.hi1 {q r s t : Int64} (M : OwnM q r s t) (h0 : ¬ (s = (0 : Int64))) (h : (0 : Int64) < r) : Jvm.Op.cmpValue (FP.dcmp (FP.ddiv (FP.l2d t) (FP.l2d r)) (FP.l2d (q + (1 : Int64)))) .g = -1 := by
  rw [Int64.lt_iff_toInt_lt, show (0 : Int64).toInt = 0 by decide] at h
  have := M.fq
  have e := own_p1 M.fq
  exact own_lt_hi M.tb M.rb (own_sm (by omega) (by omega)) M.b31 (by omega) e M.r0 (M.bet h0 (Or.inl ⟨h, rfl⟩))
theorem OwnM.neg {q r s t : Int64} (M : OwnM q r s t) (h : ¬ ((0 : Int64) < r)) : r.toInt < 0 := by
  rw [Int64.lt_iff_toInt_lt, show (0 : Int64).toInt = 0 by decide] at h
  have := M.fr
  omega
theorem OwnM.lo2 {q r s t : Int64} (M : OwnM q r s t) (h0 : ¬ (s = (0 : Int64))) (h : ¬ ((0 : Int64) < r)) : Jvm.Op.cmpValue (FP.dcmp (FP.l2d (q - (1 : Int64))) (FP.ddiv (FP.l2d t) (FP.l2d r))) .g = -1 := by
  have := M.fq
  have e := own_m1 M.fq
  exact own_lt_lo M.tb M.rb (own_sm (by omega) (by omega)) M.b31 (by omega) M.r0 (M.bet h0 (Or.inr ⟨M.neg h, e⟩))
theorem OwnM.hi2 {q r s t : Int64} (M : OwnM q r s t) (h0 : ¬ (s = (0 : Int64))) (h : ¬ ((0 : Int64) < r)) : Jvm.Op.cmpValue (FP.dcmp (FP.ddiv (FP.l2d t) (FP.l2d r)) (FP.l2d q)) .g = -1 := by
  have := M.fq
  have e := own_m1 M.fq
  exact own_lt_hi (l := q - 1) M.tb M.rb M.qb M.b31 (by omega) (by omega) M.r0 (M.bet h0 (Or.inr ⟨M.neg h, e⟩))
theorem own_v0 {q r : Int64} (h : r = if q = (0 : Int64) then (1 : Int64) else q) : ¬ (r = (0 : Int64)) := by
  by_cases z : q = (0 : Int64)
  · rw [h, if_pos z]; decide
  · rw [h, if_neg z]; exact z

end Floats
theorem pn_0 : plainName "com/example/oriflamme/oriflamme/runtime/RunFiguresAverageDurationMsPinLaw" = true := by first | (simp [plainName, overriddenIn]; done) | decide +kernel
theorem ef_0 (m : MethodId) (p1 : Int32) (q2 : Int64) (p3 : Int32) (p4 : Int32) (q5 : Int64) (q6 : Int64) : entryFrame m #[(.int p1), (.long q2), (.int p3), (.int p4), (.long q5), (.long q6)] maxLocals = mkF m 0 #[.val (.int p1), .val (.long q2), .second, .val (.int p3), .val (.int p4), .val (.long q5), .second, .val (.long q6), .second, .unset, .unset, .unset, .unset, .unset, .unset, .unset, .unset, .unset, .unset, .unset, .unset, .unset, .unset, .unset, .unset, .unset, .unset] [] := by first | (simp [entryFrame, mkF, argsToLocals, Value.category, maxLocals]; done) | rfl
def Q0 (Z : State) (p1 : Int32) (q2 : Int64) (p3 : Int32) (p4 : Int32) (q5 : Int64) (q6 : Int64) (h0 : Heap) (n0 : Nat) (v : Option Value) (h : Heap) (L : List Loc) : Prop := v = some (.int (1 : Int32)) ∧ Fr n0 L
set_option maxRecDepth 65536 in
set_option maxHeartbeats 40000000 in
theorem rm0 (l : Launch) (Z : State) (a0 : Array Value) (hw : ∀ d ∈ tables_1, d.before a0 Z = true) (ws : List Jvm.Cond) (p1 : Int32) (q2 : Int64) (p3 : Int32) (p4 : Int32) (q5 : Int64) (q6 : Int64) (h0 : Heap) (n0 : Nat) (Z0 : n0 ≤ h0.size) :
    MetFree l x (head1 (Jvm.Cond.code x code maxLocals ret :: ws) room_1) (fun a U => a = #[(.int p1), (.long q2), (.int p3), (.int p4), (.long q5), (.long q6)] ∧ Z.Warmed39 U.vm ∧ U.heap = h0) (fun _ _ _ _ _ => True) (fun _ U oo U' => ∃ v L, oo = .returned v ∧ Q0 Z p1 q2 p3 p4 q5 q6 h0 n0 v U'.heap L ∧ FrameEnd U oo U' L room_1.cells room_1.slots) := by
  refine MetFree.of_bodySF (plainFor_of_name pn_0) hisR ?_
  intro p e s m args below meth c s₁ Bd hml0 hP hK
  obtain ⟨rfl, hZ, hh⟩ := hP
  have hx := Bd.exec
  have hby := Bd.bytes
  have hml : c.maxLocals = 27 := hml0
  have hown : s.vm.findClass "com/example/oriflamme/oriflamme/runtime/RunFiguresAverageDurationMsPinLaw" = some m.cls := findClass_of_methodNamed Bd.named
  have hnm := (name_of_methodNamed Bd.named Bd.method).1
  have X0 : Stand p l e room_1 s m #[(.int p1), (.long q2), (.int p3), (.int p4), (.long q5), (.long q6)] below meth c s₁ [] 0 0 := Stand.of_body Bd
  have e0 : s₁.heap = h0 := by rw [← hh, Bd.state]; rfl
  have N0 := Fr.nil n0
  have K0 : Keep h0 h0 [] := Keep.refl _ _
  have pre0 : ∀ tg, Steps p.tables e below (s₁.setTop (mkF m 0 #[.val (.int p1), .val (.long q2), .second, .val (.int p3), .val (.int p4), .val (.long q5), .second, .val (.long q6), .second, .unset, .unset, .unset, .unset, .unset, .unset, .unset, .unset, .unset, .unset, .unset, .unset, .unset, .unset, .unset, .unset, .unset, .unset] [])) tg → Steps p.tables e below (s₁.setTop (entryFrame m #[(.int p1), (.long q2), (.int p3), (.int p4), (.long q5), (.long q6)] maxLocals)) tg := fun tg k => castTop (ef_0 m p1 q2 p3 p4 q5 q6) k
  have st2 : ∀ tg, Steps p.tables e below (s₁.setTop (mkF m 7 #[.val (.int p1), .val (.long q2), .second, .val (.int p3), .val (.int p4), .val (.long q5), .second, .val (.long q6), .second, .val (.int (p1 &&& (3 : Int32))), .unset, .unset, .unset, .unset, .unset, .unset, .unset, .unset, .unset, .unset, .unset, .unset, .unset, .unset, .unset, .unset, .unset] [(.int (p1 &&& (3 : Int32)))])) tg → Steps p.tables e below (s₁.setTop (mkF m 0 #[.val (.int p1), .val (.long q2), .second, .val (.int p3), .val (.int p4), .val (.long q5), .second, .val (.long q6), .second, .unset, .unset, .unset, .unset, .unset, .unset, .unset, .unset, .unset, .unset, .unset, .unset, .unset, .unset, .unset, .unset, .unset, .unset] [])) tg := by
    intro tg kt
    refine XS.iloadN X0.here hx rfl (hb hby at_0) rfl ?_
    refine XS.iconst X0.here hx rfl (hb hby at_1) ?_
    refine XS.iand X0.here hx rfl (hb hby at_2) rfl ?_
    refine XS.istore X0.here hx rfl (hb hby at_3) rfl (l' := #[.val (.int p1), .val (.long q2), .second, .val (.int p3), .val (.int p4), .val (.long q5), .second, .val (.long q6), .second, .val (.int (p1 &&& (3 : Int32))), .unset, .unset, .unset, .unset, .unset, .unset, .unset, .unset, .unset, .unset, .unset, .unset, .unset, .unset, .unset, .unset, .unset]) rfl ?_
    show Steps p.tables e below (s₁.setTop (mkF m 5 #[.val (.int p1), .val (.long q2), .second, .val (.int p3), .val (.int p4), .val (.long q5), .second, .val (.long q6), .second, .val (.int (p1 &&& (3 : Int32))), .unset, .unset, .unset, .unset, .unset, .unset, .unset, .unset, .unset, .unset, .unset, .unset, .unset, .unset, .unset, .unset, .unset] [])) tg
    refine XS.iload X0.here hx rfl (hb hby at_5) rfl ?_
    exact kt
  by_cases hc7_1 : (p1 &&& (3 : Int32)) = 0
  · -- pc 7: (p1 &&& (3 : Int32)) = 0
    have st3 : ∀ tg, Steps p.tables e below (s₁.setTop (mkF m 10 #[.val (.int p1), .val (.long q2), .second, .val (.int p3), .val (.int p4), .val (.long q5), .second, .val (.long q6), .second, .val (.int (p1 &&& (3 : Int32))), .unset, .unset, .unset, .unset, .unset, .unset, .unset, .unset, .unset, .unset, .unset, .unset, .unset, .unset, .unset, .unset, .unset] [])) tg → Steps p.tables e below (s₁.setTop (mkF m 7 #[.val (.int p1), .val (.long q2), .second, .val (.int p3), .val (.int p4), .val (.long q5), .second, .val (.long q6), .second, .val (.int (p1 &&& (3 : Int32))), .unset, .unset, .unset, .unset, .unset, .unset, .unset, .unset, .unset, .unset, .unset, .unset, .unset, .unset, .unset, .unset, .unset] [(.int (p1 &&& (3 : Int32)))])) tg := by
      intro tg kt
      refine XS.ifNo X0.here hx rfl (hb hby at_7) rfl (XT.i0_ne_f hc7_1) ?_
      exact kt
    obtain ⟨T4, h4, X4, e4, E4, A4, D4, -, st4⟩ := newO X0 hx hZ hown (hw _ (List.mem_of_getElem? (i := 0) rfl)) (hw _ (List.mem_of_getElem? (i := 1) rfl)) (hw _ (List.mem_of_getElem? (i := 2) rfl)) e0 (g := (mkF m 10 #[.val (.int p1), .val (.long q2), .second, .val (.int p3), .val (.int p4), .val (.long q5), .second, .val (.long q6), .second, .val (.int (p1 &&& (3 : Int32))), .unset, .unset, .unset, .unset, .unset, .unset, .unset, .unset, .unset, .unset, .unset, .unset, .unset, .unset, .unset, .unset, .unset] [])) rfl (hb hby at_10) (by decide) (by decide)
    obtain ⟨b4, gz4⟩ : ∃ z, z = h0.size := ⟨_, rfl⟩
    rw [← gz4] at A4 D4 st4
    have g_b4 : n0 ≤ b4 := Nat.le_trans Z0 (Nat.le_of_eq gz4.symm)
    have sz_b4 : h0.size ≤ b4 := Nat.le_trans K0.1 (Nat.le_of_eq gz4.symm)
    have K4 : Keep h0 h4 [] := K0.ext E4
    have Z4 : n0 ≤ h4.size := Nat.le_trans Z0 E4.1
    have G5 : Exa Z h4 b4 "com/example/oriflamme/oriflamme/runtime/RunFigures" := A4
    have G6 : Fld Z h4 b4 "com/example/oriflamme/oriflamme/runtime/RunFigures" "runs" "J" (.long (0 : Int64)) := D4 (Or.inr (hw _ (List.mem_of_getElem? (i := 15) rfl))) (ty := .long) (by decide)
    have G7 : Fld Z h4 b4 "com/example/oriflamme/oriflamme/runtime/RunFigures" "succeeded" "J" (.long (0 : Int64)) := D4 (Or.inr (hw _ (List.mem_of_getElem? (i := 17) rfl))) (ty := .long) (by decide)
    have G8 : Fld Z h4 b4 "com/example/oriflamme/oriflamme/runtime/RunFigures" "failed" "J" (.long (0 : Int64)) := D4 (Or.inr (hw _ (List.mem_of_getElem? (i := 19) rfl))) (ty := .long) (by decide)
    have G9 : Fld Z h4 b4 "com/example/oriflamme/oriflamme/runtime/RunFigures" "totalDurationMs" "J" (.long (0 : Int64)) := D4 (Or.inr (hw _ (List.mem_of_getElem? (i := 21) rfl))) (ty := .long) (by decide)
    have st10 : ∀ tg, Steps p.tables e below (T4.setTop (mkF m 20 #[.val (.int p1), .val (.long q2), .second, .val (.int p3), .val (.int p4), .val (.long q5), .second, .val (.long q6), .second, .val (.int (p1 &&& (3 : Int32))), .unset, .unset, .unset, .unset, .unset, .unset, .unset, .unset, .unset, .unset, .unset, .unset, .unset, .unset, .unset, .unset, .unset] [(.long q5), (.long q2), (.long q6), (.long (0 : Int64)), (.ref b4), (.ref b4)])) tg → Steps p.tables e below (T4.setTop (mkF m 13 #[.val (.int p1), .val (.long q2), .second, .val (.int p3), .val (.int p4), .val (.long q5), .second, .val (.long q6), .second, .val (.int (p1 &&& (3 : Int32))), .unset, .unset, .unset, .unset, .unset, .unset, .unset, .unset, .unset, .unset, .unset, .unset, .unset, .unset, .unset, .unset, .unset] [(.ref b4)])) tg := by
      intro tg kt
      refine XS.dup X4.here hx rfl (hb hby at_13) rfl rfl ?_
      refine XS.lconst X4.here hx rfl (hb hby at_14) ?_
      refine XS.lload X4.here hx rfl (hb hby at_15) rfl ?_
      refine XS.lloadN X4.here hx rfl (hb hby at_17) rfl ?_
      show Steps p.tables e below (T4.setTop (mkF m 18 #[.val (.int p1), .val (.long q2), .second, .val (.int p3), .val (.int p4), .val (.long q5), .second, .val (.long q6), .second, .val (.int (p1 &&& (3 : Int32))), .unset, .unset, .unset, .unset, .unset, .unset, .unset, .unset, .unset, .unset, .unset, .unset, .unset, .unset, .unset, .unset, .unset] [(.long q2), (.long q6), (.long (0 : Int64)), (.ref b4), (.ref b4)])) tg
      refine XS.lload X4.here hx rfl (hb hby at_18) rfl ?_
      exact kt
    obtain ⟨_, _, ⟨T11, L11, k11, n11⟩, -, X11, ⟨Lc11, hQ11, l11, y11, z11⟩, st11⟩ := X4.specialBack hx (y := (⟨"com/example/oriflamme/oriflamme/runtime/RunFigures", "<init>", "(JJJJ)V"⟩ : MethodName)) rfl hown (mvT hZ (hw _ (List.mem_of_getElem? (i := 3) rfl))) (mvT hZ (hw _ (List.mem_of_getElem? (i := 4) rfl))) (mvT hZ (hw _ (List.mem_of_getElem? (i := 5) rfl))) (by decide) (backOf (W := 1) (rm1 l Z a0 hw [] b4 (0 : Int64) q6 q2 q5 h4 n0 Z4 G6 G7 G8 G9 G5 g_b4) hZ (hw _ (List.mem_of_getElem? (i := 5) rfl)) (hw _ (List.mem_of_getElem? (i := 2) rfl)) (by decide) (by decide)) (g := (mkF m 20 #[.val (.int p1), .val (.long q2), .second, .val (.int p3), .val (.int p4), .val (.long q5), .second, .val (.long q6), .second, .val (.int (p1 &&& (3 : Int32))), .unset, .unset, .unset, .unset, .unset, .unset, .unset, .unset, .unset, .unset, .unset, .unset, .unset, .unset, .unset, .unset, .unset] [(.long q5), (.long q2), (.long q6), (.long (0 : Int64)), (.ref b4), (.ref b4)])) rfl (by rw [hml]; rfl) (Steps.refl _) (a := b4) (argsL := [(.long (0 : Int64)), (.long q6), (.long q2), (.long q5)]) (rest := [(.ref b4)]) (lenOf pd_3 rfl) rfl (by show 2 * 0 + _ ≤ _; exact Nat.le_of_eq rfl) (hb hby at_20) (fun _ _ => ⟨rfl, e4, (by decide : 1 + 0 ≤ _), (by decide : 4 + 0 ≤ _)⟩)
    dsimp only [Pt.U, Pt.locs, Pt.cells, Pt.slots] at X11 l11 y11 z11 st11 hQ11
    subst l11 y11 z11
    obtain ⟨rfl, N11q, K11q, E11q, F11q0, F11q1, F11q2, F11q3⟩ := hQ11
    have N11 := Fr.app N0 N11q
    have G12 : Exa Z T11.heap b4 "com/example/oriflamme/oriflamme/runtime/RunFigures" := G5.keep K11q
    have K11 : Keep h0 T11.heap [] := K4.trans K11q (allS (Or.inr sz_b4) all0)
    have Z11 : n0 ≤ T11.heap.size := Nat.le_trans Z4 K11q.1
    have st13 : ∀ tg, Steps p.tables e below (T11.setTop (mkF m 27 #[.val (.int p1), .val (.long q2), .second, .val (.int p3), .val (.int p4), .val (.long q5), .second, .val (.long q6), .second, .val (.int (p1 &&& (3 : Int32))), .val (.ref b4), .unset, .unset, .unset, .unset, .unset, .unset, .unset, .unset, .unset, .unset, .unset, .unset, .unset, .unset, .unset, .unset] [(.ref b4)])) tg → Steps p.tables e below (T11.setTop (mkF m 23 #[.val (.int p1), .val (.long q2), .second, .val (.int p3), .val (.int p4), .val (.long q5), .second, .val (.long q6), .second, .val (.int (p1 &&& (3 : Int32))), .unset, .unset, .unset, .unset, .unset, .unset, .unset, .unset, .unset, .unset, .unset, .unset, .unset, .unset, .unset, .unset, .unset] [(.ref b4)])) tg := by
      intro tg kt
      refine XS.astore X11.here hx rfl (hb hby at_23) rfl rfl (l' := #[.val (.int p1), .val (.long q2), .second, .val (.int p3), .val (.int p4), .val (.long q5), .second, .val (.long q6), .second, .val (.int (p1 &&& (3 : Int32))), .val (.ref b4), .unset, .unset, .unset, .unset, .unset, .unset, .unset, .unset, .unset, .unset, .unset, .unset, .unset, .unset, .unset, .unset]) rfl ?_
      refine XS.aload X11.here hx rfl (hb hby at_25) rfl rfl ?_
      exact kt
    obtain ⟨cq14, kq14, q14a, q14b, q14c⟩ := isOf hZ rfl E11q
    obtain ⟨_, _, ⟨T14, L14, k14, n14⟩, -, X14, ⟨Lc14, hQ14, l14, y14, z14⟩, st14⟩ := X11.virtualBack hx (y := (⟨"com/example/oriflamme/oriflamme/runtime/RunFigures", "averageDurationMs", "()Ljava/lang/Double;"⟩ : MethodName)) (z := (⟨"com/example/oriflamme/oriflamme/runtime/RunFigures", "averageDurationMs", "()Ljava/lang/Double;"⟩ : MethodName)) hown (mvT hZ (hw _ (List.mem_of_getElem? (i := 22) rfl))) (mvT hZ (hw _ (List.mem_of_getElem? (i := 23) rfl))) (notFace_of_selects (args := #[]) (mvT hZ (hw _ (List.mem_of_getElem? (i := 25) rfl)))) (mvT hZ (hw _ (List.mem_of_getElem? (i := 25) rfl))) (mvT hZ (hw _ (List.mem_of_getElem? (i := 24) rfl))) (by decide) (backOf (W := 0) (rm4n l Z a0 hw [] b4 T11.heap n0 Z11 F11q0) hZ (hw _ (List.mem_of_getElem? (i := 26) rfl)) (hw _ (List.mem_of_getElem? (i := 2) rfl)) (by decide) (by decide)) q14a q14c (g := (mkF m 27 #[.val (.int p1), .val (.long q2), .second, .val (.int p3), .val (.int p4), .val (.long q5), .second, .val (.long q6), .second, .val (.int (p1 &&& (3 : Int32))), .val (.ref b4), .unset, .unset, .unset, .unset, .unset, .unset, .unset, .unset, .unset, .unset, .unset, .unset, .unset, .unset, .unset, .unset] [(.ref b4)])) rfl (by rw [hml]; rfl) (Steps.refl _) (argsL := []) (rest := []) (lenOf pd_4 rfl) rfl (by show 2 * 0 + _ ≤ _; exact Nat.le_of_eq rfl) (hb hby at_27) (fun _ _ => ⟨rfl, rfl, (by decide : 1 + 0 ≤ _), (by decide : 4 + 0 ≤ _)⟩)
    dsimp only [Pt.U, Pt.locs, Pt.cells, Pt.slots] at X14 l14 y14 z14 st14 hQ14
    subst l14 y14 z14
    obtain ⟨rfl, N14q, e14⟩ := hQ14
    have N14 := Fr.app N11 N14q
    have st15 : ∀ tg, Steps p.tables e below (T14.setTop (mkF m 38 #[.val (.int p1), .val (.long q2), .second, .val (.int p3), .val (.int p4), .val (.long q5), .second, .val (.long q6), .second, .val (.int (p1 &&& (3 : Int32))), .val (.ref b4), .unset, .unset, .unset, .unset, .unset, .unset, .unset, .unset, .unset, .unset, .unset, .unset, .unset, .unset, .unset, .unset] [(.int (1 : Int32))])) tg → Steps p.tables e below (T14.setTop (mkF m 30 #[.val (.int p1), .val (.long q2), .second, .val (.int p3), .val (.int p4), .val (.long q5), .second, .val (.long q6), .second, .val (.int (p1 &&& (3 : Int32))), .val (.ref b4), .unset, .unset, .unset, .unset, .unset, .unset, .unset, .unset, .unset, .unset, .unset, .unset, .unset, .unset, .unset, .unset] [.null])) tg := by
      intro tg kt
      refine XS.ifnonnullNo X14.here hx rfl (hb hby at_30) rfl ?_
      refine XS.iconst X14.here hx rfl (hb hby at_33) ?_
      refine XS.goto X14.here hx rfl (pc0 := 34) (pc' := 38) rfl (hb hby at_34) (by decide) (by decide) ?_
      exact kt
    obtain ⟨fs, hr, hrun, hended, hW, hsame⟩ := X14.leave (v := some (.int (1 : Int32))) (fun h => by rw [Bd.returns] at h; cases h)
    refine ⟨_, _, pre0 _ ?_, hrun, hended, _, _, rfl, ?_, ⟨_, rfl⟩, hW, hsame.mono (by decide) (by decide)⟩
    · refine st2 _ ?_
      refine st3 _ ?_
      show Steps p.tables e below (s₁.setTop (mkF m 10 #[.val (.int p1), .val (.long q2), .second, .val (.int p3), .val (.int p4), .val (.long q5), .second, .val (.long q6), .second, .val (.int (p1 &&& (3 : Int32))), .unset, .unset, .unset, .unset, .unset, .unset, .unset, .unset, .unset, .unset, .unset, .unset, .unset, .unset, .unset, .unset, .unset] [])) _
      refine st4 _ ?_
      refine st10 _ ?_
      show Steps p.tables e below (T4.setTop (mkF m 20 #[.val (.int p1), .val (.long q2), .second, .val (.int p3), .val (.int p4), .val (.long q5), .second, .val (.long q6), .second, .val (.int (p1 &&& (3 : Int32))), .unset, .unset, .unset, .unset, .unset, .unset, .unset, .unset, .unset, .unset, .unset, .unset, .unset, .unset, .unset, .unset, .unset] [(.long q5), (.long q2), (.long q6), (.long (0 : Int64)), (.ref b4), (.ref b4)])) _
      refine st11.trans ?_
      refine st13 _ ?_
      show Steps p.tables e below (T11.setTop (mkF m 27 #[.val (.int p1), .val (.long q2), .second, .val (.int p3), .val (.int p4), .val (.long q5), .second, .val (.long q6), .second, .val (.int (p1 &&& (3 : Int32))), .val (.ref b4), .unset, .unset, .unset, .unset, .unset, .unset, .unset, .unset, .unset, .unset, .unset, .unset, .unset, .unset, .unset, .unset] [(.ref b4)])) _
      refine st14.trans ?_
      refine st15 _ ?_
      show Steps p.tables e below (T14.setTop (mkF m 38 #[.val (.int p1), .val (.long q2), .second, .val (.int p3), .val (.int p4), .val (.long q5), .second, .val (.long q6), .second, .val (.int (p1 &&& (3 : Int32))), .val (.ref b4), .unset, .unset, .unset, .unset, .unset, .unset, .unset, .unset, .unset, .unset, .unset, .unset, .unset, .unset, .unset, .unset] [(.int (1 : Int32))])) _
      exact retN X14 hx (t := .boolean) Bd.returns (by simp) (hb hby at_38) hr
    · show Q0 Z p1 q2 p3 p4 q5 q6 h0 n0 _ T14.heap _
      rw [e14]
      exact ⟨rfl, N14⟩
  · -- pc 7: not (p1 &&& (3 : Int32)) = 0
    have st17 : ∀ tg, Steps p.tables e below (s₁.setTop (mkF m 42 #[.val (.int p1), .val (.long q2), .second, .val (.int p3), .val (.int p4), .val (.long q5), .second, .val (.long q6), .second, .val (.int (p1 &&& (3 : Int32))), .unset, .unset, .unset, .unset, .unset, .unset, .unset, .unset, .unset, .unset, .unset, .unset, .unset, .unset, .unset, .unset, .unset] [(.int (1 : Int32)), (.int (p1 &&& (3 : Int32)))])) tg → Steps p.tables e below (s₁.setTop (mkF m 7 #[.val (.int p1), .val (.long q2), .second, .val (.int p3), .val (.int p4), .val (.long q5), .second, .val (.long q6), .second, .val (.int (p1 &&& (3 : Int32))), .unset, .unset, .unset, .unset, .unset, .unset, .unset, .unset, .unset, .unset, .unset, .unset, .unset, .unset, .unset, .unset, .unset] [(.int (p1 &&& (3 : Int32)))])) tg := by
      intro tg kt
      refine XS.ifYes X0.here hx rfl (pc0 := 7) (pc' := 39) rfl (hb hby at_7) rfl (XT.i0_ne_t hc7_1) (by decide) (by decide) ?_
      refine XS.iload X0.here hx rfl (hb hby at_39) rfl ?_
      refine XS.iconst X0.here hx rfl (hb hby at_41) ?_
      exact kt
    by_cases hc42_16 : (p1 &&& (3 : Int32)) = (1 : Int32)
    · -- pc 42: (p1 &&& (3 : Int32)) = (1 : Int32)
      have st19 : ∀ tg, Steps p.tables e below (s₁.setTop (mkF m 48 #[.val (.int p1), .val (.long q2), .second, .val (.int p3), .val (.int p4), .val (.long q5), .second, .val (.long q6), .second, .val (.int (p1 &&& (3 : Int32))), .unset, .unset, .unset, .unset, .unset, .unset, .unset, .unset, .unset, .unset, .unset, .unset, .unset, .unset, .unset, .unset, .unset] [(.int (lcmpW q2 (0 : Int64)))])) tg → Steps p.tables e below (s₁.setTop (mkF m 42 #[.val (.int p1), .val (.long q2), .second, .val (.int p3), .val (.int p4), .val (.long q5), .second, .val (.long q6), .second, .val (.int (p1 &&& (3 : Int32))), .unset, .unset, .unset, .unset, .unset, .unset, .unset, .unset, .unset, .unset, .unset, .unset, .unset, .unset, .unset, .unset, .unset] [(.int (1 : Int32)), (.int (p1 &&& (3 : Int32)))])) tg := by
        intro tg kt
        refine XS.icmpNo X0.here hx rfl (hb hby at_42) rfl (XT.ii_ne_f hc42_16) ?_
        refine XS.lloadN X0.here hx rfl (hb hby at_45) rfl ?_
        refine XS.lconst X0.here hx rfl (hb hby at_46) ?_
        refine XS.lcmp X0.here hx rfl (hb hby at_47) rfl ?_
        exact kt
      obtain ⟨v20, hv20⟩ : ∃ z, z = if q2 = (0 : Int64) then (1 : Int64) else q2 := ⟨_, rfl⟩
      have st21 : ∀ tg, Steps p.tables e below (s₁.setTop (mkF m 56 #[.val (.int p1), .val (.long q2), .second, .val (.int p3), .val (.int p4), .val (.long q5), .second, .val (.long q6), .second, .val (.int (p1 &&& (3 : Int32))), .unset, .unset, .unset, .unset, .unset, .unset, .unset, .unset, .unset, .unset, .unset, .unset, .unset, .unset, .unset, .unset, .unset] [(.long v20)])) tg → Steps p.tables e below (s₁.setTop (mkF m 48 #[.val (.int p1), .val (.long q2), .second, .val (.int p3), .val (.int p4), .val (.long q5), .second, .val (.long q6), .second, .val (.int (p1 &&& (3 : Int32))), .unset, .unset, .unset, .unset, .unset, .unset, .unset, .unset, .unset, .unset, .unset, .unset, .unset, .unset, .unset, .unset, .unset] [(.int (lcmpW q2 (0 : Int64)))])) tg := by
        intro tg kt
        by_cases hc48_18 : q2 = (0 : Int64)
        · have qv20 : v20 = (1 : Int64) := hv20.trans (if_pos hc48_18)
          rw [qv20] at kt
          refine XS.ifNo X0.here hx rfl (hb hby at_48) rfl (XT.ll_ne_f hc48_18) ?_
          refine XS.lconst X0.here hx rfl (hb hby at_51) ?_
          refine XS.goto X0.here hx rfl (pc0 := 52) (pc' := 56) rfl (hb hby at_52) (by decide) (by decide) ?_
          exact kt
        · have qv20 : v20 = q2 := hv20.trans (if_neg hc48_18)
          rw [qv20] at kt
          refine XS.ifYes X0.here hx rfl (pc0 := 48) (pc' := 55) rfl (hb hby at_48) rfl (XT.ll_ne_t hc48_18) (by decide) (by decide) ?_
          refine XS.lloadN X0.here hx rfl (hb hby at_55) rfl ?_
          exact kt
      have st22 : ∀ tg, Steps p.tables e below (s₁.setTop (mkF m 58 #[.val (.int p1), .val (.long q2), .second, .val (.int p3), .val (.int p4), .val (.long q5), .second, .val (.long q6), .second, .val (.int (p1 &&& (3 : Int32))), .val (.long v20), .second, .unset, .unset, .unset, .unset, .unset, .unset, .unset, .unset, .unset, .unset, .unset, .unset, .unset, .unset, .unset] [])) tg → Steps p.tables e below (s₁.setTop (mkF m 56 #[.val (.int p1), .val (.long q2), .second, .val (.int p3), .val (.int p4), .val (.long q5), .second, .val (.long q6), .second, .val (.int (p1 &&& (3 : Int32))), .unset, .unset, .unset, .unset, .unset, .unset, .unset, .unset, .unset, .unset, .unset, .unset, .unset, .unset, .unset, .unset, .unset] [(.long v20)])) tg := by
        intro tg kt
        refine XS.lstore X0.here hx rfl (hb hby at_56) rfl (l' := #[.val (.int p1), .val (.long q2), .second, .val (.int p3), .val (.int p4), .val (.long q5), .second, .val (.long q6), .second, .val (.int (p1 &&& (3 : Int32))), .val (.long v20), .second, .unset, .unset, .unset, .unset, .unset, .unset, .unset, .unset, .unset, .unset, .unset, .unset, .unset, .unset, .unset]) rfl ?_
        exact kt
      obtain ⟨T23, h23, X23, e23, E23, A23, D23, -, st23⟩ := newO X0 hx hZ hown (hw _ (List.mem_of_getElem? (i := 0) rfl)) (hw _ (List.mem_of_getElem? (i := 1) rfl)) (hw _ (List.mem_of_getElem? (i := 2) rfl)) e0 (g := (mkF m 58 #[.val (.int p1), .val (.long q2), .second, .val (.int p3), .val (.int p4), .val (.long q5), .second, .val (.long q6), .second, .val (.int (p1 &&& (3 : Int32))), .val (.long v20), .second, .unset, .unset, .unset, .unset, .unset, .unset, .unset, .unset, .unset, .unset, .unset, .unset, .unset, .unset, .unset] [])) rfl (hb hby at_58) (by decide) (by decide)
      obtain ⟨b23, gz23⟩ : ∃ z, z = h0.size := ⟨_, rfl⟩
      rw [← gz23] at A23 D23 st23
      have g_b23 : n0 ≤ b23 := Nat.le_trans Z0 (Nat.le_of_eq gz23.symm)
      have sz_b23 : h0.size ≤ b23 := Nat.le_trans K0.1 (Nat.le_of_eq gz23.symm)
      have K23 : Keep h0 h23 [] := K0.ext E23
      have Z23 : n0 ≤ h23.size := Nat.le_trans Z0 E23.1
      have G24 : Exa Z h23 b23 "com/example/oriflamme/oriflamme/runtime/RunFigures" := A23
      have G25 : Fld Z h23 b23 "com/example/oriflamme/oriflamme/runtime/RunFigures" "runs" "J" (.long (0 : Int64)) := D23 (Or.inr (hw _ (List.mem_of_getElem? (i := 15) rfl))) (ty := .long) (by decide)
      have G26 : Fld Z h23 b23 "com/example/oriflamme/oriflamme/runtime/RunFigures" "succeeded" "J" (.long (0 : Int64)) := D23 (Or.inr (hw _ (List.mem_of_getElem? (i := 17) rfl))) (ty := .long) (by decide)
      have G27 : Fld Z h23 b23 "com/example/oriflamme/oriflamme/runtime/RunFigures" "failed" "J" (.long (0 : Int64)) := D23 (Or.inr (hw _ (List.mem_of_getElem? (i := 19) rfl))) (ty := .long) (by decide)
      have G28 : Fld Z h23 b23 "com/example/oriflamme/oriflamme/runtime/RunFigures" "totalDurationMs" "J" (.long (0 : Int64)) := D23 (Or.inr (hw _ (List.mem_of_getElem? (i := 21) rfl))) (ty := .long) (by decide)
      have st29 : ∀ tg, Steps p.tables e below (T23.setTop (mkF m 70 #[.val (.int p1), .val (.long q2), .second, .val (.int p3), .val (.int p4), .val (.long q5), .second, .val (.long q6), .second, .val (.int (p1 &&& (3 : Int32))), .val (.long v20), .second, .unset, .unset, .unset, .unset, .unset, .unset, .unset, .unset, .unset, .unset, .unset, .unset, .unset, .unset, .unset] [(.long v20), (.long q5), (.long q6), (.long v20), (.ref b23), (.ref b23)])) tg → Steps p.tables e below (T23.setTop (mkF m 61 #[.val (.int p1), .val (.long q2), .second, .val (.int p3), .val (.int p4), .val (.long q5), .second, .val (.long q6), .second, .val (.int (p1 &&& (3 : Int32))), .val (.long v20), .second, .unset, .unset, .unset, .unset, .unset, .unset, .unset, .unset, .unset, .unset, .unset, .unset, .unset, .unset, .unset] [(.ref b23)])) tg := by
        intro tg kt
        refine XS.dup X23.here hx rfl (hb hby at_61) rfl rfl ?_
        refine XS.lload X23.here hx rfl (hb hby at_62) rfl ?_
        refine XS.lload X23.here hx rfl (hb hby at_64) rfl ?_
        refine XS.lload X23.here hx rfl (hb hby at_66) rfl ?_
        show Steps p.tables e below (T23.setTop (mkF m 68 #[.val (.int p1), .val (.long q2), .second, .val (.int p3), .val (.int p4), .val (.long q5), .second, .val (.long q6), .second, .val (.int (p1 &&& (3 : Int32))), .val (.long v20), .second, .unset, .unset, .unset, .unset, .unset, .unset, .unset, .unset, .unset, .unset, .unset, .unset, .unset, .unset, .unset] [(.long q5), (.long q6), (.long v20), (.ref b23), (.ref b23)])) tg
        refine XS.lload X23.here hx rfl (hb hby at_68) rfl ?_
        exact kt
      obtain ⟨_, _, ⟨T30, L30, k30, n30⟩, -, X30, ⟨Lc30, hQ30, l30, y30, z30⟩, st30⟩ := X23.specialBack hx (y := (⟨"com/example/oriflamme/oriflamme/runtime/RunFigures", "<init>", "(JJJJ)V"⟩ : MethodName)) rfl hown (mvT hZ (hw _ (List.mem_of_getElem? (i := 3) rfl))) (mvT hZ (hw _ (List.mem_of_getElem? (i := 4) rfl))) (mvT hZ (hw _ (List.mem_of_getElem? (i := 5) rfl))) (by decide) (backOf (W := 1) (rm1 l Z a0 hw [] b23 v20 q6 q5 v20 h23 n0 Z23 G25 G26 G27 G28 G24 g_b23) hZ (hw _ (List.mem_of_getElem? (i := 5) rfl)) (hw _ (List.mem_of_getElem? (i := 2) rfl)) (by decide) (by decide)) (g := (mkF m 70 #[.val (.int p1), .val (.long q2), .second, .val (.int p3), .val (.int p4), .val (.long q5), .second, .val (.long q6), .second, .val (.int (p1 &&& (3 : Int32))), .val (.long v20), .second, .unset, .unset, .unset, .unset, .unset, .unset, .unset, .unset, .unset, .unset, .unset, .unset, .unset, .unset, .unset] [(.long v20), (.long q5), (.long q6), (.long v20), (.ref b23), (.ref b23)])) rfl (by rw [hml]; rfl) (Steps.refl _) (a := b23) (argsL := [(.long v20), (.long q6), (.long q5), (.long v20)]) (rest := [(.ref b23)]) (lenOf pd_3 rfl) rfl (by show 2 * 0 + _ ≤ _; exact Nat.le_of_eq rfl) (hb hby at_70) (fun _ _ => ⟨rfl, e23, (by decide : 1 + 0 ≤ _), (by decide : 4 + 0 ≤ _)⟩)
      dsimp only [Pt.U, Pt.locs, Pt.cells, Pt.slots] at X30 l30 y30 z30 st30 hQ30
      subst l30 y30 z30
      obtain ⟨rfl, N30q, K30q, E30q, F30q0, F30q1, F30q2, F30q3⟩ := hQ30
      have N30 := Fr.app N0 N30q
      have G31 : Exa Z T30.heap b23 "com/example/oriflamme/oriflamme/runtime/RunFigures" := G24.keep K30q
      have K30 : Keep h0 T30.heap [] := K23.trans K30q (allS (Or.inr sz_b23) all0)
      have Z30 : n0 ≤ T30.heap.size := Nat.le_trans Z23 K30q.1
      obtain ⟨cq32, kq32, q32a, q32b, q32c⟩ := isOf hZ rfl E30q
      obtain ⟨_, _, ⟨T32, L32, k32, n32⟩, -, X32, ⟨Lc32, hQ32, l32, y32, z32⟩, st32⟩ := X30.virtualBack hx (y := (⟨"com/example/oriflamme/oriflamme/runtime/RunFigures", "averageDurationMs", "()Ljava/lang/Double;"⟩ : MethodName)) (z := (⟨"com/example/oriflamme/oriflamme/runtime/RunFigures", "averageDurationMs", "()Ljava/lang/Double;"⟩ : MethodName)) hown (mvT hZ (hw _ (List.mem_of_getElem? (i := 22) rfl))) (mvT hZ (hw _ (List.mem_of_getElem? (i := 23) rfl))) (notFace_of_selects (args := #[]) (mvT hZ (hw _ (List.mem_of_getElem? (i := 25) rfl)))) (mvT hZ (hw _ (List.mem_of_getElem? (i := 25) rfl))) (mvT hZ (hw _ (List.mem_of_getElem? (i := 24) rfl))) (by decide) (backOf (W := 0) (rm4 l Z a0 hw [] b23 v20 v20 T30.heap n0 Z30 F30q0 F30q3 (own_v0 hv20)) hZ (hw _ (List.mem_of_getElem? (i := 26) rfl)) (hw _ (List.mem_of_getElem? (i := 2) rfl)) (by decide) (by decide)) q32a q32c (g := (mkF m 73 #[.val (.int p1), .val (.long q2), .second, .val (.int p3), .val (.int p4), .val (.long q5), .second, .val (.long q6), .second, .val (.int (p1 &&& (3 : Int32))), .val (.long v20), .second, .unset, .unset, .unset, .unset, .unset, .unset, .unset, .unset, .unset, .unset, .unset, .unset, .unset, .unset, .unset] [(.ref b23)])) rfl (by rw [hml]; rfl) (Steps.refl _) (argsL := []) (rest := []) (lenOf pd_4 rfl) rfl (by show 2 * 0 + _ ≤ _; exact Nat.le_of_eq rfl) (hb hby at_73) (fun _ _ => ⟨rfl, rfl, (by decide : 1 + 1 ≤ _), (by decide : 4 + 1 ≤ _)⟩)
      dsimp only [Pt.U, Pt.locs, Pt.cells, Pt.slots] at X32 l32 y32 z32 st32 hQ32
      subst l32 y32 z32
      obtain ⟨b32, rfl, N32q, K32q, g_b32, sz32q, Ex32, Fv32⟩ := hQ32
      have N32 := Fr.app N30 N32q
      have ne_b23_b32 : b23 ≠ b32 := Nat.ne_of_lt (Nat.lt_of_lt_of_le E30q.lt sz32q)
      have sz_b32 : h0.size ≤ b32 := Nat.le_trans K30.1 sz32q
      have G33 : Exa Z T32.heap b23 "com/example/oriflamme/oriflamme/runtime/RunFigures" := E30q.keep K32q
      have G34 : Fld Z T32.heap b23 "com/example/oriflamme/oriflamme/runtime/RunFigures" "runs" "J" (.long v20) := F30q0.keep K32q (nin0)
      have G35 : Fld Z T32.heap b23 "com/example/oriflamme/oriflamme/runtime/RunFigures" "succeeded" "J" (.long q6) := F30q1.keep K32q (nin0)
      have G36 : Fld Z T32.heap b23 "com/example/oriflamme/oriflamme/runtime/RunFigures" "failed" "J" (.long q5) := F30q2.keep K32q (nin0)
      have G37 : Fld Z T32.heap b23 "com/example/oriflamme/oriflamme/runtime/RunFigures" "totalDurationMs" "J" (.long v20) := F30q3.keep K32q (nin0)
      have K32 : Keep h0 T32.heap [] := K30.trans K32q all0
      have Z32 : n0 ≤ T32.heap.size := Nat.le_trans Z30 K32q.1
      have st38 : ∀ tg, Steps p.tables e below (T32.setTop (mkF m 85 #[.val (.int p1), .val (.long q2), .second, .val (.int p3), .val (.int p4), .val (.long q5), .second, .val (.long q6), .second, .val (.int (p1 &&& (3 : Int32))), .val (.long v20), .second, .val (.ref b32), .unset, .unset, .unset, .unset, .unset, .unset, .unset, .unset, .unset, .unset, .unset, .unset, .unset, .unset] [(.ref b32)])) tg → Steps p.tables e below (T32.setTop (mkF m 76 #[.val (.int p1), .val (.long q2), .second, .val (.int p3), .val (.int p4), .val (.long q5), .second, .val (.long q6), .second, .val (.int (p1 &&& (3 : Int32))), .val (.long v20), .second, .unset, .unset, .unset, .unset, .unset, .unset, .unset, .unset, .unset, .unset, .unset, .unset, .unset, .unset, .unset] [(.ref b32)])) tg := by
        intro tg kt
        refine XS.astore X32.here hx rfl (hb hby at_76) rfl rfl (l' := #[.val (.int p1), .val (.long q2), .second, .val (.int p3), .val (.int p4), .val (.long q5), .second, .val (.long q6), .second, .val (.int (p1 &&& (3 : Int32))), .val (.long v20), .second, .val (.ref b32), .unset, .unset, .unset, .unset, .unset, .unset, .unset, .unset, .unset, .unset, .unset, .unset, .unset, .unset]) rfl ?_
        refine XS.aload X32.here hx rfl (hb hby at_78) rfl rfl ?_
        refine XS.ifnullNo X32.here hx rfl (hb hby at_80) rfl ?_
        refine XS.aload X32.here hx rfl (hb hby at_83) rfl rfl ?_
        exact kt
      obtain ⟨cq39, kq39, q39a, q39b, q39c⟩ := isOf hZ rfl Ex32
      obtain ⟨_, _, ⟨T39, L39, k39, n39⟩, -, X39, ⟨Lc39, hQ39, l39, y39, z39⟩, st39⟩ := X32.virtualBack hx (y := (⟨"java/lang/Double", "doubleValue", "()D"⟩ : MethodName)) (z := (⟨"java/lang/Double", "doubleValue", "()D"⟩ : MethodName)) hown (mvT hZ (hw _ (List.mem_of_getElem? (i := 46) rfl))) (mvT hZ (hw _ (List.mem_of_getElem? (i := 47) rfl))) (notFace_of_selects (args := #[]) (mvT hZ (hw _ (List.mem_of_getElem? (i := 49) rfl)))) (mvT hZ (hw _ (List.mem_of_getElem? (i := 49) rfl))) (mvT hZ (hw _ (List.mem_of_getElem? (i := 48) rfl))) (by decide) (backOf (W := 0) (rm8 l Z a0 hw [] b32 (FP.ddiv (FP.l2d v20) (FP.l2d v20)) T32.heap n0 Z32 Fv32) hZ (hw _ (List.mem_of_getElem? (i := 50) rfl)) (hw _ (List.mem_of_getElem? (i := 29) rfl)) (by decide) (by decide)) q39a q39c (g := (mkF m 85 #[.val (.int p1), .val (.long q2), .second, .val (.int p3), .val (.int p4), .val (.long q5), .second, .val (.long q6), .second, .val (.int (p1 &&& (3 : Int32))), .val (.long v20), .second, .val (.ref b32), .unset, .unset, .unset, .unset, .unset, .unset, .unset, .unset, .unset, .unset, .unset, .unset, .unset, .unset] [(.ref b32)])) rfl (by rw [hml]; rfl) (Steps.refl _) (argsL := []) (rest := []) (lenOf pd_5 rfl) rfl (by show 2 * 0 + _ ≤ _; exact Nat.le_of_eq rfl) (hb hby at_85) (fun _ _ => ⟨rfl, rfl, (by decide : 2 + 0 ≤ _), (by decide : 5 + 0 ≤ _)⟩)
      dsimp only [Pt.U, Pt.locs, Pt.cells, Pt.slots] at X39 l39 y39 z39 st39 hQ39
      subst l39 y39 z39
      obtain ⟨rfl, N39q, e39⟩ := hQ39
      have N39 := Fr.app N32 N39q
      have st40 : ∀ tg, Steps p.tables e below (T39.setTop (mkF m 89 #[.val (.int p1), .val (.long q2), .second, .val (.int p3), .val (.int p4), .val (.long q5), .second, .val (.long q6), .second, .val (.int (p1 &&& (3 : Int32))), .val (.long v20), .second, .val (.ref b32), .unset, .unset, .unset, .unset, .unset, .unset, .unset, .unset, .unset, .unset, .unset, .unset, .unset, .unset] [(.double FP.dconst1), (.double (FP.ddiv (FP.l2d v20) (FP.l2d v20)))])) tg → Steps p.tables e below (T39.setTop (mkF m 88 #[.val (.int p1), .val (.long q2), .second, .val (.int p3), .val (.int p4), .val (.long q5), .second, .val (.long q6), .second, .val (.int (p1 &&& (3 : Int32))), .val (.long v20), .second, .val (.ref b32), .unset, .unset, .unset, .unset, .unset, .unset, .unset, .unset, .unset, .unset, .unset, .unset, .unset, .unset] [(.double (FP.ddiv (FP.l2d v20) (FP.l2d v20)))])) tg := by
        intro tg kt
        refine XS.dconst1 X39.here hx rfl (hb hby at_88) rfl ?_
        exact kt
      have hv41 : Jvm.Op.cmpValue (FP.dcmp (FP.ddiv (FP.l2d v20) (FP.l2d v20)) FP.dconst1) .l = (0 : Int32) := own_one (own_v0 hv20)
      have st42 : ∀ tg, Steps p.tables e below (T39.setTop (mkF m 98 #[.val (.int p1), .val (.long q2), .second, .val (.int p3), .val (.int p4), .val (.long q5), .second, .val (.long q6), .second, .val (.int (p1 &&& (3 : Int32))), .val (.long v20), .second, .val (.ref b32), .unset, .unset, .unset, .unset, .unset, .unset, .unset, .unset, .unset, .unset, .unset, .unset, .unset, .unset] [(.int (1 : Int32))])) tg → Steps p.tables e below (T39.setTop (mkF m 89 #[.val (.int p1), .val (.long q2), .second, .val (.int p3), .val (.int p4), .val (.long q5), .second, .val (.long q6), .second, .val (.int (p1 &&& (3 : Int32))), .val (.long v20), .second, .val (.ref b32), .unset, .unset, .unset, .unset, .unset, .unset, .unset, .unset, .unset, .unset, .unset, .unset, .unset, .unset] [(.double FP.dconst1), (.double (FP.ddiv (FP.l2d v20) (FP.l2d v20)))])) tg := by
        intro tg kt
        refine XS.dcmpS X39.here hx rfl (hb hby at_89) rfl hv41 ?_
        refine XS.ifNo X39.here hx rfl (hb hby at_90) rfl (XT.i0_ne_f (by decide)) ?_
        refine XS.iconst X39.here hx rfl (hb hby at_93) ?_
        refine XS.goto X39.here hx rfl (pc0 := 94) (pc' := 98) rfl (hb hby at_94) (by decide) (by decide) ?_
        exact kt
      obtain ⟨fs, hr, hrun, hended, hW, hsame⟩ := X39.leave (v := some (.int (1 : Int32))) (fun h => by rw [Bd.returns] at h; cases h)
      refine ⟨_, _, pre0 _ ?_, hrun, hended, _, _, rfl, ?_, ⟨_, rfl⟩, hW, hsame.mono (by decide) (by decide)⟩
      · refine st2 _ ?_
        refine st17 _ ?_
        refine st19 _ ?_
        refine st21 _ ?_
        refine st22 _ ?_
        show Steps p.tables e below (s₁.setTop (mkF m 58 #[.val (.int p1), .val (.long q2), .second, .val (.int p3), .val (.int p4), .val (.long q5), .second, .val (.long q6), .second, .val (.int (p1 &&& (3 : Int32))), .val (.long v20), .second, .unset, .unset, .unset, .unset, .unset, .unset, .unset, .unset, .unset, .unset, .unset, .unset, .unset, .unset, .unset] [])) _
        refine st23 _ ?_
        refine st29 _ ?_
        show Steps p.tables e below (T23.setTop (mkF m 70 #[.val (.int p1), .val (.long q2), .second, .val (.int p3), .val (.int p4), .val (.long q5), .second, .val (.long q6), .second, .val (.int (p1 &&& (3 : Int32))), .val (.long v20), .second, .unset, .unset, .unset, .unset, .unset, .unset, .unset, .unset, .unset, .unset, .unset, .unset, .unset, .unset, .unset] [(.long v20), (.long q5), (.long q6), (.long v20), (.ref b23), (.ref b23)])) _
        refine st30.trans ?_
        show Steps p.tables e below (T30.setTop (mkF m 73 #[.val (.int p1), .val (.long q2), .second, .val (.int p3), .val (.int p4), .val (.long q5), .second, .val (.long q6), .second, .val (.int (p1 &&& (3 : Int32))), .val (.long v20), .second, .unset, .unset, .unset, .unset, .unset, .unset, .unset, .unset, .unset, .unset, .unset, .unset, .unset, .unset, .unset] [(.ref b23)])) _
        refine st32.trans ?_
        refine st38 _ ?_
        show Steps p.tables e below (T32.setTop (mkF m 85 #[.val (.int p1), .val (.long q2), .second, .val (.int p3), .val (.int p4), .val (.long q5), .second, .val (.long q6), .second, .val (.int (p1 &&& (3 : Int32))), .val (.long v20), .second, .val (.ref b32), .unset, .unset, .unset, .unset, .unset, .unset, .unset, .unset, .unset, .unset, .unset, .unset, .unset, .unset] [(.ref b32)])) _
        refine st39.trans ?_
        refine st40 _ ?_
        refine st42 _ ?_
        show Steps p.tables e below (T39.setTop (mkF m 98 #[.val (.int p1), .val (.long q2), .second, .val (.int p3), .val (.int p4), .val (.long q5), .second, .val (.long q6), .second, .val (.int (p1 &&& (3 : Int32))), .val (.long v20), .second, .val (.ref b32), .unset, .unset, .unset, .unset, .unset, .unset, .unset, .unset, .unset, .unset, .unset, .unset, .unset, .unset] [(.int (1 : Int32))])) _
        exact retN X39 hx (t := .boolean) Bd.returns (by simp) (hb hby at_98) hr
      · show Q0 Z p1 q2 p3 p4 q5 q6 h0 n0 _ T39.heap _
        rw [e39]
        exact ⟨rfl, N39⟩
    · -- pc 42: not (p1 &&& (3 : Int32)) = (1 : Int32)
      have st44 : ∀ tg, Steps p.tables e below (s₁.setTop (mkF m 102 #[.val (.int p1), .val (.long q2), .second, .val (.int p3), .val (.int p4), .val (.long q5), .second, .val (.long q6), .second, .val (.int (p1 &&& (3 : Int32))), .unset, .unset, .unset, .unset, .unset, .unset, .unset, .unset, .unset, .unset, .unset, .unset, .unset, .unset, .unset, .unset, .unset] [(.int (3 : Int32)), (.int (p1 &&& (3 : Int32)))])) tg → Steps p.tables e below (s₁.setTop (mkF m 42 #[.val (.int p1), .val (.long q2), .second, .val (.int p3), .val (.int p4), .val (.long q5), .second, .val (.long q6), .second, .val (.int (p1 &&& (3 : Int32))), .unset, .unset, .unset, .unset, .unset, .unset, .unset, .unset, .unset, .unset, .unset, .unset, .unset, .unset, .unset, .unset, .unset] [(.int (1 : Int32)), (.int (p1 &&& (3 : Int32)))])) tg := by
        intro tg kt
        refine XS.icmpYes X0.here hx rfl (pc0 := 42) (pc' := 99) rfl (hb hby at_42) rfl (XT.ii_ne_t hc42_16) (by decide) (by decide) ?_
        refine XS.iload X0.here hx rfl (hb hby at_99) rfl ?_
        refine XS.iconst X0.here hx rfl (hb hby at_101) ?_
        exact kt
      by_cases hc102_43 : (p1 &&& (3 : Int32)) = (3 : Int32)
      · -- pc 102: (p1 &&& (3 : Int32)) = (3 : Int32)
        have st46 : ∀ tg, Steps p.tables e below (s₁.setTop (mkF m 108 #[.val (.int p1), .val (.long q2), .second, .val (.int p3), .val (.int p4), .val (.long q5), .second, .val (.long q6), .second, .val (.int (p1 &&& (3 : Int32))), .unset, .unset, .unset, .unset, .unset, .unset, .unset, .unset, .unset, .unset, .unset, .unset, .unset, .unset, .unset, .unset, .unset] [(.int (lcmpW q2 (0 : Int64)))])) tg → Steps p.tables e below (s₁.setTop (mkF m 102 #[.val (.int p1), .val (.long q2), .second, .val (.int p3), .val (.int p4), .val (.long q5), .second, .val (.long q6), .second, .val (.int (p1 &&& (3 : Int32))), .unset, .unset, .unset, .unset, .unset, .unset, .unset, .unset, .unset, .unset, .unset, .unset, .unset, .unset, .unset, .unset, .unset] [(.int (3 : Int32)), (.int (p1 &&& (3 : Int32)))])) tg := by
          intro tg kt
          refine XS.icmpNo X0.here hx rfl (hb hby at_102) rfl (XT.ii_ne_f hc102_43) ?_
          refine XS.lloadN X0.here hx rfl (hb hby at_105) rfl ?_
          refine XS.lconst X0.here hx rfl (hb hby at_106) ?_
          refine XS.lcmp X0.here hx rfl (hb hby at_107) rfl ?_
          exact kt
        obtain ⟨v47, hv47⟩ : ∃ z, z = if q2 = (0 : Int64) then (1 : Int64) else q2 := ⟨_, rfl⟩
        have st48 : ∀ tg, Steps p.tables e below (s₁.setTop (mkF m 116 #[.val (.int p1), .val (.long q2), .second, .val (.int p3), .val (.int p4), .val (.long q5), .second, .val (.long q6), .second, .val (.int (p1 &&& (3 : Int32))), .unset, .unset, .unset, .unset, .unset, .unset, .unset, .unset, .unset, .unset, .unset, .unset, .unset, .unset, .unset, .unset, .unset] [(.long v47)])) tg → Steps p.tables e below (s₁.setTop (mkF m 108 #[.val (.int p1), .val (.long q2), .second, .val (.int p3), .val (.int p4), .val (.long q5), .second, .val (.long q6), .second, .val (.int (p1 &&& (3 : Int32))), .unset, .unset, .unset, .unset, .unset, .unset, .unset, .unset, .unset, .unset, .unset, .unset, .unset, .unset, .unset, .unset, .unset] [(.int (lcmpW q2 (0 : Int64)))])) tg := by
          intro tg kt
          by_cases hc108_45 : q2 = (0 : Int64)
          · have qv47 : v47 = (1 : Int64) := hv47.trans (if_pos hc108_45)
            rw [qv47] at kt
            refine XS.ifNo X0.here hx rfl (hb hby at_108) rfl (XT.ll_ne_f hc108_45) ?_
            refine XS.lconst X0.here hx rfl (hb hby at_111) ?_
            refine XS.goto X0.here hx rfl (pc0 := 112) (pc' := 116) rfl (hb hby at_112) (by decide) (by decide) ?_
            exact kt
          · have qv47 : v47 = q2 := hv47.trans (if_neg hc108_45)
            rw [qv47] at kt
            refine XS.ifYes X0.here hx rfl (pc0 := 108) (pc' := 115) rfl (hb hby at_108) rfl (XT.ll_ne_t hc108_45) (by decide) (by decide) ?_
            refine XS.lloadN X0.here hx rfl (hb hby at_115) rfl ?_
            exact kt
        have st49 : ∀ tg, Steps p.tables e below (s₁.setTop (mkF m 118 #[.val (.int p1), .val (.long q2), .second, .val (.int p3), .val (.int p4), .val (.long q5), .second, .val (.long q6), .second, .val (.int (p1 &&& (3 : Int32))), .val (.long v47), .second, .unset, .unset, .unset, .unset, .unset, .unset, .unset, .unset, .unset, .unset, .unset, .unset, .unset, .unset, .unset] [])) tg → Steps p.tables e below (s₁.setTop (mkF m 116 #[.val (.int p1), .val (.long q2), .second, .val (.int p3), .val (.int p4), .val (.long q5), .second, .val (.long q6), .second, .val (.int (p1 &&& (3 : Int32))), .unset, .unset, .unset, .unset, .unset, .unset, .unset, .unset, .unset, .unset, .unset, .unset, .unset, .unset, .unset, .unset, .unset] [(.long v47)])) tg := by
          intro tg kt
          refine XS.lstore X0.here hx rfl (hb hby at_116) rfl (l' := #[.val (.int p1), .val (.long q2), .second, .val (.int p3), .val (.int p4), .val (.long q5), .second, .val (.long q6), .second, .val (.int (p1 &&& (3 : Int32))), .val (.long v47), .second, .unset, .unset, .unset, .unset, .unset, .unset, .unset, .unset, .unset, .unset, .unset, .unset, .unset, .unset, .unset]) rfl ?_
          exact kt
        obtain ⟨T50, h50, X50, e50, E50, A50, D50, -, st50⟩ := newO X0 hx hZ hown (hw _ (List.mem_of_getElem? (i := 0) rfl)) (hw _ (List.mem_of_getElem? (i := 1) rfl)) (hw _ (List.mem_of_getElem? (i := 2) rfl)) e0 (g := (mkF m 118 #[.val (.int p1), .val (.long q2), .second, .val (.int p3), .val (.int p4), .val (.long q5), .second, .val (.long q6), .second, .val (.int (p1 &&& (3 : Int32))), .val (.long v47), .second, .unset, .unset, .unset, .unset, .unset, .unset, .unset, .unset, .unset, .unset, .unset, .unset, .unset, .unset, .unset] [])) rfl (hb hby at_118) (by decide) (by decide)
        obtain ⟨b50, gz50⟩ : ∃ z, z = h0.size := ⟨_, rfl⟩
        rw [← gz50] at A50 D50 st50
        have g_b50 : n0 ≤ b50 := Nat.le_trans Z0 (Nat.le_of_eq gz50.symm)
        have sz_b50 : h0.size ≤ b50 := Nat.le_trans K0.1 (Nat.le_of_eq gz50.symm)
        have K50 : Keep h0 h50 [] := K0.ext E50
        have Z50 : n0 ≤ h50.size := Nat.le_trans Z0 E50.1
        have G51 : Exa Z h50 b50 "com/example/oriflamme/oriflamme/runtime/RunFigures" := A50
        have G52 : Fld Z h50 b50 "com/example/oriflamme/oriflamme/runtime/RunFigures" "runs" "J" (.long (0 : Int64)) := D50 (Or.inr (hw _ (List.mem_of_getElem? (i := 15) rfl))) (ty := .long) (by decide)
        have G53 : Fld Z h50 b50 "com/example/oriflamme/oriflamme/runtime/RunFigures" "succeeded" "J" (.long (0 : Int64)) := D50 (Or.inr (hw _ (List.mem_of_getElem? (i := 17) rfl))) (ty := .long) (by decide)
        have G54 : Fld Z h50 b50 "com/example/oriflamme/oriflamme/runtime/RunFigures" "failed" "J" (.long (0 : Int64)) := D50 (Or.inr (hw _ (List.mem_of_getElem? (i := 19) rfl))) (ty := .long) (by decide)
        have G55 : Fld Z h50 b50 "com/example/oriflamme/oriflamme/runtime/RunFigures" "totalDurationMs" "J" (.long (0 : Int64)) := D50 (Or.inr (hw _ (List.mem_of_getElem? (i := 21) rfl))) (ty := .long) (by decide)
        have st56 : ∀ tg, Steps p.tables e below (T50.setTop (mkF m 129 #[.val (.int p1), .val (.long q2), .second, .val (.int p3), .val (.int p4), .val (.long q5), .second, .val (.long q6), .second, .val (.int (p1 &&& (3 : Int32))), .val (.long v47), .second, .unset, .unset, .unset, .unset, .unset, .unset, .unset, .unset, .unset, .unset, .unset, .unset, .unset, .unset, .unset] [(.long (0 : Int64)), (.long q5), (.long q6), (.long v47), (.ref b50), (.ref b50)])) tg → Steps p.tables e below (T50.setTop (mkF m 121 #[.val (.int p1), .val (.long q2), .second, .val (.int p3), .val (.int p4), .val (.long q5), .second, .val (.long q6), .second, .val (.int (p1 &&& (3 : Int32))), .val (.long v47), .second, .unset, .unset, .unset, .unset, .unset, .unset, .unset, .unset, .unset, .unset, .unset, .unset, .unset, .unset, .unset] [(.ref b50)])) tg := by
          intro tg kt
          refine XS.dup X50.here hx rfl (hb hby at_121) rfl rfl ?_
          refine XS.lload X50.here hx rfl (hb hby at_122) rfl ?_
          refine XS.lload X50.here hx rfl (hb hby at_124) rfl ?_
          refine XS.lload X50.here hx rfl (hb hby at_126) rfl ?_
          show Steps p.tables e below (T50.setTop (mkF m 128 #[.val (.int p1), .val (.long q2), .second, .val (.int p3), .val (.int p4), .val (.long q5), .second, .val (.long q6), .second, .val (.int (p1 &&& (3 : Int32))), .val (.long v47), .second, .unset, .unset, .unset, .unset, .unset, .unset, .unset, .unset, .unset, .unset, .unset, .unset, .unset, .unset, .unset] [(.long q5), (.long q6), (.long v47), (.ref b50), (.ref b50)])) tg
          refine XS.lconst X50.here hx rfl (hb hby at_128) ?_
          exact kt
        obtain ⟨_, _, ⟨T57, L57, k57, n57⟩, -, X57, ⟨Lc57, hQ57, l57, y57, z57⟩, st57⟩ := X50.specialBack hx (y := (⟨"com/example/oriflamme/oriflamme/runtime/RunFigures", "<init>", "(JJJJ)V"⟩ : MethodName)) rfl hown (mvT hZ (hw _ (List.mem_of_getElem? (i := 3) rfl))) (mvT hZ (hw _ (List.mem_of_getElem? (i := 4) rfl))) (mvT hZ (hw _ (List.mem_of_getElem? (i := 5) rfl))) (by decide) (backOf (W := 1) (rm1 l Z a0 hw [] b50 v47 q6 q5 (0 : Int64) h50 n0 Z50 G52 G53 G54 G55 G51 g_b50) hZ (hw _ (List.mem_of_getElem? (i := 5) rfl)) (hw _ (List.mem_of_getElem? (i := 2) rfl)) (by decide) (by decide)) (g := (mkF m 129 #[.val (.int p1), .val (.long q2), .second, .val (.int p3), .val (.int p4), .val (.long q5), .second, .val (.long q6), .second, .val (.int (p1 &&& (3 : Int32))), .val (.long v47), .second, .unset, .unset, .unset, .unset, .unset, .unset, .unset, .unset, .unset, .unset, .unset, .unset, .unset, .unset, .unset] [(.long (0 : Int64)), (.long q5), (.long q6), (.long v47), (.ref b50), (.ref b50)])) rfl (by rw [hml]; rfl) (Steps.refl _) (a := b50) (argsL := [(.long v47), (.long q6), (.long q5), (.long (0 : Int64))]) (rest := [(.ref b50)]) (lenOf pd_3 rfl) rfl (by show 2 * 0 + _ ≤ _; exact Nat.le_of_eq rfl) (hb hby at_129) (fun _ _ => ⟨rfl, e50, (by decide : 1 + 0 ≤ _), (by decide : 4 + 0 ≤ _)⟩)
        dsimp only [Pt.U, Pt.locs, Pt.cells, Pt.slots] at X57 l57 y57 z57 st57 hQ57
        subst l57 y57 z57
        obtain ⟨rfl, N57q, K57q, E57q, F57q0, F57q1, F57q2, F57q3⟩ := hQ57
        have N57 := Fr.app N0 N57q
        have G58 : Exa Z T57.heap b50 "com/example/oriflamme/oriflamme/runtime/RunFigures" := G51.keep K57q
        have K57 : Keep h0 T57.heap [] := K50.trans K57q (allS (Or.inr sz_b50) all0)
        have Z57 : n0 ≤ T57.heap.size := Nat.le_trans Z50 K57q.1
        obtain ⟨cq59, kq59, q59a, q59b, q59c⟩ := isOf hZ rfl E57q
        obtain ⟨_, _, ⟨T59, L59, k59, n59⟩, -, X59, ⟨Lc59, hQ59, l59, y59, z59⟩, st59⟩ := X57.virtualBack hx (y := (⟨"com/example/oriflamme/oriflamme/runtime/RunFigures", "averageDurationMs", "()Ljava/lang/Double;"⟩ : MethodName)) (z := (⟨"com/example/oriflamme/oriflamme/runtime/RunFigures", "averageDurationMs", "()Ljava/lang/Double;"⟩ : MethodName)) hown (mvT hZ (hw _ (List.mem_of_getElem? (i := 22) rfl))) (mvT hZ (hw _ (List.mem_of_getElem? (i := 23) rfl))) (notFace_of_selects (args := #[]) (mvT hZ (hw _ (List.mem_of_getElem? (i := 25) rfl)))) (mvT hZ (hw _ (List.mem_of_getElem? (i := 25) rfl))) (mvT hZ (hw _ (List.mem_of_getElem? (i := 24) rfl))) (by decide) (backOf (W := 0) (rm4 l Z a0 hw [] b50 v47 (0 : Int64) T57.heap n0 Z57 F57q0 F57q3 (own_v0 hv47)) hZ (hw _ (List.mem_of_getElem? (i := 26) rfl)) (hw _ (List.mem_of_getElem? (i := 2) rfl)) (by decide) (by decide)) q59a q59c (g := (mkF m 132 #[.val (.int p1), .val (.long q2), .second, .val (.int p3), .val (.int p4), .val (.long q5), .second, .val (.long q6), .second, .val (.int (p1 &&& (3 : Int32))), .val (.long v47), .second, .unset, .unset, .unset, .unset, .unset, .unset, .unset, .unset, .unset, .unset, .unset, .unset, .unset, .unset, .unset] [(.ref b50)])) rfl (by rw [hml]; rfl) (Steps.refl _) (argsL := []) (rest := []) (lenOf pd_4 rfl) rfl (by show 2 * 0 + _ ≤ _; exact Nat.le_of_eq rfl) (hb hby at_132) (fun _ _ => ⟨rfl, rfl, (by decide : 1 + 1 ≤ _), (by decide : 4 + 1 ≤ _)⟩)
        dsimp only [Pt.U, Pt.locs, Pt.cells, Pt.slots] at X59 l59 y59 z59 st59 hQ59
        subst l59 y59 z59
        obtain ⟨b59, rfl, N59q, K59q, g_b59, sz59q, Ex59, Fv59⟩ := hQ59
        have N59 := Fr.app N57 N59q
        have ne_b50_b59 : b50 ≠ b59 := Nat.ne_of_lt (Nat.lt_of_lt_of_le E57q.lt sz59q)
        have sz_b59 : h0.size ≤ b59 := Nat.le_trans K57.1 sz59q
        have G60 : Exa Z T59.heap b50 "com/example/oriflamme/oriflamme/runtime/RunFigures" := E57q.keep K59q
        have G61 : Fld Z T59.heap b50 "com/example/oriflamme/oriflamme/runtime/RunFigures" "runs" "J" (.long v47) := F57q0.keep K59q (nin0)
        have G62 : Fld Z T59.heap b50 "com/example/oriflamme/oriflamme/runtime/RunFigures" "succeeded" "J" (.long q6) := F57q1.keep K59q (nin0)
        have G63 : Fld Z T59.heap b50 "com/example/oriflamme/oriflamme/runtime/RunFigures" "failed" "J" (.long q5) := F57q2.keep K59q (nin0)
        have G64 : Fld Z T59.heap b50 "com/example/oriflamme/oriflamme/runtime/RunFigures" "totalDurationMs" "J" (.long (0 : Int64)) := F57q3.keep K59q (nin0)
        have K59 : Keep h0 T59.heap [] := K57.trans K59q all0
        have Z59 : n0 ≤ T59.heap.size := Nat.le_trans Z57 K59q.1
        have st65 : ∀ tg, Steps p.tables e below (T59.setTop (mkF m 144 #[.val (.int p1), .val (.long q2), .second, .val (.int p3), .val (.int p4), .val (.long q5), .second, .val (.long q6), .second, .val (.int (p1 &&& (3 : Int32))), .val (.long v47), .second, .val (.ref b59), .unset, .unset, .unset, .unset, .unset, .unset, .unset, .unset, .unset, .unset, .unset, .unset, .unset, .unset] [(.ref b59)])) tg → Steps p.tables e below (T59.setTop (mkF m 135 #[.val (.int p1), .val (.long q2), .second, .val (.int p3), .val (.int p4), .val (.long q5), .second, .val (.long q6), .second, .val (.int (p1 &&& (3 : Int32))), .val (.long v47), .second, .unset, .unset, .unset, .unset, .unset, .unset, .unset, .unset, .unset, .unset, .unset, .unset, .unset, .unset, .unset] [(.ref b59)])) tg := by
          intro tg kt
          refine XS.astore X59.here hx rfl (hb hby at_135) rfl rfl (l' := #[.val (.int p1), .val (.long q2), .second, .val (.int p3), .val (.int p4), .val (.long q5), .second, .val (.long q6), .second, .val (.int (p1 &&& (3 : Int32))), .val (.long v47), .second, .val (.ref b59), .unset, .unset, .unset, .unset, .unset, .unset, .unset, .unset, .unset, .unset, .unset, .unset, .unset, .unset]) rfl ?_
          refine XS.aload X59.here hx rfl (hb hby at_137) rfl rfl ?_
          refine XS.ifnullNo X59.here hx rfl (hb hby at_139) rfl ?_
          refine XS.aload X59.here hx rfl (hb hby at_142) rfl rfl ?_
          exact kt
        obtain ⟨cq66, kq66, q66a, q66b, q66c⟩ := isOf hZ rfl Ex59
        obtain ⟨_, _, ⟨T66, L66, k66, n66⟩, -, X66, ⟨Lc66, hQ66, l66, y66, z66⟩, st66⟩ := X59.virtualBack hx (y := (⟨"java/lang/Double", "doubleValue", "()D"⟩ : MethodName)) (z := (⟨"java/lang/Double", "doubleValue", "()D"⟩ : MethodName)) hown (mvT hZ (hw _ (List.mem_of_getElem? (i := 46) rfl))) (mvT hZ (hw _ (List.mem_of_getElem? (i := 47) rfl))) (notFace_of_selects (args := #[]) (mvT hZ (hw _ (List.mem_of_getElem? (i := 49) rfl)))) (mvT hZ (hw _ (List.mem_of_getElem? (i := 49) rfl))) (mvT hZ (hw _ (List.mem_of_getElem? (i := 48) rfl))) (by decide) (backOf (W := 0) (rm8 l Z a0 hw [] b59 (FP.ddiv (FP.l2d (0 : Int64)) (FP.l2d v47)) T59.heap n0 Z59 Fv59) hZ (hw _ (List.mem_of_getElem? (i := 50) rfl)) (hw _ (List.mem_of_getElem? (i := 29) rfl)) (by decide) (by decide)) q66a q66c (g := (mkF m 144 #[.val (.int p1), .val (.long q2), .second, .val (.int p3), .val (.int p4), .val (.long q5), .second, .val (.long q6), .second, .val (.int (p1 &&& (3 : Int32))), .val (.long v47), .second, .val (.ref b59), .unset, .unset, .unset, .unset, .unset, .unset, .unset, .unset, .unset, .unset, .unset, .unset, .unset, .unset] [(.ref b59)])) rfl (by rw [hml]; rfl) (Steps.refl _) (argsL := []) (rest := []) (lenOf pd_5 rfl) rfl (by show 2 * 0 + _ ≤ _; exact Nat.le_of_eq rfl) (hb hby at_144) (fun _ _ => ⟨rfl, rfl, (by decide : 2 + 0 ≤ _), (by decide : 5 + 0 ≤ _)⟩)
        dsimp only [Pt.U, Pt.locs, Pt.cells, Pt.slots] at X66 l66 y66 z66 st66 hQ66
        subst l66 y66 z66
        obtain ⟨rfl, N66q, e66⟩ := hQ66
        have N66 := Fr.app N59 N66q
        have st67 : ∀ tg, Steps p.tables e below (T66.setTop (mkF m 148 #[.val (.int p1), .val (.long q2), .second, .val (.int p3), .val (.int p4), .val (.long q5), .second, .val (.long q6), .second, .val (.int (p1 &&& (3 : Int32))), .val (.long v47), .second, .val (.ref b59), .unset, .unset, .unset, .unset, .unset, .unset, .unset, .unset, .unset, .unset, .unset, .unset, .unset, .unset] [(.double FP.dconst0), (.double (FP.ddiv (FP.l2d (0 : Int64)) (FP.l2d v47)))])) tg → Steps p.tables e below (T66.setTop (mkF m 147 #[.val (.int p1), .val (.long q2), .second, .val (.int p3), .val (.int p4), .val (.long q5), .second, .val (.long q6), .second, .val (.int (p1 &&& (3 : Int32))), .val (.long v47), .second, .val (.ref b59), .unset, .unset, .unset, .unset, .unset, .unset, .unset, .unset, .unset, .unset, .unset, .unset, .unset, .unset] [(.double (FP.ddiv (FP.l2d (0 : Int64)) (FP.l2d v47)))])) tg := by
          intro tg kt
          refine XS.dconst0 X66.here hx rfl (hb hby at_147) rfl ?_
          exact kt
        have hv68 : Jvm.Op.cmpValue (FP.dcmp (FP.ddiv (FP.l2d (0 : Int64)) (FP.l2d v47)) FP.dconst0) .l = (0 : Int32) := own_zero (own_v0 hv47)
        have st69 : ∀ tg, Steps p.tables e below (T66.setTop (mkF m 157 #[.val (.int p1), .val (.long q2), .second, .val (.int p3), .val (.int p4), .val (.long q5), .second, .val (.long q6), .second, .val (.int (p1 &&& (3 : Int32))), .val (.long v47), .second, .val (.ref b59), .unset, .unset, .unset, .unset, .unset, .unset, .unset, .unset, .unset, .unset, .unset, .unset, .unset, .unset] [(.int (1 : Int32))])) tg → Steps p.tables e below (T66.setTop (mkF m 148 #[.val (.int p1), .val (.long q2), .second, .val (.int p3), .val (.int p4), .val (.long q5), .second, .val (.long q6), .second, .val (.int (p1 &&& (3 : Int32))), .val (.long v47), .second, .val (.ref b59), .unset, .unset, .unset, .unset, .unset, .unset, .unset, .unset, .unset, .unset, .unset, .unset, .unset, .unset] [(.double FP.dconst0), (.double (FP.ddiv (FP.l2d (0 : Int64)) (FP.l2d v47)))])) tg := by
          intro tg kt
          refine XS.dcmpS X66.here hx rfl (hb hby at_148) rfl hv68 ?_
          refine XS.ifNo X66.here hx rfl (hb hby at_149) rfl (XT.i0_ne_f (by decide)) ?_
          refine XS.iconst X66.here hx rfl (hb hby at_152) ?_
          refine XS.goto X66.here hx rfl (pc0 := 153) (pc' := 157) rfl (hb hby at_153) (by decide) (by decide) ?_
          exact kt
        obtain ⟨fs, hr, hrun, hended, hW, hsame⟩ := X66.leave (v := some (.int (1 : Int32))) (fun h => by rw [Bd.returns] at h; cases h)
        refine ⟨_, _, pre0 _ ?_, hrun, hended, _, _, rfl, ?_, ⟨_, rfl⟩, hW, hsame.mono (by decide) (by decide)⟩
        · refine st2 _ ?_
          refine st17 _ ?_
          refine st44 _ ?_
          refine st46 _ ?_
          refine st48 _ ?_
          refine st49 _ ?_
          show Steps p.tables e below (s₁.setTop (mkF m 118 #[.val (.int p1), .val (.long q2), .second, .val (.int p3), .val (.int p4), .val (.long q5), .second, .val (.long q6), .second, .val (.int (p1 &&& (3 : Int32))), .val (.long v47), .second, .unset, .unset, .unset, .unset, .unset, .unset, .unset, .unset, .unset, .unset, .unset, .unset, .unset, .unset, .unset] [])) _
          refine st50 _ ?_
          refine st56 _ ?_
          show Steps p.tables e below (T50.setTop (mkF m 129 #[.val (.int p1), .val (.long q2), .second, .val (.int p3), .val (.int p4), .val (.long q5), .second, .val (.long q6), .second, .val (.int (p1 &&& (3 : Int32))), .val (.long v47), .second, .unset, .unset, .unset, .unset, .unset, .unset, .unset, .unset, .unset, .unset, .unset, .unset, .unset, .unset, .unset] [(.long (0 : Int64)), (.long q5), (.long q6), (.long v47), (.ref b50), (.ref b50)])) _
          refine st57.trans ?_
          show Steps p.tables e below (T57.setTop (mkF m 132 #[.val (.int p1), .val (.long q2), .second, .val (.int p3), .val (.int p4), .val (.long q5), .second, .val (.long q6), .second, .val (.int (p1 &&& (3 : Int32))), .val (.long v47), .second, .unset, .unset, .unset, .unset, .unset, .unset, .unset, .unset, .unset, .unset, .unset, .unset, .unset, .unset, .unset] [(.ref b50)])) _
          refine st59.trans ?_
          refine st65 _ ?_
          show Steps p.tables e below (T59.setTop (mkF m 144 #[.val (.int p1), .val (.long q2), .second, .val (.int p3), .val (.int p4), .val (.long q5), .second, .val (.long q6), .second, .val (.int (p1 &&& (3 : Int32))), .val (.long v47), .second, .val (.ref b59), .unset, .unset, .unset, .unset, .unset, .unset, .unset, .unset, .unset, .unset, .unset, .unset, .unset, .unset] [(.ref b59)])) _
          refine st66.trans ?_
          refine st67 _ ?_
          refine st69 _ ?_
          show Steps p.tables e below (T66.setTop (mkF m 157 #[.val (.int p1), .val (.long q2), .second, .val (.int p3), .val (.int p4), .val (.long q5), .second, .val (.long q6), .second, .val (.int (p1 &&& (3 : Int32))), .val (.long v47), .second, .val (.ref b59), .unset, .unset, .unset, .unset, .unset, .unset, .unset, .unset, .unset, .unset, .unset, .unset, .unset, .unset] [(.int (1 : Int32))])) _
          exact retN X66 hx (t := .boolean) Bd.returns (by simp) (hb hby at_157) hr
        · show Q0 Z p1 q2 p3 p4 q5 q6 h0 n0 _ T66.heap _
          rw [e66]
          exact ⟨rfl, N66⟩
      · -- pc 102: not (p1 &&& (3 : Int32)) = (3 : Int32)
        have st70 : ∀ tg, Steps p.tables e below (s₁.setTop (mkF m 164 #[.val (.int p1), .val (.long q2), .second, .val (.int p3), .val (.int p4), .val (.long q5), .second, .val (.long q6), .second, .val (.int (p1 &&& (3 : Int32))), .unset, .unset, .unset, .unset, .unset, .unset, .unset, .unset, .unset, .unset, .unset, .unset, .unset, .unset, .unset, .unset, .unset] [(.long ((p3 % (1024 : Int32)).toInt64))])) tg → Steps p.tables e below (s₁.setTop (mkF m 102 #[.val (.int p1), .val (.long q2), .second, .val (.int p3), .val (.int p4), .val (.long q5), .second, .val (.long q6), .second, .val (.int (p1 &&& (3 : Int32))), .unset, .unset, .unset, .unset, .unset, .unset, .unset, .unset, .unset, .unset, .unset, .unset, .unset, .unset, .unset, .unset, .unset] [(.int (3 : Int32)), (.int (p1 &&& (3 : Int32)))])) tg := by
          intro tg kt
          refine XS.icmpYes X0.here hx rfl (pc0 := 102) (pc' := 158) rfl (hb hby at_102) rfl (XT.ii_ne_t hc102_43) (by decide) (by decide) ?_
          refine XS.iloadN X0.here hx rfl (hb hby at_158) rfl ?_
          refine XS.sipush X0.here hx rfl (hb hby at_159) ?_
          refine iremM X0 hx rfl (hb hby at_162) rfl (by decide) ?_
          show Steps p.tables e below (s₁.setTop (mkF m 163 #[.val (.int p1), .val (.long q2), .second, .val (.int p3), .val (.int p4), .val (.long q5), .second, .val (.long q6), .second, .val (.int (p1 &&& (3 : Int32))), .unset, .unset, .unset, .unset, .unset, .unset, .unset, .unset, .unset, .unset, .unset, .unset, .unset, .unset, .unset, .unset, .unset] [(.int (p3 % (1024 : Int32)))])) tg
          refine XS.i2l X0.here hx rfl (hb hby at_163) rfl ?_
          exact kt
        obtain ⟨q0, hq0⟩ : ∃ z, z = ((p3 % (1024 : Int32)).toInt64) := ⟨_, rfl⟩
        rw [← hq0] at st70
        have st72 : ∀ tg, Steps p.tables e below (s₁.setTop (mkF m 168 #[.val (.int p1), .val (.long q2), .second, .val (.int p3), .val (.int p4), .val (.long q5), .second, .val (.long q6), .second, .val (.int (p1 &&& (3 : Int32))), .val (.long q0), .second, .unset, .unset, .unset, .unset, .unset, .unset, .unset, .unset, .unset, .unset, .unset, .unset, .unset, .unset, .unset] [(.int p4)])) tg → Steps p.tables e below (s₁.setTop (mkF m 164 #[.val (.int p1), .val (.long q2), .second, .val (.int p3), .val (.int p4), .val (.long q5), .second, .val (.long q6), .second, .val (.int (p1 &&& (3 : Int32))), .unset, .unset, .unset, .unset, .unset, .unset, .unset, .unset, .unset, .unset, .unset, .unset, .unset, .unset, .unset, .unset, .unset] [(.long q0)])) tg := by
          intro tg kt
          refine XS.lstore X0.here hx rfl (hb hby at_164) rfl (l' := #[.val (.int p1), .val (.long q2), .second, .val (.int p3), .val (.int p4), .val (.long q5), .second, .val (.long q6), .second, .val (.int (p1 &&& (3 : Int32))), .val (.long q0), .second, .unset, .unset, .unset, .unset, .unset, .unset, .unset, .unset, .unset, .unset, .unset, .unset, .unset, .unset, .unset]) rfl ?_
          refine XS.iload X0.here hx rfl (hb hby at_166) rfl ?_
          exact kt
        obtain ⟨v73, hv73⟩ : ∃ z, z = if p4 = 0 then (1 : Int64) else (p4.toInt64) := ⟨_, rfl⟩
        have st74 : ∀ tg, Steps p.tables e below (s₁.setTop (mkF m 178 #[.val (.int p1), .val (.long q2), .second, .val (.int p3), .val (.int p4), .val (.long q5), .second, .val (.long q6), .second, .val (.int (p1 &&& (3 : Int32))), .val (.long q0), .second, .unset, .unset, .unset, .unset, .unset, .unset, .unset, .unset, .unset, .unset, .unset, .unset, .unset, .unset, .unset] [(.long v73)])) tg → Steps p.tables e below (s₁.setTop (mkF m 168 #[.val (.int p1), .val (.long q2), .second, .val (.int p3), .val (.int p4), .val (.long q5), .second, .val (.long q6), .second, .val (.int (p1 &&& (3 : Int32))), .val (.long q0), .second, .unset, .unset, .unset, .unset, .unset, .unset, .unset, .unset, .unset, .unset, .unset, .unset, .unset, .unset, .unset] [(.int p4)])) tg := by
          intro tg kt
          by_cases hc168_71 : p4 = 0
          · have qv73 : v73 = (1 : Int64) := hv73.trans (if_pos hc168_71)
            rw [qv73] at kt
            refine XS.ifNo X0.here hx rfl (hb hby at_168) rfl (XT.i0_ne_f hc168_71) ?_
            refine XS.lconst X0.here hx rfl (hb hby at_171) ?_
            refine XS.goto X0.here hx rfl (pc0 := 172) (pc' := 178) rfl (hb hby at_172) (by decide) (by decide) ?_
            exact kt
          · have qv73 : v73 = (p4.toInt64) := hv73.trans (if_neg hc168_71)
            rw [qv73] at kt
            refine XS.ifYes X0.here hx rfl (pc0 := 168) (pc' := 175) rfl (hb hby at_168) rfl (XT.i0_ne_t hc168_71) (by decide) (by decide) ?_
            refine XS.iload X0.here hx rfl (hb hby at_175) rfl ?_
            refine XS.i2l X0.here hx rfl (hb hby at_177) rfl ?_
            exact kt
        have st75 : ∀ tg, Steps p.tables e below (s₁.setTop (mkF m 182 #[.val (.int p1), .val (.long q2), .second, .val (.int p3), .val (.int p4), .val (.long q5), .second, .val (.long q6), .second, .val (.int (p1 &&& (3 : Int32))), .val (.long q0), .second, .val (.long v73), .second, .unset, .unset, .unset, .unset, .unset, .unset, .unset, .unset, .unset, .unset, .unset, .unset, .unset] [(.long v73)])) tg → Steps p.tables e below (s₁.setTop (mkF m 178 #[.val (.int p1), .val (.long q2), .second, .val (.int p3), .val (.int p4), .val (.long q5), .second, .val (.long q6), .second, .val (.int (p1 &&& (3 : Int32))), .val (.long q0), .second, .unset, .unset, .unset, .unset, .unset, .unset, .unset, .unset, .unset, .unset, .unset, .unset, .unset, .unset, .unset] [(.long v73)])) tg := by
          intro tg kt
          refine XS.lstore X0.here hx rfl (hb hby at_178) rfl (l' := #[.val (.int p1), .val (.long q2), .second, .val (.int p3), .val (.int p4), .val (.long q5), .second, .val (.long q6), .second, .val (.int (p1 &&& (3 : Int32))), .val (.long q0), .second, .val (.long v73), .second, .unset, .unset, .unset, .unset, .unset, .unset, .unset, .unset, .unset, .unset, .unset, .unset, .unset]) rfl ?_
          refine XS.lload X0.here hx rfl (hb hby at_180) rfl ?_
          exact kt
        obtain ⟨_, _, ⟨T76, L76, k76, n76⟩, -, X76, ⟨Lc76, hQ76, l76, y76, z76⟩, st76⟩ := Jvm.LawKit.callS X0 hx (y := (⟨"java/lang/Math", "abs", "(J)J"⟩ : MethodName)) hown (mvT hZ (hw _ (List.mem_of_getElem? (i := 51) rfl))) (mvT hZ (hw _ (List.mem_of_getElem? (i := 52) rfl))) (mvT hZ (hw _ (List.mem_of_getElem? (i := 53) rfl))) (mvT hZ (hw _ (List.mem_of_getElem? (i := 54) rfl))) (by decide) (backOf (W := 0) (rm9 l Z a0 hw [] v73 h0 n0 Z0) hZ (hw _ (List.mem_of_getElem? (i := 54) rfl)) (hw _ (List.mem_of_getElem? (i := 53) rfl)) (by decide) (by decide)) (g := (mkF m 182 #[.val (.int p1), .val (.long q2), .second, .val (.int p3), .val (.int p4), .val (.long q5), .second, .val (.long q6), .second, .val (.int (p1 &&& (3 : Int32))), .val (.long q0), .second, .val (.long v73), .second, .unset, .unset, .unset, .unset, .unset, .unset, .unset, .unset, .unset, .unset, .unset, .unset, .unset] [(.long v73)])) rfl (by rw [hml]; rfl) (argsL := [(.long v73)]) (rest := []) (lenOf pd_6 rfl) rfl (by show 2 * 0 + _ ≤ _; exact Nat.le_of_eq rfl) (hb hby at_182) (fun _ _ => ⟨rfl, e0, (by decide : 0 + 0 ≤ _), (by decide : 0 + 0 ≤ _)⟩)
        dsimp only [Pt.U, Pt.locs, Pt.cells, Pt.slots] at X76 l76 y76 z76 st76 hQ76
        subst l76 y76 z76
        obtain ⟨rfl, N76q, e76⟩ := hQ76
        have N76 := Fr.app N0 N76q
        obtain ⟨r76, hr76⟩ : ∃ z, z = rv9 v73 := ⟨_, rfl⟩
        rw [← hr76] at st76
        have st77 : ∀ tg, Steps p.tables e below (T76.setTop (mkF m 187 #[.val (.int p1), .val (.long q2), .second, .val (.int p3), .val (.int p4), .val (.long q5), .second, .val (.long q6), .second, .val (.int (p1 &&& (3 : Int32))), .val (.long q0), .second, .val (.long v73), .second, .val (.long r76), .second, .unset, .unset, .unset, .unset, .unset, .unset, .unset, .unset, .unset, .unset, .unset] [])) tg → Steps p.tables e below (T76.setTop (mkF m 185 #[.val (.int p1), .val (.long q2), .second, .val (.int p3), .val (.int p4), .val (.long q5), .second, .val (.long q6), .second, .val (.int (p1 &&& (3 : Int32))), .val (.long q0), .second, .val (.long v73), .second, .unset, .unset, .unset, .unset, .unset, .unset, .unset, .unset, .unset, .unset, .unset, .unset, .unset] [(.long r76)])) tg := by
          intro tg kt
          refine XS.lstore X76.here hx rfl (hb hby at_185) rfl (l' := #[.val (.int p1), .val (.long q2), .second, .val (.int p3), .val (.int p4), .val (.long q5), .second, .val (.long q6), .second, .val (.int (p1 &&& (3 : Int32))), .val (.long q0), .second, .val (.long v73), .second, .val (.long r76), .second, .unset, .unset, .unset, .unset, .unset, .unset, .unset, .unset, .unset, .unset, .unset]) rfl ?_
          exact kt
        have ha0 := own_a0 hv73 hr76
        have st78 : ∀ tg, Steps p.tables e below (T76.setTop (mkF m 196 #[.val (.int p1), .val (.long q2), .second, .val (.int p3), .val (.int p4), .val (.long q5), .second, .val (.long q6), .second, .val (.int (p1 &&& (3 : Int32))), .val (.long q0), .second, .val (.long v73), .second, .val (.long r76), .second, .unset, .unset, .unset, .unset, .unset, .unset, .unset, .unset, .unset, .unset, .unset] [(.long ((q5 &&& (9223372036854775807 : Int64)) % r76))])) tg → Steps p.tables e below (T76.setTop (mkF m 187 #[.val (.int p1), .val (.long q2), .second, .val (.int p3), .val (.int p4), .val (.long q5), .second, .val (.long q6), .second, .val (.int (p1 &&& (3 : Int32))), .val (.long q0), .second, .val (.long v73), .second, .val (.long r76), .second, .unset, .unset, .unset, .unset, .unset, .unset, .unset, .unset, .unset, .unset, .unset] [])) tg := by
          intro tg kt
          refine XS.lload X76.here hx rfl (hb hby at_187) rfl ?_
          refine X76.ldc2Long hx hown (mvT hZ (hw _ (List.mem_of_getElem? (i := 55) rfl))) (g := (mkF m 189 #[.val (.int p1), .val (.long q2), .second, .val (.int p3), .val (.int p4), .val (.long q5), .second, .val (.long q6), .second, .val (.int (p1 &&& (3 : Int32))), .val (.long q0), .second, .val (.long v73), .second, .val (.long r76), .second, .unset, .unset, .unset, .unset, .unset, .unset, .unset, .unset, .unset, .unset, .unset] [(.long q5)])) rfl (hb hby at_189) _ ?_
          refine XS.land X76.here hx rfl (hb hby at_192) rfl ?_
          refine XS.lload X76.here hx rfl (hb hby at_193) rfl ?_
          show Steps p.tables e below (T76.setTop (mkF m 195 #[.val (.int p1), .val (.long q2), .second, .val (.int p3), .val (.int p4), .val (.long q5), .second, .val (.long q6), .second, .val (.int (p1 &&& (3 : Int32))), .val (.long q0), .second, .val (.long v73), .second, .val (.long r76), .second, .unset, .unset, .unset, .unset, .unset, .unset, .unset, .unset, .unset, .unset, .unset] [(.long r76), (.long (q5 &&& (9223372036854775807 : Int64)))])) tg
          refine XS.lrem X76.here hx rfl (hb hby at_195) rfl ha0 ?_
          rw [lrem_mod]
          exact kt
        obtain ⟨s0, hs0⟩ : ∃ z, z = ((q5 &&& (9223372036854775807 : Int64)) % r76) := ⟨_, rfl⟩
        rw [← hs0] at st78
        have st79 : ∀ tg, Steps p.tables e below (T76.setTop (mkF m 206 #[.val (.int p1), .val (.long q2), .second, .val (.int p3), .val (.int p4), .val (.long q5), .second, .val (.long q6), .second, .val (.int (p1 &&& (3 : Int32))), .val (.long q0), .second, .val (.long v73), .second, .val (.long r76), .second, .val (.long s0), .second, .unset, .unset, .unset, .unset, .unset, .unset, .unset, .unset, .unset] [(.long ((q0 * v73) + s0))])) tg → Steps p.tables e below (T76.setTop (mkF m 196 #[.val (.int p1), .val (.long q2), .second, .val (.int p3), .val (.int p4), .val (.long q5), .second, .val (.long q6), .second, .val (.int (p1 &&& (3 : Int32))), .val (.long q0), .second, .val (.long v73), .second, .val (.long r76), .second, .unset, .unset, .unset, .unset, .unset, .unset, .unset, .unset, .unset, .unset, .unset] [(.long s0)])) tg := by
          intro tg kt
          refine XS.lstore X76.here hx rfl (hb hby at_196) rfl (l' := #[.val (.int p1), .val (.long q2), .second, .val (.int p3), .val (.int p4), .val (.long q5), .second, .val (.long q6), .second, .val (.int (p1 &&& (3 : Int32))), .val (.long q0), .second, .val (.long v73), .second, .val (.long r76), .second, .val (.long s0), .second, .unset, .unset, .unset, .unset, .unset, .unset, .unset, .unset, .unset]) rfl ?_
          refine XS.lload X76.here hx rfl (hb hby at_198) rfl ?_
          refine XS.lload X76.here hx rfl (hb hby at_200) rfl ?_
          refine XS.lmul X76.here hx rfl (hb hby at_202) rfl ?_
          show Steps p.tables e below (T76.setTop (mkF m 203 #[.val (.int p1), .val (.long q2), .second, .val (.int p3), .val (.int p4), .val (.long q5), .second, .val (.long q6), .second, .val (.int (p1 &&& (3 : Int32))), .val (.long q0), .second, .val (.long v73), .second, .val (.long r76), .second, .val (.long s0), .second, .unset, .unset, .unset, .unset, .unset, .unset, .unset, .unset, .unset] [(.long (q0 * v73))])) tg
          refine XS.lload X76.here hx rfl (hb hby at_203) rfl ?_
          refine XS.ladd X76.here hx rfl (hb hby at_205) rfl ?_
          exact kt
        obtain ⟨t0, ht0⟩ : ∃ z, z = ((q0 * v73) + s0) := ⟨_, rfl⟩
        rw [← ht0] at st79
        have M := own_m hq0 hv73 hr76 hs0 ht0
        have st80 : ∀ tg, Steps p.tables e below (T76.setTop (mkF m 208 #[.val (.int p1), .val (.long q2), .second, .val (.int p3), .val (.int p4), .val (.long q5), .second, .val (.long q6), .second, .val (.int (p1 &&& (3 : Int32))), .val (.long q0), .second, .val (.long v73), .second, .val (.long r76), .second, .val (.long s0), .second, .val (.long t0), .second, .unset, .unset, .unset, .unset, .unset, .unset, .unset] [])) tg → Steps p.tables e below (T76.setTop (mkF m 206 #[.val (.int p1), .val (.long q2), .second, .val (.int p3), .val (.int p4), .val (.long q5), .second, .val (.long q6), .second, .val (.int (p1 &&& (3 : Int32))), .val (.long q0), .second, .val (.long v73), .second, .val (.long r76), .second, .val (.long s0), .second, .unset, .unset, .unset, .unset, .unset, .unset, .unset, .unset, .unset] [(.long t0)])) tg := by
          intro tg kt
          refine XS.lstore X76.here hx rfl (hb hby at_206) rfl (l' := #[.val (.int p1), .val (.long q2), .second, .val (.int p3), .val (.int p4), .val (.long q5), .second, .val (.long q6), .second, .val (.int (p1 &&& (3 : Int32))), .val (.long q0), .second, .val (.long v73), .second, .val (.long r76), .second, .val (.long s0), .second, .val (.long t0), .second, .unset, .unset, .unset, .unset, .unset, .unset, .unset]) rfl ?_
          exact kt
        obtain ⟨T81, h81, X81, e81, E81, A81, D81, -, st81⟩ := newO X76 hx hZ hown (hw _ (List.mem_of_getElem? (i := 0) rfl)) (hw _ (List.mem_of_getElem? (i := 1) rfl)) (hw _ (List.mem_of_getElem? (i := 2) rfl)) e76 (g := (mkF m 208 #[.val (.int p1), .val (.long q2), .second, .val (.int p3), .val (.int p4), .val (.long q5), .second, .val (.long q6), .second, .val (.int (p1 &&& (3 : Int32))), .val (.long q0), .second, .val (.long v73), .second, .val (.long r76), .second, .val (.long s0), .second, .val (.long t0), .second, .unset, .unset, .unset, .unset, .unset, .unset, .unset] [])) rfl (hb hby at_208) (by decide) (by decide)
        obtain ⟨b81, gz81⟩ : ∃ z, z = h0.size := ⟨_, rfl⟩
        rw [← gz81] at A81 D81 st81
        have g_b81 : n0 ≤ b81 := Nat.le_trans Z0 (Nat.le_of_eq gz81.symm)
        have sz_b81 : h0.size ≤ b81 := Nat.le_trans K0.1 (Nat.le_of_eq gz81.symm)
        have K81 : Keep h0 h81 [] := K0.ext E81
        have Z81 : n0 ≤ h81.size := Nat.le_trans Z0 E81.1
        have G82 : Exa Z h81 b81 "com/example/oriflamme/oriflamme/runtime/RunFigures" := A81
        have G83 : Fld Z h81 b81 "com/example/oriflamme/oriflamme/runtime/RunFigures" "runs" "J" (.long (0 : Int64)) := D81 (Or.inr (hw _ (List.mem_of_getElem? (i := 15) rfl))) (ty := .long) (by decide)
        have G84 : Fld Z h81 b81 "com/example/oriflamme/oriflamme/runtime/RunFigures" "succeeded" "J" (.long (0 : Int64)) := D81 (Or.inr (hw _ (List.mem_of_getElem? (i := 17) rfl))) (ty := .long) (by decide)
        have G85 : Fld Z h81 b81 "com/example/oriflamme/oriflamme/runtime/RunFigures" "failed" "J" (.long (0 : Int64)) := D81 (Or.inr (hw _ (List.mem_of_getElem? (i := 19) rfl))) (ty := .long) (by decide)
        have G86 : Fld Z h81 b81 "com/example/oriflamme/oriflamme/runtime/RunFigures" "totalDurationMs" "J" (.long (0 : Int64)) := D81 (Or.inr (hw _ (List.mem_of_getElem? (i := 21) rfl))) (ty := .long) (by decide)
        have st87 : ∀ tg, Steps p.tables e below (T81.setTop (mkF m 219 #[.val (.int p1), .val (.long q2), .second, .val (.int p3), .val (.int p4), .val (.long q5), .second, .val (.long q6), .second, .val (.int (p1 &&& (3 : Int32))), .val (.long q0), .second, .val (.long v73), .second, .val (.long r76), .second, .val (.long s0), .second, .val (.long t0), .second, .unset, .unset, .unset, .unset, .unset, .unset, .unset] [(.long t0), (.long q2), (.long q6), (.long v73), (.ref b81), (.ref b81)])) tg → Steps p.tables e below (T81.setTop (mkF m 211 #[.val (.int p1), .val (.long q2), .second, .val (.int p3), .val (.int p4), .val (.long q5), .second, .val (.long q6), .second, .val (.int (p1 &&& (3 : Int32))), .val (.long q0), .second, .val (.long v73), .second, .val (.long r76), .second, .val (.long s0), .second, .val (.long t0), .second, .unset, .unset, .unset, .unset, .unset, .unset, .unset] [(.ref b81)])) tg := by
          intro tg kt
          refine XS.dup X81.here hx rfl (hb hby at_211) rfl rfl ?_
          refine XS.lload X81.here hx rfl (hb hby at_212) rfl ?_
          refine XS.lload X81.here hx rfl (hb hby at_214) rfl ?_
          refine XS.lloadN X81.here hx rfl (hb hby at_216) rfl ?_
          show Steps p.tables e below (T81.setTop (mkF m 217 #[.val (.int p1), .val (.long q2), .second, .val (.int p3), .val (.int p4), .val (.long q5), .second, .val (.long q6), .second, .val (.int (p1 &&& (3 : Int32))), .val (.long q0), .second, .val (.long v73), .second, .val (.long r76), .second, .val (.long s0), .second, .val (.long t0), .second, .unset, .unset, .unset, .unset, .unset, .unset, .unset] [(.long q2), (.long q6), (.long v73), (.ref b81), (.ref b81)])) tg
          refine XS.lload X81.here hx rfl (hb hby at_217) rfl ?_
          exact kt
        obtain ⟨_, _, ⟨T88, L88, k88, n88⟩, -, X88, ⟨Lc88, hQ88, l88, y88, z88⟩, st88⟩ := X81.specialBack hx (y := (⟨"com/example/oriflamme/oriflamme/runtime/RunFigures", "<init>", "(JJJJ)V"⟩ : MethodName)) rfl hown (mvT hZ (hw _ (List.mem_of_getElem? (i := 3) rfl))) (mvT hZ (hw _ (List.mem_of_getElem? (i := 4) rfl))) (mvT hZ (hw _ (List.mem_of_getElem? (i := 5) rfl))) (by decide) (backOf (W := 1) (rm1 l Z a0 hw [] b81 v73 q6 q2 t0 h81 n0 Z81 G83 G84 G85 G86 G82 g_b81) hZ (hw _ (List.mem_of_getElem? (i := 5) rfl)) (hw _ (List.mem_of_getElem? (i := 2) rfl)) (by decide) (by decide)) (g := (mkF m 219 #[.val (.int p1), .val (.long q2), .second, .val (.int p3), .val (.int p4), .val (.long q5), .second, .val (.long q6), .second, .val (.int (p1 &&& (3 : Int32))), .val (.long q0), .second, .val (.long v73), .second, .val (.long r76), .second, .val (.long s0), .second, .val (.long t0), .second, .unset, .unset, .unset, .unset, .unset, .unset, .unset] [(.long t0), (.long q2), (.long q6), (.long v73), (.ref b81), (.ref b81)])) rfl (by rw [hml]; rfl) (Steps.refl _) (a := b81) (argsL := [(.long v73), (.long q6), (.long q2), (.long t0)]) (rest := [(.ref b81)]) (lenOf pd_3 rfl) rfl (by show 2 * 0 + _ ≤ _; exact Nat.le_of_eq rfl) (hb hby at_219) (fun _ _ => ⟨rfl, e81, (by decide : 1 + 0 ≤ _), (by decide : 4 + 0 ≤ _)⟩)
        dsimp only [Pt.U, Pt.locs, Pt.cells, Pt.slots] at X88 l88 y88 z88 st88 hQ88
        subst l88 y88 z88
        obtain ⟨rfl, N88q, K88q, E88q, F88q0, F88q1, F88q2, F88q3⟩ := hQ88
        have N88 := Fr.app N76 N88q
        have G89 : Exa Z T88.heap b81 "com/example/oriflamme/oriflamme/runtime/RunFigures" := G82.keep K88q
        have K88 : Keep h0 T88.heap [] := K81.trans K88q (allS (Or.inr sz_b81) all0)
        have Z88 : n0 ≤ T88.heap.size := Nat.le_trans Z81 K88q.1
        obtain ⟨cq90, kq90, q90a, q90b, q90c⟩ := isOf hZ rfl E88q
        obtain ⟨_, _, ⟨T90, L90, k90, n90⟩, -, X90, ⟨Lc90, hQ90, l90, y90, z90⟩, st90⟩ := X88.virtualBack hx (y := (⟨"com/example/oriflamme/oriflamme/runtime/RunFigures", "averageDurationMs", "()Ljava/lang/Double;"⟩ : MethodName)) (z := (⟨"com/example/oriflamme/oriflamme/runtime/RunFigures", "averageDurationMs", "()Ljava/lang/Double;"⟩ : MethodName)) hown (mvT hZ (hw _ (List.mem_of_getElem? (i := 22) rfl))) (mvT hZ (hw _ (List.mem_of_getElem? (i := 23) rfl))) (notFace_of_selects (args := #[]) (mvT hZ (hw _ (List.mem_of_getElem? (i := 25) rfl)))) (mvT hZ (hw _ (List.mem_of_getElem? (i := 25) rfl))) (mvT hZ (hw _ (List.mem_of_getElem? (i := 24) rfl))) (by decide) (backOf (W := 0) (rm4 l Z a0 hw [] b81 v73 t0 T88.heap n0 Z88 F88q0 F88q3 M.r0) hZ (hw _ (List.mem_of_getElem? (i := 26) rfl)) (hw _ (List.mem_of_getElem? (i := 2) rfl)) (by decide) (by decide)) q90a q90c (g := (mkF m 222 #[.val (.int p1), .val (.long q2), .second, .val (.int p3), .val (.int p4), .val (.long q5), .second, .val (.long q6), .second, .val (.int (p1 &&& (3 : Int32))), .val (.long q0), .second, .val (.long v73), .second, .val (.long r76), .second, .val (.long s0), .second, .val (.long t0), .second, .unset, .unset, .unset, .unset, .unset, .unset, .unset] [(.ref b81)])) rfl (by rw [hml]; rfl) (Steps.refl _) (argsL := []) (rest := []) (lenOf pd_4 rfl) rfl (by show 2 * 0 + _ ≤ _; exact Nat.le_of_eq rfl) (hb hby at_222) (fun _ _ => ⟨rfl, rfl, (by decide : 1 + 1 ≤ _), (by decide : 4 + 1 ≤ _)⟩)
        dsimp only [Pt.U, Pt.locs, Pt.cells, Pt.slots] at X90 l90 y90 z90 st90 hQ90
        subst l90 y90 z90
        obtain ⟨b90, rfl, N90q, K90q, g_b90, sz90q, Ex90, Fv90⟩ := hQ90
        have N90 := Fr.app N88 N90q
        have ne_b81_b90 : b81 ≠ b90 := Nat.ne_of_lt (Nat.lt_of_lt_of_le E88q.lt sz90q)
        have sz_b90 : h0.size ≤ b90 := Nat.le_trans K88.1 sz90q
        have G91 : Exa Z T90.heap b81 "com/example/oriflamme/oriflamme/runtime/RunFigures" := E88q.keep K90q
        have G92 : Fld Z T90.heap b81 "com/example/oriflamme/oriflamme/runtime/RunFigures" "runs" "J" (.long v73) := F88q0.keep K90q (nin0)
        have G93 : Fld Z T90.heap b81 "com/example/oriflamme/oriflamme/runtime/RunFigures" "succeeded" "J" (.long q6) := F88q1.keep K90q (nin0)
        have G94 : Fld Z T90.heap b81 "com/example/oriflamme/oriflamme/runtime/RunFigures" "failed" "J" (.long q2) := F88q2.keep K90q (nin0)
        have G95 : Fld Z T90.heap b81 "com/example/oriflamme/oriflamme/runtime/RunFigures" "totalDurationMs" "J" (.long t0) := F88q3.keep K90q (nin0)
        have K90 : Keep h0 T90.heap [] := K88.trans K90q all0
        have Z90 : n0 ≤ T90.heap.size := Nat.le_trans Z88 K90q.1
        have st96 : ∀ tg, Steps p.tables e below (T90.setTop (mkF m 236 #[.val (.int p1), .val (.long q2), .second, .val (.int p3), .val (.int p4), .val (.long q5), .second, .val (.long q6), .second, .val (.int (p1 &&& (3 : Int32))), .val (.long q0), .second, .val (.long v73), .second, .val (.long r76), .second, .val (.long s0), .second, .val (.long t0), .second, .val (.ref b90), .unset, .unset, .unset, .unset, .unset, .unset] [(.ref b90)])) tg → Steps p.tables e below (T90.setTop (mkF m 225 #[.val (.int p1), .val (.long q2), .second, .val (.int p3), .val (.int p4), .val (.long q5), .second, .val (.long q6), .second, .val (.int (p1 &&& (3 : Int32))), .val (.long q0), .second, .val (.long v73), .second, .val (.long r76), .second, .val (.long s0), .second, .val (.long t0), .second, .unset, .unset, .unset, .unset, .unset, .unset, .unset] [(.ref b90)])) tg := by
          intro tg kt
          refine XS.astore X90.here hx rfl (hb hby at_225) rfl rfl (l' := #[.val (.int p1), .val (.long q2), .second, .val (.int p3), .val (.int p4), .val (.long q5), .second, .val (.long q6), .second, .val (.int (p1 &&& (3 : Int32))), .val (.long q0), .second, .val (.long v73), .second, .val (.long r76), .second, .val (.long s0), .second, .val (.long t0), .second, .val (.ref b90), .unset, .unset, .unset, .unset, .unset, .unset]) rfl ?_
          refine XS.aload X90.here hx rfl (hb hby at_227) rfl rfl ?_
          refine XS.ifnonnullYes X90.here hx rfl (pc0 := 229) (pc' := 234) rfl (hb hby at_229) rfl (by decide) (by decide) ?_
          refine XS.aload X90.here hx rfl (hb hby at_234) rfl rfl ?_
          exact kt
        obtain ⟨cq97, kq97, q97a, q97b, q97c⟩ := isOf hZ rfl Ex90
        obtain ⟨_, _, ⟨T97, L97, k97, n97⟩, -, X97, ⟨Lc97, hQ97, l97, y97, z97⟩, st97⟩ := X90.virtualBack hx (y := (⟨"java/lang/Double", "doubleValue", "()D"⟩ : MethodName)) (z := (⟨"java/lang/Double", "doubleValue", "()D"⟩ : MethodName)) hown (mvT hZ (hw _ (List.mem_of_getElem? (i := 46) rfl))) (mvT hZ (hw _ (List.mem_of_getElem? (i := 47) rfl))) (notFace_of_selects (args := #[]) (mvT hZ (hw _ (List.mem_of_getElem? (i := 49) rfl)))) (mvT hZ (hw _ (List.mem_of_getElem? (i := 49) rfl))) (mvT hZ (hw _ (List.mem_of_getElem? (i := 48) rfl))) (by decide) (backOf (W := 0) (rm8 l Z a0 hw [] b90 (FP.ddiv (FP.l2d t0) (FP.l2d v73)) T90.heap n0 Z90 Fv90) hZ (hw _ (List.mem_of_getElem? (i := 50) rfl)) (hw _ (List.mem_of_getElem? (i := 29) rfl)) (by decide) (by decide)) q97a q97c (g := (mkF m 236 #[.val (.int p1), .val (.long q2), .second, .val (.int p3), .val (.int p4), .val (.long q5), .second, .val (.long q6), .second, .val (.int (p1 &&& (3 : Int32))), .val (.long q0), .second, .val (.long v73), .second, .val (.long r76), .second, .val (.long s0), .second, .val (.long t0), .second, .val (.ref b90), .unset, .unset, .unset, .unset, .unset, .unset] [(.ref b90)])) rfl (by rw [hml]; rfl) (Steps.refl _) (argsL := []) (rest := []) (lenOf pd_5 rfl) rfl (by show 2 * 0 + _ ≤ _; exact Nat.le_of_eq rfl) (hb hby at_236) (fun _ _ => ⟨rfl, rfl, (by decide : 2 + 0 ≤ _), (by decide : 5 + 0 ≤ _)⟩)
        dsimp only [Pt.U, Pt.locs, Pt.cells, Pt.slots] at X97 l97 y97 z97 st97 hQ97
        subst l97 y97 z97
        obtain ⟨rfl, N97q, e97⟩ := hQ97
        have N97 := Fr.app N90 N97q
        have st99 : ∀ tg, Steps p.tables e below (T97.setTop (mkF m 245 #[.val (.int p1), .val (.long q2), .second, .val (.int p3), .val (.int p4), .val (.long q5), .second, .val (.long q6), .second, .val (.int (p1 &&& (3 : Int32))), .val (.long q0), .second, .val (.long v73), .second, .val (.long r76), .second, .val (.long s0), .second, .val (.long t0), .second, .val (.ref b90), .val (.double (FP.ddiv (FP.l2d t0) (FP.l2d v73))), .second, .unset, .unset, .unset, .unset] [(.int (lcmpW s0 (0 : Int64)))])) tg → Steps p.tables e below (T97.setTop (mkF m 239 #[.val (.int p1), .val (.long q2), .second, .val (.int p3), .val (.int p4), .val (.long q5), .second, .val (.long q6), .second, .val (.int (p1 &&& (3 : Int32))), .val (.long q0), .second, .val (.long v73), .second, .val (.long r76), .second, .val (.long s0), .second, .val (.long t0), .second, .val (.ref b90), .unset, .unset, .unset, .unset, .unset, .unset] [(.double (FP.ddiv (FP.l2d t0) (FP.l2d v73)))])) tg := by
          intro tg kt
          refine XS.dstore X97.here hx rfl (hb hby at_239) rfl (l' := #[.val (.int p1), .val (.long q2), .second, .val (.int p3), .val (.int p4), .val (.long q5), .second, .val (.long q6), .second, .val (.int (p1 &&& (3 : Int32))), .val (.long q0), .second, .val (.long v73), .second, .val (.long r76), .second, .val (.long s0), .second, .val (.long t0), .second, .val (.ref b90), .val (.double (FP.ddiv (FP.l2d t0) (FP.l2d v73))), .second, .unset, .unset, .unset, .unset]) rfl ?_
          refine XS.lload X97.here hx rfl (hb hby at_241) rfl ?_
          refine XS.lconst X97.here hx rfl (hb hby at_243) ?_
          refine XS.lcmp X97.here hx rfl (hb hby at_244) rfl ?_
          exact kt
        by_cases hc245_98 : s0 = (0 : Int64)
        · -- pc 245: s0 = (0 : Int64)
          have st100 : ∀ tg, Steps p.tables e below (T97.setTop (mkF m 253 #[.val (.int p1), .val (.long q2), .second, .val (.int p3), .val (.int p4), .val (.long q5), .second, .val (.long q6), .second, .val (.int (p1 &&& (3 : Int32))), .val (.long q0), .second, .val (.long v73), .second, .val (.long r76), .second, .val (.long s0), .second, .val (.long t0), .second, .val (.ref b90), .val (.double (FP.ddiv (FP.l2d t0) (FP.l2d v73))), .second, .unset, .unset, .unset, .unset] [(.double (FP.l2d q0)), (.double (FP.ddiv (FP.l2d t0) (FP.l2d v73)))])) tg → Steps p.tables e below (T97.setTop (mkF m 245 #[.val (.int p1), .val (.long q2), .second, .val (.int p3), .val (.int p4), .val (.long q5), .second, .val (.long q6), .second, .val (.int (p1 &&& (3 : Int32))), .val (.long q0), .second, .val (.long v73), .second, .val (.long r76), .second, .val (.long s0), .second, .val (.long t0), .second, .val (.ref b90), .val (.double (FP.ddiv (FP.l2d t0) (FP.l2d v73))), .second, .unset, .unset, .unset, .unset] [(.int (lcmpW s0 (0 : Int64)))])) tg := by
            intro tg kt
            refine XS.ifNo X97.here hx rfl (hb hby at_245) rfl (XT.ll_ne_f hc245_98) ?_
            refine XS.dload X97.here hx rfl (hb hby at_248) rfl ?_
            refine XS.lload X97.here hx rfl (hb hby at_250) rfl ?_
            refine XS.l2dS X97.here hx rfl (hb hby at_252) rfl rfl ?_
            exact kt
          have hv101 : Jvm.Op.cmpValue (FP.dcmp (FP.ddiv (FP.l2d t0) (FP.l2d v73)) (FP.l2d q0)) .l = (0 : Int32) := M.exact hc245_98
          have st102 : ∀ tg, Steps p.tables e below (T97.setTop (mkF m 262 #[.val (.int p1), .val (.long q2), .second, .val (.int p3), .val (.int p4), .val (.long q5), .second, .val (.long q6), .second, .val (.int (p1 &&& (3 : Int32))), .val (.long q0), .second, .val (.long v73), .second, .val (.long r76), .second, .val (.long s0), .second, .val (.long t0), .second, .val (.ref b90), .val (.double (FP.ddiv (FP.l2d t0) (FP.l2d v73))), .second, .unset, .unset, .unset, .unset] [(.int (1 : Int32))])) tg → Steps p.tables e below (T97.setTop (mkF m 253 #[.val (.int p1), .val (.long q2), .second, .val (.int p3), .val (.int p4), .val (.long q5), .second, .val (.long q6), .second, .val (.int (p1 &&& (3 : Int32))), .val (.long q0), .second, .val (.long v73), .second, .val (.long r76), .second, .val (.long s0), .second, .val (.long t0), .second, .val (.ref b90), .val (.double (FP.ddiv (FP.l2d t0) (FP.l2d v73))), .second, .unset, .unset, .unset, .unset] [(.double (FP.l2d q0)), (.double (FP.ddiv (FP.l2d t0) (FP.l2d v73)))])) tg := by
            intro tg kt
            refine XS.dcmpS X97.here hx rfl (hb hby at_253) rfl hv101 ?_
            refine XS.ifNo X97.here hx rfl (hb hby at_254) rfl (XT.i0_ne_f (by decide)) ?_
            refine XS.iconst X97.here hx rfl (hb hby at_257) ?_
            refine XS.goto X97.here hx rfl (pc0 := 258) (pc' := 262) rfl (hb hby at_258) (by decide) (by decide) ?_
            exact kt
          obtain ⟨fs, hr, hrun, hended, hW, hsame⟩ := X97.leave (v := some (.int (1 : Int32))) (fun h => by rw [Bd.returns] at h; cases h)
          refine ⟨_, _, pre0 _ ?_, hrun, hended, _, _, rfl, ?_, ⟨_, rfl⟩, hW, hsame.mono (by decide) (by decide)⟩
          · refine st2 _ ?_
            refine st17 _ ?_
            refine st44 _ ?_
            refine st70 _ ?_
            refine st72 _ ?_
            refine st74 _ ?_
            refine st75 _ ?_
            show Steps p.tables e below (s₁.setTop (mkF m 182 #[.val (.int p1), .val (.long q2), .second, .val (.int p3), .val (.int p4), .val (.long q5), .second, .val (.long q6), .second, .val (.int (p1 &&& (3 : Int32))), .val (.long q0), .second, .val (.long v73), .second, .unset, .unset, .unset, .unset, .unset, .unset, .unset, .unset, .unset, .unset, .unset, .unset, .unset] [(.long v73)])) _
            refine st76 _ ?_
            refine st77 _ ?_
            refine st78 _ ?_
            refine st79 _ ?_
            refine st80 _ ?_
            show Steps p.tables e below (T76.setTop (mkF m 208 #[.val (.int p1), .val (.long q2), .second, .val (.int p3), .val (.int p4), .val (.long q5), .second, .val (.long q6), .second, .val (.int (p1 &&& (3 : Int32))), .val (.long q0), .second, .val (.long v73), .second, .val (.long r76), .second, .val (.long s0), .second, .val (.long t0), .second, .unset, .unset, .unset, .unset, .unset, .unset, .unset] [])) _
            refine st81 _ ?_
            refine st87 _ ?_
            show Steps p.tables e below (T81.setTop (mkF m 219 #[.val (.int p1), .val (.long q2), .second, .val (.int p3), .val (.int p4), .val (.long q5), .second, .val (.long q6), .second, .val (.int (p1 &&& (3 : Int32))), .val (.long q0), .second, .val (.long v73), .second, .val (.long r76), .second, .val (.long s0), .second, .val (.long t0), .second, .unset, .unset, .unset, .unset, .unset, .unset, .unset] [(.long t0), (.long q2), (.long q6), (.long v73), (.ref b81), (.ref b81)])) _
            refine st88.trans ?_
            show Steps p.tables e below (T88.setTop (mkF m 222 #[.val (.int p1), .val (.long q2), .second, .val (.int p3), .val (.int p4), .val (.long q5), .second, .val (.long q6), .second, .val (.int (p1 &&& (3 : Int32))), .val (.long q0), .second, .val (.long v73), .second, .val (.long r76), .second, .val (.long s0), .second, .val (.long t0), .second, .unset, .unset, .unset, .unset, .unset, .unset, .unset] [(.ref b81)])) _
            refine st90.trans ?_
            refine st96 _ ?_
            show Steps p.tables e below (T90.setTop (mkF m 236 #[.val (.int p1), .val (.long q2), .second, .val (.int p3), .val (.int p4), .val (.long q5), .second, .val (.long q6), .second, .val (.int (p1 &&& (3 : Int32))), .val (.long q0), .second, .val (.long v73), .second, .val (.long r76), .second, .val (.long s0), .second, .val (.long t0), .second, .val (.ref b90), .unset, .unset, .unset, .unset, .unset, .unset] [(.ref b90)])) _
            refine st97.trans ?_
            refine st99 _ ?_
            refine st100 _ ?_
            refine st102 _ ?_
            show Steps p.tables e below (T97.setTop (mkF m 262 #[.val (.int p1), .val (.long q2), .second, .val (.int p3), .val (.int p4), .val (.long q5), .second, .val (.long q6), .second, .val (.int (p1 &&& (3 : Int32))), .val (.long q0), .second, .val (.long v73), .second, .val (.long r76), .second, .val (.long s0), .second, .val (.long t0), .second, .val (.ref b90), .val (.double (FP.ddiv (FP.l2d t0) (FP.l2d v73))), .second, .unset, .unset, .unset, .unset] [(.int (1 : Int32))])) _
            exact retN X97 hx (t := .boolean) Bd.returns (by simp) (hb hby at_262) hr
          · show Q0 Z p1 q2 p3 p4 q5 q6 h0 n0 _ T97.heap _
            rw [e97]
            exact ⟨rfl, N97⟩
        · -- pc 245: not s0 = (0 : Int64)
          have st104 : ∀ tg, Steps p.tables e below (T97.setTop (mkF m 267 #[.val (.int p1), .val (.long q2), .second, .val (.int p3), .val (.int p4), .val (.long q5), .second, .val (.long q6), .second, .val (.int (p1 &&& (3 : Int32))), .val (.long q0), .second, .val (.long v73), .second, .val (.long r76), .second, .val (.long s0), .second, .val (.long t0), .second, .val (.ref b90), .val (.double (FP.ddiv (FP.l2d t0) (FP.l2d v73))), .second, .unset, .unset, .unset, .unset] [(.int (lcmpW v73 (0 : Int64)))])) tg → Steps p.tables e below (T97.setTop (mkF m 245 #[.val (.int p1), .val (.long q2), .second, .val (.int p3), .val (.int p4), .val (.long q5), .second, .val (.long q6), .second, .val (.int (p1 &&& (3 : Int32))), .val (.long q0), .second, .val (.long v73), .second, .val (.long r76), .second, .val (.long s0), .second, .val (.long t0), .second, .val (.ref b90), .val (.double (FP.ddiv (FP.l2d t0) (FP.l2d v73))), .second, .unset, .unset, .unset, .unset] [(.int (lcmpW s0 (0 : Int64)))])) tg := by
            intro tg kt
            refine XS.ifYes X97.here hx rfl (pc0 := 245) (pc' := 263) rfl (hb hby at_245) rfl (XT.ll_ne_t hc245_98) (by decide) (by decide) ?_
            refine XS.lload X97.here hx rfl (hb hby at_263) rfl ?_
            refine XS.lconst X97.here hx rfl (hb hby at_265) ?_
            refine XS.lcmp X97.here hx rfl (hb hby at_266) rfl ?_
            exact kt
          by_cases hc267_103 : (0 : Int64) < v73
          · -- pc 267: (0 : Int64) < v73
            have st105 : ∀ tg, Steps p.tables e below (T97.setTop (mkF m 307 #[.val (.int p1), .val (.long q2), .second, .val (.int p3), .val (.int p4), .val (.long q5), .second, .val (.long q6), .second, .val (.int (p1 &&& (3 : Int32))), .val (.long q0), .second, .val (.long v73), .second, .val (.long r76), .second, .val (.long s0), .second, .val (.long t0), .second, .val (.ref b90), .val (.double (FP.ddiv (FP.l2d t0) (FP.l2d v73))), .second, .val (.double (FP.l2d q0)), .second, .val (.double (FP.l2d (q0 + (1 : Int64)))), .second] [(.double (FP.ddiv (FP.l2d t0) (FP.l2d v73))), (.double (FP.l2d q0))])) tg → Steps p.tables e below (T97.setTop (mkF m 267 #[.val (.int p1), .val (.long q2), .second, .val (.int p3), .val (.int p4), .val (.long q5), .second, .val (.long q6), .second, .val (.int (p1 &&& (3 : Int32))), .val (.long q0), .second, .val (.long v73), .second, .val (.long r76), .second, .val (.long s0), .second, .val (.long t0), .second, .val (.ref b90), .val (.double (FP.ddiv (FP.l2d t0) (FP.l2d v73))), .second, .unset, .unset, .unset, .unset] [(.int (lcmpW v73 (0 : Int64)))])) tg := by
              intro tg kt
              refine XS.ifNo X97.here hx rfl (hb hby at_267) rfl (XT.ll_le_f hc267_103) ?_
              refine XS.lload X97.here hx rfl (hb hby at_270) rfl ?_
              refine XS.l2dS X97.here hx rfl (hb hby at_272) rfl rfl ?_
              refine XS.goto X97.here hx rfl (pc0 := 273) (pc' := 281) rfl (hb hby at_273) (by decide) (by decide) ?_
              show Steps p.tables e below (T97.setTop (mkF m 281 #[.val (.int p1), .val (.long q2), .second, .val (.int p3), .val (.int p4), .val (.long q5), .second, .val (.long q6), .second, .val (.int (p1 &&& (3 : Int32))), .val (.long q0), .second, .val (.long v73), .second, .val (.long r76), .second, .val (.long s0), .second, .val (.long t0), .second, .val (.ref b90), .val (.double (FP.ddiv (FP.l2d t0) (FP.l2d v73))), .second, .unset, .unset, .unset, .unset] [(.double (FP.l2d q0))])) tg
              refine XS.dstore X97.here hx rfl (hb hby at_281) rfl (l' := #[.val (.int p1), .val (.long q2), .second, .val (.int p3), .val (.int p4), .val (.long q5), .second, .val (.long q6), .second, .val (.int (p1 &&& (3 : Int32))), .val (.long q0), .second, .val (.long v73), .second, .val (.long r76), .second, .val (.long s0), .second, .val (.long t0), .second, .val (.ref b90), .val (.double (FP.ddiv (FP.l2d t0) (FP.l2d v73))), .second, .val (.double (FP.l2d q0)), .second, .unset, .unset]) rfl ?_
              refine XS.lload X97.here hx rfl (hb hby at_283) rfl ?_
              refine XS.lconst X97.here hx rfl (hb hby at_285) ?_
              refine XS.lcmp X97.here hx rfl (hb hby at_286) rfl ?_
              show Steps p.tables e below (T97.setTop (mkF m 287 #[.val (.int p1), .val (.long q2), .second, .val (.int p3), .val (.int p4), .val (.long q5), .second, .val (.long q6), .second, .val (.int (p1 &&& (3 : Int32))), .val (.long q0), .second, .val (.long v73), .second, .val (.long r76), .second, .val (.long s0), .second, .val (.long t0), .second, .val (.ref b90), .val (.double (FP.ddiv (FP.l2d t0) (FP.l2d v73))), .second, .val (.double (FP.l2d q0)), .second, .unset, .unset] [(.int (lcmpW v73 (0 : Int64)))])) tg
              refine XS.ifNo X97.here hx rfl (hb hby at_287) rfl (XT.ll_le_f hc267_103) ?_
              refine XS.lload X97.here hx rfl (hb hby at_290) rfl ?_
              refine XS.lconst X97.here hx rfl (hb hby at_292) ?_
              refine XS.ladd X97.here hx rfl (hb hby at_293) rfl ?_
              show Steps p.tables e below (T97.setTop (mkF m 294 #[.val (.int p1), .val (.long q2), .second, .val (.int p3), .val (.int p4), .val (.long q5), .second, .val (.long q6), .second, .val (.int (p1 &&& (3 : Int32))), .val (.long q0), .second, .val (.long v73), .second, .val (.long r76), .second, .val (.long s0), .second, .val (.long t0), .second, .val (.ref b90), .val (.double (FP.ddiv (FP.l2d t0) (FP.l2d v73))), .second, .val (.double (FP.l2d q0)), .second, .unset, .unset] [(.long (q0 + (1 : Int64)))])) tg
              refine XS.l2dS X97.here hx rfl (hb hby at_294) rfl rfl ?_
              refine XS.goto X97.here hx rfl (pc0 := 295) (pc' := 301) rfl (hb hby at_295) (by decide) (by decide) ?_
              refine XS.dstore X97.here hx rfl (hb hby at_301) rfl (l' := #[.val (.int p1), .val (.long q2), .second, .val (.int p3), .val (.int p4), .val (.long q5), .second, .val (.long q6), .second, .val (.int (p1 &&& (3 : Int32))), .val (.long q0), .second, .val (.long v73), .second, .val (.long r76), .second, .val (.long s0), .second, .val (.long t0), .second, .val (.ref b90), .val (.double (FP.ddiv (FP.l2d t0) (FP.l2d v73))), .second, .val (.double (FP.l2d q0)), .second, .val (.double (FP.l2d (q0 + (1 : Int64)))), .second]) rfl ?_
              refine XS.dload X97.here hx rfl (hb hby at_303) rfl ?_
              show Steps p.tables e below (T97.setTop (mkF m 305 #[.val (.int p1), .val (.long q2), .second, .val (.int p3), .val (.int p4), .val (.long q5), .second, .val (.long q6), .second, .val (.int (p1 &&& (3 : Int32))), .val (.long q0), .second, .val (.long v73), .second, .val (.long r76), .second, .val (.long s0), .second, .val (.long t0), .second, .val (.ref b90), .val (.double (FP.ddiv (FP.l2d t0) (FP.l2d v73))), .second, .val (.double (FP.l2d q0)), .second, .val (.double (FP.l2d (q0 + (1 : Int64)))), .second] [(.double (FP.l2d q0))])) tg
              refine XS.dload X97.here hx rfl (hb hby at_305) rfl ?_
              exact kt
            have hv106 : Jvm.Op.cmpValue (FP.dcmp (FP.l2d q0) (FP.ddiv (FP.l2d t0) (FP.l2d v73))) .g = (-1 : Int32) := M.lo1 hc245_98 hc267_103
            have st107 : ∀ tg, Steps p.tables e below (T97.setTop (mkF m 315 #[.val (.int p1), .val (.long q2), .second, .val (.int p3), .val (.int p4), .val (.long q5), .second, .val (.long q6), .second, .val (.int (p1 &&& (3 : Int32))), .val (.long q0), .second, .val (.long v73), .second, .val (.long r76), .second, .val (.long s0), .second, .val (.long t0), .second, .val (.ref b90), .val (.double (FP.ddiv (FP.l2d t0) (FP.l2d v73))), .second, .val (.double (FP.l2d q0)), .second, .val (.double (FP.l2d (q0 + (1 : Int64)))), .second] [(.double (FP.l2d (q0 + (1 : Int64)))), (.double (FP.ddiv (FP.l2d t0) (FP.l2d v73)))])) tg → Steps p.tables e below (T97.setTop (mkF m 307 #[.val (.int p1), .val (.long q2), .second, .val (.int p3), .val (.int p4), .val (.long q5), .second, .val (.long q6), .second, .val (.int (p1 &&& (3 : Int32))), .val (.long q0), .second, .val (.long v73), .second, .val (.long r76), .second, .val (.long s0), .second, .val (.long t0), .second, .val (.ref b90), .val (.double (FP.ddiv (FP.l2d t0) (FP.l2d v73))), .second, .val (.double (FP.l2d q0)), .second, .val (.double (FP.l2d (q0 + (1 : Int64)))), .second] [(.double (FP.ddiv (FP.l2d t0) (FP.l2d v73))), (.double (FP.l2d q0))])) tg := by
              intro tg kt
              refine XS.dcmpS X97.here hx rfl (hb hby at_307) rfl hv106 ?_
              refine XS.ifNo X97.here hx rfl (hb hby at_308) rfl (XT.i0_ge_f (by decide)) ?_
              refine XS.dload X97.here hx rfl (hb hby at_311) rfl ?_
              refine XS.dload X97.here hx rfl (hb hby at_313) rfl ?_
              exact kt
            have hv108 : Jvm.Op.cmpValue (FP.dcmp (FP.ddiv (FP.l2d t0) (FP.l2d v73)) (FP.l2d (q0 + (1 : Int64)))) .g = (-1 : Int32) := M.hi1 hc245_98 hc267_103
            have st109 : ∀ tg, Steps p.tables e below (T97.setTop (mkF m 324 #[.val (.int p1), .val (.long q2), .second, .val (.int p3), .val (.int p4), .val (.long q5), .second, .val (.long q6), .second, .val (.int (p1 &&& (3 : Int32))), .val (.long q0), .second, .val (.long v73), .second, .val (.long r76), .second, .val (.long s0), .second, .val (.long t0), .second, .val (.ref b90), .val (.double (FP.ddiv (FP.l2d t0) (FP.l2d v73))), .second, .val (.double (FP.l2d q0)), .second, .val (.double (FP.l2d (q0 + (1 : Int64)))), .second] [(.int (1 : Int32))])) tg → Steps p.tables e below (T97.setTop (mkF m 315 #[.val (.int p1), .val (.long q2), .second, .val (.int p3), .val (.int p4), .val (.long q5), .second, .val (.long q6), .second, .val (.int (p1 &&& (3 : Int32))), .val (.long q0), .second, .val (.long v73), .second, .val (.long r76), .second, .val (.long s0), .second, .val (.long t0), .second, .val (.ref b90), .val (.double (FP.ddiv (FP.l2d t0) (FP.l2d v73))), .second, .val (.double (FP.l2d q0)), .second, .val (.double (FP.l2d (q0 + (1 : Int64)))), .second] [(.double (FP.l2d (q0 + (1 : Int64)))), (.double (FP.ddiv (FP.l2d t0) (FP.l2d v73)))])) tg := by
              intro tg kt
              refine XS.dcmpS X97.here hx rfl (hb hby at_315) rfl hv108 ?_
              refine XS.ifNo X97.here hx rfl (hb hby at_316) rfl (XT.i0_ge_f (by decide)) ?_
              refine XS.iconst X97.here hx rfl (hb hby at_319) ?_
              refine XS.goto X97.here hx rfl (pc0 := 320) (pc' := 324) rfl (hb hby at_320) (by decide) (by decide) ?_
              exact kt
            obtain ⟨fs, hr, hrun, hended, hW, hsame⟩ := X97.leave (v := some (.int (1 : Int32))) (fun h => by rw [Bd.returns] at h; cases h)
            refine ⟨_, _, pre0 _ ?_, hrun, hended, _, _, rfl, ?_, ⟨_, rfl⟩, hW, hsame.mono (by decide) (by decide)⟩
            · refine st2 _ ?_
              refine st17 _ ?_
              refine st44 _ ?_
              refine st70 _ ?_
              refine st72 _ ?_
              refine st74 _ ?_
              refine st75 _ ?_
              show Steps p.tables e below (s₁.setTop (mkF m 182 #[.val (.int p1), .val (.long q2), .second, .val (.int p3), .val (.int p4), .val (.long q5), .second, .val (.long q6), .second, .val (.int (p1 &&& (3 : Int32))), .val (.long q0), .second, .val (.long v73), .second, .unset, .unset, .unset, .unset, .unset, .unset, .unset, .unset, .unset, .unset, .unset, .unset, .unset] [(.long v73)])) _
              refine st76 _ ?_
              refine st77 _ ?_
              refine st78 _ ?_
              refine st79 _ ?_
              refine st80 _ ?_
              show Steps p.tables e below (T76.setTop (mkF m 208 #[.val (.int p1), .val (.long q2), .second, .val (.int p3), .val (.int p4), .val (.long q5), .second, .val (.long q6), .second, .val (.int (p1 &&& (3 : Int32))), .val (.long q0), .second, .val (.long v73), .second, .val (.long r76), .second, .val (.long s0), .second, .val (.long t0), .second, .unset, .unset, .unset, .unset, .unset, .unset, .unset] [])) _
              refine st81 _ ?_
              refine st87 _ ?_
              show Steps p.tables e below (T81.setTop (mkF m 219 #[.val (.int p1), .val (.long q2), .second, .val (.int p3), .val (.int p4), .val (.long q5), .second, .val (.long q6), .second, .val (.int (p1 &&& (3 : Int32))), .val (.long q0), .second, .val (.long v73), .second, .val (.long r76), .second, .val (.long s0), .second, .val (.long t0), .second, .unset, .unset, .unset, .unset, .unset, .unset, .unset] [(.long t0), (.long q2), (.long q6), (.long v73), (.ref b81), (.ref b81)])) _
              refine st88.trans ?_
              show Steps p.tables e below (T88.setTop (mkF m 222 #[.val (.int p1), .val (.long q2), .second, .val (.int p3), .val (.int p4), .val (.long q5), .second, .val (.long q6), .second, .val (.int (p1 &&& (3 : Int32))), .val (.long q0), .second, .val (.long v73), .second, .val (.long r76), .second, .val (.long s0), .second, .val (.long t0), .second, .unset, .unset, .unset, .unset, .unset, .unset, .unset] [(.ref b81)])) _
              refine st90.trans ?_
              refine st96 _ ?_
              show Steps p.tables e below (T90.setTop (mkF m 236 #[.val (.int p1), .val (.long q2), .second, .val (.int p3), .val (.int p4), .val (.long q5), .second, .val (.long q6), .second, .val (.int (p1 &&& (3 : Int32))), .val (.long q0), .second, .val (.long v73), .second, .val (.long r76), .second, .val (.long s0), .second, .val (.long t0), .second, .val (.ref b90), .unset, .unset, .unset, .unset, .unset, .unset] [(.ref b90)])) _
              refine st97.trans ?_
              refine st99 _ ?_
              refine st104 _ ?_
              refine st105 _ ?_
              refine st107 _ ?_
              refine st109 _ ?_
              show Steps p.tables e below (T97.setTop (mkF m 324 #[.val (.int p1), .val (.long q2), .second, .val (.int p3), .val (.int p4), .val (.long q5), .second, .val (.long q6), .second, .val (.int (p1 &&& (3 : Int32))), .val (.long q0), .second, .val (.long v73), .second, .val (.long r76), .second, .val (.long s0), .second, .val (.long t0), .second, .val (.ref b90), .val (.double (FP.ddiv (FP.l2d t0) (FP.l2d v73))), .second, .val (.double (FP.l2d q0)), .second, .val (.double (FP.l2d (q0 + (1 : Int64)))), .second] [(.int (1 : Int32))])) _
              exact retN X97 hx (t := .boolean) Bd.returns (by simp) (hb hby at_324) hr
            · show Q0 Z p1 q2 p3 p4 q5 q6 h0 n0 _ T97.heap _
              rw [e97]
              exact ⟨rfl, N97⟩
          · -- pc 267: not (0 : Int64) < v73
            have st110 : ∀ tg, Steps p.tables e below (T97.setTop (mkF m 307 #[.val (.int p1), .val (.long q2), .second, .val (.int p3), .val (.int p4), .val (.long q5), .second, .val (.long q6), .second, .val (.int (p1 &&& (3 : Int32))), .val (.long q0), .second, .val (.long v73), .second, .val (.long r76), .second, .val (.long s0), .second, .val (.long t0), .second, .val (.ref b90), .val (.double (FP.ddiv (FP.l2d t0) (FP.l2d v73))), .second, .val (.double (FP.l2d (q0 - (1 : Int64)))), .second, .val (.double (FP.l2d q0)), .second] [(.double (FP.ddiv (FP.l2d t0) (FP.l2d v73))), (.double (FP.l2d (q0 - (1 : Int64))))])) tg → Steps p.tables e below (T97.setTop (mkF m 267 #[.val (.int p1), .val (.long q2), .second, .val (.int p3), .val (.int p4), .val (.long q5), .second, .val (.long q6), .second, .val (.int (p1 &&& (3 : Int32))), .val (.long q0), .second, .val (.long v73), .second, .val (.long r76), .second, .val (.long s0), .second, .val (.long t0), .second, .val (.ref b90), .val (.double (FP.ddiv (FP.l2d t0) (FP.l2d v73))), .second, .unset, .unset, .unset, .unset] [(.int (lcmpW v73 (0 : Int64)))])) tg := by
              intro tg kt
              refine XS.ifYes X97.here hx rfl (pc0 := 267) (pc' := 276) rfl (hb hby at_267) rfl (XT.ll_le_t hc267_103) (by decide) (by decide) ?_
              refine XS.lload X97.here hx rfl (hb hby at_276) rfl ?_
              refine XS.lconst X97.here hx rfl (hb hby at_278) ?_
              refine XS.lsub X97.here hx rfl (hb hby at_279) rfl ?_
              show Steps p.tables e below (T97.setTop (mkF m 280 #[.val (.int p1), .val (.long q2), .second, .val (.int p3), .val (.int p4), .val (.long q5), .second, .val (.long q6), .second, .val (.int (p1 &&& (3 : Int32))), .val (.long q0), .second, .val (.long v73), .second, .val (.long r76), .second, .val (.long s0), .second, .val (.long t0), .second, .val (.ref b90), .val (.double (FP.ddiv (FP.l2d t0) (FP.l2d v73))), .second, .unset, .unset, .unset, .unset] [(.long (q0 - (1 : Int64)))])) tg
              refine XS.l2dS X97.here hx rfl (hb hby at_280) rfl rfl ?_
              refine XS.dstore X97.here hx rfl (hb hby at_281) rfl (l' := #[.val (.int p1), .val (.long q2), .second, .val (.int p3), .val (.int p4), .val (.long q5), .second, .val (.long q6), .second, .val (.int (p1 &&& (3 : Int32))), .val (.long q0), .second, .val (.long v73), .second, .val (.long r76), .second, .val (.long s0), .second, .val (.long t0), .second, .val (.ref b90), .val (.double (FP.ddiv (FP.l2d t0) (FP.l2d v73))), .second, .val (.double (FP.l2d (q0 - (1 : Int64)))), .second, .unset, .unset]) rfl ?_
              refine XS.lload X97.here hx rfl (hb hby at_283) rfl ?_
              refine XS.lconst X97.here hx rfl (hb hby at_285) ?_
              show Steps p.tables e below (T97.setTop (mkF m 286 #[.val (.int p1), .val (.long q2), .second, .val (.int p3), .val (.int p4), .val (.long q5), .second, .val (.long q6), .second, .val (.int (p1 &&& (3 : Int32))), .val (.long q0), .second, .val (.long v73), .second, .val (.long r76), .second, .val (.long s0), .second, .val (.long t0), .second, .val (.ref b90), .val (.double (FP.ddiv (FP.l2d t0) (FP.l2d v73))), .second, .val (.double (FP.l2d (q0 - (1 : Int64)))), .second, .unset, .unset] [(.long (0 : Int64)), (.long v73)])) tg
              refine XS.lcmp X97.here hx rfl (hb hby at_286) rfl ?_
              refine XS.ifYes X97.here hx rfl (pc0 := 287) (pc' := 298) rfl (hb hby at_287) rfl (XT.ll_le_t hc267_103) (by decide) (by decide) ?_
              refine XS.lload X97.here hx rfl (hb hby at_298) rfl ?_
              refine XS.l2dS X97.here hx rfl (hb hby at_300) rfl rfl ?_
              show Steps p.tables e below (T97.setTop (mkF m 301 #[.val (.int p1), .val (.long q2), .second, .val (.int p3), .val (.int p4), .val (.long q5), .second, .val (.long q6), .second, .val (.int (p1 &&& (3 : Int32))), .val (.long q0), .second, .val (.long v73), .second, .val (.long r76), .second, .val (.long s0), .second, .val (.long t0), .second, .val (.ref b90), .val (.double (FP.ddiv (FP.l2d t0) (FP.l2d v73))), .second, .val (.double (FP.l2d (q0 - (1 : Int64)))), .second, .unset, .unset] [(.double (FP.l2d q0))])) tg
              refine XS.dstore X97.here hx rfl (hb hby at_301) rfl (l' := #[.val (.int p1), .val (.long q2), .second, .val (.int p3), .val (.int p4), .val (.long q5), .second, .val (.long q6), .second, .val (.int (p1 &&& (3 : Int32))), .val (.long q0), .second, .val (.long v73), .second, .val (.long r76), .second, .val (.long s0), .second, .val (.long t0), .second, .val (.ref b90), .val (.double (FP.ddiv (FP.l2d t0) (FP.l2d v73))), .second, .val (.double (FP.l2d (q0 - (1 : Int64)))), .second, .val (.double (FP.l2d q0)), .second]) rfl ?_
              refine XS.dload X97.here hx rfl (hb hby at_303) rfl ?_
              refine XS.dload X97.here hx rfl (hb hby at_305) rfl ?_
              exact kt
            have hv111 : Jvm.Op.cmpValue (FP.dcmp (FP.l2d (q0 - (1 : Int64))) (FP.ddiv (FP.l2d t0) (FP.l2d v73))) .g = (-1 : Int32) := M.lo2 hc245_98 hc267_103
            have st112 : ∀ tg, Steps p.tables e below (T97.setTop (mkF m 315 #[.val (.int p1), .val (.long q2), .second, .val (.int p3), .val (.int p4), .val (.long q5), .second, .val (.long q6), .second, .val (.int (p1 &&& (3 : Int32))), .val (.long q0), .second, .val (.long v73), .second, .val (.long r76), .second, .val (.long s0), .second, .val (.long t0), .second, .val (.ref b90), .val (.double (FP.ddiv (FP.l2d t0) (FP.l2d v73))), .second, .val (.double (FP.l2d (q0 - (1 : Int64)))), .second, .val (.double (FP.l2d q0)), .second] [(.double (FP.l2d q0)), (.double (FP.ddiv (FP.l2d t0) (FP.l2d v73)))])) tg → Steps p.tables e below (T97.setTop (mkF m 307 #[.val (.int p1), .val (.long q2), .second, .val (.int p3), .val (.int p4), .val (.long q5), .second, .val (.long q6), .second, .val (.int (p1 &&& (3 : Int32))), .val (.long q0), .second, .val (.long v73), .second, .val (.long r76), .second, .val (.long s0), .second, .val (.long t0), .second, .val (.ref b90), .val (.double (FP.ddiv (FP.l2d t0) (FP.l2d v73))), .second, .val (.double (FP.l2d (q0 - (1 : Int64)))), .second, .val (.double (FP.l2d q0)), .second] [(.double (FP.ddiv (FP.l2d t0) (FP.l2d v73))), (.double (FP.l2d (q0 - (1 : Int64))))])) tg := by
              intro tg kt
              refine XS.dcmpS X97.here hx rfl (hb hby at_307) rfl hv111 ?_
              refine XS.ifNo X97.here hx rfl (hb hby at_308) rfl (XT.i0_ge_f (by decide)) ?_
              refine XS.dload X97.here hx rfl (hb hby at_311) rfl ?_
              refine XS.dload X97.here hx rfl (hb hby at_313) rfl ?_
              exact kt
            have hv113 : Jvm.Op.cmpValue (FP.dcmp (FP.ddiv (FP.l2d t0) (FP.l2d v73)) (FP.l2d q0)) .g = (-1 : Int32) := M.hi2 hc245_98 hc267_103
            have st114 : ∀ tg, Steps p.tables e below (T97.setTop (mkF m 324 #[.val (.int p1), .val (.long q2), .second, .val (.int p3), .val (.int p4), .val (.long q5), .second, .val (.long q6), .second, .val (.int (p1 &&& (3 : Int32))), .val (.long q0), .second, .val (.long v73), .second, .val (.long r76), .second, .val (.long s0), .second, .val (.long t0), .second, .val (.ref b90), .val (.double (FP.ddiv (FP.l2d t0) (FP.l2d v73))), .second, .val (.double (FP.l2d (q0 - (1 : Int64)))), .second, .val (.double (FP.l2d q0)), .second] [(.int (1 : Int32))])) tg → Steps p.tables e below (T97.setTop (mkF m 315 #[.val (.int p1), .val (.long q2), .second, .val (.int p3), .val (.int p4), .val (.long q5), .second, .val (.long q6), .second, .val (.int (p1 &&& (3 : Int32))), .val (.long q0), .second, .val (.long v73), .second, .val (.long r76), .second, .val (.long s0), .second, .val (.long t0), .second, .val (.ref b90), .val (.double (FP.ddiv (FP.l2d t0) (FP.l2d v73))), .second, .val (.double (FP.l2d (q0 - (1 : Int64)))), .second, .val (.double (FP.l2d q0)), .second] [(.double (FP.l2d q0)), (.double (FP.ddiv (FP.l2d t0) (FP.l2d v73)))])) tg := by
              intro tg kt
              refine XS.dcmpS X97.here hx rfl (hb hby at_315) rfl hv113 ?_
              refine XS.ifNo X97.here hx rfl (hb hby at_316) rfl (XT.i0_ge_f (by decide)) ?_
              refine XS.iconst X97.here hx rfl (hb hby at_319) ?_
              refine XS.goto X97.here hx rfl (pc0 := 320) (pc' := 324) rfl (hb hby at_320) (by decide) (by decide) ?_
              exact kt
            obtain ⟨fs, hr, hrun, hended, hW, hsame⟩ := X97.leave (v := some (.int (1 : Int32))) (fun h => by rw [Bd.returns] at h; cases h)
            refine ⟨_, _, pre0 _ ?_, hrun, hended, _, _, rfl, ?_, ⟨_, rfl⟩, hW, hsame.mono (by decide) (by decide)⟩
            · refine st2 _ ?_
              refine st17 _ ?_
              refine st44 _ ?_
              refine st70 _ ?_
              refine st72 _ ?_
              refine st74 _ ?_
              refine st75 _ ?_
              show Steps p.tables e below (s₁.setTop (mkF m 182 #[.val (.int p1), .val (.long q2), .second, .val (.int p3), .val (.int p4), .val (.long q5), .second, .val (.long q6), .second, .val (.int (p1 &&& (3 : Int32))), .val (.long q0), .second, .val (.long v73), .second, .unset, .unset, .unset, .unset, .unset, .unset, .unset, .unset, .unset, .unset, .unset, .unset, .unset] [(.long v73)])) _
              refine st76 _ ?_
              refine st77 _ ?_
              refine st78 _ ?_
              refine st79 _ ?_
              refine st80 _ ?_
              show Steps p.tables e below (T76.setTop (mkF m 208 #[.val (.int p1), .val (.long q2), .second, .val (.int p3), .val (.int p4), .val (.long q5), .second, .val (.long q6), .second, .val (.int (p1 &&& (3 : Int32))), .val (.long q0), .second, .val (.long v73), .second, .val (.long r76), .second, .val (.long s0), .second, .val (.long t0), .second, .unset, .unset, .unset, .unset, .unset, .unset, .unset] [])) _
              refine st81 _ ?_
              refine st87 _ ?_
              show Steps p.tables e below (T81.setTop (mkF m 219 #[.val (.int p1), .val (.long q2), .second, .val (.int p3), .val (.int p4), .val (.long q5), .second, .val (.long q6), .second, .val (.int (p1 &&& (3 : Int32))), .val (.long q0), .second, .val (.long v73), .second, .val (.long r76), .second, .val (.long s0), .second, .val (.long t0), .second, .unset, .unset, .unset, .unset, .unset, .unset, .unset] [(.long t0), (.long q2), (.long q6), (.long v73), (.ref b81), (.ref b81)])) _
              refine st88.trans ?_
              show Steps p.tables e below (T88.setTop (mkF m 222 #[.val (.int p1), .val (.long q2), .second, .val (.int p3), .val (.int p4), .val (.long q5), .second, .val (.long q6), .second, .val (.int (p1 &&& (3 : Int32))), .val (.long q0), .second, .val (.long v73), .second, .val (.long r76), .second, .val (.long s0), .second, .val (.long t0), .second, .unset, .unset, .unset, .unset, .unset, .unset, .unset] [(.ref b81)])) _
              refine st90.trans ?_
              refine st96 _ ?_
              show Steps p.tables e below (T90.setTop (mkF m 236 #[.val (.int p1), .val (.long q2), .second, .val (.int p3), .val (.int p4), .val (.long q5), .second, .val (.long q6), .second, .val (.int (p1 &&& (3 : Int32))), .val (.long q0), .second, .val (.long v73), .second, .val (.long r76), .second, .val (.long s0), .second, .val (.long t0), .second, .val (.ref b90), .unset, .unset, .unset, .unset, .unset, .unset] [(.ref b90)])) _
              refine st97.trans ?_
              refine st99 _ ?_
              refine st104 _ ?_
              refine st110 _ ?_
              refine st112 _ ?_
              refine st114 _ ?_
              show Steps p.tables e below (T97.setTop (mkF m 324 #[.val (.int p1), .val (.long q2), .second, .val (.int p3), .val (.int p4), .val (.long q5), .second, .val (.long q6), .second, .val (.int (p1 &&& (3 : Int32))), .val (.long q0), .second, .val (.long v73), .second, .val (.long r76), .second, .val (.long s0), .second, .val (.long t0), .second, .val (.ref b90), .val (.double (FP.ddiv (FP.l2d t0) (FP.l2d v73))), .second, .val (.double (FP.l2d (q0 - (1 : Int64)))), .second, .val (.double (FP.l2d q0)), .second] [(.int (1 : Int32))])) _
              exact retN X97 hx (t := .boolean) Bd.returns (by simp) (hb hby at_324) hr
            · show Q0 Z p1 q2 p3 p4 q5 q6 h0 n0 _ T97.heap _
              rw [e97]
              exact ⟨rfl, N97⟩
set_option maxRecDepth 65536 in
set_option maxHeartbeats 40000000 in
theorem comes_1 {Post : Tables → Env → Array Value → State → Outcome → State → Prop} (hpost : ∀ tb e args s v u, (limb_1_1.after args s (.returned v) u = true ∧ limb_1_2.after args s (.returned v) u = true ∧ True) → FrameEnd s (.returned v) u (Jvm.fieldLocs frame_1_writes args s ++ Jvm.arrayLocs frame_1_arrays args s ++ Jvm.staticLocs frame_1_statics s) 16 128 → Post tb e args s (.returned v) u) :
    ArmFor flags0 classFile x code maxLocals ret World_1 tables_1 room_1 Calls_1 rest_1 Pre_1 Post := by
  intro l hfl _ _ p e ha hc hk s m args below hf hA hF happ hP
  obtain ⟨hcalls, hrest, hpre⟩ := hP
  obtain ⟨-, -, -, hnamed, -, -, -, hat⟩ := (Spec.applies_iff hf).mp happ
  obtain ⟨hg, hn⟩ := and_e (Cond.before_iff.mp (show (Jvm.Cond.and given_1 narrow_1).before args s = true from hpre))
  obtain ⟨k0, j0⟩ := and_e hg
  obtain ⟨k1, j1⟩ := and_e j0
  obtain ⟨k2, j2⟩ := and_e j1
  obtain ⟨k3, j3⟩ := and_e j2
  obtain ⟨k4, j4⟩ := and_e j3
  obtain ⟨k5, j5⟩ := and_e j4
  obtain ⟨w0, w1, w2, w3, w4, w5, rfl⟩ : ∃ w0 w1 w2 w3 w4 w5 : Value, args = #[w0, w1, w2, w3, w4, w5] := by
    have hs : args.size = 6 := by simpa [Cond.value, given_1] using k0
    obtain ⟨L⟩ := args
    match L, hs with
    | [w0, w1, w2, w3, w4, w5], _ => exact ⟨w0, w1, w2, w3, w4, w5, rfl⟩
  have hw := fun d (hd : d ∈ tables_1) => atoms_spec (ws := Jvm.Cond.code x code maxLocals ret :: tables_1) hat d (List.mem_cons_of_mem _ hd)
  have hfit : Fit s := fun {y c} hc i hi => by
    obtain ⟨ha, rfl⟩ := Array.getElem?_eq_some_iff.mp hc
    have q := List.all_eq_true.mp ((Array.all_eq_true_iff_forall_mem.mp hF) _ (Array.getElem_mem ha)) i (List.mem_range.mpr hi)
    simpa [Array.getElem?_eq_getElem hi] using q
  obtain ⟨i0, ei0⟩ := is_v k1
  obtain rfl : w0 = (.int i0) := Option.some.inj ei0
  obtain ⟨i1, ei1⟩ := isL_v k2
  obtain rfl : w1 = (.long i1) := Option.some.inj ei1
  obtain ⟨i2, ei2⟩ := is_v k3
  obtain rfl : w2 = (.int i2) := Option.some.inj ei2
  obtain ⟨i3, ei3⟩ := is_v k4
  obtain rfl : w3 = (.int i3) := Option.some.inj ei3
  obtain ⟨i4, ei4⟩ := isL_v k5
  obtain rfl : w4 = (.long i4) := Option.some.inj ei4
  obtain ⟨i5, ei5⟩ := isL_v j5
  obtain rfl : w5 = (.long i5) := Option.some.inj ei5
  obtain ⟨n, o, h1, h2, h3, _, L, rfl, ⟨rfl, N⟩, hq⟩ := rm0 l s _ hw tables_1 i0 i1 i2 i3 i4 i5 s.heap s.heap.size (Nat.le_refl _)  p e ha hc hk s m _ below hf ((Spec.applies_iff_loose hf).mp happ).1 ⟨rfl, State.Warmed39.refl s, rfl⟩ trivial
  refine ⟨n, _, h1, h2, h3, hpost _ _ _ _ _ _ ⟨Cond.after_iff.mpr rfl, Cond.after_iff.mpr (eq_i res_at (Term.int_eval (1)) rfl), trivial⟩ ⟨hq.1, hq.2.1, (hq.2.2.sift fun y hy => Or.inr (N y hy)).mono (by decide) (by decide)⟩⟩
theorem main_1_1 : Claimed_1_1 := comes_1 fun _ _ _ _ _ _ h hF => ⟨h.1, hF⟩
theorem main_1_2 : Claimed_1_2 := comes_1 fun _ _ _ _ _ _ h hF => ⟨h.2.1, hF⟩
end Jvm.Pilot.@@N@@
namespace Jvm.Pilot.@@N@@
open Jvm Jvm.ClassFile Sem Op Lib Jvm.Free Jvm.Stand Jvm.Pilot.@@N@@.Jvm.D
/-! MADE BY PROGRAM (witnessworld.py) out of the Statement's table words and the real class files: 16 classes; the members and pool entries that the words name. The judged class is class 1, her method 1. -/
namespace start1
open Jvm.ClassFile
def u (s : String) : CpInfo := .utf8 (stringToUtf16 s)
/-- a pool by its gaps: so many unusable entries, then the entry; so many at the end -/
def gap : Nat → List CpInfo → List CpInfo
  | 0, r => r
  | n + 1, r => .unusable :: gap n r
def poolList (es : List (Nat × CpInfo)) (last : Nat) : List CpInfo := es.foldr (fun e r => gap e.1 (e.2 :: r)) (gap last [])
def pool (es : List (Nat × CpInfo)) (last : Nat) : Array CpInfo := ⟨poolList es last⟩
def fileOf (pool : Array CpInfo) (this : Nat) (attrs : Array Attribute := #[]) (ms : Array MethodInfo := #[]) (fl : Nat := 33) (sup : Nat := 0) (ifs : Array Nat := #[]) (fds : Array FieldInfo := #[]) : ClassFile where
  minorVersion := 0
  majorVersion := 65
  constantPool := pool
  accessFlags := fl
  thisClass := this
  superClass := sup
  interfaces := ifs
  fields := fds
  methods := ms
  attributes := attrs
def plain (name : String) (sup : Option ClassId) : Class where
  name := name
  kind := .ordinary
  loader := none
  accessFlags := 33
  super := sup
  interfaces := #[]
  cf := none
  fields := #[]
  methods := #[]
  instanceTypes := #[]
  staticTypes := #[]
  resolved := #[]
  callSites := []
  init := .initialized
  statics := none
  mirror := none

def pool0 : Array CpInfo := pool [(5, u "<init>"), (0, u "()V"), (1, .class_ 10), (1, u "java/lang/Object")] 113

def k0c0 : Code := { maxStack := 0, maxLocals := 1, code := object_method_1_code, exceptionTable := #[], attributes := #[] }
def k0m0 : Method := { name := "<init>", desc := "()V", sig := { parameters := [], returnType := none }, accessFlags := 1, code := some k0c0 }
/-- java/lang/Object -/
def k0 : Class := { plain "java/lang/Object" none with
  accessFlags := 33
  interfaces := #[]
  cf := some (fileOf pool0 8 #[] #[{ accessFlags := 1, nameIndex := 5, descriptorIndex := 6, attributes := #[] }] 33 0 #[] #[])
  fields := #[]
  methods := #[k0m0]
  instanceTypes := #[]
  staticTypes := #[]
  resolved := Array.replicate 124 none
  statics := none }

def pool1 : Array CpInfo := pool [(2, .class_ 4), (1, u "java/lang/Object"), (0, u "<init>"), (0, u "()V"), (0, .class_ 8), (0, u "com/example/oriflamme/oriflamme/runtime/RunFigures"), (0, .methodref 7 10), (0, .nameAndType 5 11), (0, u "(JJJJ)V"), (0, .methodref 7 13), (0, .nameAndType 14 15), (0, u "averageDurationMs"), (0, u "()Ljava/lang/Double;"), (0, .methodref 17 18), (0, .class_ 19), (0, .nameAndType 20 21), (0, u "java/lang/Double"), (0, u "doubleValue"), (0, u "()D"), (0, .methodref 23 24), (0, .class_ 25), (0, .nameAndType 26 27), (0, u "java/lang/Math"), (0, u "abs"), (0, u "(J)J"), (0, .long 9223372036854775807), (1, .class_ 31), (0, u "com/example/oriflamme/oriflamme/runtime/RunFiguresAverageDurationMsPinLaw"), (2, u "law"), (0, u "(IJIIJJ)Z")] 3

def k1m0 : Method := { name := "<init>", desc := "()V", sig := { parameters := [], returnType := none }, accessFlags := 2, code := none }
def k1c1 : Code := { maxStack := 10, maxLocals := 27, code := code, exceptionTable := #[], attributes := #[] }
def k1m1 : Method := { name := "law", desc := "(IJIIJJ)Z", sig := { parameters := [.int, .long, .int, .int, .long, .long], returnType := some .boolean }, accessFlags := 9, code := some k1c1 }
/-- com/example/oriflamme/oriflamme/runtime/RunFiguresAverageDurationMsPinLaw -/
def k1 : Class := { plain "com/example/oriflamme/oriflamme/runtime/RunFiguresAverageDurationMsPinLaw" (some 0) with
  accessFlags := 49
  interfaces := #[]
  cf := some (fileOf pool1 30 #[] #[{ accessFlags := 2, nameIndex := 5, descriptorIndex := 6, attributes := #[] }, { accessFlags := 9, nameIndex := 34, descriptorIndex := 35, attributes := #[] }] 49 2 #[] #[])
  fields := #[]
  methods := #[k1m0, k1m1]
  instanceTypes := #[]
  staticTypes := #[]
  resolved := Array.replicate 39 none
  statics := none }

def pool2 : Array CpInfo := pool [(1, .methodref 2 3), (0, .class_ 4), (0, .nameAndType 5 6), (0, u "java/lang/Object"), (0, u "<init>"), (0, u "()V"), (0, .class_ 8), (0, u "java/lang/Record")] 13

def k2c0 : Code := { maxStack := 1, maxLocals := 1, code := jdk_30_method_1_code, exceptionTable := #[], attributes := #[] }
def k2m0 : Method := { name := "<init>", desc := "()V", sig := { parameters := [], returnType := none }, accessFlags := 4, code := some k2c0 }
/-- java/lang/Record -/
def k2 : Class := { plain "java/lang/Record" (some 0) with
  accessFlags := 1057
  interfaces := #[]
  cf := some (fileOf pool2 7 #[] #[{ accessFlags := 4, nameIndex := 5, descriptorIndex := 6, attributes := #[] }] 1057 2 #[] #[])
  fields := #[]
  methods := #[k2m0]
  instanceTypes := #[]
  staticTypes := #[]
  resolved := Array.replicate 22 none
  statics := none }

def pool3 : Array CpInfo := pool [(1, .methodref 2 3), (0, .class_ 4), (0, .nameAndType 5 6), (0, u "java/lang/Record"), (0, u "<init>"), (0, u "()V"), (0, .fieldref 8 9), (0, .class_ 10), (0, .nameAndType 11 12), (0, u "com/example/oriflamme/oriflamme/runtime/RunFigures"), (0, u "runs"), (0, u "J"), (0, .fieldref 8 14), (0, .nameAndType 15 12), (0, u "succeeded"), (0, .fieldref 8 17), (0, .nameAndType 18 12), (0, u "failed"), (0, .fieldref 8 20), (0, .nameAndType 21 12), (0, u "totalDurationMs"), (24, u "(JJJJ)V"), (0, .methodref 48 49), (0, .class_ 50), (0, .nameAndType 51 52), (0, u "java/lang/Double"), (0, u "valueOf"), (0, u "(D)Ljava/lang/Double;"), (1, .class_ 56), (1, u "com/example/oriflamme/oriflamme/runtime/RunFigures$Health"), (0, u "NONE"), (30, u "Lcom/example/oriflamme/oriflamme/runtime/RunFigures;"), (7, u "()Ljava/lang/Double;"), (0, u "averageDurationMs")] 32

def k3c0 : Code := { maxStack := 3, maxLocals := 9, code := prog_71_method_1_code, exceptionTable := #[], attributes := #[] }
def k3m0 : Method := { name := "<init>", desc := "(JJJJ)V", sig := { parameters := [.long, .long, .long, .long], returnType := none }, accessFlags := 1, code := some k3c0 }
def k3c1 : Code := { maxStack := 4, maxLocals := 1, code := prog_71_method_4_code, exceptionTable := #[], attributes := #[] }
def k3m1 : Method := { name := "averageDurationMs", desc := "()Ljava/lang/Double;", sig := { parameters := [], returnType := some (.object "java/lang/Double") }, accessFlags := 1, code := some k3c1 }
/-- com/example/oriflamme/oriflamme/runtime/RunFigures -/
def k3 : Class := { plain "com/example/oriflamme/oriflamme/runtime/RunFigures" (some 2) with
  accessFlags := 49
  interfaces := #[]
  cf := some (fileOf pool3 8 #[.nestMembers #[54]] #[{ accessFlags := 1, nameIndex := 5, descriptorIndex := 46, attributes := #[] }, { accessFlags := 1, nameIndex := 97, descriptorIndex := 96, attributes := #[] }] 49 2 #[] #[{ accessFlags := 18, nameIndex := 11, descriptorIndex := 12, attributes := #[] }, { accessFlags := 18, nameIndex := 15, descriptorIndex := 12, attributes := #[] }, { accessFlags := 18, nameIndex := 18, descriptorIndex := 12, attributes := #[] }, { accessFlags := 18, nameIndex := 21, descriptorIndex := 12, attributes := #[] }, { accessFlags := 25, nameIndex := 57, descriptorIndex := 88, attributes := #[] }])
  fields := #[{ name := "runs", type := .long, accessFlags := 18, slot := 0, constantValue := 0 }, { name := "succeeded", type := .long, accessFlags := 18, slot := 1, constantValue := 0 }, { name := "failed", type := .long, accessFlags := 18, slot := 2, constantValue := 0 }, { name := "totalDurationMs", type := .long, accessFlags := 18, slot := 3, constantValue := 0 }, { name := "NONE", type := (.object "com/example/oriflamme/oriflamme/runtime/RunFigures"), accessFlags := 25, slot := 0, constantValue := 0 }]
  methods := #[k3m0, k3m1]
  instanceTypes := #[.long, .long, .long, .long]
  staticTypes := #[(.object "com/example/oriflamme/oriflamme/runtime/RunFigures")]
  resolved := Array.replicate 130 none
  statics := none }

def pool4 : Array CpInfo := pool [(1, .class_ 2), (0, u "java/io/Serializable"), (0, .class_ 4), (0, u "java/lang/Object")] 2

/-- java/io/Serializable -/
def k4 : Class := { plain "java/io/Serializable" (some 0) with
  accessFlags := 1537
  interfaces := #[]
  cf := some (fileOf pool4 1 #[] #[] 1537 3 #[] #[])
  fields := #[]
  methods := #[]
  instanceTypes := #[]
  staticTypes := #[]
  resolved := Array.replicate 7 none
  statics := none }

def pool5 : Array CpInfo := pool [(1, .methodref 2 3), (0, .class_ 4), (0, .nameAndType 5 6), (0, u "java/lang/Object"), (0, u "<init>"), (0, u "()V"), (1, .class_ 10), (1, u "java/lang/Number"), (2, .class_ 14), (0, u "java/io/Serializable"), (0, u "serialVersionUID"), (0, u "J")] 20

def k5c0 : Code := { maxStack := 1, maxLocals := 1, code := jdk_18_method_1_code, exceptionTable := #[], attributes := #[] }
def k5m0 : Method := { name := "<init>", desc := "()V", sig := { parameters := [], returnType := none }, accessFlags := 1, code := some k5c0 }
/-- java/lang/Number -/
def k5 : Class := { plain "java/lang/Number" (some 0) with
  accessFlags := 1057
  interfaces := #[4]
  cf := some (fileOf pool5 8 #[] #[{ accessFlags := 1, nameIndex := 5, descriptorIndex := 6, attributes := #[] }] 1057 2 #[13] #[{ accessFlags := 26, nameIndex := 15, descriptorIndex := 16, attributes := #[] }])
  fields := #[{ name := "serialVersionUID", type := .long, accessFlags := 26, slot := 0, constantValue := 0 }]
  methods := #[k5m0]
  instanceTypes := #[]
  staticTypes := #[.long]
  resolved := Array.replicate 37 none
  statics := none }

def pool6 : Array CpInfo := pool [(1, .class_ 2), (0, u "java/lang/Comparable"), (0, .class_ 4), (0, u "java/lang/Object")] 7

/-- java/lang/Comparable -/
def k6 : Class := { plain "java/lang/Comparable" (some 0) with
  accessFlags := 1537
  interfaces := #[]
  cf := some (fileOf pool6 1 #[] #[] 1537 3 #[] #[])
  fields := #[]
  methods := #[]
  instanceTypes := #[]
  staticTypes := #[]
  resolved := Array.replicate 12 none
  statics := none }

def pool7 : Array CpInfo := pool [(1, .class_ 2), (0, u "java/lang/constant/Constable"), (0, .class_ 4), (0, u "java/lang/Object")] 6

/-- java/lang/constant/Constable -/
def k7 : Class := { plain "java/lang/constant/Constable" (some 0) with
  accessFlags := 1537
  interfaces := #[]
  cf := some (fileOf pool7 1 #[] #[] 1537 3 #[] #[])
  fields := #[]
  methods := #[]
  instanceTypes := #[]
  staticTypes := #[]
  resolved := Array.replicate 11 none
  statics := none }

def pool8 : Array CpInfo := pool [(1, .class_ 2), (0, u "java/lang/constant/ConstantDesc"), (0, .class_ 4), (0, u "java/lang/Object")] 32

/-- java/lang/constant/ConstantDesc -/
def k8 : Class := { plain "java/lang/constant/ConstantDesc" (some 0) with
  accessFlags := 1537
  interfaces := #[]
  cf := some (fileOf pool8 1 #[] #[] 1537 3 #[] #[])
  fields := #[]
  methods := #[]
  instanceTypes := #[]
  staticTypes := #[]
  resolved := Array.replicate 37 none
  statics := none }

def pool9 : Array CpInfo := pool [(1, .class_ 2), (0, u "java/lang/Double"), (17, u "<init>"), (84, .methodref 1 106), (0, .nameAndType 20 107), (0, u "(D)V"), (5, .methodref 114 115), (0, .class_ 116), (0, .nameAndType 20 117), (0, u "java/lang/Number"), (0, u "()V"), (0, .fieldref 1 119), (0, .nameAndType 120 121), (0, u "value"), (0, u "D"), (51, u "TYPE"), (0, u "Ljava/lang/Class;"), (0, .class_ 176), (0, u "java/lang/Comparable"), (0, .class_ 178), (0, u "java/lang/constant/Constable"), (0, .class_ 180), (0, u "java/lang/constant/ConstantDesc"), (0, u "POSITIVE_INFINITY"), (3, u "NEGATIVE_INFINITY"), (2, u "NaN"), (2, u "MAX_VALUE"), (0, u "MIN_NORMAL"), (0, u "MIN_VALUE"), (2, u "SIZE"), (0, u "I"), (1, u "PRECISION"), (1, u "MAX_EXPONENT"), (1, u "MIN_EXPONENT"), (1, u "BYTES"), (3, u "serialVersionUID"), (0, u "J"), (14, u "valueOf"), (5, u "(D)Ljava/lang/Double;"), (23, u "doubleValue"), (0, u "()D")] 33

def k9c0 : Code := { maxStack := 4, maxLocals := 2, code := jdk_117_method_4_code, exceptionTable := #[], attributes := #[] }
def k9m0 : Method := { name := "valueOf", desc := "(D)Ljava/lang/Double;", sig := { parameters := [.double], returnType := some (.object "java/lang/Double") }, accessFlags := 9, code := some k9c0 }
def k9c1 : Code := { maxStack := 3, maxLocals := 3, code := jdk_117_method_9_code, exceptionTable := #[], attributes := #[] }
def k9m1 : Method := { name := "<init>", desc := "(D)V", sig := { parameters := [.double], returnType := none }, accessFlags := 1, code := some k9c1 }
def k9c2 : Code := { maxStack := 2, maxLocals := 1, code := jdk_117_method_19_code, exceptionTable := #[], attributes := #[] }
def k9m2 : Method := { name := "doubleValue", desc := "()D", sig := { parameters := [], returnType := some .double }, accessFlags := 1, code := some k9c2 }
/-- java/lang/Double -/
def k9 : Class := { plain "java/lang/Double" (some 5) with
  accessFlags := 49
  interfaces := #[6, 7, 8]
  cf := some (fileOf pool9 1 #[] #[{ accessFlags := 9, nameIndex := 225, descriptorIndex := 231, attributes := #[] }, { accessFlags := 1, nameIndex := 20, descriptorIndex := 107, attributes := #[] }, { accessFlags := 1, nameIndex := 255, descriptorIndex := 256, attributes := #[] }] 49 114 #[175, 177, 179] #[{ accessFlags := 25, nameIndex := 181, descriptorIndex := 121, attributes := #[] }, { accessFlags := 25, nameIndex := 185, descriptorIndex := 121, attributes := #[] }, { accessFlags := 25, nameIndex := 188, descriptorIndex := 121, attributes := #[] }, { accessFlags := 25, nameIndex := 191, descriptorIndex := 121, attributes := #[] }, { accessFlags := 25, nameIndex := 192, descriptorIndex := 121, attributes := #[] }, { accessFlags := 25, nameIndex := 193, descriptorIndex := 121, attributes := #[] }, { accessFlags := 25, nameIndex := 196, descriptorIndex := 197, attributes := #[] }, { accessFlags := 25, nameIndex := 199, descriptorIndex := 197, attributes := #[] }, { accessFlags := 25, nameIndex := 201, descriptorIndex := 197, attributes := #[] }, { accessFlags := 25, nameIndex := 203, descriptorIndex := 197, attributes := #[] }, { accessFlags := 25, nameIndex := 205, descriptorIndex := 197, attributes := #[] }, { accessFlags := 25, nameIndex := 173, descriptorIndex := 174, attributes := #[] }, { accessFlags := 18, nameIndex := 120, descriptorIndex := 121, attributes := #[] }, { accessFlags := 26, nameIndex := 209, descriptorIndex := 210, attributes := #[] }])
  fields := #[{ name := "POSITIVE_INFINITY", type := .double, accessFlags := 25, slot := 0, constantValue := 0 }, { name := "NEGATIVE_INFINITY", type := .double, accessFlags := 25, slot := 1, constantValue := 0 }, { name := "NaN", type := .double, accessFlags := 25, slot := 2, constantValue := 0 }, { name := "MAX_VALUE", type := .double, accessFlags := 25, slot := 3, constantValue := 0 }, { name := "MIN_NORMAL", type := .double, accessFlags := 25, slot := 4, constantValue := 0 }, { name := "MIN_VALUE", type := .double, accessFlags := 25, slot := 5, constantValue := 0 }, { name := "SIZE", type := .int, accessFlags := 25, slot := 6, constantValue := 0 }, { name := "PRECISION", type := .int, accessFlags := 25, slot := 7, constantValue := 0 }, { name := "MAX_EXPONENT", type := .int, accessFlags := 25, slot := 8, constantValue := 0 }, { name := "MIN_EXPONENT", type := .int, accessFlags := 25, slot := 9, constantValue := 0 }, { name := "BYTES", type := .int, accessFlags := 25, slot := 10, constantValue := 0 }, { name := "TYPE", type := (.object "java/lang/Class"), accessFlags := 25, slot := 11, constantValue := 0 }, { name := "value", type := .double, accessFlags := 18, slot := 0, constantValue := 0 }, { name := "serialVersionUID", type := .long, accessFlags := 26, slot := 12, constantValue := 0 }]
  methods := #[k9m0, k9m1, k9m2]
  instanceTypes := #[.double]
  staticTypes := #[.double, .double, .double, .double, .double, .double, .int, .int, .int, .int, .int, (.object "java/lang/Class"), .long]
  resolved := Array.replicate 290 none
  statics := none }

def pool10 : Array CpInfo := pool [(1, .class_ 2), (0, u "java/lang/Math"), (1, .class_ 6), (1, u "java/lang/Object"), (0, u "<init>"), (0, u "()V"), (89, .class_ 100), (1, u "java/lang/Math$RandomNumberGeneratorHolder"), (23, u "abs"), (0, u "(J)J"), (46, u "negativeZeroFloatBits"), (0, u "J"), (2, u "negativeZeroDoubleBits"), (68, u "$assertionsDisabled"), (0, u "Z"), (91, u "twoToTheDoubleScaleDown"), (0, u "D"), (4, u "twoToTheDoubleScaleUp"), (9, u "E"), (3, u "PI"), (2, u "TAU"), (2, u "DEGREES_TO_RADIANS"), (0, u "RADIANS_TO_DEGREES")] 94

def k10m0 : Method := { name := "<init>", desc := "()V", sig := { parameters := [], returnType := none }, accessFlags := 2, code := none }
def k10c1 : Code := { maxStack := 4, maxLocals := 2, code := jdk_29_method_61_code, exceptionTable := #[], attributes := #[] }
def k10m1 : Method := { name := "abs", desc := "(J)J", sig := { parameters := [.long], returnType := some .long }, accessFlags := 9, code := some k10c1 }
/-- java/lang/Math -/
def k10 : Class := { plain "java/lang/Math" (some 0) with
  accessFlags := 49
  interfaces := #[]
  cf := some (fileOf pool10 1 #[.nestMembers #[98]] #[{ accessFlags := 2, nameIndex := 7, descriptorIndex := 8, attributes := #[] }, { accessFlags := 9, nameIndex := 124, descriptorIndex := 125, attributes := #[] }] 49 4 #[] #[{ accessFlags := 25, nameIndex := 354, descriptorIndex := 339, attributes := #[] }, { accessFlags := 25, nameIndex := 358, descriptorIndex := 339, attributes := #[] }, { accessFlags := 25, nameIndex := 361, descriptorIndex := 339, attributes := #[] }, { accessFlags := 26, nameIndex := 364, descriptorIndex := 339, attributes := #[] }, { accessFlags := 26, nameIndex := 365, descriptorIndex := 339, attributes := #[] }, { accessFlags := 26, nameIndex := 172, descriptorIndex := 173, attributes := #[] }, { accessFlags := 26, nameIndex := 176, descriptorIndex := 173, attributes := #[] }, { accessFlags := 8, nameIndex := 344, descriptorIndex := 339, attributes := #[] }, { accessFlags := 8, nameIndex := 338, descriptorIndex := 339, attributes := #[] }, { accessFlags := 4120, nameIndex := 245, descriptorIndex := 246, attributes := #[] }])
  fields := #[{ name := "E", type := .double, accessFlags := 25, slot := 0, constantValue := 0 }, { name := "PI", type := .double, accessFlags := 25, slot := 1, constantValue := 0 }, { name := "TAU", type := .double, accessFlags := 25, slot := 2, constantValue := 0 }, { name := "DEGREES_TO_RADIANS", type := .double, accessFlags := 26, slot := 3, constantValue := 0 }, { name := "RADIANS_TO_DEGREES", type := .double, accessFlags := 26, slot := 4, constantValue := 0 }, { name := "negativeZeroFloatBits", type := .long, accessFlags := 26, slot := 5, constantValue := 0 }, { name := "negativeZeroDoubleBits", type := .long, accessFlags := 26, slot := 6, constantValue := 0 }, { name := "twoToTheDoubleScaleUp", type := .double, accessFlags := 8, slot := 7, constantValue := 0 }, { name := "twoToTheDoubleScaleDown", type := .double, accessFlags := 8, slot := 8, constantValue := 0 }, { name := "$assertionsDisabled", type := .boolean, accessFlags := 4120, slot := 9, constantValue := 0 }]
  methods := #[k10m0, k10m1]
  instanceTypes := #[]
  staticTypes := #[.double, .double, .double, .double, .double, .long, .long, .double, .double, .boolean]
  resolved := Array.replicate 460 none
  statics := none }

def pool11 : Array CpInfo := pool [(1, u "java/lang/Cloneable"), (0, .class_ 1), (0, u "java/lang/Object"), (0, .class_ 3)] 3

/-- java/lang/Cloneable -/
def k11 : Class := { plain "java/lang/Cloneable" (some 0) with
  accessFlags := 1537
  interfaces := #[]
  cf := some (fileOf pool11 2 #[] #[] 1537 4 #[] #[])
  fields := #[]
  methods := #[]
  instanceTypes := #[]
  staticTypes := #[]
  resolved := Array.replicate 8 none
  statics := none }

/-- the primitive byte -/
def k12 : Class := { plain "byte" none with kind := .primitive 'B', accessFlags := 0x411 }
/-- [B -/
def k13 : Class := { plain "[B" (some 0) with kind := .array 12 .byte, interfaces := #[11, 4], accessFlags := 1041 }

/-- the primitive int -/
def k14 : Class := { plain "int" none with kind := .primitive 'I', accessFlags := 0x411 }
/-- [I -/
def k15 : Class := { plain "[I" (some 0) with kind := .array 14 .int, interfaces := #[11, 4], accessFlags := 1041 }

def heap : Heap := #[]
def classes : Array Class := #[k0, k1, k2, k3, k4, k5, k6, k7, k8, k9, k10, k11, k12, k13, k14, k15]
def interned : List (Array UInt16 × Addr) := []
def slotsUsed : Nat := 0
def theMethod : MethodId := ⟨1, 1⟩
def args0 : Array Value := #[.int 2, .long 1, .int 5, .int 3, .long 1, .long 1]
def aboutOver (below : List Frame) : State where
  vm := { classes := classes, interned := interned.toArray }
  heap := heap
  slotsUsed := slotsUsed
  threads := #[{ frames := .invoking theMethod args0 :: below }]
def below0 : List Frame := [.native { method := ⟨0, 0⟩, args := #[] }]
def about1 : State := aboutOver below0
def p0 : Program := .bare "" "" ""
def e0 : Env := launch0.env 0 0 0
theorem w_frames : about1.frames = Frame.invoking theMethod args0 :: below0 := rfl
set_option maxRecDepth 65536 in
theorem w_args : argsFit about1.vm theMethod args0 = true := by decide +kernel
set_option maxRecDepth 65536 in
theorem w_heap : heapFits about1 = true := by decide +kernel
set_option maxRecDepth 65536 in
theorem w_runnable : about1.curStatus? = some .runnable := by decide +kernel
set_option maxRecDepth 65536 in
theorem w_alone : about1.alone = true := by decide +kernel
set_option maxRecDepth 65536 in
theorem w_named : about1.methodNamed? x = some theMethod := by decide +kernel
set_option maxRecDepth 65536 in
theorem w_hears : about1.hears theMethod below0 = true := by decide +kernel
set_option maxRecDepth 65536 in
theorem w_ripe : about1.ripe theMethod args0 below0 = true := by decide +kernel
theorem w_running : about1.status = .running := rfl
set_option maxRecDepth 65536 in
theorem w_room : about1.hasRoom e0.platform room_1 = true :=
  launch0.hasRoom_least _ room_1 (by decide +kernel) (by decide +kernel) (by decide +kernel) (by decide +kernel) (by decide +kernel) (by decide +kernel)
theorem allAtoms_all (ts : List Jvm.Cond) (a : Array Jvm.Value) (st : Jvm.State) : (allAtoms ts).before a st = ts.all (fun c => c.before a st) := by
  induction ts with
  | nil => rfl
  | cons c t ih =>
    show (Jvm.Cond.and c (allAtoms t)).before a st = _
    rw [Jvm.Cond.before_and, ih, List.all_cons]
def words1 : List Jvm.Cond := Jvm.Cond.code x code maxLocals ret :: tables_1
/-- a 'code' word, met by the world's own term for the bytes: nothing is compared byte by byte -/
theorem code_word {y : MethodName} {bytes : ByteArray} {mx : Nat} {rt : Option FieldType} {a : Array Value} {s : State} {m : MethodId} {meth : Method} {c : Code} (h1 : s.methodNamed? y = some m) (h2 : s.vm.method? m = some meth) (h3 : meth.code = some c) (h4 : c.code = bytes)
    (h5 : (c.maxLocals == mx && c.exceptionTable.isEmpty && decide (c.maxStack ≤ mostOperands) && decide (meth.sig.returnType = rt) && !meth.locks && decide (parseMethodDescriptor y.desc = some meth.sig)) = true) : (Jvm.Cond.code y bytes mx rt).before a s = true := by
  simp only [Bool.and_eq_true, beq_iff_eq, Bool.not_eq_true', decide_eq_true_eq] at h5
  obtain ⟨⟨⟨⟨⟨g1, g2⟩, g3⟩, g4⟩, g5⟩, g6⟩ := h5
  simp [Cond.before, Cond.holds, Cond.value, h1, h2, h3, h4, g1, g2, g3, g4, g5, g6]
def isCode : Jvm.Cond → Bool
  | .code _ _ _ _ => true
  | _ => false
theorem all_split {L : List Jvm.Cond} {P : Jvm.Cond → Bool} (h1 : L.all (fun c => isCode c || P c) = true) (h2 : ∀ c ∈ L.filter isCode, P c = true) : L.all P = true := by
  refine List.all_eq_true.mpr fun c hc => ?_
  have h := List.all_eq_true.mp h1 c hc
  rcases Bool.eq_false_or_eq_true (isCode c) with hi | hi
  · exact h2 c (List.mem_filter.mpr ⟨hc, hi⟩)
  · simpa [hi] using h
set_option maxRecDepth 65536 in
theorem w_c0 : (Jvm.Cond.code x code maxLocals ret).before args0 about1 = true := code_word (m := ⟨1, 1⟩) (meth := k1m1) (c := k1c1) (by decide +kernel) rfl rfl rfl (by decide +kernel)
set_option maxRecDepth 65536 in
theorem w_c1 : (Jvm.Cond.code ({ cls := "com/example/oriflamme/oriflamme/runtime/RunFigures", name := "<init>", desc := "(JJJJ)V" } : Jvm.MethodName) prog_71_method_1_code (9 : Nat) (Option.none : Option Jvm.ClassFile.FieldType)).before args0 about1 = true := code_word (m := ⟨3, 0⟩) (meth := k3m0) (c := k3c0) (by decide +kernel) rfl rfl rfl (by decide +kernel)
set_option maxRecDepth 65536 in
theorem w_c2 : (Jvm.Cond.code ({ cls := "java/lang/Record", name := "<init>", desc := "()V" } : Jvm.MethodName) jdk_30_method_1_code (1 : Nat) (Option.none : Option Jvm.ClassFile.FieldType)).before args0 about1 = true := code_word (m := ⟨2, 0⟩) (meth := k2m0) (c := k2c0) (by decide +kernel) rfl rfl rfl (by decide +kernel)
set_option maxRecDepth 65536 in
theorem w_c3 : (Jvm.Cond.code ({ cls := "java/lang/Object", name := "<init>", desc := "()V" } : Jvm.MethodName) object_method_1_code (1 : Nat) (Option.none : Option Jvm.ClassFile.FieldType)).before args0 about1 = true := code_word (m := ⟨0, 0⟩) (meth := k0m0) (c := k0c0) (by decide +kernel) rfl rfl rfl (by decide +kernel)
set_option maxRecDepth 65536 in
theorem w_c4 : (Jvm.Cond.code ({ cls := "com/example/oriflamme/oriflamme/runtime/RunFigures", name := "averageDurationMs", desc := "()Ljava/lang/Double;" } : Jvm.MethodName) prog_71_method_4_code (1 : Nat) (Option.some (Jvm.ClassFile.FieldType.object "java/lang/Double"))).before args0 about1 = true := code_word (m := ⟨3, 1⟩) (meth := k3m1) (c := k3c1) (by decide +kernel) rfl rfl rfl (by decide +kernel)
set_option maxRecDepth 65536 in
theorem w_c5 : (Jvm.Cond.code ({ cls := "java/lang/Double", name := "valueOf", desc := "(D)Ljava/lang/Double;" } : Jvm.MethodName) jdk_117_method_4_code (2 : Nat) (Option.some (Jvm.ClassFile.FieldType.object "java/lang/Double"))).before args0 about1 = true := code_word (m := ⟨9, 0⟩) (meth := k9m0) (c := k9c0) (by decide +kernel) rfl rfl rfl (by decide +kernel)
set_option maxRecDepth 65536 in
theorem w_c6 : (Jvm.Cond.code ({ cls := "java/lang/Double", name := "<init>", desc := "(D)V" } : Jvm.MethodName) jdk_117_method_9_code (3 : Nat) (Option.none : Option Jvm.ClassFile.FieldType)).before args0 about1 = true := code_word (m := ⟨9, 1⟩) (meth := k9m1) (c := k9c1) (by decide +kernel) rfl rfl rfl (by decide +kernel)
set_option maxRecDepth 65536 in
theorem w_c7 : (Jvm.Cond.code ({ cls := "java/lang/Number", name := "<init>", desc := "()V" } : Jvm.MethodName) jdk_18_method_1_code (1 : Nat) (Option.none : Option Jvm.ClassFile.FieldType)).before args0 about1 = true := code_word (m := ⟨5, 0⟩) (meth := k5m0) (c := k5c0) (by decide +kernel) rfl rfl rfl (by decide +kernel)
set_option maxRecDepth 65536 in
theorem w_c8 : (Jvm.Cond.code ({ cls := "java/lang/Double", name := "doubleValue", desc := "()D" } : Jvm.MethodName) jdk_117_method_19_code (1 : Nat) (Option.some Jvm.ClassFile.FieldType.double)).before args0 about1 = true := code_word (m := ⟨9, 2⟩) (meth := k9m2) (c := k9c2) (by decide +kernel) rfl rfl rfl (by decide +kernel)
set_option maxRecDepth 65536 in
theorem w_c9 : (Jvm.Cond.code ({ cls := "java/lang/Math", name := "abs", desc := "(J)J" } : Jvm.MethodName) jdk_29_method_61_code (2 : Nat) (Option.some Jvm.ClassFile.FieldType.long)).before args0 about1 = true := code_word (m := ⟨10, 1⟩) (meth := k10m1) (c := k10c1) (by decide +kernel) rfl rfl rfl (by decide +kernel)
def codes1 : List Jvm.Cond := [Jvm.Cond.code x code maxLocals ret, Jvm.Cond.code ({ cls := "com/example/oriflamme/oriflamme/runtime/RunFigures", name := "<init>", desc := "(JJJJ)V" } : Jvm.MethodName) prog_71_method_1_code (9 : Nat) (Option.none : Option Jvm.ClassFile.FieldType), Jvm.Cond.code ({ cls := "java/lang/Record", name := "<init>", desc := "()V" } : Jvm.MethodName) jdk_30_method_1_code (1 : Nat) (Option.none : Option Jvm.ClassFile.FieldType), Jvm.Cond.code ({ cls := "java/lang/Object", name := "<init>", desc := "()V" } : Jvm.MethodName) object_method_1_code (1 : Nat) (Option.none : Option Jvm.ClassFile.FieldType), Jvm.Cond.code ({ cls := "com/example/oriflamme/oriflamme/runtime/RunFigures", name := "averageDurationMs", desc := "()Ljava/lang/Double;" } : Jvm.MethodName) prog_71_method_4_code (1 : Nat) (Option.some (Jvm.ClassFile.FieldType.object "java/lang/Double")), Jvm.Cond.code ({ cls := "java/lang/Double", name := "valueOf", desc := "(D)Ljava/lang/Double;" } : Jvm.MethodName) jdk_117_method_4_code (2 : Nat) (Option.some (Jvm.ClassFile.FieldType.object "java/lang/Double")), Jvm.Cond.code ({ cls := "java/lang/Double", name := "<init>", desc := "(D)V" } : Jvm.MethodName) jdk_117_method_9_code (3 : Nat) (Option.none : Option Jvm.ClassFile.FieldType), Jvm.Cond.code ({ cls := "java/lang/Number", name := "<init>", desc := "()V" } : Jvm.MethodName) jdk_18_method_1_code (1 : Nat) (Option.none : Option Jvm.ClassFile.FieldType), Jvm.Cond.code ({ cls := "java/lang/Double", name := "doubleValue", desc := "()D" } : Jvm.MethodName) jdk_117_method_19_code (1 : Nat) (Option.some Jvm.ClassFile.FieldType.double), Jvm.Cond.code ({ cls := "java/lang/Math", name := "abs", desc := "(J)J" } : Jvm.MethodName) jdk_29_method_61_code (2 : Nat) (Option.some Jvm.ClassFile.FieldType.long)]
set_option maxRecDepth 65536 in
theorem codes_eq : words1.filter isCode = codes1 := rfl
theorem w_codes : ∀ c ∈ words1.filter isCode, c.before args0 about1 = true := by
  rw [codes_eq]
  intro c hc
  simp only [codes1, List.mem_cons, List.not_mem_nil, or_false] at hc
  rcases hc with rfl | rfl | rfl | rfl | rfl | rfl | rfl | rfl | rfl | rfl
  · exact w_c0
  · exact w_c1
  · exact w_c2
  · exact w_c3
  · exact w_c4
  · exact w_c5
  · exact w_c6
  · exact w_c7
  · exact w_c8
  · exact w_c9
set_option maxRecDepth 65536 in
theorem w_t1 : (words1.take 24).all (fun c => isCode c || c.before args0 about1) = true := by decide +kernel
set_option maxRecDepth 65536 in
theorem w_t2 : ((words1.drop 24).take 24).all (fun c => isCode c || c.before args0 about1) = true := by decide +kernel
set_option maxRecDepth 65536 in
theorem w_t3 : ((words1.drop 24).drop 24).all (fun c => isCode c || c.before args0 about1) = true := by decide +kernel
theorem w_tables : (allAtoms (Jvm.Cond.code x code maxLocals ret :: tables_1)).before args0 about1 = true := by
  rw [allAtoms_all]
  show words1.all (fun c => c.before args0 about1) = true
  refine all_split ?_ w_codes
  rw [← List.take_append_drop 24 words1, List.all_append, w_t1, ← List.take_append_drop 24 (words1.drop 24), List.all_append, w_t2, w_t3]
  rfl
set_option maxRecDepth 65536 in
theorem w_case : (Jvm.Cond.and given_1 narrow_1).before args0 about1 = true := by decide +kernel
theorem w_applies : (headSpec (Jvm.Cond.code x code maxLocals ret :: tables_1) room_1).applies x e0.platform about1 = true :=
  (Spec.applies_iff w_frames).mpr ⟨w_running, w_runnable, w_alone, w_named, w_hears, w_ripe, w_room, w_tables⟩
theorem atStart : AtStart classFile x code maxLocals ret World_1 tables_1 room_1 Calls_1 rest_1 Pre_1 launch0 p0 e0 about1 theMethod args0 below0 :=
  ⟨lists_1, trivial, launch0.admits_env _ _ _, launch0.least_env, fairChoices_fair.cas, fairChoices_fair.clock, w_frames, w_args, w_heap, w_applies, trivial, trivial, w_case⟩
end start1
theorem witness_1 : WitnessClaimed_1 := ⟨start1.p0, start1.e0, start1.about1, start1.theMethod, start1.args0, start1.below0, start1.atStart⟩
end Jvm.Pilot.@@N@@
