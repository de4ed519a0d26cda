import JvmDerived
import JvmDerived.Pilot.@@N@@Statement
import JvmDerived.Pilot.@@N@@Code
set_option linter.unusedVariables false
set_option linter.unusedSimpArgs false
namespace Jvm.RoadKit
open Sem ClassFile Op Lib Jvm.Stand Jvm.Free Jvm.LawKit
section New
variable {p : Program} {l : Launch} {e : Env} {R : Room} {s : State} {m : MethodId} {args : Array Value} {below : List Frame} {meth : Method} {c : Code} {T : State} {locs : List Loc} {cells slots : Nat}
theorem retI (X : Stand p l e R s m args below meth c T locs cells slots) (hx : p.tables.exec = Jvm.exec) {pc : Nat} {Ls : Array Slot} {z : Int32} {rest : List Value} (hret : meth.sig.returnType = some .int) (hd : decode c.code pc = .ok (.ireturn, 1)) {fs : List Frame}
    (hl : ∀ (f : JFrame) (acts : List Action), f.method = m → f.locked = none → f.entered = [] → (doReturn e (T.setTop f) acts (some (.int z))).1 = T.setFrames fs) : Steps p.tables e below (T.setTop (mkF m pc Ls (.int z :: rest))) (T.setFrames fs) :=
  retOut X hx hret rfl (Or.inl ⟨rfl, Or.inl rfl, z, rfl⟩) hd hl
end New
end Jvm.RoadKit
namespace Jvm.Pilot.@@N@@
open Jvm Jvm.ClassFile Sem Op Lib Jvm.Free Jvm.Stand Jvm.LawKit Jvm.RoadKit Bundle Jvm.Pilot.@@N@@.Jvm.D
theorem pd_0 : parseMethodDescriptor "(I)Z" = some ⟨[.int], some .boolean⟩ := by decide +kernel
theorem pd_1 : parseMethodDescriptor "(II)I" = some ⟨[.int, .int], some .int⟩ := by decide +kernel
theorem pd_2 : parseMethodDescriptor "([BIII)I" = some ⟨[(.array .byte), .int, .int, .int], some .int⟩ := by decide +kernel
theorem pd_3 : parseMethodDescriptor "()B" = some ⟨[], some .byte⟩ := by decide +kernel
theorem pd_4 : parseMethodDescriptor "()Z" = some ⟨[], some .boolean⟩ := by decide +kernel
theorem pd_5 : parseMethodDescriptor "()I" = some ⟨[], some .int⟩ := by decide +kernel
theorem pd_6 : parseMethodDescriptor "(I)I" = some ⟨[.int], some .int⟩ := by decide +kernel
theorem d8_0 : decode jdk_43_method_4_code 0 = .ok (.iload_n 0, 1) := by decide +kernel
theorem d8_1 : decode jdk_43_method_4_code 1 = .ok (.ifCond .lt 14, 3) := by decide +kernel
theorem d8_4 : decode jdk_43_method_4_code 4 = .ok (.iload_n 0, 1) := by decide +kernel
theorem d8_5 : decode jdk_43_method_4_code 5 = .ok (.sipush 255, 3) := by decide +kernel
theorem d8_8 : decode jdk_43_method_4_code 8 = .ok (.if_icmp .gt 7, 3) := by decide +kernel
theorem d8_11 : decode jdk_43_method_4_code 11 = .ok (.iconst 1, 1) := by decide +kernel
theorem d8_12 : decode jdk_43_method_4_code 12 = .ok (.goto 4, 3) := by decide +kernel
theorem d8_15 : decode jdk_43_method_4_code 15 = .ok (.iconst 0, 1) := by decide +kernel
theorem d8_16 : decode jdk_43_method_4_code 16 = .ok (.ireturn, 1) := by decide +kernel
theorem pn_8 : plainName "java/lang/StringLatin1" = true := by first | (simp [plainName, overriddenIn]; done) | decide +kernel
theorem ef_8 (m : MethodId) (p1 : Int32) : entryFrame m #[(.int p1)] 1 = mkF m 0 #[.val (.int p1)] [] := by first | (simp [entryFrame, mkF, argsToLocals, Value.category]; done) | rfl
def rv8 (p1 : Int32) : Int32 :=
  if p1 < 0 then (0 : Int32) else if (255 : Int32) < p1 then (0 : Int32) else (1 : Int32)
def Q8 (Z : State) (p1 : Int32) (h0 : Heap) (n0 : Nat) (v : Option Value) (h : Heap) (L : List Loc) : Prop := v = some (.int (rv8 p1)) ∧ Fr n0 L ∧ h = h0
set_option maxRecDepth 65536 in
set_option maxHeartbeats 40000000 in
theorem rm8 (l : Launch) (Z : State) (a0 : Array Value) (hw : ∀ d ∈ tables_1, d.before a0 Z = true) (ws : List Jvm.Cond) (p1 : Int32) (h0 : Heap) (n0 : Nat) (Z0 : n0 ≤ h0.size) :
    MetFree l (⟨"java/lang/StringLatin1", "canEncode", "(I)Z"⟩ : MethodName) (head1 (Jvm.Cond.code (⟨"java/lang/StringLatin1", "canEncode", "(I)Z"⟩ : MethodName) jdk_43_method_4_code 1 (some .boolean) :: ws) ({ frames := 0, cells := 0, slots := 0, locals := 0 } : Room)) (fun a U => a = #[(.int p1)] ∧ Z.Warmed39 U.vm ∧ U.heap = h0) (fun _ _ _ _ _ => True) (fun _ U oo U' => ∃ v L, oo = .returned v ∧ Q8 Z p1 h0 n0 v U'.heap L ∧ FrameEnd U oo U' L ({ frames := 0, cells := 0, slots := 0, locals := 0 } : Room).cells ({ frames := 0, cells := 0, slots := 0, locals := 0 } : Room).slots) := by
  refine MetFree.of_bodySF (plainFor_of_name pn_8) hisR ?_
  intro p e s m args below meth c s₁ Bd hml0 hP hK
  obtain ⟨rfl, hZ, hh⟩ := hP
  have hx := Bd.exec
  have hby := Bd.bytes
  have hml : c.maxLocals = 1 := hml0
  have hown : s.vm.findClass "java/lang/StringLatin1" = some m.cls := findClass_of_methodNamed Bd.named
  have hnm := (name_of_methodNamed Bd.named Bd.method).1
  have X0 : Stand p l e ({ frames := 0, cells := 0, slots := 0, locals := 0 } : Room) s m #[(.int p1)] below meth c s₁ [] 0 0 := Stand.of_body Bd
  have e0 : s₁.heap = h0 := by rw [← hh, Bd.state]; rfl
  have N0 := Fr.nil n0
  have K0 : Keep h0 h0 [] := Keep.refl _ _
  have pre0 : ∀ tg, Steps p.tables e below (s₁.setTop (mkF m 0 #[.val (.int p1)] [])) tg → Steps p.tables e below (s₁.setTop (entryFrame m #[(.int p1)] 1)) tg := fun tg k => castTop (ef_8 m p1) k
  have st2 : ∀ tg, Steps p.tables e below (s₁.setTop (mkF m 1 #[.val (.int p1)] [(.int p1)])) tg → Steps p.tables e below (s₁.setTop (mkF m 0 #[.val (.int p1)] [])) tg := by
    intro tg kt
    show Steps p.tables e below (s₁.setTop (mkF m 0 #[.val (.int p1)] [])) tg
    refine XS.iloadN X0.here hx rfl (hb hby d8_0) rfl ?_
    exact kt
  by_cases hc1_1 : p1 < 0
  · -- pc 1: p1 < 0
    have st3 : ∀ tg, Steps p.tables e below (s₁.setTop (mkF m 16 #[.val (.int p1)] [(.int (0 : Int32))])) tg → Steps p.tables e below (s₁.setTop (mkF m 1 #[.val (.int p1)] [(.int p1)])) tg := by
      intro tg kt
      show Steps p.tables e below (s₁.setTop (mkF m 1 #[.val (.int p1)] [(.int p1)])) tg
      refine XS.ifYes X0.here hx rfl (pc0 := 1) (pc' := 15) rfl (hb hby d8_1) rfl (XT.i0_lt_t hc1_1) (by decide) (by decide) ?_
      show Steps p.tables e below (s₁.setTop (mkF m 15 #[.val (.int p1)] [])) tg
      refine XS.iconst X0.here hx rfl (hb hby d8_15) ?_
      exact kt
    obtain ⟨fs, hr, hrun, hended, hW, hsame⟩ := X0.leave (v := some (.int (0 : Int32))) (fun h => by rw [Bd.returns] at h; cases h)
    refine ⟨_, _, pre0 _ ?_, hrun, hended, _, _, rfl, ?_, ⟨_, rfl⟩, hW, hsame.mono (by decide) (by decide)⟩
    · refine st2 _ ?_
      refine st3 _ ?_
      show Steps p.tables e below (s₁.setTop (mkF m 16 #[.val (.int p1)] [(.int (0 : Int32))])) _
      exact retN X0 hx (t := .boolean) Bd.returns (by simp) (hb hby d8_16) hr
    · show Q8 Z p1 h0 n0 _ s₁.heap _
      rw [e0]
      refine ⟨?_, N0, rfl⟩
      simp only [rv8, if_pos hc1_1]
  · -- pc 1: not p1 < 0
    have st5 : ∀ tg, Steps p.tables e below (s₁.setTop (mkF m 8 #[.val (.int p1)] [(.int (255 : Int32)), (.int p1)])) tg → Steps p.tables e below (s₁.setTop (mkF m 1 #[.val (.int p1)] [(.int p1)])) tg := by
      intro tg kt
      show Steps p.tables e below (s₁.setTop (mkF m 1 #[.val (.int p1)] [(.int p1)])) tg
      refine XS.ifNo X0.here hx rfl (hb hby d8_1) rfl (XT.i0_lt_f hc1_1) ?_
      show Steps p.tables e below (s₁.setTop (mkF m 4 #[.val (.int p1)] [])) tg
      refine XS.iloadN X0.here hx rfl (hb hby d8_4) rfl ?_
      show Steps p.tables e below (s₁.setTop (mkF m 5 #[.val (.int p1)] [(.int p1)])) tg
      refine XS.sipush X0.here hx rfl (hb hby d8_5) ?_
      exact kt
    by_cases hc8_4 : (255 : Int32) < p1
    · -- pc 8: (255 : Int32) < p1
      have st6 : ∀ tg, Steps p.tables e below (s₁.setTop (mkF m 16 #[.val (.int p1)] [(.int (0 : Int32))])) tg → Steps p.tables e below (s₁.setTop (mkF m 8 #[.val (.int p1)] [(.int (255 : Int32)), (.int p1)])) tg := by
        intro tg kt
        show Steps p.tables e below (s₁.setTop (mkF m 8 #[.val (.int p1)] [(.int (255 : Int32)), (.int p1)])) tg
        refine XS.icmpYes X0.here hx rfl (pc0 := 8) (pc' := 15) rfl (hb hby d8_8) rfl (XT.ii_gt_t hc8_4) (by decide) (by decide) ?_
        show Steps p.tables e below (s₁.setTop (mkF m 15 #[.val (.int p1)] [])) tg
        refine XS.iconst X0.here hx rfl (hb hby d8_15) ?_
        exact kt
      obtain ⟨fs, hr, hrun, hended, hW, hsame⟩ := X0.leave (v := some (.int (0 : Int32))) (fun h => by rw [Bd.returns] at h; cases h)
      refine ⟨_, _, pre0 _ ?_, hrun, hended, _, _, rfl, ?_, ⟨_, rfl⟩, hW, hsame.mono (by decide) (by decide)⟩
      · refine st2 _ ?_
        refine st5 _ ?_
        refine st6 _ ?_
        show Steps p.tables e below (s₁.setTop (mkF m 16 #[.val (.int p1)] [(.int (0 : Int32))])) _
        exact retN X0 hx (t := .boolean) Bd.returns (by simp) (hb hby d8_16) hr
      · show Q8 Z p1 h0 n0 _ s₁.heap _
        rw [e0]
        refine ⟨?_, N0, rfl⟩
        simp only [rv8, if_neg hc1_1, if_pos hc8_4]
    · -- pc 8: not (255 : Int32) < p1
      have st7 : ∀ tg, Steps p.tables e below (s₁.setTop (mkF m 16 #[.val (.int p1)] [(.int (1 : Int32))])) tg → Steps p.tables e below (s₁.setTop (mkF m 8 #[.val (.int p1)] [(.int (255 : Int32)), (.int p1)])) tg := by
        intro tg kt
        show Steps p.tables e below (s₁.setTop (mkF m 8 #[.val (.int p1)] [(.int (255 : Int32)), (.int p1)])) tg
        refine XS.icmpNo X0.here hx rfl (hb hby d8_8) rfl (XT.ii_gt_f hc8_4) ?_
        show Steps p.tables e below (s₁.setTop (mkF m 11 #[.val (.int p1)] [])) tg
        refine XS.iconst X0.here hx rfl (hb hby d8_11) ?_
        show Steps p.tables e below (s₁.setTop (mkF m 12 #[.val (.int p1)] [(.int (1 : Int32))])) tg
        refine XS.goto X0.here hx rfl (pc0 := 12) (pc' := 16) rfl (hb hby d8_12) (by decide) (by decide) ?_
        exact kt
      obtain ⟨fs, hr, hrun, hended, hW, hsame⟩ := X0.leave (v := some (.int (1 : Int32))) (fun h => by rw [Bd.returns] at h; cases h)
      refine ⟨_, _, pre0 _ ?_, hrun, hended, _, _, rfl, ?_, ⟨_, rfl⟩, hW, hsame.mono (by decide) (by decide)⟩
      · refine st2 _ ?_
        refine st5 _ ?_
        refine st7 _ ?_
        show Steps p.tables e below (s₁.setTop (mkF m 16 #[.val (.int p1)] [(.int (1 : Int32))])) _
        exact retN X0 hx (t := .boolean) Bd.returns (by simp) (hb hby d8_16) hr
      · show Q8 Z p1 h0 n0 _ s₁.heap _
        rw [e0]
        refine ⟨?_, N0, rfl⟩
        simp only [rv8, if_neg hc1_1, if_neg hc8_4]
theorem d9_0 : decode jdk_29_method_65_code 0 = .ok (.iload_n 0, 1) := by decide +kernel
theorem d9_1 : decode jdk_29_method_65_code 1 = .ok (.iload_n 1, 1) := by decide +kernel
theorem d9_2 : decode jdk_29_method_65_code 2 = .ok (.if_icmp .lt 7, 3) := by decide +kernel
theorem d9_5 : decode jdk_29_method_65_code 5 = .ok (.iload_n 0, 1) := by decide +kernel
theorem d9_6 : decode jdk_29_method_65_code 6 = .ok (.goto 4, 3) := by decide +kernel
theorem d9_9 : decode jdk_29_method_65_code 9 = .ok (.iload_n 1, 1) := by decide +kernel
theorem d9_10 : decode jdk_29_method_65_code 10 = .ok (.ireturn, 1) := by decide +kernel
theorem ef_9 (m : MethodId) (p1 : Int32) (p2 : Int32) : entryFrame m #[(.int p1), (.int p2)] 2 = mkF m 0 #[.val (.int p1), .val (.int p2)] [] := by first | (simp [entryFrame, mkF, argsToLocals, Value.category]; done) | rfl
def rv9 (p1 : Int32) (p2 : Int32) : Int32 :=
  if p1 < p2 then p2 else p1
def Q9 (Z : State) (p1 : Int32) (p2 : Int32) (h0 : Heap) (n0 : Nat) (v : Option Value) (h : Heap) (L : List Loc) : Prop := v = some (.int (rv9 p1 p2)) ∧ Fr n0 L ∧ h = h0
set_option maxRecDepth 65536 in
set_option maxHeartbeats 40000000 in
theorem rm9 (l : Launch) (Z : State) (a0 : Array Value) (hw : ∀ d ∈ tables_1, d.before a0 Z = true) (ws : List Jvm.Cond) (p1 : Int32) (p2 : Int32) (h0 : Heap) (n0 : Nat) (Z0 : n0 ≤ h0.size) :
    MetFree l (⟨"java/lang/Math", "max", "(II)I"⟩ : MethodName) (head1 (Jvm.Cond.code (⟨"java/lang/Math", "max", "(II)I"⟩ : MethodName) jdk_29_method_65_code 2 (some .int) :: ws) ({ frames := 0, cells := 0, slots := 0, locals := 0 } : Room)) (fun a U => a = #[(.int p1), (.int p2)] ∧ Z.Warmed39 U.vm ∧ U.heap = h0) (fun _ _ _ _ _ => True) (fun _ U oo U' => ∃ v L, oo = .returned v ∧ Q9 Z p1 p2 h0 n0 v U'.heap L ∧ FrameEnd U oo U' L ({ frames := 0, cells := 0, slots := 0, locals := 0 } : Room).cells ({ frames := 0, cells := 0, slots := 0, locals := 0 } : Room).slots) := by
  refine MetFree.of_bodySF (Jvm.Free.JP.mathPlain rfl (by decide +kernel)) hisR ?_
  intro p e s m args below meth c s₁ Bd hml0 hP hK
  obtain ⟨rfl, hZ, hh⟩ := hP
  have hx := Bd.exec
  have hby := Bd.bytes
  have hml : c.maxLocals = 2 := hml0
  have hown : s.vm.findClass "java/lang/Math" = some m.cls := findClass_of_methodNamed Bd.named
  have hnm := (name_of_methodNamed Bd.named Bd.method).1
  have X0 : Stand p l e ({ frames := 0, cells := 0, slots := 0, locals := 0 } : Room) s m #[(.int p1), (.int p2)] below meth c s₁ [] 0 0 := Stand.of_body Bd
  have e0 : s₁.heap = h0 := by rw [← hh, Bd.state]; rfl
  have N0 := Fr.nil n0
  have K0 : Keep h0 h0 [] := Keep.refl _ _
  have pre0 : ∀ tg, Steps p.tables e below (s₁.setTop (mkF m 0 #[.val (.int p1), .val (.int p2)] [])) tg → Steps p.tables e below (s₁.setTop (entryFrame m #[(.int p1), (.int p2)] 2)) tg := fun tg k => castTop (ef_9 m p1 p2) k
  have st2 : ∀ tg, Steps p.tables e below (s₁.setTop (mkF m 2 #[.val (.int p1), .val (.int p2)] [(.int p2), (.int p1)])) tg → Steps p.tables e below (s₁.setTop (mkF m 0 #[.val (.int p1), .val (.int p2)] [])) tg := by
    intro tg kt
    show Steps p.tables e below (s₁.setTop (mkF m 0 #[.val (.int p1), .val (.int p2)] [])) tg
    refine XS.iloadN X0.here hx rfl (hb hby d9_0) rfl ?_
    show Steps p.tables e below (s₁.setTop (mkF m 1 #[.val (.int p1), .val (.int p2)] [(.int p1)])) tg
    refine XS.iloadN X0.here hx rfl (hb hby d9_1) rfl ?_
    exact kt
  by_cases hc2_1 : p1 < p2
  · -- pc 2: p1 < p2
    have st3 : ∀ tg, Steps p.tables e below (s₁.setTop (mkF m 10 #[.val (.int p1), .val (.int p2)] [(.int p2)])) tg → Steps p.tables e below (s₁.setTop (mkF m 2 #[.val (.int p1), .val (.int p2)] [(.int p2), (.int p1)])) tg := by
      intro tg kt
      show Steps p.tables e below (s₁.setTop (mkF m 2 #[.val (.int p1), .val (.int p2)] [(.int p2), (.int p1)])) tg
      refine XS.icmpYes X0.here hx rfl (pc0 := 2) (pc' := 9) rfl (hb hby d9_2) rfl (XT.ii_lt_t hc2_1) (by decide) (by decide) ?_
      show Steps p.tables e below (s₁.setTop (mkF m 9 #[.val (.int p1), .val (.int p2)] [])) tg
      refine XS.iloadN X0.here hx rfl (hb hby d9_9) rfl ?_
      exact kt
    obtain ⟨fs, hr, hrun, hended, hW, hsame⟩ := X0.leave (v := some (.int p2)) (fun h => by rw [Bd.returns] at h; cases h)
    refine ⟨_, _, pre0 _ ?_, hrun, hended, _, _, rfl, ?_, ⟨_, rfl⟩, hW, hsame.mono (by decide) (by decide)⟩
    · refine st2 _ ?_
      refine st3 _ ?_
      show Steps p.tables e below (s₁.setTop (mkF m 10 #[.val (.int p1), .val (.int p2)] [(.int p2)])) _
      exact retI X0 hx Bd.returns (hb hby d9_10) hr
    · show Q9 Z p1 p2 h0 n0 _ s₁.heap _
      rw [e0]
      refine ⟨?_, N0, rfl⟩
      simp only [rv9, if_pos hc2_1]
  · -- pc 2: not p1 < p2
    have st4 : ∀ tg, Steps p.tables e below (s₁.setTop (mkF m 10 #[.val (.int p1), .val (.int p2)] [(.int p1)])) tg → Steps p.tables e below (s₁.setTop (mkF m 2 #[.val (.int p1), .val (.int p2)] [(.int p2), (.int p1)])) tg := by
      intro tg kt
      show Steps p.tables e below (s₁.setTop (mkF m 2 #[.val (.int p1), .val (.int p2)] [(.int p2), (.int p1)])) tg
      refine XS.icmpNo X0.here hx rfl (hb hby d9_2) rfl (XT.ii_lt_f hc2_1) ?_
      show Steps p.tables e below (s₁.setTop (mkF m 5 #[.val (.int p1), .val (.int p2)] [])) tg
      refine XS.iloadN X0.here hx rfl (hb hby d9_5) rfl ?_
      show Steps p.tables e below (s₁.setTop (mkF m 6 #[.val (.int p1), .val (.int p2)] [(.int p1)])) tg
      refine XS.goto X0.here hx rfl (pc0 := 6) (pc' := 10) rfl (hb hby d9_6) (by decide) (by decide) ?_
      exact kt
    obtain ⟨fs, hr, hrun, hended, hW, hsame⟩ := X0.leave (v := some (.int p1)) (fun h => by rw [Bd.returns] at h; cases h)
    refine ⟨_, _, pre0 _ ?_, hrun, hended, _, _, rfl, ?_, ⟨_, rfl⟩, hW, hsame.mono (by decide) (by decide)⟩
    · refine st2 _ ?_
      refine st4 _ ?_
      show Steps p.tables e below (s₁.setTop (mkF m 10 #[.val (.int p1), .val (.int p2)] [(.int p1)])) _
      exact retI X0 hx Bd.returns (hb hby d9_10) hr
    · show Q9 Z p1 p2 h0 n0 _ s₁.heap _
      rw [e0]
      refine ⟨?_, N0, rfl⟩
      simp only [rv9, if_neg hc2_1]
theorem d10_0 : decode jdk_29_method_69_code 0 = .ok (.iload_n 0, 1) := by decide +kernel
theorem d10_1 : decode jdk_29_method_69_code 1 = .ok (.iload_n 1, 1) := by decide +kernel
theorem d10_2 : decode jdk_29_method_69_code 2 = .ok (.if_icmp .gt 7, 3) := by decide +kernel
theorem d10_5 : decode jdk_29_method_69_code 5 = .ok (.iload_n 0, 1) := by decide +kernel
theorem d10_6 : decode jdk_29_method_69_code 6 = .ok (.goto 4, 3) := by decide +kernel
theorem d10_9 : decode jdk_29_method_69_code 9 = .ok (.iload_n 1, 1) := by decide +kernel
theorem d10_10 : decode jdk_29_method_69_code 10 = .ok (.ireturn, 1) := by decide +kernel
theorem ef_10 (m : MethodId) (p1 : Int32) (p2 : Int32) : entryFrame m #[(.int p1), (.int p2)] 2 = mkF m 0 #[.val (.int p1), .val (.int p2)] [] := by first | (simp [entryFrame, mkF, argsToLocals, Value.category]; done) | rfl
def rv10 (p1 : Int32) (p2 : Int32) : Int32 :=
  if p2 < p1 then p2 else p1
def Q10 (Z : State) (p1 : Int32) (p2 : Int32) (h0 : Heap) (n0 : Nat) (v : Option Value) (h : Heap) (L : List Loc) : Prop := v = some (.int (rv10 p1 p2)) ∧ Fr n0 L ∧ h = h0
set_option maxRecDepth 65536 in
set_option maxHeartbeats 40000000 in
theorem rm10 (l : Launch) (Z : State) (a0 : Array Value) (hw : ∀ d ∈ tables_1, d.before a0 Z = true) (ws : List Jvm.Cond) (p1 : Int32) (p2 : Int32) (h0 : Heap) (n0 : Nat) (Z0 : n0 ≤ h0.size) :
    MetFree l (⟨"java/lang/Math", "min", "(II)I"⟩ : MethodName) (head1 (Jvm.Cond.code (⟨"java/lang/Math", "min", "(II)I"⟩ : MethodName) jdk_29_method_69_code 2 (some .int) :: ws) ({ frames := 0, cells := 0, slots := 0, locals := 0 } : Room)) (fun a U => a = #[(.int p1), (.int p2)] ∧ Z.Warmed39 U.vm ∧ U.heap = h0) (fun _ _ _ _ _ => True) (fun _ U oo U' => ∃ v L, oo = .returned v ∧ Q10 Z p1 p2 h0 n0 v U'.heap L ∧ FrameEnd U oo U' L ({ frames := 0, cells := 0, slots := 0, locals := 0 } : Room).cells ({ frames := 0, cells := 0, slots := 0, locals := 0 } : Room).slots) := by
  refine MetFree.of_bodySF (Jvm.Free.JP.mathPlain rfl (by decide +kernel)) hisR ?_
  intro p e s m args below meth c s₁ Bd hml0 hP hK
  obtain ⟨rfl, hZ, hh⟩ := hP
  have hx := Bd.exec
  have hby := Bd.bytes
  have hml : c.maxLocals = 2 := hml0
  have hown : s.vm.findClass "java/lang/Math" = some m.cls := findClass_of_methodNamed Bd.named
  have hnm := (name_of_methodNamed Bd.named Bd.method).1
  have X0 : Stand p l e ({ frames := 0, cells := 0, slots := 0, locals := 0 } : Room) s m #[(.int p1), (.int p2)] below meth c s₁ [] 0 0 := Stand.of_body Bd
  have e0 : s₁.heap = h0 := by rw [← hh, Bd.state]; rfl
  have N0 := Fr.nil n0
  have K0 : Keep h0 h0 [] := Keep.refl _ _
  have pre0 : ∀ tg, Steps p.tables e below (s₁.setTop (mkF m 0 #[.val (.int p1), .val (.int p2)] [])) tg → Steps p.tables e below (s₁.setTop (entryFrame m #[(.int p1), (.int p2)] 2)) tg := fun tg k => castTop (ef_10 m p1 p2) k
  have st2 : ∀ tg, Steps p.tables e below (s₁.setTop (mkF m 2 #[.val (.int p1), .val (.int p2)] [(.int p2), (.int p1)])) tg → Steps p.tables e below (s₁.setTop (mkF m 0 #[.val (.int p1), .val (.int p2)] [])) tg := by
    intro tg kt
    show Steps p.tables e below (s₁.setTop (mkF m 0 #[.val (.int p1), .val (.int p2)] [])) tg
    refine XS.iloadN X0.here hx rfl (hb hby d10_0) rfl ?_
    show Steps p.tables e below (s₁.setTop (mkF m 1 #[.val (.int p1), .val (.int p2)] [(.int p1)])) tg
    refine XS.iloadN X0.here hx rfl (hb hby d10_1) rfl ?_
    exact kt
  by_cases hc2_1 : p2 < p1
  · -- pc 2: p2 < p1
    have st3 : ∀ tg, Steps p.tables e below (s₁.setTop (mkF m 10 #[.val (.int p1), .val (.int p2)] [(.int p2)])) tg → Steps p.tables e below (s₁.setTop (mkF m 2 #[.val (.int p1), .val (.int p2)] [(.int p2), (.int p1)])) tg := by
      intro tg kt
      show Steps p.tables e below (s₁.setTop (mkF m 2 #[.val (.int p1), .val (.int p2)] [(.int p2), (.int p1)])) tg
      refine XS.icmpYes X0.here hx rfl (pc0 := 2) (pc' := 9) rfl (hb hby d10_2) rfl (XT.ii_gt_t hc2_1) (by decide) (by decide) ?_
      show Steps p.tables e below (s₁.setTop (mkF m 9 #[.val (.int p1), .val (.int p2)] [])) tg
      refine XS.iloadN X0.here hx rfl (hb hby d10_9) rfl ?_
      exact kt
    obtain ⟨fs, hr, hrun, hended, hW, hsame⟩ := X0.leave (v := some (.int p2)) (fun h => by rw [Bd.returns] at h; cases h)
    refine ⟨_, _, pre0 _ ?_, hrun, hended, _, _, rfl, ?_, ⟨_, rfl⟩, hW, hsame.mono (by decide) (by decide)⟩
    · refine st2 _ ?_
      refine st3 _ ?_
      show Steps p.tables e below (s₁.setTop (mkF m 10 #[.val (.int p1), .val (.int p2)] [(.int p2)])) _
      exact retI X0 hx Bd.returns (hb hby d10_10) hr
    · show Q10 Z p1 p2 h0 n0 _ s₁.heap _
      rw [e0]
      refine ⟨?_, N0, rfl⟩
      simp only [rv10, if_pos hc2_1]
  · -- pc 2: not p2 < p1
    have st4 : ∀ tg, Steps p.tables e below (s₁.setTop (mkF m 10 #[.val (.int p1), .val (.int p2)] [(.int p1)])) tg → Steps p.tables e below (s₁.setTop (mkF m 2 #[.val (.int p1), .val (.int p2)] [(.int p2), (.int p1)])) tg := by
      intro tg kt
      show Steps p.tables e below (s₁.setTop (mkF m 2 #[.val (.int p1), .val (.int p2)] [(.int p2), (.int p1)])) tg
      refine XS.icmpNo X0.here hx rfl (hb hby d10_2) rfl (XT.ii_gt_f hc2_1) ?_
      show Steps p.tables e below (s₁.setTop (mkF m 5 #[.val (.int p1), .val (.int p2)] [])) tg
      refine XS.iloadN X0.here hx rfl (hb hby d10_5) rfl ?_
      show Steps p.tables e below (s₁.setTop (mkF m 6 #[.val (.int p1), .val (.int p2)] [(.int p1)])) tg
      refine XS.goto X0.here hx rfl (pc0 := 6) (pc' := 10) rfl (hb hby d10_6) (by decide) (by decide) ?_
      exact kt
    obtain ⟨fs, hr, hrun, hended, hW, hsame⟩ := X0.leave (v := some (.int p1)) (fun h => by rw [Bd.returns] at h; cases h)
    refine ⟨_, _, pre0 _ ?_, hrun, hended, _, _, rfl, ?_, ⟨_, rfl⟩, hW, hsame.mono (by decide) (by decide)⟩
    · refine st2 _ ?_
      refine st4 _ ?_
      show Steps p.tables e below (s₁.setTop (mkF m 10 #[.val (.int p1), .val (.int p2)] [(.int p1)])) _
      exact retI X0 hx Bd.returns (hb hby d10_10) hr
    · show Q10 Z p1 p2 h0 n0 _ s₁.heap _
      rw [e0]
      refine ⟨?_, N0, rfl⟩
      simp only [rv10, if_neg hc2_1]
theorem d11_0 : decode jdk_43_method_23_code 0 = .ok (.iload_n 1, 1) := by decide +kernel
theorem d11_1 : decode jdk_43_method_23_code 1 = .ok (.i2b, 1) := by decide +kernel
theorem d11_2 : decode jdk_43_method_23_code 2 = .ok (.istore 4, 2) := by decide +kernel
theorem d11_4 : decode jdk_43_method_23_code 4 = .ok (.iload_n 2, 1) := by decide +kernel
theorem d11_5 : decode jdk_43_method_23_code 5 = .ok (.istore 5, 2) := by decide +kernel
theorem d11_7 : decode jdk_43_method_23_code 7 = .ok (.iload 5, 2) := by decide +kernel
theorem d11_9 : decode jdk_43_method_23_code 9 = .ok (.iload_n 3, 1) := by decide +kernel
theorem d11_10 : decode jdk_43_method_23_code 10 = .ok (.if_icmp .ge 21, 3) := by decide +kernel
theorem d11_13 : decode jdk_43_method_23_code 13 = .ok (.aload_n 0, 1) := by decide +kernel
theorem d11_14 : decode jdk_43_method_23_code 14 = .ok (.iload 5, 2) := by decide +kernel
theorem d11_16 : decode jdk_43_method_23_code 16 = .ok (.baload, 1) := by decide +kernel
theorem d11_17 : decode jdk_43_method_23_code 17 = .ok (.iload 4, 2) := by decide +kernel
theorem d11_19 : decode jdk_43_method_23_code 19 = .ok (.if_icmp .ne 6, 3) := by decide +kernel
theorem d11_22 : decode jdk_43_method_23_code 22 = .ok (.iload 5, 2) := by decide +kernel
theorem d11_24 : decode jdk_43_method_23_code 24 = .ok (.ireturn, 1) := by decide +kernel
theorem d11_25 : decode jdk_43_method_23_code 25 = .ok (.iinc 5 1, 3) := by decide +kernel
theorem d11_28 : decode jdk_43_method_23_code 28 = .ok (.goto (-21), 3) := by decide +kernel
theorem d11_31 : decode jdk_43_method_23_code 31 = .ok (.iconst (-1), 1) := by decide +kernel
theorem d11_32 : decode jdk_43_method_23_code 32 = .ok (.ireturn, 1) := by decide +kernel
theorem pn_11 : plainName "java/lang/StringLatin1" = true := by first | (simp [plainName, overriddenIn]; done) | decide +kernel
theorem ef_11 (m : MethodId) (a1 : Addr) (p2 : Int32) : entryFrame m #[(.ref a1), (.int p2), (.int (0 : Int32)), (.int (4 : Int32))] 6 = mkF m 0 #[.val (.ref a1), .val (.int p2), .val (.int (0 : Int32)), .val (.int (4 : Int32)), .unset, .unset] [] := by first | (simp [entryFrame, mkF, argsToLocals, Value.category]; done) | rfl
def rv11 (a1 : Addr) (p2 : Int32) (kt : ClassId) : Int32 :=
  if (45 : Int32) = (p2.toInt8.toInt32) then (0 : Int32) else if (46 : Int32) = (p2.toInt8.toInt32) then (1 : Int32) else if (95 : Int32) = (p2.toInt8.toInt32) then (2 : Int32) else if (126 : Int32) = (p2.toInt8.toInt32) then (3 : Int32) else (-1 : Int32)
def Q11 (Z : State) (a1 : Addr) (p2 : Int32) (kt : ClassId) (h0 : Heap) (n0 : Nat) (v : Option Value) (h : Heap) (L : List Loc) : Prop := v = some (.int (rv11 a1 p2 kt)) ∧ Fr n0 L ∧ h = h0
set_option maxRecDepth 65536 in
set_option maxHeartbeats 40000000 in
theorem rm11 (l : Launch) (Z : State) (a0 : Array Value) (hw : ∀ d ∈ tables_1, d.before a0 Z = true) (ws : List Jvm.Cond) (a1 : Addr) (p2 : Int32) (kt : ClassId) (h0 : Heap) (n0 : Nat) (Z0 : n0 ≤ h0.size) (FA : Arv Z h0 a1 kt .byte (4 : Int32) [(.int (45 : Int32)), (.int (46 : Int32)), (.int (95 : Int32)), (.int (126 : Int32))] (.int 0)) :
    MetFree l (⟨"java/lang/StringLatin1", "indexOfChar", "([BIII)I"⟩ : MethodName) (head1 (Jvm.Cond.code (⟨"java/lang/StringLatin1", "indexOfChar", "([BIII)I"⟩ : MethodName) jdk_43_method_23_code 6 (some .int) :: ws) ({ frames := 0, cells := 0, slots := 0, locals := 0 } : Room)) (fun a U => a = #[(.ref a1), (.int p2), (.int (0 : Int32)), (.int (4 : Int32))] ∧ Z.Warmed39 U.vm ∧ U.heap = h0) (fun _ _ _ _ _ => True) (fun _ U oo U' => ∃ v L, oo = .returned v ∧ Q11 Z a1 p2 kt h0 n0 v U'.heap L ∧ FrameEnd U oo U' L ({ frames := 0, cells := 0, slots := 0, locals := 0 } : Room).cells ({ frames := 0, cells := 0, slots := 0, locals := 0 } : Room).slots) := by
  refine MetFree.of_bodySF (plainFor_of_name pn_11) hisR ?_
  intro p e s m args below meth c s₁ Bd hml0 hP hK
  obtain ⟨rfl, hZ, hh⟩ := hP
  have hx := Bd.exec
  have hby := Bd.bytes
  have hml : c.maxLocals = 6 := hml0
  have hown : s.vm.findClass "java/lang/StringLatin1" = some m.cls := findClass_of_methodNamed Bd.named
  have hnm := (name_of_methodNamed Bd.named Bd.method).1
  have X0 : Stand p l e ({ frames := 0, cells := 0, slots := 0, locals := 0 } : Room) s m #[(.ref a1), (.int p2), (.int (0 : Int32)), (.int (4 : Int32))] below meth c s₁ [] 0 0 := Stand.of_body Bd
  have e0 : s₁.heap = h0 := by rw [← hh, Bd.state]; rfl
  have N0 := Fr.nil n0
  have K0 : Keep h0 h0 [] := Keep.refl _ _
  have pre0 : ∀ tg, Steps p.tables e below (s₁.setTop (mkF m 0 #[.val (.ref a1), .val (.int p2), .val (.int (0 : Int32)), .val (.int (4 : Int32)), .unset, .unset] [])) tg → Steps p.tables e below (s₁.setTop (entryFrame m #[(.ref a1), (.int p2), (.int (0 : Int32)), (.int (4 : Int32))] 6)) tg := fun tg k => castTop (ef_11 m a1 p2) k
  have st2 : ∀ tg, Steps p.tables e below (s₁.setTop (mkF m 16 #[.val (.ref a1), .val (.int p2), .val (.int (0 : Int32)), .val (.int (4 : Int32)), .val (.int (p2.toInt8.toInt32)), .val (.int (0 : Int32))] [(.int (0 : Int32)), (.ref a1)])) tg → Steps p.tables e below (s₁.setTop (mkF m 0 #[.val (.ref a1), .val (.int p2), .val (.int (0 : Int32)), .val (.int (4 : Int32)), .unset, .unset] [])) tg := by
    intro tg kt
    show Steps p.tables e below (s₁.setTop (mkF m 0 #[.val (.ref a1), .val (.int p2), .val (.int (0 : Int32)), .val (.int (4 : Int32)), .unset, .unset] [])) tg
    refine XS.iloadN X0.here hx rfl (hb hby d11_0) rfl ?_
    show Steps p.tables e below (s₁.setTop (mkF m 1 #[.val (.ref a1), .val (.int p2), .val (.int (0 : Int32)), .val (.int (4 : Int32)), .unset, .unset] [(.int p2)])) tg
    refine XS.i2b X0.here hx rfl (hb hby d11_1) rfl ?_
    show Steps p.tables e below (s₁.setTop (mkF m 2 #[.val (.ref a1), .val (.int p2), .val (.int (0 : Int32)), .val (.int (4 : Int32)), .unset, .unset] [(.int (p2.toInt8.toInt32))])) tg
    refine XS.istore X0.here hx rfl (hb hby d11_2) rfl (l' := #[.val (.ref a1), .val (.int p2), .val (.int (0 : Int32)), .val (.int (4 : Int32)), .val (.int (p2.toInt8.toInt32)), .unset]) rfl ?_
    show Steps p.tables e below (s₁.setTop (mkF m 4 #[.val (.ref a1), .val (.int p2), .val (.int (0 : Int32)), .val (.int (4 : Int32)), .val (.int (p2.toInt8.toInt32)), .unset] [])) tg
    refine XS.iloadN X0.here hx rfl (hb hby d11_4) rfl ?_
    show Steps p.tables e below (s₁.setTop (mkF m 5 #[.val (.ref a1), .val (.int p2), .val (.int (0 : Int32)), .val (.int (4 : Int32)), .val (.int (p2.toInt8.toInt32)), .unset] [(.int (0 : Int32))])) tg
    refine XS.istore X0.here hx rfl (hb hby d11_5) rfl (l' := #[.val (.ref a1), .val (.int p2), .val (.int (0 : Int32)), .val (.int (4 : Int32)), .val (.int (p2.toInt8.toInt32)), .val (.int (0 : Int32))]) rfl ?_
    show Steps p.tables e below (s₁.setTop (mkF m 7 #[.val (.ref a1), .val (.int p2), .val (.int (0 : Int32)), .val (.int (4 : Int32)), .val (.int (p2.toInt8.toInt32)), .val (.int (0 : Int32))] [])) tg
    refine XS.iload X0.here hx rfl (hb hby d11_7) rfl ?_
    show Steps p.tables e below (s₁.setTop (mkF m 9 #[.val (.ref a1), .val (.int p2), .val (.int (0 : Int32)), .val (.int (4 : Int32)), .val (.int (p2.toInt8.toInt32)), .val (.int (0 : Int32))] [(.int (0 : Int32))])) tg
    refine XS.iloadN X0.here hx rfl (hb hby d11_9) rfl ?_
    show Steps p.tables e below (s₁.setTop (mkF m 10 #[.val (.ref a1), .val (.int p2), .val (.int (0 : Int32)), .val (.int (4 : Int32)), .val (.int (p2.toInt8.toInt32)), .val (.int (0 : Int32))] [(.int (4 : Int32)), (.int (0 : Int32))])) tg
    refine XS.icmpNo X0.here hx rfl (hb hby d11_10) rfl (XT.ii_ge_f (by decide)) ?_
    show Steps p.tables e below (s₁.setTop (mkF m 13 #[.val (.ref a1), .val (.int p2), .val (.int (0 : Int32)), .val (.int (4 : Int32)), .val (.int (p2.toInt8.toInt32)), .val (.int (0 : Int32))] [])) tg
    refine XS.aloadN X0.here hx rfl (hb hby d11_13) rfl rfl ?_
    show Steps p.tables e below (s₁.setTop (mkF m 14 #[.val (.ref a1), .val (.int p2), .val (.int (0 : Int32)), .val (.int (4 : Int32)), .val (.int (p2.toInt8.toInt32)), .val (.int (0 : Int32))] [(.ref a1)])) tg
    refine XS.iload X0.here hx rfl (hb hby d11_14) rfl ?_
    exact kt
  obtain ⟨cl1, Ar1, qa1, Sa1, Na1, Ha1, Ga1⟩ := id FA
  have hin1 : ¬ ((0 : Int32) < 0 ∨ cl1.slots.size ≤ ((0 : Int32)).toNatClampNeg) := inb_of Sa1 ⟨by decide, by decide⟩
  have hat1 : cl1.slots[((0 : Int32)).toNatClampNeg]? = some (.int (45 : Int32)) := Has.at Ha1 hin1 rfl
  have st4 : ∀ tg, Steps p.tables e below (s₁.setTop (mkF m 19 #[.val (.ref a1), .val (.int p2), .val (.int (0 : Int32)), .val (.int (4 : Int32)), .val (.int (p2.toInt8.toInt32)), .val (.int (0 : Int32))] [(.int (p2.toInt8.toInt32)), (.int (45 : Int32))])) tg → Steps p.tables e below (s₁.setTop (mkF m 16 #[.val (.ref a1), .val (.int p2), .val (.int (0 : Int32)), .val (.int (4 : Int32)), .val (.int (p2.toInt8.toInt32)), .val (.int (0 : Int32))] [(.int (0 : Int32)), (.ref a1)])) tg := by
    intro tg kt
    show Steps p.tables e below (s₁.setTop (mkF m 16 #[.val (.ref a1), .val (.int p2), .val (.int (0 : Int32)), .val (.int (4 : Int32)), .val (.int (p2.toInt8.toInt32)), .val (.int (0 : Int32))] [(.int (0 : Int32)), (.ref a1)])) tg
    refine X0.baloadBytes hx (j := (0 : Int32)) (v := (.int (45 : Int32))) (by rw [e0]; exact Ar1.1) (State.isArrayOf_alike hZ.alike Ar1.2.1) Ar1.2.2 hin1 hat1 (g := (mkF m 16 #[.val (.ref a1), .val (.int p2), .val (.int (0 : Int32)), .val (.int (4 : Int32)), .val (.int (p2.toInt8.toInt32)), .val (.int (0 : Int32))] [(.int (0 : Int32)), (.ref a1)])) rfl rfl (hb hby d11_16) _ ?_
    show Steps p.tables e below (s₁.setTop (mkF m 17 #[.val (.ref a1), .val (.int p2), .val (.int (0 : Int32)), .val (.int (4 : Int32)), .val (.int (p2.toInt8.toInt32)), .val (.int (0 : Int32))] [(.int (45 : Int32))])) tg
    refine XS.iload X0.here hx rfl (hb hby d11_17) rfl ?_
    exact kt
  by_cases hc19_3 : (45 : Int32) = (p2.toInt8.toInt32)
  · -- pc 19: (45 : Int32) = (p2.toInt8.toInt32)
    have st5 : ∀ tg, Steps p.tables e below (s₁.setTop (mkF m 24 #[.val (.ref a1), .val (.int p2), .val (.int (0 : Int32)), .val (.int (4 : Int32)), .val (.int (p2.toInt8.toInt32)), .val (.int (0 : Int32))] [(.int (0 : Int32))])) tg → Steps p.tables e below (s₁.setTop (mkF m 19 #[.val (.ref a1), .val (.int p2), .val (.int (0 : Int32)), .val (.int (4 : Int32)), .val (.int (p2.toInt8.toInt32)), .val (.int (0 : Int32))] [(.int (p2.toInt8.toInt32)), (.int (45 : Int32))])) tg := by
      intro tg kt
      show Steps p.tables e below (s₁.setTop (mkF m 19 #[.val (.ref a1), .val (.int p2), .val (.int (0 : Int32)), .val (.int (4 : Int32)), .val (.int (p2.toInt8.toInt32)), .val (.int (0 : Int32))] [(.int (p2.toInt8.toInt32)), (.int (45 : Int32))])) tg
      refine XS.icmpNo X0.here hx rfl (hb hby d11_19) rfl (XT.ii_ne_f hc19_3) ?_
      show Steps p.tables e below (s₁.setTop (mkF m 22 #[.val (.ref a1), .val (.int p2), .val (.int (0 : Int32)), .val (.int (4 : Int32)), .val (.int (p2.toInt8.toInt32)), .val (.int (0 : Int32))] [])) tg
      refine XS.iload X0.here hx rfl (hb hby d11_22) rfl ?_
      exact kt
    obtain ⟨fs, hr, hrun, hended, hW, hsame⟩ := X0.leave (v := some (.int (0 : Int32))) (fun h => by rw [Bd.returns] at h; cases h)
    refine ⟨_, _, pre0 _ ?_, hrun, hended, _, _, rfl, ?_, ⟨_, rfl⟩, hW, hsame.mono (by decide) (by decide)⟩
    · refine st2 _ ?_
      refine st4 _ ?_
      refine st5 _ ?_
      show Steps p.tables e below (s₁.setTop (mkF m 24 #[.val (.ref a1), .val (.int p2), .val (.int (0 : Int32)), .val (.int (4 : Int32)), .val (.int (p2.toInt8.toInt32)), .val (.int (0 : Int32))] [(.int (0 : Int32))])) _
      exact retI X0 hx Bd.returns (hb hby d11_24) hr
    · show Q11 Z a1 p2 kt h0 n0 _ s₁.heap _
      rw [e0]
      refine ⟨?_, N0, rfl⟩
      simp only [rv11, if_pos hc19_3]
  · -- pc 19: not (45 : Int32) = (p2.toInt8.toInt32)
    have st7 : ∀ tg, Steps p.tables e below (s₁.setTop (mkF m 16 #[.val (.ref a1), .val (.int p2), .val (.int (0 : Int32)), .val (.int (4 : Int32)), .val (.int (p2.toInt8.toInt32)), .val (.int (1 : Int32))] [(.int (1 : Int32)), (.ref a1)])) tg → Steps p.tables e below (s₁.setTop (mkF m 19 #[.val (.ref a1), .val (.int p2), .val (.int (0 : Int32)), .val (.int (4 : Int32)), .val (.int (p2.toInt8.toInt32)), .val (.int (0 : Int32))] [(.int (p2.toInt8.toInt32)), (.int (45 : Int32))])) tg := by
      intro tg kt
      show Steps p.tables e below (s₁.setTop (mkF m 19 #[.val (.ref a1), .val (.int p2), .val (.int (0 : Int32)), .val (.int (4 : Int32)), .val (.int (p2.toInt8.toInt32)), .val (.int (0 : Int32))] [(.int (p2.toInt8.toInt32)), (.int (45 : Int32))])) tg
      refine XS.icmpYes X0.here hx rfl (pc0 := 19) (pc' := 25) rfl (hb hby d11_19) rfl (XT.ii_ne_t hc19_3) (by decide) (by decide) ?_
      show Steps p.tables e below (s₁.setTop (mkF m 25 #[.val (.ref a1), .val (.int p2), .val (.int (0 : Int32)), .val (.int (4 : Int32)), .val (.int (p2.toInt8.toInt32)), .val (.int (0 : Int32))] [])) tg
      refine XS.iinc X0.here hx rfl (hb hby d11_25) rfl (l' := #[.val (.ref a1), .val (.int p2), .val (.int (0 : Int32)), .val (.int (4 : Int32)), .val (.int (p2.toInt8.toInt32)), .val (.int (1 : Int32))]) rfl ?_
      show Steps p.tables e below (s₁.setTop (mkF m 28 #[.val (.ref a1), .val (.int p2), .val (.int (0 : Int32)), .val (.int (4 : Int32)), .val (.int (p2.toInt8.toInt32)), .val (.int (1 : Int32))] [])) tg
      refine XS.goto X0.here hx rfl (pc0 := 28) (pc' := 7) rfl (hb hby d11_28) (by decide) (by decide) ?_
      show Steps p.tables e below (s₁.setTop (mkF m 7 #[.val (.ref a1), .val (.int p2), .val (.int (0 : Int32)), .val (.int (4 : Int32)), .val (.int (p2.toInt8.toInt32)), .val (.int (1 : Int32))] [])) tg
      refine XS.iload X0.here hx rfl (hb hby d11_7) rfl ?_
      show Steps p.tables e below (s₁.setTop (mkF m 9 #[.val (.ref a1), .val (.int p2), .val (.int (0 : Int32)), .val (.int (4 : Int32)), .val (.int (p2.toInt8.toInt32)), .val (.int (1 : Int32))] [(.int (1 : Int32))])) tg
      refine XS.iloadN X0.here hx rfl (hb hby d11_9) rfl ?_
      show Steps p.tables e below (s₁.setTop (mkF m 10 #[.val (.ref a1), .val (.int p2), .val (.int (0 : Int32)), .val (.int (4 : Int32)), .val (.int (p2.toInt8.toInt32)), .val (.int (1 : Int32))] [(.int (4 : Int32)), (.int (1 : Int32))])) tg
      refine XS.icmpNo X0.here hx rfl (hb hby d11_10) rfl (XT.ii_ge_f (by decide)) ?_
      show Steps p.tables e below (s₁.setTop (mkF m 13 #[.val (.ref a1), .val (.int p2), .val (.int (0 : Int32)), .val (.int (4 : Int32)), .val (.int (p2.toInt8.toInt32)), .val (.int (1 : Int32))] [])) tg
      refine XS.aloadN X0.here hx rfl (hb hby d11_13) rfl rfl ?_
      show Steps p.tables e below (s₁.setTop (mkF m 14 #[.val (.ref a1), .val (.int p2), .val (.int (0 : Int32)), .val (.int (4 : Int32)), .val (.int (p2.toInt8.toInt32)), .val (.int (1 : Int32))] [(.ref a1)])) tg
      refine XS.iload X0.here hx rfl (hb hby d11_14) rfl ?_
      exact kt
    obtain ⟨cl6, Ar6, qa6, Sa6, Na6, Ha6, Ga6⟩ := id FA
    have hin6 : ¬ ((1 : Int32) < 0 ∨ cl6.slots.size ≤ ((1 : Int32)).toNatClampNeg) := inb_of Sa6 ⟨by decide, by decide⟩
    have hat6 : cl6.slots[((1 : Int32)).toNatClampNeg]? = some (.int (46 : Int32)) := Has.at Ha6 hin6 rfl
    have st9 : ∀ tg, Steps p.tables e below (s₁.setTop (mkF m 19 #[.val (.ref a1), .val (.int p2), .val (.int (0 : Int32)), .val (.int (4 : Int32)), .val (.int (p2.toInt8.toInt32)), .val (.int (1 : Int32))] [(.int (p2.toInt8.toInt32)), (.int (46 : Int32))])) tg → Steps p.tables e below (s₁.setTop (mkF m 16 #[.val (.ref a1), .val (.int p2), .val (.int (0 : Int32)), .val (.int (4 : Int32)), .val (.int (p2.toInt8.toInt32)), .val (.int (1 : Int32))] [(.int (1 : Int32)), (.ref a1)])) tg := by
      intro tg kt
      show Steps p.tables e below (s₁.setTop (mkF m 16 #[.val (.ref a1), .val (.int p2), .val (.int (0 : Int32)), .val (.int (4 : Int32)), .val (.int (p2.toInt8.toInt32)), .val (.int (1 : Int32))] [(.int (1 : Int32)), (.ref a1)])) tg
      refine X0.baloadBytes hx (j := (1 : Int32)) (v := (.int (46 : Int32))) (by rw [e0]; exact Ar6.1) (State.isArrayOf_alike hZ.alike Ar6.2.1) Ar6.2.2 hin6 hat6 (g := (mkF m 16 #[.val (.ref a1), .val (.int p2), .val (.int (0 : Int32)), .val (.int (4 : Int32)), .val (.int (p2.toInt8.toInt32)), .val (.int (1 : Int32))] [(.int (1 : Int32)), (.ref a1)])) rfl rfl (hb hby d11_16) _ ?_
      show Steps p.tables e below (s₁.setTop (mkF m 17 #[.val (.ref a1), .val (.int p2), .val (.int (0 : Int32)), .val (.int (4 : Int32)), .val (.int (p2.toInt8.toInt32)), .val (.int (1 : Int32))] [(.int (46 : Int32))])) tg
      refine XS.iload X0.here hx rfl (hb hby d11_17) rfl ?_
      exact kt
    by_cases hc19_8 : (46 : Int32) = (p2.toInt8.toInt32)
    · -- pc 19: (46 : Int32) = (p2.toInt8.toInt32)
      have st10 : ∀ tg, Steps p.tables e below (s₁.setTop (mkF m 24 #[.val (.ref a1), .val (.int p2), .val (.int (0 : Int32)), .val (.int (4 : Int32)), .val (.int (p2.toInt8.toInt32)), .val (.int (1 : Int32))] [(.int (1 : Int32))])) tg → Steps p.tables e below (s₁.setTop (mkF m 19 #[.val (.ref a1), .val (.int p2), .val (.int (0 : Int32)), .val (.int (4 : Int32)), .val (.int (p2.toInt8.toInt32)), .val (.int (1 : Int32))] [(.int (p2.toInt8.toInt32)), (.int (46 : Int32))])) tg := by
        intro tg kt
        show Steps p.tables e below (s₁.setTop (mkF m 19 #[.val (.ref a1), .val (.int p2), .val (.int (0 : Int32)), .val (.int (4 : Int32)), .val (.int (p2.toInt8.toInt32)), .val (.int (1 : Int32))] [(.int (p2.toInt8.toInt32)), (.int (46 : Int32))])) tg
        refine XS.icmpNo X0.here hx rfl (hb hby d11_19) rfl (XT.ii_ne_f hc19_8) ?_
        show Steps p.tables e below (s₁.setTop (mkF m 22 #[.val (.ref a1), .val (.int p2), .val (.int (0 : Int32)), .val (.int (4 : Int32)), .val (.int (p2.toInt8.toInt32)), .val (.int (1 : Int32))] [])) tg
        refine XS.iload X0.here hx rfl (hb hby d11_22) rfl ?_
        exact kt
      obtain ⟨fs, hr, hrun, hended, hW, hsame⟩ := X0.leave (v := some (.int (1 : Int32))) (fun h => by rw [Bd.returns] at h; cases h)
      refine ⟨_, _, pre0 _ ?_, hrun, hended, _, _, rfl, ?_, ⟨_, rfl⟩, hW, hsame.mono (by decide) (by decide)⟩
      · refine st2 _ ?_
        refine st4 _ ?_
        refine st7 _ ?_
        refine st9 _ ?_
        refine st10 _ ?_
        show Steps p.tables e below (s₁.setTop (mkF m 24 #[.val (.ref a1), .val (.int p2), .val (.int (0 : Int32)), .val (.int (4 : Int32)), .val (.int (p2.toInt8.toInt32)), .val (.int (1 : Int32))] [(.int (1 : Int32))])) _
        exact retI X0 hx Bd.returns (hb hby d11_24) hr
      · show Q11 Z a1 p2 kt h0 n0 _ s₁.heap _
        rw [e0]
        refine ⟨?_, N0, rfl⟩
        simp only [rv11, if_neg hc19_3, if_pos hc19_8]
    · -- pc 19: not (46 : Int32) = (p2.toInt8.toInt32)
      have st12 : ∀ tg, Steps p.tables e below (s₁.setTop (mkF m 16 #[.val (.ref a1), .val (.int p2), .val (.int (0 : Int32)), .val (.int (4 : Int32)), .val (.int (p2.toInt8.toInt32)), .val (.int (2 : Int32))] [(.int (2 : Int32)), (.ref a1)])) tg → Steps p.tables e below (s₁.setTop (mkF m 19 #[.val (.ref a1), .val (.int p2), .val (.int (0 : Int32)), .val (.int (4 : Int32)), .val (.int (p2.toInt8.toInt32)), .val (.int (1 : Int32))] [(.int (p2.toInt8.toInt32)), (.int (46 : Int32))])) tg := by
        intro tg kt
        show Steps p.tables e below (s₁.setTop (mkF m 19 #[.val (.ref a1), .val (.int p2), .val (.int (0 : Int32)), .val (.int (4 : Int32)), .val (.int (p2.toInt8.toInt32)), .val (.int (1 : Int32))] [(.int (p2.toInt8.toInt32)), (.int (46 : Int32))])) tg
        refine XS.icmpYes X0.here hx rfl (pc0 := 19) (pc' := 25) rfl (hb hby d11_19) rfl (XT.ii_ne_t hc19_8) (by decide) (by decide) ?_
        show Steps p.tables e below (s₁.setTop (mkF m 25 #[.val (.ref a1), .val (.int p2), .val (.int (0 : Int32)), .val (.int (4 : Int32)), .val (.int (p2.toInt8.toInt32)), .val (.int (1 : Int32))] [])) tg
        refine XS.iinc X0.here hx rfl (hb hby d11_25) rfl (l' := #[.val (.ref a1), .val (.int p2), .val (.int (0 : Int32)), .val (.int (4 : Int32)), .val (.int (p2.toInt8.toInt32)), .val (.int (2 : Int32))]) rfl ?_
        show Steps p.tables e below (s₁.setTop (mkF m 28 #[.val (.ref a1), .val (.int p2), .val (.int (0 : Int32)), .val (.int (4 : Int32)), .val (.int (p2.toInt8.toInt32)), .val (.int (2 : Int32))] [])) tg
        refine XS.goto X0.here hx rfl (pc0 := 28) (pc' := 7) rfl (hb hby d11_28) (by decide) (by decide) ?_
        show Steps p.tables e below (s₁.setTop (mkF m 7 #[.val (.ref a1), .val (.int p2), .val (.int (0 : Int32)), .val (.int (4 : Int32)), .val (.int (p2.toInt8.toInt32)), .val (.int (2 : Int32))] [])) tg
        refine XS.iload X0.here hx rfl (hb hby d11_7) rfl ?_
        show Steps p.tables e below (s₁.setTop (mkF m 9 #[.val (.ref a1), .val (.int p2), .val (.int (0 : Int32)), .val (.int (4 : Int32)), .val (.int (p2.toInt8.toInt32)), .val (.int (2 : Int32))] [(.int (2 : Int32))])) tg
        refine XS.iloadN X0.here hx rfl (hb hby d11_9) rfl ?_
        show Steps p.tables e below (s₁.setTop (mkF m 10 #[.val (.ref a1), .val (.int p2), .val (.int (0 : Int32)), .val (.int (4 : Int32)), .val (.int (p2.toInt8.toInt32)), .val (.int (2 : Int32))] [(.int (4 : Int32)), (.int (2 : Int32))])) tg
        refine XS.icmpNo X0.here hx rfl (hb hby d11_10) rfl (XT.ii_ge_f (by decide)) ?_
        show Steps p.tables e below (s₁.setTop (mkF m 13 #[.val (.ref a1), .val (.int p2), .val (.int (0 : Int32)), .val (.int (4 : Int32)), .val (.int (p2.toInt8.toInt32)), .val (.int (2 : Int32))] [])) tg
        refine XS.aloadN X0.here hx rfl (hb hby d11_13) rfl rfl ?_
        show Steps p.tables e below (s₁.setTop (mkF m 14 #[.val (.ref a1), .val (.int p2), .val (.int (0 : Int32)), .val (.int (4 : Int32)), .val (.int (p2.toInt8.toInt32)), .val (.int (2 : Int32))] [(.ref a1)])) tg
        refine XS.iload X0.here hx rfl (hb hby d11_14) rfl ?_
        exact kt
      obtain ⟨cl11, Ar11, qa11, Sa11, Na11, Ha11, Ga11⟩ := id FA
      have hin11 : ¬ ((2 : Int32) < 0 ∨ cl11.slots.size ≤ ((2 : Int32)).toNatClampNeg) := inb_of Sa11 ⟨by decide, by decide⟩
      have hat11 : cl11.slots[((2 : Int32)).toNatClampNeg]? = some (.int (95 : Int32)) := Has.at Ha11 hin11 rfl
      have st14 : ∀ tg, Steps p.tables e below (s₁.setTop (mkF m 19 #[.val (.ref a1), .val (.int p2), .val (.int (0 : Int32)), .val (.int (4 : Int32)), .val (.int (p2.toInt8.toInt32)), .val (.int (2 : Int32))] [(.int (p2.toInt8.toInt32)), (.int (95 : Int32))])) tg → Steps p.tables e below (s₁.setTop (mkF m 16 #[.val (.ref a1), .val (.int p2), .val (.int (0 : Int32)), .val (.int (4 : Int32)), .val (.int (p2.toInt8.toInt32)), .val (.int (2 : Int32))] [(.int (2 : Int32)), (.ref a1)])) tg := by
        intro tg kt
        show Steps p.tables e below (s₁.setTop (mkF m 16 #[.val (.ref a1), .val (.int p2), .val (.int (0 : Int32)), .val (.int (4 : Int32)), .val (.int (p2.toInt8.toInt32)), .val (.int (2 : Int32))] [(.int (2 : Int32)), (.ref a1)])) tg
        refine X0.baloadBytes hx (j := (2 : Int32)) (v := (.int (95 : Int32))) (by rw [e0]; exact Ar11.1) (State.isArrayOf_alike hZ.alike Ar11.2.1) Ar11.2.2 hin11 hat11 (g := (mkF m 16 #[.val (.ref a1), .val (.int p2), .val (.int (0 : Int32)), .val (.int (4 : Int32)), .val (.int (p2.toInt8.toInt32)), .val (.int (2 : Int32))] [(.int (2 : Int32)), (.ref a1)])) rfl rfl (hb hby d11_16) _ ?_
        show Steps p.tables e below (s₁.setTop (mkF m 17 #[.val (.ref a1), .val (.int p2), .val (.int (0 : Int32)), .val (.int (4 : Int32)), .val (.int (p2.toInt8.toInt32)), .val (.int (2 : Int32))] [(.int (95 : Int32))])) tg
        refine XS.iload X0.here hx rfl (hb hby d11_17) rfl ?_
        exact kt
      by_cases hc19_13 : (95 : Int32) = (p2.toInt8.toInt32)
      · -- pc 19: (95 : Int32) = (p2.toInt8.toInt32)
        have st15 : ∀ tg, Steps p.tables e below (s₁.setTop (mkF m 24 #[.val (.ref a1), .val (.int p2), .val (.int (0 : Int32)), .val (.int (4 : Int32)), .val (.int (p2.toInt8.toInt32)), .val (.int (2 : Int32))] [(.int (2 : Int32))])) tg → Steps p.tables e below (s₁.setTop (mkF m 19 #[.val (.ref a1), .val (.int p2), .val (.int (0 : Int32)), .val (.int (4 : Int32)), .val (.int (p2.toInt8.toInt32)), .val (.int (2 : Int32))] [(.int (p2.toInt8.toInt32)), (.int (95 : Int32))])) tg := by
          intro tg kt
          show Steps p.tables e below (s₁.setTop (mkF m 19 #[.val (.ref a1), .val (.int p2), .val (.int (0 : Int32)), .val (.int (4 : Int32)), .val (.int (p2.toInt8.toInt32)), .val (.int (2 : Int32))] [(.int (p2.toInt8.toInt32)), (.int (95 : Int32))])) tg
          refine XS.icmpNo X0.here hx rfl (hb hby d11_19) rfl (XT.ii_ne_f hc19_13) ?_
          show Steps p.tables e below (s₁.setTop (mkF m 22 #[.val (.ref a1), .val (.int p2), .val (.int (0 : Int32)), .val (.int (4 : Int32)), .val (.int (p2.toInt8.toInt32)), .val (.int (2 : Int32))] [])) tg
          refine XS.iload X0.here hx rfl (hb hby d11_22) rfl ?_
          exact kt
        obtain ⟨fs, hr, hrun, hended, hW, hsame⟩ := X0.leave (v := some (.int (2 : Int32))) (fun h => by rw [Bd.returns] at h; cases h)
        refine ⟨_, _, pre0 _ ?_, hrun, hended, _, _, rfl, ?_, ⟨_, rfl⟩, hW, hsame.mono (by decide) (by decide)⟩
        · refine st2 _ ?_
          refine st4 _ ?_
          refine st7 _ ?_
          refine st9 _ ?_
          refine st12 _ ?_
          refine st14 _ ?_
          refine st15 _ ?_
          show Steps p.tables e below (s₁.setTop (mkF m 24 #[.val (.ref a1), .val (.int p2), .val (.int (0 : Int32)), .val (.int (4 : Int32)), .val (.int (p2.toInt8.toInt32)), .val (.int (2 : Int32))] [(.int (2 : Int32))])) _
          exact retI X0 hx Bd.returns (hb hby d11_24) hr
        · show Q11 Z a1 p2 kt h0 n0 _ s₁.heap _
          rw [e0]
          refine ⟨?_, N0, rfl⟩
          simp only [rv11, if_neg hc19_3, if_neg hc19_8, if_pos hc19_13]
      · -- pc 19: not (95 : Int32) = (p2.toInt8.toInt32)
        have st17 : ∀ tg, Steps p.tables e below (s₁.setTop (mkF m 16 #[.val (.ref a1), .val (.int p2), .val (.int (0 : Int32)), .val (.int (4 : Int32)), .val (.int (p2.toInt8.toInt32)), .val (.int (3 : Int32))] [(.int (3 : Int32)), (.ref a1)])) tg → Steps p.tables e below (s₁.setTop (mkF m 19 #[.val (.ref a1), .val (.int p2), .val (.int (0 : Int32)), .val (.int (4 : Int32)), .val (.int (p2.toInt8.toInt32)), .val (.int (2 : Int32))] [(.int (p2.toInt8.toInt32)), (.int (95 : Int32))])) tg := by
          intro tg kt
          show Steps p.tables e below (s₁.setTop (mkF m 19 #[.val (.ref a1), .val (.int p2), .val (.int (0 : Int32)), .val (.int (4 : Int32)), .val (.int (p2.toInt8.toInt32)), .val (.int (2 : Int32))] [(.int (p2.toInt8.toInt32)), (.int (95 : Int32))])) tg
          refine XS.icmpYes X0.here hx rfl (pc0 := 19) (pc' := 25) rfl (hb hby d11_19) rfl (XT.ii_ne_t hc19_13) (by decide) (by decide) ?_
          show Steps p.tables e below (s₁.setTop (mkF m 25 #[.val (.ref a1), .val (.int p2), .val (.int (0 : Int32)), .val (.int (4 : Int32)), .val (.int (p2.toInt8.toInt32)), .val (.int (2 : Int32))] [])) tg
          refine XS.iinc X0.here hx rfl (hb hby d11_25) rfl (l' := #[.val (.ref a1), .val (.int p2), .val (.int (0 : Int32)), .val (.int (4 : Int32)), .val (.int (p2.toInt8.toInt32)), .val (.int (3 : Int32))]) rfl ?_
          show Steps p.tables e below (s₁.setTop (mkF m 28 #[.val (.ref a1), .val (.int p2), .val (.int (0 : Int32)), .val (.int (4 : Int32)), .val (.int (p2.toInt8.toInt32)), .val (.int (3 : Int32))] [])) tg
          refine XS.goto X0.here hx rfl (pc0 := 28) (pc' := 7) rfl (hb hby d11_28) (by decide) (by decide) ?_
          show Steps p.tables e below (s₁.setTop (mkF m 7 #[.val (.ref a1), .val (.int p2), .val (.int (0 : Int32)), .val (.int (4 : Int32)), .val (.int (p2.toInt8.toInt32)), .val (.int (3 : Int32))] [])) tg
          refine XS.iload X0.here hx rfl (hb hby d11_7) rfl ?_
          show Steps p.tables e below (s₁.setTop (mkF m 9 #[.val (.ref a1), .val (.int p2), .val (.int (0 : Int32)), .val (.int (4 : Int32)), .val (.int (p2.toInt8.toInt32)), .val (.int (3 : Int32))] [(.int (3 : Int32))])) tg
          refine XS.iloadN X0.here hx rfl (hb hby d11_9) rfl ?_
          show Steps p.tables e below (s₁.setTop (mkF m 10 #[.val (.ref a1), .val (.int p2), .val (.int (0 : Int32)), .val (.int (4 : Int32)), .val (.int (p2.toInt8.toInt32)), .val (.int (3 : Int32))] [(.int (4 : Int32)), (.int (3 : Int32))])) tg
          refine XS.icmpNo X0.here hx rfl (hb hby d11_10) rfl (XT.ii_ge_f (by decide)) ?_
          show Steps p.tables e below (s₁.setTop (mkF m 13 #[.val (.ref a1), .val (.int p2), .val (.int (0 : Int32)), .val (.int (4 : Int32)), .val (.int (p2.toInt8.toInt32)), .val (.int (3 : Int32))] [])) tg
          refine XS.aloadN X0.here hx rfl (hb hby d11_13) rfl rfl ?_
          show Steps p.tables e below (s₁.setTop (mkF m 14 #[.val (.ref a1), .val (.int p2), .val (.int (0 : Int32)), .val (.int (4 : Int32)), .val (.int (p2.toInt8.toInt32)), .val (.int (3 : Int32))] [(.ref a1)])) tg
          refine XS.iload X0.here hx rfl (hb hby d11_14) rfl ?_
          exact kt
        obtain ⟨cl16, Ar16, qa16, Sa16, Na16, Ha16, Ga16⟩ := id FA
        have hin16 : ¬ ((3 : Int32) < 0 ∨ cl16.slots.size ≤ ((3 : Int32)).toNatClampNeg) := inb_of Sa16 ⟨by decide, by decide⟩
        have hat16 : cl16.slots[((3 : Int32)).toNatClampNeg]? = some (.int (126 : Int32)) := Has.at Ha16 hin16 rfl
        have st19 : ∀ tg, Steps p.tables e below (s₁.setTop (mkF m 19 #[.val (.ref a1), .val (.int p2), .val (.int (0 : Int32)), .val (.int (4 : Int32)), .val (.int (p2.toInt8.toInt32)), .val (.int (3 : Int32))] [(.int (p2.toInt8.toInt32)), (.int (126 : Int32))])) tg → Steps p.tables e below (s₁.setTop (mkF m 16 #[.val (.ref a1), .val (.int p2), .val (.int (0 : Int32)), .val (.int (4 : Int32)), .val (.int (p2.toInt8.toInt32)), .val (.int (3 : Int32))] [(.int (3 : Int32)), (.ref a1)])) tg := by
          intro tg kt
          show Steps p.tables e below (s₁.setTop (mkF m 16 #[.val (.ref a1), .val (.int p2), .val (.int (0 : Int32)), .val (.int (4 : Int32)), .val (.int (p2.toInt8.toInt32)), .val (.int (3 : Int32))] [(.int (3 : Int32)), (.ref a1)])) tg
          refine X0.baloadBytes hx (j := (3 : Int32)) (v := (.int (126 : Int32))) (by rw [e0]; exact Ar16.1) (State.isArrayOf_alike hZ.alike Ar16.2.1) Ar16.2.2 hin16 hat16 (g := (mkF m 16 #[.val (.ref a1), .val (.int p2), .val (.int (0 : Int32)), .val (.int (4 : Int32)), .val (.int (p2.toInt8.toInt32)), .val (.int (3 : Int32))] [(.int (3 : Int32)), (.ref a1)])) rfl rfl (hb hby d11_16) _ ?_
          show Steps p.tables e below (s₁.setTop (mkF m 17 #[.val (.ref a1), .val (.int p2), .val (.int (0 : Int32)), .val (.int (4 : Int32)), .val (.int (p2.toInt8.toInt32)), .val (.int (3 : Int32))] [(.int (126 : Int32))])) tg
          refine XS.iload X0.here hx rfl (hb hby d11_17) rfl ?_
          exact kt
        by_cases hc19_18 : (126 : Int32) = (p2.toInt8.toInt32)
        · -- pc 19: (126 : Int32) = (p2.toInt8.toInt32)
          have st20 : ∀ tg, Steps p.tables e below (s₁.setTop (mkF m 24 #[.val (.ref a1), .val (.int p2), .val (.int (0 : Int32)), .val (.int (4 : Int32)), .val (.int (p2.toInt8.toInt32)), .val (.int (3 : Int32))] [(.int (3 : Int32))])) tg → Steps p.tables e below (s₁.setTop (mkF m 19 #[.val (.ref a1), .val (.int p2), .val (.int (0 : Int32)), .val (.int (4 : Int32)), .val (.int (p2.toInt8.toInt32)), .val (.int (3 : Int32))] [(.int (p2.toInt8.toInt32)), (.int (126 : Int32))])) tg := by
            intro tg kt
            show Steps p.tables e below (s₁.setTop (mkF m 19 #[.val (.ref a1), .val (.int p2), .val (.int (0 : Int32)), .val (.int (4 : Int32)), .val (.int (p2.toInt8.toInt32)), .val (.int (3 : Int32))] [(.int (p2.toInt8.toInt32)), (.int (126 : Int32))])) tg
            refine XS.icmpNo X0.here hx rfl (hb hby d11_19) rfl (XT.ii_ne_f hc19_18) ?_
            show Steps p.tables e below (s₁.setTop (mkF m 22 #[.val (.ref a1), .val (.int p2), .val (.int (0 : Int32)), .val (.int (4 : Int32)), .val (.int (p2.toInt8.toInt32)), .val (.int (3 : Int32))] [])) tg
            refine XS.iload X0.here hx rfl (hb hby d11_22) rfl ?_
            exact kt
          obtain ⟨fs, hr, hrun, hended, hW, hsame⟩ := X0.leave (v := some (.int (3 : Int32))) (fun h => by rw [Bd.returns] at h; cases h)
          refine ⟨_, _, pre0 _ ?_, hrun, hended, _, _, rfl, ?_, ⟨_, rfl⟩, hW, hsame.mono (by decide) (by decide)⟩
          · refine st2 _ ?_
            refine st4 _ ?_
            refine st7 _ ?_
            refine st9 _ ?_
            refine st12 _ ?_
            refine st14 _ ?_
            refine st17 _ ?_
            refine st19 _ ?_
            refine st20 _ ?_
            show Steps p.tables e below (s₁.setTop (mkF m 24 #[.val (.ref a1), .val (.int p2), .val (.int (0 : Int32)), .val (.int (4 : Int32)), .val (.int (p2.toInt8.toInt32)), .val (.int (3 : Int32))] [(.int (3 : Int32))])) _
            exact retI X0 hx Bd.returns (hb hby d11_24) hr
          · show Q11 Z a1 p2 kt h0 n0 _ s₁.heap _
            rw [e0]
            refine ⟨?_, N0, rfl⟩
            simp only [rv11, if_neg hc19_3, if_neg hc19_8, if_neg hc19_13, if_pos hc19_18]
        · -- pc 19: not (126 : Int32) = (p2.toInt8.toInt32)
          have st21 : ∀ tg, Steps p.tables e below (s₁.setTop (mkF m 32 #[.val (.ref a1), .val (.int p2), .val (.int (0 : Int32)), .val (.int (4 : Int32)), .val (.int (p2.toInt8.toInt32)), .val (.int (4 : Int32))] [(.int (-1 : Int32))])) tg → Steps p.tables e below (s₁.setTop (mkF m 19 #[.val (.ref a1), .val (.int p2), .val (.int (0 : Int32)), .val (.int (4 : Int32)), .val (.int (p2.toInt8.toInt32)), .val (.int (3 : Int32))] [(.int (p2.toInt8.toInt32)), (.int (126 : Int32))])) tg := by
            intro tg kt
            show Steps p.tables e below (s₁.setTop (mkF m 19 #[.val (.ref a1), .val (.int p2), .val (.int (0 : Int32)), .val (.int (4 : Int32)), .val (.int (p2.toInt8.toInt32)), .val (.int (3 : Int32))] [(.int (p2.toInt8.toInt32)), (.int (126 : Int32))])) tg
            refine XS.icmpYes X0.here hx rfl (pc0 := 19) (pc' := 25) rfl (hb hby d11_19) rfl (XT.ii_ne_t hc19_18) (by decide) (by decide) ?_
            show Steps p.tables e below (s₁.setTop (mkF m 25 #[.val (.ref a1), .val (.int p2), .val (.int (0 : Int32)), .val (.int (4 : Int32)), .val (.int (p2.toInt8.toInt32)), .val (.int (3 : Int32))] [])) tg
            refine XS.iinc X0.here hx rfl (hb hby d11_25) rfl (l' := #[.val (.ref a1), .val (.int p2), .val (.int (0 : Int32)), .val (.int (4 : Int32)), .val (.int (p2.toInt8.toInt32)), .val (.int (4 : Int32))]) rfl ?_
            show Steps p.tables e below (s₁.setTop (mkF m 28 #[.val (.ref a1), .val (.int p2), .val (.int (0 : Int32)), .val (.int (4 : Int32)), .val (.int (p2.toInt8.toInt32)), .val (.int (4 : Int32))] [])) tg
            refine XS.goto X0.here hx rfl (pc0 := 28) (pc' := 7) rfl (hb hby d11_28) (by decide) (by decide) ?_
            show Steps p.tables e below (s₁.setTop (mkF m 7 #[.val (.ref a1), .val (.int p2), .val (.int (0 : Int32)), .val (.int (4 : Int32)), .val (.int (p2.toInt8.toInt32)), .val (.int (4 : Int32))] [])) tg
            refine XS.iload X0.here hx rfl (hb hby d11_7) rfl ?_
            show Steps p.tables e below (s₁.setTop (mkF m 9 #[.val (.ref a1), .val (.int p2), .val (.int (0 : Int32)), .val (.int (4 : Int32)), .val (.int (p2.toInt8.toInt32)), .val (.int (4 : Int32))] [(.int (4 : Int32))])) tg
            refine XS.iloadN X0.here hx rfl (hb hby d11_9) rfl ?_
            show Steps p.tables e below (s₁.setTop (mkF m 10 #[.val (.ref a1), .val (.int p2), .val (.int (0 : Int32)), .val (.int (4 : Int32)), .val (.int (p2.toInt8.toInt32)), .val (.int (4 : Int32))] [(.int (4 : Int32)), (.int (4 : Int32))])) tg
            refine XS.icmpYes X0.here hx rfl (pc0 := 10) (pc' := 31) rfl (hb hby d11_10) rfl (XT.ii_ge_t (by decide)) (by decide) (by decide) ?_
            show Steps p.tables e below (s₁.setTop (mkF m 31 #[.val (.ref a1), .val (.int p2), .val (.int (0 : Int32)), .val (.int (4 : Int32)), .val (.int (p2.toInt8.toInt32)), .val (.int (4 : Int32))] [])) tg
            refine XS.iconst X0.here hx rfl (hb hby d11_31) ?_
            exact kt
          obtain ⟨fs, hr, hrun, hended, hW, hsame⟩ := X0.leave (v := some (.int (-1 : Int32))) (fun h => by rw [Bd.returns] at h; cases h)
          refine ⟨_, _, pre0 _ ?_, hrun, hended, _, _, rfl, ?_, ⟨_, rfl⟩, hW, hsame.mono (by decide) (by decide)⟩
          · refine st2 _ ?_
            refine st4 _ ?_
            refine st7 _ ?_
            refine st9 _ ?_
            refine st12 _ ?_
            refine st14 _ ?_
            refine st17 _ ?_
            refine st19 _ ?_
            refine st21 _ ?_
            show Steps p.tables e below (s₁.setTop (mkF m 32 #[.val (.ref a1), .val (.int p2), .val (.int (0 : Int32)), .val (.int (4 : Int32)), .val (.int (p2.toInt8.toInt32)), .val (.int (4 : Int32))] [(.int (-1 : Int32))])) _
            exact retI X0 hx Bd.returns (hb hby d11_32) hr
          · show Q11 Z a1 p2 kt h0 n0 _ s₁.heap _
            rw [e0]
            refine ⟨?_, N0, rfl⟩
            simp only [rv11, if_neg hc19_3, if_neg hc19_8, if_neg hc19_13, if_neg hc19_18]
theorem d7_0 : decode jdk_43_method_22_code 0 = .ok (.iload_n 1, 1) := by decide +kernel
theorem d7_1 : decode jdk_43_method_22_code 1 = .ok (.invokestatic 88, 3) := by decide +kernel
theorem d7_4 : decode jdk_43_method_22_code 4 = .ok (.ifCond .ne 5, 3) := by decide +kernel
theorem d7_7 : decode jdk_43_method_22_code 7 = .ok (.iconst (-1), 1) := by decide +kernel
theorem d7_8 : decode jdk_43_method_22_code 8 = .ok (.ireturn, 1) := by decide +kernel
theorem d7_9 : decode jdk_43_method_22_code 9 = .ok (.iload_n 2, 1) := by decide +kernel
theorem d7_10 : decode jdk_43_method_22_code 10 = .ok (.iconst 0, 1) := by decide +kernel
theorem d7_11 : decode jdk_43_method_22_code 11 = .ok (.invokestatic 92, 3) := by decide +kernel
theorem d7_14 : decode jdk_43_method_22_code 14 = .ok (.istore_n 2, 1) := by decide +kernel
theorem d7_15 : decode jdk_43_method_22_code 15 = .ok (.iload_n 3, 1) := by decide +kernel
theorem d7_16 : decode jdk_43_method_22_code 16 = .ok (.aload_n 0, 1) := by decide +kernel
theorem d7_17 : decode jdk_43_method_22_code 17 = .ok (.arraylength, 1) := by decide +kernel
theorem d7_18 : decode jdk_43_method_22_code 18 = .ok (.invokestatic 38, 3) := by decide +kernel
theorem d7_21 : decode jdk_43_method_22_code 21 = .ok (.istore_n 3, 1) := by decide +kernel
theorem d7_22 : decode jdk_43_method_22_code 22 = .ok (.iload_n 2, 1) := by decide +kernel
theorem d7_23 : decode jdk_43_method_22_code 23 = .ok (.iload_n 3, 1) := by decide +kernel
theorem d7_24 : decode jdk_43_method_22_code 24 = .ok (.if_icmp .lt 5, 3) := by decide +kernel
theorem d7_29 : decode jdk_43_method_22_code 29 = .ok (.aload_n 0, 1) := by decide +kernel
theorem d7_30 : decode jdk_43_method_22_code 30 = .ok (.iload_n 1, 1) := by decide +kernel
theorem d7_31 : decode jdk_43_method_22_code 31 = .ok (.iload_n 2, 1) := by decide +kernel
theorem d7_32 : decode jdk_43_method_22_code 32 = .ok (.iload_n 3, 1) := by decide +kernel
theorem d7_33 : decode jdk_43_method_22_code 33 = .ok (.invokestatic 95, 3) := by decide +kernel
theorem d7_36 : decode jdk_43_method_22_code 36 = .ok (.ireturn, 1) := by decide +kernel
theorem pn_7 : plainName "java/lang/StringLatin1" = true := by first | (simp [plainName, overriddenIn]; done) | decide +kernel
theorem ef_7 (m : MethodId) (a1 : Addr) (p2 : Int32) : entryFrame m #[(.ref a1), (.int p2), (.int (0 : Int32)), (.int (4 : Int32))] 4 = mkF m 0 #[.val (.ref a1), .val (.int p2), .val (.int (0 : Int32)), .val (.int (4 : Int32))] [] := by first | (simp [entryFrame, mkF, argsToLocals, Value.category]; done) | rfl
def rv7 (a1 : Addr) (p2 : Int32) (kt : ClassId) : Int32 :=
  if (rv8 p2) = 0 then (-1 : Int32) else (rv11 a1 p2 kt)
def Q7 (Z : State) (a1 : Addr) (p2 : Int32) (kt : ClassId) (h0 : Heap) (n0 : Nat) (v : Option Value) (h : Heap) (L : List Loc) : Prop := v = some (.int (rv7 a1 p2 kt)) ∧ Fr n0 L ∧ h = h0
set_option maxRecDepth 65536 in
set_option maxHeartbeats 40000000 in
theorem rm7 (l : Launch) (Z : State) (a0 : Array Value) (hw : ∀ d ∈ tables_1, d.before a0 Z = true) (ws : List Jvm.Cond) (a1 : Addr) (p2 : Int32) (kt : ClassId) (h0 : Heap) (n0 : Nat) (Z0 : n0 ≤ h0.size) (FA : Arv Z h0 a1 kt .byte (4 : Int32) [(.int (45 : Int32)), (.int (46 : Int32)), (.int (95 : Int32)), (.int (126 : Int32))] (.int 0)) :
    MetFree l (⟨"java/lang/StringLatin1", "indexOf", "([BIII)I"⟩ : MethodName) (head1 (Jvm.Cond.code (⟨"java/lang/StringLatin1", "indexOf", "([BIII)I"⟩ : MethodName) jdk_43_method_22_code 4 (some .int) :: ws) ({ frames := 1, cells := 0, slots := 0, locals := 17 } : Room)) (fun a U => a = #[(.ref a1), (.int p2), (.int (0 : Int32)), (.int (4 : Int32))] ∧ Z.Warmed39 U.vm ∧ U.heap = h0) (fun _ _ _ _ _ => True) (fun _ U oo U' => ∃ v L, oo = .returned v ∧ Q7 Z a1 p2 kt h0 n0 v U'.heap L ∧ FrameEnd U oo U' L ({ frames := 1, cells := 0, slots := 0, locals := 17 } : Room).cells ({ frames := 1, cells := 0, slots := 0, locals := 17 } : Room).slots) := by
  refine MetFree.of_bodySF (plainFor_of_name pn_7) hisR ?_
  intro p e s m args below meth c s₁ Bd hml0 hP hK
  obtain ⟨rfl, hZ, hh⟩ := hP
  have hx := Bd.exec
  have hby := Bd.bytes
  have hml : c.maxLocals = 4 := hml0
  have hown : s.vm.findClass "java/lang/StringLatin1" = some m.cls := findClass_of_methodNamed Bd.named
  have hnm := (name_of_methodNamed Bd.named Bd.method).1
  have X0 : Stand p l e ({ frames := 1, cells := 0, slots := 0, locals := 17 } : Room) s m #[(.ref a1), (.int p2), (.int (0 : Int32)), (.int (4 : Int32))] below meth c s₁ [] 0 0 := Stand.of_body Bd
  have e0 : s₁.heap = h0 := by rw [← hh, Bd.state]; rfl
  have N0 := Fr.nil n0
  have K0 : Keep h0 h0 [] := Keep.refl _ _
  have pre0 : ∀ tg, Steps p.tables e below (s₁.setTop (mkF m 0 #[.val (.ref a1), .val (.int p2), .val (.int (0 : Int32)), .val (.int (4 : Int32))] [])) tg → Steps p.tables e below (s₁.setTop (entryFrame m #[(.ref a1), (.int p2), (.int (0 : Int32)), (.int (4 : Int32))] 4)) tg := fun tg k => castTop (ef_7 m a1 p2) k
  have st1 : ∀ tg, Steps p.tables e below (s₁.setTop (mkF m 1 #[.val (.ref a1), .val (.int p2), .val (.int (0 : Int32)), .val (.int (4 : Int32))] [(.int p2)])) tg → Steps p.tables e below (s₁.setTop (mkF m 0 #[.val (.ref a1), .val (.int p2), .val (.int (0 : Int32)), .val (.int (4 : Int32))] [])) tg := by
    intro tg kt
    show Steps p.tables e below (s₁.setTop (mkF m 0 #[.val (.ref a1), .val (.int p2), .val (.int (0 : Int32)), .val (.int (4 : Int32))] [])) tg
    refine XS.iloadN X0.here hx rfl (hb hby d7_0) rfl ?_
    exact kt
  obtain ⟨_, _, ⟨T2, L2, k2, n2⟩, -, X2, ⟨Lc2, hQ2, l2, y2, z2⟩, st2⟩ := Jvm.LawKit.callS X0 hx (y := (⟨"java/lang/StringLatin1", "canEncode", "(I)Z"⟩ : MethodName)) hown (mvT hZ (hw _ (List.mem_of_getElem? (i := 45) rfl))) (mvT hZ (hw _ (List.mem_of_getElem? (i := 46) rfl))) (mvT hZ (hw _ (List.mem_of_getElem? (i := 43) rfl))) (mvT hZ (hw _ (List.mem_of_getElem? (i := 47) rfl))) (by decide) (backOf (W := 0) (rm8 l Z a0 hw [] p2 h0 n0 Z0) hZ (hw _ (List.mem_of_getElem? (i := 47) rfl)) (hw _ (List.mem_of_getElem? (i := 43) rfl)) (by decide) (by decide)) (g := (mkF m 1 #[.val (.ref a1), .val (.int p2), .val (.int (0 : Int32)), .val (.int (4 : Int32))] [(.int p2)])) rfl (by rw [hml]; rfl) (argsL := [(.int p2)]) (rest := []) (lenOf pd_0 rfl) rfl (by show 2 * 0 + _ ≤ _; exact Nat.le_of_eq rfl) (hb hby d7_1) (fun _ _ => ⟨rfl, e0, (by decide : 0 + 0 ≤ _), (by decide : 0 + 0 ≤ _)⟩)
  dsimp only [Pt.U, Pt.locs, Pt.cells, Pt.slots] at X2 l2 y2 z2 st2 hQ2
  subst l2 y2 z2
  obtain ⟨rfl, N2q, e2⟩ := hQ2
  have N2 := Fr.app N0 N2q
  obtain ⟨r2, hr2⟩ : ∃ z, z = rv8 p2 := ⟨_, rfl⟩
  rw [← hr2] at st2
  by_cases hc4_3 : r2 = 0
  · -- pc 4: r2 = 0
    have st4 : ∀ tg, Steps p.tables e below (T2.setTop (mkF m 8 #[.val (.ref a1), .val (.int p2), .val (.int (0 : Int32)), .val (.int (4 : Int32))] [(.int (-1 : Int32))])) tg → Steps p.tables e below (T2.setTop (mkF m 4 #[.val (.ref a1), .val (.int p2), .val (.int (0 : Int32)), .val (.int (4 : Int32))] [(.int r2)])) tg := by
      intro tg kt
      show Steps p.tables e below (T2.setTop (mkF m 4 #[.val (.ref a1), .val (.int p2), .val (.int (0 : Int32)), .val (.int (4 : Int32))] [(.int r2)])) tg
      refine XS.ifNo X2.here hx rfl (hb hby d7_4) rfl (XT.i0_ne_f hc4_3) ?_
      show Steps p.tables e below (T2.setTop (mkF m 7 #[.val (.ref a1), .val (.int p2), .val (.int (0 : Int32)), .val (.int (4 : Int32))] [])) tg
      refine XS.iconst X2.here hx rfl (hb hby d7_7) ?_
      exact kt
    obtain ⟨fs, hr, hrun, hended, hW, hsame⟩ := X2.leave (v := some (.int (-1 : Int32))) (fun h => by rw [Bd.returns] at h; cases h)
    refine ⟨_, _, pre0 _ ?_, hrun, hended, _, _, rfl, ?_, ⟨_, rfl⟩, hW, hsame.mono (by decide) (by decide)⟩
    · refine st1 _ ?_
      show Steps p.tables e below (s₁.setTop (mkF m 1 #[.val (.ref a1), .val (.int p2), .val (.int (0 : Int32)), .val (.int (4 : Int32))] [(.int p2)])) _
      refine st2 _ ?_
      refine st4 _ ?_
      show Steps p.tables e below (T2.setTop (mkF m 8 #[.val (.ref a1), .val (.int p2), .val (.int (0 : Int32)), .val (.int (4 : Int32))] [(.int (-1 : Int32))])) _
      exact retI X2 hx Bd.returns (hb hby d7_8) hr
    · show Q7 Z a1 p2 kt h0 n0 _ T2.heap _
      rw [e2]
      refine ⟨?_, N2, rfl⟩
      subst hr2; simp only [rv7, if_pos hc4_3]
  · -- pc 4: not r2 = 0
    have st5 : ∀ tg, Steps p.tables e below (T2.setTop (mkF m 11 #[.val (.ref a1), .val (.int p2), .val (.int (0 : Int32)), .val (.int (4 : Int32))] [(.int (0 : Int32)), (.int (0 : Int32))])) tg → Steps p.tables e below (T2.setTop (mkF m 4 #[.val (.ref a1), .val (.int p2), .val (.int (0 : Int32)), .val (.int (4 : Int32))] [(.int r2)])) tg := by
      intro tg kt
      show Steps p.tables e below (T2.setTop (mkF m 4 #[.val (.ref a1), .val (.int p2), .val (.int (0 : Int32)), .val (.int (4 : Int32))] [(.int r2)])) tg
      refine XS.ifYes X2.here hx rfl (pc0 := 4) (pc' := 9) rfl (hb hby d7_4) rfl (XT.i0_ne_t hc4_3) (by decide) (by decide) ?_
      show Steps p.tables e below (T2.setTop (mkF m 9 #[.val (.ref a1), .val (.int p2), .val (.int (0 : Int32)), .val (.int (4 : Int32))] [])) tg
      refine XS.iloadN X2.here hx rfl (hb hby d7_9) rfl ?_
      show Steps p.tables e below (T2.setTop (mkF m 10 #[.val (.ref a1), .val (.int p2), .val (.int (0 : Int32)), .val (.int (4 : Int32))] [(.int (0 : Int32))])) tg
      refine XS.iconst X2.here hx rfl (hb hby d7_10) ?_
      exact kt
    obtain ⟨_, _, ⟨T6, L6, k6, n6⟩, -, X6, ⟨Lc6, hQ6, l6, y6, z6⟩, st6⟩ := Jvm.LawKit.callS X2 hx (y := (⟨"java/lang/Math", "max", "(II)I"⟩ : MethodName)) hown (mvT hZ (hw _ (List.mem_of_getElem? (i := 48) rfl))) (mvT hZ (hw _ (List.mem_of_getElem? (i := 49) rfl))) (mvT hZ (hw _ (List.mem_of_getElem? (i := 50) rfl))) (mvT hZ (hw _ (List.mem_of_getElem? (i := 51) rfl))) (by decide) (backOf (W := 0) (rm9 l Z a0 hw [] (0 : Int32) (0 : Int32) h0 n0 Z0) hZ (hw _ (List.mem_of_getElem? (i := 51) rfl)) (hw _ (List.mem_of_getElem? (i := 50) rfl)) (by decide) (by decide)) (g := (mkF m 11 #[.val (.ref a1), .val (.int p2), .val (.int (0 : Int32)), .val (.int (4 : Int32))] [(.int (0 : Int32)), (.int (0 : Int32))])) rfl (by rw [hml]; rfl) (argsL := [(.int (0 : Int32)), (.int (0 : Int32))]) (rest := []) (lenOf pd_1 rfl) rfl (by show 2 * 0 + _ ≤ _; exact Nat.le_of_eq rfl) (hb hby d7_11) (fun _ _ => ⟨rfl, e2, (by decide : 0 + 0 ≤ _), (by decide : 0 + 0 ≤ _)⟩)
    dsimp only [Pt.U, Pt.locs, Pt.cells, Pt.slots] at X6 l6 y6 z6 st6 hQ6
    subst l6 y6 z6
    obtain ⟨rfl, N6q, e6⟩ := hQ6
    have N6 := Fr.app N2 N6q
    obtain ⟨r6, hr6⟩ : ∃ z, z = rv9 (0 : Int32) (0 : Int32) := ⟨_, rfl⟩
    rw [← hr6] at st6
    have hyr6 : r6 = (0 : Int32) := by rw [hr6]; first | rfl | decide
    rw [hyr6] at st6
    have st8 : ∀ tg, Steps p.tables e below (T6.setTop (mkF m 17 #[.val (.ref a1), .val (.int p2), .val (.int (0 : Int32)), .val (.int (4 : Int32))] [(.ref a1), (.int (4 : Int32))])) tg → Steps p.tables e below (T6.setTop (mkF m 14 #[.val (.ref a1), .val (.int p2), .val (.int (0 : Int32)), .val (.int (4 : Int32))] [(.int (0 : Int32))])) tg := by
      intro tg kt
      show Steps p.tables e below (T6.setTop (mkF m 14 #[.val (.ref a1), .val (.int p2), .val (.int (0 : Int32)), .val (.int (4 : Int32))] [(.int (0 : Int32))])) tg
      refine XS.istoreN X6.here hx rfl (hb hby d7_14) rfl (l' := #[.val (.ref a1), .val (.int p2), .val (.int (0 : Int32)), .val (.int (4 : Int32))]) rfl ?_
      show Steps p.tables e below (T6.setTop (mkF m 15 #[.val (.ref a1), .val (.int p2), .val (.int (0 : Int32)), .val (.int (4 : Int32))] [])) tg
      refine XS.iloadN X6.here hx rfl (hb hby d7_15) rfl ?_
      show Steps p.tables e below (T6.setTop (mkF m 16 #[.val (.ref a1), .val (.int p2), .val (.int (0 : Int32)), .val (.int (4 : Int32))] [(.int (4 : Int32))])) tg
      refine XS.aloadN X6.here hx rfl (hb hby d7_16) rfl rfl ?_
      exact kt
    obtain ⟨cl7, Ar7, qa7, Sa7, Na7, Ha7, Ga7⟩ := id FA
    have st9 : ∀ tg, Steps p.tables e below (T6.setTop (mkF m 18 #[.val (.ref a1), .val (.int p2), .val (.int (0 : Int32)), .val (.int (4 : Int32))] [(.int (4 : Int32)), (.int (4 : Int32))])) tg → Steps p.tables e below (T6.setTop (mkF m 17 #[.val (.ref a1), .val (.int p2), .val (.int (0 : Int32)), .val (.int (4 : Int32))] [(.ref a1), (.int (4 : Int32))])) tg := by
      intro tg kt
      show Steps p.tables e below (T6.setTop (mkF m 17 #[.val (.ref a1), .val (.int p2), .val (.int (0 : Int32)), .val (.int (4 : Int32))] [(.ref a1), (.int (4 : Int32))])) tg
      refine X6.arraylength hx (by rw [e6]; exact Ar7.1) (State.isArrayOf_alike hZ.alike Ar7.2.1) (g := (mkF m 17 #[.val (.ref a1), .val (.int p2), .val (.int (0 : Int32)), .val (.int (4 : Int32))] [(.ref a1), (.int (4 : Int32))])) rfl rfl (hb hby d7_17) _ ?_
      rw [len_of Sa7 Na7]
      exact kt
    obtain ⟨_, _, ⟨T10, L10, k10, n10⟩, -, X10, ⟨Lc10, hQ10, l10, y10, z10⟩, st10⟩ := Jvm.LawKit.callS X6 hx (y := (⟨"java/lang/Math", "min", "(II)I"⟩ : MethodName)) hown (mvT hZ (hw _ (List.mem_of_getElem? (i := 52) rfl))) (mvT hZ (hw _ (List.mem_of_getElem? (i := 53) rfl))) (mvT hZ (hw _ (List.mem_of_getElem? (i := 50) rfl))) (mvT hZ (hw _ (List.mem_of_getElem? (i := 54) rfl))) (by decide) (backOf (W := 0) (rm10 l Z a0 hw [] (4 : Int32) (4 : Int32) h0 n0 Z0) hZ (hw _ (List.mem_of_getElem? (i := 54) rfl)) (hw _ (List.mem_of_getElem? (i := 50) rfl)) (by decide) (by decide)) (g := (mkF m 18 #[.val (.ref a1), .val (.int p2), .val (.int (0 : Int32)), .val (.int (4 : Int32))] [(.int (4 : Int32)), (.int (4 : Int32))])) rfl (by rw [hml]; rfl) (argsL := [(.int (4 : Int32)), (.int (4 : Int32))]) (rest := []) (lenOf pd_1 rfl) rfl (by show 2 * 0 + _ ≤ _; exact Nat.le_of_eq rfl) (hb hby d7_18) (fun _ _ => ⟨rfl, e6, (by decide : 0 + 0 ≤ _), (by decide : 0 + 0 ≤ _)⟩)
    dsimp only [Pt.U, Pt.locs, Pt.cells, Pt.slots] at X10 l10 y10 z10 st10 hQ10
    subst l10 y10 z10
    obtain ⟨rfl, N10q, e10⟩ := hQ10
    have N10 := Fr.app N6 N10q
    obtain ⟨r10, hr10⟩ : ∃ z, z = rv10 (4 : Int32) (4 : Int32) := ⟨_, rfl⟩
    rw [← hr10] at st10
    have hyr10 : r10 = (4 : Int32) := by rw [hr10]; first | rfl | decide
    rw [hyr10] at st10
    have st11 : ∀ tg, Steps p.tables e below (T10.setTop (mkF m 33 #[.val (.ref a1), .val (.int p2), .val (.int (0 : Int32)), .val (.int (4 : Int32))] [(.int (4 : Int32)), (.int (0 : Int32)), (.int p2), (.ref a1)])) tg → Steps p.tables e below (T10.setTop (mkF m 21 #[.val (.ref a1), .val (.int p2), .val (.int (0 : Int32)), .val (.int (4 : Int32))] [(.int (4 : Int32))])) tg := by
      intro tg kt
      show Steps p.tables e below (T10.setTop (mkF m 21 #[.val (.ref a1), .val (.int p2), .val (.int (0 : Int32)), .val (.int (4 : Int32))] [(.int (4 : Int32))])) tg
      refine XS.istoreN X10.here hx rfl (hb hby d7_21) rfl (l' := #[.val (.ref a1), .val (.int p2), .val (.int (0 : Int32)), .val (.int (4 : Int32))]) rfl ?_
      show Steps p.tables e below (T10.setTop (mkF m 22 #[.val (.ref a1), .val (.int p2), .val (.int (0 : Int32)), .val (.int (4 : Int32))] [])) tg
      refine XS.iloadN X10.here hx rfl (hb hby d7_22) rfl ?_
      show Steps p.tables e below (T10.setTop (mkF m 23 #[.val (.ref a1), .val (.int p2), .val (.int (0 : Int32)), .val (.int (4 : Int32))] [(.int (0 : Int32))])) tg
      refine XS.iloadN X10.here hx rfl (hb hby d7_23) rfl ?_
      show Steps p.tables e below (T10.setTop (mkF m 24 #[.val (.ref a1), .val (.int p2), .val (.int (0 : Int32)), .val (.int (4 : Int32))] [(.int (4 : Int32)), (.int (0 : Int32))])) tg
      refine XS.icmpYes X10.here hx rfl (pc0 := 24) (pc' := 29) rfl (hb hby d7_24) rfl (XT.ii_lt_t (by decide)) (by decide) (by decide) ?_
      show Steps p.tables e below (T10.setTop (mkF m 29 #[.val (.ref a1), .val (.int p2), .val (.int (0 : Int32)), .val (.int (4 : Int32))] [])) tg
      refine XS.aloadN X10.here hx rfl (hb hby d7_29) rfl rfl ?_
      show Steps p.tables e below (T10.setTop (mkF m 30 #[.val (.ref a1), .val (.int p2), .val (.int (0 : Int32)), .val (.int (4 : Int32))] [(.ref a1)])) tg
      refine XS.iloadN X10.here hx rfl (hb hby d7_30) rfl ?_
      show Steps p.tables e below (T10.setTop (mkF m 31 #[.val (.ref a1), .val (.int p2), .val (.int (0 : Int32)), .val (.int (4 : Int32))] [(.int p2), (.ref a1)])) tg
      refine XS.iloadN X10.here hx rfl (hb hby d7_31) rfl ?_
      show Steps p.tables e below (T10.setTop (mkF m 32 #[.val (.ref a1), .val (.int p2), .val (.int (0 : Int32)), .val (.int (4 : Int32))] [(.int (0 : Int32)), (.int p2), (.ref a1)])) tg
      refine XS.iloadN X10.here hx rfl (hb hby d7_32) rfl ?_
      exact kt
    obtain ⟨_, _, ⟨T12, L12, k12, n12⟩, -, X12, ⟨Lc12, hQ12, l12, y12, z12⟩, st12⟩ := Jvm.LawKit.callS X10 hx (y := (⟨"java/lang/StringLatin1", "indexOfChar", "([BIII)I"⟩ : MethodName)) hown (mvT hZ (hw _ (List.mem_of_getElem? (i := 55) rfl))) (mvT hZ (hw _ (List.mem_of_getElem? (i := 56) rfl))) (mvT hZ (hw _ (List.mem_of_getElem? (i := 43) rfl))) (mvT hZ (hw _ (List.mem_of_getElem? (i := 57) rfl))) (by decide) (backOf (W := 0) (rm11 l Z a0 hw [] a1 p2 kt h0 n0 Z0 FA) hZ (hw _ (List.mem_of_getElem? (i := 57) rfl)) (hw _ (List.mem_of_getElem? (i := 43) rfl)) (by decide) (by decide)) (g := (mkF m 33 #[.val (.ref a1), .val (.int p2), .val (.int (0 : Int32)), .val (.int (4 : Int32))] [(.int (4 : Int32)), (.int (0 : Int32)), (.int p2), (.ref a1)])) rfl (by rw [hml]; rfl) (argsL := [(.ref a1), (.int p2), (.int (0 : Int32)), (.int (4 : Int32))]) (rest := []) (lenOf pd_2 rfl) rfl (by show 2 * 0 + _ ≤ _; exact Nat.le_of_eq rfl) (hb hby d7_33) (fun _ _ => ⟨rfl, e10, (by decide : 0 + 0 ≤ _), (by decide : 0 + 0 ≤ _)⟩)
    dsimp only [Pt.U, Pt.locs, Pt.cells, Pt.slots] at X12 l12 y12 z12 st12 hQ12
    subst l12 y12 z12
    obtain ⟨rfl, N12q, e12⟩ := hQ12
    have N12 := Fr.app N10 N12q
    obtain ⟨r12, hr12⟩ : ∃ z, z = rv11 a1 p2 kt := ⟨_, rfl⟩
    rw [← hr12] at st12
    obtain ⟨fs, hr, hrun, hended, hW, hsame⟩ := X12.leave (v := some (.int r12)) (fun h => by rw [Bd.returns] at h; cases h)
    refine ⟨_, _, pre0 _ ?_, hrun, hended, _, _, rfl, ?_, ⟨_, rfl⟩, hW, hsame.mono (by decide) (by decide)⟩
    · refine st1 _ ?_
      show Steps p.tables e below (s₁.setTop (mkF m 1 #[.val (.ref a1), .val (.int p2), .val (.int (0 : Int32)), .val (.int (4 : Int32))] [(.int p2)])) _
      refine st2 _ ?_
      refine st5 _ ?_
      show Steps p.tables e below (T2.setTop (mkF m 11 #[.val (.ref a1), .val (.int p2), .val (.int (0 : Int32)), .val (.int (4 : Int32))] [(.int (0 : Int32)), (.int (0 : Int32))])) _
      refine st6 _ ?_
      refine st8 _ ?_
      refine st9 _ ?_
      show Steps p.tables e below (T6.setTop (mkF m 18 #[.val (.ref a1), .val (.int p2), .val (.int (0 : Int32)), .val (.int (4 : Int32))] [(.int (4 : Int32)), (.int (4 : Int32))])) _
      refine st10 _ ?_
      refine st11 _ ?_
      show Steps p.tables e below (T10.setTop (mkF m 33 #[.val (.ref a1), .val (.int p2), .val (.int (0 : Int32)), .val (.int (4 : Int32))] [(.int (4 : Int32)), (.int (0 : Int32)), (.int p2), (.ref a1)])) _
      refine st12 _ ?_
      show Steps p.tables e below (T12.setTop (mkF m 36 #[.val (.ref a1), .val (.int p2), .val (.int (0 : Int32)), .val (.int (4 : Int32))] [(.int r12)])) _
      exact retI X12 hx Bd.returns (hb hby d7_36) hr
    · show Q7 Z a1 p2 kt h0 n0 _ T12.heap _
      rw [e12]
      refine ⟨?_, N12, rfl⟩
      subst hr12; subst hr10; subst hr6; subst hr2; simp only [rv7, if_neg hc4_3]
theorem d6_0 : decode jdk_42_method_152_code 0 = .ok (.getstatic 38, 3) := by decide +kernel
theorem d6_3 : decode jdk_42_method_152_code 3 = .ok (.ifCond .eq 10, 3) := by decide +kernel
theorem d6_6 : decode jdk_42_method_152_code 6 = .ok (.aload_n 0, 1) := by decide +kernel
theorem d6_7 : decode jdk_42_method_152_code 7 = .ok (.getfield 15, 3) := by decide +kernel
theorem d6_10 : decode jdk_42_method_152_code 10 = .ok (.goto 4, 3) := by decide +kernel
theorem d6_14 : decode jdk_42_method_152_code 14 = .ok (.ireturn, 1) := by decide +kernel
theorem pn_6 : plainName "java/lang/String" = true := by first | (simp [plainName, overriddenIn]; done) | decide +kernel
theorem ef_6 (m : MethodId) (a1 : Addr) : entryFrame m #[(.ref a1)] 1 = mkF m 0 #[.val (.ref a1)] [] := by first | (simp [entryFrame, mkF, argsToLocals, Value.category]; done) | rfl
def rv6 (a1 : Addr) (wc : Int32) : Int32 :=
  (0 : Int32)
def Q6 (Z : State) (a1 : Addr) (wc : Int32) (h0 : Heap) (n0 : Nat) (v : Option Value) (h : Heap) (L : List Loc) : Prop := v = some (.int (rv6 a1 wc)) ∧ Fr n0 L ∧ h = h0
set_option maxRecDepth 65536 in
set_option maxHeartbeats 40000000 in
theorem rm6 (l : Launch) (Z : State) (a0 : Array Value) (hw : ∀ d ∈ tables_1, d.before a0 Z = true) (ws : List Jvm.Cond) (a1 : Addr) (wc : Int32) (h0 : Heap) (n0 : Nat) (Z0 : n0 ≤ h0.size) (OLD : Old Z n0 h0) (S_c : Sta Z Z.heap "java/lang/String" "COMPACT_STRINGS" "Z" (.int wc)) (hwc : ¬ wc = 0) (FC : Fld Z h0 a1 "java/lang/String" "coder" "B" (.int (0 : Int32))) :
    MetFree l (⟨"java/lang/String", "coder", "()B"⟩ : MethodName) (head1 (Jvm.Cond.code (⟨"java/lang/String", "coder", "()B"⟩ : MethodName) jdk_42_method_152_code 1 (some .byte) :: ws) ({ frames := 0, cells := 0, slots := 0, locals := 0 } : Room)) (fun a U => a = #[(.ref a1)] ∧ Z.Warmed39 U.vm ∧ U.heap = h0) (fun _ _ _ _ _ => True) (fun _ U oo U' => ∃ v L, oo = .returned v ∧ Q6 Z a1 wc h0 n0 v U'.heap L ∧ FrameEnd U oo U' L ({ frames := 0, cells := 0, slots := 0, locals := 0 } : Room).cells ({ frames := 0, cells := 0, slots := 0, locals := 0 } : Room).slots) := by
  refine MetFree.of_bodySF (plainFor_of_name pn_6) hisR ?_
  intro p e s m args below meth c s₁ Bd hml0 hP hK
  obtain ⟨rfl, hZ, hh⟩ := hP
  have hx := Bd.exec
  have hby := Bd.bytes
  have hml : c.maxLocals = 1 := hml0
  have hown : s.vm.findClass "java/lang/String" = some m.cls := findClass_of_methodNamed Bd.named
  have hnm := (name_of_methodNamed Bd.named Bd.method).1
  have X0 : Stand p l e ({ frames := 0, cells := 0, slots := 0, locals := 0 } : Room) s m #[(.ref a1)] below meth c s₁ [] 0 0 := Stand.of_body Bd
  have e0 : s₁.heap = h0 := by rw [← hh, Bd.state]; rfl
  have N0 := Fr.nil n0
  have K0 : Keep h0 h0 [] := Keep.refl _ _
  have pre0 : ∀ tg, Steps p.tables e below (s₁.setTop (mkF m 0 #[.val (.ref a1)] [])) tg → Steps p.tables e below (s₁.setTop (entryFrame m #[(.ref a1)] 1)) tg := fun tg k => castTop (ef_6 m a1) k
  obtain ⟨T1, X1, e1, st1⟩ := getS2 X0 hx hZ hown (host := "") (Or.inl (hw _ (List.mem_of_getElem? (i := 28) rfl))) Via.refl e0 (Sta.ext OLD.2 S_c) (g := (mkF m 0 #[.val (.ref a1)] [])) rfl (hb hby d6_0)
  have st2 : ∀ tg, Steps p.tables e below (T1.setTop (mkF m 7 #[.val (.ref a1)] [(.ref a1)])) tg → Steps p.tables e below (T1.setTop (mkF m 3 #[.val (.ref a1)] [(.int wc)])) tg := by
    intro tg kt
    show Steps p.tables e below (T1.setTop (mkF m 3 #[.val (.ref a1)] [(.int wc)])) tg
    refine XS.ifNo X1.here hx rfl (hb hby d6_3) rfl (XT.i0_eq_f hwc) ?_
    show Steps p.tables e below (T1.setTop (mkF m 6 #[.val (.ref a1)] [])) tg
    refine XS.aloadN X1.here hx rfl (hb hby d6_6) rfl rfl ?_
    exact kt
  obtain ⟨T3, X3, e3, st3⟩ := getF X1 hx hZ hown (host := "") (Or.inl (hw _ (List.mem_of_getElem? (i := 29) rfl))) Via.refl e1 FC (g := (mkF m 7 #[.val (.ref a1)] [(.ref a1)])) rfl rfl (hb hby d6_7)
  have st4 : ∀ tg, Steps p.tables e below (T3.setTop (mkF m 14 #[.val (.ref a1)] [(.int (0 : Int32))])) tg → Steps p.tables e below (T3.setTop (mkF m 10 #[.val (.ref a1)] [(.int (0 : Int32))])) tg := by
    intro tg kt
    show Steps p.tables e below (T3.setTop (mkF m 10 #[.val (.ref a1)] [(.int (0 : Int32))])) tg
    refine XS.goto X3.here hx rfl (pc0 := 10) (pc' := 14) rfl (hb hby d6_10) (by decide) (by decide) ?_
    exact kt
  obtain ⟨fs, hr, hrun, hended, hW, hsame⟩ := X3.leave (v := some (.int (0 : Int32))) (fun h => by rw [Bd.returns] at h; cases h)
  refine ⟨_, _, pre0 _ ?_, hrun, hended, _, _, rfl, ?_, ⟨_, rfl⟩, hW, hsame.mono (by decide) (by decide)⟩
  · show Steps p.tables e below (s₁.setTop (mkF m 0 #[.val (.ref a1)] [])) _
    refine st1 _ ?_
    refine st2 _ ?_
    show Steps p.tables e below (T1.setTop (mkF m 7 #[.val (.ref a1)] [(.ref a1)])) _
    refine st3 _ ?_
    refine st4 _ ?_
    show Steps p.tables e below (T3.setTop (mkF m 14 #[.val (.ref a1)] [(.int (0 : Int32))])) _
    exact retN X3 hx (t := .byte) Bd.returns (by simp) (hb hby d6_14) hr
  · show Q6 Z a1 wc h0 n0 _ T3.heap _
    rw [e3]
    refine ⟨?_, N0, rfl⟩
    simp only [rv6, if_neg hwc]
theorem d5_0 : decode jdk_42_method_54_code 0 = .ok (.aload_n 0, 1) := by decide +kernel
theorem d5_1 : decode jdk_42_method_54_code 1 = .ok (.getfield 9, 3) := by decide +kernel
theorem d5_4 : decode jdk_42_method_54_code 4 = .ok (.arraylength, 1) := by decide +kernel
theorem d5_5 : decode jdk_42_method_54_code 5 = .ok (.aload_n 0, 1) := by decide +kernel
theorem d5_6 : decode jdk_42_method_54_code 6 = .ok (.invokevirtual 335, 3) := by decide +kernel
theorem d5_9 : decode jdk_42_method_54_code 9 = .ok (.ishr, 1) := by decide +kernel
theorem d5_10 : decode jdk_42_method_54_code 10 = .ok (.ireturn, 1) := by decide +kernel
theorem pn_5 : plainName "java/lang/String" = true := by first | (simp [plainName, overriddenIn]; done) | decide +kernel
theorem ef_5 (m : MethodId) (a1 : Addr) : entryFrame m #[(.ref a1)] 1 = mkF m 0 #[.val (.ref a1)] [] := by first | (simp [entryFrame, mkF, argsToLocals, Value.category]; done) | rfl
def rv5 (a1 : Addr) (wc : Int32) (t : Addr) (kt : ClassId) : Int32 :=
  (4 : Int32)
def Q5 (Z : State) (a1 : Addr) (wc : Int32) (t : Addr) (kt : ClassId) (h0 : Heap) (n0 : Nat) (v : Option Value) (h : Heap) (L : List Loc) : Prop := v = some (.int (rv5 a1 wc t kt)) ∧ Fr n0 L ∧ h = h0
set_option maxRecDepth 65536 in
set_option maxHeartbeats 40000000 in
theorem rm5 (l : Launch) (Z : State) (a0 : Array Value) (hw : ∀ d ∈ tables_1, d.before a0 Z = true) (ws : List Jvm.Cond) (a1 : Addr) (wc : Int32) (t : Addr) (kt : ClassId) (h0 : Heap) (n0 : Nat) (Z0 : n0 ≤ h0.size) (OLD : Old Z n0 h0) (S_c : Sta Z Z.heap "java/lang/String" "COMPACT_STRINGS" "Z" (.int wc)) (hwc : ¬ wc = 0) (FE : Exa Z h0 a1 "java/lang/String") (FC : Fld Z h0 a1 "java/lang/String" "coder" "B" (.int (0 : Int32))) (FV : Fld Z h0 a1 "java/lang/String" "value" "[B" (.ref t)) (FA : Arv Z h0 t kt .byte (4 : Int32) [(.int (45 : Int32)), (.int (46 : Int32)), (.int (95 : Int32)), (.int (126 : Int32))] (.int 0)) :
    MetFree l (⟨"java/lang/String", "length", "()I"⟩ : MethodName) (head1 (Jvm.Cond.code (⟨"java/lang/String", "length", "()I"⟩ : MethodName) jdk_42_method_54_code 1 (some .int) :: ws) ({ frames := 1, cells := 0, slots := 0, locals := 13 } : Room)) (fun a U => a = #[(.ref a1)] ∧ Z.Warmed39 U.vm ∧ U.heap = h0) (fun _ _ _ _ _ => True) (fun _ U oo U' => ∃ v L, oo = .returned v ∧ Q5 Z a1 wc t kt h0 n0 v U'.heap L ∧ FrameEnd U oo U' L ({ frames := 1, cells := 0, slots := 0, locals := 13 } : Room).cells ({ frames := 1, cells := 0, slots := 0, locals := 13 } : Room).slots) := by
  refine MetFree.of_bodySF (plainFor_of_name pn_5) hisR ?_
  intro p e s m args below meth c s₁ Bd hml0 hP hK
  obtain ⟨rfl, hZ, hh⟩ := hP
  have hx := Bd.exec
  have hby := Bd.bytes
  have hml : c.maxLocals = 1 := hml0
  have hown : s.vm.findClass "java/lang/String" = some m.cls := findClass_of_methodNamed Bd.named
  have hnm := (name_of_methodNamed Bd.named Bd.method).1
  have X0 : Stand p l e ({ frames := 1, cells := 0, slots := 0, locals := 13 } : Room) s m #[(.ref a1)] below meth c s₁ [] 0 0 := Stand.of_body Bd
  have e0 : s₁.heap = h0 := by rw [← hh, Bd.state]; rfl
  have N0 := Fr.nil n0
  have K0 : Keep h0 h0 [] := Keep.refl _ _
  have pre0 : ∀ tg, Steps p.tables e below (s₁.setTop (mkF m 0 #[.val (.ref a1)] [])) tg → Steps p.tables e below (s₁.setTop (entryFrame m #[(.ref a1)] 1)) tg := fun tg k => castTop (ef_5 m a1) k
  have st1 : ∀ tg, Steps p.tables e below (s₁.setTop (mkF m 1 #[.val (.ref a1)] [(.ref a1)])) tg → Steps p.tables e below (s₁.setTop (mkF m 0 #[.val (.ref a1)] [])) tg := by
    intro tg kt
    show Steps p.tables e below (s₁.setTop (mkF m 0 #[.val (.ref a1)] [])) tg
    refine XS.aloadN X0.here hx rfl (hb hby d5_0) rfl rfl ?_
    exact kt
  obtain ⟨T2, X2, e2, st2⟩ := getF X0 hx hZ hown (host := "") (Or.inl (hw _ (List.mem_of_getElem? (i := 30) rfl))) Via.refl e0 FV (g := (mkF m 1 #[.val (.ref a1)] [(.ref a1)])) rfl rfl (hb hby d5_1)
  obtain ⟨cl3, Ar3, qa3, Sa3, Na3, Ha3, Ga3⟩ := id FA
  have st4 : ∀ tg, Steps p.tables e below (T2.setTop (mkF m 6 #[.val (.ref a1)] [(.ref a1), (.int (4 : Int32))])) tg → Steps p.tables e below (T2.setTop (mkF m 4 #[.val (.ref a1)] [(.ref t)])) tg := by
    intro tg kt
    show Steps p.tables e below (T2.setTop (mkF m 4 #[.val (.ref a1)] [(.ref t)])) tg
    refine X2.arraylength hx (by rw [e2]; exact Ar3.1) (State.isArrayOf_alike hZ.alike Ar3.2.1) (g := (mkF m 4 #[.val (.ref a1)] [(.ref t)])) rfl rfl (hb hby d5_4) _ ?_
    rw [len_of Sa3 Na3]
    show Steps p.tables e below (T2.setTop (mkF m 5 #[.val (.ref a1)] [(.int (4 : Int32))])) tg
    refine XS.aloadN X2.here hx rfl (hb hby d5_5) rfl rfl ?_
    exact kt
  obtain ⟨cq5, kq5, q5a, q5b, q5c⟩ := isOf hZ e2 FE
  obtain ⟨_, _, ⟨T5, L5, k5, n5⟩, -, X5, ⟨Lc5, hQ5, l5, y5, z5⟩, st5⟩ := X2.virtualBack hx (y := (⟨"java/lang/String", "coder", "()B"⟩ : MethodName)) (z := (⟨"java/lang/String", "coder", "()B"⟩ : MethodName)) hown (mvT hZ (hw _ (List.mem_of_getElem? (i := 36) rfl))) (mvT hZ (hw _ (List.mem_of_getElem? (i := 37) rfl))) (notFace_of_selects (args := #[]) (mvT hZ (hw _ (List.mem_of_getElem? (i := 39) rfl)))) (mvT hZ (hw _ (List.mem_of_getElem? (i := 39) rfl))) (mvT hZ (hw _ (List.mem_of_getElem? (i := 38) rfl))) (by decide) (backOf (W := 1) (rm6 l Z a0 hw [] a1 wc h0 n0 Z0 OLD S_c hwc FC) hZ (hw _ (List.mem_of_getElem? (i := 40) rfl)) (hw _ (List.mem_of_getElem? (i := 6) rfl)) (by decide) (by decide)) q5a q5c (g := (mkF m 6 #[.val (.ref a1)] [(.ref a1), (.int (4 : Int32))])) rfl (by rw [hml]; rfl) (Steps.refl _) (argsL := []) (rest := [(.int (4 : Int32))]) (lenOf pd_3 rfl) rfl (by show 2 * 0 + _ ≤ _; exact Nat.le_of_eq rfl) (hb hby d5_6) (fun _ _ => ⟨rfl, e2, (by decide : 0 + 0 ≤ _), (by decide : 0 + 0 ≤ _)⟩)
  dsimp only [Pt.U, Pt.locs, Pt.cells, Pt.slots] at X5 l5 y5 z5 st5 hQ5
  subst l5 y5 z5
  obtain ⟨rfl, N5q, e5⟩ := hQ5
  have N5 := Fr.app N0 N5q
  obtain ⟨r5, hr5⟩ : ∃ z, z = rv6 a1 wc := ⟨_, rfl⟩
  rw [← hr5] at st5
  have hyr5 : r5 = (0 : Int32) := by rw [hr5]; first | rfl | decide
  rw [hyr5] at st5
  have st6 : ∀ tg, Steps p.tables e below (T5.setTop (mkF m 10 #[.val (.ref a1)] [(.int (4 : Int32))])) tg → Steps p.tables e below (T5.setTop (mkF m 9 #[.val (.ref a1)] [(.int (0 : Int32)), (.int (4 : Int32))])) tg := by
    intro tg kt
    show Steps p.tables e below (T5.setTop (mkF m 9 #[.val (.ref a1)] [(.int (0 : Int32)), (.int (4 : Int32))])) tg
    refine XS.ishr X5.here hx rfl (hb hby d5_9) rfl ?_
    exact kt
  obtain ⟨fs, hr, hrun, hended, hW, hsame⟩ := X5.leave (v := some (.int (4 : Int32))) (fun h => by rw [Bd.returns] at h; cases h)
  refine ⟨_, _, pre0 _ ?_, hrun, hended, _, _, rfl, ?_, ⟨_, rfl⟩, hW, hsame.mono (by decide) (by decide)⟩
  · refine st1 _ ?_
    show Steps p.tables e below (s₁.setTop (mkF m 1 #[.val (.ref a1)] [(.ref a1)])) _
    refine st2 _ ?_
    refine st4 _ ?_
    show Steps p.tables e below (T2.setTop (mkF m 6 #[.val (.ref a1)] [(.ref a1), (.int (4 : Int32))])) _
    refine st5.trans ?_
    refine st6 _ ?_
    show Steps p.tables e below (T5.setTop (mkF m 10 #[.val (.ref a1)] [(.int (4 : Int32))])) _
    exact retI X5 hx Bd.returns (hb hby d5_10) hr
  · show Q5 Z a1 wc t kt h0 n0 _ T5.heap _
    rw [e5]
    refine ⟨?_, N5, rfl⟩
    subst hr5; simp only [rv5, if_neg hwc]
theorem d4_0 : decode jdk_42_method_154_code 0 = .ok (.getstatic 38, 3) := by decide +kernel
theorem d4_3 : decode jdk_42_method_154_code 3 = .ok (.ifCond .eq 14, 3) := by decide +kernel
theorem d4_6 : decode jdk_42_method_154_code 6 = .ok (.aload_n 0, 1) := by decide +kernel
theorem d4_7 : decode jdk_42_method_154_code 7 = .ok (.getfield 15, 3) := by decide +kernel
theorem d4_10 : decode jdk_42_method_154_code 10 = .ok (.ifCond .ne 7, 3) := by decide +kernel
theorem d4_13 : decode jdk_42_method_154_code 13 = .ok (.iconst 1, 1) := by decide +kernel
theorem d4_14 : decode jdk_42_method_154_code 14 = .ok (.goto 4, 3) := by decide +kernel
theorem d4_18 : decode jdk_42_method_154_code 18 = .ok (.ireturn, 1) := by decide +kernel
theorem pn_4 : plainName "java/lang/String" = true := by first | (simp [plainName, overriddenIn]; done) | decide +kernel
theorem ef_4 (m : MethodId) (a1 : Addr) : entryFrame m #[(.ref a1)] 1 = mkF m 0 #[.val (.ref a1)] [] := by first | (simp [entryFrame, mkF, argsToLocals, Value.category]; done) | rfl
def rv4 (a1 : Addr) (wc : Int32) : Int32 :=
  (1 : Int32)
def Q4 (Z : State) (a1 : Addr) (wc : Int32) (h0 : Heap) (n0 : Nat) (v : Option Value) (h : Heap) (L : List Loc) : Prop := v = some (.int (rv4 a1 wc)) ∧ Fr n0 L ∧ h = h0
set_option maxRecDepth 65536 in
set_option maxHeartbeats 40000000 in
theorem rm4 (l : Launch) (Z : State) (a0 : Array Value) (hw : ∀ d ∈ tables_1, d.before a0 Z = true) (ws : List Jvm.Cond) (a1 : Addr) (wc : Int32) (h0 : Heap) (n0 : Nat) (Z0 : n0 ≤ h0.size) (OLD : Old Z n0 h0) (S_c : Sta Z Z.heap "java/lang/String" "COMPACT_STRINGS" "Z" (.int wc)) (hwc : ¬ wc = 0) (FC : Fld Z h0 a1 "java/lang/String" "coder" "B" (.int (0 : Int32))) :
    MetFree l (⟨"java/lang/String", "isLatin1", "()Z"⟩ : MethodName) (head1 (Jvm.Cond.code (⟨"java/lang/String", "isLatin1", "()Z"⟩ : MethodName) jdk_42_method_154_code 1 (some .boolean) :: ws) ({ frames := 0, cells := 0, slots := 0, locals := 0 } : Room)) (fun a U => a = #[(.ref a1)] ∧ Z.Warmed39 U.vm ∧ U.heap = h0) (fun _ _ _ _ _ => True) (fun _ U oo U' => ∃ v L, oo = .returned v ∧ Q4 Z a1 wc h0 n0 v U'.heap L ∧ FrameEnd U oo U' L ({ frames := 0, cells := 0, slots := 0, locals := 0 } : Room).cells ({ frames := 0, cells := 0, slots := 0, locals := 0 } : Room).slots) := by
  refine MetFree.of_bodySF (plainFor_of_name pn_4) hisR ?_
  intro p e s m args below meth c s₁ Bd hml0 hP hK
  obtain ⟨rfl, hZ, hh⟩ := hP
  have hx := Bd.exec
  have hby := Bd.bytes
  have hml : c.maxLocals = 1 := hml0
  have hown : s.vm.findClass "java/lang/String" = some m.cls := findClass_of_methodNamed Bd.named
  have hnm := (name_of_methodNamed Bd.named Bd.method).1
  have X0 : Stand p l e ({ frames := 0, cells := 0, slots := 0, locals := 0 } : Room) s m #[(.ref a1)] below meth c s₁ [] 0 0 := Stand.of_body Bd
  have e0 : s₁.heap = h0 := by rw [← hh, Bd.state]; rfl
  have N0 := Fr.nil n0
  have K0 : Keep h0 h0 [] := Keep.refl _ _
  have pre0 : ∀ tg, Steps p.tables e below (s₁.setTop (mkF m 0 #[.val (.ref a1)] [])) tg → Steps p.tables e below (s₁.setTop (entryFrame m #[(.ref a1)] 1)) tg := fun tg k => castTop (ef_4 m a1) k
  obtain ⟨T1, X1, e1, st1⟩ := getS2 X0 hx hZ hown (host := "") (Or.inl (hw _ (List.mem_of_getElem? (i := 28) rfl))) Via.refl e0 (Sta.ext OLD.2 S_c) (g := (mkF m 0 #[.val (.ref a1)] [])) rfl (hb hby d4_0)
  have st2 : ∀ tg, Steps p.tables e below (T1.setTop (mkF m 7 #[.val (.ref a1)] [(.ref a1)])) tg → Steps p.tables e below (T1.setTop (mkF m 3 #[.val (.ref a1)] [(.int wc)])) tg := by
    intro tg kt
    show Steps p.tables e below (T1.setTop (mkF m 3 #[.val (.ref a1)] [(.int wc)])) tg
    refine XS.ifNo X1.here hx rfl (hb hby d4_3) rfl (XT.i0_eq_f hwc) ?_
    show Steps p.tables e below (T1.setTop (mkF m 6 #[.val (.ref a1)] [])) tg
    refine XS.aloadN X1.here hx rfl (hb hby d4_6) rfl rfl ?_
    exact kt
  obtain ⟨T3, X3, e3, st3⟩ := getF X1 hx hZ hown (host := "") (Or.inl (hw _ (List.mem_of_getElem? (i := 29) rfl))) Via.refl e1 FC (g := (mkF m 7 #[.val (.ref a1)] [(.ref a1)])) rfl rfl (hb hby d4_7)
  have st4 : ∀ tg, Steps p.tables e below (T3.setTop (mkF m 18 #[.val (.ref a1)] [(.int (1 : Int32))])) tg → Steps p.tables e below (T3.setTop (mkF m 10 #[.val (.ref a1)] [(.int (0 : Int32))])) tg := by
    intro tg kt
    show Steps p.tables e below (T3.setTop (mkF m 10 #[.val (.ref a1)] [(.int (0 : Int32))])) tg
    refine XS.ifNo X3.here hx rfl (hb hby d4_10) rfl (XT.i0_ne_f (by decide)) ?_
    show Steps p.tables e below (T3.setTop (mkF m 13 #[.val (.ref a1)] [])) tg
    refine XS.iconst X3.here hx rfl (hb hby d4_13) ?_
    show Steps p.tables e below (T3.setTop (mkF m 14 #[.val (.ref a1)] [(.int (1 : Int32))])) tg
    refine XS.goto X3.here hx rfl (pc0 := 14) (pc' := 18) rfl (hb hby d4_14) (by decide) (by decide) ?_
    exact kt
  obtain ⟨fs, hr, hrun, hended, hW, hsame⟩ := X3.leave (v := some (.int (1 : Int32))) (fun h => by rw [Bd.returns] at h; cases h)
  refine ⟨_, _, pre0 _ ?_, hrun, hended, _, _, rfl, ?_, ⟨_, rfl⟩, hW, hsame.mono (by decide) (by decide)⟩
  · show Steps p.tables e below (s₁.setTop (mkF m 0 #[.val (.ref a1)] [])) _
    refine st1 _ ?_
    refine st2 _ ?_
    show Steps p.tables e below (T1.setTop (mkF m 7 #[.val (.ref a1)] [(.ref a1)])) _
    refine st3 _ ?_
    refine st4 _ ?_
    show Steps p.tables e below (T3.setTop (mkF m 18 #[.val (.ref a1)] [(.int (1 : Int32))])) _
    exact retN X3 hx (t := .boolean) Bd.returns (by simp) (hb hby d4_18) hr
  · show Q4 Z a1 wc h0 n0 _ T3.heap _
    rw [e3]
    refine ⟨?_, N0, rfl⟩
    simp only [rv4, if_neg hwc]
theorem d3_0 : decode jdk_42_method_80_code 0 = .ok (.aload_n 0, 1) := by decide +kernel
theorem d3_1 : decode jdk_42_method_80_code 1 = .ok (.invokevirtual 492, 3) := by decide +kernel
theorem d3_4 : decode jdk_42_method_80_code 4 = .ok (.ifCond .eq 19, 3) := by decide +kernel
theorem d3_7 : decode jdk_42_method_80_code 7 = .ok (.aload_n 0, 1) := by decide +kernel
theorem d3_8 : decode jdk_42_method_80_code 8 = .ok (.getfield 9, 3) := by decide +kernel
theorem d3_11 : decode jdk_42_method_80_code 11 = .ok (.iload_n 1, 1) := by decide +kernel
theorem d3_12 : decode jdk_42_method_80_code 12 = .ok (.iload_n 2, 1) := by decide +kernel
theorem d3_13 : decode jdk_42_method_80_code 13 = .ok (.aload_n 0, 1) := by decide +kernel
theorem d3_14 : decode jdk_42_method_80_code 14 = .ok (.invokevirtual 505, 3) := by decide +kernel
theorem d3_17 : decode jdk_42_method_80_code 17 = .ok (.invokestatic 637, 3) := by decide +kernel
theorem d3_20 : decode jdk_42_method_80_code 20 = .ok (.goto 16, 3) := by decide +kernel
theorem d3_36 : decode jdk_42_method_80_code 36 = .ok (.ireturn, 1) := by decide +kernel
theorem pn_3 : plainName "java/lang/String" = true := by first | (simp [plainName, overriddenIn]; done) | decide +kernel
theorem ef_3 (m : MethodId) (a1 : Addr) (p2 : Int32) : entryFrame m #[(.ref a1), (.int p2), (.int (0 : Int32))] 3 = mkF m 0 #[.val (.ref a1), .val (.int p2), .val (.int (0 : Int32))] [] := by first | (simp [entryFrame, mkF, argsToLocals, Value.category]; done) | rfl
def rv3 (a1 : Addr) (p2 : Int32) (wc : Int32) (t : Addr) (kt : ClassId) : Int32 :=
  (rv7 t p2 kt)
def Q3 (Z : State) (a1 : Addr) (p2 : Int32) (wc : Int32) (t : Addr) (kt : ClassId) (h0 : Heap) (n0 : Nat) (v : Option Value) (h : Heap) (L : List Loc) : Prop := v = some (.int (rv3 a1 p2 wc t kt)) ∧ Fr n0 L ∧ h = h0
set_option maxRecDepth 65536 in
set_option maxHeartbeats 40000000 in
theorem rm3 (l : Launch) (Z : State) (a0 : Array Value) (hw : ∀ d ∈ tables_1, d.before a0 Z = true) (ws : List Jvm.Cond) (a1 : Addr) (p2 : Int32) (wc : Int32) (t : Addr) (kt : ClassId) (h0 : Heap) (n0 : Nat) (Z0 : n0 ≤ h0.size) (OLD : Old Z n0 h0) (S_c : Sta Z Z.heap "java/lang/String" "COMPACT_STRINGS" "Z" (.int wc)) (hwc : ¬ wc = 0) (FE : Exa Z h0 a1 "java/lang/String") (FC : Fld Z h0 a1 "java/lang/String" "coder" "B" (.int (0 : Int32))) (FV : Fld Z h0 a1 "java/lang/String" "value" "[B" (.ref t)) (FA : Arv Z h0 t kt .byte (4 : Int32) [(.int (45 : Int32)), (.int (46 : Int32)), (.int (95 : Int32)), (.int (126 : Int32))] (.int 0)) :
    MetFree l (⟨"java/lang/String", "indexOf", "(II)I"⟩ : MethodName) (head1 (Jvm.Cond.code (⟨"java/lang/String", "indexOf", "(II)I"⟩ : MethodName) jdk_42_method_80_code 3 (some .int) :: ws) ({ frames := 2, cells := 0, slots := 0, locals := 32 } : Room)) (fun a U => a = #[(.ref a1), (.int p2), (.int (0 : Int32))] ∧ Z.Warmed39 U.vm ∧ U.heap = h0) (fun _ _ _ _ _ => True) (fun _ U oo U' => ∃ v L, oo = .returned v ∧ Q3 Z a1 p2 wc t kt h0 n0 v U'.heap L ∧ FrameEnd U oo U' L ({ frames := 2, cells := 0, slots := 0, locals := 32 } : Room).cells ({ frames := 2, cells := 0, slots := 0, locals := 32 } : Room).slots) := by
  refine MetFree.of_bodySF (plainFor_of_name pn_3) hisR ?_
  intro p e s m args below meth c s₁ Bd hml0 hP hK
  obtain ⟨rfl, hZ, hh⟩ := hP
  have hx := Bd.exec
  have hby := Bd.bytes
  have hml : c.maxLocals = 3 := hml0
  have hown : s.vm.findClass "java/lang/String" = some m.cls := findClass_of_methodNamed Bd.named
  have hnm := (name_of_methodNamed Bd.named Bd.method).1
  have X0 : Stand p l e ({ frames := 2, cells := 0, slots := 0, locals := 32 } : Room) s m #[(.ref a1), (.int p2), (.int (0 : Int32))] below meth c s₁ [] 0 0 := Stand.of_body Bd
  have e0 : s₁.heap = h0 := by rw [← hh, Bd.state]; rfl
  have N0 := Fr.nil n0
  have K0 : Keep h0 h0 [] := Keep.refl _ _
  have pre0 : ∀ tg, Steps p.tables e below (s₁.setTop (mkF m 0 #[.val (.ref a1), .val (.int p2), .val (.int (0 : Int32))] [])) tg → Steps p.tables e below (s₁.setTop (entryFrame m #[(.ref a1), (.int p2), (.int (0 : Int32))] 3)) tg := fun tg k => castTop (ef_3 m a1 p2) k
  have st1 : ∀ tg, Steps p.tables e below (s₁.setTop (mkF m 1 #[.val (.ref a1), .val (.int p2), .val (.int (0 : Int32))] [(.ref a1)])) tg → Steps p.tables e below (s₁.setTop (mkF m 0 #[.val (.ref a1), .val (.int p2), .val (.int (0 : Int32))] [])) tg := by
    intro tg kt
    show Steps p.tables e below (s₁.setTop (mkF m 0 #[.val (.ref a1), .val (.int p2), .val (.int (0 : Int32))] [])) tg
    refine XS.aloadN X0.here hx rfl (hb hby d3_0) rfl rfl ?_
    exact kt
  obtain ⟨cq2, kq2, q2a, q2b, q2c⟩ := isOf hZ e0 FE
  obtain ⟨_, _, ⟨T2, L2, k2, n2⟩, -, X2, ⟨Lc2, hQ2, l2, y2, z2⟩, st2⟩ := X0.virtualBack hx (y := (⟨"java/lang/String", "isLatin1", "()Z"⟩ : MethodName)) (z := (⟨"java/lang/String", "isLatin1", "()Z"⟩ : MethodName)) hown (mvT hZ (hw _ (List.mem_of_getElem? (i := 23) rfl))) (mvT hZ (hw _ (List.mem_of_getElem? (i := 24) rfl))) (notFace_of_selects (args := #[]) (mvT hZ (hw _ (List.mem_of_getElem? (i := 26) rfl)))) (mvT hZ (hw _ (List.mem_of_getElem? (i := 26) rfl))) (mvT hZ (hw _ (List.mem_of_getElem? (i := 25) rfl))) (by decide) (backOf (W := 0) (rm4 l Z a0 hw [] a1 wc h0 n0 Z0 OLD S_c hwc FC) hZ (hw _ (List.mem_of_getElem? (i := 27) rfl)) (hw _ (List.mem_of_getElem? (i := 6) rfl)) (by decide) (by decide)) q2a q2c (g := (mkF m 1 #[.val (.ref a1), .val (.int p2), .val (.int (0 : Int32))] [(.ref a1)])) rfl (by rw [hml]; rfl) (Steps.refl _) (argsL := []) (rest := []) (lenOf pd_4 rfl) rfl (by show 2 * 0 + _ ≤ _; exact Nat.le_of_eq rfl) (hb hby d3_1) (fun _ _ => ⟨rfl, e0, (by decide : 0 + 0 ≤ _), (by decide : 0 + 0 ≤ _)⟩)
  dsimp only [Pt.U, Pt.locs, Pt.cells, Pt.slots] at X2 l2 y2 z2 st2 hQ2
  subst l2 y2 z2
  obtain ⟨rfl, N2q, e2⟩ := hQ2
  have N2 := Fr.app N0 N2q
  obtain ⟨r2, hr2⟩ : ∃ z, z = rv4 a1 wc := ⟨_, rfl⟩
  rw [← hr2] at st2
  have hyr2 : r2 = (1 : Int32) := by rw [hr2]; first | rfl | decide
  rw [hyr2] at st2
  have st3 : ∀ tg, Steps p.tables e below (T2.setTop (mkF m 8 #[.val (.ref a1), .val (.int p2), .val (.int (0 : Int32))] [(.ref a1)])) tg → Steps p.tables e below (T2.setTop (mkF m 4 #[.val (.ref a1), .val (.int p2), .val (.int (0 : Int32))] [(.int (1 : Int32))])) tg := by
    intro tg kt
    show Steps p.tables e below (T2.setTop (mkF m 4 #[.val (.ref a1), .val (.int p2), .val (.int (0 : Int32))] [(.int (1 : Int32))])) tg
    refine XS.ifNo X2.here hx rfl (hb hby d3_4) rfl (XT.i0_eq_f (by decide)) ?_
    show Steps p.tables e below (T2.setTop (mkF m 7 #[.val (.ref a1), .val (.int p2), .val (.int (0 : Int32))] [])) tg
    refine XS.aloadN X2.here hx rfl (hb hby d3_7) rfl rfl ?_
    exact kt
  obtain ⟨T4, X4, e4, st4⟩ := getF X2 hx hZ hown (host := "") (Or.inl (hw _ (List.mem_of_getElem? (i := 30) rfl))) Via.refl e2 FV (g := (mkF m 8 #[.val (.ref a1), .val (.int p2), .val (.int (0 : Int32))] [(.ref a1)])) rfl rfl (hb hby d3_8)
  have st5 : ∀ tg, Steps p.tables e below (T4.setTop (mkF m 14 #[.val (.ref a1), .val (.int p2), .val (.int (0 : Int32))] [(.ref a1), (.int (0 : Int32)), (.int p2), (.ref t)])) tg → Steps p.tables e below (T4.setTop (mkF m 11 #[.val (.ref a1), .val (.int p2), .val (.int (0 : Int32))] [(.ref t)])) tg := by
    intro tg kt
    show Steps p.tables e below (T4.setTop (mkF m 11 #[.val (.ref a1), .val (.int p2), .val (.int (0 : Int32))] [(.ref t)])) tg
    refine XS.iloadN X4.here hx rfl (hb hby d3_11) rfl ?_
    show Steps p.tables e below (T4.setTop (mkF m 12 #[.val (.ref a1), .val (.int p2), .val (.int (0 : Int32))] [(.int p2), (.ref t)])) tg
    refine XS.iloadN X4.here hx rfl (hb hby d3_12) rfl ?_
    show Steps p.tables e below (T4.setTop (mkF m 13 #[.val (.ref a1), .val (.int p2), .val (.int (0 : Int32))] [(.int (0 : Int32)), (.int p2), (.ref t)])) tg
    refine XS.aloadN X4.here hx rfl (hb hby d3_13) rfl rfl ?_
    exact kt
  obtain ⟨cq6, kq6, q6a, q6b, q6c⟩ := isOf hZ e4 FE
  obtain ⟨_, _, ⟨T6, L6, k6, n6⟩, -, X6, ⟨Lc6, hQ6, l6, y6, z6⟩, st6⟩ := X4.virtualBack hx (y := (⟨"java/lang/String", "length", "()I"⟩ : MethodName)) (z := (⟨"java/lang/String", "length", "()I"⟩ : MethodName)) hown (mvT hZ (hw _ (List.mem_of_getElem? (i := 31) rfl))) (mvT hZ (hw _ (List.mem_of_getElem? (i := 32) rfl))) (notFace_of_selects (args := #[]) (mvT hZ (hw _ (List.mem_of_getElem? (i := 34) rfl)))) (mvT hZ (hw _ (List.mem_of_getElem? (i := 34) rfl))) (mvT hZ (hw _ (List.mem_of_getElem? (i := 33) rfl))) (by decide) (backOf (W := 3) (rm5 l Z a0 hw [] a1 wc t kt h0 n0 Z0 OLD S_c hwc FE FC FV FA) hZ (hw _ (List.mem_of_getElem? (i := 35) rfl)) (hw _ (List.mem_of_getElem? (i := 6) rfl)) (by decide) (by decide)) q6a q6c (g := (mkF m 14 #[.val (.ref a1), .val (.int p2), .val (.int (0 : Int32))] [(.ref a1), (.int (0 : Int32)), (.int p2), (.ref t)])) rfl (by rw [hml]; rfl) (Steps.refl _) (argsL := []) (rest := [(.int (0 : Int32)), (.int p2), (.ref t)]) (lenOf pd_5 rfl) rfl (by show 2 * 0 + _ ≤ _; exact Nat.le_of_eq rfl) (hb hby d3_14) (fun _ _ => ⟨rfl, e4, (by decide : 0 + 0 ≤ _), (by decide : 0 + 0 ≤ _)⟩)
  dsimp only [Pt.U, Pt.locs, Pt.cells, Pt.slots] at X6 l6 y6 z6 st6 hQ6
  subst l6 y6 z6
  obtain ⟨rfl, N6q, e6⟩ := hQ6
  have N6 := Fr.app N2 N6q
  obtain ⟨r6, hr6⟩ : ∃ z, z = rv5 a1 wc t kt := ⟨_, rfl⟩
  rw [← hr6] at st6
  have hyr6 : r6 = (4 : Int32) := by rw [hr6]; first | rfl | decide
  rw [hyr6] at st6
  obtain ⟨_, _, ⟨T7, L7, k7, n7⟩, -, X7, ⟨Lc7, hQ7, l7, y7, z7⟩, st7⟩ := Jvm.LawKit.callS X6 hx (y := (⟨"java/lang/StringLatin1", "indexOf", "([BIII)I"⟩ : MethodName)) hown (mvT hZ (hw _ (List.mem_of_getElem? (i := 41) rfl))) (mvT hZ (hw _ (List.mem_of_getElem? (i := 42) rfl))) (mvT hZ (hw _ (List.mem_of_getElem? (i := 43) rfl))) (mvT hZ (hw _ (List.mem_of_getElem? (i := 44) rfl))) (by decide) (backOf (W := 0) (rm7 l Z a0 hw [] t p2 kt h0 n0 Z0 FA) hZ (hw _ (List.mem_of_getElem? (i := 44) rfl)) (hw _ (List.mem_of_getElem? (i := 43) rfl)) (by decide) (by decide)) (g := (mkF m 17 #[.val (.ref a1), .val (.int p2), .val (.int (0 : Int32))] [(.int (4 : Int32)), (.int (0 : Int32)), (.int p2), (.ref t)])) rfl (by rw [hml]; rfl) (argsL := [(.ref t), (.int p2), (.int (0 : Int32)), (.int (4 : Int32))]) (rest := []) (lenOf pd_2 rfl) rfl (by show 2 * 0 + _ ≤ _; exact Nat.le_of_eq rfl) (hb hby d3_17) (fun _ _ => ⟨rfl, e6, (by decide : 0 + 0 ≤ _), (by decide : 0 + 0 ≤ _)⟩)
  dsimp only [Pt.U, Pt.locs, Pt.cells, Pt.slots] at X7 l7 y7 z7 st7 hQ7
  subst l7 y7 z7
  obtain ⟨rfl, N7q, e7⟩ := hQ7
  have N7 := Fr.app N6 N7q
  obtain ⟨r7, hr7⟩ : ∃ z, z = rv7 t p2 kt := ⟨_, rfl⟩
  rw [← hr7] at st7
  have st8 : ∀ tg, Steps p.tables e below (T7.setTop (mkF m 36 #[.val (.ref a1), .val (.int p2), .val (.int (0 : Int32))] [(.int r7)])) tg → Steps p.tables e below (T7.setTop (mkF m 20 #[.val (.ref a1), .val (.int p2), .val (.int (0 : Int32))] [(.int r7)])) tg := by
    intro tg kt
    show Steps p.tables e below (T7.setTop (mkF m 20 #[.val (.ref a1), .val (.int p2), .val (.int (0 : Int32))] [(.int r7)])) tg
    refine XS.goto X7.here hx rfl (pc0 := 20) (pc' := 36) rfl (hb hby d3_20) (by decide) (by decide) ?_
    exact kt
  obtain ⟨fs, hr, hrun, hended, hW, hsame⟩ := X7.leave (v := some (.int r7)) (fun h => by rw [Bd.returns] at h; cases h)
  refine ⟨_, _, pre0 _ ?_, hrun, hended, _, _, rfl, ?_, ⟨_, rfl⟩, hW, hsame.mono (by decide) (by decide)⟩
  · refine st1 _ ?_
    show Steps p.tables e below (s₁.setTop (mkF m 1 #[.val (.ref a1), .val (.int p2), .val (.int (0 : Int32))] [(.ref a1)])) _
    refine st2.trans ?_
    refine st3 _ ?_
    show Steps p.tables e below (T2.setTop (mkF m 8 #[.val (.ref a1), .val (.int p2), .val (.int (0 : Int32))] [(.ref a1)])) _
    refine st4 _ ?_
    refine st5 _ ?_
    show Steps p.tables e below (T4.setTop (mkF m 14 #[.val (.ref a1), .val (.int p2), .val (.int (0 : Int32))] [(.ref a1), (.int (0 : Int32)), (.int p2), (.ref t)])) _
    refine st6.trans ?_
    show Steps p.tables e below (T6.setTop (mkF m 17 #[.val (.ref a1), .val (.int p2), .val (.int (0 : Int32))] [(.int (4 : Int32)), (.int (0 : Int32)), (.int p2), (.ref t)])) _
    refine st7 _ ?_
    refine st8 _ ?_
    show Steps p.tables e below (T7.setTop (mkF m 36 #[.val (.ref a1), .val (.int p2), .val (.int (0 : Int32))] [(.int r7)])) _
    exact retI X7 hx Bd.returns (hb hby d3_36) hr
  · show Q3 Z a1 p2 wc t kt h0 n0 _ T7.heap _
    rw [e7]
    refine ⟨?_, N7, rfl⟩
    subst hr7; subst hr6; subst hr2; simp only [rv3, if_neg hwc]
theorem d2_0 : decode jdk_42_method_79_code 0 = .ok (.aload_n 0, 1) := by decide +kernel
theorem d2_1 : decode jdk_42_method_79_code 1 = .ok (.iload_n 1, 1) := by decide +kernel
theorem d2_2 : decode jdk_42_method_79_code 2 = .ok (.iconst 0, 1) := by decide +kernel
theorem d2_3 : decode jdk_42_method_79_code 3 = .ok (.invokevirtual 633, 3) := by decide +kernel
theorem d2_6 : decode jdk_42_method_79_code 6 = .ok (.ireturn, 1) := by decide +kernel
theorem pn_2 : plainName "java/lang/String" = true := by first | (simp [plainName, overriddenIn]; done) | decide +kernel
theorem ef_2 (m : MethodId) (a1 : Addr) (p2 : Int32) : entryFrame m #[(.ref a1), (.int p2)] 2 = mkF m 0 #[.val (.ref a1), .val (.int p2)] [] := by first | (simp [entryFrame, mkF, argsToLocals, Value.category]; done) | rfl
def rv2 (a1 : Addr) (p2 : Int32) (wc : Int32) (t : Addr) (kt : ClassId) : Int32 :=
  (rv3 a1 p2 wc t kt)
def Q2 (Z : State) (a1 : Addr) (p2 : Int32) (wc : Int32) (t : Addr) (kt : ClassId) (h0 : Heap) (n0 : Nat) (v : Option Value) (h : Heap) (L : List Loc) : Prop := v = some (.int (rv2 a1 p2 wc t kt)) ∧ Fr n0 L ∧ h = h0
set_option maxRecDepth 65536 in
set_option maxHeartbeats 40000000 in
theorem rm2 (l : Launch) (Z : State) (a0 : Array Value) (hw : ∀ d ∈ tables_1, d.before a0 Z = true) (ws : List Jvm.Cond) (a1 : Addr) (p2 : Int32) (wc : Int32) (t : Addr) (kt : ClassId) (h0 : Heap) (n0 : Nat) (Z0 : n0 ≤ h0.size) (OLD : Old Z n0 h0) (S_c : Sta Z Z.heap "java/lang/String" "COMPACT_STRINGS" "Z" (.int wc)) (hwc : ¬ wc = 0) (FE : Exa Z h0 a1 "java/lang/String") (FC : Fld Z h0 a1 "java/lang/String" "coder" "B" (.int (0 : Int32))) (FV : Fld Z h0 a1 "java/lang/String" "value" "[B" (.ref t)) (FA : Arv Z h0 t kt .byte (4 : Int32) [(.int (45 : Int32)), (.int (46 : Int32)), (.int (95 : Int32)), (.int (126 : Int32))] (.int 0)) :
    MetFree l (⟨"java/lang/String", "indexOf", "(I)I"⟩ : MethodName) (head1 (Jvm.Cond.code (⟨"java/lang/String", "indexOf", "(I)I"⟩ : MethodName) jdk_42_method_79_code 2 (some .int) :: ws) ({ frames := 3, cells := 0, slots := 0, locals := 46 } : Room)) (fun a U => a = #[(.ref a1), (.int p2)] ∧ Z.Warmed39 U.vm ∧ U.heap = h0) (fun _ _ _ _ _ => True) (fun _ U oo U' => ∃ v L, oo = .returned v ∧ Q2 Z a1 p2 wc t kt h0 n0 v U'.heap L ∧ FrameEnd U oo U' L ({ frames := 3, cells := 0, slots := 0, locals := 46 } : Room).cells ({ frames := 3, cells := 0, slots := 0, locals := 46 } : Room).slots) := by
  refine MetFree.of_bodySF (plainFor_of_name pn_2) hisR ?_
  intro p e s m args below meth c s₁ Bd hml0 hP hK
  obtain ⟨rfl, hZ, hh⟩ := hP
  have hx := Bd.exec
  have hby := Bd.bytes
  have hml : c.maxLocals = 2 := hml0
  have hown : s.vm.findClass "java/lang/String" = some m.cls := findClass_of_methodNamed Bd.named
  have hnm := (name_of_methodNamed Bd.named Bd.method).1
  have X0 : Stand p l e ({ frames := 3, cells := 0, slots := 0, locals := 46 } : Room) s m #[(.ref a1), (.int p2)] below meth c s₁ [] 0 0 := Stand.of_body Bd
  have e0 : s₁.heap = h0 := by rw [← hh, Bd.state]; rfl
  have N0 := Fr.nil n0
  have K0 : Keep h0 h0 [] := Keep.refl _ _
  have pre0 : ∀ tg, Steps p.tables e below (s₁.setTop (mkF m 0 #[.val (.ref a1), .val (.int p2)] [])) tg → Steps p.tables e below (s₁.setTop (entryFrame m #[(.ref a1), (.int p2)] 2)) tg := fun tg k => castTop (ef_2 m a1 p2) k
  have st1 : ∀ tg, Steps p.tables e below (s₁.setTop (mkF m 3 #[.val (.ref a1), .val (.int p2)] [(.int (0 : Int32)), (.int p2), (.ref a1)])) tg → Steps p.tables e below (s₁.setTop (mkF m 0 #[.val (.ref a1), .val (.int p2)] [])) tg := by
    intro tg kt
    show Steps p.tables e below (s₁.setTop (mkF m 0 #[.val (.ref a1), .val (.int p2)] [])) tg
    refine XS.aloadN X0.here hx rfl (hb hby d2_0) rfl rfl ?_
    show Steps p.tables e below (s₁.setTop (mkF m 1 #[.val (.ref a1), .val (.int p2)] [(.ref a1)])) tg
    refine XS.iloadN X0.here hx rfl (hb hby d2_1) rfl ?_
    show Steps p.tables e below (s₁.setTop (mkF m 2 #[.val (.ref a1), .val (.int p2)] [(.int p2), (.ref a1)])) tg
    refine XS.iconst X0.here hx rfl (hb hby d2_2) ?_
    exact kt
  obtain ⟨cq2, kq2, q2a, q2b, q2c⟩ := isOf hZ e0 FE
  obtain ⟨_, _, ⟨T2, L2, k2, n2⟩, -, X2, ⟨Lc2, hQ2, l2, y2, z2⟩, st2⟩ := X0.virtualBack hx (y := (⟨"java/lang/String", "indexOf", "(II)I"⟩ : MethodName)) (z := (⟨"java/lang/String", "indexOf", "(II)I"⟩ : MethodName)) hown (mvT hZ (hw _ (List.mem_of_getElem? (i := 18) rfl))) (mvT hZ (hw _ (List.mem_of_getElem? (i := 19) rfl))) (notFace_of_selects (args := #[]) (mvT hZ (hw _ (List.mem_of_getElem? (i := 21) rfl)))) (mvT hZ (hw _ (List.mem_of_getElem? (i := 21) rfl))) (mvT hZ (hw _ (List.mem_of_getElem? (i := 20) rfl))) (by decide) (backOf (W := 0) (rm3 l Z a0 hw [] a1 p2 wc t kt h0 n0 Z0 OLD S_c hwc FE FC FV FA) hZ (hw _ (List.mem_of_getElem? (i := 22) rfl)) (hw _ (List.mem_of_getElem? (i := 6) rfl)) (by decide) (by decide)) q2a q2c (g := (mkF m 3 #[.val (.ref a1), .val (.int p2)] [(.int (0 : Int32)), (.int p2), (.ref a1)])) rfl (by rw [hml]; rfl) (Steps.refl _) (argsL := [(.int p2), (.int (0 : Int32))]) (rest := []) (lenOf pd_1 rfl) rfl (by show 2 * 0 + _ ≤ _; exact Nat.le_of_eq rfl) (hb hby d2_3) (fun _ _ => ⟨rfl, e0, (by decide : 0 + 0 ≤ _), (by decide : 0 + 0 ≤ _)⟩)
  dsimp only [Pt.U, Pt.locs, Pt.cells, Pt.slots] at X2 l2 y2 z2 st2 hQ2
  subst l2 y2 z2
  obtain ⟨rfl, N2q, e2⟩ := hQ2
  have N2 := Fr.app N0 N2q
  obtain ⟨r2, hr2⟩ : ∃ z, z = rv3 a1 p2 wc t kt := ⟨_, rfl⟩
  rw [← hr2] at st2
  obtain ⟨fs, hr, hrun, hended, hW, hsame⟩ := X2.leave (v := some (.int r2)) (fun h => by rw [Bd.returns] at h; cases h)
  refine ⟨_, _, pre0 _ ?_, hrun, hended, _, _, rfl, ?_, ⟨_, rfl⟩, hW, hsame.mono (by decide) (by decide)⟩
  · refine st1 _ ?_
    show Steps p.tables e below (s₁.setTop (mkF m 3 #[.val (.ref a1), .val (.int p2)] [(.int (0 : Int32)), (.int p2), (.ref a1)])) _
    refine st2.trans ?_
    show Steps p.tables e below (T2.setTop (mkF m 6 #[.val (.ref a1), .val (.int p2)] [(.int r2)])) _
    exact retI X2 hx Bd.returns (hb hby d2_6) hr
  · show Q2 Z a1 p2 wc t kt h0 n0 _ T2.heap _
    rw [e2]
    refine ⟨?_, N2, rfl⟩
    subst hr2; simp only [rv2, if_neg hwc]
theorem d12_0 : decode method_3_code 0 = .ok (.iload_n 0, 1) := by decide +kernel
theorem d12_1 : decode method_3_code 1 = .ok (.bipush 45, 2) := by decide +kernel
theorem d12_3 : decode method_3_code 3 = .ok (.if_icmp .lt 9, 3) := by decide +kernel
theorem d12_6 : decode method_3_code 6 = .ok (.iload_n 0, 1) := by decide +kernel
theorem d12_7 : decode method_3_code 7 = .ok (.bipush 126, 2) := by decide +kernel
theorem d12_9 : decode method_3_code 9 = .ok (.if_icmp .le 5, 3) := by decide +kernel
theorem d12_12 : decode method_3_code 12 = .ok (.iconst 0, 1) := by decide +kernel
theorem d12_13 : decode method_3_code 13 = .ok (.ireturn, 1) := by decide +kernel
theorem d12_14 : decode method_3_code 14 = .ok (.iload_n 0, 1) := by decide +kernel
theorem d12_15 : decode method_3_code 15 = .ok (.bipush 46, 2) := by decide +kernel
theorem d12_17 : decode method_3_code 17 = .ok (.if_icmp .gt 5, 3) := by decide +kernel
theorem d12_20 : decode method_3_code 20 = .ok (.iconst 1, 1) := by decide +kernel
theorem d12_21 : decode method_3_code 21 = .ok (.ireturn, 1) := by decide +kernel
theorem d12_22 : decode method_3_code 22 = .ok (.iload_n 0, 1) := by decide +kernel
theorem d12_23 : decode method_3_code 23 = .ok (.bipush 47, 2) := by decide +kernel
theorem d12_25 : decode method_3_code 25 = .ok (.if_icmp .ne 5, 3) := by decide +kernel
theorem d12_28 : decode method_3_code 28 = .ok (.iconst 0, 1) := by decide +kernel
theorem d12_29 : decode method_3_code 29 = .ok (.ireturn, 1) := by decide +kernel
theorem d12_30 : decode method_3_code 30 = .ok (.iload_n 0, 1) := by decide +kernel
theorem d12_31 : decode method_3_code 31 = .ok (.bipush 57, 2) := by decide +kernel
theorem d12_33 : decode method_3_code 33 = .ok (.if_icmp .gt 5, 3) := by decide +kernel
theorem d12_36 : decode method_3_code 36 = .ok (.iconst 1, 1) := by decide +kernel
theorem d12_37 : decode method_3_code 37 = .ok (.ireturn, 1) := by decide +kernel
theorem d12_38 : decode method_3_code 38 = .ok (.iload_n 0, 1) := by decide +kernel
theorem d12_39 : decode method_3_code 39 = .ok (.bipush 65, 2) := by decide +kernel
theorem d12_41 : decode method_3_code 41 = .ok (.if_icmp .ge 5, 3) := by decide +kernel
theorem d12_44 : decode method_3_code 44 = .ok (.iconst 0, 1) := by decide +kernel
theorem d12_45 : decode method_3_code 45 = .ok (.ireturn, 1) := by decide +kernel
theorem d12_46 : decode method_3_code 46 = .ok (.iload_n 0, 1) := by decide +kernel
theorem d12_47 : decode method_3_code 47 = .ok (.bipush 90, 2) := by decide +kernel
theorem d12_49 : decode method_3_code 49 = .ok (.if_icmp .gt 5, 3) := by decide +kernel
theorem d12_52 : decode method_3_code 52 = .ok (.iconst 1, 1) := by decide +kernel
theorem d12_53 : decode method_3_code 53 = .ok (.ireturn, 1) := by decide +kernel
theorem d12_54 : decode method_3_code 54 = .ok (.iload_n 0, 1) := by decide +kernel
theorem d12_55 : decode method_3_code 55 = .ok (.bipush 95, 2) := by decide +kernel
theorem d12_57 : decode method_3_code 57 = .ok (.if_icmp .ne 5, 3) := by decide +kernel
theorem d12_60 : decode method_3_code 60 = .ok (.iconst 1, 1) := by decide +kernel
theorem d12_61 : decode method_3_code 61 = .ok (.ireturn, 1) := by decide +kernel
theorem d12_62 : decode method_3_code 62 = .ok (.iload_n 0, 1) := by decide +kernel
theorem d12_63 : decode method_3_code 63 = .ok (.bipush 97, 2) := by decide +kernel
theorem d12_65 : decode method_3_code 65 = .ok (.if_icmp .ge 5, 3) := by decide +kernel
theorem d12_68 : decode method_3_code 68 = .ok (.iconst 0, 1) := by decide +kernel
theorem d12_69 : decode method_3_code 69 = .ok (.ireturn, 1) := by decide +kernel
theorem d12_70 : decode method_3_code 70 = .ok (.iload_n 0, 1) := by decide +kernel
theorem d12_71 : decode method_3_code 71 = .ok (.bipush 122, 2) := by decide +kernel
theorem d12_73 : decode method_3_code 73 = .ok (.if_icmp .gt 5, 3) := by decide +kernel
theorem d12_76 : decode method_3_code 76 = .ok (.iconst 1, 1) := by decide +kernel
theorem d12_77 : decode method_3_code 77 = .ok (.ireturn, 1) := by decide +kernel
theorem d12_78 : decode method_3_code 78 = .ok (.iload_n 0, 1) := by decide +kernel
theorem d12_79 : decode method_3_code 79 = .ok (.bipush 126, 2) := by decide +kernel
theorem d12_81 : decode method_3_code 81 = .ok (.if_icmp .ne 7, 3) := by decide +kernel
theorem d12_84 : decode method_3_code 84 = .ok (.iconst 1, 1) := by decide +kernel
theorem d12_85 : decode method_3_code 85 = .ok (.goto 4, 3) := by decide +kernel
theorem d12_88 : decode method_3_code 88 = .ok (.iconst 0, 1) := by decide +kernel
theorem d12_89 : decode method_3_code 89 = .ok (.ireturn, 1) := by decide +kernel
theorem pn_12 : plainName "com/example/grantline/grantline/PercentEncodingIsUnreservedPinLaw" = true := by first | (simp [plainName, overriddenIn]; done) | decide +kernel
theorem ef_12 (m : MethodId) (p1 : Int32) : entryFrame m #[(.int p1)] 1 = mkF m 0 #[.val (.int p1)] [] := by first | (simp [entryFrame, mkF, argsToLocals, Value.category]; done) | rfl
def rv12 (p1 : Int32) : Int32 :=
  if p1 < (45 : Int32) then (0 : Int32) else if (126 : Int32) < p1 then (0 : Int32) else if (46 : Int32) < p1 then if p1 = (47 : Int32) then (0 : Int32) else if (57 : Int32) < p1 then if p1 < (65 : Int32) then (0 : Int32) else if (90 : Int32) < p1 then if p1 = (95 : Int32) then (1 : Int32) else if p1 < (97 : Int32) then (0 : Int32) else if (122 : Int32) < p1 then if p1 = (126 : Int32) then (1 : Int32) else (0 : Int32) else (1 : Int32) else (1 : Int32) else (1 : Int32) else (1 : Int32)
def Q12 (Z : State) (p1 : Int32) (h0 : Heap) (n0 : Nat) (v : Option Value) (h : Heap) (L : List Loc) : Prop := v = some (.int (rv12 p1)) ∧ Fr n0 L ∧ h = h0
set_option maxRecDepth 65536 in
set_option maxHeartbeats 40000000 in
theorem rm12 (l : Launch) (Z : State) (a0 : Array Value) (hw : ∀ d ∈ tables_1, d.before a0 Z = true) (ws : List Jvm.Cond) (p1 : Int32) (h0 : Heap) (n0 : Nat) (Z0 : n0 ≤ h0.size) :
    MetFree l (⟨"com/example/grantline/grantline/PercentEncodingIsUnreservedPinLaw", "expected", "(I)Z"⟩ : MethodName) (head1 (Jvm.Cond.code (⟨"com/example/grantline/grantline/PercentEncodingIsUnreservedPinLaw", "expected", "(I)Z"⟩ : MethodName) method_3_code 1 (some .boolean) :: ws) ({ frames := 0, cells := 0, slots := 0, locals := 0 } : Room)) (fun a U => a = #[(.int p1)] ∧ Z.Warmed39 U.vm ∧ U.heap = h0) (fun _ _ _ _ _ => True) (fun _ U oo U' => ∃ v L, oo = .returned v ∧ Q12 Z p1 h0 n0 v U'.heap L ∧ FrameEnd U oo U' L ({ frames := 0, cells := 0, slots := 0, locals := 0 } : Room).cells ({ frames := 0, cells := 0, slots := 0, locals := 0 } : Room).slots) := by
  refine MetFree.of_bodySF (plainFor_of_name pn_12) hisR ?_
  intro p e s m args below meth c s₁ Bd hml0 hP hK
  obtain ⟨rfl, hZ, hh⟩ := hP
  have hx := Bd.exec
  have hby := Bd.bytes
  have hml : c.maxLocals = 1 := hml0
  have hown : s.vm.findClass "com/example/grantline/grantline/PercentEncodingIsUnreservedPinLaw" = some m.cls := findClass_of_methodNamed Bd.named
  have hnm := (name_of_methodNamed Bd.named Bd.method).1
  have X0 : Stand p l e ({ frames := 0, cells := 0, slots := 0, locals := 0 } : Room) s m #[(.int p1)] below meth c s₁ [] 0 0 := Stand.of_body Bd
  have e0 : s₁.heap = h0 := by rw [← hh, Bd.state]; rfl
  have N0 := Fr.nil n0
  have K0 : Keep h0 h0 [] := Keep.refl _ _
  have pre0 : ∀ tg, Steps p.tables e below (s₁.setTop (mkF m 0 #[.val (.int p1)] [])) tg → Steps p.tables e below (s₁.setTop (entryFrame m #[(.int p1)] 1)) tg := fun tg k => castTop (ef_12 m p1) k
  have st2 : ∀ tg, Steps p.tables e below (s₁.setTop (mkF m 3 #[.val (.int p1)] [(.int (45 : Int32)), (.int p1)])) tg → Steps p.tables e below (s₁.setTop (mkF m 0 #[.val (.int p1)] [])) tg := by
    intro tg kt
    show Steps p.tables e below (s₁.setTop (mkF m 0 #[.val (.int p1)] [])) tg
    refine XS.iloadN X0.here hx rfl (hb hby d12_0) rfl ?_
    show Steps p.tables e below (s₁.setTop (mkF m 1 #[.val (.int p1)] [(.int p1)])) tg
    refine XS.bipush X0.here hx rfl (hb hby d12_1) ?_
    exact kt
  by_cases hc3_1 : p1 < (45 : Int32)
  · -- pc 3: p1 < (45 : Int32)
    have st3 : ∀ tg, Steps p.tables e below (s₁.setTop (mkF m 13 #[.val (.int p1)] [(.int (0 : Int32))])) tg → Steps p.tables e below (s₁.setTop (mkF m 3 #[.val (.int p1)] [(.int (45 : Int32)), (.int p1)])) tg := by
      intro tg kt
      show Steps p.tables e below (s₁.setTop (mkF m 3 #[.val (.int p1)] [(.int (45 : Int32)), (.int p1)])) tg
      refine XS.icmpYes X0.here hx rfl (pc0 := 3) (pc' := 12) rfl (hb hby d12_3) rfl (XT.ii_lt_t hc3_1) (by decide) (by decide) ?_
      show Steps p.tables e below (s₁.setTop (mkF m 12 #[.val (.int p1)] [])) tg
      refine XS.iconst X0.here hx rfl (hb hby d12_12) ?_
      exact kt
    obtain ⟨fs, hr, hrun, hended, hW, hsame⟩ := X0.leave (v := some (.int (0 : Int32))) (fun h => by rw [Bd.returns] at h; cases h)
    refine ⟨_, _, pre0 _ ?_, hrun, hended, _, _, rfl, ?_, ⟨_, rfl⟩, hW, hsame.mono (by decide) (by decide)⟩
    · refine st2 _ ?_
      refine st3 _ ?_
      show Steps p.tables e below (s₁.setTop (mkF m 13 #[.val (.int p1)] [(.int (0 : Int32))])) _
      exact retN X0 hx (t := .boolean) Bd.returns (by simp) (hb hby d12_13) hr
    · show Q12 Z p1 h0 n0 _ s₁.heap _
      rw [e0]
      refine ⟨?_, N0, rfl⟩
      simp only [rv12, if_pos hc3_1]
  · -- pc 3: not p1 < (45 : Int32)
    have st5 : ∀ tg, Steps p.tables e below (s₁.setTop (mkF m 9 #[.val (.int p1)] [(.int (126 : Int32)), (.int p1)])) tg → Steps p.tables e below (s₁.setTop (mkF m 3 #[.val (.int p1)] [(.int (45 : Int32)), (.int p1)])) tg := by
      intro tg kt
      show Steps p.tables e below (s₁.setTop (mkF m 3 #[.val (.int p1)] [(.int (45 : Int32)), (.int p1)])) tg
      refine XS.icmpNo X0.here hx rfl (hb hby d12_3) rfl (XT.ii_lt_f hc3_1) ?_
      show Steps p.tables e below (s₁.setTop (mkF m 6 #[.val (.int p1)] [])) tg
      refine XS.iloadN X0.here hx rfl (hb hby d12_6) rfl ?_
      show Steps p.tables e below (s₁.setTop (mkF m 7 #[.val (.int p1)] [(.int p1)])) tg
      refine XS.bipush X0.here hx rfl (hb hby d12_7) ?_
      exact kt
    by_cases hc9_4 : (126 : Int32) < p1
    · -- pc 9: (126 : Int32) < p1
      have st6 : ∀ tg, Steps p.tables e below (s₁.setTop (mkF m 13 #[.val (.int p1)] [(.int (0 : Int32))])) tg → Steps p.tables e below (s₁.setTop (mkF m 9 #[.val (.int p1)] [(.int (126 : Int32)), (.int p1)])) tg := by
        intro tg kt
        show Steps p.tables e below (s₁.setTop (mkF m 9 #[.val (.int p1)] [(.int (126 : Int32)), (.int p1)])) tg
        refine XS.icmpNo X0.here hx rfl (hb hby d12_9) rfl (XT.ii_le_f hc9_4) ?_
        show Steps p.tables e below (s₁.setTop (mkF m 12 #[.val (.int p1)] [])) tg
        refine XS.iconst X0.here hx rfl (hb hby d12_12) ?_
        exact kt
      obtain ⟨fs, hr, hrun, hended, hW, hsame⟩ := X0.leave (v := some (.int (0 : Int32))) (fun h => by rw [Bd.returns] at h; cases h)
      refine ⟨_, _, pre0 _ ?_, hrun, hended, _, _, rfl, ?_, ⟨_, rfl⟩, hW, hsame.mono (by decide) (by decide)⟩
      · refine st2 _ ?_
        refine st5 _ ?_
        refine st6 _ ?_
        show Steps p.tables e below (s₁.setTop (mkF m 13 #[.val (.int p1)] [(.int (0 : Int32))])) _
        exact retN X0 hx (t := .boolean) Bd.returns (by simp) (hb hby d12_13) hr
      · show Q12 Z p1 h0 n0 _ s₁.heap _
        rw [e0]
        refine ⟨?_, N0, rfl⟩
        simp only [rv12, if_neg hc3_1, if_pos hc9_4]
    · -- pc 9: not (126 : Int32) < p1
      have st8 : ∀ tg, Steps p.tables e below (s₁.setTop (mkF m 17 #[.val (.int p1)] [(.int (46 : Int32)), (.int p1)])) tg → Steps p.tables e below (s₁.setTop (mkF m 9 #[.val (.int p1)] [(.int (126 : Int32)), (.int p1)])) tg := by
        intro tg kt
        show Steps p.tables e below (s₁.setTop (mkF m 9 #[.val (.int p1)] [(.int (126 : Int32)), (.int p1)])) tg
        refine XS.icmpYes X0.here hx rfl (pc0 := 9) (pc' := 14) rfl (hb hby d12_9) rfl (XT.ii_le_t hc9_4) (by decide) (by decide) ?_
        show Steps p.tables e below (s₁.setTop (mkF m 14 #[.val (.int p1)] [])) tg
        refine XS.iloadN X0.here hx rfl (hb hby d12_14) rfl ?_
        show Steps p.tables e below (s₁.setTop (mkF m 15 #[.val (.int p1)] [(.int p1)])) tg
        refine XS.bipush X0.here hx rfl (hb hby d12_15) ?_
        exact kt
      by_cases hc17_7 : (46 : Int32) < p1
      · -- pc 17: (46 : Int32) < p1
        have st10 : ∀ tg, Steps p.tables e below (s₁.setTop (mkF m 25 #[.val (.int p1)] [(.int (47 : Int32)), (.int p1)])) tg → Steps p.tables e below (s₁.setTop (mkF m 17 #[.val (.int p1)] [(.int (46 : Int32)), (.int p1)])) tg := by
          intro tg kt
          show Steps p.tables e below (s₁.setTop (mkF m 17 #[.val (.int p1)] [(.int (46 : Int32)), (.int p1)])) tg
          refine XS.icmpYes X0.here hx rfl (pc0 := 17) (pc' := 22) rfl (hb hby d12_17) rfl (XT.ii_gt_t hc17_7) (by decide) (by decide) ?_
          show Steps p.tables e below (s₁.setTop (mkF m 22 #[.val (.int p1)] [])) tg
          refine XS.iloadN X0.here hx rfl (hb hby d12_22) rfl ?_
          show Steps p.tables e below (s₁.setTop (mkF m 23 #[.val (.int p1)] [(.int p1)])) tg
          refine XS.bipush X0.here hx rfl (hb hby d12_23) ?_
          exact kt
        by_cases hc25_9 : p1 = (47 : Int32)
        · -- pc 25: p1 = (47 : Int32)
          have st11 : ∀ tg, Steps p.tables e below (s₁.setTop (mkF m 29 #[.val (.int p1)] [(.int (0 : Int32))])) tg → Steps p.tables e below (s₁.setTop (mkF m 25 #[.val (.int p1)] [(.int (47 : Int32)), (.int p1)])) tg := by
            intro tg kt
            show Steps p.tables e below (s₁.setTop (mkF m 25 #[.val (.int p1)] [(.int (47 : Int32)), (.int p1)])) tg
            refine XS.icmpNo X0.here hx rfl (hb hby d12_25) rfl (XT.ii_ne_f hc25_9) ?_
            show Steps p.tables e below (s₁.setTop (mkF m 28 #[.val (.int p1)] [])) tg
            refine XS.iconst X0.here hx rfl (hb hby d12_28) ?_
            exact kt
          obtain ⟨fs, hr, hrun, hended, hW, hsame⟩ := X0.leave (v := some (.int (0 : Int32))) (fun h => by rw [Bd.returns] at h; cases h)
          refine ⟨_, _, pre0 _ ?_, hrun, hended, _, _, rfl, ?_, ⟨_, rfl⟩, hW, hsame.mono (by decide) (by decide)⟩
          · refine st2 _ ?_
            refine st5 _ ?_
            refine st8 _ ?_
            refine st10 _ ?_
            refine st11 _ ?_
            show Steps p.tables e below (s₁.setTop (mkF m 29 #[.val (.int p1)] [(.int (0 : Int32))])) _
            exact retN X0 hx (t := .boolean) Bd.returns (by simp) (hb hby d12_29) hr
          · show Q12 Z p1 h0 n0 _ s₁.heap _
            rw [e0]
            refine ⟨?_, N0, rfl⟩
            simp only [rv12, if_neg hc3_1, if_neg hc9_4, if_pos hc17_7, if_pos hc25_9]
        · -- pc 25: not p1 = (47 : Int32)
          have st13 : ∀ tg, Steps p.tables e below (s₁.setTop (mkF m 33 #[.val (.int p1)] [(.int (57 : Int32)), (.int p1)])) tg → Steps p.tables e below (s₁.setTop (mkF m 25 #[.val (.int p1)] [(.int (47 : Int32)), (.int p1)])) tg := by
            intro tg kt
            show Steps p.tables e below (s₁.setTop (mkF m 25 #[.val (.int p1)] [(.int (47 : Int32)), (.int p1)])) tg
            refine XS.icmpYes X0.here hx rfl (pc0 := 25) (pc' := 30) rfl (hb hby d12_25) rfl (XT.ii_ne_t hc25_9) (by decide) (by decide) ?_
            show Steps p.tables e below (s₁.setTop (mkF m 30 #[.val (.int p1)] [])) tg
            refine XS.iloadN X0.here hx rfl (hb hby d12_30) rfl ?_
            show Steps p.tables e below (s₁.setTop (mkF m 31 #[.val (.int p1)] [(.int p1)])) tg
            refine XS.bipush X0.here hx rfl (hb hby d12_31) ?_
            exact kt
          by_cases hc33_12 : (57 : Int32) < p1
          · -- pc 33: (57 : Int32) < p1
            have st15 : ∀ tg, Steps p.tables e below (s₁.setTop (mkF m 41 #[.val (.int p1)] [(.int (65 : Int32)), (.int p1)])) tg → Steps p.tables e below (s₁.setTop (mkF m 33 #[.val (.int p1)] [(.int (57 : Int32)), (.int p1)])) tg := by
              intro tg kt
              show Steps p.tables e below (s₁.setTop (mkF m 33 #[.val (.int p1)] [(.int (57 : Int32)), (.int p1)])) tg
              refine XS.icmpYes X0.here hx rfl (pc0 := 33) (pc' := 38) rfl (hb hby d12_33) rfl (XT.ii_gt_t hc33_12) (by decide) (by decide) ?_
              show Steps p.tables e below (s₁.setTop (mkF m 38 #[.val (.int p1)] [])) tg
              refine XS.iloadN X0.here hx rfl (hb hby d12_38) rfl ?_
              show Steps p.tables e below (s₁.setTop (mkF m 39 #[.val (.int p1)] [(.int p1)])) tg
              refine XS.bipush X0.here hx rfl (hb hby d12_39) ?_
              exact kt
            by_cases hc41_14 : p1 < (65 : Int32)
            · -- pc 41: p1 < (65 : Int32)
              have st16 : ∀ tg, Steps p.tables e below (s₁.setTop (mkF m 45 #[.val (.int p1)] [(.int (0 : Int32))])) tg → Steps p.tables e below (s₁.setTop (mkF m 41 #[.val (.int p1)] [(.int (65 : Int32)), (.int p1)])) tg := by
                intro tg kt
                show Steps p.tables e below (s₁.setTop (mkF m 41 #[.val (.int p1)] [(.int (65 : Int32)), (.int p1)])) tg
                refine XS.icmpNo X0.here hx rfl (hb hby d12_41) rfl (XT.ii_ge_f hc41_14) ?_
                show Steps p.tables e below (s₁.setTop (mkF m 44 #[.val (.int p1)] [])) tg
                refine XS.iconst X0.here hx rfl (hb hby d12_44) ?_
                exact kt
              obtain ⟨fs, hr, hrun, hended, hW, hsame⟩ := X0.leave (v := some (.int (0 : Int32))) (fun h => by rw [Bd.returns] at h; cases h)
              refine ⟨_, _, pre0 _ ?_, hrun, hended, _, _, rfl, ?_, ⟨_, rfl⟩, hW, hsame.mono (by decide) (by decide)⟩
              · refine st2 _ ?_
                refine st5 _ ?_
                refine st8 _ ?_
                refine st10 _ ?_
                refine st13 _ ?_
                refine st15 _ ?_
                refine st16 _ ?_
                show Steps p.tables e below (s₁.setTop (mkF m 45 #[.val (.int p1)] [(.int (0 : Int32))])) _
                exact retN X0 hx (t := .boolean) Bd.returns (by simp) (hb hby d12_45) hr
              · show Q12 Z p1 h0 n0 _ s₁.heap _
                rw [e0]
                refine ⟨?_, N0, rfl⟩
                simp only [rv12, if_neg hc3_1, if_neg hc9_4, if_pos hc17_7, if_neg hc25_9, if_pos hc33_12, if_pos hc41_14]
            · -- pc 41: not p1 < (65 : Int32)
              have st18 : ∀ tg, Steps p.tables e below (s₁.setTop (mkF m 49 #[.val (.int p1)] [(.int (90 : Int32)), (.int p1)])) tg → Steps p.tables e below (s₁.setTop (mkF m 41 #[.val (.int p1)] [(.int (65 : Int32)), (.int p1)])) tg := by
                intro tg kt
                show Steps p.tables e below (s₁.setTop (mkF m 41 #[.val (.int p1)] [(.int (65 : Int32)), (.int p1)])) tg
                refine XS.icmpYes X0.here hx rfl (pc0 := 41) (pc' := 46) rfl (hb hby d12_41) rfl (XT.ii_ge_t hc41_14) (by decide) (by decide) ?_
                show Steps p.tables e below (s₁.setTop (mkF m 46 #[.val (.int p1)] [])) tg
                refine XS.iloadN X0.here hx rfl (hb hby d12_46) rfl ?_
                show Steps p.tables e below (s₁.setTop (mkF m 47 #[.val (.int p1)] [(.int p1)])) tg
                refine XS.bipush X0.here hx rfl (hb hby d12_47) ?_
                exact kt
              by_cases hc49_17 : (90 : Int32) < p1
              · -- pc 49: (90 : Int32) < p1
                have st20 : ∀ tg, Steps p.tables e below (s₁.setTop (mkF m 57 #[.val (.int p1)] [(.int (95 : Int32)), (.int p1)])) tg → Steps p.tables e below (s₁.setTop (mkF m 49 #[.val (.int p1)] [(.int (90 : Int32)), (.int p1)])) tg := by
                  intro tg kt
                  show Steps p.tables e below (s₁.setTop (mkF m 49 #[.val (.int p1)] [(.int (90 : Int32)), (.int p1)])) tg
                  refine XS.icmpYes X0.here hx rfl (pc0 := 49) (pc' := 54) rfl (hb hby d12_49) rfl (XT.ii_gt_t hc49_17) (by decide) (by decide) ?_
                  show Steps p.tables e below (s₁.setTop (mkF m 54 #[.val (.int p1)] [])) tg
                  refine XS.iloadN X0.here hx rfl (hb hby d12_54) rfl ?_
                  show Steps p.tables e below (s₁.setTop (mkF m 55 #[.val (.int p1)] [(.int p1)])) tg
                  refine XS.bipush X0.here hx rfl (hb hby d12_55) ?_
                  exact kt
                by_cases hc57_19 : p1 = (95 : Int32)
                · -- pc 57: p1 = (95 : Int32)
                  have st21 : ∀ tg, Steps p.tables e below (s₁.setTop (mkF m 61 #[.val (.int p1)] [(.int (1 : Int32))])) tg → Steps p.tables e below (s₁.setTop (mkF m 57 #[.val (.int p1)] [(.int (95 : Int32)), (.int p1)])) tg := by
                    intro tg kt
                    show Steps p.tables e below (s₁.setTop (mkF m 57 #[.val (.int p1)] [(.int (95 : Int32)), (.int p1)])) tg
                    refine XS.icmpNo X0.here hx rfl (hb hby d12_57) rfl (XT.ii_ne_f hc57_19) ?_
                    show Steps p.tables e below (s₁.setTop (mkF m 60 #[.val (.int p1)] [])) tg
                    refine XS.iconst X0.here hx rfl (hb hby d12_60) ?_
                    exact kt
                  obtain ⟨fs, hr, hrun, hended, hW, hsame⟩ := X0.leave (v := some (.int (1 : Int32))) (fun h => by rw [Bd.returns] at h; cases h)
                  refine ⟨_, _, pre0 _ ?_, hrun, hended, _, _, rfl, ?_, ⟨_, rfl⟩, hW, hsame.mono (by decide) (by decide)⟩
                  · refine st2 _ ?_
                    refine st5 _ ?_
                    refine st8 _ ?_
                    refine st10 _ ?_
                    refine st13 _ ?_
                    refine st15 _ ?_
                    refine st18 _ ?_
                    refine st20 _ ?_
                    refine st21 _ ?_
                    show Steps p.tables e below (s₁.setTop (mkF m 61 #[.val (.int p1)] [(.int (1 : Int32))])) _
                    exact retN X0 hx (t := .boolean) Bd.returns (by simp) (hb hby d12_61) hr
                  · show Q12 Z p1 h0 n0 _ s₁.heap _
                    rw [e0]
                    refine ⟨?_, N0, rfl⟩
                    simp only [rv12, if_neg hc3_1, if_neg hc9_4, if_pos hc17_7, if_neg hc25_9, if_pos hc33_12, if_neg hc41_14, if_pos hc49_17, if_pos hc57_19]
                · -- pc 57: not p1 = (95 : Int32)
                  have st23 : ∀ tg, Steps p.tables e below (s₁.setTop (mkF m 65 #[.val (.int p1)] [(.int (97 : Int32)), (.int p1)])) tg → Steps p.tables e below (s₁.setTop (mkF m 57 #[.val (.int p1)] [(.int (95 : Int32)), (.int p1)])) tg := by
                    intro tg kt
                    show Steps p.tables e below (s₁.setTop (mkF m 57 #[.val (.int p1)] [(.int (95 : Int32)), (.int p1)])) tg
                    refine XS.icmpYes X0.here hx rfl (pc0 := 57) (pc' := 62) rfl (hb hby d12_57) rfl (XT.ii_ne_t hc57_19) (by decide) (by decide) ?_
                    show Steps p.tables e below (s₁.setTop (mkF m 62 #[.val (.int p1)] [])) tg
                    refine XS.iloadN X0.here hx rfl (hb hby d12_62) rfl ?_
                    show Steps p.tables e below (s₁.setTop (mkF m 63 #[.val (.int p1)] [(.int p1)])) tg
                    refine XS.bipush X0.here hx rfl (hb hby d12_63) ?_
                    exact kt
                  by_cases hc65_22 : p1 < (97 : Int32)
                  · -- pc 65: p1 < (97 : Int32)
                    have st24 : ∀ tg, Steps p.tables e below (s₁.setTop (mkF m 69 #[.val (.int p1)] [(.int (0 : Int32))])) tg → Steps p.tables e below (s₁.setTop (mkF m 65 #[.val (.int p1)] [(.int (97 : Int32)), (.int p1)])) tg := by
                      intro tg kt
                      show Steps p.tables e below (s₁.setTop (mkF m 65 #[.val (.int p1)] [(.int (97 : Int32)), (.int p1)])) tg
                      refine XS.icmpNo X0.here hx rfl (hb hby d12_65) rfl (XT.ii_ge_f hc65_22) ?_
                      show Steps p.tables e below (s₁.setTop (mkF m 68 #[.val (.int p1)] [])) tg
                      refine XS.iconst X0.here hx rfl (hb hby d12_68) ?_
                      exact kt
                    obtain ⟨fs, hr, hrun, hended, hW, hsame⟩ := X0.leave (v := some (.int (0 : Int32))) (fun h => by rw [Bd.returns] at h; cases h)
                    refine ⟨_, _, pre0 _ ?_, hrun, hended, _, _, rfl, ?_, ⟨_, rfl⟩, hW, hsame.mono (by decide) (by decide)⟩
                    · refine st2 _ ?_
                      refine st5 _ ?_
                      refine st8 _ ?_
                      refine st10 _ ?_
                      refine st13 _ ?_
                      refine st15 _ ?_
                      refine st18 _ ?_
                      refine st20 _ ?_
                      refine st23 _ ?_
                      refine st24 _ ?_
                      show Steps p.tables e below (s₁.setTop (mkF m 69 #[.val (.int p1)] [(.int (0 : Int32))])) _
                      exact retN X0 hx (t := .boolean) Bd.returns (by simp) (hb hby d12_69) hr
                    · show Q12 Z p1 h0 n0 _ s₁.heap _
                      rw [e0]
                      refine ⟨?_, N0, rfl⟩
                      simp only [rv12, if_neg hc3_1, if_neg hc9_4, if_pos hc17_7, if_neg hc25_9, if_pos hc33_12, if_neg hc41_14, if_pos hc49_17, if_neg hc57_19, if_pos hc65_22]
                  · -- pc 65: not p1 < (97 : Int32)
                    have st26 : ∀ tg, Steps p.tables e below (s₁.setTop (mkF m 73 #[.val (.int p1)] [(.int (122 : Int32)), (.int p1)])) tg → Steps p.tables e below (s₁.setTop (mkF m 65 #[.val (.int p1)] [(.int (97 : Int32)), (.int p1)])) tg := by
                      intro tg kt
                      show Steps p.tables e below (s₁.setTop (mkF m 65 #[.val (.int p1)] [(.int (97 : Int32)), (.int p1)])) tg
                      refine XS.icmpYes X0.here hx rfl (pc0 := 65) (pc' := 70) rfl (hb hby d12_65) rfl (XT.ii_ge_t hc65_22) (by decide) (by decide) ?_
                      show Steps p.tables e below (s₁.setTop (mkF m 70 #[.val (.int p1)] [])) tg
                      refine XS.iloadN X0.here hx rfl (hb hby d12_70) rfl ?_
                      show Steps p.tables e below (s₁.setTop (mkF m 71 #[.val (.int p1)] [(.int p1)])) tg
                      refine XS.bipush X0.here hx rfl (hb hby d12_71) ?_
                      exact kt
                    by_cases hc73_25 : (122 : Int32) < p1
                    · -- pc 73: (122 : Int32) < p1
                      have st28 : ∀ tg, Steps p.tables e below (s₁.setTop (mkF m 81 #[.val (.int p1)] [(.int (126 : Int32)), (.int p1)])) tg → Steps p.tables e below (s₁.setTop (mkF m 73 #[.val (.int p1)] [(.int (122 : Int32)), (.int p1)])) tg := by
                        intro tg kt
                        show Steps p.tables e below (s₁.setTop (mkF m 73 #[.val (.int p1)] [(.int (122 : Int32)), (.int p1)])) tg
                        refine XS.icmpYes X0.here hx rfl (pc0 := 73) (pc' := 78) rfl (hb hby d12_73) rfl (XT.ii_gt_t hc73_25) (by decide) (by decide) ?_
                        show Steps p.tables e below (s₁.setTop (mkF m 78 #[.val (.int p1)] [])) tg
                        refine XS.iloadN X0.here hx rfl (hb hby d12_78) rfl ?_
                        show Steps p.tables e below (s₁.setTop (mkF m 79 #[.val (.int p1)] [(.int p1)])) tg
                        refine XS.bipush X0.here hx rfl (hb hby d12_79) ?_
                        exact kt
                      by_cases hc81_27 : p1 = (126 : Int32)
                      · -- pc 81: p1 = (126 : Int32)
                        have st29 : ∀ tg, Steps p.tables e below (s₁.setTop (mkF m 89 #[.val (.int p1)] [(.int (1 : Int32))])) tg → Steps p.tables e below (s₁.setTop (mkF m 81 #[.val (.int p1)] [(.int (126 : Int32)), (.int p1)])) tg := by
                          intro tg kt
                          show Steps p.tables e below (s₁.setTop (mkF m 81 #[.val (.int p1)] [(.int (126 : Int32)), (.int p1)])) tg
                          refine XS.icmpNo X0.here hx rfl (hb hby d12_81) rfl (XT.ii_ne_f hc81_27) ?_
                          show Steps p.tables e below (s₁.setTop (mkF m 84 #[.val (.int p1)] [])) tg
                          refine XS.iconst X0.here hx rfl (hb hby d12_84) ?_
                          show Steps p.tables e below (s₁.setTop (mkF m 85 #[.val (.int p1)] [(.int (1 : Int32))])) tg
                          refine XS.goto X0.here hx rfl (pc0 := 85) (pc' := 89) rfl (hb hby d12_85) (by decide) (by decide) ?_
                          exact kt
                        obtain ⟨fs, hr, hrun, hended, hW, hsame⟩ := X0.leave (v := some (.int (1 : Int32))) (fun h => by rw [Bd.returns] at h; cases h)
                        refine ⟨_, _, pre0 _ ?_, hrun, hended, _, _, rfl, ?_, ⟨_, rfl⟩, hW, hsame.mono (by decide) (by decide)⟩
                        · refine st2 _ ?_
                          refine st5 _ ?_
                          refine st8 _ ?_
                          refine st10 _ ?_
                          refine st13 _ ?_
                          refine st15 _ ?_
                          refine st18 _ ?_
                          refine st20 _ ?_
                          refine st23 _ ?_
                          refine st26 _ ?_
                          refine st28 _ ?_
                          refine st29 _ ?_
                          show Steps p.tables e below (s₁.setTop (mkF m 89 #[.val (.int p1)] [(.int (1 : Int32))])) _
                          exact retN X0 hx (t := .boolean) Bd.returns (by simp) (hb hby d12_89) hr
                        · show Q12 Z p1 h0 n0 _ s₁.heap _
                          rw [e0]
                          refine ⟨?_, N0, rfl⟩
                          simp only [rv12, if_neg hc3_1, if_neg hc9_4, if_pos hc17_7, if_neg hc25_9, if_pos hc33_12, if_neg hc41_14, if_pos hc49_17, if_neg hc57_19, if_neg hc65_22, if_pos hc73_25, if_pos hc81_27]
                      · -- pc 81: not p1 = (126 : Int32)
                        have st30 : ∀ tg, Steps p.tables e below (s₁.setTop (mkF m 89 #[.val (.int p1)] [(.int (0 : Int32))])) tg → Steps p.tables e below (s₁.setTop (mkF m 81 #[.val (.int p1)] [(.int (126 : Int32)), (.int p1)])) tg := by
                          intro tg kt
                          show Steps p.tables e below (s₁.setTop (mkF m 81 #[.val (.int p1)] [(.int (126 : Int32)), (.int p1)])) tg
                          refine XS.icmpYes X0.here hx rfl (pc0 := 81) (pc' := 88) rfl (hb hby d12_81) rfl (XT.ii_ne_t hc81_27) (by decide) (by decide) ?_
                          show Steps p.tables e below (s₁.setTop (mkF m 88 #[.val (.int p1)] [])) tg
                          refine XS.iconst X0.here hx rfl (hb hby d12_88) ?_
                          exact kt
                        obtain ⟨fs, hr, hrun, hended, hW, hsame⟩ := X0.leave (v := some (.int (0 : Int32))) (fun h => by rw [Bd.returns] at h; cases h)
                        refine ⟨_, _, pre0 _ ?_, hrun, hended, _, _, rfl, ?_, ⟨_, rfl⟩, hW, hsame.mono (by decide) (by decide)⟩
                        · refine st2 _ ?_
                          refine st5 _ ?_
                          refine st8 _ ?_
                          refine st10 _ ?_
                          refine st13 _ ?_
                          refine st15 _ ?_
                          refine st18 _ ?_
                          refine st20 _ ?_
                          refine st23 _ ?_
                          refine st26 _ ?_
                          refine st28 _ ?_
                          refine st30 _ ?_
                          show Steps p.tables e below (s₁.setTop (mkF m 89 #[.val (.int p1)] [(.int (0 : Int32))])) _
                          exact retN X0 hx (t := .boolean) Bd.returns (by simp) (hb hby d12_89) hr
                        · show Q12 Z p1 h0 n0 _ s₁.heap _
                          rw [e0]
                          refine ⟨?_, N0, rfl⟩
                          simp only [rv12, if_neg hc3_1, if_neg hc9_4, if_pos hc17_7, if_neg hc25_9, if_pos hc33_12, if_neg hc41_14, if_pos hc49_17, if_neg hc57_19, if_neg hc65_22, if_pos hc73_25, if_neg hc81_27]
                    · -- pc 73: not (122 : Int32) < p1
                      have st31 : ∀ tg, Steps p.tables e below (s₁.setTop (mkF m 77 #[.val (.int p1)] [(.int (1 : Int32))])) tg → Steps p.tables e below (s₁.setTop (mkF m 73 #[.val (.int p1)] [(.int (122 : Int32)), (.int p1)])) tg := by
                        intro tg kt
                        show Steps p.tables e below (s₁.setTop (mkF m 73 #[.val (.int p1)] [(.int (122 : Int32)), (.int p1)])) tg
                        refine XS.icmpNo X0.here hx rfl (hb hby d12_73) rfl (XT.ii_gt_f hc73_25) ?_
                        show Steps p.tables e below (s₁.setTop (mkF m 76 #[.val (.int p1)] [])) tg
                        refine XS.iconst X0.here hx rfl (hb hby d12_76) ?_
                        exact kt
                      obtain ⟨fs, hr, hrun, hended, hW, hsame⟩ := X0.leave (v := some (.int (1 : Int32))) (fun h => by rw [Bd.returns] at h; cases h)
                      refine ⟨_, _, pre0 _ ?_, hrun, hended, _, _, rfl, ?_, ⟨_, rfl⟩, hW, hsame.mono (by decide) (by decide)⟩
                      · refine st2 _ ?_
                        refine st5 _ ?_
                        refine st8 _ ?_
                        refine st10 _ ?_
                        refine st13 _ ?_
                        refine st15 _ ?_
                        refine st18 _ ?_
                        refine st20 _ ?_
                        refine st23 _ ?_
                        refine st26 _ ?_
                        refine st31 _ ?_
                        show Steps p.tables e below (s₁.setTop (mkF m 77 #[.val (.int p1)] [(.int (1 : Int32))])) _
                        exact retN X0 hx (t := .boolean) Bd.returns (by simp) (hb hby d12_77) hr
                      · show Q12 Z p1 h0 n0 _ s₁.heap _
                        rw [e0]
                        refine ⟨?_, N0, rfl⟩
                        simp only [rv12, if_neg hc3_1, if_neg hc9_4, if_pos hc17_7, if_neg hc25_9, if_pos hc33_12, if_neg hc41_14, if_pos hc49_17, if_neg hc57_19, if_neg hc65_22, if_neg hc73_25]
              · -- pc 49: not (90 : Int32) < p1
                have st32 : ∀ tg, Steps p.tables e below (s₁.setTop (mkF m 53 #[.val (.int p1)] [(.int (1 : Int32))])) tg → Steps p.tables e below (s₁.setTop (mkF m 49 #[.val (.int p1)] [(.int (90 : Int32)), (.int p1)])) tg := by
                  intro tg kt
                  show Steps p.tables e below (s₁.setTop (mkF m 49 #[.val (.int p1)] [(.int (90 : Int32)), (.int p1)])) tg
                  refine XS.icmpNo X0.here hx rfl (hb hby d12_49) rfl (XT.ii_gt_f hc49_17) ?_
                  show Steps p.tables e below (s₁.setTop (mkF m 52 #[.val (.int p1)] [])) tg
                  refine XS.iconst X0.here hx rfl (hb hby d12_52) ?_
                  exact kt
                obtain ⟨fs, hr, hrun, hended, hW, hsame⟩ := X0.leave (v := some (.int (1 : Int32))) (fun h => by rw [Bd.returns] at h; cases h)
                refine ⟨_, _, pre0 _ ?_, hrun, hended, _, _, rfl, ?_, ⟨_, rfl⟩, hW, hsame.mono (by decide) (by decide)⟩
                · refine st2 _ ?_
                  refine st5 _ ?_
                  refine st8 _ ?_
                  refine st10 _ ?_
                  refine st13 _ ?_
                  refine st15 _ ?_
                  refine st18 _ ?_
                  refine st32 _ ?_
                  show Steps p.tables e below (s₁.setTop (mkF m 53 #[.val (.int p1)] [(.int (1 : Int32))])) _
                  exact retN X0 hx (t := .boolean) Bd.returns (by simp) (hb hby d12_53) hr
                · show Q12 Z p1 h0 n0 _ s₁.heap _
                  rw [e0]
                  refine ⟨?_, N0, rfl⟩
                  simp only [rv12, if_neg hc3_1, if_neg hc9_4, if_pos hc17_7, if_neg hc25_9, if_pos hc33_12, if_neg hc41_14, if_neg hc49_17]
          · -- pc 33: not (57 : Int32) < p1
            have st33 : ∀ tg, Steps p.tables e below (s₁.setTop (mkF m 37 #[.val (.int p1)] [(.int (1 : Int32))])) tg → Steps p.tables e below (s₁.setTop (mkF m 33 #[.val (.int p1)] [(.int (57 : Int32)), (.int p1)])) tg := by
              intro tg kt
              show Steps p.tables e below (s₁.setTop (mkF m 33 #[.val (.int p1)] [(.int (57 : Int32)), (.int p1)])) tg
              refine XS.icmpNo X0.here hx rfl (hb hby d12_33) rfl (XT.ii_gt_f hc33_12) ?_
              show Steps p.tables e below (s₁.setTop (mkF m 36 #[.val (.int p1)] [])) tg
              refine XS.iconst X0.here hx rfl (hb hby d12_36) ?_
              exact kt
            obtain ⟨fs, hr, hrun, hended, hW, hsame⟩ := X0.leave (v := some (.int (1 : Int32))) (fun h => by rw [Bd.returns] at h; cases h)
            refine ⟨_, _, pre0 _ ?_, hrun, hended, _, _, rfl, ?_, ⟨_, rfl⟩, hW, hsame.mono (by decide) (by decide)⟩
            · refine st2 _ ?_
              refine st5 _ ?_
              refine st8 _ ?_
              refine st10 _ ?_
              refine st13 _ ?_
              refine st33 _ ?_
              show Steps p.tables e below (s₁.setTop (mkF m 37 #[.val (.int p1)] [(.int (1 : Int32))])) _
              exact retN X0 hx (t := .boolean) Bd.returns (by simp) (hb hby d12_37) hr
            · show Q12 Z p1 h0 n0 _ s₁.heap _
              rw [e0]
              refine ⟨?_, N0, rfl⟩
              simp only [rv12, if_neg hc3_1, if_neg hc9_4, if_pos hc17_7, if_neg hc25_9, if_neg hc33_12]
      · -- pc 17: not (46 : Int32) < p1
        have st34 : ∀ tg, Steps p.tables e below (s₁.setTop (mkF m 21 #[.val (.int p1)] [(.int (1 : Int32))])) tg → Steps p.tables e below (s₁.setTop (mkF m 17 #[.val (.int p1)] [(.int (46 : Int32)), (.int p1)])) tg := by
          intro tg kt
          show Steps p.tables e below (s₁.setTop (mkF m 17 #[.val (.int p1)] [(.int (46 : Int32)), (.int p1)])) tg
          refine XS.icmpNo X0.here hx rfl (hb hby d12_17) rfl (XT.ii_gt_f hc17_7) ?_
          show Steps p.tables e below (s₁.setTop (mkF m 20 #[.val (.int p1)] [])) tg
          refine XS.iconst X0.here hx rfl (hb hby d12_20) ?_
          exact kt
        obtain ⟨fs, hr, hrun, hended, hW, hsame⟩ := X0.leave (v := some (.int (1 : Int32))) (fun h => by rw [Bd.returns] at h; cases h)
        refine ⟨_, _, pre0 _ ?_, hrun, hended, _, _, rfl, ?_, ⟨_, rfl⟩, hW, hsame.mono (by decide) (by decide)⟩
        · refine st2 _ ?_
          refine st5 _ ?_
          refine st8 _ ?_
          refine st34 _ ?_
          show Steps p.tables e below (s₁.setTop (mkF m 21 #[.val (.int p1)] [(.int (1 : Int32))])) _
          exact retN X0 hx (t := .boolean) Bd.returns (by simp) (hb hby d12_21) hr
        · show Q12 Z p1 h0 n0 _ s₁.heap _
          rw [e0]
          refine ⟨?_, N0, rfl⟩
          simp only [rv12, if_neg hc3_1, if_neg hc9_4, if_neg hc17_7]
theorem own_i2b {c : Int32} (h1 : ¬ c < 0) (h2 : ¬ (255 : Int32) < c) : (c.toInt8.toInt32).toInt = if c.toInt < 128 then c.toInt else c.toInt - 256 := by
  have z0 : (0 : Int32).toInt = 0 := by decide
  have z1 : (255 : Int32).toInt = 255 := by decide
  rw [Int32.lt_iff_toInt_lt] at h1 h2
  rw [Int8.toInt_toInt32, Int32.toInt_toInt8]
  have e : c.toInt.bmod (2 ^ 8) = if c.toInt < 128 then c.toInt else c.toInt - 256 := by
    rw [Int.bmod_def]; split <;> split <;> omega
  exact e
theorem own_ix (a : Addr) (c : Int32) (wc : Int32) (t : Addr) (kt : ClassId) : (rv2 a c wc t kt < 0) ↔ ¬ (c = 45 ∨ c = 46 ∨ c = 95 ∨ c = 126) := by
  simp only [rv2, rv3, rv7, rv8]
  by_cases h1 : c < 0
  · have : ¬ (c = 45 ∨ c = 46 ∨ c = 95 ∨ c = 126) := by rintro (rfl | rfl | rfl | rfl) <;> revert h1 <;> decide
    simp [h1, this]
  by_cases h2 : (255 : Int32) < c
  · have : ¬ (c = 45 ∨ c = 46 ∨ c = 95 ∨ c = 126) := by rintro (rfl | rfl | rfl | rfl) <;> revert h2 <;> decide
    simp [h1, h2, this]
  have e := own_i2b h1 h2
  have k : ∀ n : Int32, 0 ≤ n.toInt → n.toInt < 128 → ((n = c.toInt8.toInt32) ↔ c = n) := fun n hn hm => by
    rw [← Int32.toInt_inj, ← Int32.toInt_inj, e]
    have z0 : (0 : Int32).toInt = 0 := by decide
    have z5 : (255 : Int32).toInt = 255 := by decide
    have g1 := h1
    have g2 := h2
    rw [Int32.lt_iff_toInt_lt] at g1 g2
    split <;> omega
  have k1 := k 45 (by decide) (by decide)
  have k2 := k 46 (by decide) (by decide)
  have k3 := k 95 (by decide) (by decide)
  have k4 := k 126 (by decide) (by decide)
  simp only [h1, h2, if_false, rv11, k1, k2, k3, k4]
  by_cases q1 : c = 45
  · simp [q1]
  by_cases q2 : c = 46
  · simp [q2]
  by_cases q3 : c = 95
  · simp [q3]
  by_cases q4 : c = 126
  · simp [q4]
  simp [q1, q2, q3, q4]
def un (c : Int32) : Int32 := if (65 ≤ c ∧ c ≤ 90) ∨ (97 ≤ c ∧ c ≤ 122) ∨ (48 ≤ c ∧ c ≤ 57) ∨ c = 45 ∨ c = 46 ∨ c = 95 ∨ c = 126 then 1 else 0
def EL : List (String × Nat) := [("com/example/grantline/grantline/PercentEncoding", 7)]
theorem own_wS {a0 : Array Value} {Z : State} (hw : ∀ d ∈ tables_1, d.before a0 Z = true) : ∀ d ∈ Bundle.stringAtoms, d.before a0 Z = true := fun d hd => hw d ((by decide +kernel : ∀ d ∈ Bundle.stringAtoms, d ∈ tables_1) d hd)
theorem d1_0 : decode prog_19_method_2_code 0 = .ok (.iload_n 0, 1) := by decide +kernel
theorem d1_1 : decode prog_19_method_2_code 1 = .ok (.bipush 65, 2) := by decide +kernel
theorem d1_3 : decode prog_19_method_2_code 3 = .ok (.if_icmp .lt 9, 3) := by decide +kernel
theorem d1_6 : decode prog_19_method_2_code 6 = .ok (.iload_n 0, 1) := by decide +kernel
theorem d1_7 : decode prog_19_method_2_code 7 = .ok (.bipush 90, 2) := by decide +kernel
theorem d1_9 : decode prog_19_method_2_code 9 = .ok (.if_icmp .le 36, 3) := by decide +kernel
theorem d1_12 : decode prog_19_method_2_code 12 = .ok (.iload_n 0, 1) := by decide +kernel
theorem d1_13 : decode prog_19_method_2_code 13 = .ok (.bipush 97, 2) := by decide +kernel
theorem d1_15 : decode prog_19_method_2_code 15 = .ok (.if_icmp .lt 9, 3) := by decide +kernel
theorem d1_18 : decode prog_19_method_2_code 18 = .ok (.iload_n 0, 1) := by decide +kernel
theorem d1_19 : decode prog_19_method_2_code 19 = .ok (.bipush 122, 2) := by decide +kernel
theorem d1_21 : decode prog_19_method_2_code 21 = .ok (.if_icmp .le 24, 3) := by decide +kernel
theorem d1_24 : decode prog_19_method_2_code 24 = .ok (.iload_n 0, 1) := by decide +kernel
theorem d1_25 : decode prog_19_method_2_code 25 = .ok (.bipush 48, 2) := by decide +kernel
theorem d1_27 : decode prog_19_method_2_code 27 = .ok (.if_icmp .lt 9, 3) := by decide +kernel
theorem d1_30 : decode prog_19_method_2_code 30 = .ok (.iload_n 0, 1) := by decide +kernel
theorem d1_31 : decode prog_19_method_2_code 31 = .ok (.bipush 57, 2) := by decide +kernel
theorem d1_33 : decode prog_19_method_2_code 33 = .ok (.if_icmp .le 12, 3) := by decide +kernel
theorem d1_36 : decode prog_19_method_2_code 36 = .ok (.ldc 7, 2) := by decide +kernel
theorem d1_38 : decode prog_19_method_2_code 38 = .ok (.iload_n 0, 1) := by decide +kernel
theorem d1_39 : decode prog_19_method_2_code 39 = .ok (.invokevirtual 9, 3) := by decide +kernel
theorem d1_42 : decode prog_19_method_2_code 42 = .ok (.ifCond .lt 7, 3) := by decide +kernel
theorem d1_45 : decode prog_19_method_2_code 45 = .ok (.iconst 1, 1) := by decide +kernel
theorem d1_46 : decode prog_19_method_2_code 46 = .ok (.goto 4, 3) := by decide +kernel
theorem d1_49 : decode prog_19_method_2_code 49 = .ok (.iconst 0, 1) := by decide +kernel
theorem d1_50 : decode prog_19_method_2_code 50 = .ok (.ireturn, 1) := by decide +kernel
theorem pn_1 : plainName "com/example/grantline/grantline/PercentEncoding" = true := by first | (simp [plainName, overriddenIn]; done) | decide +kernel
theorem ef_1 (m : MethodId) (p1 : Int32) : entryFrame m #[(.int p1)] 1 = mkF m 0 #[.val (.int p1)] [] := by first | (simp [entryFrame, mkF, argsToLocals, Value.category]; done) | rfl
def Q1 (Z : State) (p1 : Int32) (wc : Int32) (h0 : Heap) (n0 : Nat) (v : Option Value) (h : Heap) (L : List Loc) : Prop := v = some (.int (un p1)) ∧ Fr n0 L ∧ Keep h0 h []
set_option maxRecDepth 65536 in
set_option maxHeartbeats 40000000 in
theorem rm1 (l : Launch) (Z : State) (a0 : Array Value) (hw : ∀ d ∈ tables_1, d.before a0 Z = true) (ws : List Jvm.Cond) (p1 : Int32) (wc : Int32) (h0 : Heap) (n0 : Nat) (Z0 : n0 ≤ h0.size) (OLD : Old Z n0 h0) (S_c : Sta Z Z.heap "java/lang/String" "COMPACT_STRINGS" "Z" (.int wc)) (hwc : ¬ wc = 0) (hEL : EW Z a0 EL) :
    MetFree l (⟨"com/example/grantline/grantline/PercentEncoding", "isUnreserved", "(I)Z"⟩ : MethodName) (head1 (Jvm.Cond.code (⟨"com/example/grantline/grantline/PercentEncoding", "isUnreserved", "(I)Z"⟩ : MethodName) prog_19_method_2_code 1 (some .boolean) :: ws) ({ frames := 4, cells := 2, slots := 20, locals := 59 } : Room)) (fun a U => a = #[(.int p1)] ∧ Z.Warmed39 U.vm ∧ U.heap = h0 ∧ CHv Z EL U.vm h0) (fun _ _ _ _ _ => True) (fun _ U oo U' => ∃ v L, oo = .returned v ∧ Q1 Z p1 wc h0 n0 v U'.heap L ∧ CHr Z EL U.vm U.heap U'.vm U'.heap ∧ ReturnedEndW U oo U' L ({ frames := 4, cells := 2, slots := 20, locals := 59 } : Room).cells ({ frames := 4, cells := 2, slots := 20, locals := 59 } : Room).slots) := by
  refine MetFree.of_bodySF (plainFor_of_name pn_1) hisR ?_
  intro p e s m args below meth c s₁ Bd hml0 hP hK
  obtain ⟨rfl, hZ, hh, hCH⟩ := hP
  have hx := Bd.exec
  have hby := Bd.bytes
  have hml : c.maxLocals = 1 := hml0
  have hown : s.vm.findClass "com/example/grantline/grantline/PercentEncoding" = some m.cls := findClass_of_methodNamed Bd.named
  have hnm := (name_of_methodNamed Bd.named Bd.method).1
  have X0 : Stand p l e ({ frames := 4, cells := 2, slots := 20, locals := 59 } : Room) s m #[(.int p1)] below meth c s₁ [] 0 0 := Stand.of_body Bd
  have e0 : s₁.heap = h0 := by rw [← hh, Bd.state]; rfl
  have N0 := Fr.nil n0
  have K0 : Keep h0 h0 [] := Keep.refl _ _
  have pre0 : ∀ tg, Steps p.tables e below (s₁.setTop (mkF m 0 #[.val (.int p1)] [])) tg → Steps p.tables e below (s₁.setTop (entryFrame m #[(.int p1)] 1)) tg := fun tg k => castTop (ef_1 m p1) k
  have st2 : ∀ tg, Steps p.tables e below (s₁.setTop (mkF m 3 #[.val (.int p1)] [(.int (65 : Int32)), (.int p1)])) tg → Steps p.tables e below (s₁.setTop (mkF m 0 #[.val (.int p1)] [])) tg := by
    intro tg kt
    show Steps p.tables e below (s₁.setTop (mkF m 0 #[.val (.int p1)] [])) tg
    refine XS.iloadN X0.here hx rfl (hb hby d1_0) rfl ?_
    show Steps p.tables e below (s₁.setTop (mkF m 1 #[.val (.int p1)] [(.int p1)])) tg
    refine XS.bipush X0.here hx rfl (hb hby d1_1) ?_
    exact kt
  by_cases hc3_1 : p1 < (65 : Int32)
  · -- pc 3: p1 < (65 : Int32)
    have st4 : ∀ tg, Steps p.tables e below (s₁.setTop (mkF m 15 #[.val (.int p1)] [(.int (97 : Int32)), (.int p1)])) tg → Steps p.tables e below (s₁.setTop (mkF m 3 #[.val (.int p1)] [(.int (65 : Int32)), (.int p1)])) tg := by
      intro tg kt
      show Steps p.tables e below (s₁.setTop (mkF m 3 #[.val (.int p1)] [(.int (65 : Int32)), (.int p1)])) tg
      refine XS.icmpYes X0.here hx rfl (pc0 := 3) (pc' := 12) rfl (hb hby d1_3) rfl (XT.ii_lt_t hc3_1) (by decide) (by decide) ?_
      show Steps p.tables e below (s₁.setTop (mkF m 12 #[.val (.int p1)] [])) tg
      refine XS.iloadN X0.here hx rfl (hb hby d1_12) rfl ?_
      show Steps p.tables e below (s₁.setTop (mkF m 13 #[.val (.int p1)] [(.int p1)])) tg
      refine XS.bipush X0.here hx rfl (hb hby d1_13) ?_
      exact kt
    by_cases hc15_3 : p1 < (97 : Int32)
    · -- pc 15: p1 < (97 : Int32)
      have st6 : ∀ tg, Steps p.tables e below (s₁.setTop (mkF m 27 #[.val (.int p1)] [(.int (48 : Int32)), (.int p1)])) tg → Steps p.tables e below (s₁.setTop (mkF m 15 #[.val (.int p1)] [(.int (97 : Int32)), (.int p1)])) tg := by
        intro tg kt
        show Steps p.tables e below (s₁.setTop (mkF m 15 #[.val (.int p1)] [(.int (97 : Int32)), (.int p1)])) tg
        refine XS.icmpYes X0.here hx rfl (pc0 := 15) (pc' := 24) rfl (hb hby d1_15) rfl (XT.ii_lt_t hc15_3) (by decide) (by decide) ?_
        show Steps p.tables e below (s₁.setTop (mkF m 24 #[.val (.int p1)] [])) tg
        refine XS.iloadN X0.here hx rfl (hb hby d1_24) rfl ?_
        show Steps p.tables e below (s₁.setTop (mkF m 25 #[.val (.int p1)] [(.int p1)])) tg
        refine XS.bipush X0.here hx rfl (hb hby d1_25) ?_
        exact kt
      by_cases hc27_5 : p1 < (48 : Int32)
      · -- pc 27: p1 < (48 : Int32)
        have st7 : ∀ tg, Steps p.tables e below (s₁.setTop (mkF m 36 #[.val (.int p1)] [])) tg → Steps p.tables e below (s₁.setTop (mkF m 27 #[.val (.int p1)] [(.int (48 : Int32)), (.int p1)])) tg := by
          intro tg kt
          show Steps p.tables e below (s₁.setTop (mkF m 27 #[.val (.int p1)] [(.int (48 : Int32)), (.int p1)])) tg
          refine XS.icmpYes X0.here hx rfl (pc0 := 27) (pc' := 36) rfl (hb hby d1_27) rfl (XT.ii_lt_t hc27_5) (by decide) (by decide) ?_
          exact kt
        obtain ⟨b8, T8, h8, k8, t8, kk8, X8, e8, E8, hS8, hk8, hZ8, hown8, GE8, GC8, GV8, GA8, lb8, lt8, CR8, -, hne8, st8⟩ := ldcCH (s := s) (vm0 := s.vm) (show Stand p l e _ (s.setVm s.vm) m _ below meth c s₁ _ _ _ from X0) hx hZ hown (hw _ (List.mem_of_getElem? (i := 5) rfl)) (own_wS hw) e0 ((State.WarmedH.refl s).since 0) (Nat.zero_le _) hEL (by decide +kernel) hCH (vs := [(.int (45 : Int32)), (.int (46 : Int32)), (.int (95 : Int32)), (.int (126 : Int32))]) (z := (4 : Int32)) ⟨by decide +kernel, by first | rfl | decide +kernel⟩ (by decide) (by decide) (g := (mkF m 36 #[.val (.int p1)] [])) rfl (hb hby d1_36) (n := 16) (by decide +kernel) (by decide) (by decide) (by decide)
        have G9 : Old Z n0 h8 := OLD.ext E8
        have K8 : Keep h0 h8 [] := K0.ext E8
        have Z8 : n0 ≤ h8.size := Nat.le_trans Z0 E8.1
        have st10 : ∀ tg, Steps p.tables e below (T8.setTop (mkF m 39 #[.val (.int p1)] [(.int p1), (.ref b8)])) tg → Steps p.tables e below (T8.setTop (mkF m 38 #[.val (.int p1)] [(.ref b8)])) tg := by
          intro tg kt
          show Steps p.tables e below (T8.setTop (mkF m 38 #[.val (.int p1)] [(.ref b8)])) tg
          refine XS.iloadN X8.here hx rfl (hb hby d1_38) rfl ?_
          exact kt
        obtain ⟨cq11, kq11, q11a, q11b, q11c⟩ := isOf hZ8 e8 GE8
        obtain ⟨_, _, ⟨T11, L11, k11, n11⟩, -, X11, ⟨Lc11, hQ11, l11, y11, z11⟩, st11⟩ := X8.virtualBack hx (y := (⟨"java/lang/String", "indexOf", "(I)I"⟩ : MethodName)) (z := (⟨"java/lang/String", "indexOf", "(I)I"⟩ : MethodName)) hown8 (mvT hZ8 (hw _ (List.mem_of_getElem? (i := 13) rfl))) (mvT hZ8 (hw _ (List.mem_of_getElem? (i := 14) rfl))) (notFace_of_selects (args := #[]) (mvT hZ8 (hw _ (List.mem_of_getElem? (i := 16) rfl)))) (mvT hZ8 (hw _ (List.mem_of_getElem? (i := 16) rfl))) (mvT hZ8 (hw _ (List.mem_of_getElem? (i := 15) rfl))) (by decide) (backOf (W := 0) (rm2 l Z a0 hw [] b8 p1 wc t8 kk8 h8 n0 Z8 G9 S_c hwc GE8 GC8 GV8 GA8) hZ8 (hw _ (List.mem_of_getElem? (i := 17) rfl)) (hw _ (List.mem_of_getElem? (i := 6) rfl)) (by decide) (by decide)) q11a q11c (g := (mkF m 39 #[.val (.int p1)] [(.int p1), (.ref b8)])) rfl (by rw [hml]; rfl) (Steps.refl _) (argsL := [(.int p1)]) (rest := []) (lenOf pd_6 rfl) rfl (by show 2 * 0 + _ ≤ _; exact Nat.le_of_eq rfl) (hb hby d1_39) (fun _ _ => ⟨rfl, e8, (by decide : 2 + 0 ≤ _), (by decide : 20 + 0 ≤ _)⟩)
        dsimp only [Pt.U, Pt.locs, Pt.cells, Pt.slots] at X11 l11 y11 z11 st11 hQ11
        subst l11 y11 z11
        obtain ⟨rfl, N11q, e11⟩ := hQ11
        have N11 := Fr.app N0 N11q
        obtain ⟨r11, hr11⟩ : ∃ z, z = rv2 b8 p1 wc t8 kk8 := ⟨_, rfl⟩
        rw [← hr11] at st11
        by_cases hc42_12 : r11 < 0
        · -- pc 42: r11 < 0
          have st13 : ∀ tg, Steps p.tables e below (T11.setTop (mkF m 50 #[.val (.int p1)] [(.int (0 : Int32))])) tg → Steps p.tables e below (T11.setTop (mkF m 42 #[.val (.int p1)] [(.int r11)])) tg := by
            intro tg kt
            show Steps p.tables e below (T11.setTop (mkF m 42 #[.val (.int p1)] [(.int r11)])) tg
            refine XS.ifYes X11.here hx rfl (pc0 := 42) (pc' := 49) rfl (hb hby d1_42) rfl (XT.i0_lt_t hc42_12) (by decide) (by decide) ?_
            show Steps p.tables e below (T11.setTop (mkF m 49 #[.val (.int p1)] [])) tg
            refine XS.iconst X11.here hx rfl (hb hby d1_49) ?_
            exact kt
          obtain ⟨fs, hr, hrun, hended, hRW⟩ := Stand.leaveW (s := s) X11 hS8 (by rw [e11]; exact hk8) (v := some (.int (0 : Int32))) (fun h => by rw [Bd.returns] at h; cases h)
          refine ⟨_, _, pre0 _ ?_, hrun, hended, _, _, rfl, ?_, (by rw [hh, show (T11.setFrames fs).heap = h8 from e11]; exact (show CHr Z EL s.vm h0 T11.vm h8 from CR8.trans (CHv.at (s := s) (vm0 := T8.vm) (T := T11) X11 hZ8 hEL CR8.1))), hRW.1, hRW.2.1, hRW.2.2.1, hRW.2.2.2.mono (by decide) (by decide)⟩
          · refine st2 _ ?_
            refine st4 _ ?_
            refine st6 _ ?_
            refine st7 _ ?_
            show Steps p.tables e below (s₁.setTop (mkF m 36 #[.val (.int p1)] [])) _
            refine st8 _ ?_
            refine st10 _ ?_
            show Steps p.tables e below (T8.setTop (mkF m 39 #[.val (.int p1)] [(.int p1), (.ref b8)])) _
            refine st11.trans ?_
            refine st13 _ ?_
            show Steps p.tables e below (T11.setTop (mkF m 50 #[.val (.int p1)] [(.int (0 : Int32))])) _
            exact retN X11 hx (t := .boolean) Bd.returns (by simp) (hb hby d1_50) hr
          · show Q1 Z p1 wc h0 n0 _ T11.heap _
            rw [e11]
            refine ⟨?_, N11, K8⟩
            have z65 : (65 : Int32).toInt = 65 := by decide
            have z90 : (90 : Int32).toInt = 90 := by decide
            have z97 : (97 : Int32).toInt = 97 := by decide
            have z122 : (122 : Int32).toInt = 122 := by decide
            have z48 : (48 : Int32).toInt = 48 := by decide
            have z57 : (57 : Int32).toInt = 57 := by decide
            have z45 : (45 : Int32).toInt = 45 := by decide
            have z46 : (46 : Int32).toInt = 46 := by decide
            have z95 : (95 : Int32).toInt = 95 := by decide
            have z126 : (126 : Int32).toInt = 126 := by decide
            have hix := own_ix b8 p1 wc t8 kk8
            rw [← hr11] at hix
            have hfin := hix.mp hc42_12
            have key : un p1 = 0 := by
              simp only [un, Int32.le_iff_toInt_le, ← Int32.toInt_inj, Int32.lt_iff_toInt_lt, z65, z90, z97, z122, z48, z57, z45, z46, z95, z126] at hc3_1 hc15_3 hc27_5 hfin ⊢
              first | (exfalso; omega) | (rw [if_pos (by omega)]) | (rw [if_neg (by omega)])
            rw [key]
        · -- pc 42: not r11 < 0
          have st14 : ∀ tg, Steps p.tables e below (T11.setTop (mkF m 50 #[.val (.int p1)] [(.int (1 : Int32))])) tg → Steps p.tables e below (T11.setTop (mkF m 42 #[.val (.int p1)] [(.int r11)])) tg := by
            intro tg kt
            show Steps p.tables e below (T11.setTop (mkF m 42 #[.val (.int p1)] [(.int r11)])) tg
            refine XS.ifNo X11.here hx rfl (hb hby d1_42) rfl (XT.i0_lt_f hc42_12) ?_
            show Steps p.tables e below (T11.setTop (mkF m 45 #[.val (.int p1)] [])) tg
            refine XS.iconst X11.here hx rfl (hb hby d1_45) ?_
            show Steps p.tables e below (T11.setTop (mkF m 46 #[.val (.int p1)] [(.int (1 : Int32))])) tg
            refine XS.goto X11.here hx rfl (pc0 := 46) (pc' := 50) rfl (hb hby d1_46) (by decide) (by decide) ?_
            exact kt
          obtain ⟨fs, hr, hrun, hended, hRW⟩ := Stand.leaveW (s := s) X11 hS8 (by rw [e11]; exact hk8) (v := some (.int (1 : Int32))) (fun h => by rw [Bd.returns] at h; cases h)
          refine ⟨_, _, pre0 _ ?_, hrun, hended, _, _, rfl, ?_, (by rw [hh, show (T11.setFrames fs).heap = h8 from e11]; exact (show CHr Z EL s.vm h0 T11.vm h8 from CR8.trans (CHv.at (s := s) (vm0 := T8.vm) (T := T11) X11 hZ8 hEL CR8.1))), hRW.1, hRW.2.1, hRW.2.2.1, hRW.2.2.2.mono (by decide) (by decide)⟩
          · refine st2 _ ?_
            refine st4 _ ?_
            refine st6 _ ?_
            refine st7 _ ?_
            show Steps p.tables e below (s₁.setTop (mkF m 36 #[.val (.int p1)] [])) _
            refine st8 _ ?_
            refine st10 _ ?_
            show Steps p.tables e below (T8.setTop (mkF m 39 #[.val (.int p1)] [(.int p1), (.ref b8)])) _
            refine st11.trans ?_
            refine st14 _ ?_
            show Steps p.tables e below (T11.setTop (mkF m 50 #[.val (.int p1)] [(.int (1 : Int32))])) _
            exact retN X11 hx (t := .boolean) Bd.returns (by simp) (hb hby d1_50) hr
          · show Q1 Z p1 wc h0 n0 _ T11.heap _
            rw [e11]
            refine ⟨?_, N11, K8⟩
            have z65 : (65 : Int32).toInt = 65 := by decide
            have z90 : (90 : Int32).toInt = 90 := by decide
            have z97 : (97 : Int32).toInt = 97 := by decide
            have z122 : (122 : Int32).toInt = 122 := by decide
            have z48 : (48 : Int32).toInt = 48 := by decide
            have z57 : (57 : Int32).toInt = 57 := by decide
            have z45 : (45 : Int32).toInt = 45 := by decide
            have z46 : (46 : Int32).toInt = 46 := by decide
            have z95 : (95 : Int32).toInt = 95 := by decide
            have z126 : (126 : Int32).toInt = 126 := by decide
            have hix := own_ix b8 p1 wc t8 kk8
            rw [← hr11] at hix
            have hfin := Classical.byContradiction (fun q => hc42_12 (hix.mpr q))
            have key : un p1 = 1 := by
              simp only [un, Int32.le_iff_toInt_le, ← Int32.toInt_inj, Int32.lt_iff_toInt_lt, z65, z90, z97, z122, z48, z57, z45, z46, z95, z126] at hc3_1 hc15_3 hc27_5 hfin ⊢
              first | (exfalso; omega) | (rw [if_pos (by omega)]) | (rw [if_neg (by omega)])
            rw [key]
      · -- pc 27: not p1 < (48 : Int32)
        have st16 : ∀ tg, Steps p.tables e below (s₁.setTop (mkF m 33 #[.val (.int p1)] [(.int (57 : Int32)), (.int p1)])) tg → Steps p.tables e below (s₁.setTop (mkF m 27 #[.val (.int p1)] [(.int (48 : Int32)), (.int p1)])) tg := by
          intro tg kt
          show Steps p.tables e below (s₁.setTop (mkF m 27 #[.val (.int p1)] [(.int (48 : Int32)), (.int p1)])) tg
          refine XS.icmpNo X0.here hx rfl (hb hby d1_27) rfl (XT.ii_lt_f hc27_5) ?_
          show Steps p.tables e below (s₁.setTop (mkF m 30 #[.val (.int p1)] [])) tg
          refine XS.iloadN X0.here hx rfl (hb hby d1_30) rfl ?_
          show Steps p.tables e below (s₁.setTop (mkF m 31 #[.val (.int p1)] [(.int p1)])) tg
          refine XS.bipush X0.here hx rfl (hb hby d1_31) ?_
          exact kt
        by_cases hc33_15 : (57 : Int32) < p1
        · -- pc 33: (57 : Int32) < p1
          have st17 : ∀ tg, Steps p.tables e below (s₁.setTop (mkF m 36 #[.val (.int p1)] [])) tg → Steps p.tables e below (s₁.setTop (mkF m 33 #[.val (.int p1)] [(.int (57 : Int32)), (.int p1)])) tg := by
            intro tg kt
            show Steps p.tables e below (s₁.setTop (mkF m 33 #[.val (.int p1)] [(.int (57 : Int32)), (.int p1)])) tg
            refine XS.icmpNo X0.here hx rfl (hb hby d1_33) rfl (XT.ii_le_f hc33_15) ?_
            exact kt
          obtain ⟨b18, T18, h18, k18, t18, kk18, X18, e18, E18, hS18, hk18, hZ18, hown18, GE18, GC18, GV18, GA18, lb18, lt18, CR18, -, hne18, st18⟩ := ldcCH (s := s) (vm0 := s.vm) (show Stand p l e _ (s.setVm s.vm) m _ below meth c s₁ _ _ _ from X0) hx hZ hown (hw _ (List.mem_of_getElem? (i := 5) rfl)) (own_wS hw) e0 ((State.WarmedH.refl s).since 0) (Nat.zero_le _) hEL (by decide +kernel) hCH (vs := [(.int (45 : Int32)), (.int (46 : Int32)), (.int (95 : Int32)), (.int (126 : Int32))]) (z := (4 : Int32)) ⟨by decide +kernel, by first | rfl | decide +kernel⟩ (by decide) (by decide) (g := (mkF m 36 #[.val (.int p1)] [])) rfl (hb hby d1_36) (n := 16) (by decide +kernel) (by decide) (by decide) (by decide)
          have G19 : Old Z n0 h18 := OLD.ext E18
          have K18 : Keep h0 h18 [] := K0.ext E18
          have Z18 : n0 ≤ h18.size := Nat.le_trans Z0 E18.1
          have st20 : ∀ tg, Steps p.tables e below (T18.setTop (mkF m 39 #[.val (.int p1)] [(.int p1), (.ref b18)])) tg → Steps p.tables e below (T18.setTop (mkF m 38 #[.val (.int p1)] [(.ref b18)])) tg := by
            intro tg kt
            show Steps p.tables e below (T18.setTop (mkF m 38 #[.val (.int p1)] [(.ref b18)])) tg
            refine XS.iloadN X18.here hx rfl (hb hby d1_38) rfl ?_
            exact kt
          obtain ⟨cq21, kq21, q21a, q21b, q21c⟩ := isOf hZ18 e18 GE18
          obtain ⟨_, _, ⟨T21, L21, k21, n21⟩, -, X21, ⟨Lc21, hQ21, l21, y21, z21⟩, st21⟩ := X18.virtualBack hx (y := (⟨"java/lang/String", "indexOf", "(I)I"⟩ : MethodName)) (z := (⟨"java/lang/String", "indexOf", "(I)I"⟩ : MethodName)) hown18 (mvT hZ18 (hw _ (List.mem_of_getElem? (i := 13) rfl))) (mvT hZ18 (hw _ (List.mem_of_getElem? (i := 14) rfl))) (notFace_of_selects (args := #[]) (mvT hZ18 (hw _ (List.mem_of_getElem? (i := 16) rfl)))) (mvT hZ18 (hw _ (List.mem_of_getElem? (i := 16) rfl))) (mvT hZ18 (hw _ (List.mem_of_getElem? (i := 15) rfl))) (by decide) (backOf (W := 0) (rm2 l Z a0 hw [] b18 p1 wc t18 kk18 h18 n0 Z18 G19 S_c hwc GE18 GC18 GV18 GA18) hZ18 (hw _ (List.mem_of_getElem? (i := 17) rfl)) (hw _ (List.mem_of_getElem? (i := 6) rfl)) (by decide) (by decide)) q21a q21c (g := (mkF m 39 #[.val (.int p1)] [(.int p1), (.ref b18)])) rfl (by rw [hml]; rfl) (Steps.refl _) (argsL := [(.int p1)]) (rest := []) (lenOf pd_6 rfl) rfl (by show 2 * 0 + _ ≤ _; exact Nat.le_of_eq rfl) (hb hby d1_39) (fun _ _ => ⟨rfl, e18, (by decide : 2 + 0 ≤ _), (by decide : 20 + 0 ≤ _)⟩)
          dsimp only [Pt.U, Pt.locs, Pt.cells, Pt.slots] at X21 l21 y21 z21 st21 hQ21
          subst l21 y21 z21
          obtain ⟨rfl, N21q, e21⟩ := hQ21
          have N21 := Fr.app N0 N21q
          obtain ⟨r21, hr21⟩ : ∃ z, z = rv2 b18 p1 wc t18 kk18 := ⟨_, rfl⟩
          rw [← hr21] at st21
          by_cases hc42_22 : r21 < 0
          · -- pc 42: r21 < 0
            have st23 : ∀ tg, Steps p.tables e below (T21.setTop (mkF m 50 #[.val (.int p1)] [(.int (0 : Int32))])) tg → Steps p.tables e below (T21.setTop (mkF m 42 #[.val (.int p1)] [(.int r21)])) tg := by
              intro tg kt
              show Steps p.tables e below (T21.setTop (mkF m 42 #[.val (.int p1)] [(.int r21)])) tg
              refine XS.ifYes X21.here hx rfl (pc0 := 42) (pc' := 49) rfl (hb hby d1_42) rfl (XT.i0_lt_t hc42_22) (by decide) (by decide) ?_
              show Steps p.tables e below (T21.setTop (mkF m 49 #[.val (.int p1)] [])) tg
              refine XS.iconst X21.here hx rfl (hb hby d1_49) ?_
              exact kt
            obtain ⟨fs, hr, hrun, hended, hRW⟩ := Stand.leaveW (s := s) X21 hS18 (by rw [e21]; exact hk18) (v := some (.int (0 : Int32))) (fun h => by rw [Bd.returns] at h; cases h)
            refine ⟨_, _, pre0 _ ?_, hrun, hended, _, _, rfl, ?_, (by rw [hh, show (T21.setFrames fs).heap = h18 from e21]; exact (show CHr Z EL s.vm h0 T21.vm h18 from CR18.trans (CHv.at (s := s) (vm0 := T18.vm) (T := T21) X21 hZ18 hEL CR18.1))), hRW.1, hRW.2.1, hRW.2.2.1, hRW.2.2.2.mono (by decide) (by decide)⟩
            · refine st2 _ ?_
              refine st4 _ ?_
              refine st6 _ ?_
              refine st16 _ ?_
              refine st17 _ ?_
              show Steps p.tables e below (s₁.setTop (mkF m 36 #[.val (.int p1)] [])) _
              refine st18 _ ?_
              refine st20 _ ?_
              show Steps p.tables e below (T18.setTop (mkF m 39 #[.val (.int p1)] [(.int p1), (.ref b18)])) _
              refine st21.trans ?_
              refine st23 _ ?_
              show Steps p.tables e below (T21.setTop (mkF m 50 #[.val (.int p1)] [(.int (0 : Int32))])) _
              exact retN X21 hx (t := .boolean) Bd.returns (by simp) (hb hby d1_50) hr
            · show Q1 Z p1 wc h0 n0 _ T21.heap _
              rw [e21]
              refine ⟨?_, N21, K18⟩
              have z65 : (65 : Int32).toInt = 65 := by decide
              have z90 : (90 : Int32).toInt = 90 := by decide
              have z97 : (97 : Int32).toInt = 97 := by decide
              have z122 : (122 : Int32).toInt = 122 := by decide
              have z48 : (48 : Int32).toInt = 48 := by decide
              have z57 : (57 : Int32).toInt = 57 := by decide
              have z45 : (45 : Int32).toInt = 45 := by decide
              have z46 : (46 : Int32).toInt = 46 := by decide
              have z95 : (95 : Int32).toInt = 95 := by decide
              have z126 : (126 : Int32).toInt = 126 := by decide
              have hix := own_ix b18 p1 wc t18 kk18
              rw [← hr21] at hix
              have hfin := hix.mp hc42_22
              have key : un p1 = 0 := by
                simp only [un, Int32.le_iff_toInt_le, ← Int32.toInt_inj, Int32.lt_iff_toInt_lt, z65, z90, z97, z122, z48, z57, z45, z46, z95, z126] at hc3_1 hc15_3 hc27_5 hc33_15 hfin ⊢
                first | (exfalso; omega) | (rw [if_pos (by omega)]) | (rw [if_neg (by omega)])
              rw [key]
          · -- pc 42: not r21 < 0
            have st24 : ∀ tg, Steps p.tables e below (T21.setTop (mkF m 50 #[.val (.int p1)] [(.int (1 : Int32))])) tg → Steps p.tables e below (T21.setTop (mkF m 42 #[.val (.int p1)] [(.int r21)])) tg := by
              intro tg kt
              show Steps p.tables e below (T21.setTop (mkF m 42 #[.val (.int p1)] [(.int r21)])) tg
              refine XS.ifNo X21.here hx rfl (hb hby d1_42) rfl (XT.i0_lt_f hc42_22) ?_
              show Steps p.tables e below (T21.setTop (mkF m 45 #[.val (.int p1)] [])) tg
              refine XS.iconst X21.here hx rfl (hb hby d1_45) ?_
              show Steps p.tables e below (T21.setTop (mkF m 46 #[.val (.int p1)] [(.int (1 : Int32))])) tg
              refine XS.goto X21.here hx rfl (pc0 := 46) (pc' := 50) rfl (hb hby d1_46) (by decide) (by decide) ?_
              exact kt
            obtain ⟨fs, hr, hrun, hended, hRW⟩ := Stand.leaveW (s := s) X21 hS18 (by rw [e21]; exact hk18) (v := some (.int (1 : Int32))) (fun h => by rw [Bd.returns] at h; cases h)
            refine ⟨_, _, pre0 _ ?_, hrun, hended, _, _, rfl, ?_, (by rw [hh, show (T21.setFrames fs).heap = h18 from e21]; exact (show CHr Z EL s.vm h0 T21.vm h18 from CR18.trans (CHv.at (s := s) (vm0 := T18.vm) (T := T21) X21 hZ18 hEL CR18.1))), hRW.1, hRW.2.1, hRW.2.2.1, hRW.2.2.2.mono (by decide) (by decide)⟩
            · refine st2 _ ?_
              refine st4 _ ?_
              refine st6 _ ?_
              refine st16 _ ?_
              refine st17 _ ?_
              show Steps p.tables e below (s₁.setTop (mkF m 36 #[.val (.int p1)] [])) _
              refine st18 _ ?_
              refine st20 _ ?_
              show Steps p.tables e below (T18.setTop (mkF m 39 #[.val (.int p1)] [(.int p1), (.ref b18)])) _
              refine st21.trans ?_
              refine st24 _ ?_
              show Steps p.tables e below (T21.setTop (mkF m 50 #[.val (.int p1)] [(.int (1 : Int32))])) _
              exact retN X21 hx (t := .boolean) Bd.returns (by simp) (hb hby d1_50) hr
            · show Q1 Z p1 wc h0 n0 _ T21.heap _
              rw [e21]
              refine ⟨?_, N21, K18⟩
              have z65 : (65 : Int32).toInt = 65 := by decide
              have z90 : (90 : Int32).toInt = 90 := by decide
              have z97 : (97 : Int32).toInt = 97 := by decide
              have z122 : (122 : Int32).toInt = 122 := by decide
              have z48 : (48 : Int32).toInt = 48 := by decide
              have z57 : (57 : Int32).toInt = 57 := by decide
              have z45 : (45 : Int32).toInt = 45 := by decide
              have z46 : (46 : Int32).toInt = 46 := by decide
              have z95 : (95 : Int32).toInt = 95 := by decide
              have z126 : (126 : Int32).toInt = 126 := by decide
              have hix := own_ix b18 p1 wc t18 kk18
              rw [← hr21] at hix
              have hfin := Classical.byContradiction (fun q => hc42_22 (hix.mpr q))
              have key : un p1 = 1 := by
                simp only [un, Int32.le_iff_toInt_le, ← Int32.toInt_inj, Int32.lt_iff_toInt_lt, z65, z90, z97, z122, z48, z57, z45, z46, z95, z126] at hc3_1 hc15_3 hc27_5 hc33_15 hfin ⊢
                first | (exfalso; omega) | (rw [if_pos (by omega)]) | (rw [if_neg (by omega)])
              rw [key]
        · -- pc 33: not (57 : Int32) < p1
          have st25 : ∀ tg, Steps p.tables e below (s₁.setTop (mkF m 50 #[.val (.int p1)] [(.int (1 : Int32))])) tg → Steps p.tables e below (s₁.setTop (mkF m 33 #[.val (.int p1)] [(.int (57 : Int32)), (.int p1)])) tg := by
            intro tg kt
            show Steps p.tables e below (s₁.setTop (mkF m 33 #[.val (.int p1)] [(.int (57 : Int32)), (.int p1)])) tg
            refine XS.icmpYes X0.here hx rfl (pc0 := 33) (pc' := 45) rfl (hb hby d1_33) rfl (XT.ii_le_t hc33_15) (by decide) (by decide) ?_
            show Steps p.tables e below (s₁.setTop (mkF m 45 #[.val (.int p1)] [])) tg
            refine XS.iconst X0.here hx rfl (hb hby d1_45) ?_
            show Steps p.tables e below (s₁.setTop (mkF m 46 #[.val (.int p1)] [(.int (1 : Int32))])) tg
            refine XS.goto X0.here hx rfl (pc0 := 46) (pc' := 50) rfl (hb hby d1_46) (by decide) (by decide) ?_
            exact kt
          obtain ⟨fs, hr, hrun, hended, hW, hsame⟩ := X0.leave (v := some (.int (1 : Int32))) (fun h => by rw [Bd.returns] at h; cases h)
          have hRW := ReturnedEndW.of_narrow (o := .returned (some (.int (1 : Int32)))) ⟨_, rfl⟩ hW hsame
          refine ⟨_, _, pre0 _ ?_, hrun, hended, _, _, rfl, ?_, (by rw [hh, show (s₁.setFrames fs).heap = h0 from e0]; exact (show CHr Z EL s.vm h0 s₁.vm h0 from CHv.at (s := s) (vm0 := s.vm) (T := s₁) (show Stand p l e _ (s.setVm s.vm) m _ below meth c s₁ _ _ _ from X0) hZ hEL hCH)), hRW.1, hRW.2.1, hRW.2.2.1, hRW.2.2.2.mono (by decide) (by decide)⟩
          · refine st2 _ ?_
            refine st4 _ ?_
            refine st6 _ ?_
            refine st16 _ ?_
            refine st25 _ ?_
            show Steps p.tables e below (s₁.setTop (mkF m 50 #[.val (.int p1)] [(.int (1 : Int32))])) _
            exact retN X0 hx (t := .boolean) Bd.returns (by simp) (hb hby d1_50) hr
          · show Q1 Z p1 wc h0 n0 _ s₁.heap _
            rw [e0]
            refine ⟨?_, N0, K0⟩
            have z65 : (65 : Int32).toInt = 65 := by decide
            have z90 : (90 : Int32).toInt = 90 := by decide
            have z97 : (97 : Int32).toInt = 97 := by decide
            have z122 : (122 : Int32).toInt = 122 := by decide
            have z48 : (48 : Int32).toInt = 48 := by decide
            have z57 : (57 : Int32).toInt = 57 := by decide
            have z45 : (45 : Int32).toInt = 45 := by decide
            have z46 : (46 : Int32).toInt = 46 := by decide
            have z95 : (95 : Int32).toInt = 95 := by decide
            have z126 : (126 : Int32).toInt = 126 := by decide
            have key : un p1 = 1 := by
              simp only [un, Int32.le_iff_toInt_le, ← Int32.toInt_inj, Int32.lt_iff_toInt_lt, z65, z90, z97, z122, z48, z57, z45, z46, z95, z126] at hc3_1 hc15_3 hc27_5 hc33_15 ⊢
              first | (exfalso; omega) | (rw [if_pos (by omega)]) | (rw [if_neg (by omega)])
            rw [key]
    · -- pc 15: not p1 < (97 : Int32)
      have st27 : ∀ tg, Steps p.tables e below (s₁.setTop (mkF m 21 #[.val (.int p1)] [(.int (122 : Int32)), (.int p1)])) tg → Steps p.tables e below (s₁.setTop (mkF m 15 #[.val (.int p1)] [(.int (97 : Int32)), (.int p1)])) tg := by
        intro tg kt
        show Steps p.tables e below (s₁.setTop (mkF m 15 #[.val (.int p1)] [(.int (97 : Int32)), (.int p1)])) tg
        refine XS.icmpNo X0.here hx rfl (hb hby d1_15) rfl (XT.ii_lt_f hc15_3) ?_
        show Steps p.tables e below (s₁.setTop (mkF m 18 #[.val (.int p1)] [])) tg
        refine XS.iloadN X0.here hx rfl (hb hby d1_18) rfl ?_
        show Steps p.tables e below (s₁.setTop (mkF m 19 #[.val (.int p1)] [(.int p1)])) tg
        refine XS.bipush X0.here hx rfl (hb hby d1_19) ?_
        exact kt
      by_cases hc21_26 : (122 : Int32) < p1
      · -- pc 21: (122 : Int32) < p1
        have st29 : ∀ tg, Steps p.tables e below (s₁.setTop (mkF m 27 #[.val (.int p1)] [(.int (48 : Int32)), (.int p1)])) tg → Steps p.tables e below (s₁.setTop (mkF m 21 #[.val (.int p1)] [(.int (122 : Int32)), (.int p1)])) tg := by
          intro tg kt
          show Steps p.tables e below (s₁.setTop (mkF m 21 #[.val (.int p1)] [(.int (122 : Int32)), (.int p1)])) tg
          refine XS.icmpNo X0.here hx rfl (hb hby d1_21) rfl (XT.ii_le_f hc21_26) ?_
          show Steps p.tables e below (s₁.setTop (mkF m 24 #[.val (.int p1)] [])) tg
          refine XS.iloadN X0.here hx rfl (hb hby d1_24) rfl ?_
          show Steps p.tables e below (s₁.setTop (mkF m 25 #[.val (.int p1)] [(.int p1)])) tg
          refine XS.bipush X0.here hx rfl (hb hby d1_25) ?_
          exact kt
        by_cases hc27_28 : p1 < (48 : Int32)
        · -- pc 27: p1 < (48 : Int32)
          have st30 : ∀ tg, Steps p.tables e below (s₁.setTop (mkF m 36 #[.val (.int p1)] [])) tg → Steps p.tables e below (s₁.setTop (mkF m 27 #[.val (.int p1)] [(.int (48 : Int32)), (.int p1)])) tg := by
            intro tg kt
            show Steps p.tables e below (s₁.setTop (mkF m 27 #[.val (.int p1)] [(.int (48 : Int32)), (.int p1)])) tg
            refine XS.icmpYes X0.here hx rfl (pc0 := 27) (pc' := 36) rfl (hb hby d1_27) rfl (XT.ii_lt_t hc27_28) (by decide) (by decide) ?_
            exact kt
          obtain ⟨b31, T31, h31, k31, t31, kk31, X31, e31, E31, hS31, hk31, hZ31, hown31, GE31, GC31, GV31, GA31, lb31, lt31, CR31, -, hne31, st31⟩ := ldcCH (s := s) (vm0 := s.vm) (show Stand p l e _ (s.setVm s.vm) m _ below meth c s₁ _ _ _ from X0) hx hZ hown (hw _ (List.mem_of_getElem? (i := 5) rfl)) (own_wS hw) e0 ((State.WarmedH.refl s).since 0) (Nat.zero_le _) hEL (by decide +kernel) hCH (vs := [(.int (45 : Int32)), (.int (46 : Int32)), (.int (95 : Int32)), (.int (126 : Int32))]) (z := (4 : Int32)) ⟨by decide +kernel, by first | rfl | decide +kernel⟩ (by decide) (by decide) (g := (mkF m 36 #[.val (.int p1)] [])) rfl (hb hby d1_36) (n := 16) (by decide +kernel) (by decide) (by decide) (by decide)
          have G32 : Old Z n0 h31 := OLD.ext E31
          have K31 : Keep h0 h31 [] := K0.ext E31
          have Z31 : n0 ≤ h31.size := Nat.le_trans Z0 E31.1
          have st33 : ∀ tg, Steps p.tables e below (T31.setTop (mkF m 39 #[.val (.int p1)] [(.int p1), (.ref b31)])) tg → Steps p.tables e below (T31.setTop (mkF m 38 #[.val (.int p1)] [(.ref b31)])) tg := by
            intro tg kt
            show Steps p.tables e below (T31.setTop (mkF m 38 #[.val (.int p1)] [(.ref b31)])) tg
            refine XS.iloadN X31.here hx rfl (hb hby d1_38) rfl ?_
            exact kt
          obtain ⟨cq34, kq34, q34a, q34b, q34c⟩ := isOf hZ31 e31 GE31
          obtain ⟨_, _, ⟨T34, L34, k34, n34⟩, -, X34, ⟨Lc34, hQ34, l34, y34, z34⟩, st34⟩ := X31.virtualBack hx (y := (⟨"java/lang/String", "indexOf", "(I)I"⟩ : MethodName)) (z := (⟨"java/lang/String", "indexOf", "(I)I"⟩ : MethodName)) hown31 (mvT hZ31 (hw _ (List.mem_of_getElem? (i := 13) rfl))) (mvT hZ31 (hw _ (List.mem_of_getElem? (i := 14) rfl))) (notFace_of_selects (args := #[]) (mvT hZ31 (hw _ (List.mem_of_getElem? (i := 16) rfl)))) (mvT hZ31 (hw _ (List.mem_of_getElem? (i := 16) rfl))) (mvT hZ31 (hw _ (List.mem_of_getElem? (i := 15) rfl))) (by decide) (backOf (W := 0) (rm2 l Z a0 hw [] b31 p1 wc t31 kk31 h31 n0 Z31 G32 S_c hwc GE31 GC31 GV31 GA31) hZ31 (hw _ (List.mem_of_getElem? (i := 17) rfl)) (hw _ (List.mem_of_getElem? (i := 6) rfl)) (by decide) (by decide)) q34a q34c (g := (mkF m 39 #[.val (.int p1)] [(.int p1), (.ref b31)])) rfl (by rw [hml]; rfl) (Steps.refl _) (argsL := [(.int p1)]) (rest := []) (lenOf pd_6 rfl) rfl (by show 2 * 0 + _ ≤ _; exact Nat.le_of_eq rfl) (hb hby d1_39) (fun _ _ => ⟨rfl, e31, (by decide : 2 + 0 ≤ _), (by decide : 20 + 0 ≤ _)⟩)
          dsimp only [Pt.U, Pt.locs, Pt.cells, Pt.slots] at X34 l34 y34 z34 st34 hQ34
          subst l34 y34 z34
          obtain ⟨rfl, N34q, e34⟩ := hQ34
          have N34 := Fr.app N0 N34q
          obtain ⟨r34, hr34⟩ : ∃ z, z = rv2 b31 p1 wc t31 kk31 := ⟨_, rfl⟩
          rw [← hr34] at st34
          by_cases hc42_35 : r34 < 0
          · -- pc 42: r34 < 0
            have st36 : ∀ tg, Steps p.tables e below (T34.setTop (mkF m 50 #[.val (.int p1)] [(.int (0 : Int32))])) tg → Steps p.tables e below (T34.setTop (mkF m 42 #[.val (.int p1)] [(.int r34)])) tg := by
              intro tg kt
              show Steps p.tables e below (T34.setTop (mkF m 42 #[.val (.int p1)] [(.int r34)])) tg
              refine XS.ifYes X34.here hx rfl (pc0 := 42) (pc' := 49) rfl (hb hby d1_42) rfl (XT.i0_lt_t hc42_35) (by decide) (by decide) ?_
              show Steps p.tables e below (T34.setTop (mkF m 49 #[.val (.int p1)] [])) tg
              refine XS.iconst X34.here hx rfl (hb hby d1_49) ?_
              exact kt
            obtain ⟨fs, hr, hrun, hended, hRW⟩ := Stand.leaveW (s := s) X34 hS31 (by rw [e34]; exact hk31) (v := some (.int (0 : Int32))) (fun h => by rw [Bd.returns] at h; cases h)
            refine ⟨_, _, pre0 _ ?_, hrun, hended, _, _, rfl, ?_, (by rw [hh, show (T34.setFrames fs).heap = h31 from e34]; exact (show CHr Z EL s.vm h0 T34.vm h31 from CR31.trans (CHv.at (s := s) (vm0 := T31.vm) (T := T34) X34 hZ31 hEL CR31.1))), hRW.1, hRW.2.1, hRW.2.2.1, hRW.2.2.2.mono (by decide) (by decide)⟩
            · refine st2 _ ?_
              refine st4 _ ?_
              refine st27 _ ?_
              refine st29 _ ?_
              refine st30 _ ?_
              show Steps p.tables e below (s₁.setTop (mkF m 36 #[.val (.int p1)] [])) _
              refine st31 _ ?_
              refine st33 _ ?_
              show Steps p.tables e below (T31.setTop (mkF m 39 #[.val (.int p1)] [(.int p1), (.ref b31)])) _
              refine st34.trans ?_
              refine st36 _ ?_
              show Steps p.tables e below (T34.setTop (mkF m 50 #[.val (.int p1)] [(.int (0 : Int32))])) _
              exact retN X34 hx (t := .boolean) Bd.returns (by simp) (hb hby d1_50) hr
            · show Q1 Z p1 wc h0 n0 _ T34.heap _
              rw [e34]
              refine ⟨?_, N34, K31⟩
              have z65 : (65 : Int32).toInt = 65 := by decide
              have z90 : (90 : Int32).toInt = 90 := by decide
              have z97 : (97 : Int32).toInt = 97 := by decide
              have z122 : (122 : Int32).toInt = 122 := by decide
              have z48 : (48 : Int32).toInt = 48 := by decide
              have z57 : (57 : Int32).toInt = 57 := by decide
              have z45 : (45 : Int32).toInt = 45 := by decide
              have z46 : (46 : Int32).toInt = 46 := by decide
              have z95 : (95 : Int32).toInt = 95 := by decide
              have z126 : (126 : Int32).toInt = 126 := by decide
              have hix := own_ix b31 p1 wc t31 kk31
              rw [← hr34] at hix
              have hfin := hix.mp hc42_35
              have key : un p1 = 0 := by
                simp only [un, Int32.le_iff_toInt_le, ← Int32.toInt_inj, Int32.lt_iff_toInt_lt, z65, z90, z97, z122, z48, z57, z45, z46, z95, z126] at hc3_1 hc15_3 hc21_26 hc27_28 hfin ⊢
                first | (exfalso; omega) | (rw [if_pos (by omega)]) | (rw [if_neg (by omega)])
              rw [key]
          · -- pc 42: not r34 < 0
            have st37 : ∀ tg, Steps p.tables e below (T34.setTop (mkF m 50 #[.val (.int p1)] [(.int (1 : Int32))])) tg → Steps p.tables e below (T34.setTop (mkF m 42 #[.val (.int p1)] [(.int r34)])) tg := by
              intro tg kt
              show Steps p.tables e below (T34.setTop (mkF m 42 #[.val (.int p1)] [(.int r34)])) tg
              refine XS.ifNo X34.here hx rfl (hb hby d1_42) rfl (XT.i0_lt_f hc42_35) ?_
              show Steps p.tables e below (T34.setTop (mkF m 45 #[.val (.int p1)] [])) tg
              refine XS.iconst X34.here hx rfl (hb hby d1_45) ?_
              show Steps p.tables e below (T34.setTop (mkF m 46 #[.val (.int p1)] [(.int (1 : Int32))])) tg
              refine XS.goto X34.here hx rfl (pc0 := 46) (pc' := 50) rfl (hb hby d1_46) (by decide) (by decide) ?_
              exact kt
            obtain ⟨fs, hr, hrun, hended, hRW⟩ := Stand.leaveW (s := s) X34 hS31 (by rw [e34]; exact hk31) (v := some (.int (1 : Int32))) (fun h => by rw [Bd.returns] at h; cases h)
            refine ⟨_, _, pre0 _ ?_, hrun, hended, _, _, rfl, ?_, (by rw [hh, show (T34.setFrames fs).heap = h31 from e34]; exact (show CHr Z EL s.vm h0 T34.vm h31 from CR31.trans (CHv.at (s := s) (vm0 := T31.vm) (T := T34) X34 hZ31 hEL CR31.1))), hRW.1, hRW.2.1, hRW.2.2.1, hRW.2.2.2.mono (by decide) (by decide)⟩
            · refine st2 _ ?_
              refine st4 _ ?_
              refine st27 _ ?_
              refine st29 _ ?_
              refine st30 _ ?_
              show Steps p.tables e below (s₁.setTop (mkF m 36 #[.val (.int p1)] [])) _
              refine st31 _ ?_
              refine st33 _ ?_
              show Steps p.tables e below (T31.setTop (mkF m 39 #[.val (.int p1)] [(.int p1), (.ref b31)])) _
              refine st34.trans ?_
              refine st37 _ ?_
              show Steps p.tables e below (T34.setTop (mkF m 50 #[.val (.int p1)] [(.int (1 : Int32))])) _
              exact retN X34 hx (t := .boolean) Bd.returns (by simp) (hb hby d1_50) hr
            · show Q1 Z p1 wc h0 n0 _ T34.heap _
              rw [e34]
              refine ⟨?_, N34, K31⟩
              have z65 : (65 : Int32).toInt = 65 := by decide
              have z90 : (90 : Int32).toInt = 90 := by decide
              have z97 : (97 : Int32).toInt = 97 := by decide
              have z122 : (122 : Int32).toInt = 122 := by decide
              have z48 : (48 : Int32).toInt = 48 := by decide
              have z57 : (57 : Int32).toInt = 57 := by decide
              have z45 : (45 : Int32).toInt = 45 := by decide
              have z46 : (46 : Int32).toInt = 46 := by decide
              have z95 : (95 : Int32).toInt = 95 := by decide
              have z126 : (126 : Int32).toInt = 126 := by decide
              have hix := own_ix b31 p1 wc t31 kk31
              rw [← hr34] at hix
              have hfin := Classical.byContradiction (fun q => hc42_35 (hix.mpr q))
              have key : un p1 = 1 := by
                simp only [un, Int32.le_iff_toInt_le, ← Int32.toInt_inj, Int32.lt_iff_toInt_lt, z65, z90, z97, z122, z48, z57, z45, z46, z95, z126] at hc3_1 hc15_3 hc21_26 hc27_28 hfin ⊢
                first | (exfalso; omega) | (rw [if_pos (by omega)]) | (rw [if_neg (by omega)])
              rw [key]
        · -- pc 27: not p1 < (48 : Int32)
          have st39 : ∀ tg, Steps p.tables e below (s₁.setTop (mkF m 33 #[.val (.int p1)] [(.int (57 : Int32)), (.int p1)])) tg → Steps p.tables e below (s₁.setTop (mkF m 27 #[.val (.int p1)] [(.int (48 : Int32)), (.int p1)])) tg := by
            intro tg kt
            show Steps p.tables e below (s₁.setTop (mkF m 27 #[.val (.int p1)] [(.int (48 : Int32)), (.int p1)])) tg
            refine XS.icmpNo X0.here hx rfl (hb hby d1_27) rfl (XT.ii_lt_f hc27_28) ?_
            show Steps p.tables e below (s₁.setTop (mkF m 30 #[.val (.int p1)] [])) tg
            refine XS.iloadN X0.here hx rfl (hb hby d1_30) rfl ?_
            show Steps p.tables e below (s₁.setTop (mkF m 31 #[.val (.int p1)] [(.int p1)])) tg
            refine XS.bipush X0.here hx rfl (hb hby d1_31) ?_
            exact kt
          by_cases hc33_38 : (57 : Int32) < p1
          · -- pc 33: (57 : Int32) < p1
            have st40 : ∀ tg, Steps p.tables e below (s₁.setTop (mkF m 36 #[.val (.int p1)] [])) tg → Steps p.tables e below (s₁.setTop (mkF m 33 #[.val (.int p1)] [(.int (57 : Int32)), (.int p1)])) tg := by
              intro tg kt
              show Steps p.tables e below (s₁.setTop (mkF m 33 #[.val (.int p1)] [(.int (57 : Int32)), (.int p1)])) tg
              refine XS.icmpNo X0.here hx rfl (hb hby d1_33) rfl (XT.ii_le_f hc33_38) ?_
              exact kt
            obtain ⟨b41, T41, h41, k41, t41, kk41, X41, e41, E41, hS41, hk41, hZ41, hown41, GE41, GC41, GV41, GA41, lb41, lt41, CR41, -, hne41, st41⟩ := ldcCH (s := s) (vm0 := s.vm) (show Stand p l e _ (s.setVm s.vm) m _ below meth c s₁ _ _ _ from X0) hx hZ hown (hw _ (List.mem_of_getElem? (i := 5) rfl)) (own_wS hw) e0 ((State.WarmedH.refl s).since 0) (Nat.zero_le _) hEL (by decide +kernel) hCH (vs := [(.int (45 : Int32)), (.int (46 : Int32)), (.int (95 : Int32)), (.int (126 : Int32))]) (z := (4 : Int32)) ⟨by decide +kernel, by first | rfl | decide +kernel⟩ (by decide) (by decide) (g := (mkF m 36 #[.val (.int p1)] [])) rfl (hb hby d1_36) (n := 16) (by decide +kernel) (by decide) (by decide) (by decide)
            have G42 : Old Z n0 h41 := OLD.ext E41
            have K41 : Keep h0 h41 [] := K0.ext E41
            have Z41 : n0 ≤ h41.size := Nat.le_trans Z0 E41.1
            have st43 : ∀ tg, Steps p.tables e below (T41.setTop (mkF m 39 #[.val (.int p1)] [(.int p1), (.ref b41)])) tg → Steps p.tables e below (T41.setTop (mkF m 38 #[.val (.int p1)] [(.ref b41)])) tg := by
              intro tg kt
              show Steps p.tables e below (T41.setTop (mkF m 38 #[.val (.int p1)] [(.ref b41)])) tg
              refine XS.iloadN X41.here hx rfl (hb hby d1_38) rfl ?_
              exact kt
            obtain ⟨cq44, kq44, q44a, q44b, q44c⟩ := isOf hZ41 e41 GE41
            obtain ⟨_, _, ⟨T44, L44, k44, n44⟩, -, X44, ⟨Lc44, hQ44, l44, y44, z44⟩, st44⟩ := X41.virtualBack hx (y := (⟨"java/lang/String", "indexOf", "(I)I"⟩ : MethodName)) (z := (⟨"java/lang/String", "indexOf", "(I)I"⟩ : MethodName)) hown41 (mvT hZ41 (hw _ (List.mem_of_getElem? (i := 13) rfl))) (mvT hZ41 (hw _ (List.mem_of_getElem? (i := 14) rfl))) (notFace_of_selects (args := #[]) (mvT hZ41 (hw _ (List.mem_of_getElem? (i := 16) rfl)))) (mvT hZ41 (hw _ (List.mem_of_getElem? (i := 16) rfl))) (mvT hZ41 (hw _ (List.mem_of_getElem? (i := 15) rfl))) (by decide) (backOf (W := 0) (rm2 l Z a0 hw [] b41 p1 wc t41 kk41 h41 n0 Z41 G42 S_c hwc GE41 GC41 GV41 GA41) hZ41 (hw _ (List.mem_of_getElem? (i := 17) rfl)) (hw _ (List.mem_of_getElem? (i := 6) rfl)) (by decide) (by decide)) q44a q44c (g := (mkF m 39 #[.val (.int p1)] [(.int p1), (.ref b41)])) rfl (by rw [hml]; rfl) (Steps.refl _) (argsL := [(.int p1)]) (rest := []) (lenOf pd_6 rfl) rfl (by show 2 * 0 + _ ≤ _; exact Nat.le_of_eq rfl) (hb hby d1_39) (fun _ _ => ⟨rfl, e41, (by decide : 2 + 0 ≤ _), (by decide : 20 + 0 ≤ _)⟩)
            dsimp only [Pt.U, Pt.locs, Pt.cells, Pt.slots] at X44 l44 y44 z44 st44 hQ44
            subst l44 y44 z44
            obtain ⟨rfl, N44q, e44⟩ := hQ44
            have N44 := Fr.app N0 N44q
            obtain ⟨r44, hr44⟩ : ∃ z, z = rv2 b41 p1 wc t41 kk41 := ⟨_, rfl⟩
            rw [← hr44] at st44
            by_cases hc42_45 : r44 < 0
            · -- pc 42: r44 < 0
              have st46 : ∀ tg, Steps p.tables e below (T44.setTop (mkF m 50 #[.val (.int p1)] [(.int (0 : Int32))])) tg → Steps p.tables e below (T44.setTop (mkF m 42 #[.val (.int p1)] [(.int r44)])) tg := by
                intro tg kt
                show Steps p.tables e below (T44.setTop (mkF m 42 #[.val (.int p1)] [(.int r44)])) tg
                refine XS.ifYes X44.here hx rfl (pc0 := 42) (pc' := 49) rfl (hb hby d1_42) rfl (XT.i0_lt_t hc42_45) (by decide) (by decide) ?_
                show Steps p.tables e below (T44.setTop (mkF m 49 #[.val (.int p1)] [])) tg
                refine XS.iconst X44.here hx rfl (hb hby d1_49) ?_
                exact kt
              obtain ⟨fs, hr, hrun, hended, hRW⟩ := Stand.leaveW (s := s) X44 hS41 (by rw [e44]; exact hk41) (v := some (.int (0 : Int32))) (fun h => by rw [Bd.returns] at h; cases h)
              refine ⟨_, _, pre0 _ ?_, hrun, hended, _, _, rfl, ?_, (by rw [hh, show (T44.setFrames fs).heap = h41 from e44]; exact (show CHr Z EL s.vm h0 T44.vm h41 from CR41.trans (CHv.at (s := s) (vm0 := T41.vm) (T := T44) X44 hZ41 hEL CR41.1))), hRW.1, hRW.2.1, hRW.2.2.1, hRW.2.2.2.mono (by decide) (by decide)⟩
              · refine st2 _ ?_
                refine st4 _ ?_
                refine st27 _ ?_
                refine st29 _ ?_
                refine st39 _ ?_
                refine st40 _ ?_
                show Steps p.tables e below (s₁.setTop (mkF m 36 #[.val (.int p1)] [])) _
                refine st41 _ ?_
                refine st43 _ ?_
                show Steps p.tables e below (T41.setTop (mkF m 39 #[.val (.int p1)] [(.int p1), (.ref b41)])) _
                refine st44.trans ?_
                refine st46 _ ?_
                show Steps p.tables e below (T44.setTop (mkF m 50 #[.val (.int p1)] [(.int (0 : Int32))])) _
                exact retN X44 hx (t := .boolean) Bd.returns (by simp) (hb hby d1_50) hr
              · show Q1 Z p1 wc h0 n0 _ T44.heap _
                rw [e44]
                refine ⟨?_, N44, K41⟩
                have z65 : (65 : Int32).toInt = 65 := by decide
                have z90 : (90 : Int32).toInt = 90 := by decide
                have z97 : (97 : Int32).toInt = 97 := by decide
                have z122 : (122 : Int32).toInt = 122 := by decide
                have z48 : (48 : Int32).toInt = 48 := by decide
                have z57 : (57 : Int32).toInt = 57 := by decide
                have z45 : (45 : Int32).toInt = 45 := by decide
                have z46 : (46 : Int32).toInt = 46 := by decide
                have z95 : (95 : Int32).toInt = 95 := by decide
                have z126 : (126 : Int32).toInt = 126 := by decide
                have hix := own_ix b41 p1 wc t41 kk41
                rw [← hr44] at hix
                have hfin := hix.mp hc42_45
                have key : un p1 = 0 := by
                  simp only [un, Int32.le_iff_toInt_le, ← Int32.toInt_inj, Int32.lt_iff_toInt_lt, z65, z90, z97, z122, z48, z57, z45, z46, z95, z126] at hc3_1 hc15_3 hc21_26 hc27_28 hc33_38 hfin ⊢
                  first | (exfalso; omega) | (rw [if_pos (by omega)]) | (rw [if_neg (by omega)])
                rw [key]
            · -- pc 42: not r44 < 0
              have st47 : ∀ tg, Steps p.tables e below (T44.setTop (mkF m 50 #[.val (.int p1)] [(.int (1 : Int32))])) tg → Steps p.tables e below (T44.setTop (mkF m 42 #[.val (.int p1)] [(.int r44)])) tg := by
                intro tg kt
                show Steps p.tables e below (T44.setTop (mkF m 42 #[.val (.int p1)] [(.int r44)])) tg
                refine XS.ifNo X44.here hx rfl (hb hby d1_42) rfl (XT.i0_lt_f hc42_45) ?_
                show Steps p.tables e below (T44.setTop (mkF m 45 #[.val (.int p1)] [])) tg
                refine XS.iconst X44.here hx rfl (hb hby d1_45) ?_
                show Steps p.tables e below (T44.setTop (mkF m 46 #[.val (.int p1)] [(.int (1 : Int32))])) tg
                refine XS.goto X44.here hx rfl (pc0 := 46) (pc' := 50) rfl (hb hby d1_46) (by decide) (by decide) ?_
                exact kt
              obtain ⟨fs, hr, hrun, hended, hRW⟩ := Stand.leaveW (s := s) X44 hS41 (by rw [e44]; exact hk41) (v := some (.int (1 : Int32))) (fun h => by rw [Bd.returns] at h; cases h)
              refine ⟨_, _, pre0 _ ?_, hrun, hended, _, _, rfl, ?_, (by rw [hh, show (T44.setFrames fs).heap = h41 from e44]; exact (show CHr Z EL s.vm h0 T44.vm h41 from CR41.trans (CHv.at (s := s) (vm0 := T41.vm) (T := T44) X44 hZ41 hEL CR41.1))), hRW.1, hRW.2.1, hRW.2.2.1, hRW.2.2.2.mono (by decide) (by decide)⟩
              · refine st2 _ ?_
                refine st4 _ ?_
                refine st27 _ ?_
                refine st29 _ ?_
                refine st39 _ ?_
                refine st40 _ ?_
                show Steps p.tables e below (s₁.setTop (mkF m 36 #[.val (.int p1)] [])) _
                refine st41 _ ?_
                refine st43 _ ?_
                show Steps p.tables e below (T41.setTop (mkF m 39 #[.val (.int p1)] [(.int p1), (.ref b41)])) _
                refine st44.trans ?_
                refine st47 _ ?_
                show Steps p.tables e below (T44.setTop (mkF m 50 #[.val (.int p1)] [(.int (1 : Int32))])) _
                exact retN X44 hx (t := .boolean) Bd.returns (by simp) (hb hby d1_50) hr
              · show Q1 Z p1 wc h0 n0 _ T44.heap _
                rw [e44]
                refine ⟨?_, N44, K41⟩
                have z65 : (65 : Int32).toInt = 65 := by decide
                have z90 : (90 : Int32).toInt = 90 := by decide
                have z97 : (97 : Int32).toInt = 97 := by decide
                have z122 : (122 : Int32).toInt = 122 := by decide
                have z48 : (48 : Int32).toInt = 48 := by decide
                have z57 : (57 : Int32).toInt = 57 := by decide
                have z45 : (45 : Int32).toInt = 45 := by decide
                have z46 : (46 : Int32).toInt = 46 := by decide
                have z95 : (95 : Int32).toInt = 95 := by decide
                have z126 : (126 : Int32).toInt = 126 := by decide
                have hix := own_ix b41 p1 wc t41 kk41
                rw [← hr44] at hix
                have hfin := Classical.byContradiction (fun q => hc42_45 (hix.mpr q))
                have key : un p1 = 1 := by
                  simp only [un, Int32.le_iff_toInt_le, ← Int32.toInt_inj, Int32.lt_iff_toInt_lt, z65, z90, z97, z122, z48, z57, z45, z46, z95, z126] at hc3_1 hc15_3 hc21_26 hc27_28 hc33_38 hfin ⊢
                  first | (exfalso; omega) | (rw [if_pos (by omega)]) | (rw [if_neg (by omega)])
                rw [key]
          · -- pc 33: not (57 : Int32) < p1
            have st48 : ∀ tg, Steps p.tables e below (s₁.setTop (mkF m 50 #[.val (.int p1)] [(.int (1 : Int32))])) tg → Steps p.tables e below (s₁.setTop (mkF m 33 #[.val (.int p1)] [(.int (57 : Int32)), (.int p1)])) tg := by
              intro tg kt
              show Steps p.tables e below (s₁.setTop (mkF m 33 #[.val (.int p1)] [(.int (57 : Int32)), (.int p1)])) tg
              refine XS.icmpYes X0.here hx rfl (pc0 := 33) (pc' := 45) rfl (hb hby d1_33) rfl (XT.ii_le_t hc33_38) (by decide) (by decide) ?_
              show Steps p.tables e below (s₁.setTop (mkF m 45 #[.val (.int p1)] [])) tg
              refine XS.iconst X0.here hx rfl (hb hby d1_45) ?_
              show Steps p.tables e below (s₁.setTop (mkF m 46 #[.val (.int p1)] [(.int (1 : Int32))])) tg
              refine XS.goto X0.here hx rfl (pc0 := 46) (pc' := 50) rfl (hb hby d1_46) (by decide) (by decide) ?_
              exact kt
            obtain ⟨fs, hr, hrun, hended, hW, hsame⟩ := X0.leave (v := some (.int (1 : Int32))) (fun h => by rw [Bd.returns] at h; cases h)
            have hRW := ReturnedEndW.of_narrow (o := .returned (some (.int (1 : Int32)))) ⟨_, rfl⟩ hW hsame
            refine ⟨_, _, pre0 _ ?_, hrun, hended, _, _, rfl, ?_, (by rw [hh, show (s₁.setFrames fs).heap = h0 from e0]; exact (show CHr Z EL s.vm h0 s₁.vm h0 from CHv.at (s := s) (vm0 := s.vm) (T := s₁) (show Stand p l e _ (s.setVm s.vm) m _ below meth c s₁ _ _ _ from X0) hZ hEL hCH)), hRW.1, hRW.2.1, hRW.2.2.1, hRW.2.2.2.mono (by decide) (by decide)⟩
            · refine st2 _ ?_
              refine st4 _ ?_
              refine st27 _ ?_
              refine st29 _ ?_
              refine st39 _ ?_
              refine st48 _ ?_
              show Steps p.tables e below (s₁.setTop (mkF m 50 #[.val (.int p1)] [(.int (1 : Int32))])) _
              exact retN X0 hx (t := .boolean) Bd.returns (by simp) (hb hby d1_50) hr
            · show Q1 Z p1 wc h0 n0 _ s₁.heap _
              rw [e0]
              refine ⟨?_, N0, K0⟩
              have z65 : (65 : Int32).toInt = 65 := by decide
              have z90 : (90 : Int32).toInt = 90 := by decide
              have z97 : (97 : Int32).toInt = 97 := by decide
              have z122 : (122 : Int32).toInt = 122 := by decide
              have z48 : (48 : Int32).toInt = 48 := by decide
              have z57 : (57 : Int32).toInt = 57 := by decide
              have z45 : (45 : Int32).toInt = 45 := by decide
              have z46 : (46 : Int32).toInt = 46 := by decide
              have z95 : (95 : Int32).toInt = 95 := by decide
              have z126 : (126 : Int32).toInt = 126 := by decide
              have key : un p1 = 1 := by
                simp only [un, Int32.le_iff_toInt_le, ← Int32.toInt_inj, Int32.lt_iff_toInt_lt, z65, z90, z97, z122, z48, z57, z45, z46, z95, z126] at hc3_1 hc15_3 hc21_26 hc27_28 hc33_38 ⊢
                first | (exfalso; omega) | (rw [if_pos (by omega)]) | (rw [if_neg (by omega)])
              rw [key]
      · -- pc 21: not (122 : Int32) < p1
        have st49 : ∀ tg, Steps p.tables e below (s₁.setTop (mkF m 50 #[.val (.int p1)] [(.int (1 : Int32))])) tg → Steps p.tables e below (s₁.setTop (mkF m 21 #[.val (.int p1)] [(.int (122 : Int32)), (.int p1)])) tg := by
          intro tg kt
          show Steps p.tables e below (s₁.setTop (mkF m 21 #[.val (.int p1)] [(.int (122 : Int32)), (.int p1)])) tg
          refine XS.icmpYes X0.here hx rfl (pc0 := 21) (pc' := 45) rfl (hb hby d1_21) rfl (XT.ii_le_t hc21_26) (by decide) (by decide) ?_
          show Steps p.tables e below (s₁.setTop (mkF m 45 #[.val (.int p1)] [])) tg
          refine XS.iconst X0.here hx rfl (hb hby d1_45) ?_
          show Steps p.tables e below (s₁.setTop (mkF m 46 #[.val (.int p1)] [(.int (1 : Int32))])) tg
          refine XS.goto X0.here hx rfl (pc0 := 46) (pc' := 50) rfl (hb hby d1_46) (by decide) (by decide) ?_
          exact kt
        obtain ⟨fs, hr, hrun, hended, hW, hsame⟩ := X0.leave (v := some (.int (1 : Int32))) (fun h => by rw [Bd.returns] at h; cases h)
        have hRW := ReturnedEndW.of_narrow (o := .returned (some (.int (1 : Int32)))) ⟨_, rfl⟩ hW hsame
        refine ⟨_, _, pre0 _ ?_, hrun, hended, _, _, rfl, ?_, (by rw [hh, show (s₁.setFrames fs).heap = h0 from e0]; exact (show CHr Z EL s.vm h0 s₁.vm h0 from CHv.at (s := s) (vm0 := s.vm) (T := s₁) (show Stand p l e _ (s.setVm s.vm) m _ below meth c s₁ _ _ _ from X0) hZ hEL hCH)), hRW.1, hRW.2.1, hRW.2.2.1, hRW.2.2.2.mono (by decide) (by decide)⟩
        · refine st2 _ ?_
          refine st4 _ ?_
          refine st27 _ ?_
          refine st49 _ ?_
          show Steps p.tables e below (s₁.setTop (mkF m 50 #[.val (.int p1)] [(.int (1 : Int32))])) _
          exact retN X0 hx (t := .boolean) Bd.returns (by simp) (hb hby d1_50) hr
        · show Q1 Z p1 wc h0 n0 _ s₁.heap _
          rw [e0]
          refine ⟨?_, N0, K0⟩
          have z65 : (65 : Int32).toInt = 65 := by decide
          have z90 : (90 : Int32).toInt = 90 := by decide
          have z97 : (97 : Int32).toInt = 97 := by decide
          have z122 : (122 : Int32).toInt = 122 := by decide
          have z48 : (48 : Int32).toInt = 48 := by decide
          have z57 : (57 : Int32).toInt = 57 := by decide
          have z45 : (45 : Int32).toInt = 45 := by decide
          have z46 : (46 : Int32).toInt = 46 := by decide
          have z95 : (95 : Int32).toInt = 95 := by decide
          have z126 : (126 : Int32).toInt = 126 := by decide
          have key : un p1 = 1 := by
            simp only [un, Int32.le_iff_toInt_le, ← Int32.toInt_inj, Int32.lt_iff_toInt_lt, z65, z90, z97, z122, z48, z57, z45, z46, z95, z126] at hc3_1 hc15_3 hc21_26 ⊢
            first | (exfalso; omega) | (rw [if_pos (by omega)]) | (rw [if_neg (by omega)])
          rw [key]
  · -- pc 3: not p1 < (65 : Int32)
    have st51 : ∀ tg, Steps p.tables e below (s₁.setTop (mkF m 9 #[.val (.int p1)] [(.int (90 : Int32)), (.int p1)])) tg → Steps p.tables e below (s₁.setTop (mkF m 3 #[.val (.int p1)] [(.int (65 : Int32)), (.int p1)])) tg := by
      intro tg kt
      show Steps p.tables e below (s₁.setTop (mkF m 3 #[.val (.int p1)] [(.int (65 : Int32)), (.int p1)])) tg
      refine XS.icmpNo X0.here hx rfl (hb hby d1_3) rfl (XT.ii_lt_f hc3_1) ?_
      show Steps p.tables e below (s₁.setTop (mkF m 6 #[.val (.int p1)] [])) tg
      refine XS.iloadN X0.here hx rfl (hb hby d1_6) rfl ?_
      show Steps p.tables e below (s₁.setTop (mkF m 7 #[.val (.int p1)] [(.int p1)])) tg
      refine XS.bipush X0.here hx rfl (hb hby d1_7) ?_
      exact kt
    by_cases hc9_50 : (90 : Int32) < p1
    · -- pc 9: (90 : Int32) < p1
      have st53 : ∀ tg, Steps p.tables e below (s₁.setTop (mkF m 15 #[.val (.int p1)] [(.int (97 : Int32)), (.int p1)])) tg → Steps p.tables e below (s₁.setTop (mkF m 9 #[.val (.int p1)] [(.int (90 : Int32)), (.int p1)])) tg := by
        intro tg kt
        show Steps p.tables e below (s₁.setTop (mkF m 9 #[.val (.int p1)] [(.int (90 : Int32)), (.int p1)])) tg
        refine XS.icmpNo X0.here hx rfl (hb hby d1_9) rfl (XT.ii_le_f hc9_50) ?_
        show Steps p.tables e below (s₁.setTop (mkF m 12 #[.val (.int p1)] [])) tg
        refine XS.iloadN X0.here hx rfl (hb hby d1_12) rfl ?_
        show Steps p.tables e below (s₁.setTop (mkF m 13 #[.val (.int p1)] [(.int p1)])) tg
        refine XS.bipush X0.here hx rfl (hb hby d1_13) ?_
        exact kt
      by_cases hc15_52 : p1 < (97 : Int32)
      · -- pc 15: p1 < (97 : Int32)
        have st55 : ∀ tg, Steps p.tables e below (s₁.setTop (mkF m 27 #[.val (.int p1)] [(.int (48 : Int32)), (.int p1)])) tg → Steps p.tables e below (s₁.setTop (mkF m 15 #[.val (.int p1)] [(.int (97 : Int32)), (.int p1)])) tg := by
          intro tg kt
          show Steps p.tables e below (s₁.setTop (mkF m 15 #[.val (.int p1)] [(.int (97 : Int32)), (.int p1)])) tg
          refine XS.icmpYes X0.here hx rfl (pc0 := 15) (pc' := 24) rfl (hb hby d1_15) rfl (XT.ii_lt_t hc15_52) (by decide) (by decide) ?_
          show Steps p.tables e below (s₁.setTop (mkF m 24 #[.val (.int p1)] [])) tg
          refine XS.iloadN X0.here hx rfl (hb hby d1_24) rfl ?_
          show Steps p.tables e below (s₁.setTop (mkF m 25 #[.val (.int p1)] [(.int p1)])) tg
          refine XS.bipush X0.here hx rfl (hb hby d1_25) ?_
          exact kt
        by_cases hc27_54 : p1 < (48 : Int32)
        · -- pc 27: p1 < (48 : Int32)
          have st56 : ∀ tg, Steps p.tables e below (s₁.setTop (mkF m 36 #[.val (.int p1)] [])) tg → Steps p.tables e below (s₁.setTop (mkF m 27 #[.val (.int p1)] [(.int (48 : Int32)), (.int p1)])) tg := by
            intro tg kt
            show Steps p.tables e below (s₁.setTop (mkF m 27 #[.val (.int p1)] [(.int (48 : Int32)), (.int p1)])) tg
            refine XS.icmpYes X0.here hx rfl (pc0 := 27) (pc' := 36) rfl (hb hby d1_27) rfl (XT.ii_lt_t hc27_54) (by decide) (by decide) ?_
            exact kt
          obtain ⟨b57, T57, h57, k57, t57, kk57, X57, e57, E57, hS57, hk57, hZ57, hown57, GE57, GC57, GV57, GA57, lb57, lt57, CR57, -, hne57, st57⟩ := ldcCH (s := s) (vm0 := s.vm) (show Stand p l e _ (s.setVm s.vm) m _ below meth c s₁ _ _ _ from X0) hx hZ hown (hw _ (List.mem_of_getElem? (i := 5) rfl)) (own_wS hw) e0 ((State.WarmedH.refl s).since 0) (Nat.zero_le _) hEL (by decide +kernel) hCH (vs := [(.int (45 : Int32)), (.int (46 : Int32)), (.int (95 : Int32)), (.int (126 : Int32))]) (z := (4 : Int32)) ⟨by decide +kernel, by first | rfl | decide +kernel⟩ (by decide) (by decide) (g := (mkF m 36 #[.val (.int p1)] [])) rfl (hb hby d1_36) (n := 16) (by decide +kernel) (by decide) (by decide) (by decide)
          have G58 : Old Z n0 h57 := OLD.ext E57
          have K57 : Keep h0 h57 [] := K0.ext E57
          have Z57 : n0 ≤ h57.size := Nat.le_trans Z0 E57.1
          have st59 : ∀ tg, Steps p.tables e below (T57.setTop (mkF m 39 #[.val (.int p1)] [(.int p1), (.ref b57)])) tg → Steps p.tables e below (T57.setTop (mkF m 38 #[.val (.int p1)] [(.ref b57)])) tg := by
            intro tg kt
            show Steps p.tables e below (T57.setTop (mkF m 38 #[.val (.int p1)] [(.ref b57)])) tg
            refine XS.iloadN X57.here hx rfl (hb hby d1_38) rfl ?_
            exact kt
          obtain ⟨cq60, kq60, q60a, q60b, q60c⟩ := isOf hZ57 e57 GE57
          obtain ⟨_, _, ⟨T60, L60, k60, n60⟩, -, X60, ⟨Lc60, hQ60, l60, y60, z60⟩, st60⟩ := X57.virtualBack hx (y := (⟨"java/lang/String", "indexOf", "(I)I"⟩ : MethodName)) (z := (⟨"java/lang/String", "indexOf", "(I)I"⟩ : MethodName)) hown57 (mvT hZ57 (hw _ (List.mem_of_getElem? (i := 13) rfl))) (mvT hZ57 (hw _ (List.mem_of_getElem? (i := 14) rfl))) (notFace_of_selects (args := #[]) (mvT hZ57 (hw _ (List.mem_of_getElem? (i := 16) rfl)))) (mvT hZ57 (hw _ (List.mem_of_getElem? (i := 16) rfl))) (mvT hZ57 (hw _ (List.mem_of_getElem? (i := 15) rfl))) (by decide) (backOf (W := 0) (rm2 l Z a0 hw [] b57 p1 wc t57 kk57 h57 n0 Z57 G58 S_c hwc GE57 GC57 GV57 GA57) hZ57 (hw _ (List.mem_of_getElem? (i := 17) rfl)) (hw _ (List.mem_of_getElem? (i := 6) rfl)) (by decide) (by decide)) q60a q60c (g := (mkF m 39 #[.val (.int p1)] [(.int p1), (.ref b57)])) rfl (by rw [hml]; rfl) (Steps.refl _) (argsL := [(.int p1)]) (rest := []) (lenOf pd_6 rfl) rfl (by show 2 * 0 + _ ≤ _; exact Nat.le_of_eq rfl) (hb hby d1_39) (fun _ _ => ⟨rfl, e57, (by decide : 2 + 0 ≤ _), (by decide : 20 + 0 ≤ _)⟩)
          dsimp only [Pt.U, Pt.locs, Pt.cells, Pt.slots] at X60 l60 y60 z60 st60 hQ60
          subst l60 y60 z60
          obtain ⟨rfl, N60q, e60⟩ := hQ60
          have N60 := Fr.app N0 N60q
          obtain ⟨r60, hr60⟩ : ∃ z, z = rv2 b57 p1 wc t57 kk57 := ⟨_, rfl⟩
          rw [← hr60] at st60
          by_cases hc42_61 : r60 < 0
          · -- pc 42: r60 < 0
            have st62 : ∀ tg, Steps p.tables e below (T60.setTop (mkF m 50 #[.val (.int p1)] [(.int (0 : Int32))])) tg → Steps p.tables e below (T60.setTop (mkF m 42 #[.val (.int p1)] [(.int r60)])) tg := by
              intro tg kt
              show Steps p.tables e below (T60.setTop (mkF m 42 #[.val (.int p1)] [(.int r60)])) tg
              refine XS.ifYes X60.here hx rfl (pc0 := 42) (pc' := 49) rfl (hb hby d1_42) rfl (XT.i0_lt_t hc42_61) (by decide) (by decide) ?_
              show Steps p.tables e below (T60.setTop (mkF m 49 #[.val (.int p1)] [])) tg
              refine XS.iconst X60.here hx rfl (hb hby d1_49) ?_
              exact kt
            obtain ⟨fs, hr, hrun, hended, hRW⟩ := Stand.leaveW (s := s) X60 hS57 (by rw [e60]; exact hk57) (v := some (.int (0 : Int32))) (fun h => by rw [Bd.returns] at h; cases h)
            refine ⟨_, _, pre0 _ ?_, hrun, hended, _, _, rfl, ?_, (by rw [hh, show (T60.setFrames fs).heap = h57 from e60]; exact (show CHr Z EL s.vm h0 T60.vm h57 from CR57.trans (CHv.at (s := s) (vm0 := T57.vm) (T := T60) X60 hZ57 hEL CR57.1))), hRW.1, hRW.2.1, hRW.2.2.1, hRW.2.2.2.mono (by decide) (by decide)⟩
            · refine st2 _ ?_
              refine st51 _ ?_
              refine st53 _ ?_
              refine st55 _ ?_
              refine st56 _ ?_
              show Steps p.tables e below (s₁.setTop (mkF m 36 #[.val (.int p1)] [])) _
              refine st57 _ ?_
              refine st59 _ ?_
              show Steps p.tables e below (T57.setTop (mkF m 39 #[.val (.int p1)] [(.int p1), (.ref b57)])) _
              refine st60.trans ?_
              refine st62 _ ?_
              show Steps p.tables e below (T60.setTop (mkF m 50 #[.val (.int p1)] [(.int (0 : Int32))])) _
              exact retN X60 hx (t := .boolean) Bd.returns (by simp) (hb hby d1_50) hr
            · show Q1 Z p1 wc h0 n0 _ T60.heap _
              rw [e60]
              refine ⟨?_, N60, K57⟩
              have z65 : (65 : Int32).toInt = 65 := by decide
              have z90 : (90 : Int32).toInt = 90 := by decide
              have z97 : (97 : Int32).toInt = 97 := by decide
              have z122 : (122 : Int32).toInt = 122 := by decide
              have z48 : (48 : Int32).toInt = 48 := by decide
              have z57 : (57 : Int32).toInt = 57 := by decide
              have z45 : (45 : Int32).toInt = 45 := by decide
              have z46 : (46 : Int32).toInt = 46 := by decide
              have z95 : (95 : Int32).toInt = 95 := by decide
              have z126 : (126 : Int32).toInt = 126 := by decide
              have hix := own_ix b57 p1 wc t57 kk57
              rw [← hr60] at hix
              have hfin := hix.mp hc42_61
              have key : un p1 = 0 := by
                simp only [un, Int32.le_iff_toInt_le, ← Int32.toInt_inj, Int32.lt_iff_toInt_lt, z65, z90, z97, z122, z48, z57, z45, z46, z95, z126] at hc3_1 hc9_50 hc15_52 hc27_54 hfin ⊢
                first | (exfalso; omega) | (rw [if_pos (by omega)]) | (rw [if_neg (by omega)])
              rw [key]
          · -- pc 42: not r60 < 0
            have st63 : ∀ tg, Steps p.tables e below (T60.setTop (mkF m 50 #[.val (.int p1)] [(.int (1 : Int32))])) tg → Steps p.tables e below (T60.setTop (mkF m 42 #[.val (.int p1)] [(.int r60)])) tg := by
              intro tg kt
              show Steps p.tables e below (T60.setTop (mkF m 42 #[.val (.int p1)] [(.int r60)])) tg
              refine XS.ifNo X60.here hx rfl (hb hby d1_42) rfl (XT.i0_lt_f hc42_61) ?_
              show Steps p.tables e below (T60.setTop (mkF m 45 #[.val (.int p1)] [])) tg
              refine XS.iconst X60.here hx rfl (hb hby d1_45) ?_
              show Steps p.tables e below (T60.setTop (mkF m 46 #[.val (.int p1)] [(.int (1 : Int32))])) tg
              refine XS.goto X60.here hx rfl (pc0 := 46) (pc' := 50) rfl (hb hby d1_46) (by decide) (by decide) ?_
              exact kt
            obtain ⟨fs, hr, hrun, hended, hRW⟩ := Stand.leaveW (s := s) X60 hS57 (by rw [e60]; exact hk57) (v := some (.int (1 : Int32))) (fun h => by rw [Bd.returns] at h; cases h)
            refine ⟨_, _, pre0 _ ?_, hrun, hended, _, _, rfl, ?_, (by rw [hh, show (T60.setFrames fs).heap = h57 from e60]; exact (show CHr Z EL s.vm h0 T60.vm h57 from CR57.trans (CHv.at (s := s) (vm0 := T57.vm) (T := T60) X60 hZ57 hEL CR57.1))), hRW.1, hRW.2.1, hRW.2.2.1, hRW.2.2.2.mono (by decide) (by decide)⟩
            · refine st2 _ ?_
              refine st51 _ ?_
              refine st53 _ ?_
              refine st55 _ ?_
              refine st56 _ ?_
              show Steps p.tables e below (s₁.setTop (mkF m 36 #[.val (.int p1)] [])) _
              refine st57 _ ?_
              refine st59 _ ?_
              show Steps p.tables e below (T57.setTop (mkF m 39 #[.val (.int p1)] [(.int p1), (.ref b57)])) _
              refine st60.trans ?_
              refine st63 _ ?_
              show Steps p.tables e below (T60.setTop (mkF m 50 #[.val (.int p1)] [(.int (1 : Int32))])) _
              exact retN X60 hx (t := .boolean) Bd.returns (by simp) (hb hby d1_50) hr
            · show Q1 Z p1 wc h0 n0 _ T60.heap _
              rw [e60]
              refine ⟨?_, N60, K57⟩
              have z65 : (65 : Int32).toInt = 65 := by decide
              have z90 : (90 : Int32).toInt = 90 := by decide
              have z97 : (97 : Int32).toInt = 97 := by decide
              have z122 : (122 : Int32).toInt = 122 := by decide
              have z48 : (48 : Int32).toInt = 48 := by decide
              have z57 : (57 : Int32).toInt = 57 := by decide
              have z45 : (45 : Int32).toInt = 45 := by decide
              have z46 : (46 : Int32).toInt = 46 := by decide
              have z95 : (95 : Int32).toInt = 95 := by decide
              have z126 : (126 : Int32).toInt = 126 := by decide
              have hix := own_ix b57 p1 wc t57 kk57
              rw [← hr60] at hix
              have hfin := Classical.byContradiction (fun q => hc42_61 (hix.mpr q))
              have key : un p1 = 1 := by
                simp only [un, Int32.le_iff_toInt_le, ← Int32.toInt_inj, Int32.lt_iff_toInt_lt, z65, z90, z97, z122, z48, z57, z45, z46, z95, z126] at hc3_1 hc9_50 hc15_52 hc27_54 hfin ⊢
                first | (exfalso; omega) | (rw [if_pos (by omega)]) | (rw [if_neg (by omega)])
              rw [key]
        · -- pc 27: not p1 < (48 : Int32)
          have st65 : ∀ tg, Steps p.tables e below (s₁.setTop (mkF m 33 #[.val (.int p1)] [(.int (57 : Int32)), (.int p1)])) tg → Steps p.tables e below (s₁.setTop (mkF m 27 #[.val (.int p1)] [(.int (48 : Int32)), (.int p1)])) tg := by
            intro tg kt
            show Steps p.tables e below (s₁.setTop (mkF m 27 #[.val (.int p1)] [(.int (48 : Int32)), (.int p1)])) tg
            refine XS.icmpNo X0.here hx rfl (hb hby d1_27) rfl (XT.ii_lt_f hc27_54) ?_
            show Steps p.tables e below (s₁.setTop (mkF m 30 #[.val (.int p1)] [])) tg
            refine XS.iloadN X0.here hx rfl (hb hby d1_30) rfl ?_
            show Steps p.tables e below (s₁.setTop (mkF m 31 #[.val (.int p1)] [(.int p1)])) tg
            refine XS.bipush X0.here hx rfl (hb hby d1_31) ?_
            exact kt
          by_cases hc33_64 : (57 : Int32) < p1
          · -- pc 33: (57 : Int32) < p1
            have st66 : ∀ tg, Steps p.tables e below (s₁.setTop (mkF m 36 #[.val (.int p1)] [])) tg → Steps p.tables e below (s₁.setTop (mkF m 33 #[.val (.int p1)] [(.int (57 : Int32)), (.int p1)])) tg := by
              intro tg kt
              show Steps p.tables e below (s₁.setTop (mkF m 33 #[.val (.int p1)] [(.int (57 : Int32)), (.int p1)])) tg
              refine XS.icmpNo X0.here hx rfl (hb hby d1_33) rfl (XT.ii_le_f hc33_64) ?_
              exact kt
            obtain ⟨b67, T67, h67, k67, t67, kk67, X67, e67, E67, hS67, hk67, hZ67, hown67, GE67, GC67, GV67, GA67, lb67, lt67, CR67, -, hne67, st67⟩ := ldcCH (s := s) (vm0 := s.vm) (show Stand p l e _ (s.setVm s.vm) m _ below meth c s₁ _ _ _ from X0) hx hZ hown (hw _ (List.mem_of_getElem? (i := 5) rfl)) (own_wS hw) e0 ((State.WarmedH.refl s).since 0) (Nat.zero_le _) hEL (by decide +kernel) hCH (vs := [(.int (45 : Int32)), (.int (46 : Int32)), (.int (95 : Int32)), (.int (126 : Int32))]) (z := (4 : Int32)) ⟨by decide +kernel, by first | rfl | decide +kernel⟩ (by decide) (by decide) (g := (mkF m 36 #[.val (.int p1)] [])) rfl (hb hby d1_36) (n := 16) (by decide +kernel) (by decide) (by decide) (by decide)
            have G68 : Old Z n0 h67 := OLD.ext E67
            have K67 : Keep h0 h67 [] := K0.ext E67
            have Z67 : n0 ≤ h67.size := Nat.le_trans Z0 E67.1
            have st69 : ∀ tg, Steps p.tables e below (T67.setTop (mkF m 39 #[.val (.int p1)] [(.int p1), (.ref b67)])) tg → Steps p.tables e below (T67.setTop (mkF m 38 #[.val (.int p1)] [(.ref b67)])) tg := by
              intro tg kt
              show Steps p.tables e below (T67.setTop (mkF m 38 #[.val (.int p1)] [(.ref b67)])) tg
              refine XS.iloadN X67.here hx rfl (hb hby d1_38) rfl ?_
              exact kt
            obtain ⟨cq70, kq70, q70a, q70b, q70c⟩ := isOf hZ67 e67 GE67
            obtain ⟨_, _, ⟨T70, L70, k70, n70⟩, -, X70, ⟨Lc70, hQ70, l70, y70, z70⟩, st70⟩ := X67.virtualBack hx (y := (⟨"java/lang/String", "indexOf", "(I)I"⟩ : MethodName)) (z := (⟨"java/lang/String", "indexOf", "(I)I"⟩ : MethodName)) hown67 (mvT hZ67 (hw _ (List.mem_of_getElem? (i := 13) rfl))) (mvT hZ67 (hw _ (List.mem_of_getElem? (i := 14) rfl))) (notFace_of_selects (args := #[]) (mvT hZ67 (hw _ (List.mem_of_getElem? (i := 16) rfl)))) (mvT hZ67 (hw _ (List.mem_of_getElem? (i := 16) rfl))) (mvT hZ67 (hw _ (List.mem_of_getElem? (i := 15) rfl))) (by decide) (backOf (W := 0) (rm2 l Z a0 hw [] b67 p1 wc t67 kk67 h67 n0 Z67 G68 S_c hwc GE67 GC67 GV67 GA67) hZ67 (hw _ (List.mem_of_getElem? (i := 17) rfl)) (hw _ (List.mem_of_getElem? (i := 6) rfl)) (by decide) (by decide)) q70a q70c (g := (mkF m 39 #[.val (.int p1)] [(.int p1), (.ref b67)])) rfl (by rw [hml]; rfl) (Steps.refl _) (argsL := [(.int p1)]) (rest := []) (lenOf pd_6 rfl) rfl (by show 2 * 0 + _ ≤ _; exact Nat.le_of_eq rfl) (hb hby d1_39) (fun _ _ => ⟨rfl, e67, (by decide : 2 + 0 ≤ _), (by decide : 20 + 0 ≤ _)⟩)
            dsimp only [Pt.U, Pt.locs, Pt.cells, Pt.slots] at X70 l70 y70 z70 st70 hQ70
            subst l70 y70 z70
            obtain ⟨rfl, N70q, e70⟩ := hQ70
            have N70 := Fr.app N0 N70q
            obtain ⟨r70, hr70⟩ : ∃ z, z = rv2 b67 p1 wc t67 kk67 := ⟨_, rfl⟩
            rw [← hr70] at st70
            by_cases hc42_71 : r70 < 0
            · -- pc 42: r70 < 0
              have st72 : ∀ tg, Steps p.tables e below (T70.setTop (mkF m 50 #[.val (.int p1)] [(.int (0 : Int32))])) tg → Steps p.tables e below (T70.setTop (mkF m 42 #[.val (.int p1)] [(.int r70)])) tg := by
                intro tg kt
                show Steps p.tables e below (T70.setTop (mkF m 42 #[.val (.int p1)] [(.int r70)])) tg
                refine XS.ifYes X70.here hx rfl (pc0 := 42) (pc' := 49) rfl (hb hby d1_42) rfl (XT.i0_lt_t hc42_71) (by decide) (by decide) ?_
                show Steps p.tables e below (T70.setTop (mkF m 49 #[.val (.int p1)] [])) tg
                refine XS.iconst X70.here hx rfl (hb hby d1_49) ?_
                exact kt
              obtain ⟨fs, hr, hrun, hended, hRW⟩ := Stand.leaveW (s := s) X70 hS67 (by rw [e70]; exact hk67) (v := some (.int (0 : Int32))) (fun h => by rw [Bd.returns] at h; cases h)
              refine ⟨_, _, pre0 _ ?_, hrun, hended, _, _, rfl, ?_, (by rw [hh, show (T70.setFrames fs).heap = h67 from e70]; exact (show CHr Z EL s.vm h0 T70.vm h67 from CR67.trans (CHv.at (s := s) (vm0 := T67.vm) (T := T70) X70 hZ67 hEL CR67.1))), hRW.1, hRW.2.1, hRW.2.2.1, hRW.2.2.2.mono (by decide) (by decide)⟩
              · refine st2 _ ?_
                refine st51 _ ?_
                refine st53 _ ?_
                refine st55 _ ?_
                refine st65 _ ?_
                refine st66 _ ?_
                show Steps p.tables e below (s₁.setTop (mkF m 36 #[.val (.int p1)] [])) _
                refine st67 _ ?_
                refine st69 _ ?_
                show Steps p.tables e below (T67.setTop (mkF m 39 #[.val (.int p1)] [(.int p1), (.ref b67)])) _
                refine st70.trans ?_
                refine st72 _ ?_
                show Steps p.tables e below (T70.setTop (mkF m 50 #[.val (.int p1)] [(.int (0 : Int32))])) _
                exact retN X70 hx (t := .boolean) Bd.returns (by simp) (hb hby d1_50) hr
              · show Q1 Z p1 wc h0 n0 _ T70.heap _
                rw [e70]
                refine ⟨?_, N70, K67⟩
                have z65 : (65 : Int32).toInt = 65 := by decide
                have z90 : (90 : Int32).toInt = 90 := by decide
                have z97 : (97 : Int32).toInt = 97 := by decide
                have z122 : (122 : Int32).toInt = 122 := by decide
                have z48 : (48 : Int32).toInt = 48 := by decide
                have z57 : (57 : Int32).toInt = 57 := by decide
                have z45 : (45 : Int32).toInt = 45 := by decide
                have z46 : (46 : Int32).toInt = 46 := by decide
                have z95 : (95 : Int32).toInt = 95 := by decide
                have z126 : (126 : Int32).toInt = 126 := by decide
                have hix := own_ix b67 p1 wc t67 kk67
                rw [← hr70] at hix
                have hfin := hix.mp hc42_71
                have key : un p1 = 0 := by
                  simp only [un, Int32.le_iff_toInt_le, ← Int32.toInt_inj, Int32.lt_iff_toInt_lt, z65, z90, z97, z122, z48, z57, z45, z46, z95, z126] at hc3_1 hc9_50 hc15_52 hc27_54 hc33_64 hfin ⊢
                  first | (exfalso; omega) | (rw [if_pos (by omega)]) | (rw [if_neg (by omega)])
                rw [key]
            · -- pc 42: not r70 < 0
              have st73 : ∀ tg, Steps p.tables e below (T70.setTop (mkF m 50 #[.val (.int p1)] [(.int (1 : Int32))])) tg → Steps p.tables e below (T70.setTop (mkF m 42 #[.val (.int p1)] [(.int r70)])) tg := by
                intro tg kt
                show Steps p.tables e below (T70.setTop (mkF m 42 #[.val (.int p1)] [(.int r70)])) tg
                refine XS.ifNo X70.here hx rfl (hb hby d1_42) rfl (XT.i0_lt_f hc42_71) ?_
                show Steps p.tables e below (T70.setTop (mkF m 45 #[.val (.int p1)] [])) tg
                refine XS.iconst X70.here hx rfl (hb hby d1_45) ?_
                show Steps p.tables e below (T70.setTop (mkF m 46 #[.val (.int p1)] [(.int (1 : Int32))])) tg
                refine XS.goto X70.here hx rfl (pc0 := 46) (pc' := 50) rfl (hb hby d1_46) (by decide) (by decide) ?_
                exact kt
              obtain ⟨fs, hr, hrun, hended, hRW⟩ := Stand.leaveW (s := s) X70 hS67 (by rw [e70]; exact hk67) (v := some (.int (1 : Int32))) (fun h => by rw [Bd.returns] at h; cases h)
              refine ⟨_, _, pre0 _ ?_, hrun, hended, _, _, rfl, ?_, (by rw [hh, show (T70.setFrames fs).heap = h67 from e70]; exact (show CHr Z EL s.vm h0 T70.vm h67 from CR67.trans (CHv.at (s := s) (vm0 := T67.vm) (T := T70) X70 hZ67 hEL CR67.1))), hRW.1, hRW.2.1, hRW.2.2.1, hRW.2.2.2.mono (by decide) (by decide)⟩
              · refine st2 _ ?_
                refine st51 _ ?_
                refine st53 _ ?_
                refine st55 _ ?_
                refine st65 _ ?_
                refine st66 _ ?_
                show Steps p.tables e below (s₁.setTop (mkF m 36 #[.val (.int p1)] [])) _
                refine st67 _ ?_
                refine st69 _ ?_
                show Steps p.tables e below (T67.setTop (mkF m 39 #[.val (.int p1)] [(.int p1), (.ref b67)])) _
                refine st70.trans ?_
                refine st73 _ ?_
                show Steps p.tables e below (T70.setTop (mkF m 50 #[.val (.int p1)] [(.int (1 : Int32))])) _
                exact retN X70 hx (t := .boolean) Bd.returns (by simp) (hb hby d1_50) hr
              · show Q1 Z p1 wc h0 n0 _ T70.heap _
                rw [e70]
                refine ⟨?_, N70, K67⟩
                have z65 : (65 : Int32).toInt = 65 := by decide
                have z90 : (90 : Int32).toInt = 90 := by decide
                have z97 : (97 : Int32).toInt = 97 := by decide
                have z122 : (122 : Int32).toInt = 122 := by decide
                have z48 : (48 : Int32).toInt = 48 := by decide
                have z57 : (57 : Int32).toInt = 57 := by decide
                have z45 : (45 : Int32).toInt = 45 := by decide
                have z46 : (46 : Int32).toInt = 46 := by decide
                have z95 : (95 : Int32).toInt = 95 := by decide
                have z126 : (126 : Int32).toInt = 126 := by decide
                have hix := own_ix b67 p1 wc t67 kk67
                rw [← hr70] at hix
                have hfin := Classical.byContradiction (fun q => hc42_71 (hix.mpr q))
                have key : un p1 = 1 := by
                  simp only [un, Int32.le_iff_toInt_le, ← Int32.toInt_inj, Int32.lt_iff_toInt_lt, z65, z90, z97, z122, z48, z57, z45, z46, z95, z126] at hc3_1 hc9_50 hc15_52 hc27_54 hc33_64 hfin ⊢
                  first | (exfalso; omega) | (rw [if_pos (by omega)]) | (rw [if_neg (by omega)])
                rw [key]
          · -- pc 33: not (57 : Int32) < p1
            have st74 : ∀ tg, Steps p.tables e below (s₁.setTop (mkF m 50 #[.val (.int p1)] [(.int (1 : Int32))])) tg → Steps p.tables e below (s₁.setTop (mkF m 33 #[.val (.int p1)] [(.int (57 : Int32)), (.int p1)])) tg := by
              intro tg kt
              show Steps p.tables e below (s₁.setTop (mkF m 33 #[.val (.int p1)] [(.int (57 : Int32)), (.int p1)])) tg
              refine XS.icmpYes X0.here hx rfl (pc0 := 33) (pc' := 45) rfl (hb hby d1_33) rfl (XT.ii_le_t hc33_64) (by decide) (by decide) ?_
              show Steps p.tables e below (s₁.setTop (mkF m 45 #[.val (.int p1)] [])) tg
              refine XS.iconst X0.here hx rfl (hb hby d1_45) ?_
              show Steps p.tables e below (s₁.setTop (mkF m 46 #[.val (.int p1)] [(.int (1 : Int32))])) tg
              refine XS.goto X0.here hx rfl (pc0 := 46) (pc' := 50) rfl (hb hby d1_46) (by decide) (by decide) ?_
              exact kt
            obtain ⟨fs, hr, hrun, hended, hW, hsame⟩ := X0.leave (v := some (.int (1 : Int32))) (fun h => by rw [Bd.returns] at h; cases h)
            have hRW := ReturnedEndW.of_narrow (o := .returned (some (.int (1 : Int32)))) ⟨_, rfl⟩ hW hsame
            refine ⟨_, _, pre0 _ ?_, hrun, hended, _, _, rfl, ?_, (by rw [hh, show (s₁.setFrames fs).heap = h0 from e0]; exact (show CHr Z EL s.vm h0 s₁.vm h0 from CHv.at (s := s) (vm0 := s.vm) (T := s₁) (show Stand p l e _ (s.setVm s.vm) m _ below meth c s₁ _ _ _ from X0) hZ hEL hCH)), hRW.1, hRW.2.1, hRW.2.2.1, hRW.2.2.2.mono (by decide) (by decide)⟩
            · refine st2 _ ?_
              refine st51 _ ?_
              refine st53 _ ?_
              refine st55 _ ?_
              refine st65 _ ?_
              refine st74 _ ?_
              show Steps p.tables e below (s₁.setTop (mkF m 50 #[.val (.int p1)] [(.int (1 : Int32))])) _
              exact retN X0 hx (t := .boolean) Bd.returns (by simp) (hb hby d1_50) hr
            · show Q1 Z p1 wc h0 n0 _ s₁.heap _
              rw [e0]
              refine ⟨?_, N0, K0⟩
              have z65 : (65 : Int32).toInt = 65 := by decide
              have z90 : (90 : Int32).toInt = 90 := by decide
              have z97 : (97 : Int32).toInt = 97 := by decide
              have z122 : (122 : Int32).toInt = 122 := by decide
              have z48 : (48 : Int32).toInt = 48 := by decide
              have z57 : (57 : Int32).toInt = 57 := by decide
              have z45 : (45 : Int32).toInt = 45 := by decide
              have z46 : (46 : Int32).toInt = 46 := by decide
              have z95 : (95 : Int32).toInt = 95 := by decide
              have z126 : (126 : Int32).toInt = 126 := by decide
              have key : un p1 = 1 := by
                simp only [un, Int32.le_iff_toInt_le, ← Int32.toInt_inj, Int32.lt_iff_toInt_lt, z65, z90, z97, z122, z48, z57, z45, z46, z95, z126] at hc3_1 hc9_50 hc15_52 hc27_54 hc33_64 ⊢
                first | (exfalso; omega) | (rw [if_pos (by omega)]) | (rw [if_neg (by omega)])
              rw [key]
      · -- pc 15: not p1 < (97 : Int32)
        have st76 : ∀ tg, Steps p.tables e below (s₁.setTop (mkF m 21 #[.val (.int p1)] [(.int (122 : Int32)), (.int p1)])) tg → Steps p.tables e below (s₁.setTop (mkF m 15 #[.val (.int p1)] [(.int (97 : Int32)), (.int p1)])) tg := by
          intro tg kt
          show Steps p.tables e below (s₁.setTop (mkF m 15 #[.val (.int p1)] [(.int (97 : Int32)), (.int p1)])) tg
          refine XS.icmpNo X0.here hx rfl (hb hby d1_15) rfl (XT.ii_lt_f hc15_52) ?_
          show Steps p.tables e below (s₁.setTop (mkF m 18 #[.val (.int p1)] [])) tg
          refine XS.iloadN X0.here hx rfl (hb hby d1_18) rfl ?_
          show Steps p.tables e below (s₁.setTop (mkF m 19 #[.val (.int p1)] [(.int p1)])) tg
          refine XS.bipush X0.here hx rfl (hb hby d1_19) ?_
          exact kt
        by_cases hc21_75 : (122 : Int32) < p1
        · -- pc 21: (122 : Int32) < p1
          have st78 : ∀ tg, Steps p.tables e below (s₁.setTop (mkF m 27 #[.val (.int p1)] [(.int (48 : Int32)), (.int p1)])) tg → Steps p.tables e below (s₁.setTop (mkF m 21 #[.val (.int p1)] [(.int (122 : Int32)), (.int p1)])) tg := by
            intro tg kt
            show Steps p.tables e below (s₁.setTop (mkF m 21 #[.val (.int p1)] [(.int (122 : Int32)), (.int p1)])) tg
            refine XS.icmpNo X0.here hx rfl (hb hby d1_21) rfl (XT.ii_le_f hc21_75) ?_
            show Steps p.tables e below (s₁.setTop (mkF m 24 #[.val (.int p1)] [])) tg
            refine XS.iloadN X0.here hx rfl (hb hby d1_24) rfl ?_
            show Steps p.tables e below (s₁.setTop (mkF m 25 #[.val (.int p1)] [(.int p1)])) tg
            refine XS.bipush X0.here hx rfl (hb hby d1_25) ?_
            exact kt
          by_cases hc27_77 : p1 < (48 : Int32)
          · -- pc 27: p1 < (48 : Int32)
            have st79 : ∀ tg, Steps p.tables e below (s₁.setTop (mkF m 36 #[.val (.int p1)] [])) tg → Steps p.tables e below (s₁.setTop (mkF m 27 #[.val (.int p1)] [(.int (48 : Int32)), (.int p1)])) tg := by
              intro tg kt
              show Steps p.tables e below (s₁.setTop (mkF m 27 #[.val (.int p1)] [(.int (48 : Int32)), (.int p1)])) tg
              refine XS.icmpYes X0.here hx rfl (pc0 := 27) (pc' := 36) rfl (hb hby d1_27) rfl (XT.ii_lt_t hc27_77) (by decide) (by decide) ?_
              exact kt
            obtain ⟨b80, T80, h80, k80, t80, kk80, X80, e80, E80, hS80, hk80, hZ80, hown80, GE80, GC80, GV80, GA80, lb80, lt80, CR80, -, hne80, st80⟩ := ldcCH (s := s) (vm0 := s.vm) (show Stand p l e _ (s.setVm s.vm) m _ below meth c s₁ _ _ _ from X0) hx hZ hown (hw _ (List.mem_of_getElem? (i := 5) rfl)) (own_wS hw) e0 ((State.WarmedH.refl s).since 0) (Nat.zero_le _) hEL (by decide +kernel) hCH (vs := [(.int (45 : Int32)), (.int (46 : Int32)), (.int (95 : Int32)), (.int (126 : Int32))]) (z := (4 : Int32)) ⟨by decide +kernel, by first | rfl | decide +kernel⟩ (by decide) (by decide) (g := (mkF m 36 #[.val (.int p1)] [])) rfl (hb hby d1_36) (n := 16) (by decide +kernel) (by decide) (by decide) (by decide)
            have G81 : Old Z n0 h80 := OLD.ext E80
            have K80 : Keep h0 h80 [] := K0.ext E80
            have Z80 : n0 ≤ h80.size := Nat.le_trans Z0 E80.1
            have st82 : ∀ tg, Steps p.tables e below (T80.setTop (mkF m 39 #[.val (.int p1)] [(.int p1), (.ref b80)])) tg → Steps p.tables e below (T80.setTop (mkF m 38 #[.val (.int p1)] [(.ref b80)])) tg := by
              intro tg kt
              show Steps p.tables e below (T80.setTop (mkF m 38 #[.val (.int p1)] [(.ref b80)])) tg
              refine XS.iloadN X80.here hx rfl (hb hby d1_38) rfl ?_
              exact kt
            obtain ⟨cq83, kq83, q83a, q83b, q83c⟩ := isOf hZ80 e80 GE80
            obtain ⟨_, _, ⟨T83, L83, k83, n83⟩, -, X83, ⟨Lc83, hQ83, l83, y83, z83⟩, st83⟩ := X80.virtualBack hx (y := (⟨"java/lang/String", "indexOf", "(I)I"⟩ : MethodName)) (z := (⟨"java/lang/String", "indexOf", "(I)I"⟩ : MethodName)) hown80 (mvT hZ80 (hw _ (List.mem_of_getElem? (i := 13) rfl))) (mvT hZ80 (hw _ (List.mem_of_getElem? (i := 14) rfl))) (notFace_of_selects (args := #[]) (mvT hZ80 (hw _ (List.mem_of_getElem? (i := 16) rfl)))) (mvT hZ80 (hw _ (List.mem_of_getElem? (i := 16) rfl))) (mvT hZ80 (hw _ (List.mem_of_getElem? (i := 15) rfl))) (by decide) (backOf (W := 0) (rm2 l Z a0 hw [] b80 p1 wc t80 kk80 h80 n0 Z80 G81 S_c hwc GE80 GC80 GV80 GA80) hZ80 (hw _ (List.mem_of_getElem? (i := 17) rfl)) (hw _ (List.mem_of_getElem? (i := 6) rfl)) (by decide) (by decide)) q83a q83c (g := (mkF m 39 #[.val (.int p1)] [(.int p1), (.ref b80)])) rfl (by rw [hml]; rfl) (Steps.refl _) (argsL := [(.int p1)]) (rest := []) (lenOf pd_6 rfl) rfl (by show 2 * 0 + _ ≤ _; exact Nat.le_of_eq rfl) (hb hby d1_39) (fun _ _ => ⟨rfl, e80, (by decide : 2 + 0 ≤ _), (by decide : 20 + 0 ≤ _)⟩)
            dsimp only [Pt.U, Pt.locs, Pt.cells, Pt.slots] at X83 l83 y83 z83 st83 hQ83
            subst l83 y83 z83
            obtain ⟨rfl, N83q, e83⟩ := hQ83
            have N83 := Fr.app N0 N83q
            obtain ⟨r83, hr83⟩ : ∃ z, z = rv2 b80 p1 wc t80 kk80 := ⟨_, rfl⟩
            rw [← hr83] at st83
            by_cases hc42_84 : r83 < 0
            · -- pc 42: r83 < 0
              have st85 : ∀ tg, Steps p.tables e below (T83.setTop (mkF m 50 #[.val (.int p1)] [(.int (0 : Int32))])) tg → Steps p.tables e below (T83.setTop (mkF m 42 #[.val (.int p1)] [(.int r83)])) tg := by
                intro tg kt
                show Steps p.tables e below (T83.setTop (mkF m 42 #[.val (.int p1)] [(.int r83)])) tg
                refine XS.ifYes X83.here hx rfl (pc0 := 42) (pc' := 49) rfl (hb hby d1_42) rfl (XT.i0_lt_t hc42_84) (by decide) (by decide) ?_
                show Steps p.tables e below (T83.setTop (mkF m 49 #[.val (.int p1)] [])) tg
                refine XS.iconst X83.here hx rfl (hb hby d1_49) ?_
                exact kt
              obtain ⟨fs, hr, hrun, hended, hRW⟩ := Stand.leaveW (s := s) X83 hS80 (by rw [e83]; exact hk80) (v := some (.int (0 : Int32))) (fun h => by rw [Bd.returns] at h; cases h)
              refine ⟨_, _, pre0 _ ?_, hrun, hended, _, _, rfl, ?_, (by rw [hh, show (T83.setFrames fs).heap = h80 from e83]; exact (show CHr Z EL s.vm h0 T83.vm h80 from CR80.trans (CHv.at (s := s) (vm0 := T80.vm) (T := T83) X83 hZ80 hEL CR80.1))), hRW.1, hRW.2.1, hRW.2.2.1, hRW.2.2.2.mono (by decide) (by decide)⟩
              · refine st2 _ ?_
                refine st51 _ ?_
                refine st53 _ ?_
                refine st76 _ ?_
                refine st78 _ ?_
                refine st79 _ ?_
                show Steps p.tables e below (s₁.setTop (mkF m 36 #[.val (.int p1)] [])) _
                refine st80 _ ?_
                refine st82 _ ?_
                show Steps p.tables e below (T80.setTop (mkF m 39 #[.val (.int p1)] [(.int p1), (.ref b80)])) _
                refine st83.trans ?_
                refine st85 _ ?_
                show Steps p.tables e below (T83.setTop (mkF m 50 #[.val (.int p1)] [(.int (0 : Int32))])) _
                exact retN X83 hx (t := .boolean) Bd.returns (by simp) (hb hby d1_50) hr
              · show Q1 Z p1 wc h0 n0 _ T83.heap _
                rw [e83]
                refine ⟨?_, N83, K80⟩
                have z65 : (65 : Int32).toInt = 65 := by decide
                have z90 : (90 : Int32).toInt = 90 := by decide
                have z97 : (97 : Int32).toInt = 97 := by decide
                have z122 : (122 : Int32).toInt = 122 := by decide
                have z48 : (48 : Int32).toInt = 48 := by decide
                have z57 : (57 : Int32).toInt = 57 := by decide
                have z45 : (45 : Int32).toInt = 45 := by decide
                have z46 : (46 : Int32).toInt = 46 := by decide
                have z95 : (95 : Int32).toInt = 95 := by decide
                have z126 : (126 : Int32).toInt = 126 := by decide
                have hix := own_ix b80 p1 wc t80 kk80
                rw [← hr83] at hix
                have hfin := hix.mp hc42_84
                have key : un p1 = 0 := by
                  simp only [un, Int32.le_iff_toInt_le, ← Int32.toInt_inj, Int32.lt_iff_toInt_lt, z65, z90, z97, z122, z48, z57, z45, z46, z95, z126] at hc3_1 hc9_50 hc15_52 hc21_75 hc27_77 hfin ⊢
                  first | (exfalso; omega) | (rw [if_pos (by omega)]) | (rw [if_neg (by omega)])
                rw [key]
            · -- pc 42: not r83 < 0
              have st86 : ∀ tg, Steps p.tables e below (T83.setTop (mkF m 50 #[.val (.int p1)] [(.int (1 : Int32))])) tg → Steps p.tables e below (T83.setTop (mkF m 42 #[.val (.int p1)] [(.int r83)])) tg := by
                intro tg kt
                show Steps p.tables e below (T83.setTop (mkF m 42 #[.val (.int p1)] [(.int r83)])) tg
                refine XS.ifNo X83.here hx rfl (hb hby d1_42) rfl (XT.i0_lt_f hc42_84) ?_
                show Steps p.tables e below (T83.setTop (mkF m 45 #[.val (.int p1)] [])) tg
                refine XS.iconst X83.here hx rfl (hb hby d1_45) ?_
                show Steps p.tables e below (T83.setTop (mkF m 46 #[.val (.int p1)] [(.int (1 : Int32))])) tg
                refine XS.goto X83.here hx rfl (pc0 := 46) (pc' := 50) rfl (hb hby d1_46) (by decide) (by decide) ?_
                exact kt
              obtain ⟨fs, hr, hrun, hended, hRW⟩ := Stand.leaveW (s := s) X83 hS80 (by rw [e83]; exact hk80) (v := some (.int (1 : Int32))) (fun h => by rw [Bd.returns] at h; cases h)
              refine ⟨_, _, pre0 _ ?_, hrun, hended, _, _, rfl, ?_, (by rw [hh, show (T83.setFrames fs).heap = h80 from e83]; exact (show CHr Z EL s.vm h0 T83.vm h80 from CR80.trans (CHv.at (s := s) (vm0 := T80.vm) (T := T83) X83 hZ80 hEL CR80.1))), hRW.1, hRW.2.1, hRW.2.2.1, hRW.2.2.2.mono (by decide) (by decide)⟩
              · refine st2 _ ?_
                refine st51 _ ?_
                refine st53 _ ?_
                refine st76 _ ?_
                refine st78 _ ?_
                refine st79 _ ?_
                show Steps p.tables e below (s₁.setTop (mkF m 36 #[.val (.int p1)] [])) _
                refine st80 _ ?_
                refine st82 _ ?_
                show Steps p.tables e below (T80.setTop (mkF m 39 #[.val (.int p1)] [(.int p1), (.ref b80)])) _
                refine st83.trans ?_
                refine st86 _ ?_
                show Steps p.tables e below (T83.setTop (mkF m 50 #[.val (.int p1)] [(.int (1 : Int32))])) _
                exact retN X83 hx (t := .boolean) Bd.returns (by simp) (hb hby d1_50) hr
              · show Q1 Z p1 wc h0 n0 _ T83.heap _
                rw [e83]
                refine ⟨?_, N83, K80⟩
                have z65 : (65 : Int32).toInt = 65 := by decide
                have z90 : (90 : Int32).toInt = 90 := by decide
                have z97 : (97 : Int32).toInt = 97 := by decide
                have z122 : (122 : Int32).toInt = 122 := by decide
                have z48 : (48 : Int32).toInt = 48 := by decide
                have z57 : (57 : Int32).toInt = 57 := by decide
                have z45 : (45 : Int32).toInt = 45 := by decide
                have z46 : (46 : Int32).toInt = 46 := by decide
                have z95 : (95 : Int32).toInt = 95 := by decide
                have z126 : (126 : Int32).toInt = 126 := by decide
                have hix := own_ix b80 p1 wc t80 kk80
                rw [← hr83] at hix
                have hfin := Classical.byContradiction (fun q => hc42_84 (hix.mpr q))
                have key : un p1 = 1 := by
                  simp only [un, Int32.le_iff_toInt_le, ← Int32.toInt_inj, Int32.lt_iff_toInt_lt, z65, z90, z97, z122, z48, z57, z45, z46, z95, z126] at hc3_1 hc9_50 hc15_52 hc21_75 hc27_77 hfin ⊢
                  first | (exfalso; omega) | (rw [if_pos (by omega)]) | (rw [if_neg (by omega)])
                rw [key]
          · -- pc 27: not p1 < (48 : Int32)
            have st88 : ∀ tg, Steps p.tables e below (s₁.setTop (mkF m 33 #[.val (.int p1)] [(.int (57 : Int32)), (.int p1)])) tg → Steps p.tables e below (s₁.setTop (mkF m 27 #[.val (.int p1)] [(.int (48 : Int32)), (.int p1)])) tg := by
              intro tg kt
              show Steps p.tables e below (s₁.setTop (mkF m 27 #[.val (.int p1)] [(.int (48 : Int32)), (.int p1)])) tg
              refine XS.icmpNo X0.here hx rfl (hb hby d1_27) rfl (XT.ii_lt_f hc27_77) ?_
              show Steps p.tables e below (s₁.setTop (mkF m 30 #[.val (.int p1)] [])) tg
              refine XS.iloadN X0.here hx rfl (hb hby d1_30) rfl ?_
              show Steps p.tables e below (s₁.setTop (mkF m 31 #[.val (.int p1)] [(.int p1)])) tg
              refine XS.bipush X0.here hx rfl (hb hby d1_31) ?_
              exact kt
            by_cases hc33_87 : (57 : Int32) < p1
            · -- pc 33: (57 : Int32) < p1
              have st89 : ∀ tg, Steps p.tables e below (s₁.setTop (mkF m 36 #[.val (.int p1)] [])) tg → Steps p.tables e below (s₁.setTop (mkF m 33 #[.val (.int p1)] [(.int (57 : Int32)), (.int p1)])) tg := by
                intro tg kt
                show Steps p.tables e below (s₁.setTop (mkF m 33 #[.val (.int p1)] [(.int (57 : Int32)), (.int p1)])) tg
                refine XS.icmpNo X0.here hx rfl (hb hby d1_33) rfl (XT.ii_le_f hc33_87) ?_
                exact kt
              obtain ⟨b90, T90, h90, k90, t90, kk90, X90, e90, E90, hS90, hk90, hZ90, hown90, GE90, GC90, GV90, GA90, lb90, lt90, CR90, -, hne90, st90⟩ := ldcCH (s := s) (vm0 := s.vm) (show Stand p l e _ (s.setVm s.vm) m _ below meth c s₁ _ _ _ from X0) hx hZ hown (hw _ (List.mem_of_getElem? (i := 5) rfl)) (own_wS hw) e0 ((State.WarmedH.refl s).since 0) (Nat.zero_le _) hEL (by decide +kernel) hCH (vs := [(.int (45 : Int32)), (.int (46 : Int32)), (.int (95 : Int32)), (.int (126 : Int32))]) (z := (4 : Int32)) ⟨by decide +kernel, by first | rfl | decide +kernel⟩ (by decide) (by decide) (g := (mkF m 36 #[.val (.int p1)] [])) rfl (hb hby d1_36) (n := 16) (by decide +kernel) (by decide) (by decide) (by decide)
              have G91 : Old Z n0 h90 := OLD.ext E90
              have K90 : Keep h0 h90 [] := K0.ext E90
              have Z90 : n0 ≤ h90.size := Nat.le_trans Z0 E90.1
              have st92 : ∀ tg, Steps p.tables e below (T90.setTop (mkF m 39 #[.val (.int p1)] [(.int p1), (.ref b90)])) tg → Steps p.tables e below (T90.setTop (mkF m 38 #[.val (.int p1)] [(.ref b90)])) tg := by
                intro tg kt
                show Steps p.tables e below (T90.setTop (mkF m 38 #[.val (.int p1)] [(.ref b90)])) tg
                refine XS.iloadN X90.here hx rfl (hb hby d1_38) rfl ?_
                exact kt
              obtain ⟨cq93, kq93, q93a, q93b, q93c⟩ := isOf hZ90 e90 GE90
              obtain ⟨_, _, ⟨T93, L93, k93, n93⟩, -, X93, ⟨Lc93, hQ93, l93, y93, z93⟩, st93⟩ := X90.virtualBack hx (y := (⟨"java/lang/String", "indexOf", "(I)I"⟩ : MethodName)) (z := (⟨"java/lang/String", "indexOf", "(I)I"⟩ : MethodName)) hown90 (mvT hZ90 (hw _ (List.mem_of_getElem? (i := 13) rfl))) (mvT hZ90 (hw _ (List.mem_of_getElem? (i := 14) rfl))) (notFace_of_selects (args := #[]) (mvT hZ90 (hw _ (List.mem_of_getElem? (i := 16) rfl)))) (mvT hZ90 (hw _ (List.mem_of_getElem? (i := 16) rfl))) (mvT hZ90 (hw _ (List.mem_of_getElem? (i := 15) rfl))) (by decide) (backOf (W := 0) (rm2 l Z a0 hw [] b90 p1 wc t90 kk90 h90 n0 Z90 G91 S_c hwc GE90 GC90 GV90 GA90) hZ90 (hw _ (List.mem_of_getElem? (i := 17) rfl)) (hw _ (List.mem_of_getElem? (i := 6) rfl)) (by decide) (by decide)) q93a q93c (g := (mkF m 39 #[.val (.int p1)] [(.int p1), (.ref b90)])) rfl (by rw [hml]; rfl) (Steps.refl _) (argsL := [(.int p1)]) (rest := []) (lenOf pd_6 rfl) rfl (by show 2 * 0 + _ ≤ _; exact Nat.le_of_eq rfl) (hb hby d1_39) (fun _ _ => ⟨rfl, e90, (by decide : 2 + 0 ≤ _), (by decide : 20 + 0 ≤ _)⟩)
              dsimp only [Pt.U, Pt.locs, Pt.cells, Pt.slots] at X93 l93 y93 z93 st93 hQ93
              subst l93 y93 z93
              obtain ⟨rfl, N93q, e93⟩ := hQ93
              have N93 := Fr.app N0 N93q
              obtain ⟨r93, hr93⟩ : ∃ z, z = rv2 b90 p1 wc t90 kk90 := ⟨_, rfl⟩
              rw [← hr93] at st93
              by_cases hc42_94 : r93 < 0
              · -- pc 42: r93 < 0
                have st95 : ∀ tg, Steps p.tables e below (T93.setTop (mkF m 50 #[.val (.int p1)] [(.int (0 : Int32))])) tg → Steps p.tables e below (T93.setTop (mkF m 42 #[.val (.int p1)] [(.int r93)])) tg := by
                  intro tg kt
                  show Steps p.tables e below (T93.setTop (mkF m 42 #[.val (.int p1)] [(.int r93)])) tg
                  refine XS.ifYes X93.here hx rfl (pc0 := 42) (pc' := 49) rfl (hb hby d1_42) rfl (XT.i0_lt_t hc42_94) (by decide) (by decide) ?_
                  show Steps p.tables e below (T93.setTop (mkF m 49 #[.val (.int p1)] [])) tg
                  refine XS.iconst X93.here hx rfl (hb hby d1_49) ?_
                  exact kt
                obtain ⟨fs, hr, hrun, hended, hRW⟩ := Stand.leaveW (s := s) X93 hS90 (by rw [e93]; exact hk90) (v := some (.int (0 : Int32))) (fun h => by rw [Bd.returns] at h; cases h)
                refine ⟨_, _, pre0 _ ?_, hrun, hended, _, _, rfl, ?_, (by rw [hh, show (T93.setFrames fs).heap = h90 from e93]; exact (show CHr Z EL s.vm h0 T93.vm h90 from CR90.trans (CHv.at (s := s) (vm0 := T90.vm) (T := T93) X93 hZ90 hEL CR90.1))), hRW.1, hRW.2.1, hRW.2.2.1, hRW.2.2.2.mono (by decide) (by decide)⟩
                · refine st2 _ ?_
                  refine st51 _ ?_
                  refine st53 _ ?_
                  refine st76 _ ?_
                  refine st78 _ ?_
                  refine st88 _ ?_
                  refine st89 _ ?_
                  show Steps p.tables e below (s₁.setTop (mkF m 36 #[.val (.int p1)] [])) _
                  refine st90 _ ?_
                  refine st92 _ ?_
                  show Steps p.tables e below (T90.setTop (mkF m 39 #[.val (.int p1)] [(.int p1), (.ref b90)])) _
                  refine st93.trans ?_
                  refine st95 _ ?_
                  show Steps p.tables e below (T93.setTop (mkF m 50 #[.val (.int p1)] [(.int (0 : Int32))])) _
                  exact retN X93 hx (t := .boolean) Bd.returns (by simp) (hb hby d1_50) hr
                · show Q1 Z p1 wc h0 n0 _ T93.heap _
                  rw [e93]
                  refine ⟨?_, N93, K90⟩
                  have z65 : (65 : Int32).toInt = 65 := by decide
                  have z90 : (90 : Int32).toInt = 90 := by decide
                  have z97 : (97 : Int32).toInt = 97 := by decide
                  have z122 : (122 : Int32).toInt = 122 := by decide
                  have z48 : (48 : Int32).toInt = 48 := by decide
                  have z57 : (57 : Int32).toInt = 57 := by decide
                  have z45 : (45 : Int32).toInt = 45 := by decide
                  have z46 : (46 : Int32).toInt = 46 := by decide
                  have z95 : (95 : Int32).toInt = 95 := by decide
                  have z126 : (126 : Int32).toInt = 126 := by decide
                  have hix := own_ix b90 p1 wc t90 kk90
                  rw [← hr93] at hix
                  have hfin := hix.mp hc42_94
                  have key : un p1 = 0 := by
                    simp only [un, Int32.le_iff_toInt_le, ← Int32.toInt_inj, Int32.lt_iff_toInt_lt, z65, z90, z97, z122, z48, z57, z45, z46, z95, z126] at hc3_1 hc9_50 hc15_52 hc21_75 hc27_77 hc33_87 hfin ⊢
                    first | (exfalso; omega) | (rw [if_pos (by omega)]) | (rw [if_neg (by omega)])
                  rw [key]
              · -- pc 42: not r93 < 0
                have st96 : ∀ tg, Steps p.tables e below (T93.setTop (mkF m 50 #[.val (.int p1)] [(.int (1 : Int32))])) tg → Steps p.tables e below (T93.setTop (mkF m 42 #[.val (.int p1)] [(.int r93)])) tg := by
                  intro tg kt
                  show Steps p.tables e below (T93.setTop (mkF m 42 #[.val (.int p1)] [(.int r93)])) tg
                  refine XS.ifNo X93.here hx rfl (hb hby d1_42) rfl (XT.i0_lt_f hc42_94) ?_
                  show Steps p.tables e below (T93.setTop (mkF m 45 #[.val (.int p1)] [])) tg
                  refine XS.iconst X93.here hx rfl (hb hby d1_45) ?_
                  show Steps p.tables e below (T93.setTop (mkF m 46 #[.val (.int p1)] [(.int (1 : Int32))])) tg
                  refine XS.goto X93.here hx rfl (pc0 := 46) (pc' := 50) rfl (hb hby d1_46) (by decide) (by decide) ?_
                  exact kt
                obtain ⟨fs, hr, hrun, hended, hRW⟩ := Stand.leaveW (s := s) X93 hS90 (by rw [e93]; exact hk90) (v := some (.int (1 : Int32))) (fun h => by rw [Bd.returns] at h; cases h)
                refine ⟨_, _, pre0 _ ?_, hrun, hended, _, _, rfl, ?_, (by rw [hh, show (T93.setFrames fs).heap = h90 from e93]; exact (show CHr Z EL s.vm h0 T93.vm h90 from CR90.trans (CHv.at (s := s) (vm0 := T90.vm) (T := T93) X93 hZ90 hEL CR90.1))), hRW.1, hRW.2.1, hRW.2.2.1, hRW.2.2.2.mono (by decide) (by decide)⟩
                · refine st2 _ ?_
                  refine st51 _ ?_
                  refine st53 _ ?_
                  refine st76 _ ?_
                  refine st78 _ ?_
                  refine st88 _ ?_
                  refine st89 _ ?_
                  show Steps p.tables e below (s₁.setTop (mkF m 36 #[.val (.int p1)] [])) _
                  refine st90 _ ?_
                  refine st92 _ ?_
                  show Steps p.tables e below (T90.setTop (mkF m 39 #[.val (.int p1)] [(.int p1), (.ref b90)])) _
                  refine st93.trans ?_
                  refine st96 _ ?_
                  show Steps p.tables e below (T93.setTop (mkF m 50 #[.val (.int p1)] [(.int (1 : Int32))])) _
                  exact retN X93 hx (t := .boolean) Bd.returns (by simp) (hb hby d1_50) hr
                · show Q1 Z p1 wc h0 n0 _ T93.heap _
                  rw [e93]
                  refine ⟨?_, N93, K90⟩
                  have z65 : (65 : Int32).toInt = 65 := by decide
                  have z90 : (90 : Int32).toInt = 90 := by decide
                  have z97 : (97 : Int32).toInt = 97 := by decide
                  have z122 : (122 : Int32).toInt = 122 := by decide
                  have z48 : (48 : Int32).toInt = 48 := by decide
                  have z57 : (57 : Int32).toInt = 57 := by decide
                  have z45 : (45 : Int32).toInt = 45 := by decide
                  have z46 : (46 : Int32).toInt = 46 := by decide
                  have z95 : (95 : Int32).toInt = 95 := by decide
                  have z126 : (126 : Int32).toInt = 126 := by decide
                  have hix := own_ix b90 p1 wc t90 kk90
                  rw [← hr93] at hix
                  have hfin := Classical.byContradiction (fun q => hc42_94 (hix.mpr q))
                  have key : un p1 = 1 := by
                    simp only [un, Int32.le_iff_toInt_le, ← Int32.toInt_inj, Int32.lt_iff_toInt_lt, z65, z90, z97, z122, z48, z57, z45, z46, z95, z126] at hc3_1 hc9_50 hc15_52 hc21_75 hc27_77 hc33_87 hfin ⊢
                    first | (exfalso; omega) | (rw [if_pos (by omega)]) | (rw [if_neg (by omega)])
                  rw [key]
            · -- pc 33: not (57 : Int32) < p1
              have st97 : ∀ tg, Steps p.tables e below (s₁.setTop (mkF m 50 #[.val (.int p1)] [(.int (1 : Int32))])) tg → Steps p.tables e below (s₁.setTop (mkF m 33 #[.val (.int p1)] [(.int (57 : Int32)), (.int p1)])) tg := by
                intro tg kt
                show Steps p.tables e below (s₁.setTop (mkF m 33 #[.val (.int p1)] [(.int (57 : Int32)), (.int p1)])) tg
                refine XS.icmpYes X0.here hx rfl (pc0 := 33) (pc' := 45) rfl (hb hby d1_33) rfl (XT.ii_le_t hc33_87) (by decide) (by decide) ?_
                show Steps p.tables e below (s₁.setTop (mkF m 45 #[.val (.int p1)] [])) tg
                refine XS.iconst X0.here hx rfl (hb hby d1_45) ?_
                show Steps p.tables e below (s₁.setTop (mkF m 46 #[.val (.int p1)] [(.int (1 : Int32))])) tg
                refine XS.goto X0.here hx rfl (pc0 := 46) (pc' := 50) rfl (hb hby d1_46) (by decide) (by decide) ?_
                exact kt
              obtain ⟨fs, hr, hrun, hended, hW, hsame⟩ := X0.leave (v := some (.int (1 : Int32))) (fun h => by rw [Bd.returns] at h; cases h)
              have hRW := ReturnedEndW.of_narrow (o := .returned (some (.int (1 : Int32)))) ⟨_, rfl⟩ hW hsame
              refine ⟨_, _, pre0 _ ?_, hrun, hended, _, _, rfl, ?_, (by rw [hh, show (s₁.setFrames fs).heap = h0 from e0]; exact (show CHr Z EL s.vm h0 s₁.vm h0 from CHv.at (s := s) (vm0 := s.vm) (T := s₁) (show Stand p l e _ (s.setVm s.vm) m _ below meth c s₁ _ _ _ from X0) hZ hEL hCH)), hRW.1, hRW.2.1, hRW.2.2.1, hRW.2.2.2.mono (by decide) (by decide)⟩
              · refine st2 _ ?_
                refine st51 _ ?_
                refine st53 _ ?_
                refine st76 _ ?_
                refine st78 _ ?_
                refine st88 _ ?_
                refine st97 _ ?_
                show Steps p.tables e below (s₁.setTop (mkF m 50 #[.val (.int p1)] [(.int (1 : Int32))])) _
                exact retN X0 hx (t := .boolean) Bd.returns (by simp) (hb hby d1_50) hr
              · show Q1 Z p1 wc h0 n0 _ s₁.heap _
                rw [e0]
                refine ⟨?_, N0, K0⟩
                have z65 : (65 : Int32).toInt = 65 := by decide
                have z90 : (90 : Int32).toInt = 90 := by decide
                have z97 : (97 : Int32).toInt = 97 := by decide
                have z122 : (122 : Int32).toInt = 122 := by decide
                have z48 : (48 : Int32).toInt = 48 := by decide
                have z57 : (57 : Int32).toInt = 57 := by decide
                have z45 : (45 : Int32).toInt = 45 := by decide
                have z46 : (46 : Int32).toInt = 46 := by decide
                have z95 : (95 : Int32).toInt = 95 := by decide
                have z126 : (126 : Int32).toInt = 126 := by decide
                have key : un p1 = 1 := by
                  simp only [un, Int32.le_iff_toInt_le, ← Int32.toInt_inj, Int32.lt_iff_toInt_lt, z65, z90, z97, z122, z48, z57, z45, z46, z95, z126] at hc3_1 hc9_50 hc15_52 hc21_75 hc27_77 hc33_87 ⊢
                  first | (exfalso; omega) | (rw [if_pos (by omega)]) | (rw [if_neg (by omega)])
                rw [key]
        · -- pc 21: not (122 : Int32) < p1
          have st98 : ∀ tg, Steps p.tables e below (s₁.setTop (mkF m 50 #[.val (.int p1)] [(.int (1 : Int32))])) tg → Steps p.tables e below (s₁.setTop (mkF m 21 #[.val (.int p1)] [(.int (122 : Int32)), (.int p1)])) tg := by
            intro tg kt
            show Steps p.tables e below (s₁.setTop (mkF m 21 #[.val (.int p1)] [(.int (122 : Int32)), (.int p1)])) tg
            refine XS.icmpYes X0.here hx rfl (pc0 := 21) (pc' := 45) rfl (hb hby d1_21) rfl (XT.ii_le_t hc21_75) (by decide) (by decide) ?_
            show Steps p.tables e below (s₁.setTop (mkF m 45 #[.val (.int p1)] [])) tg
            refine XS.iconst X0.here hx rfl (hb hby d1_45) ?_
            show Steps p.tables e below (s₁.setTop (mkF m 46 #[.val (.int p1)] [(.int (1 : Int32))])) tg
            refine XS.goto X0.here hx rfl (pc0 := 46) (pc' := 50) rfl (hb hby d1_46) (by decide) (by decide) ?_
            exact kt
          obtain ⟨fs, hr, hrun, hended, hW, hsame⟩ := X0.leave (v := some (.int (1 : Int32))) (fun h => by rw [Bd.returns] at h; cases h)
          have hRW := ReturnedEndW.of_narrow (o := .returned (some (.int (1 : Int32)))) ⟨_, rfl⟩ hW hsame
          refine ⟨_, _, pre0 _ ?_, hrun, hended, _, _, rfl, ?_, (by rw [hh, show (s₁.setFrames fs).heap = h0 from e0]; exact (show CHr Z EL s.vm h0 s₁.vm h0 from CHv.at (s := s) (vm0 := s.vm) (T := s₁) (show Stand p l e _ (s.setVm s.vm) m _ below meth c s₁ _ _ _ from X0) hZ hEL hCH)), hRW.1, hRW.2.1, hRW.2.2.1, hRW.2.2.2.mono (by decide) (by decide)⟩
          · refine st2 _ ?_
            refine st51 _ ?_
            refine st53 _ ?_
            refine st76 _ ?_
            refine st98 _ ?_
            show Steps p.tables e below (s₁.setTop (mkF m 50 #[.val (.int p1)] [(.int (1 : Int32))])) _
            exact retN X0 hx (t := .boolean) Bd.returns (by simp) (hb hby d1_50) hr
          · show Q1 Z p1 wc h0 n0 _ s₁.heap _
            rw [e0]
            refine ⟨?_, N0, K0⟩
            have z65 : (65 : Int32).toInt = 65 := by decide
            have z90 : (90 : Int32).toInt = 90 := by decide
            have z97 : (97 : Int32).toInt = 97 := by decide
            have z122 : (122 : Int32).toInt = 122 := by decide
            have z48 : (48 : Int32).toInt = 48 := by decide
            have z57 : (57 : Int32).toInt = 57 := by decide
            have z45 : (45 : Int32).toInt = 45 := by decide
            have z46 : (46 : Int32).toInt = 46 := by decide
            have z95 : (95 : Int32).toInt = 95 := by decide
            have z126 : (126 : Int32).toInt = 126 := by decide
            have key : un p1 = 1 := by
              simp only [un, Int32.le_iff_toInt_le, ← Int32.toInt_inj, Int32.lt_iff_toInt_lt, z65, z90, z97, z122, z48, z57, z45, z46, z95, z126] at hc3_1 hc9_50 hc15_52 hc21_75 ⊢
              first | (exfalso; omega) | (rw [if_pos (by omega)]) | (rw [if_neg (by omega)])
            rw [key]
    · -- pc 9: not (90 : Int32) < p1
      have st99 : ∀ tg, Steps p.tables e below (s₁.setTop (mkF m 50 #[.val (.int p1)] [(.int (1 : Int32))])) tg → Steps p.tables e below (s₁.setTop (mkF m 9 #[.val (.int p1)] [(.int (90 : Int32)), (.int p1)])) tg := by
        intro tg kt
        show Steps p.tables e below (s₁.setTop (mkF m 9 #[.val (.int p1)] [(.int (90 : Int32)), (.int p1)])) tg
        refine XS.icmpYes X0.here hx rfl (pc0 := 9) (pc' := 45) rfl (hb hby d1_9) rfl (XT.ii_le_t hc9_50) (by decide) (by decide) ?_
        show Steps p.tables e below (s₁.setTop (mkF m 45 #[.val (.int p1)] [])) tg
        refine XS.iconst X0.here hx rfl (hb hby d1_45) ?_
        show Steps p.tables e below (s₁.setTop (mkF m 46 #[.val (.int p1)] [(.int (1 : Int32))])) tg
        refine XS.goto X0.here hx rfl (pc0 := 46) (pc' := 50) rfl (hb hby d1_46) (by decide) (by decide) ?_
        exact kt
      obtain ⟨fs, hr, hrun, hended, hW, hsame⟩ := X0.leave (v := some (.int (1 : Int32))) (fun h => by rw [Bd.returns] at h; cases h)
      have hRW := ReturnedEndW.of_narrow (o := .returned (some (.int (1 : Int32)))) ⟨_, rfl⟩ hW hsame
      refine ⟨_, _, pre0 _ ?_, hrun, hended, _, _, rfl, ?_, (by rw [hh, show (s₁.setFrames fs).heap = h0 from e0]; exact (show CHr Z EL s.vm h0 s₁.vm h0 from CHv.at (s := s) (vm0 := s.vm) (T := s₁) (show Stand p l e _ (s.setVm s.vm) m _ below meth c s₁ _ _ _ from X0) hZ hEL hCH)), hRW.1, hRW.2.1, hRW.2.2.1, hRW.2.2.2.mono (by decide) (by decide)⟩
      · refine st2 _ ?_
        refine st51 _ ?_
        refine st99 _ ?_
        show Steps p.tables e below (s₁.setTop (mkF m 50 #[.val (.int p1)] [(.int (1 : Int32))])) _
        exact retN X0 hx (t := .boolean) Bd.returns (by simp) (hb hby d1_50) hr
      · show Q1 Z p1 wc h0 n0 _ s₁.heap _
        rw [e0]
        refine ⟨?_, N0, K0⟩
        have z65 : (65 : Int32).toInt = 65 := by decide
        have z90 : (90 : Int32).toInt = 90 := by decide
        have z97 : (97 : Int32).toInt = 97 := by decide
        have z122 : (122 : Int32).toInt = 122 := by decide
        have z48 : (48 : Int32).toInt = 48 := by decide
        have z57 : (57 : Int32).toInt = 57 := by decide
        have z45 : (45 : Int32).toInt = 45 := by decide
        have z46 : (46 : Int32).toInt = 46 := by decide
        have z95 : (95 : Int32).toInt = 95 := by decide
        have z126 : (126 : Int32).toInt = 126 := by decide
        have key : un p1 = 1 := by
          simp only [un, Int32.le_iff_toInt_le, ← Int32.toInt_inj, Int32.lt_iff_toInt_lt, z65, z90, z97, z122, z48, z57, z45, z46, z95, z126] at hc3_1 hc9_50 ⊢
          first | (exfalso; omega) | (rw [if_pos (by omega)]) | (rw [if_neg (by omega)])
        rw [key]
set_option maxHeartbeats 4000000 in
theorem own_law (c : Int32) : un c = rv12 c := by
  have z45 : (45 : Int32).toInt = 45 := by decide
  have z46 : (46 : Int32).toInt = 46 := by decide
  have z47 : (47 : Int32).toInt = 47 := by decide
  have z48 : (48 : Int32).toInt = 48 := by decide
  have z57 : (57 : Int32).toInt = 57 := by decide
  have z65 : (65 : Int32).toInt = 65 := by decide
  have z90 : (90 : Int32).toInt = 90 := by decide
  have z95 : (95 : Int32).toInt = 95 := by decide
  have z97 : (97 : Int32).toInt = 97 := by decide
  have z122 : (122 : Int32).toInt = 122 := by decide
  have z126 : (126 : Int32).toInt = 126 := by decide
  simp only [un, rv12, Int32.le_iff_toInt_le, ← Int32.toInt_inj, Int32.lt_iff_toInt_lt, z45, z46, z47, z48, z57, z65, z90, z95, z97, z122, z126]
  repeat' split
  all_goals first | rfl | (exfalso; omega)
theorem own_nz {args : Array Value} {s : State} {t : Term} {x : Int32} (ev : t.eval args s none [] s = some (.int x)) (h : (Cond.not (.eq t (.int 0))).value args s none s [] = some true) : ¬ (x = 0) := by
  intro q
  have := not_v h
  simp [Cond.value, ev, Term.int_eval, q] at this
theorem pn_0 : plainName "com/example/grantline/grantline/PercentEncodingIsUnreservedPinLaw" = true := by first | (simp [plainName, overriddenIn]; done) | decide +kernel
theorem ef_0 (m : MethodId) (p1 : Int32) (p2 : Int32) : entryFrame m #[(.int p1), (.int p2)] maxLocals = mkF m 0 #[.val (.int p1), .val (.int p2), .unset, .unset] [] := by first | (simp [entryFrame, mkF, argsToLocals, Value.category, maxLocals]; done) | rfl
def Q0 (Z : State) (p1 : Int32) (p2 : Int32) (wc : Int32) (h0 : Heap) (n0 : Nat) (v : Option Value) (h : Heap) (L : List Loc) : Prop := v = some (.int (1 : Int32)) ∧ Fr n0 L
set_option maxRecDepth 65536 in
set_option maxHeartbeats 40000000 in
theorem rm0 (l : Launch) (Z : State) (a0 : Array Value) (hw : ∀ d ∈ tables_1, d.before a0 Z = true) (ws : List Jvm.Cond) (p1 : Int32) (p2 : Int32) (wc : Int32) (h0 : Heap) (n0 : Nat) (Z0 : n0 ≤ h0.size) (OLD : Old Z n0 h0) (S_c : Sta Z Z.heap "java/lang/String" "COMPACT_STRINGS" "Z" (.int wc)) (hwc : ¬ wc = 0) (hEL : EW Z a0 EL) :
    MetFree l x (head1 (Jvm.Cond.code x code maxLocals ret :: ws) room_1) (fun a U => a = #[(.int p1), (.int p2)] ∧ Z.Warmed39 U.vm ∧ U.heap = h0 ∧ CHv Z EL U.vm h0) (fun _ _ _ _ _ => True) (fun _ U oo U' => ∃ v L, oo = .returned v ∧ Q0 Z p1 p2 wc h0 n0 v U'.heap L ∧ ReturnedEndW U oo U' L room_1.cells room_1.slots) := by
  refine MetFree.of_bodySF (plainFor_of_name pn_0) hisR ?_
  intro p e s m args below meth c s₁ Bd hml0 hP hK
  obtain ⟨rfl, hZ, hh, hCH⟩ := hP
  have hx := Bd.exec
  have hby := Bd.bytes
  have hml : c.maxLocals = 4 := hml0
  have hown : s.vm.findClass "com/example/grantline/grantline/PercentEncodingIsUnreservedPinLaw" = some m.cls := findClass_of_methodNamed Bd.named
  have hnm := (name_of_methodNamed Bd.named Bd.method).1
  have X0 : Stand p l e room_1 s m #[(.int p1), (.int p2)] below meth c s₁ [] 0 0 := Stand.of_body Bd
  have e0 : s₁.heap = h0 := by rw [← hh, Bd.state]; rfl
  have N0 := Fr.nil n0
  have K0 : Keep h0 h0 [] := Keep.refl _ _
  have pre0 : ∀ tg, Steps p.tables e below (s₁.setTop (mkF m 0 #[.val (.int p1), .val (.int p2), .unset, .unset] [])) tg → Steps p.tables e below (s₁.setTop (entryFrame m #[(.int p1), (.int p2)] maxLocals)) tg := fun tg k => castTop (ef_0 m p1 p2) k
  have st2 : ∀ tg, Steps p.tables e below (s₁.setTop (mkF m 5 #[.val (.int p1), .val (.int p2), .val (.int (p2 &&& (3 : Int32))), .unset] [(.int (p2 &&& (3 : Int32)))])) tg → Steps p.tables e below (s₁.setTop (mkF m 0 #[.val (.int p1), .val (.int p2), .unset, .unset] [])) tg := by
    intro tg kt
    show Steps p.tables e below (s₁.setTop (mkF m 0 #[.val (.int p1), .val (.int p2), .unset, .unset] [])) tg
    refine XS.iloadN X0.here hx rfl (hb hby at_0) rfl ?_
    show Steps p.tables e below (s₁.setTop (mkF m 1 #[.val (.int p1), .val (.int p2), .unset, .unset] [(.int p2)])) tg
    refine XS.iconst X0.here hx rfl (hb hby at_1) ?_
    show Steps p.tables e below (s₁.setTop (mkF m 2 #[.val (.int p1), .val (.int p2), .unset, .unset] [(.int (3 : Int32)), (.int p2)])) tg
    refine XS.iand X0.here hx rfl (hb hby at_2) rfl ?_
    show Steps p.tables e below (s₁.setTop (mkF m 3 #[.val (.int p1), .val (.int p2), .unset, .unset] [(.int (p2 &&& (3 : Int32)))])) tg
    refine XS.istoreN X0.here hx rfl (hb hby at_3) rfl (l' := #[.val (.int p1), .val (.int p2), .val (.int (p2 &&& (3 : Int32))), .unset]) rfl ?_
    show Steps p.tables e below (s₁.setTop (mkF m 4 #[.val (.int p1), .val (.int p2), .val (.int (p2 &&& (3 : Int32))), .unset] [])) tg
    refine XS.iloadN X0.here hx rfl (hb hby at_4) rfl ?_
    exact kt
  obtain ⟨v7, hv7⟩ : ∃ z, z = if (p2 &&& (3 : Int32)) = (2 : Int32) then ((p1 &&& (255 : Int32)) ||| (p2 &&& (-65536 : Int32))) else (p1 &&& (65535 : Int32)) := ⟨_, rfl⟩
  obtain ⟨v9, hv9⟩ : ∃ z, z = if (p2 &&& (3 : Int32)) = (1 : Int32) then (p1 &&& (255 : Int32)) else v7 := ⟨_, rfl⟩
  obtain ⟨v11, hv11⟩ : ∃ z, z = if (p2 &&& (3 : Int32)) = 0 then p1 else v9 := ⟨_, rfl⟩
  have st12 : ∀ tg, Steps p.tables e below (s₁.setTop (mkF m 51 #[.val (.int p1), .val (.int p2), .val (.int (p2 &&& (3 : Int32))), .val (.int v11)] [])) tg → Steps p.tables e below (s₁.setTop (mkF m 5 #[.val (.int p1), .val (.int p2), .val (.int (p2 &&& (3 : Int32))), .unset] [(.int (p2 &&& (3 : Int32)))])) tg := by
    intro tg kt
    by_cases hc5_1 : (p2 &&& (3 : Int32)) = 0
    · have qv11 : v11 = p1 := hv11.trans (if_pos hc5_1)
      rw [qv11] at kt
      show Steps p.tables e below (s₁.setTop (mkF m 5 #[.val (.int p1), .val (.int p2), .val (.int (p2 &&& (3 : Int32))), .unset] [(.int (p2 &&& (3 : Int32)))])) tg
      refine XS.ifNo X0.here hx rfl (hb hby at_5) rfl (XT.i0_ne_f hc5_1) ?_
      show Steps p.tables e below (s₁.setTop (mkF m 8 #[.val (.int p1), .val (.int p2), .val (.int (p2 &&& (3 : Int32))), .unset] [])) tg
      refine XS.iloadN X0.here hx rfl (hb hby at_8) rfl ?_
      show Steps p.tables e below (s₁.setTop (mkF m 9 #[.val (.int p1), .val (.int p2), .val (.int (p2 &&& (3 : Int32))), .unset] [(.int p1)])) tg
      refine XS.istoreN X0.here hx rfl (hb hby at_9) rfl (l' := #[.val (.int p1), .val (.int p2), .val (.int (p2 &&& (3 : Int32))), .val (.int p1)]) rfl ?_
      show Steps p.tables e below (s₁.setTop (mkF m 10 #[.val (.int p1), .val (.int p2), .val (.int (p2 &&& (3 : Int32))), .val (.int p1)] [])) tg
      refine XS.goto X0.here hx rfl (pc0 := 10) (pc' := 51) rfl (hb hby at_10) (by decide) (by decide) ?_
      exact kt
    · have qv11 : v11 = v9 := hv11.trans (if_neg hc5_1)
      rw [qv11] at kt
      have st4 : ∀ tg, Steps p.tables e below (s₁.setTop (mkF m 15 #[.val (.int p1), .val (.int p2), .val (.int (p2 &&& (3 : Int32))), .unset] [(.int (1 : Int32)), (.int (p2 &&& (3 : Int32)))])) tg → Steps p.tables e below (s₁.setTop (mkF m 5 #[.val (.int p1), .val (.int p2), .val (.int (p2 &&& (3 : Int32))), .unset] [(.int (p2 &&& (3 : Int32)))])) tg := by
        intro tg kt
        show Steps p.tables e below (s₁.setTop (mkF m 5 #[.val (.int p1), .val (.int p2), .val (.int (p2 &&& (3 : Int32))), .unset] [(.int (p2 &&& (3 : Int32)))])) tg
        refine XS.ifYes X0.here hx rfl (pc0 := 5) (pc' := 13) rfl (hb hby at_5) rfl (XT.i0_ne_t hc5_1) (by decide) (by decide) ?_
        show Steps p.tables e below (s₁.setTop (mkF m 13 #[.val (.int p1), .val (.int p2), .val (.int (p2 &&& (3 : Int32))), .unset] [])) tg
        refine XS.iloadN X0.here hx rfl (hb hby at_13) rfl ?_
        show Steps p.tables e below (s₁.setTop (mkF m 14 #[.val (.int p1), .val (.int p2), .val (.int (p2 &&& (3 : Int32))), .unset] [(.int (p2 &&& (3 : Int32)))])) tg
        refine XS.iconst X0.here hx rfl (hb hby at_14) ?_
        exact kt
      have st10 : ∀ tg, Steps p.tables e below (s₁.setTop (mkF m 51 #[.val (.int p1), .val (.int p2), .val (.int (p2 &&& (3 : Int32))), .val (.int v9)] [])) tg → Steps p.tables e below (s₁.setTop (mkF m 15 #[.val (.int p1), .val (.int p2), .val (.int (p2 &&& (3 : Int32))), .unset] [(.int (1 : Int32)), (.int (p2 &&& (3 : Int32)))])) tg := by
        intro tg kt
        by_cases hc15_3 : (p2 &&& (3 : Int32)) = (1 : Int32)
        · have qv9 : v9 = (p1 &&& (255 : Int32)) := hv9.trans (if_pos hc15_3)
          rw [qv9] at kt
          show Steps p.tables e below (s₁.setTop (mkF m 15 #[.val (.int p1), .val (.int p2), .val (.int (p2 &&& (3 : Int32))), .unset] [(.int (1 : Int32)), (.int (p2 &&& (3 : Int32)))])) tg
          refine XS.icmpNo X0.here hx rfl (hb hby at_15) rfl (XT.ii_ne_f hc15_3) ?_
          show Steps p.tables e below (s₁.setTop (mkF m 18 #[.val (.int p1), .val (.int p2), .val (.int (p2 &&& (3 : Int32))), .unset] [])) tg
          refine XS.iloadN X0.here hx rfl (hb hby at_18) rfl ?_
          show Steps p.tables e below (s₁.setTop (mkF m 19 #[.val (.int p1), .val (.int p2), .val (.int (p2 &&& (3 : Int32))), .unset] [(.int p1)])) tg
          refine XS.sipush X0.here hx rfl (hb hby at_19) ?_
          show Steps p.tables e below (s₁.setTop (mkF m 22 #[.val (.int p1), .val (.int p2), .val (.int (p2 &&& (3 : Int32))), .unset] [(.int (255 : Int32)), (.int p1)])) tg
          refine XS.iand X0.here hx rfl (hb hby at_22) rfl ?_
          show Steps p.tables e below (s₁.setTop (mkF m 23 #[.val (.int p1), .val (.int p2), .val (.int (p2 &&& (3 : Int32))), .unset] [(.int (p1 &&& (255 : Int32)))])) tg
          refine XS.istoreN X0.here hx rfl (hb hby at_23) rfl (l' := #[.val (.int p1), .val (.int p2), .val (.int (p2 &&& (3 : Int32))), .val (.int (p1 &&& (255 : Int32)))]) rfl ?_
          show Steps p.tables e below (s₁.setTop (mkF m 24 #[.val (.int p1), .val (.int p2), .val (.int (p2 &&& (3 : Int32))), .val (.int (p1 &&& (255 : Int32)))] [])) tg
          refine XS.goto X0.here hx rfl (pc0 := 24) (pc' := 51) rfl (hb hby at_24) (by decide) (by decide) ?_
          exact kt
        · have qv9 : v9 = v7 := hv9.trans (if_neg hc15_3)
          rw [qv9] at kt
          have st6 : ∀ tg, Steps p.tables e below (s₁.setTop (mkF m 29 #[.val (.int p1), .val (.int p2), .val (.int (p2 &&& (3 : Int32))), .unset] [(.int (2 : Int32)), (.int (p2 &&& (3 : Int32)))])) tg → Steps p.tables e below (s₁.setTop (mkF m 15 #[.val (.int p1), .val (.int p2), .val (.int (p2 &&& (3 : Int32))), .unset] [(.int (1 : Int32)), (.int (p2 &&& (3 : Int32)))])) tg := by
            intro tg kt
            show Steps p.tables e below (s₁.setTop (mkF m 15 #[.val (.int p1), .val (.int p2), .val (.int (p2 &&& (3 : Int32))), .unset] [(.int (1 : Int32)), (.int (p2 &&& (3 : Int32)))])) tg
            refine XS.icmpYes X0.here hx rfl (pc0 := 15) (pc' := 27) rfl (hb hby at_15) rfl (XT.ii_ne_t hc15_3) (by decide) (by decide) ?_
            show Steps p.tables e below (s₁.setTop (mkF m 27 #[.val (.int p1), .val (.int p2), .val (.int (p2 &&& (3 : Int32))), .unset] [])) tg
            refine XS.iloadN X0.here hx rfl (hb hby at_27) rfl ?_
            show Steps p.tables e below (s₁.setTop (mkF m 28 #[.val (.int p1), .val (.int p2), .val (.int (p2 &&& (3 : Int32))), .unset] [(.int (p2 &&& (3 : Int32)))])) tg
            refine XS.iconst X0.here hx rfl (hb hby at_28) ?_
            exact kt
          have st8 : ∀ tg, Steps p.tables e below (s₁.setTop (mkF m 51 #[.val (.int p1), .val (.int p2), .val (.int (p2 &&& (3 : Int32))), .val (.int v7)] [])) tg → Steps p.tables e below (s₁.setTop (mkF m 29 #[.val (.int p1), .val (.int p2), .val (.int (p2 &&& (3 : Int32))), .unset] [(.int (2 : Int32)), (.int (p2 &&& (3 : Int32)))])) tg := by
            intro tg kt
            by_cases hc29_5 : (p2 &&& (3 : Int32)) = (2 : Int32)
            · have qv7 : v7 = ((p1 &&& (255 : Int32)) ||| (p2 &&& (-65536 : Int32))) := hv7.trans (if_pos hc29_5)
              rw [qv7] at kt
              show Steps p.tables e below (s₁.setTop (mkF m 29 #[.val (.int p1), .val (.int p2), .val (.int (p2 &&& (3 : Int32))), .unset] [(.int (2 : Int32)), (.int (p2 &&& (3 : Int32)))])) tg
              refine XS.icmpNo X0.here hx rfl (hb hby at_29) rfl (XT.ii_ne_f hc29_5) ?_
              show Steps p.tables e below (s₁.setTop (mkF m 32 #[.val (.int p1), .val (.int p2), .val (.int (p2 &&& (3 : Int32))), .unset] [])) tg
              refine XS.iloadN X0.here hx rfl (hb hby at_32) rfl ?_
              show Steps p.tables e below (s₁.setTop (mkF m 33 #[.val (.int p1), .val (.int p2), .val (.int (p2 &&& (3 : Int32))), .unset] [(.int p1)])) tg
              refine XS.sipush X0.here hx rfl (hb hby at_33) ?_
              show Steps p.tables e below (s₁.setTop (mkF m 36 #[.val (.int p1), .val (.int p2), .val (.int (p2 &&& (3 : Int32))), .unset] [(.int (255 : Int32)), (.int p1)])) tg
              refine XS.iand X0.here hx rfl (hb hby at_36) rfl ?_
              show Steps p.tables e below (s₁.setTop (mkF m 37 #[.val (.int p1), .val (.int p2), .val (.int (p2 &&& (3 : Int32))), .unset] [(.int (p1 &&& (255 : Int32)))])) tg
              refine XS.iloadN X0.here hx rfl (hb hby at_37) rfl ?_
              show Steps p.tables e below (s₁.setTop (mkF m 38 #[.val (.int p1), .val (.int p2), .val (.int (p2 &&& (3 : Int32))), .unset] [(.int p2), (.int (p1 &&& (255 : Int32)))])) tg
              refine X0.ldcInt hx hown (mvT hZ (hw _ (List.mem_of_getElem? (i := 62) rfl))) (g := (mkF m 38 #[.val (.int p1), .val (.int p2), .val (.int (p2 &&& (3 : Int32))), .unset] [(.int p2), (.int (p1 &&& (255 : Int32)))])) rfl (hb hby at_38) _ ?_
              show Steps p.tables e below (s₁.setTop (mkF m 40 #[.val (.int p1), .val (.int p2), .val (.int (p2 &&& (3 : Int32))), .unset] [(.int (-65536 : Int32)), (.int p2), (.int (p1 &&& (255 : Int32)))])) tg
              refine XS.iand X0.here hx rfl (hb hby at_40) rfl ?_
              show Steps p.tables e below (s₁.setTop (mkF m 41 #[.val (.int p1), .val (.int p2), .val (.int (p2 &&& (3 : Int32))), .unset] [(.int (p2 &&& (-65536 : Int32))), (.int (p1 &&& (255 : Int32)))])) tg
              refine XS.ior X0.here hx rfl (hb hby at_41) rfl ?_
              show Steps p.tables e below (s₁.setTop (mkF m 42 #[.val (.int p1), .val (.int p2), .val (.int (p2 &&& (3 : Int32))), .unset] [(.int ((p1 &&& (255 : Int32)) ||| (p2 &&& (-65536 : Int32))))])) tg
              refine XS.istoreN X0.here hx rfl (hb hby at_42) rfl (l' := #[.val (.int p1), .val (.int p2), .val (.int (p2 &&& (3 : Int32))), .val (.int ((p1 &&& (255 : Int32)) ||| (p2 &&& (-65536 : Int32))))]) rfl ?_
              show Steps p.tables e below (s₁.setTop (mkF m 43 #[.val (.int p1), .val (.int p2), .val (.int (p2 &&& (3 : Int32))), .val (.int ((p1 &&& (255 : Int32)) ||| (p2 &&& (-65536 : Int32))))] [])) tg
              refine XS.goto X0.here hx rfl (pc0 := 43) (pc' := 51) rfl (hb hby at_43) (by decide) (by decide) ?_
              exact kt
            · have qv7 : v7 = (p1 &&& (65535 : Int32)) := hv7.trans (if_neg hc29_5)
              rw [qv7] at kt
              show Steps p.tables e below (s₁.setTop (mkF m 29 #[.val (.int p1), .val (.int p2), .val (.int (p2 &&& (3 : Int32))), .unset] [(.int (2 : Int32)), (.int (p2 &&& (3 : Int32)))])) tg
              refine XS.icmpYes X0.here hx rfl (pc0 := 29) (pc' := 46) rfl (hb hby at_29) rfl (XT.ii_ne_t hc29_5) (by decide) (by decide) ?_
              show Steps p.tables e below (s₁.setTop (mkF m 46 #[.val (.int p1), .val (.int p2), .val (.int (p2 &&& (3 : Int32))), .unset] [])) tg
              refine XS.iloadN X0.here hx rfl (hb hby at_46) rfl ?_
              show Steps p.tables e below (s₁.setTop (mkF m 47 #[.val (.int p1), .val (.int p2), .val (.int (p2 &&& (3 : Int32))), .unset] [(.int p1)])) tg
              refine X0.ldcInt hx hown (mvT hZ (hw _ (List.mem_of_getElem? (i := 0) rfl))) (g := (mkF m 47 #[.val (.int p1), .val (.int p2), .val (.int (p2 &&& (3 : Int32))), .unset] [(.int p1)])) rfl (hb hby at_47) _ ?_
              show Steps p.tables e below (s₁.setTop (mkF m 49 #[.val (.int p1), .val (.int p2), .val (.int (p2 &&& (3 : Int32))), .unset] [(.int (65535 : Int32)), (.int p1)])) tg
              refine XS.iand X0.here hx rfl (hb hby at_49) rfl ?_
              show Steps p.tables e below (s₁.setTop (mkF m 50 #[.val (.int p1), .val (.int p2), .val (.int (p2 &&& (3 : Int32))), .unset] [(.int (p1 &&& (65535 : Int32)))])) tg
              refine XS.istoreN X0.here hx rfl (hb hby at_50) rfl (l' := #[.val (.int p1), .val (.int p2), .val (.int (p2 &&& (3 : Int32))), .val (.int (p1 &&& (65535 : Int32)))]) rfl ?_
              exact kt
          refine st6 _ ?_
          refine st8 _ ?_
          exact kt
      refine st4 _ ?_
      refine st10 _ ?_
      exact kt
  have st13 : ∀ tg, Steps p.tables e below (s₁.setTop (mkF m 52 #[.val (.int p1), .val (.int p2), .val (.int (p2 &&& (3 : Int32))), .val (.int v11)] [(.int v11)])) tg → Steps p.tables e below (s₁.setTop (mkF m 51 #[.val (.int p1), .val (.int p2), .val (.int (p2 &&& (3 : Int32))), .val (.int v11)] [])) tg := by
    intro tg kt
    show Steps p.tables e below (s₁.setTop (mkF m 51 #[.val (.int p1), .val (.int p2), .val (.int (p2 &&& (3 : Int32))), .val (.int v11)] [])) tg
    refine XS.iloadN X0.here hx rfl (hb hby at_51) rfl ?_
    exact kt
  obtain ⟨_, _, ⟨T14, L14, k14, n14⟩, -, X14w, hS14w, hg14, ⟨Lc14, hQ14, l14, y14, z14, CR14⟩, st14⟩ := callSS (s := s.setVm s.vm) (show Stand p l e _ (s.setVm s.vm) m _ below meth c s₁ _ _ _ from X0) hx (y := (⟨"com/example/grantline/grantline/PercentEncoding", "isUnreserved", "(I)Z"⟩ : MethodName)) hown (mvT hZ (hw _ (List.mem_of_getElem? (i := 1) rfl))) (mvT hZ (hw _ (List.mem_of_getElem? (i := 2) rfl))) (mvT hZ (hw _ (List.mem_of_getElem? (i := 3) rfl))) (mvT hZ (hw _ (List.mem_of_getElem? (i := 4) rfl))) (by decide) (backOfSH (s := s) (vm0 := s.vm) (W := 0) (rm1 l Z a0 hw [] v11 wc h0 n0 Z0 OLD S_c hwc hEL) hZ (hw _ (List.mem_of_getElem? (i := 4) rfl)) (hw _ (List.mem_of_getElem? (i := 3) rfl)) (by decide) (by decide) hEL hCH) (g := (mkF m 52 #[.val (.int p1), .val (.int p2), .val (.int (p2 &&& (3 : Int32))), .val (.int v11)] [(.int v11)])) rfl (by rw [hml]; rfl) (argsL := [(.int v11)]) (rest := []) (lenOf pd_0 rfl) rfl (by show 2 * 0 + _ ≤ _; exact Nat.le_of_eq rfl) (hb hby at_52) (fun _ _ => ⟨rfl, e0, (by decide : 0 + 2 ≤ _), (by decide : 0 + 20 ≤ _)⟩)
  dsimp only [Pt.U, Pt.locs, Pt.cells, Pt.slots] at X14w l14 y14 z14 st14 hQ14 hS14w hg14 CR14
  subst l14 y14 z14
  obtain ⟨X14, hS14, hZ14, hown14⟩ := rebS (s := s) (vm0 := s.vm) ((State.WarmedH.refl s).since 0) (Nat.zero_le _) X14w hS14w hg14 hZ hown
  obtain ⟨rfl, N14q, K14q⟩ := hQ14
  have N14 := Fr.app N0 N14q
  have G15 : Old Z n0 T14.heap := OLD.keep K14q (all0)
  have K14 : Keep h0 T14.heap [] := K0.trans K14q all0
  have Z14 : n0 ≤ T14.heap.size := Nat.le_trans Z0 K14q.1
  obtain ⟨r14, hr14⟩ : ∃ z, z = un v11 := ⟨_, rfl⟩
  rw [← hr14] at st14
  have st16 : ∀ tg, Steps p.tables e below (T14.setTop (mkF m 56 #[.val (.int p1), .val (.int p2), .val (.int (p2 &&& (3 : Int32))), .val (.int v11)] [(.int v11), (.int r14)])) tg → Steps p.tables e below (T14.setTop (mkF m 55 #[.val (.int p1), .val (.int p2), .val (.int (p2 &&& (3 : Int32))), .val (.int v11)] [(.int r14)])) tg := by
    intro tg kt
    show Steps p.tables e below (T14.setTop (mkF m 55 #[.val (.int p1), .val (.int p2), .val (.int (p2 &&& (3 : Int32))), .val (.int v11)] [(.int r14)])) tg
    refine XS.iloadN X14.here hx rfl (hb hby at_55) rfl ?_
    exact kt
  obtain ⟨_, _, ⟨T17, L17, k17, n17⟩, -, X17, ⟨Lc17, hQ17, l17, y17, z17⟩, st17⟩ := Jvm.LawKit.callS X14 hx (y := (⟨"com/example/grantline/grantline/PercentEncodingIsUnreservedPinLaw", "expected", "(I)Z"⟩ : MethodName)) hown14 (mvT hZ14 (hw _ (List.mem_of_getElem? (i := 58) rfl))) (mvT hZ14 (hw _ (List.mem_of_getElem? (i := 59) rfl))) (mvT hZ14 (hw _ (List.mem_of_getElem? (i := 60) rfl))) (mvT hZ14 (hw _ (List.mem_of_getElem? (i := 61) rfl))) (by decide) (backOf (W := 1) (rm12 l Z a0 hw [] v11 T14.heap n0 Z14) hZ14 (hw _ (List.mem_of_getElem? (i := 61) rfl)) (hw _ (List.mem_of_getElem? (i := 60) rfl)) (by decide) (by decide)) (g := (mkF m 56 #[.val (.int p1), .val (.int p2), .val (.int (p2 &&& (3 : Int32))), .val (.int v11)] [(.int v11), (.int r14)])) rfl (by rw [hml]; rfl) (argsL := [(.int v11)]) (rest := [(.int r14)]) (lenOf pd_0 rfl) rfl (by show 2 * 0 + _ ≤ _; exact Nat.le_of_eq rfl) (hb hby at_56) (fun _ _ => ⟨rfl, rfl, (by decide : 2 + 0 ≤ _), (by decide : 20 + 0 ≤ _)⟩)
  dsimp only [Pt.U, Pt.locs, Pt.cells, Pt.slots] at X17 l17 y17 z17 st17 hQ17
  subst l17 y17 z17
  obtain ⟨rfl, N17q, e17⟩ := hQ17
  have N17 := Fr.app N14 N17q
  obtain ⟨r17, hr17⟩ : ∃ z, z = rv12 v11 := ⟨_, rfl⟩
  rw [← hr17] at st17
  have hf18 : r14 = r17 := by rw [hr14, hr17]; exact own_law _
  have st19 : ∀ tg, Steps p.tables e below (T17.setTop (mkF m 67 #[.val (.int p1), .val (.int p2), .val (.int (p2 &&& (3 : Int32))), .val (.int v11)] [(.int (1 : Int32))])) tg → Steps p.tables e below (T17.setTop (mkF m 59 #[.val (.int p1), .val (.int p2), .val (.int (p2 &&& (3 : Int32))), .val (.int v11)] [(.int r17), (.int r14)])) tg := by
    intro tg kt
    show Steps p.tables e below (T17.setTop (mkF m 59 #[.val (.int p1), .val (.int p2), .val (.int (p2 &&& (3 : Int32))), .val (.int v11)] [(.int r17), (.int r14)])) tg
    refine XS.icmpNo X17.here hx rfl (hb hby at_59) rfl (XT.ii_ne_f hf18) ?_
    show Steps p.tables e below (T17.setTop (mkF m 62 #[.val (.int p1), .val (.int p2), .val (.int (p2 &&& (3 : Int32))), .val (.int v11)] [])) tg
    refine XS.iconst X17.here hx rfl (hb hby at_62) ?_
    show Steps p.tables e below (T17.setTop (mkF m 63 #[.val (.int p1), .val (.int p2), .val (.int (p2 &&& (3 : Int32))), .val (.int v11)] [(.int (1 : Int32))])) tg
    refine XS.goto X17.here hx rfl (pc0 := 63) (pc' := 67) rfl (hb hby at_63) (by decide) (by decide) ?_
    exact kt
  obtain ⟨fs, hr, hrun, hended, hRW⟩ := Stand.leaveW (s := s) X17 hS14 (by rw [e17]; exact (Nat.le_refl _)) (v := some (.int (1 : Int32))) (fun h => by rw [Bd.returns] at h; cases h)
  refine ⟨_, _, pre0 _ ?_, hrun, hended, _, _, rfl, ?_, hRW.1, hRW.2.1, hRW.2.2.1, hRW.2.2.2.mono (by decide) (by decide)⟩
  · refine st2 _ ?_
    refine st12 _ ?_
    refine st13 _ ?_
    show Steps p.tables e below (s₁.setTop (mkF m 52 #[.val (.int p1), .val (.int p2), .val (.int (p2 &&& (3 : Int32))), .val (.int v11)] [(.int v11)])) _
    refine st14.trans ?_
    refine st16 _ ?_
    show Steps p.tables e below (T14.setTop (mkF m 56 #[.val (.int p1), .val (.int p2), .val (.int (p2 &&& (3 : Int32))), .val (.int v11)] [(.int v11), (.int r14)])) _
    refine st17 _ ?_
    refine st19 _ ?_
    show Steps p.tables e below (T17.setTop (mkF m 67 #[.val (.int p1), .val (.int p2), .val (.int (p2 &&& (3 : Int32))), .val (.int v11)] [(.int (1 : Int32))])) _
    exact retN X17 hx (t := .boolean) Bd.returns (by simp) (hb hby at_67) hr
  · show Q0 Z p1 p2 wc h0 n0 _ T17.heap _
    rw [e17]
    exact ⟨rfl, N17⟩
set_option maxRecDepth 65536 in
set_option maxHeartbeats 40000000 in
theorem comes_1 {Post : Tables → Env → Array Value → State → Outcome → State → Prop} (hpost : ∀ tb e args s v u, (limb_1_1.after args s (.returned v) u = true ∧ limb_1_2.after args s (.returned v) u = true ∧ True) → ReturnedEndW s (.returned v) u (Jvm.fieldLocs frame_1_writes args s ++ Jvm.arrayLocs frame_1_arrays args s ++ Jvm.staticLocs frame_1_statics s) 8 1088 → Post tb e args s (.returned v) u) :
    ArmFor flags0 classFile x code maxLocals ret World_1 tables_1 room_1 Calls_1 rest_1 Pre_1 Post := by
  intro l hfl _ _ p e ha hc hk s m args below hf hA hF happ hP
  obtain ⟨hcalls, hrest, hpre⟩ := hP
  obtain ⟨-, -, -, hnamed, -, -, -, hat⟩ := (Spec.applies_iff hf).mp happ
  obtain ⟨hg, hn⟩ := and_e (Cond.before_iff.mp (show (Jvm.Cond.and given_1 narrow_1).before args s = true from hpre))
  obtain ⟨k0, j0⟩ := and_e hg
  obtain ⟨k1, j1⟩ := and_e j0
  obtain ⟨w0, w1, rfl⟩ : ∃ w0 w1 : Value, args = #[w0, w1] := by
    have hs : args.size = 2 := by simpa [Cond.value, given_1] using k0
    obtain ⟨L⟩ := args
    match L, hs with
    | [w0, w1], _ => exact ⟨w0, w1, rfl⟩
  have hw := fun d (hd : d ∈ tables_1) => atoms_spec (ws := Jvm.Cond.code x code maxLocals ret :: tables_1) hat d (List.mem_cons_of_mem _ hd)
  have hfit : Fit s := fun {y c} hc i hi => by
    obtain ⟨ha, rfl⟩ := Array.getElem?_eq_some_iff.mp hc
    have q := List.all_eq_true.mp ((Array.all_eq_true_iff_forall_mem.mp hF) _ (Array.getElem_mem ha)) i (List.mem_range.mpr hi)
    simpa [Array.getElem?_eq_getElem hi] using q
  obtain ⟨hsets, hown0⟩ := atoms_of _ (rest_1_c_eq ▸ (show rest_1_c.before _ s = true from hrest))
  have hr0 := Cond.before_iff.mp hown0
  obtain ⟨i0, ei0⟩ := is_v k1
  obtain rfl : w0 = (.int i0) := Option.some.inj ei0
  obtain ⟨i1, ei1⟩ := is_v j1
  obtain rfl : w1 = (.int i1) := Option.some.inj ei1
  obtain ⟨wc, evc⟩ := is_v (Cond.before_iff.mp (hsets _ (List.mem_of_getElem? (i := 1) rfl)))
  have S_c := Sta.start evc (Or.inl (hsets _ (List.mem_of_getElem? (i := 0) rfl)))
  have hwc : ¬ (wc = 0) := own_nz evc (Cond.before_iff.mp (hsets _ (List.mem_of_getElem? (i := 2) rfl)))
  have hEL : EW s _ EL := EW.cons (hw _ (List.mem_of_getElem? (i := 5) rfl)) (by decide +kernel) EW.nil
  have hCH : CHv s EL s.vm s.heap := CHv.start hEL (fun p hp => hcalls.1 p (by revert p; decide +kernel)) (hsets _ (List.mem_of_getElem? (i := 2) rfl)) (hw _ (List.mem_of_getElem? (i := 8) rfl)) (hw _ (List.mem_of_getElem? (i := 7) rfl))
  obtain ⟨n, o, h1, h2, h3, _, L, rfl, ⟨rfl, N⟩, hq⟩ := rm0 l s _ hw tables_1 i0 i1 wc s.heap s.heap.size (Nat.le_refl _) (Old.start s) S_c hwc hEL p e ha hc hk s m _ below hf ((Spec.applies_iff_loose hf).mp happ).1 ⟨rfl, State.Warmed39.refl s, rfl, hCH⟩ trivial
  refine ⟨n, _, h1, h2, h3, hpost _ _ _ _ _ _ ⟨Cond.after_iff.mpr rfl, Cond.after_iff.mpr (eq_i res_at (Term.int_eval (1)) rfl), trivial⟩ ⟨hq.1, hq.2.1, hq.2.2.1, (hq.2.2.2.sift fun y hy => Or.inr (N y hy)).mono (by decide) (by decide)⟩⟩
theorem main_1_1 : Claimed_1_1 := comes_1 fun _ _ _ _ _ _ h hF => ⟨h.1, hF⟩
theorem main_1_2 : Claimed_1_2 := comes_1 fun _ _ _ _ _ _ h hF => ⟨h.2.1, hF⟩
end Jvm.Pilot.@@N@@
namespace Jvm.Pilot.@@N@@
open Jvm Jvm.ClassFile Sem Op Lib Jvm.Free Jvm.Stand Jvm.Pilot.@@N@@.Jvm.D
/-! MADE BY PROGRAM (witnessworld.py) out of the Statement's table words and the real class files: 18 classes; the members and pool entries that the words name. The judged class is class 1, her method 1. -/
namespace start1
open Jvm.ClassFile
def u (s : String) : CpInfo := .utf8 (stringToUtf16 s)
/-- a pool by its gaps: so many unusable entries, then the entry; so many at the end -/
def gap : Nat → List CpInfo → List CpInfo
  | 0, r => r
  | n + 1, r => .unusable :: gap n r
def poolList (es : List (Nat × CpInfo)) (last : Nat) : List CpInfo := es.foldr (fun e r => gap e.1 (e.2 :: r)) (gap last [])
def pool (es : List (Nat × CpInfo)) (last : Nat) : Array CpInfo := ⟨poolList es last⟩
def fileOf (pool : Array CpInfo) (this : Nat) (attrs : Array Attribute := #[]) (ms : Array MethodInfo := #[]) (fl : Nat := 33) (sup : Nat := 0) (ifs : Array Nat := #[]) (fds : Array FieldInfo := #[]) : ClassFile where
  minorVersion := 0
  majorVersion := 65
  constantPool := pool
  accessFlags := fl
  thisClass := this
  superClass := sup
  interfaces := ifs
  fields := fds
  methods := ms
  attributes := attrs
def plain (name : String) (sup : Option ClassId) : Class where
  name := name
  kind := .ordinary
  loader := none
  accessFlags := 33
  super := sup
  interfaces := #[]
  cf := none
  fields := #[]
  methods := #[]
  instanceTypes := #[]
  staticTypes := #[]
  resolved := #[]
  callSites := []
  init := .initialized
  statics := none
  mirror := none

def pool0 : Array CpInfo := pool [(5, u "<init>"), (0, u "()V"), (1, .class_ 10), (1, u "java/lang/Object")] 113

def k0m0 : Method := { name := "<init>", desc := "()V", sig := { parameters := [], returnType := none }, accessFlags := 1, code := none }
/-- java/lang/Object -/
def k0 : Class := { plain "java/lang/Object" none with
  accessFlags := 33
  interfaces := #[]
  cf := some (fileOf pool0 8 #[] #[{ accessFlags := 1, nameIndex := 5, descriptorIndex := 6, attributes := #[] }] 33 0 #[] #[])
  fields := #[]
  methods := #[k0m0]
  instanceTypes := #[]
  staticTypes := #[]
  resolved := Array.replicate 124 none
  statics := none }

def pool1 : Array CpInfo := pool [(2, .class_ 4), (1, u "java/lang/Object"), (0, u "<init>"), (0, u "()V"), (0, .integer 4294901760), (0, .integer 65535), (0, .methodref 10 11), (0, .class_ 12), (0, .nameAndType 13 14), (0, u "com/example/grantline/grantline/PercentEncoding"), (0, u "isUnreserved"), (0, u "(I)Z"), (0, .methodref 16 17), (0, .class_ 18), (0, .nameAndType 19 14), (0, u "com/example/grantline/grantline/PercentEncodingIsUnreservedPinLaw"), (0, u "expected"), (2, u "law"), (0, u "(II)Z")] 3

def k1m0 : Method := { name := "<init>", desc := "()V", sig := { parameters := [], returnType := none }, accessFlags := 1, code := none }
def k1c1 : Code := { maxStack := 3, maxLocals := 4, code := code, exceptionTable := #[], attributes := #[] }
def k1m1 : Method := { name := "law", desc := "(II)Z", sig := { parameters := [.int, .int], returnType := some .boolean }, accessFlags := 9, code := some k1c1 }
def k1c2 : Code := { maxStack := 2, maxLocals := 1, code := method_3_code, exceptionTable := #[], attributes := #[] }
def k1m2 : Method := { name := "expected", desc := "(I)Z", sig := { parameters := [.int], returnType := some .boolean }, accessFlags := 10, code := some k1c2 }
/-- com/example/grantline/grantline/PercentEncodingIsUnreservedPinLaw -/
def k1 : Class := { plain "com/example/grantline/grantline/PercentEncodingIsUnreservedPinLaw" (some 0) with
  accessFlags := 49
  interfaces := #[]
  cf := some (fileOf pool1 16 #[] #[{ accessFlags := 1, nameIndex := 5, descriptorIndex := 6, attributes := #[] }, { accessFlags := 9, nameIndex := 22, descriptorIndex := 23, attributes := #[] }, { accessFlags := 10, nameIndex := 19, descriptorIndex := 14, attributes := #[] }] 49 2 #[] #[])
  fields := #[]
  methods := #[k1m0, k1m1, k1m2]
  instanceTypes := #[]
  staticTypes := #[]
  resolved := Array.replicate 27 none
  statics := none }

def pool2 : Array CpInfo := pool [(2, .class_ 4), (1, u "java/lang/Object"), (0, u "<init>"), (0, u "()V"), (0, .string 8), (0, u "-._~"), (0, .methodref 10 11), (0, .class_ 12), (0, .nameAndType 13 14), (0, u "java/lang/String"), (0, u "indexOf"), (0, u "(I)I"), (14, .class_ 31), (1, u "com/example/grantline/grantline/PercentEncoding"), (0, u "isUnreserved"), (0, u "(I)Z")] 103

def k2m0 : Method := { name := "<init>", desc := "()V", sig := { parameters := [], returnType := none }, accessFlags := 2, code := none }
def k2c1 : Code := { maxStack := 2, maxLocals := 1, code := prog_19_method_2_code, exceptionTable := #[], attributes := #[] }
def k2m1 : Method := { name := "isUnreserved", desc := "(I)Z", sig := { parameters := [.int], returnType := some .boolean }, accessFlags := 8, code := some k2c1 }
/-- com/example/grantline/grantline/PercentEncoding -/
def k2 : Class := { plain "com/example/grantline/grantline/PercentEncoding" (some 0) with
  accessFlags := 48
  interfaces := #[]
  cf := some (fileOf pool2 29 #[] #[{ accessFlags := 2, nameIndex := 5, descriptorIndex := 6, attributes := #[] }, { accessFlags := 8, nameIndex := 32, descriptorIndex := 33, attributes := #[] }] 48 2 #[] #[])
  fields := #[]
  methods := #[k2m0, k2m1]
  instanceTypes := #[]
  staticTypes := #[]
  resolved := Array.replicate 137 none
  statics := none }

def pool3 : Array CpInfo := pool [(1, .class_ 2), (0, u "java/io/Serializable"), (0, .class_ 4), (0, u "java/lang/Object")] 2

/-- java/io/Serializable -/
def k3 : Class := { plain "java/io/Serializable" (some 0) with
  accessFlags := 1537
  interfaces := #[]
  cf := some (fileOf pool3 1 #[] #[] 1537 3 #[] #[])
  fields := #[]
  methods := #[]
  instanceTypes := #[]
  staticTypes := #[]
  resolved := Array.replicate 7 none
  statics := none }

def pool4 : Array CpInfo := pool [(1, .class_ 2), (0, u "java/lang/Comparable"), (0, .class_ 4), (0, u "java/lang/Object")] 7

/-- java/lang/Comparable -/
def k4 : Class := { plain "java/lang/Comparable" (some 0) with
  accessFlags := 1537
  interfaces := #[]
  cf := some (fileOf pool4 1 #[] #[] 1537 3 #[] #[])
  fields := #[]
  methods := #[]
  instanceTypes := #[]
  staticTypes := #[]
  resolved := Array.replicate 12 none
  statics := none }

def pool5 : Array CpInfo := pool [(2, .class_ 4), (1, u "java/lang/CharSequence"), (42, .class_ 48), (0, u "java/lang/CharSequence$1CodePointIterator"), (10, .class_ 60), (0, u "java/lang/CharSequence$1CharIterator"), (5, .class_ 67), (0, u "java/lang/Object")] 63

/-- java/lang/CharSequence -/
def k5 : Class := { plain "java/lang/CharSequence" (some 0) with
  accessFlags := 1537
  interfaces := #[]
  cf := some (fileOf pool5 2 #[.nestMembers #[47, 59]] #[] 1537 66 #[] #[])
  fields := #[]
  methods := #[]
  instanceTypes := #[]
  staticTypes := #[]
  resolved := Array.replicate 131 none
  statics := none }

def pool6 : Array CpInfo := pool [(1, .class_ 2), (0, u "java/lang/constant/Constable"), (0, .class_ 4), (0, u "java/lang/Object")] 6

/-- java/lang/constant/Constable -/
def k6 : Class := { plain "java/lang/constant/Constable" (some 0) with
  accessFlags := 1537
  interfaces := #[]
  cf := some (fileOf pool6 1 #[] #[] 1537 3 #[] #[])
  fields := #[]
  methods := #[]
  instanceTypes := #[]
  staticTypes := #[]
  resolved := Array.replicate 11 none
  statics := none }

def pool7 : Array CpInfo := pool [(1, .class_ 2), (0, u "java/lang/constant/ConstantDesc"), (0, .class_ 4), (0, u "java/lang/Object")] 32

/-- java/lang/constant/ConstantDesc -/
def k7 : Class := { plain "java/lang/constant/ConstantDesc" (some 0) with
  accessFlags := 1537
  interfaces := #[]
  cf := some (fileOf pool7 1 #[] #[] 1537 3 #[] #[])
  fields := #[]
  methods := #[]
  instanceTypes := #[]
  staticTypes := #[]
  resolved := Array.replicate 37 none
  statics := none }

def pool8 : Array CpInfo := pool [(2, .class_ 4), (1, u "java/lang/Object"), (0, u "<init>"), (0, u "()V"), (2, .fieldref 10 11), (0, .class_ 12), (0, .nameAndType 13 14), (0, u "java/lang/String"), (0, u "value"), (0, u "[B"), (0, .fieldref 10 16), (0, .nameAndType 17 18), (0, u "coder"), (0, u "B"), (2, u "hash"), (0, u "I"), (2, u "hashIsZero"), (0, u "Z"), (11, .fieldref 10 39), (0, .nameAndType 40 26), (0, u "COMPACT_STRINGS"), (66, .class_ 109), (1, u "java/lang/StringLatin1"), (32, u "()Z"), (191, u "()I"), (0, .methodref 10 336), (0, .nameAndType 17 337), (0, u "()B"), (154, .methodref 10 493), (0, .nameAndType 494 142), (0, u "isLatin1"), (10, .methodref 10 506), (0, .nameAndType 507 334), (0, u "length"), (67, .class_ 576), (0, u "java/lang/CharSequence"), (22, u "CASE_INSENSITIVE_ORDER"), (0, u "Ljava/util/Comparator;"), (32, .methodref 10 634), (0, .nameAndType 635 636), (0, u "indexOf"), (0, u "(II)I"), (0, .methodref 107 638), (0, .nameAndType 635 639), (0, u "([BIII)I"), (125, u "(I)I"), (335, u "serialPersistentFields"), (0, u "[Ljava/io/ObjectStreamField;"), (0, .class_ 1104), (0, u "java/lang/String$CaseInsensitiveComparator"), (1, .class_ 1107), (0, u "java/io/Serializable"), (0, .class_ 1109), (0, u "java/lang/Comparable"), (0, .class_ 1111), (0, u "java/lang/constant/Constable"), (0, .class_ 1113), (0, u "java/lang/constant/ConstantDesc"), (2, u "serialVersionUID"), (0, u "J"), (3, u "REPL"), (0, u "C"), (2, u "LATIN1"), (1, u "UTF16")] 323

def k8m0 : Method := { name := "<init>", desc := "()V", sig := { parameters := [], returnType := none }, accessFlags := 1, code := none }
def k8c1 : Code := { maxStack := 2, maxLocals := 1, code := jdk_42_method_54_code, exceptionTable := #[], attributes := #[] }
def k8m1 : Method := { name := "length", desc := "()I", sig := { parameters := [], returnType := some .int }, accessFlags := 1, code := some k8c1 }
def k8c2 : Code := { maxStack := 3, maxLocals := 2, code := jdk_42_method_79_code, exceptionTable := #[], attributes := #[] }
def k8m2 : Method := { name := "indexOf", desc := "(I)I", sig := { parameters := [.int], returnType := some .int }, accessFlags := 1, code := some k8c2 }
def k8c3 : Code := { maxStack := 4, maxLocals := 3, code := jdk_42_method_80_code, exceptionTable := #[], attributes := #[] }
def k8m3 : Method := { name := "indexOf", desc := "(II)I", sig := { parameters := [.int, .int], returnType := some .int }, accessFlags := 1, code := some k8c3 }
def k8c4 : Code := { maxStack := 1, maxLocals := 1, code := jdk_42_method_152_code, exceptionTable := #[], attributes := #[] }
def k8m4 : Method := { name := "coder", desc := "()B", sig := { parameters := [], returnType := some .byte }, accessFlags := 0, code := some k8c4 }
def k8c5 : Code := { maxStack := 1, maxLocals := 1, code := jdk_42_method_154_code, exceptionTable := #[], attributes := #[] }
def k8m5 : Method := { name := "isLatin1", desc := "()Z", sig := { parameters := [], returnType := some .boolean }, accessFlags := 0, code := some k8c5 }
/-- java/lang/String -/
def k8 : Class := { plain "java/lang/String" (some 0) with
  accessFlags := 49
  interfaces := #[3, 4, 5, 6, 7]
  cf := some (fileOf pool8 10 #[.nestMembers #[1103]] #[{ accessFlags := 1, nameIndex := 5, descriptorIndex := 6, attributes := #[] }, { accessFlags := 1, nameIndex := 507, descriptorIndex := 334, attributes := #[] }, { accessFlags := 1, nameIndex := 635, descriptorIndex := 765, attributes := #[] }, { accessFlags := 1, nameIndex := 635, descriptorIndex := 636, attributes := #[] }, { accessFlags := 0, nameIndex := 17, descriptorIndex := 337, attributes := #[] }, { accessFlags := 0, nameIndex := 494, descriptorIndex := 142, attributes := #[] }] 49 2 #[1106, 1108, 575, 1110, 1112] #[{ accessFlags := 18, nameIndex := 13, descriptorIndex := 14, attributes := #[] }, { accessFlags := 18, nameIndex := 17, descriptorIndex := 18, attributes := #[] }, { accessFlags := 2, nameIndex := 21, descriptorIndex := 22, attributes := #[] }, { accessFlags := 2, nameIndex := 25, descriptorIndex := 26, attributes := #[] }, { accessFlags := 26, nameIndex := 1116, descriptorIndex := 1117, attributes := #[] }, { accessFlags := 24, nameIndex := 40, descriptorIndex := 26, attributes := #[] }, { accessFlags := 26, nameIndex := 1101, descriptorIndex := 1102, attributes := #[] }, { accessFlags := 26, nameIndex := 1121, descriptorIndex := 1122, attributes := #[] }, { accessFlags := 25, nameIndex := 599, descriptorIndex := 600, attributes := #[] }, { accessFlags := 24, nameIndex := 1125, descriptorIndex := 18, attributes := #[] }, { accessFlags := 24, nameIndex := 1127, descriptorIndex := 18, attributes := #[] }])
  fields := #[{ name := "value", type := (.array .byte), accessFlags := 18, slot := 0, constantValue := 0 }, { name := "coder", type := .byte, accessFlags := 18, slot := 1, constantValue := 0 }, { name := "hash", type := .int, accessFlags := 2, slot := 2, constantValue := 0 }, { name := "hashIsZero", type := .boolean, accessFlags := 2, slot := 3, constantValue := 0 }, { name := "serialVersionUID", type := .long, accessFlags := 26, slot := 0, constantValue := 0 }, { name := "COMPACT_STRINGS", type := .boolean, accessFlags := 24, slot := 1, constantValue := 0 }, { name := "serialPersistentFields", type := (.array (.object "java/io/ObjectStreamField")), accessFlags := 26, slot := 2, constantValue := 0 }, { name := "REPL", type := .char, accessFlags := 26, slot := 3, constantValue := 0 }, { name := "CASE_INSENSITIVE_ORDER", type := (.object "java/util/Comparator"), accessFlags := 25, slot := 4, constantValue := 0 }, { name := "LATIN1", type := .byte, accessFlags := 24, slot := 5, constantValue := 0 }, { name := "UTF16", type := .byte, accessFlags := 24, slot := 6, constantValue := 0 }]
  methods := #[k8m0, k8m1, k8m2, k8m3, k8m4, k8m5]
  instanceTypes := #[(.array .byte), .byte, .int, .boolean]
  staticTypes := #[.long, .boolean, (.array (.object "java/io/ObjectStreamField")), .char, (.object "java/util/Comparator"), .byte, .byte]
  resolved := Array.replicate 1451 none
  statics := some 0 }

def pool9 : Array CpInfo := pool [(4, .class_ 6), (1, u "java/lang/Object"), (0, u "<init>"), (0, u "()V"), (5, .class_ 16), (1, u "java/lang/StringLatin1"), (21, .methodref 39 40), (0, .class_ 41), (0, .nameAndType 42 43), (0, u "java/lang/Math"), (0, u "min"), (0, u "(II)I"), (44, .methodref 14 89), (0, .nameAndType 90 91), (0, u "canEncode"), (0, u "(I)Z"), (0, .methodref 39 93), (0, .nameAndType 94 43), (0, u "max"), (0, .methodref 14 96), (0, .nameAndType 97 98), (0, u "indexOfChar"), (0, u "([BIII)I"), (2, u "indexOf"), (19, u "$assertionsDisabled"), (0, u "Z"), (98, .class_ 223), (1, u "java/lang/StringLatin1$LinesSpliterator"), (166, .class_ 391), (0, u "java/lang/StringLatin1$CharsSpliterator")] 3

def k9m0 : Method := { name := "<init>", desc := "()V", sig := { parameters := [], returnType := none }, accessFlags := 0, code := none }
def k9c1 : Code := { maxStack := 2, maxLocals := 1, code := jdk_43_method_4_code, exceptionTable := #[], attributes := #[] }
def k9m1 : Method := { name := "canEncode", desc := "(I)Z", sig := { parameters := [.int], returnType := some .boolean }, accessFlags := 9, code := some k9c1 }
def k9c2 : Code := { maxStack := 4, maxLocals := 4, code := jdk_43_method_22_code, exceptionTable := #[], attributes := #[] }
def k9m2 : Method := { name := "indexOf", desc := "([BIII)I", sig := { parameters := [(.array .byte), .int, .int, .int], returnType := some .int }, accessFlags := 9, code := some k9c2 }
def k9c3 : Code := { maxStack := 2, maxLocals := 6, code := jdk_43_method_23_code, exceptionTable := #[], attributes := #[] }
def k9m3 : Method := { name := "indexOfChar", desc := "([BIII)I", sig := { parameters := [(.array .byte), .int, .int, .int], returnType := some .int }, accessFlags := 10, code := some k9c3 }
/-- java/lang/StringLatin1 -/
def k9 : Class := { plain "java/lang/StringLatin1" (some 0) with
  accessFlags := 48
  interfaces := #[]
  cf := some (fileOf pool9 14 #[.nestMembers #[390, 221]] #[{ accessFlags := 0, nameIndex := 7, descriptorIndex := 8, attributes := #[] }, { accessFlags := 9, nameIndex := 90, descriptorIndex := 91, attributes := #[] }, { accessFlags := 9, nameIndex := 101, descriptorIndex := 98, attributes := #[] }, { accessFlags := 10, nameIndex := 97, descriptorIndex := 98, attributes := #[] }] 48 4 #[] #[{ accessFlags := 4120, nameIndex := 121, descriptorIndex := 122, attributes := #[] }])
  fields := #[{ name := "$assertionsDisabled", type := .boolean, accessFlags := 4120, slot := 0, constantValue := 0 }]
  methods := #[k9m0, k9m1, k9m2, k9m3]
  instanceTypes := #[]
  staticTypes := #[.boolean]
  resolved := Array.replicate 395 none
  statics := none }

def pool10 : Array CpInfo := pool [(1, .class_ 2), (0, u "java/lang/Math"), (1, .class_ 6), (1, u "java/lang/Object"), (0, u "<init>"), (0, u "()V"), (89, .class_ 100), (1, u "java/lang/Math$RandomNumberGeneratorHolder"), (71, u "negativeZeroFloatBits"), (0, u "J"), (2, u "negativeZeroDoubleBits"), (21, u "max"), (2, u "min"), (43, u "$assertionsDisabled"), (0, u "Z"), (88, u "(II)I"), (2, u "twoToTheDoubleScaleDown"), (0, u "D"), (4, u "twoToTheDoubleScaleUp"), (9, u "E"), (3, u "PI"), (2, u "TAU"), (2, u "DEGREES_TO_RADIANS"), (0, u "RADIANS_TO_DEGREES")] 94

def k10m0 : Method := { name := "<init>", desc := "()V", sig := { parameters := [], returnType := none }, accessFlags := 2, code := none }
def k10c1 : Code := { maxStack := 2, maxLocals := 2, code := jdk_29_method_65_code, exceptionTable := #[], attributes := #[] }
def k10m1 : Method := { name := "max", desc := "(II)I", sig := { parameters := [.int, .int], returnType := some .int }, accessFlags := 9, code := some k10c1 }
def k10c2 : Code := { maxStack := 2, maxLocals := 2, code := jdk_29_method_69_code, exceptionTable := #[], attributes := #[] }
def k10m2 : Method := { name := "min", desc := "(II)I", sig := { parameters := [.int, .int], returnType := some .int }, accessFlags := 9, code := some k10c2 }
/-- java/lang/Math -/
def k10 : Class := { plain "java/lang/Math" (some 0) with
  accessFlags := 49
  interfaces := #[]
  cf := some (fileOf pool10 1 #[.nestMembers #[98]] #[{ accessFlags := 2, nameIndex := 7, descriptorIndex := 8, attributes := #[] }, { accessFlags := 9, nameIndex := 198, descriptorIndex := 335, attributes := #[] }, { accessFlags := 9, nameIndex := 201, descriptorIndex := 335, attributes := #[] }] 49 4 #[] #[{ accessFlags := 25, nameIndex := 354, descriptorIndex := 339, attributes := #[] }, { accessFlags := 25, nameIndex := 358, descriptorIndex := 339, attributes := #[] }, { accessFlags := 25, nameIndex := 361, descriptorIndex := 339, attributes := #[] }, { accessFlags := 26, nameIndex := 364, descriptorIndex := 339, attributes := #[] }, { accessFlags := 26, nameIndex := 365, descriptorIndex := 339, attributes := #[] }, { accessFlags := 26, nameIndex := 172, descriptorIndex := 173, attributes := #[] }, { accessFlags := 26, nameIndex := 176, descriptorIndex := 173, attributes := #[] }, { accessFlags := 8, nameIndex := 344, descriptorIndex := 339, attributes := #[] }, { accessFlags := 8, nameIndex := 338, descriptorIndex := 339, attributes := #[] }, { accessFlags := 4120, nameIndex := 245, descriptorIndex := 246, attributes := #[] }])
  fields := #[{ name := "E", type := .double, accessFlags := 25, slot := 0, constantValue := 0 }, { name := "PI", type := .double, accessFlags := 25, slot := 1, constantValue := 0 }, { name := "TAU", type := .double, accessFlags := 25, slot := 2, constantValue := 0 }, { name := "DEGREES_TO_RADIANS", type := .double, accessFlags := 26, slot := 3, constantValue := 0 }, { name := "RADIANS_TO_DEGREES", type := .double, accessFlags := 26, slot := 4, constantValue := 0 }, { name := "negativeZeroFloatBits", type := .long, accessFlags := 26, slot := 5, constantValue := 0 }, { name := "negativeZeroDoubleBits", type := .long, accessFlags := 26, slot := 6, constantValue := 0 }, { name := "twoToTheDoubleScaleUp", type := .double, accessFlags := 8, slot := 7, constantValue := 0 }, { name := "twoToTheDoubleScaleDown", type := .double, accessFlags := 8, slot := 8, constantValue := 0 }, { name := "$assertionsDisabled", type := .boolean, accessFlags := 4120, slot := 9, constantValue := 0 }]
  methods := #[k10m0, k10m1, k10m2]
  instanceTypes := #[]
  staticTypes := #[.double, .double, .double, .double, .double, .long, .long, .double, .double, .boolean]
  resolved := Array.replicate 460 none
  statics := none }

def pool11 : Array CpInfo := pool [(2, .class_ 4), (1, u "java/lang/Object"), (0, u "<init>"), (0, u "()V"), (17, .class_ 26), (1, u "jdk/internal/util/Preconditions"), (28, .class_ 56), (0, u "jdk/internal/util/Preconditions$4"), (57, .class_ 115), (0, u "jdk/internal/util/Preconditions$1"), (7, u "SIOOBE_FORMATTER"), (0, u "Ljava/util/function/BiFunction;"), (0, .class_ 126), (0, u "jdk/internal/util/Preconditions$2"), (3, u "AIOOBE_FORMATTER"), (0, .class_ 132), (0, u "jdk/internal/util/Preconditions$3"), (3, u "IOOBE_FORMATTER")] 57

def k11m0 : Method := { name := "<init>", desc := "()V", sig := { parameters := [], returnType := none }, accessFlags := 1, code := none }
/-- jdk/internal/util/Preconditions -/
def k11 : Class := { plain "jdk/internal/util/Preconditions" (some 0) with
  accessFlags := 33
  interfaces := #[]
  cf := some (fileOf pool11 24 #[.nestMembers #[55, 131, 125, 114]] #[{ accessFlags := 1, nameIndex := 5, descriptorIndex := 6, attributes := #[] }] 33 2 #[] #[{ accessFlags := 25, nameIndex := 123, descriptorIndex := 124, attributes := #[] }, { accessFlags := 25, nameIndex := 130, descriptorIndex := 124, attributes := #[] }, { accessFlags := 25, nameIndex := 136, descriptorIndex := 124, attributes := #[] }])
  fields := #[{ name := "SIOOBE_FORMATTER", type := (.object "java/util/function/BiFunction"), accessFlags := 25, slot := 0, constantValue := 0 }, { name := "AIOOBE_FORMATTER", type := (.object "java/util/function/BiFunction"), accessFlags := 25, slot := 1, constantValue := 0 }, { name := "IOOBE_FORMATTER", type := (.object "java/util/function/BiFunction"), accessFlags := 25, slot := 2, constantValue := 0 }]
  methods := #[k11m0]
  instanceTypes := #[]
  staticTypes := #[(.object "java/util/function/BiFunction"), (.object "java/util/function/BiFunction"), (.object "java/util/function/BiFunction")]
  resolved := Array.replicate 194 none
  statics := some 1 }

def pool12 : Array CpInfo := pool [(9, u "<init>"), (6, .class_ 18), (1, u "java/lang/Object"), (0, u "()V"), (1, .class_ 23), (1, u "jdk/internal/util/ArraysSupport"), (0, u "LOG2_ARRAY_LONG_INDEX_SCALE"), (0, u "I"), (2, u "U"), (0, u "Ljdk/internal/misc/Unsafe;"), (8, u "BIG_ENDIAN"), (0, u "Z"), (8, u "LOG2_BYTE_BIT_SIZE"), (4, u "LOG2_ARRAY_INT_INDEX_SCALE"), (54, u "JLA"), (0, u "Ljdk/internal/access/JavaLangAccess;"), (11, u "LOG2_ARRAY_BOOLEAN_INDEX_SCALE"), (9, u "LOG2_ARRAY_BYTE_INDEX_SCALE"), (5, u "LOG2_ARRAY_CHAR_INDEX_SCALE"), (5, u "LOG2_ARRAY_SHORT_INDEX_SCALE"), (18, u "LOG2_ARRAY_FLOAT_INDEX_SCALE"), (24, u "LOG2_ARRAY_DOUBLE_INDEX_SCALE"), (89, u "T_BOOLEAN"), (2, u "T_CHAR"), (1, u "T_FLOAT"), (1, u "T_DOUBLE"), (1, u "T_BYTE"), (1, u "T_SHORT"), (1, u "T_INT"), (1, u "T_LONG"), (1, u "SOFT_MAX_ARRAY_LENGTH")] 83

def k12m0 : Method := { name := "<init>", desc := "()V", sig := { parameters := [], returnType := none }, accessFlags := 2, code := none }
/-- jdk/internal/util/ArraysSupport -/
def k12 : Class := { plain "jdk/internal/util/ArraysSupport" (some 0) with
  accessFlags := 33
  interfaces := #[]
  cf := some (fileOf pool12 21 #[] #[{ accessFlags := 2, nameIndex := 9, descriptorIndex := 19, attributes := #[] }] 33 16 #[] #[{ accessFlags := 24, nameIndex := 28, descriptorIndex := 29, attributes := #[] }, { accessFlags := 26, nameIndex := 38, descriptorIndex := 39, attributes := #[] }, { accessFlags := 25, nameIndex := 121, descriptorIndex := 25, attributes := #[] }, { accessFlags := 25, nameIndex := 131, descriptorIndex := 25, attributes := #[] }, { accessFlags := 25, nameIndex := 137, descriptorIndex := 25, attributes := #[] }, { accessFlags := 25, nameIndex := 143, descriptorIndex := 25, attributes := #[] }, { accessFlags := 25, nameIndex := 53, descriptorIndex := 25, attributes := #[] }, { accessFlags := 25, nameIndex := 24, descriptorIndex := 25, attributes := #[] }, { accessFlags := 25, nameIndex := 162, descriptorIndex := 25, attributes := #[] }, { accessFlags := 25, nameIndex := 187, descriptorIndex := 25, attributes := #[] }, { accessFlags := 26, nameIndex := 48, descriptorIndex := 25, attributes := #[] }, { accessFlags := 25, nameIndex := 277, descriptorIndex := 25, attributes := #[] }, { accessFlags := 25, nameIndex := 280, descriptorIndex := 25, attributes := #[] }, { accessFlags := 25, nameIndex := 282, descriptorIndex := 25, attributes := #[] }, { accessFlags := 25, nameIndex := 284, descriptorIndex := 25, attributes := #[] }, { accessFlags := 25, nameIndex := 286, descriptorIndex := 25, attributes := #[] }, { accessFlags := 25, nameIndex := 288, descriptorIndex := 25, attributes := #[] }, { accessFlags := 25, nameIndex := 290, descriptorIndex := 25, attributes := #[] }, { accessFlags := 25, nameIndex := 292, descriptorIndex := 25, attributes := #[] }, { accessFlags := 26, nameIndex := 108, descriptorIndex := 109, attributes := #[] }, { accessFlags := 25, nameIndex := 294, descriptorIndex := 25, attributes := #[] }])
  fields := #[{ name := "U", type := (.object "jdk/internal/misc/Unsafe"), accessFlags := 24, slot := 0, constantValue := 0 }, { name := "BIG_ENDIAN", type := .boolean, accessFlags := 26, slot := 1, constantValue := 0 }, { name := "LOG2_ARRAY_BOOLEAN_INDEX_SCALE", type := .int, accessFlags := 25, slot := 2, constantValue := 0 }, { name := "LOG2_ARRAY_BYTE_INDEX_SCALE", type := .int, accessFlags := 25, slot := 3, constantValue := 0 }, { name := "LOG2_ARRAY_CHAR_INDEX_SCALE", type := .int, accessFlags := 25, slot := 4, constantValue := 0 }, { name := "LOG2_ARRAY_SHORT_INDEX_SCALE", type := .int, accessFlags := 25, slot := 5, constantValue := 0 }, { name := "LOG2_ARRAY_INT_INDEX_SCALE", type := .int, accessFlags := 25, slot := 6, constantValue := 0 }, { name := "LOG2_ARRAY_LONG_INDEX_SCALE", type := .int, accessFlags := 25, slot := 7, constantValue := 0 }, { name := "LOG2_ARRAY_FLOAT_INDEX_SCALE", type := .int, accessFlags := 25, slot := 8, constantValue := 0 }, { name := "LOG2_ARRAY_DOUBLE_INDEX_SCALE", type := .int, accessFlags := 25, slot := 9, constantValue := 0 }, { name := "LOG2_BYTE_BIT_SIZE", type := .int, accessFlags := 26, slot := 10, constantValue := 0 }, { name := "T_BOOLEAN", type := .int, accessFlags := 25, slot := 11, constantValue := 0 }, { name := "T_CHAR", type := .int, accessFlags := 25, slot := 12, constantValue := 0 }, { name := "T_FLOAT", type := .int, accessFlags := 25, slot := 13, constantValue := 0 }, { name := "T_DOUBLE", type := .int, accessFlags := 25, slot := 14, constantValue := 0 }, { name := "T_BYTE", type := .int, accessFlags := 25, slot := 15, constantValue := 0 }, { name := "T_SHORT", type := .int, accessFlags := 25, slot := 16, constantValue := 0 }, { name := "T_INT", type := .int, accessFlags := 25, slot := 17, constantValue := 0 }, { name := "T_LONG", type := .int, accessFlags := 25, slot := 18, constantValue := 0 }, { name := "JLA", type := (.object "jdk/internal/access/JavaLangAccess"), accessFlags := 26, slot := 19, constantValue := 0 }, { name := "SOFT_MAX_ARRAY_LENGTH", type := .int, accessFlags := 25, slot := 20, constantValue := 0 }]
  methods := #[k12m0]
  instanceTypes := #[]
  staticTypes := #[(.object "jdk/internal/misc/Unsafe"), .boolean, .int, .int, .int, .int, .int, .int, .int, .int, .int, .int, .int, .int, .int, .int, .int, .int, .int, (.object "jdk/internal/access/JavaLangAccess"), .int]
  resolved := Array.replicate 378 none
  statics := none }

def pool13 : Array CpInfo := pool [(1, u "java/lang/Cloneable"), (0, .class_ 1), (0, u "java/lang/Object"), (0, .class_ 3)] 3

/-- java/lang/Cloneable -/
def k13 : Class := { plain "java/lang/Cloneable" (some 0) with
  accessFlags := 1537
  interfaces := #[]
  cf := some (fileOf pool13 2 #[] #[] 1537 4 #[] #[])
  fields := #[]
  methods := #[]
  instanceTypes := #[]
  staticTypes := #[]
  resolved := Array.replicate 8 none
  statics := none }

/-- the primitive byte -/
def k14 : Class := { plain "byte" none with kind := .primitive 'B', accessFlags := 0x411 }
/-- [B -/
def k15 : Class := { plain "[B" (some 0) with kind := .array 14 .byte, interfaces := #[13, 3], accessFlags := 1041 }

/-- the primitive int -/
def k16 : Class := { plain "int" none with kind := .primitive 'I', accessFlags := 0x411 }
/-- [I -/
def k17 : Class := { plain "[I" (some 0) with kind := .array 16 .int, interfaces := #[13, 3], accessFlags := 1041 }

def heap : Heap := #[{ cls := 8, slots := #[.long 0, .int 1, .null, .int 0, .null, .int 0, .int 0], vm := .statics 8 },
  { cls := 11, slots := #[.null, .null, .null], vm := .statics 11 }]
def classes : Array Class := #[k0, k1, k2, k3, k4, k5, k6, k7, k8, k9, k10, k11, k12, k13, k14, k15, k16, k17]
def interned : List (Array UInt16 × Addr) := []
def slotsUsed : Nat := 10
def theMethod : MethodId := ⟨1, 1⟩
def args0 : Array Value := #[.int 5, .int 5]
def aboutOver (below : List Frame) : State where
  vm := { classes := classes, interned := interned.toArray }
  heap := heap
  slotsUsed := slotsUsed
  threads := #[{ frames := .invoking theMethod args0 :: below }]
def below0 : List Frame := [.native { method := ⟨0, 0⟩, args := #[] }]
def about1 : State := aboutOver below0
def p0 : Program := .bare "" "" ""
def e0 : Env := launch0.env 0 0 0
theorem w_frames : about1.frames = Frame.invoking theMethod args0 :: below0 := rfl
set_option maxRecDepth 65536 in
theorem w_args : argsFit about1.vm theMethod args0 = true := by decide +kernel
set_option maxRecDepth 65536 in
theorem w_heap : heapFits about1 = true := by decide +kernel
set_option maxRecDepth 65536 in
theorem w_runnable : about1.curStatus? = some .runnable := by decide +kernel
set_option maxRecDepth 65536 in
theorem w_alone : about1.alone = true := by decide +kernel
set_option maxRecDepth 65536 in
theorem w_named : about1.methodNamed? x = some theMethod := by decide +kernel
set_option maxRecDepth 65536 in
theorem w_hears : about1.hears theMethod below0 = true := by decide +kernel
set_option maxRecDepth 65536 in
theorem w_ripe : about1.ripe theMethod args0 below0 = true := by decide +kernel
theorem w_running : about1.status = .running := rfl
set_option maxRecDepth 65536 in
theorem w_room : about1.hasRoom e0.platform room_1 = true :=
  launch0.hasRoom_least _ room_1 (by decide +kernel) (by decide +kernel) (by decide +kernel) (by decide +kernel) (by decide +kernel) (by decide +kernel)
theorem allAtoms_all (ts : List Jvm.Cond) (a : Array Jvm.Value) (st : Jvm.State) : (allAtoms ts).before a st = ts.all (fun c => c.before a st) := by
  induction ts with
  | nil => rfl
  | cons c t ih =>
    show (Jvm.Cond.and c (allAtoms t)).before a st = _
    rw [Jvm.Cond.before_and, ih, List.all_cons]
def words1 : List Jvm.Cond := Jvm.Cond.code x code maxLocals ret :: tables_1
/-- a 'code' word, met by the world's own term for the bytes: nothing is compared byte by byte -/
theorem code_word {y : MethodName} {bytes : ByteArray} {mx : Nat} {rt : Option FieldType} {a : Array Value} {s : State} {m : MethodId} {meth : Method} {c : Code} (h1 : s.methodNamed? y = some m) (h2 : s.vm.method? m = some meth) (h3 : meth.code = some c) (h4 : c.code = bytes)
    (h5 : (c.maxLocals == mx && c.exceptionTable.isEmpty && decide (c.maxStack ≤ mostOperands) && decide (meth.sig.returnType = rt) && !meth.locks && decide (parseMethodDescriptor y.desc = some meth.sig)) = true) : (Jvm.Cond.code y bytes mx rt).before a s = true := by
  simp only [Bool.and_eq_true, beq_iff_eq, Bool.not_eq_true', decide_eq_true_eq] at h5
  obtain ⟨⟨⟨⟨⟨g1, g2⟩, g3⟩, g4⟩, g5⟩, g6⟩ := h5
  simp [Cond.before, Cond.holds, Cond.value, h1, h2, h3, h4, g1, g2, g3, g4, g5, g6]
def isCode : Jvm.Cond → Bool
  | .code _ _ _ _ => true
  | _ => false
theorem all_split {L : List Jvm.Cond} {P : Jvm.Cond → Bool} (h1 : L.all (fun c => isCode c || P c) = true) (h2 : ∀ c ∈ L.filter isCode, P c = true) : L.all P = true := by
  refine List.all_eq_true.mpr fun c hc => ?_
  have h := List.all_eq_true.mp h1 c hc
  rcases Bool.eq_false_or_eq_true (isCode c) with hi | hi
  · exact h2 c (List.mem_filter.mpr ⟨hc, hi⟩)
  · simpa [hi] using h
set_option maxRecDepth 65536 in
theorem w_c0 : (Jvm.Cond.code x code maxLocals ret).before args0 about1 = true := code_word (m := ⟨1, 1⟩) (meth := k1m1) (c := k1c1) (by decide +kernel) rfl rfl rfl (by decide +kernel)
set_option maxRecDepth 65536 in
theorem w_c1 : (Jvm.Cond.code ({ cls := "com/example/grantline/grantline/PercentEncoding", name := "isUnreserved", desc := "(I)Z" } : Jvm.MethodName) prog_19_method_2_code (1 : Nat) (Option.some Jvm.ClassFile.FieldType.boolean)).before args0 about1 = true := code_word (m := ⟨2, 1⟩) (meth := k2m1) (c := k2c1) (by decide +kernel) rfl rfl rfl (by decide +kernel)
set_option maxRecDepth 65536 in
theorem w_c2 : (Jvm.Cond.code ({ cls := "java/lang/String", name := "indexOf", desc := "(I)I" } : Jvm.MethodName) jdk_42_method_79_code (2 : Nat) (Option.some Jvm.ClassFile.FieldType.int)).before args0 about1 = true := code_word (m := ⟨8, 2⟩) (meth := k8m2) (c := k8c2) (by decide +kernel) rfl rfl rfl (by decide +kernel)
set_option maxRecDepth 65536 in
theorem w_c3 : (Jvm.Cond.code ({ cls := "java/lang/String", name := "indexOf", desc := "(II)I" } : Jvm.MethodName) jdk_42_method_80_code (3 : Nat) (Option.some Jvm.ClassFile.FieldType.int)).before args0 about1 = true := code_word (m := ⟨8, 3⟩) (meth := k8m3) (c := k8c3) (by decide +kernel) rfl rfl rfl (by decide +kernel)
set_option maxRecDepth 65536 in
theorem w_c4 : (Jvm.Cond.code ({ cls := "java/lang/String", name := "isLatin1", desc := "()Z" } : Jvm.MethodName) jdk_42_method_154_code (1 : Nat) (Option.some Jvm.ClassFile.FieldType.boolean)).before args0 about1 = true := code_word (m := ⟨8, 5⟩) (meth := k8m5) (c := k8c5) (by decide +kernel) rfl rfl rfl (by decide +kernel)
set_option maxRecDepth 65536 in
theorem w_c5 : (Jvm.Cond.code ({ cls := "java/lang/String", name := "length", desc := "()I" } : Jvm.MethodName) jdk_42_method_54_code (1 : Nat) (Option.some Jvm.ClassFile.FieldType.int)).before args0 about1 = true := code_word (m := ⟨8, 1⟩) (meth := k8m1) (c := k8c1) (by decide +kernel) rfl rfl rfl (by decide +kernel)
set_option maxRecDepth 65536 in
theorem w_c6 : (Jvm.Cond.code ({ cls := "java/lang/String", name := "coder", desc := "()B" } : Jvm.MethodName) jdk_42_method_152_code (1 : Nat) (Option.some Jvm.ClassFile.FieldType.byte)).before args0 about1 = true := code_word (m := ⟨8, 4⟩) (meth := k8m4) (c := k8c4) (by decide +kernel) rfl rfl rfl (by decide +kernel)
set_option maxRecDepth 65536 in
theorem w_c7 : (Jvm.Cond.code ({ cls := "java/lang/StringLatin1", name := "indexOf", desc := "([BIII)I" } : Jvm.MethodName) jdk_43_method_22_code (4 : Nat) (Option.some Jvm.ClassFile.FieldType.int)).before args0 about1 = true := code_word (m := ⟨9, 2⟩) (meth := k9m2) (c := k9c2) (by decide +kernel) rfl rfl rfl (by decide +kernel)
set_option maxRecDepth 65536 in
theorem w_c8 : (Jvm.Cond.code ({ cls := "java/lang/StringLatin1", name := "canEncode", desc := "(I)Z" } : Jvm.MethodName) jdk_43_method_4_code (1 : Nat) (Option.some Jvm.ClassFile.FieldType.boolean)).before args0 about1 = true := code_word (m := ⟨9, 1⟩) (meth := k9m1) (c := k9c1) (by decide +kernel) rfl rfl rfl (by decide +kernel)
set_option maxRecDepth 65536 in
theorem w_c9 : (Jvm.Cond.code ({ cls := "java/lang/Math", name := "max", desc := "(II)I" } : Jvm.MethodName) jdk_29_method_65_code (2 : Nat) (Option.some Jvm.ClassFile.FieldType.int)).before args0 about1 = true := code_word (m := ⟨10, 1⟩) (meth := k10m1) (c := k10c1) (by decide +kernel) rfl rfl rfl (by decide +kernel)
set_option maxRecDepth 65536 in
theorem w_c10 : (Jvm.Cond.code ({ cls := "java/lang/Math", name := "min", desc := "(II)I" } : Jvm.MethodName) jdk_29_method_69_code (2 : Nat) (Option.some Jvm.ClassFile.FieldType.int)).before args0 about1 = true := code_word (m := ⟨10, 2⟩) (meth := k10m2) (c := k10c2) (by decide +kernel) rfl rfl rfl (by decide +kernel)
set_option maxRecDepth 65536 in
theorem w_c11 : (Jvm.Cond.code ({ cls := "java/lang/StringLatin1", name := "indexOfChar", desc := "([BIII)I" } : Jvm.MethodName) jdk_43_method_23_code (6 : Nat) (Option.some Jvm.ClassFile.FieldType.int)).before args0 about1 = true := code_word (m := ⟨9, 3⟩) (meth := k9m3) (c := k9c3) (by decide +kernel) rfl rfl rfl (by decide +kernel)
set_option maxRecDepth 65536 in
theorem w_c12 : (Jvm.Cond.code ({ cls := "com/example/grantline/grantline/PercentEncodingIsUnreservedPinLaw", name := "expected", desc := "(I)Z" } : Jvm.MethodName) method_3_code (1 : Nat) (Option.some Jvm.ClassFile.FieldType.boolean)).before args0 about1 = true := code_word (m := ⟨1, 2⟩) (meth := k1m2) (c := k1c2) (by decide +kernel) rfl rfl rfl (by decide +kernel)
def codes1 : List Jvm.Cond := [Jvm.Cond.code x code maxLocals ret, Jvm.Cond.code ({ cls := "com/example/grantline/grantline/PercentEncoding", name := "isUnreserved", desc := "(I)Z" } : Jvm.MethodName) prog_19_method_2_code (1 : Nat) (Option.some Jvm.ClassFile.FieldType.boolean), Jvm.Cond.code ({ cls := "java/lang/String", name := "indexOf", desc := "(I)I" } : Jvm.MethodName) jdk_42_method_79_code (2 : Nat) (Option.some Jvm.ClassFile.FieldType.int), Jvm.Cond.code ({ cls := "java/lang/String", name := "indexOf", desc := "(II)I" } : Jvm.MethodName) jdk_42_method_80_code (3 : Nat) (Option.some Jvm.ClassFile.FieldType.int), Jvm.Cond.code ({ cls := "java/lang/String", name := "isLatin1", desc := "()Z" } : Jvm.MethodName) jdk_42_method_154_code (1 : Nat) (Option.some Jvm.ClassFile.FieldType.boolean), Jvm.Cond.code ({ cls := "java/lang/String", name := "length", desc := "()I" } : Jvm.MethodName) jdk_42_method_54_code (1 : Nat) (Option.some Jvm.ClassFile.FieldType.int), Jvm.Cond.code ({ cls := "java/lang/String", name := "coder", desc := "()B" } : Jvm.MethodName) jdk_42_method_152_code (1 : Nat) (Option.some Jvm.ClassFile.FieldType.byte), Jvm.Cond.code ({ cls := "java/lang/StringLatin1", name := "indexOf", desc := "([BIII)I" } : Jvm.MethodName) jdk_43_method_22_code (4 : Nat) (Option.some Jvm.ClassFile.FieldType.int), Jvm.Cond.code ({ cls := "java/lang/StringLatin1", name := "canEncode", desc := "(I)Z" } : Jvm.MethodName) jdk_43_method_4_code (1 : Nat) (Option.some Jvm.ClassFile.FieldType.boolean), Jvm.Cond.code ({ cls := "java/lang/Math", name := "max", desc := "(II)I" } : Jvm.MethodName) jdk_29_method_65_code (2 : Nat) (Option.some Jvm.ClassFile.FieldType.int), Jvm.Cond.code ({ cls := "java/lang/Math", name := "min", desc := "(II)I" } : Jvm.MethodName) jdk_29_method_69_code (2 : Nat) (Option.some Jvm.ClassFile.FieldType.int), Jvm.Cond.code ({ cls := "java/lang/StringLatin1", name := "indexOfChar", desc := "([BIII)I" } : Jvm.MethodName) jdk_43_method_23_code (6 : Nat) (Option.some Jvm.ClassFile.FieldType.int), Jvm.Cond.code ({ cls := "com/example/grantline/grantline/PercentEncodingIsUnreservedPinLaw", name := "expected", desc := "(I)Z" } : Jvm.MethodName) method_3_code (1 : Nat) (Option.some Jvm.ClassFile.FieldType.boolean)]
set_option maxRecDepth 65536 in
theorem codes_eq : words1.filter isCode = codes1 := rfl
theorem w_codes : ∀ c ∈ words1.filter isCode, c.before args0 about1 = true := by
  rw [codes_eq]
  intro c hc
  simp only [codes1, List.mem_cons, List.not_mem_nil, or_false] at hc
  rcases hc with rfl | rfl | rfl | rfl | rfl | rfl | rfl | rfl | rfl | rfl | rfl | rfl | rfl
  · exact w_c0
  · exact w_c1
  · exact w_c2
  · exact w_c3
  · exact w_c4
  · exact w_c5
  · exact w_c6
  · exact w_c7
  · exact w_c8
  · exact w_c9
  · exact w_c10
  · exact w_c11
  · exact w_c12
set_option maxRecDepth 65536 in
theorem w_t1 : (words1.take 24).all (fun c => isCode c || c.before args0 about1) = true := by decide +kernel
set_option maxRecDepth 65536 in
theorem w_t2 : ((words1.drop 24).take 24).all (fun c => isCode c || c.before args0 about1) = true := by decide +kernel
set_option maxRecDepth 65536 in
theorem w_t3 : ((words1.drop 24).drop 24).all (fun c => isCode c || c.before args0 about1) = true := by decide +kernel
theorem w_tables : (allAtoms (Jvm.Cond.code x code maxLocals ret :: tables_1)).before args0 about1 = true := by
  rw [allAtoms_all]
  show words1.all (fun c => c.before args0 about1) = true
  refine all_split ?_ w_codes
  rw [← List.take_append_drop 24 words1, List.all_append, w_t1, ← List.take_append_drop 24 (words1.drop 24), List.all_append, w_t2, w_t3]
  rfl
set_option maxRecDepth 65536 in
theorem w_rest : rest_1_c.before args0 about1 = true := by decide +kernel
set_option maxRecDepth 65536 in
theorem w_case : (Jvm.Cond.and given_1 narrow_1).before args0 about1 = true := by decide +kernel
set_option maxRecDepth 65536 in
theorem w_consts : constsHeld consts_1 about1 := Jvm.Lit.constsHeldB_iff.mp (by decide +kernel)
theorem w_applies : (headSpec (Jvm.Cond.code x code maxLocals ret :: tables_1) room_1).applies x e0.platform about1 = true :=
  (Spec.applies_iff w_frames).mpr ⟨w_running, w_runnable, w_alone, w_named, w_hears, w_ripe, w_room, w_tables⟩
theorem atStart : AtStart classFile x code maxLocals ret World_1 tables_1 room_1 Calls_1 rest_1 Pre_1 launch0 p0 e0 about1 theMethod args0 below0 :=
  ⟨lists_1, trivial, launch0.admits_env _ _ _, launch0.least_env, fairChoices_fair.cas, fairChoices_fair.clock, w_frames, w_args, w_heap, w_applies, ⟨w_consts, trivial⟩, w_rest, w_case⟩
end start1
theorem witness_1 : WitnessClaimed_1 := ⟨start1.p0, start1.e0, start1.about1, start1.theMethod, start1.args0, start1.below0, start1.atStart⟩
end Jvm.Pilot.@@N@@
