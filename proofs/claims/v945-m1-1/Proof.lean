import JvmDerived
import JvmDerived.Pilot.@@N@@Statement
import JvmDerived.Pilot.@@N@@Code
set_option linter.unusedVariables false
set_option linter.unusedSimpArgs false
namespace Jvm.Pilot.@@N@@
open Jvm Jvm.ClassFile Sem Op Lib Jvm.Free Jvm.Stand Jvm.LawKit Jvm.RoadKit Bundle Jvm.Pilot.@@N@@.Jvm.D
theorem d1_0 : decode method_2_code 0 = .ok (.iload_n 0, 1) := by decide +kernel
theorem d1_1 : decode method_2_code 1 = .ok (.ifCond .ne 7, 3) := by decide +kernel
theorem d1_4 : decode method_2_code 4 = .ok (.getstatic 7, 3) := by decide +kernel
theorem d1_7 : decode method_2_code 7 = .ok (.areturn, 1) := by decide +kernel
theorem d1_8 : decode method_2_code 8 = .ok (.iload_n 0, 1) := by decide +kernel
theorem d1_9 : decode method_2_code 9 = .ok (.iconst 1, 1) := by decide +kernel
theorem d1_10 : decode method_2_code 10 = .ok (.if_icmp .ne 7, 3) := by decide +kernel
theorem d1_13 : decode method_2_code 13 = .ok (.getstatic 13, 3) := by decide +kernel
theorem d1_16 : decode method_2_code 16 = .ok (.areturn, 1) := by decide +kernel
theorem d1_17 : decode method_2_code 17 = .ok (.iload_n 0, 1) := by decide +kernel
theorem d1_18 : decode method_2_code 18 = .ok (.iconst 2, 1) := by decide +kernel
theorem d1_19 : decode method_2_code 19 = .ok (.if_icmp .ne 7, 3) := by decide +kernel
theorem d1_22 : decode method_2_code 22 = .ok (.getstatic 16, 3) := by decide +kernel
theorem d1_25 : decode method_2_code 25 = .ok (.areturn, 1) := by decide +kernel
theorem d1_26 : decode method_2_code 26 = .ok (.iload_n 0, 1) := by decide +kernel
theorem d1_27 : decode method_2_code 27 = .ok (.iconst 3, 1) := by decide +kernel
theorem d1_28 : decode method_2_code 28 = .ok (.if_icmp .ne 7, 3) := by decide +kernel
theorem d1_31 : decode method_2_code 31 = .ok (.getstatic 19, 3) := by decide +kernel
theorem d1_34 : decode method_2_code 34 = .ok (.areturn, 1) := by decide +kernel
theorem d1_35 : decode method_2_code 35 = .ok (.iload_n 0, 1) := by decide +kernel
theorem d1_36 : decode method_2_code 36 = .ok (.iconst 4, 1) := by decide +kernel
theorem d1_37 : decode method_2_code 37 = .ok (.if_icmp .ne 7, 3) := by decide +kernel
theorem d1_40 : decode method_2_code 40 = .ok (.getstatic 22, 3) := by decide +kernel
theorem d1_43 : decode method_2_code 43 = .ok (.areturn, 1) := by decide +kernel
theorem d1_44 : decode method_2_code 44 = .ok (.getstatic 25, 3) := by decide +kernel
theorem d1_47 : decode method_2_code 47 = .ok (.areturn, 1) := by decide +kernel
theorem pn_1 : plainName "com/example/project_roster/projectroster/model/ComparisonOrderingPinLaw" = true := by first | (simp [plainName, overriddenIn]; done) | decide +kernel
theorem ef_1 (m : MethodId) (p1 : Int32) : entryFrame m #[(.int p1)] 1 = mkF m 0 #[.val (.int p1)] [] := by first | (simp [entryFrame, mkF, argsToLocals, Value.category]; done) | rfl
def rv1 (p1 : Int32) (wEQ : Addr) (wNE : Addr) (wLT : Addr) (wLE : Addr) (wGT : Addr) (wGE : Addr) : Addr :=
  if p1 = 0 then wEQ else if p1 = (1 : Int32) then wNE else if p1 = (2 : Int32) then wLT else if p1 = (3 : Int32) then wLE else if p1 = (4 : Int32) then wGT else wGE
def Q1 (Z : State) (p1 : Int32) (wEQ : Addr) (wNE : Addr) (wLT : Addr) (wLE : Addr) (wGT : Addr) (wGE : Addr) (h0 : Heap) (n0 : Nat) (v : Option Value) (h : Heap) (L : List Loc) : Prop := v = some (.ref (rv1 p1 wEQ wNE wLT wLE wGT wGE)) ∧ Fr n0 L ∧ h = h0
set_option maxRecDepth 65536 in
set_option maxHeartbeats 40000000 in
theorem rm1 (l : Launch) (Z : State) (a0 : Array Value) (hw : ∀ d ∈ tables_1, d.before a0 Z = true) (ws : List Jvm.Cond) (p1 : Int32) (wEQ : Addr) (wNE : Addr) (wLT : Addr) (wLE : Addr) (wGT : Addr) (wGE : Addr) (h0 : Heap) (n0 : Nat) (Z0 : n0 ≤ h0.size) (S_EQ : Sta Z h0 "com/example/project_roster/projectroster/model/Filter$Comparison" "EQ" "Lcom/example/project_roster/projectroster/model/Filter$Comparison;" (.ref wEQ)) (S_NE : Sta Z h0 "com/example/project_roster/projectroster/model/Filter$Comparison" "NE" "Lcom/example/project_roster/projectroster/model/Filter$Comparison;" (.ref wNE)) (S_LT : Sta Z h0 "com/example/project_roster/projectroster/model/Filter$Comparison" "LT" "Lcom/example/project_roster/projectroster/model/Filter$Comparison;" (.ref wLT)) (S_LE : Sta Z h0 "com/example/project_roster/projectroster/model/Filter$Comparison" "LE" "Lcom/example/project_roster/projectroster/model/Filter$Comparison;" (.ref wLE)) (S_GT : Sta Z h0 "com/example/project_roster/projectroster/model/Filter$Comparison" "GT" "Lcom/example/project_roster/projectroster/model/Filter$Comparison;" (.ref wGT)) (S_GE : Sta Z h0 "com/example/project_roster/projectroster/model/Filter$Comparison" "GE" "Lcom/example/project_roster/projectroster/model/Filter$Comparison;" (.ref wGE)) :
    MetFree l (⟨"com/example/project_roster/projectroster/model/ComparisonOrderingPinLaw", "pick", "(I)Lcom/example/project_roster/projectroster/model/Filter$Comparison;"⟩ : MethodName) (head1 (Jvm.Cond.code (⟨"com/example/project_roster/projectroster/model/ComparisonOrderingPinLaw", "pick", "(I)Lcom/example/project_roster/projectroster/model/Filter$Comparison;"⟩ : MethodName) method_2_code 1 (some (.object "com/example/project_roster/projectroster/model/Filter$Comparison")) :: ws) ({ frames := 0, cells := 0, slots := 0, locals := 0 } : Room)) (fun a U => a = #[(.int p1)] ∧ Z.Warmed39 U.vm ∧ U.heap = h0) (fun _ _ _ _ _ => True) (fun _ U o U' => ∃ v L, o = .returned v ∧ Q1 Z p1 wEQ wNE wLT wLE wGT wGE h0 n0 v U'.heap L ∧ FrameEnd U o U' L ({ frames := 0, cells := 0, slots := 0, locals := 0 } : Room).cells ({ frames := 0, cells := 0, slots := 0, locals := 0 } : Room).slots) := by
  refine MetFree.of_bodySF (plainFor_of_name pn_1) hisR ?_
  intro p e s m args below meth c s₁ Bd hml0 hP hK
  obtain ⟨rfl, hZ, hh⟩ := hP
  have hx := Bd.exec
  have hby := Bd.bytes
  have hml : c.maxLocals = 1 := hml0
  have hown : s.vm.findClass "com/example/project_roster/projectroster/model/ComparisonOrderingPinLaw" = some m.cls := findClass_of_methodNamed Bd.named
  have hnm := (name_of_methodNamed Bd.named Bd.method).1
  have X0 : Stand p l e ({ frames := 0, cells := 0, slots := 0, locals := 0 } : Room) s m #[(.int p1)] below meth c s₁ [] 0 0 := Stand.of_body Bd
  have e0 : s₁.heap = h0 := by rw [← hh, Bd.state]; rfl
  have N0 := Fr.nil n0
  have K0 : Keep h0 h0 [] := Keep.refl _ _
  have pre0 : ∀ t, Steps p.tables e below (s₁.setTop (mkF m 0 #[.val (.int p1)] [])) t → Steps p.tables e below (s₁.setTop (entryFrame m #[(.int p1)] 1)) t := fun t k => castTop (ef_1 m p1) k
  have st2 : ∀ t, Steps p.tables e below (s₁.setTop (mkF m 1 #[.val (.int p1)] [(.int p1)])) t → Steps p.tables e below (s₁.setTop (mkF m 0 #[.val (.int p1)] [])) t := by
    intro t kt
    show Steps p.tables e below (s₁.setTop (mkF m 0 #[.val (.int p1)] [])) t
    refine XS.iloadN X0.here hx rfl (hb hby d1_0) rfl ?_
    exact kt
  by_cases hc1_1 : p1 = 0
  · -- pc 1: p1 = 0
    have st3 : ∀ t, Steps p.tables e below (s₁.setTop (mkF m 4 #[.val (.int p1)] [])) t → Steps p.tables e below (s₁.setTop (mkF m 1 #[.val (.int p1)] [(.int p1)])) t := by
      intro t kt
      show Steps p.tables e below (s₁.setTop (mkF m 1 #[.val (.int p1)] [(.int p1)])) t
      refine XS.ifNo X0.here hx rfl (hb hby d1_1) rfl (XT.i0_ne_f hc1_1) ?_
      exact kt
    obtain ⟨T4, X4, e4, st4⟩ := getS2 X0 hx hZ hown (host := "") (Or.inl (hw _ (List.mem_of_getElem? (i := 5) rfl))) Via.refl e0 S_EQ (g := (mkF m 4 #[.val (.int p1)] [])) rfl (hb hby d1_4)
    obtain ⟨fs, hr, hrun, hended, hW, hsame⟩ := X4.leave (v := some (.ref wEQ)) (fun h => by rw [Bd.returns] at h; cases h)
    refine ⟨_, _, pre0 _ ?_, hrun, hended, _, _, rfl, ?_, ⟨_, rfl⟩, hW, hsame.mono (by decide) (by decide)⟩
    · refine st2 _ ?_
      refine st3 _ ?_
      show Steps p.tables e below (s₁.setTop (mkF m 4 #[.val (.int p1)] [])) _
      refine st4 _ ?_
      show Steps p.tables e below (T4.setTop (mkF m 7 #[.val (.int p1)] [(.ref wEQ)])) _
      exact retOut X4 hx Bd.returns rfl (Or.inr (Or.inr (Or.inr (Or.inr ⟨rfl, rfl, rfl⟩)))) (hb hby d1_7) hr
    · show Q1 Z p1 wEQ wNE wLT wLE wGT wGE h0 n0 _ T4.heap _
      rw [e4]
      refine ⟨?_, N0, rfl⟩
      simp only [rv1, if_pos hc1_1]
  · -- pc 1: not p1 = 0
    have st6 : ∀ t, Steps p.tables e below (s₁.setTop (mkF m 10 #[.val (.int p1)] [(.int (1 : Int32)), (.int p1)])) t → Steps p.tables e below (s₁.setTop (mkF m 1 #[.val (.int p1)] [(.int p1)])) t := by
      intro t kt
      show Steps p.tables e below (s₁.setTop (mkF m 1 #[.val (.int p1)] [(.int p1)])) t
      refine XS.ifYes X0.here hx rfl (pc0 := 1) (pc' := 8) rfl (hb hby d1_1) rfl (XT.i0_ne_t hc1_1) (by decide) (by decide) ?_
      show Steps p.tables e below (s₁.setTop (mkF m 8 #[.val (.int p1)] [])) t
      refine XS.iloadN X0.here hx rfl (hb hby d1_8) rfl ?_
      show Steps p.tables e below (s₁.setTop (mkF m 9 #[.val (.int p1)] [(.int p1)])) t
      refine XS.iconst X0.here hx rfl (hb hby d1_9) ?_
      exact kt
    by_cases hc10_5 : p1 = (1 : Int32)
    · -- pc 10: p1 = (1 : Int32)
      have st7 : ∀ t, Steps p.tables e below (s₁.setTop (mkF m 13 #[.val (.int p1)] [])) t → Steps p.tables e below (s₁.setTop (mkF m 10 #[.val (.int p1)] [(.int (1 : Int32)), (.int p1)])) t := by
        intro t kt
        show Steps p.tables e below (s₁.setTop (mkF m 10 #[.val (.int p1)] [(.int (1 : Int32)), (.int p1)])) t
        refine XS.icmpNo X0.here hx rfl (hb hby d1_10) rfl (XT.ii_ne_f hc10_5) ?_
        exact kt
      obtain ⟨T8, X8, e8, st8⟩ := getS2 X0 hx hZ hown (host := "") (Or.inl (hw _ (List.mem_of_getElem? (i := 20) rfl))) Via.refl e0 S_NE (g := (mkF m 13 #[.val (.int p1)] [])) rfl (hb hby d1_13)
      obtain ⟨fs, hr, hrun, hended, hW, hsame⟩ := X8.leave (v := some (.ref wNE)) (fun h => by rw [Bd.returns] at h; cases h)
      refine ⟨_, _, pre0 _ ?_, hrun, hended, _, _, rfl, ?_, ⟨_, rfl⟩, hW, hsame.mono (by decide) (by decide)⟩
      · refine st2 _ ?_
        refine st6 _ ?_
        refine st7 _ ?_
        show Steps p.tables e below (s₁.setTop (mkF m 13 #[.val (.int p1)] [])) _
        refine st8 _ ?_
        show Steps p.tables e below (T8.setTop (mkF m 16 #[.val (.int p1)] [(.ref wNE)])) _
        exact retOut X8 hx Bd.returns rfl (Or.inr (Or.inr (Or.inr (Or.inr ⟨rfl, rfl, rfl⟩)))) (hb hby d1_16) hr
      · show Q1 Z p1 wEQ wNE wLT wLE wGT wGE h0 n0 _ T8.heap _
        rw [e8]
        refine ⟨?_, N0, rfl⟩
        simp only [rv1, if_neg hc1_1, if_pos hc10_5]
    · -- pc 10: not p1 = (1 : Int32)
      have st10 : ∀ t, Steps p.tables e below (s₁.setTop (mkF m 19 #[.val (.int p1)] [(.int (2 : Int32)), (.int p1)])) t → Steps p.tables e below (s₁.setTop (mkF m 10 #[.val (.int p1)] [(.int (1 : Int32)), (.int p1)])) t := by
        intro t kt
        show Steps p.tables e below (s₁.setTop (mkF m 10 #[.val (.int p1)] [(.int (1 : Int32)), (.int p1)])) t
        refine XS.icmpYes X0.here hx rfl (pc0 := 10) (pc' := 17) rfl (hb hby d1_10) rfl (XT.ii_ne_t hc10_5) (by decide) (by decide) ?_
        show Steps p.tables e below (s₁.setTop (mkF m 17 #[.val (.int p1)] [])) t
        refine XS.iloadN X0.here hx rfl (hb hby d1_17) rfl ?_
        show Steps p.tables e below (s₁.setTop (mkF m 18 #[.val (.int p1)] [(.int p1)])) t
        refine XS.iconst X0.here hx rfl (hb hby d1_18) ?_
        exact kt
      by_cases hc19_9 : p1 = (2 : Int32)
      · -- pc 19: p1 = (2 : Int32)
        have st11 : ∀ t, Steps p.tables e below (s₁.setTop (mkF m 22 #[.val (.int p1)] [])) t → Steps p.tables e below (s₁.setTop (mkF m 19 #[.val (.int p1)] [(.int (2 : Int32)), (.int p1)])) t := by
          intro t kt
          show Steps p.tables e below (s₁.setTop (mkF m 19 #[.val (.int p1)] [(.int (2 : Int32)), (.int p1)])) t
          refine XS.icmpNo X0.here hx rfl (hb hby d1_19) rfl (XT.ii_ne_f hc19_9) ?_
          exact kt
        obtain ⟨T12, X12, e12, st12⟩ := getS2 X0 hx hZ hown (host := "") (Or.inl (hw _ (List.mem_of_getElem? (i := 18) rfl))) Via.refl e0 S_LT (g := (mkF m 22 #[.val (.int p1)] [])) rfl (hb hby d1_22)
        obtain ⟨fs, hr, hrun, hended, hW, hsame⟩ := X12.leave (v := some (.ref wLT)) (fun h => by rw [Bd.returns] at h; cases h)
        refine ⟨_, _, pre0 _ ?_, hrun, hended, _, _, rfl, ?_, ⟨_, rfl⟩, hW, hsame.mono (by decide) (by decide)⟩
        · refine st2 _ ?_
          refine st6 _ ?_
          refine st10 _ ?_
          refine st11 _ ?_
          show Steps p.tables e below (s₁.setTop (mkF m 22 #[.val (.int p1)] [])) _
          refine st12 _ ?_
          show Steps p.tables e below (T12.setTop (mkF m 25 #[.val (.int p1)] [(.ref wLT)])) _
          exact retOut X12 hx Bd.returns rfl (Or.inr (Or.inr (Or.inr (Or.inr ⟨rfl, rfl, rfl⟩)))) (hb hby d1_25) hr
        · show Q1 Z p1 wEQ wNE wLT wLE wGT wGE h0 n0 _ T12.heap _
          rw [e12]
          refine ⟨?_, N0, rfl⟩
          simp only [rv1, if_neg hc1_1, if_neg hc10_5, if_pos hc19_9]
      · -- pc 19: not p1 = (2 : Int32)
        have st14 : ∀ t, Steps p.tables e below (s₁.setTop (mkF m 28 #[.val (.int p1)] [(.int (3 : Int32)), (.int p1)])) t → Steps p.tables e below (s₁.setTop (mkF m 19 #[.val (.int p1)] [(.int (2 : Int32)), (.int p1)])) t := by
          intro t kt
          show Steps p.tables e below (s₁.setTop (mkF m 19 #[.val (.int p1)] [(.int (2 : Int32)), (.int p1)])) t
          refine XS.icmpYes X0.here hx rfl (pc0 := 19) (pc' := 26) rfl (hb hby d1_19) rfl (XT.ii_ne_t hc19_9) (by decide) (by decide) ?_
          show Steps p.tables e below (s₁.setTop (mkF m 26 #[.val (.int p1)] [])) t
          refine XS.iloadN X0.here hx rfl (hb hby d1_26) rfl ?_
          show Steps p.tables e below (s₁.setTop (mkF m 27 #[.val (.int p1)] [(.int p1)])) t
          refine XS.iconst X0.here hx rfl (hb hby d1_27) ?_
          exact kt
        by_cases hc28_13 : p1 = (3 : Int32)
        · -- pc 28: p1 = (3 : Int32)
          have st15 : ∀ t, Steps p.tables e below (s₁.setTop (mkF m 31 #[.val (.int p1)] [])) t → Steps p.tables e below (s₁.setTop (mkF m 28 #[.val (.int p1)] [(.int (3 : Int32)), (.int p1)])) t := by
            intro t kt
            show Steps p.tables e below (s₁.setTop (mkF m 28 #[.val (.int p1)] [(.int (3 : Int32)), (.int p1)])) t
            refine XS.icmpNo X0.here hx rfl (hb hby d1_28) rfl (XT.ii_ne_f hc28_13) ?_
            exact kt
          obtain ⟨T16, X16, e16, st16⟩ := getS2 X0 hx hZ hown (host := "") (Or.inl (hw _ (List.mem_of_getElem? (i := 14) rfl))) Via.refl e0 S_LE (g := (mkF m 31 #[.val (.int p1)] [])) rfl (hb hby d1_31)
          obtain ⟨fs, hr, hrun, hended, hW, hsame⟩ := X16.leave (v := some (.ref wLE)) (fun h => by rw [Bd.returns] at h; cases h)
          refine ⟨_, _, pre0 _ ?_, hrun, hended, _, _, rfl, ?_, ⟨_, rfl⟩, hW, hsame.mono (by decide) (by decide)⟩
          · refine st2 _ ?_
            refine st6 _ ?_
            refine st10 _ ?_
            refine st14 _ ?_
            refine st15 _ ?_
            show Steps p.tables e below (s₁.setTop (mkF m 31 #[.val (.int p1)] [])) _
            refine st16 _ ?_
            show Steps p.tables e below (T16.setTop (mkF m 34 #[.val (.int p1)] [(.ref wLE)])) _
            exact retOut X16 hx Bd.returns rfl (Or.inr (Or.inr (Or.inr (Or.inr ⟨rfl, rfl, rfl⟩)))) (hb hby d1_34) hr
          · show Q1 Z p1 wEQ wNE wLT wLE wGT wGE h0 n0 _ T16.heap _
            rw [e16]
            refine ⟨?_, N0, rfl⟩
            simp only [rv1, if_neg hc1_1, if_neg hc10_5, if_neg hc19_9, if_pos hc28_13]
        · -- pc 28: not p1 = (3 : Int32)
          have st18 : ∀ t, Steps p.tables e below (s₁.setTop (mkF m 37 #[.val (.int p1)] [(.int (4 : Int32)), (.int p1)])) t → Steps p.tables e below (s₁.setTop (mkF m 28 #[.val (.int p1)] [(.int (3 : Int32)), (.int p1)])) t := by
            intro t kt
            show Steps p.tables e below (s₁.setTop (mkF m 28 #[.val (.int p1)] [(.int (3 : Int32)), (.int p1)])) t
            refine XS.icmpYes X0.here hx rfl (pc0 := 28) (pc' := 35) rfl (hb hby d1_28) rfl (XT.ii_ne_t hc28_13) (by decide) (by decide) ?_
            show Steps p.tables e below (s₁.setTop (mkF m 35 #[.val (.int p1)] [])) t
            refine XS.iloadN X0.here hx rfl (hb hby d1_35) rfl ?_
            show Steps p.tables e below (s₁.setTop (mkF m 36 #[.val (.int p1)] [(.int p1)])) t
            refine XS.iconst X0.here hx rfl (hb hby d1_36) ?_
            exact kt
          by_cases hc37_17 : p1 = (4 : Int32)
          · -- pc 37: p1 = (4 : Int32)
            have st19 : ∀ t, Steps p.tables e below (s₁.setTop (mkF m 40 #[.val (.int p1)] [])) t → Steps p.tables e below (s₁.setTop (mkF m 37 #[.val (.int p1)] [(.int (4 : Int32)), (.int p1)])) t := by
              intro t kt
              show Steps p.tables e below (s₁.setTop (mkF m 37 #[.val (.int p1)] [(.int (4 : Int32)), (.int p1)])) t
              refine XS.icmpNo X0.here hx rfl (hb hby d1_37) rfl (XT.ii_ne_f hc37_17) ?_
              exact kt
            obtain ⟨T20, X20, e20, st20⟩ := getS2 X0 hx hZ hown (host := "") (Or.inl (hw _ (List.mem_of_getElem? (i := 23) rfl))) Via.refl e0 S_GT (g := (mkF m 40 #[.val (.int p1)] [])) rfl (hb hby d1_40)
            obtain ⟨fs, hr, hrun, hended, hW, hsame⟩ := X20.leave (v := some (.ref wGT)) (fun h => by rw [Bd.returns] at h; cases h)
            refine ⟨_, _, pre0 _ ?_, hrun, hended, _, _, rfl, ?_, ⟨_, rfl⟩, hW, hsame.mono (by decide) (by decide)⟩
            · refine st2 _ ?_
              refine st6 _ ?_
              refine st10 _ ?_
              refine st14 _ ?_
              refine st18 _ ?_
              refine st19 _ ?_
              show Steps p.tables e below (s₁.setTop (mkF m 40 #[.val (.int p1)] [])) _
              refine st20 _ ?_
              show Steps p.tables e below (T20.setTop (mkF m 43 #[.val (.int p1)] [(.ref wGT)])) _
              exact retOut X20 hx Bd.returns rfl (Or.inr (Or.inr (Or.inr (Or.inr ⟨rfl, rfl, rfl⟩)))) (hb hby d1_43) hr
            · show Q1 Z p1 wEQ wNE wLT wLE wGT wGE h0 n0 _ T20.heap _
              rw [e20]
              refine ⟨?_, N0, rfl⟩
              simp only [rv1, if_neg hc1_1, if_neg hc10_5, if_neg hc19_9, if_neg hc28_13, if_pos hc37_17]
          · -- pc 37: not p1 = (4 : Int32)
            have st21 : ∀ t, Steps p.tables e below (s₁.setTop (mkF m 44 #[.val (.int p1)] [])) t → Steps p.tables e below (s₁.setTop (mkF m 37 #[.val (.int p1)] [(.int (4 : Int32)), (.int p1)])) t := by
              intro t kt
              show Steps p.tables e below (s₁.setTop (mkF m 37 #[.val (.int p1)] [(.int (4 : Int32)), (.int p1)])) t
              refine XS.icmpYes X0.here hx rfl (pc0 := 37) (pc' := 44) rfl (hb hby d1_37) rfl (XT.ii_ne_t hc37_17) (by decide) (by decide) ?_
              exact kt
            obtain ⟨T22, X22, e22, st22⟩ := getS2 X0 hx hZ hown (host := "") (Or.inl (hw _ (List.mem_of_getElem? (i := 21) rfl))) Via.refl e0 S_GE (g := (mkF m 44 #[.val (.int p1)] [])) rfl (hb hby d1_44)
            obtain ⟨fs, hr, hrun, hended, hW, hsame⟩ := X22.leave (v := some (.ref wGE)) (fun h => by rw [Bd.returns] at h; cases h)
            refine ⟨_, _, pre0 _ ?_, hrun, hended, _, _, rfl, ?_, ⟨_, rfl⟩, hW, hsame.mono (by decide) (by decide)⟩
            · refine st2 _ ?_
              refine st6 _ ?_
              refine st10 _ ?_
              refine st14 _ ?_
              refine st18 _ ?_
              refine st21 _ ?_
              show Steps p.tables e below (s₁.setTop (mkF m 44 #[.val (.int p1)] [])) _
              refine st22 _ ?_
              show Steps p.tables e below (T22.setTop (mkF m 47 #[.val (.int p1)] [(.ref wGE)])) _
              exact retOut X22 hx Bd.returns rfl (Or.inr (Or.inr (Or.inr (Or.inr ⟨rfl, rfl, rfl⟩)))) (hb hby d1_47) hr
            · show Q1 Z p1 wEQ wNE wLT wLE wGT wGE h0 n0 _ T22.heap _
              rw [e22]
              refine ⟨?_, N0, rfl⟩
              simp only [rv1, if_neg hc1_1, if_neg hc10_5, if_neg hc19_9, if_neg hc28_13, if_neg hc37_17]
theorem d2_0 : decode prog_96_method_4_code 0 = .ok (.aload_n 0, 1) := by decide +kernel
theorem d2_1 : decode prog_96_method_4_code 1 = .ok (.getstatic 3, 3) := by decide +kernel
theorem d2_4 : decode prog_96_method_4_code 4 = .ok (.if_acmp .eq 14, 3) := by decide +kernel
theorem d2_7 : decode prog_96_method_4_code 7 = .ok (.aload_n 0, 1) := by decide +kernel
theorem d2_8 : decode prog_96_method_4_code 8 = .ok (.getstatic 7, 3) := by decide +kernel
theorem d2_11 : decode prog_96_method_4_code 11 = .ok (.if_acmp .eq 7, 3) := by decide +kernel
theorem d2_14 : decode prog_96_method_4_code 14 = .ok (.iconst 1, 1) := by decide +kernel
theorem d2_15 : decode prog_96_method_4_code 15 = .ok (.goto 4, 3) := by decide +kernel
theorem d2_18 : decode prog_96_method_4_code 18 = .ok (.iconst 0, 1) := by decide +kernel
theorem d2_19 : decode prog_96_method_4_code 19 = .ok (.ireturn, 1) := by decide +kernel
theorem pn_2 : plainName "com/example/project_roster/projectroster/model/Filter$Comparison" = true := by first | (simp [plainName, overriddenIn]; done) | decide +kernel
theorem ef_2 (m : MethodId) (a1 : Addr) : entryFrame m #[(.ref a1)] 1 = mkF m 0 #[.val (.ref a1)] [] := by first | (simp [entryFrame, mkF, argsToLocals, Value.category]; done) | rfl
def rv2 (a1 : Addr) (wEQ : Addr) (wNE : Addr) : Int32 :=
  if a1 = wEQ then (0 : Int32) else if a1 = wNE then (0 : Int32) else (1 : Int32)
def Q2 (Z : State) (a1 : Addr) (wEQ : Addr) (wNE : Addr) (h0 : Heap) (n0 : Nat) (v : Option Value) (h : Heap) (L : List Loc) : Prop := v = some (.int (rv2 a1 wEQ wNE)) ∧ Fr n0 L ∧ h = h0
set_option maxRecDepth 65536 in
set_option maxHeartbeats 40000000 in
theorem rm2 (l : Launch) (Z : State) (a0 : Array Value) (hw : ∀ d ∈ tables_1, d.before a0 Z = true) (ws : List Jvm.Cond) (a1 : Addr) (wEQ : Addr) (wNE : Addr) (h0 : Heap) (n0 : Nat) (Z0 : n0 ≤ h0.size) (S_EQ : Sta Z h0 "com/example/project_roster/projectroster/model/Filter$Comparison" "EQ" "Lcom/example/project_roster/projectroster/model/Filter$Comparison;" (.ref wEQ)) (S_NE : Sta Z h0 "com/example/project_roster/projectroster/model/Filter$Comparison" "NE" "Lcom/example/project_roster/projectroster/model/Filter$Comparison;" (.ref wNE)) :
    MetFree l (⟨"com/example/project_roster/projectroster/model/Filter$Comparison", "ordering", "()Z"⟩ : MethodName) (head1 (Jvm.Cond.code (⟨"com/example/project_roster/projectroster/model/Filter$Comparison", "ordering", "()Z"⟩ : MethodName) prog_96_method_4_code 1 (some .boolean) :: ws) ({ frames := 0, cells := 0, slots := 0, locals := 0 } : Room)) (fun a U => a = #[(.ref a1)] ∧ Z.Warmed39 U.vm ∧ U.heap = h0) (fun _ _ _ _ _ => True) (fun _ U o U' => ∃ v L, o = .returned v ∧ Q2 Z a1 wEQ wNE h0 n0 v U'.heap L ∧ FrameEnd U o U' L ({ frames := 0, cells := 0, slots := 0, locals := 0 } : Room).cells ({ frames := 0, cells := 0, slots := 0, locals := 0 } : Room).slots) := by
  refine MetFree.of_bodySF (plainFor_of_name pn_2) hisR ?_
  intro p e s m args below meth c s₁ Bd hml0 hP hK
  obtain ⟨rfl, hZ, hh⟩ := hP
  have hx := Bd.exec
  have hby := Bd.bytes
  have hml : c.maxLocals = 1 := hml0
  have hown : s.vm.findClass "com/example/project_roster/projectroster/model/Filter$Comparison" = some m.cls := findClass_of_methodNamed Bd.named
  have hnm := (name_of_methodNamed Bd.named Bd.method).1
  have X0 : Stand p l e ({ frames := 0, cells := 0, slots := 0, locals := 0 } : Room) s m #[(.ref a1)] below meth c s₁ [] 0 0 := Stand.of_body Bd
  have e0 : s₁.heap = h0 := by rw [← hh, Bd.state]; rfl
  have N0 := Fr.nil n0
  have K0 : Keep h0 h0 [] := Keep.refl _ _
  have pre0 : ∀ t, Steps p.tables e below (s₁.setTop (mkF m 0 #[.val (.ref a1)] [])) t → Steps p.tables e below (s₁.setTop (entryFrame m #[(.ref a1)] 1)) t := fun t k => castTop (ef_2 m a1) k
  have st1 : ∀ t, Steps p.tables e below (s₁.setTop (mkF m 1 #[.val (.ref a1)] [(.ref a1)])) t → Steps p.tables e below (s₁.setTop (mkF m 0 #[.val (.ref a1)] [])) t := by
    intro t kt
    show Steps p.tables e below (s₁.setTop (mkF m 0 #[.val (.ref a1)] [])) t
    refine XS.aloadN X0.here hx rfl (hb hby d2_0) rfl rfl ?_
    exact kt
  obtain ⟨T2, X2, e2, st2⟩ := getS2 X0 hx hZ hown (host := "") (Or.inl (hw _ (List.mem_of_getElem? (i := 13) rfl))) Via.refl e0 S_EQ (g := (mkF m 1 #[.val (.ref a1)] [(.ref a1)])) rfl (hb hby d2_1)
  by_cases hc4_3 : a1 = wEQ
  · -- pc 4: a1 = wEQ
    have st4 : ∀ t, Steps p.tables e below (T2.setTop (mkF m 19 #[.val (.ref a1)] [(.int (0 : Int32))])) t → Steps p.tables e below (T2.setTop (mkF m 4 #[.val (.ref a1)] [(.ref wEQ), (.ref a1)])) t := by
      intro t kt
      show Steps p.tables e below (T2.setTop (mkF m 4 #[.val (.ref a1)] [(.ref wEQ), (.ref a1)])) t
      refine Jvm.RoadKit.acmp (g := (mkF m 4 #[.val (.ref a1)] [(.ref wEQ), (.ref a1)])) X2 hx rfl rfl rfl (pc0 := 4) (pc' := 18) (same := true) rfl (hb hby d2_4) rfl (decide_eq_true (congrArg Value.ref hc4_3)) (by decide) (by decide) ?_
      show Steps p.tables e below (T2.setTop (mkF m 18 #[.val (.ref a1)] [])) t
      refine XS.iconst X2.here hx rfl (hb hby d2_18) ?_
      exact kt
    obtain ⟨fs, hr, hrun, hended, hW, hsame⟩ := X2.leave (v := some (.int (0 : Int32))) (fun h => by rw [Bd.returns] at h; cases h)
    refine ⟨_, _, pre0 _ ?_, hrun, hended, _, _, rfl, ?_, ⟨_, rfl⟩, hW, hsame.mono (by decide) (by decide)⟩
    · refine st1 _ ?_
      show Steps p.tables e below (s₁.setTop (mkF m 1 #[.val (.ref a1)] [(.ref a1)])) _
      refine st2 _ ?_
      refine st4 _ ?_
      show Steps p.tables e below (T2.setTop (mkF m 19 #[.val (.ref a1)] [(.int (0 : Int32))])) _
      exact retN X2 hx (t := .boolean) Bd.returns (by simp) (hb hby d2_19) hr
    · show Q2 Z a1 wEQ wNE h0 n0 _ T2.heap _
      rw [e2]
      refine ⟨?_, N0, rfl⟩
      simp only [rv2, if_pos hc4_3]
  · -- pc 4: not a1 = wEQ
    have st5 : ∀ t, Steps p.tables e below (T2.setTop (mkF m 8 #[.val (.ref a1)] [(.ref a1)])) t → Steps p.tables e below (T2.setTop (mkF m 4 #[.val (.ref a1)] [(.ref wEQ), (.ref a1)])) t := by
      intro t kt
      show Steps p.tables e below (T2.setTop (mkF m 4 #[.val (.ref a1)] [(.ref wEQ), (.ref a1)])) t
      refine Jvm.RoadKit.acmp (g := (mkF m 4 #[.val (.ref a1)] [(.ref wEQ), (.ref a1)])) X2 hx rfl rfl rfl (pc0 := 4) (pc' := 7) (same := false) rfl (hb hby d2_4) rfl (decide_eq_false fun q => hc4_3 (Value.ref.inj q)) (by decide) (by decide) ?_
      show Steps p.tables e below (T2.setTop (mkF m 7 #[.val (.ref a1)] [])) t
      refine XS.aloadN X2.here hx rfl (hb hby d2_7) rfl rfl ?_
      exact kt
    obtain ⟨T6, X6, e6, st6⟩ := getS2 X2 hx hZ hown (host := "") (Or.inl (hw _ (List.mem_of_getElem? (i := 16) rfl))) Via.refl e2 S_NE (g := (mkF m 8 #[.val (.ref a1)] [(.ref a1)])) rfl (hb hby d2_8)
    by_cases hc11_7 : a1 = wNE
    · -- pc 11: a1 = wNE
      have st8 : ∀ t, Steps p.tables e below (T6.setTop (mkF m 19 #[.val (.ref a1)] [(.int (0 : Int32))])) t → Steps p.tables e below (T6.setTop (mkF m 11 #[.val (.ref a1)] [(.ref wNE), (.ref a1)])) t := by
        intro t kt
        show Steps p.tables e below (T6.setTop (mkF m 11 #[.val (.ref a1)] [(.ref wNE), (.ref a1)])) t
        refine Jvm.RoadKit.acmp (g := (mkF m 11 #[.val (.ref a1)] [(.ref wNE), (.ref a1)])) X6 hx rfl rfl rfl (pc0 := 11) (pc' := 18) (same := true) rfl (hb hby d2_11) rfl (decide_eq_true (congrArg Value.ref hc11_7)) (by decide) (by decide) ?_
        show Steps p.tables e below (T6.setTop (mkF m 18 #[.val (.ref a1)] [])) t
        refine XS.iconst X6.here hx rfl (hb hby d2_18) ?_
        exact kt
      obtain ⟨fs, hr, hrun, hended, hW, hsame⟩ := X6.leave (v := some (.int (0 : Int32))) (fun h => by rw [Bd.returns] at h; cases h)
      refine ⟨_, _, pre0 _ ?_, hrun, hended, _, _, rfl, ?_, ⟨_, rfl⟩, hW, hsame.mono (by decide) (by decide)⟩
      · refine st1 _ ?_
        show Steps p.tables e below (s₁.setTop (mkF m 1 #[.val (.ref a1)] [(.ref a1)])) _
        refine st2 _ ?_
        refine st5 _ ?_
        show Steps p.tables e below (T2.setTop (mkF m 8 #[.val (.ref a1)] [(.ref a1)])) _
        refine st6 _ ?_
        refine st8 _ ?_
        show Steps p.tables e below (T6.setTop (mkF m 19 #[.val (.ref a1)] [(.int (0 : Int32))])) _
        exact retN X6 hx (t := .boolean) Bd.returns (by simp) (hb hby d2_19) hr
      · show Q2 Z a1 wEQ wNE h0 n0 _ T6.heap _
        rw [e6]
        refine ⟨?_, N0, rfl⟩
        simp only [rv2, if_neg hc4_3, if_pos hc11_7]
    · -- pc 11: not a1 = wNE
      have st9 : ∀ t, Steps p.tables e below (T6.setTop (mkF m 19 #[.val (.ref a1)] [(.int (1 : Int32))])) t → Steps p.tables e below (T6.setTop (mkF m 11 #[.val (.ref a1)] [(.ref wNE), (.ref a1)])) t := by
        intro t kt
        show Steps p.tables e below (T6.setTop (mkF m 11 #[.val (.ref a1)] [(.ref wNE), (.ref a1)])) t
        refine Jvm.RoadKit.acmp (g := (mkF m 11 #[.val (.ref a1)] [(.ref wNE), (.ref a1)])) X6 hx rfl rfl rfl (pc0 := 11) (pc' := 14) (same := false) rfl (hb hby d2_11) rfl (decide_eq_false fun q => hc11_7 (Value.ref.inj q)) (by decide) (by decide) ?_
        show Steps p.tables e below (T6.setTop (mkF m 14 #[.val (.ref a1)] [])) t
        refine XS.iconst X6.here hx rfl (hb hby d2_14) ?_
        show Steps p.tables e below (T6.setTop (mkF m 15 #[.val (.ref a1)] [(.int (1 : Int32))])) t
        refine XS.goto X6.here hx rfl (pc0 := 15) (pc' := 19) rfl (hb hby d2_15) (by decide) (by decide) ?_
        exact kt
      obtain ⟨fs, hr, hrun, hended, hW, hsame⟩ := X6.leave (v := some (.int (1 : Int32))) (fun h => by rw [Bd.returns] at h; cases h)
      refine ⟨_, _, pre0 _ ?_, hrun, hended, _, _, rfl, ?_, ⟨_, rfl⟩, hW, hsame.mono (by decide) (by decide)⟩
      · refine st1 _ ?_
        show Steps p.tables e below (s₁.setTop (mkF m 1 #[.val (.ref a1)] [(.ref a1)])) _
        refine st2 _ ?_
        refine st5 _ ?_
        show Steps p.tables e below (T2.setTop (mkF m 8 #[.val (.ref a1)] [(.ref a1)])) _
        refine st6 _ ?_
        refine st9 _ ?_
        show Steps p.tables e below (T6.setTop (mkF m 19 #[.val (.ref a1)] [(.int (1 : Int32))])) _
        exact retN X6 hx (t := .boolean) Bd.returns (by simp) (hb hby d2_19) hr
      · show Q2 Z a1 wEQ wNE h0 n0 _ T6.heap _
        rw [e6]
        refine ⟨?_, N0, rfl⟩
        simp only [rv2, if_neg hc4_3, if_neg hc11_7]
theorem own_pick {Z : State} {h : Heap} {C : String} {k : Int32} {a b c d e f : Addr} (h1 : Exa Z h a C) (h2 : Exa Z h b C) (h3 : Exa Z h c C) (h4 : Exa Z h d C) (h5 : Exa Z h e C) (h6 : Exa Z h f C) : Exa Z h (rv1 k a b c d e f) C := by
  unfold rv1
  repeat' split
  all_goals assumption
theorem own_mod (x : Int32) : 0 ≤ ((x &&& (2147483647 : Int32)) % (6 : Int32)).toInt := by
  have h : 0 ≤ (x &&& (2147483647 : Int32)).toInt := by
    have q : ¬ ((x &&& (2147483647 : Int32)) < 0) := by
      rw [XT.and_neg32]; intro r; exact absurd r.2 (by decide)
    rw [Int32.lt_iff_toInt_lt] at q
    have z : (0 : Int32).toInt = 0 := by decide
    omega
  rw [Int32.toInt_mod]
  exact Int.tmod_nonneg _ h
theorem own_law (x : Int32) {a b c d e f : Addr} (hab : b ≠ a) (hca : c ≠ a) (hcb : c ≠ b) (hda : d ≠ a) (hdb : d ≠ b) (hea : e ≠ a) (heb : e ≠ b) (hfa : f ≠ a) (hfb : f ≠ b) :
    rv2 (rv1 ((x &&& (2147483647 : Int32)) % (6 : Int32)) a b c d e f) a b = if ((x &&& (2147483647 : Int32)) % (6 : Int32)) < (2 : Int32) then (0 : Int32) else (1 : Int32) := by
  have h0 := own_mod x
  generalize ((x &&& (2147483647 : Int32)) % (6 : Int32)) = k at *
  have z0 : (0 : Int32).toInt = 0 := by decide
  have z1 : (1 : Int32).toInt = 1 := by decide
  have z2 : (2 : Int32).toInt = 2 := by decide
  by_cases k0 : k = 0
  · subst k0; simp [rv1, rv2]
  by_cases k1 : k = 1
  · subst k1; simp [rv1, rv2, hab]
  have q : ¬ k < 2 := by
    rw [Int32.lt_iff_toInt_lt]
    have n0 : k.toInt ≠ 0 := fun r => k0 (Int32.toInt_inj.mp (r.trans z0.symm))
    have n1 : k.toInt ≠ 1 := fun r => k1 (Int32.toInt_inj.mp (r.trans z1.symm))
    omega
  rw [if_neg q]
  simp only [rv1, if_neg k0, if_neg k1]
  repeat' split
  all_goals simp [rv2, hca, hcb, hda, hdb, hea, heb, hfa, hfb]
theorem own_ord {args : Array Value} {s : State} {t : Term} {x : Addr} {C n d : String} {k : Int32} (ev : t.eval args s none [] s = some (.ref x)) (h : (Cond.eq (.field t C n d) (.int k)).value args s none s [] = some true) : s.fieldOf? x C n d = some (.int k) := by
  rw [← fld_at (C := C) (n := n) (dd := d) ev]
  simp only [Cond.value, Term.int_eval] at h
  cases hv : (Term.field t C n d).eval args s none [] s with
  | none => simp [hv] at h
  | some v => cases v <;> simp_all
theorem pd_0 : parseMethodDescriptor "(I)Lcom/example/project_roster/projectroster/model/Filter$Comparison;" = some ⟨[.int], some (.object "com/example/project_roster/projectroster/model/Filter$Comparison")⟩ := by decide +kernel
theorem pd_1 : parseMethodDescriptor "()Z" = some ⟨[], some .boolean⟩ := by decide +kernel
theorem pn_0 : plainName "com/example/project_roster/projectroster/model/ComparisonOrderingPinLaw" = true := by first | (simp [plainName, overriddenIn]; done) | decide +kernel
theorem ef_0 (m : MethodId) (p1 : Int32) : entryFrame m #[(.int p1)] maxLocals = mkF m 0 #[.val (.int p1), .unset, .unset, .unset] [] := by first | (simp [entryFrame, mkF, argsToLocals, Value.category, maxLocals]; done) | rfl
def Q0 (Z : State) (p1 : Int32) (wEQ : Addr) (wNE : Addr) (wLT : Addr) (wLE : Addr) (wGT : Addr) (wGE : Addr) (h0 : Heap) (n0 : Nat) (v : Option Value) (h : Heap) (L : List Loc) : Prop := v = some (.int (1 : Int32)) ∧ Fr n0 L
set_option maxRecDepth 65536 in
set_option maxHeartbeats 40000000 in
theorem rm0 (l : Launch) (Z : State) (a0 : Array Value) (hw : ∀ d ∈ tables_1, d.before a0 Z = true) (ws : List Jvm.Cond) (p1 : Int32) (wEQ : Addr) (wNE : Addr) (wLT : Addr) (wLE : Addr) (wGT : Addr) (wGE : Addr) (h0 : Heap) (n0 : Nat) (Z0 : n0 ≤ h0.size) (S_EQ : Sta Z h0 "com/example/project_roster/projectroster/model/Filter$Comparison" "EQ" "Lcom/example/project_roster/projectroster/model/Filter$Comparison;" (.ref wEQ)) (S_NE : Sta Z h0 "com/example/project_roster/projectroster/model/Filter$Comparison" "NE" "Lcom/example/project_roster/projectroster/model/Filter$Comparison;" (.ref wNE)) (S_LT : Sta Z h0 "com/example/project_roster/projectroster/model/Filter$Comparison" "LT" "Lcom/example/project_roster/projectroster/model/Filter$Comparison;" (.ref wLT)) (S_LE : Sta Z h0 "com/example/project_roster/projectroster/model/Filter$Comparison" "LE" "Lcom/example/project_roster/projectroster/model/Filter$Comparison;" (.ref wLE)) (S_GT : Sta Z h0 "com/example/project_roster/projectroster/model/Filter$Comparison" "GT" "Lcom/example/project_roster/projectroster/model/Filter$Comparison;" (.ref wGT)) (S_GE : Sta Z h0 "com/example/project_roster/projectroster/model/Filter$Comparison" "GE" "Lcom/example/project_roster/projectroster/model/Filter$Comparison;" (.ref wGE)) (E_EQ : Exa Z h0 wEQ "com/example/project_roster/projectroster/model/Filter$Comparison") (E_NE : Exa Z h0 wNE "com/example/project_roster/projectroster/model/Filter$Comparison") (E_LT : Exa Z h0 wLT "com/example/project_roster/projectroster/model/Filter$Comparison") (E_LE : Exa Z h0 wLE "com/example/project_roster/projectroster/model/Filter$Comparison") (E_GT : Exa Z h0 wGT "com/example/project_roster/projectroster/model/Filter$Comparison") (E_GE : Exa Z h0 wGE "com/example/project_roster/projectroster/model/Filter$Comparison") (nNE_EQ : wNE ≠ wEQ) (nLT_EQ : wLT ≠ wEQ) (nLT_NE : wLT ≠ wNE) (nLE_EQ : wLE ≠ wEQ) (nLE_NE : wLE ≠ wNE) (nGT_EQ : wGT ≠ wEQ) (nGT_NE : wGT ≠ wNE) (nGE_EQ : wGE ≠ wEQ) (nGE_NE : wGE ≠ wNE) :
    MetFree l x (head1 (Jvm.Cond.code x code maxLocals ret :: ws) room_1) (fun a U => a = #[(.int p1)] ∧ Z.Warmed39 U.vm ∧ U.heap = h0) (fun _ _ _ _ _ => True) (fun _ U o U' => ∃ v L, o = .returned v ∧ Q0 Z p1 wEQ wNE wLT wLE wGT wGE h0 n0 v U'.heap L ∧ FrameEnd U o U' L room_1.cells room_1.slots) := by
  refine MetFree.of_bodySF (plainFor_of_name pn_0) hisR ?_
  intro p e s m args below meth c s₁ Bd hml0 hP hK
  obtain ⟨rfl, hZ, hh⟩ := hP
  have hx := Bd.exec
  have hby := Bd.bytes
  have hml : c.maxLocals = 4 := hml0
  have hown : s.vm.findClass "com/example/project_roster/projectroster/model/ComparisonOrderingPinLaw" = some m.cls := findClass_of_methodNamed Bd.named
  have hnm := (name_of_methodNamed Bd.named Bd.method).1
  have X0 : Stand p l e room_1 s m #[(.int p1)] below meth c s₁ [] 0 0 := Stand.of_body Bd
  have e0 : s₁.heap = h0 := by rw [← hh, Bd.state]; rfl
  have N0 := Fr.nil n0
  have K0 : Keep h0 h0 [] := Keep.refl _ _
  have pre0 : ∀ t, Steps p.tables e below (s₁.setTop (mkF m 0 #[.val (.int p1), .unset, .unset, .unset] [])) t → Steps p.tables e below (s₁.setTop (entryFrame m #[(.int p1)] maxLocals)) t := fun t k => castTop (ef_0 m p1) k
  have st1 : ∀ t, Steps p.tables e below (s₁.setTop (mkF m 9 #[.val (.int p1), .val (.int ((p1 &&& (2147483647 : Int32)) % (6 : Int32))), .unset, .unset] [(.int ((p1 &&& (2147483647 : Int32)) % (6 : Int32)))])) t → Steps p.tables e below (s₁.setTop (mkF m 0 #[.val (.int p1), .unset, .unset, .unset] [])) t := by
    intro t kt
    show Steps p.tables e below (s₁.setTop (mkF m 0 #[.val (.int p1), .unset, .unset, .unset] [])) t
    refine XS.iloadN X0.here hx rfl (hb hby at_0) rfl ?_
    show Steps p.tables e below (s₁.setTop (mkF m 1 #[.val (.int p1), .unset, .unset, .unset] [(.int p1)])) t
    refine X0.ldcInt hx hown (mvT hZ (hw _ (List.mem_of_getElem? (i := 0) rfl))) (g := (mkF m 1 #[.val (.int p1), .unset, .unset, .unset] [(.int p1)])) rfl (hb hby at_1) _ ?_
    show Steps p.tables e below (s₁.setTop (mkF m 3 #[.val (.int p1), .unset, .unset, .unset] [(.int (2147483647 : Int32)), (.int p1)])) t
    refine XS.iand X0.here hx rfl (hb hby at_3) rfl ?_
    show Steps p.tables e below (s₁.setTop (mkF m 4 #[.val (.int p1), .unset, .unset, .unset] [(.int (p1 &&& (2147483647 : Int32)))])) t
    refine XS.bipush X0.here hx rfl (hb hby at_4) ?_
    show Steps p.tables e below (s₁.setTop (mkF m 6 #[.val (.int p1), .unset, .unset, .unset] [(.int (6 : Int32)), (.int (p1 &&& (2147483647 : Int32)))])) t
    refine iremM X0 hx rfl (hb hby at_6) rfl (by decide) ?_
    show Steps p.tables e below (s₁.setTop (mkF m 7 #[.val (.int p1), .unset, .unset, .unset] [(.int ((p1 &&& (2147483647 : Int32)) % (6 : Int32)))])) t
    refine XS.istoreN X0.here hx rfl (hb hby at_7) rfl (l' := #[.val (.int p1), .val (.int ((p1 &&& (2147483647 : Int32)) % (6 : Int32))), .unset, .unset]) rfl ?_
    show Steps p.tables e below (s₁.setTop (mkF m 8 #[.val (.int p1), .val (.int ((p1 &&& (2147483647 : Int32)) % (6 : Int32))), .unset, .unset] [])) t
    refine XS.iloadN X0.here hx rfl (hb hby at_8) rfl ?_
    exact kt
  obtain ⟨_, _, ⟨T2, L2, k2, n2⟩, -, X2, ⟨Lc2, hQ2, l2, y2, z2⟩, st2⟩ := Jvm.LawKit.callS X0 hx (y := (⟨"com/example/project_roster/projectroster/model/ComparisonOrderingPinLaw", "pick", "(I)Lcom/example/project_roster/projectroster/model/Filter$Comparison;"⟩ : MethodName)) hown (mvT hZ (hw _ (List.mem_of_getElem? (i := 1) rfl))) (mvT hZ (hw _ (List.mem_of_getElem? (i := 2) rfl))) (mvT hZ (hw _ (List.mem_of_getElem? (i := 3) rfl))) (mvT hZ (hw _ (List.mem_of_getElem? (i := 4) rfl))) (by decide) (backOf (W := 0) (rm1 l Z a0 hw [] ((p1 &&& (2147483647 : Int32)) % (6 : Int32)) wEQ wNE wLT wLE wGT wGE h0 n0 Z0 S_EQ S_NE S_LT S_LE S_GT S_GE) hZ (hw _ (List.mem_of_getElem? (i := 4) rfl)) (hw _ (List.mem_of_getElem? (i := 3) rfl)) (by decide) (by decide)) (g := (mkF m 9 #[.val (.int p1), .val (.int ((p1 &&& (2147483647 : Int32)) % (6 : Int32))), .unset, .unset] [(.int ((p1 &&& (2147483647 : Int32)) % (6 : Int32)))])) rfl (by rw [hml]; rfl) (argsL := [(.int ((p1 &&& (2147483647 : Int32)) % (6 : Int32)))]) (rest := []) (lenOf pd_0 rfl) rfl (by show 2 * 0 + _ ≤ _; exact Nat.le_of_eq rfl) (hb hby at_9) (fun _ _ => ⟨rfl, e0, (by decide : 0 + 0 ≤ _), (by decide : 0 + 0 ≤ _)⟩)
  dsimp only [Pt.U, Pt.locs, Pt.cells, Pt.slots] at X2 l2 y2 z2 st2 hQ2
  subst l2 y2 z2
  obtain ⟨rfl, N2q, e2⟩ := hQ2
  have N2 := Fr.app N0 N2q
  obtain ⟨r2, hr2⟩ : ∃ z, z = rv1 ((p1 &&& (2147483647 : Int32)) % (6 : Int32)) wEQ wNE wLT wLE wGT wGE := ⟨_, rfl⟩
  rw [← hr2] at st2
  have st4 : ∀ t, Steps p.tables e below (T2.setTop (mkF m 15 #[.val (.int p1), .val (.int ((p1 &&& (2147483647 : Int32)) % (6 : Int32))), .val (.ref r2), .unset] [(.int (2 : Int32)), (.int ((p1 &&& (2147483647 : Int32)) % (6 : Int32)))])) t → Steps p.tables e below (T2.setTop (mkF m 12 #[.val (.int p1), .val (.int ((p1 &&& (2147483647 : Int32)) % (6 : Int32))), .unset, .unset] [(.ref r2)])) t := by
    intro t kt
    show Steps p.tables e below (T2.setTop (mkF m 12 #[.val (.int p1), .val (.int ((p1 &&& (2147483647 : Int32)) % (6 : Int32))), .unset, .unset] [(.ref r2)])) t
    refine XS.astoreN X2.here hx rfl (hb hby at_12) rfl rfl (l' := #[.val (.int p1), .val (.int ((p1 &&& (2147483647 : Int32)) % (6 : Int32))), .val (.ref r2), .unset]) rfl ?_
    show Steps p.tables e below (T2.setTop (mkF m 13 #[.val (.int p1), .val (.int ((p1 &&& (2147483647 : Int32)) % (6 : Int32))), .val (.ref r2), .unset] [])) t
    refine XS.iloadN X2.here hx rfl (hb hby at_13) rfl ?_
    show Steps p.tables e below (T2.setTop (mkF m 14 #[.val (.int p1), .val (.int ((p1 &&& (2147483647 : Int32)) % (6 : Int32))), .val (.ref r2), .unset] [(.int ((p1 &&& (2147483647 : Int32)) % (6 : Int32)))])) t
    refine XS.iconst X2.here hx rfl (hb hby at_14) ?_
    exact kt
  obtain ⟨v5, hv5⟩ : ∃ z, z = if ((p1 &&& (2147483647 : Int32)) % (6 : Int32)) < (2 : Int32) then (0 : Int32) else (1 : Int32) := ⟨_, rfl⟩
  have st6 : ∀ t, Steps p.tables e below (T2.setTop (mkF m 23 #[.val (.int p1), .val (.int ((p1 &&& (2147483647 : Int32)) % (6 : Int32))), .val (.ref r2), .unset] [(.int v5)])) t → Steps p.tables e below (T2.setTop (mkF m 15 #[.val (.int p1), .val (.int ((p1 &&& (2147483647 : Int32)) % (6 : Int32))), .val (.ref r2), .unset] [(.int (2 : Int32)), (.int ((p1 &&& (2147483647 : Int32)) % (6 : Int32)))])) t := by
    intro t kt
    by_cases hc15_3 : ((p1 &&& (2147483647 : Int32)) % (6 : Int32)) < (2 : Int32)
    · have qv5 : v5 = (0 : Int32) := hv5.trans (if_pos hc15_3)
      rw [qv5] at kt
      show Steps p.tables e below (T2.setTop (mkF m 15 #[.val (.int p1), .val (.int ((p1 &&& (2147483647 : Int32)) % (6 : Int32))), .val (.ref r2), .unset] [(.int (2 : Int32)), (.int ((p1 &&& (2147483647 : Int32)) % (6 : Int32)))])) t
      refine XS.icmpYes X2.here hx rfl (pc0 := 15) (pc' := 22) rfl (hb hby at_15) rfl (XT.ii_lt_t hc15_3) (by decide) (by decide) ?_
      show Steps p.tables e below (T2.setTop (mkF m 22 #[.val (.int p1), .val (.int ((p1 &&& (2147483647 : Int32)) % (6 : Int32))), .val (.ref r2), .unset] [])) t
      refine XS.iconst X2.here hx rfl (hb hby at_22) ?_
      exact kt
    · have qv5 : v5 = (1 : Int32) := hv5.trans (if_neg hc15_3)
      rw [qv5] at kt
      show Steps p.tables e below (T2.setTop (mkF m 15 #[.val (.int p1), .val (.int ((p1 &&& (2147483647 : Int32)) % (6 : Int32))), .val (.ref r2), .unset] [(.int (2 : Int32)), (.int ((p1 &&& (2147483647 : Int32)) % (6 : Int32)))])) t
      refine XS.icmpNo X2.here hx rfl (hb hby at_15) rfl (XT.ii_lt_f hc15_3) ?_
      show Steps p.tables e below (T2.setTop (mkF m 18 #[.val (.int p1), .val (.int ((p1 &&& (2147483647 : Int32)) % (6 : Int32))), .val (.ref r2), .unset] [])) t
      refine XS.iconst X2.here hx rfl (hb hby at_18) ?_
      show Steps p.tables e below (T2.setTop (mkF m 19 #[.val (.int p1), .val (.int ((p1 &&& (2147483647 : Int32)) % (6 : Int32))), .val (.ref r2), .unset] [(.int (1 : Int32))])) t
      refine XS.goto X2.here hx rfl (pc0 := 19) (pc' := 23) rfl (hb hby at_19) (by decide) (by decide) ?_
      exact kt
  have st7 : ∀ t, Steps p.tables e below (T2.setTop (mkF m 25 #[.val (.int p1), .val (.int ((p1 &&& (2147483647 : Int32)) % (6 : Int32))), .val (.ref r2), .val (.int v5)] [(.ref r2)])) t → Steps p.tables e below (T2.setTop (mkF m 23 #[.val (.int p1), .val (.int ((p1 &&& (2147483647 : Int32)) % (6 : Int32))), .val (.ref r2), .unset] [(.int v5)])) t := by
    intro t kt
    show Steps p.tables e below (T2.setTop (mkF m 23 #[.val (.int p1), .val (.int ((p1 &&& (2147483647 : Int32)) % (6 : Int32))), .val (.ref r2), .unset] [(.int v5)])) t
    refine XS.istoreN X2.here hx rfl (hb hby at_23) rfl (l' := #[.val (.int p1), .val (.int ((p1 &&& (2147483647 : Int32)) % (6 : Int32))), .val (.ref r2), .val (.int v5)]) rfl ?_
    show Steps p.tables e below (T2.setTop (mkF m 24 #[.val (.int p1), .val (.int ((p1 &&& (2147483647 : Int32)) % (6 : Int32))), .val (.ref r2), .val (.int v5)] [])) t
    refine XS.aloadN X2.here hx rfl (hb hby at_24) rfl rfl ?_
    exact kt
  obtain ⟨cq8, kq8, q8a, q8b, q8c⟩ := isOf hZ e2 (hr2 ▸ own_pick E_EQ E_NE E_LT E_LE E_GT E_GE : Exa Z h0 r2 "com/example/project_roster/projectroster/model/Filter$Comparison")
  obtain ⟨_, _, ⟨T8, L8, k8, n8⟩, -, X8, ⟨Lc8, hQ8, l8, y8, z8⟩, st8⟩ := X2.virtualBack hx (y := (⟨"com/example/project_roster/projectroster/model/Filter$Comparison", "ordering", "()Z"⟩ : MethodName)) (z := (⟨"com/example/project_roster/projectroster/model/Filter$Comparison", "ordering", "()Z"⟩ : MethodName)) hown (mvT hZ (hw _ (List.mem_of_getElem? (i := 8) rfl))) (mvT hZ (hw _ (List.mem_of_getElem? (i := 9) rfl))) (notFace_of_selects (args := #[]) (mvT hZ (hw _ (List.mem_of_getElem? (i := 11) rfl)))) (mvT hZ (hw _ (List.mem_of_getElem? (i := 11) rfl))) (mvT hZ (hw _ (List.mem_of_getElem? (i := 10) rfl))) (by decide) (backOf (W := 0) (rm2 l Z a0 hw [] r2 wEQ wNE h0 n0 Z0 S_EQ S_NE) hZ (hw _ (List.mem_of_getElem? (i := 12) rfl)) (hw _ (List.mem_of_getElem? (i := 6) rfl)) (by decide) (by decide)) q8a q8c (g := (mkF m 25 #[.val (.int p1), .val (.int ((p1 &&& (2147483647 : Int32)) % (6 : Int32))), .val (.ref r2), .val (.int v5)] [(.ref r2)])) rfl (by rw [hml]; rfl) (Steps.refl _) (argsL := []) (rest := []) (lenOf pd_1 rfl) rfl (by show 2 * 0 + _ ≤ _; exact Nat.le_of_eq rfl) (hb hby at_25) (fun _ _ => ⟨rfl, e2, (by decide : 0 + 0 ≤ _), (by decide : 0 + 0 ≤ _)⟩)
  dsimp only [Pt.U, Pt.locs, Pt.cells, Pt.slots] at X8 l8 y8 z8 st8 hQ8
  subst l8 y8 z8
  obtain ⟨rfl, N8q, e8⟩ := hQ8
  have N8 := Fr.app N2 N8q
  obtain ⟨r8, hr8⟩ : ∃ z, z = rv2 r2 wEQ wNE := ⟨_, rfl⟩
  rw [← hr8] at st8
  have st10 : ∀ t, Steps p.tables e below (T8.setTop (mkF m 29 #[.val (.int p1), .val (.int ((p1 &&& (2147483647 : Int32)) % (6 : Int32))), .val (.ref r2), .val (.int v5)] [(.int v5), (.int r8)])) t → Steps p.tables e below (T8.setTop (mkF m 28 #[.val (.int p1), .val (.int ((p1 &&& (2147483647 : Int32)) % (6 : Int32))), .val (.ref r2), .val (.int v5)] [(.int r8)])) t := by
    intro t kt
    show Steps p.tables e below (T8.setTop (mkF m 28 #[.val (.int p1), .val (.int ((p1 &&& (2147483647 : Int32)) % (6 : Int32))), .val (.ref r2), .val (.int v5)] [(.int r8)])) t
    refine XS.iloadN X8.here hx rfl (hb hby at_28) rfl ?_
    exact kt
  by_cases hc29_9 : r8 = v5
  · -- pc 29: r8 = v5
    have st11 : ∀ t, Steps p.tables e below (T8.setTop (mkF m 37 #[.val (.int p1), .val (.int ((p1 &&& (2147483647 : Int32)) % (6 : Int32))), .val (.ref r2), .val (.int v5)] [(.int (1 : Int32))])) t → Steps p.tables e below (T8.setTop (mkF m 29 #[.val (.int p1), .val (.int ((p1 &&& (2147483647 : Int32)) % (6 : Int32))), .val (.ref r2), .val (.int v5)] [(.int v5), (.int r8)])) t := by
      intro t kt
      show Steps p.tables e below (T8.setTop (mkF m 29 #[.val (.int p1), .val (.int ((p1 &&& (2147483647 : Int32)) % (6 : Int32))), .val (.ref r2), .val (.int v5)] [(.int v5), (.int r8)])) t
      refine XS.icmpNo X8.here hx rfl (hb hby at_29) rfl (XT.ii_ne_f hc29_9) ?_
      show Steps p.tables e below (T8.setTop (mkF m 32 #[.val (.int p1), .val (.int ((p1 &&& (2147483647 : Int32)) % (6 : Int32))), .val (.ref r2), .val (.int v5)] [])) t
      refine XS.iconst X8.here hx rfl (hb hby at_32) ?_
      show Steps p.tables e below (T8.setTop (mkF m 33 #[.val (.int p1), .val (.int ((p1 &&& (2147483647 : Int32)) % (6 : Int32))), .val (.ref r2), .val (.int v5)] [(.int (1 : Int32))])) t
      refine XS.goto X8.here hx rfl (pc0 := 33) (pc' := 37) rfl (hb hby at_33) (by decide) (by decide) ?_
      exact kt
    obtain ⟨fs, hr, hrun, hended, hW, hsame⟩ := X8.leave (v := some (.int (1 : Int32))) (fun h => by rw [Bd.returns] at h; cases h)
    refine ⟨_, _, pre0 _ ?_, hrun, hended, _, _, rfl, ?_, ⟨_, rfl⟩, hW, hsame.mono (by decide) (by decide)⟩
    · refine st1 _ ?_
      show Steps p.tables e below (s₁.setTop (mkF m 9 #[.val (.int p1), .val (.int ((p1 &&& (2147483647 : Int32)) % (6 : Int32))), .unset, .unset] [(.int ((p1 &&& (2147483647 : Int32)) % (6 : Int32)))])) _
      refine st2 _ ?_
      refine st4 _ ?_
      refine st6 _ ?_
      refine st7 _ ?_
      show Steps p.tables e below (T2.setTop (mkF m 25 #[.val (.int p1), .val (.int ((p1 &&& (2147483647 : Int32)) % (6 : Int32))), .val (.ref r2), .val (.int v5)] [(.ref r2)])) _
      refine st8.trans ?_
      refine st10 _ ?_
      refine st11 _ ?_
      show Steps p.tables e below (T8.setTop (mkF m 37 #[.val (.int p1), .val (.int ((p1 &&& (2147483647 : Int32)) % (6 : Int32))), .val (.ref r2), .val (.int v5)] [(.int (1 : Int32))])) _
      exact retN X8 hx (t := .boolean) Bd.returns (by simp) (hb hby at_37) hr
    · show Q0 Z p1 wEQ wNE wLT wLE wGT wGE h0 n0 _ T8.heap _
      rw [e8]
      exact ⟨rfl, N8⟩
  · -- pc 29: not r8 = v5
    exfalso
    exact hc29_9 (hr8.trans (hr2 ▸ (own_law p1 nNE_EQ nLT_EQ nLT_NE nLE_EQ nLE_NE nGT_EQ nGT_NE nGE_EQ nGE_NE).trans hv5.symm))
set_option maxRecDepth 65536 in
set_option maxHeartbeats 40000000 in
theorem comes_1 {Post : Tables → Env → Array Value → State → Outcome → State → Prop} (hpost : ∀ tb e args s v u, (limb_1_1.after args s (.returned v) u = true ∧ limb_1_2.after args s (.returned v) u = true ∧ True) → FrameEnd s (.returned v) u (Jvm.fieldLocs frame_1_writes args s ++ Jvm.arrayLocs frame_1_arrays args s ++ Jvm.staticLocs frame_1_statics s) 0 0 → Post tb e args s (.returned v) u) :
    ArmFor flags0 classFile x code maxLocals ret World_1 tables_1 room_1 Calls_1 rest_1 Pre_1 Post := by
  intro l hfl _ _ p e ha hc hk s m args below hf hA hF happ hP
  obtain ⟨hcalls, hrest, hpre⟩ := hP
  obtain ⟨-, -, -, hnamed, -, -, -, hat⟩ := (Spec.applies_iff hf).mp happ
  obtain ⟨hg, hn⟩ := and_e (Cond.before_iff.mp (show (Jvm.Cond.and given_1 narrow_1).before args s = true from hpre))
  obtain ⟨k0, j0⟩ := and_e hg
  obtain ⟨w0, rfl⟩ : ∃ w0 : Value, args = #[w0] := by
    have hs : args.size = 1 := by simpa [Cond.value, given_1] using k0
    obtain ⟨L⟩ := args
    match L, hs with
    | [w0], _ => exact ⟨w0, rfl⟩
  have hw := fun d (hd : d ∈ tables_1) => atoms_spec (ws := Jvm.Cond.code x code maxLocals ret :: tables_1) hat d (List.mem_cons_of_mem _ hd)
  have hfit : Fit s := fun {y c} hc i hi => by
    obtain ⟨ha, rfl⟩ := Array.getElem?_eq_some_iff.mp hc
    have q := List.all_eq_true.mp ((Array.all_eq_true_iff_forall_mem.mp hF) _ (Array.getElem_mem ha)) i (List.mem_range.mpr hi)
    simpa [Array.getElem?_eq_getElem hi] using q
  obtain ⟨i0, ei0⟩ := is_v j0
  obtain rfl : w0 = (.int i0) := Option.some.inj ei0
  obtain ⟨c0, d0⟩ := and_e hn
  obtain ⟨c1, d1⟩ := and_e d0
  obtain ⟨c2, d2⟩ := and_e d1
  obtain ⟨c3, d3⟩ := and_e d2
  obtain ⟨c4, d4⟩ := and_e d3
  obtain ⟨c5, d5⟩ := and_e d4
  obtain ⟨c6, d6⟩ := and_e d5
  obtain ⟨c7, d7⟩ := and_e d6
  obtain ⟨c8, d8⟩ := and_e d7
  obtain ⟨c9, d9⟩ := and_e d8
  obtain ⟨c10, d10⟩ := and_e d9
  obtain ⟨wEQ, evEQ⟩ := exa_v c0
  have S_EQ := Sta.start evEQ (Or.inr ⟨(hw _ (List.mem_of_getElem? (i := 6) rfl)), (hw _ (List.mem_of_getElem? (i := 7) rfl))⟩)
  have E_EQ := Exa.start evEQ c0
  have O_EQ := Fld.start (own_ord evEQ c3)
  obtain ⟨wNE, evNE⟩ := exa_v c4
  have S_NE := Sta.start evNE (Or.inr ⟨(hw _ (List.mem_of_getElem? (i := 6) rfl)), (hw _ (List.mem_of_getElem? (i := 17) rfl))⟩)
  have E_NE := Exa.start evNE c4
  have O_NE := Fld.start (own_ord evNE c5)
  obtain ⟨wLT, evLT⟩ := exa_v c6
  have S_LT := Sta.start evLT (Or.inr ⟨(hw _ (List.mem_of_getElem? (i := 6) rfl)), (hw _ (List.mem_of_getElem? (i := 19) rfl))⟩)
  have E_LT := Exa.start evLT c6
  have O_LT := Fld.start (own_ord evLT c7)
  obtain ⟨wLE, evLE⟩ := exa_v c1
  have S_LE := Sta.start evLE (Or.inr ⟨(hw _ (List.mem_of_getElem? (i := 6) rfl)), (hw _ (List.mem_of_getElem? (i := 15) rfl))⟩)
  have E_LE := Exa.start evLE c1
  have O_LE := Fld.start (own_ord evLE c2)
  obtain ⟨wGT, evGT⟩ := exa_v c10
  have S_GT := Sta.start evGT (Or.inr ⟨(hw _ (List.mem_of_getElem? (i := 6) rfl)), (hw _ (List.mem_of_getElem? (i := 24) rfl))⟩)
  have E_GT := Exa.start evGT c10
  have O_GT := Fld.start (own_ord evGT d10)
  obtain ⟨wGE, evGE⟩ := exa_v c8
  have S_GE := Sta.start evGE (Or.inr ⟨(hw _ (List.mem_of_getElem? (i := 6) rfl)), (hw _ (List.mem_of_getElem? (i := 22) rfl))⟩)
  have E_GE := Exa.start evGE c8
  have O_GE := Fld.start (own_ord evGE c9)
  have nNE_EQ := Fld.ne O_NE O_EQ (by decide)
  have nLT_EQ := Fld.ne O_LT O_EQ (by decide)
  have nLT_NE := Fld.ne O_LT O_NE (by decide)
  have nLE_EQ := Fld.ne O_LE O_EQ (by decide)
  have nLE_NE := Fld.ne O_LE O_NE (by decide)
  have nGT_EQ := Fld.ne O_GT O_EQ (by decide)
  have nGT_NE := Fld.ne O_GT O_NE (by decide)
  have nGE_EQ := Fld.ne O_GE O_EQ (by decide)
  have nGE_NE := Fld.ne O_GE O_NE (by decide)
  obtain ⟨n, o, h1, h2, h3, _, L, rfl, ⟨rfl, N⟩, hq⟩ := rm0 l s _ hw tables_1 i0 wEQ wNE wLT wLE wGT wGE s.heap s.heap.size (Nat.le_refl _) S_EQ S_NE S_LT S_LE S_GT S_GE E_EQ E_NE E_LT E_LE E_GT E_GE nNE_EQ nLT_EQ nLT_NE nLE_EQ nLE_NE nGT_EQ nGT_NE nGE_EQ nGE_NE p e ha hc hk s m _ below hf ((Spec.applies_iff_loose hf).mp happ).1 ⟨rfl, State.Warmed39.refl s, rfl⟩ trivial
  refine ⟨n, _, h1, h2, h3, hpost _ _ _ _ _ _ ⟨Cond.after_iff.mpr rfl, Cond.after_iff.mpr (eq_i res_at (Term.int_eval (1)) rfl), trivial⟩ ⟨hq.1, hq.2.1, (hq.2.2.sift fun y hy => Or.inr (N y hy)).mono (by decide) (by decide)⟩⟩
theorem main_1_1 : Claimed_1_1 := comes_1 fun _ _ _ _ _ _ h hF => ⟨h.1, hF⟩
theorem main_1_2 : Claimed_1_2 := comes_1 fun _ _ _ _ _ _ h hF => ⟨h.2.1, hF⟩
end Jvm.Pilot.@@N@@
namespace Jvm.Pilot.@@N@@
open Jvm Jvm.ClassFile Sem Op Lib Jvm.Free Jvm.Stand Jvm.Pilot.@@N@@.Jvm.D
/-! MADE BY PROGRAM (witnessworld.py) out of the Statement's table words and the real class files: 12 classes; the members and pool entries that the words name. The judged class is class 1, her method 2. -/
namespace start1
open Jvm.ClassFile
def u (s : String) : CpInfo := .utf8 (stringToUtf16 s)
/-- a pool by its gaps: so many unusable entries, then the entry; so many at the end -/
def gap : Nat → List CpInfo → List CpInfo
  | 0, r => r
  | n + 1, r => .unusable :: gap n r
def poolList (es : List (Nat × CpInfo)) (last : Nat) : List CpInfo := es.foldr (fun e r => gap e.1 (e.2 :: r)) (gap last [])
def pool (es : List (Nat × CpInfo)) (last : Nat) : Array CpInfo := ⟨poolList es last⟩
def fileOf (pool : Array CpInfo) (this : Nat) (attrs : Array Attribute := #[]) (ms : Array MethodInfo := #[]) (fl : Nat := 33) (sup : Nat := 0) (ifs : Array Nat := #[]) (fds : Array FieldInfo := #[]) : ClassFile where
  minorVersion := 0
  majorVersion := 65
  constantPool := pool
  accessFlags := fl
  thisClass := this
  superClass := sup
  interfaces := ifs
  fields := fds
  methods := ms
  attributes := attrs
def plain (name : String) (sup : Option ClassId) : Class where
  name := name
  kind := .ordinary
  loader := none
  accessFlags := 33
  super := sup
  interfaces := #[]
  cf := none
  fields := #[]
  methods := #[]
  instanceTypes := #[]
  staticTypes := #[]
  resolved := #[]
  callSites := []
  init := .initialized
  statics := none
  mirror := none

def pool0 : Array CpInfo := pool [(5, u "<init>"), (0, u "()V"), (1, .class_ 10), (1, u "java/lang/Object")] 113

def k0m0 : Method := { name := "<init>", desc := "()V", sig := { parameters := [], returnType := none }, accessFlags := 1, code := none }
/-- java/lang/Object -/
def k0 : Class := { plain "java/lang/Object" none with
  accessFlags := 33
  interfaces := #[]
  cf := some (fileOf pool0 8 #[] #[{ accessFlags := 1, nameIndex := 5, descriptorIndex := 6, attributes := #[] }] 33 0 #[] #[])
  fields := #[]
  methods := #[k0m0]
  instanceTypes := #[]
  staticTypes := #[]
  resolved := Array.replicate 124 none
  statics := none }

def pool1 : Array CpInfo := pool [(2, .class_ 4), (1, u "java/lang/Object"), (0, u "<init>"), (0, u "()V"), (0, .fieldref 8 9), (0, .class_ 10), (0, .nameAndType 11 12), (0, u "com/example/project_roster/projectroster/model/Filter$Comparison"), (0, u "EQ"), (0, u "Lcom/example/project_roster/projectroster/model/Filter$Comparison;"), (0, .fieldref 8 14), (0, .nameAndType 15 12), (0, u "NE"), (0, .fieldref 8 17), (0, .nameAndType 18 12), (0, u "LT"), (0, .fieldref 8 20), (0, .nameAndType 21 12), (0, u "LE"), (0, .fieldref 8 23), (0, .nameAndType 24 12), (0, u "GT"), (0, .fieldref 8 26), (0, .nameAndType 27 12), (0, u "GE"), (0, .integer 2147483647), (0, .methodref 30 31), (0, .class_ 32), (0, .nameAndType 33 34), (0, u "com/example/project_roster/projectroster/model/ComparisonOrderingPinLaw"), (0, u "pick"), (0, u "(I)Lcom/example/project_roster/projectroster/model/Filter$Comparison;"), (0, .methodref 8 36), (0, .nameAndType 37 38), (0, u "ordering"), (0, u "()Z"), (3, u "law"), (0, u "(I)Z")] 6

def k1m0 : Method := { name := "<init>", desc := "()V", sig := { parameters := [], returnType := none }, accessFlags := 2, code := none }
def k1c1 : Code := { maxStack := 2, maxLocals := 1, code := method_2_code, exceptionTable := #[], attributes := #[] }
def k1m1 : Method := { name := "pick", desc := "(I)Lcom/example/project_roster/projectroster/model/Filter$Comparison;", sig := { parameters := [.int], returnType := some (.object "com/example/project_roster/projectroster/model/Filter$Comparison") }, accessFlags := 10, code := some k1c1 }
def k1c2 : Code := { maxStack := 2, maxLocals := 4, code := code, exceptionTable := #[], attributes := #[] }
def k1m2 : Method := { name := "law", desc := "(I)Z", sig := { parameters := [.int], returnType := some .boolean }, accessFlags := 9, code := some k1c2 }
/-- com/example/project_roster/projectroster/model/ComparisonOrderingPinLaw -/
def k1 : Class := { plain "com/example/project_roster/projectroster/model/ComparisonOrderingPinLaw" (some 0) with
  accessFlags := 49
  interfaces := #[]
  cf := some (fileOf pool1 30 #[] #[{ accessFlags := 2, nameIndex := 5, descriptorIndex := 6, attributes := #[] }, { accessFlags := 10, nameIndex := 33, descriptorIndex := 34, attributes := #[] }, { accessFlags := 9, nameIndex := 42, descriptorIndex := 43, attributes := #[] }] 49 2 #[] #[])
  fields := #[]
  methods := #[k1m0, k1m1, k1m2]
  instanceTypes := #[]
  staticTypes := #[]
  resolved := Array.replicate 50 none
  statics := none }

def pool2 : Array CpInfo := pool [(1, .class_ 2), (0, u "java/lang/constant/Constable"), (0, .class_ 4), (0, u "java/lang/Object")] 6

/-- java/lang/constant/Constable -/
def k2 : Class := { plain "java/lang/constant/Constable" (some 0) with
  accessFlags := 1537
  interfaces := #[]
  cf := some (fileOf pool2 1 #[] #[] 1537 3 #[] #[])
  fields := #[]
  methods := #[]
  instanceTypes := #[]
  staticTypes := #[]
  resolved := Array.replicate 11 none
  statics := none }

def pool3 : Array CpInfo := pool [(1, .class_ 2), (0, u "java/lang/Comparable"), (0, .class_ 4), (0, u "java/lang/Object")] 7

/-- java/lang/Comparable -/
def k3 : Class := { plain "java/lang/Comparable" (some 0) with
  accessFlags := 1537
  interfaces := #[]
  cf := some (fileOf pool3 1 #[] #[] 1537 3 #[] #[])
  fields := #[]
  methods := #[]
  instanceTypes := #[]
  staticTypes := #[]
  resolved := Array.replicate 12 none
  statics := none }

def pool4 : Array CpInfo := pool [(1, .class_ 2), (0, u "java/io/Serializable"), (0, .class_ 4), (0, u "java/lang/Object")] 2

/-- java/io/Serializable -/
def k4 : Class := { plain "java/io/Serializable" (some 0) with
  accessFlags := 1537
  interfaces := #[]
  cf := some (fileOf pool4 1 #[] #[] 1537 3 #[] #[])
  fields := #[]
  methods := #[]
  instanceTypes := #[]
  staticTypes := #[]
  resolved := Array.replicate 7 none
  statics := none }

def pool5 : Array CpInfo := pool [(2, .class_ 4), (1, u "java/lang/Enum"), (0, u "name"), (0, u "Ljava/lang/String;"), (2, u "ordinal"), (0, u "I"), (1, .class_ 14), (1, u "java/lang/Object"), (4, u "hash"), (86, .class_ 108), (1, u "java/lang/Enum$EnumDesc"), (2, .class_ 112), (0, u "java/lang/constant/Constable"), (0, .class_ 114), (0, u "java/lang/Comparable"), (0, .class_ 116), (0, u "java/io/Serializable")] 87

/-- java/lang/Enum -/
def k5 : Class := { plain "java/lang/Enum" (some 0) with
  accessFlags := 1057
  interfaces := #[2, 3, 4]
  cf := some (fileOf pool5 2 #[.nestMembers #[106]] #[] 1057 12 #[111, 113, 115] #[{ accessFlags := 18, nameIndex := 5, descriptorIndex := 6, attributes := #[] }, { accessFlags := 18, nameIndex := 9, descriptorIndex := 10, attributes := #[] }, { accessFlags := 2, nameIndex := 19, descriptorIndex := 10, attributes := #[] }])
  fields := #[{ name := "name", type := (.object "java/lang/String"), accessFlags := 18, slot := 0, constantValue := 0 }, { name := "ordinal", type := .int, accessFlags := 18, slot := 1, constantValue := 0 }, { name := "hash", type := .int, accessFlags := 2, slot := 2, constantValue := 0 }]
  methods := #[]
  instanceTypes := #[(.object "java/lang/String"), .int, .int]
  staticTypes := #[]
  resolved := Array.replicate 204 none
  statics := none }

def pool6 : Array CpInfo := pool [(1, .class_ 2), (0, u "com/example/project_roster/projectroster/model/Filter$Comparison"), (0, .fieldref 1 4), (0, .nameAndType 5 6), (0, u "EQ"), (0, u "Lcom/example/project_roster/projectroster/model/Filter$Comparison;"), (0, .fieldref 1 8), (0, .nameAndType 9 6), (0, u "NE"), (2, u "LT"), (2, u "LE"), (2, u "GT"), (2, u "GE"), (2, u "$VALUES"), (0, u "[Lcom/example/project_roster/projectroster/model/Filter$Comparison;"), (6, .class_ 34), (1, u "java/lang/Enum"), (24, u "ordering"), (0, u "()Z"), (6, .class_ 68), (0, u "com/example/project_roster/projectroster/model/Filter")] 2

def k6c0 : Code := { maxStack := 2, maxLocals := 1, code := prog_96_method_4_code, exceptionTable := #[], attributes := #[] }
def k6m0 : Method := { name := "ordering", desc := "()Z", sig := { parameters := [], returnType := some .boolean }, accessFlags := 1, code := some k6c0 }
/-- com/example/project_roster/projectroster/model/Filter$Comparison -/
def k6 : Class := { plain "com/example/project_roster/projectroster/model/Filter$Comparison" (some 5) with
  accessFlags := 16433
  interfaces := #[]
  cf := some (fileOf pool6 1 #[.nestHost 67] #[{ accessFlags := 1, nameIndex := 59, descriptorIndex := 60, attributes := #[] }] 16433 32 #[] #[{ accessFlags := 16409, nameIndex := 5, descriptorIndex := 6, attributes := #[] }, { accessFlags := 16409, nameIndex := 9, descriptorIndex := 6, attributes := #[] }, { accessFlags := 16409, nameIndex := 12, descriptorIndex := 6, attributes := #[] }, { accessFlags := 16409, nameIndex := 15, descriptorIndex := 6, attributes := #[] }, { accessFlags := 16409, nameIndex := 18, descriptorIndex := 6, attributes := #[] }, { accessFlags := 16409, nameIndex := 21, descriptorIndex := 6, attributes := #[] }, { accessFlags := 4122, nameIndex := 24, descriptorIndex := 25, attributes := #[] }])
  fields := #[{ name := "EQ", type := (.object "com/example/project_roster/projectroster/model/Filter$Comparison"), accessFlags := 16409, slot := 0, constantValue := 0 }, { name := "NE", type := (.object "com/example/project_roster/projectroster/model/Filter$Comparison"), accessFlags := 16409, slot := 1, constantValue := 0 }, { name := "LT", type := (.object "com/example/project_roster/projectroster/model/Filter$Comparison"), accessFlags := 16409, slot := 2, constantValue := 0 }, { name := "LE", type := (.object "com/example/project_roster/projectroster/model/Filter$Comparison"), accessFlags := 16409, slot := 3, constantValue := 0 }, { name := "GT", type := (.object "com/example/project_roster/projectroster/model/Filter$Comparison"), accessFlags := 16409, slot := 4, constantValue := 0 }, { name := "GE", type := (.object "com/example/project_roster/projectroster/model/Filter$Comparison"), accessFlags := 16409, slot := 5, constantValue := 0 }, { name := "$VALUES", type := (.array (.object "com/example/project_roster/projectroster/model/Filter$Comparison")), accessFlags := 4122, slot := 6, constantValue := 0 }]
  methods := #[k6m0]
  instanceTypes := #[(.object "java/lang/String"), .int, .int]
  staticTypes := #[(.object "com/example/project_roster/projectroster/model/Filter$Comparison"), (.object "com/example/project_roster/projectroster/model/Filter$Comparison"), (.object "com/example/project_roster/projectroster/model/Filter$Comparison"), (.object "com/example/project_roster/projectroster/model/Filter$Comparison"), (.object "com/example/project_roster/projectroster/model/Filter$Comparison"), (.object "com/example/project_roster/projectroster/model/Filter$Comparison"), (.array (.object "com/example/project_roster/projectroster/model/Filter$Comparison"))]
  resolved := Array.replicate 71 none
  statics := some 0 }

def pool7 : Array CpInfo := pool [(1, u "java/lang/Cloneable"), (0, .class_ 1), (0, u "java/lang/Object"), (0, .class_ 3)] 3

/-- java/lang/Cloneable -/
def k7 : Class := { plain "java/lang/Cloneable" (some 0) with
  accessFlags := 1537
  interfaces := #[]
  cf := some (fileOf pool7 2 #[] #[] 1537 4 #[] #[])
  fields := #[]
  methods := #[]
  instanceTypes := #[]
  staticTypes := #[]
  resolved := Array.replicate 8 none
  statics := none }

/-- the primitive byte -/
def k8 : Class := { plain "byte" none with kind := .primitive 'B', accessFlags := 0x411 }
/-- [B -/
def k9 : Class := { plain "[B" (some 0) with kind := .array 8 .byte, interfaces := #[7, 4], accessFlags := 1041 }

/-- the primitive int -/
def k10 : Class := { plain "int" none with kind := .primitive 'I', accessFlags := 0x411 }
/-- [I -/
def k11 : Class := { plain "[I" (some 0) with kind := .array 10 .int, interfaces := #[7, 4], accessFlags := 1041 }

def heap : Heap := #[{ cls := 6, slots := #[.ref 1, .ref 2, .ref 3, .ref 4, .ref 5, .ref 6, .null], vm := .statics 6 },
  { cls := 6, slots := #[.null, .int 0, .int 0], vm := .none },
  { cls := 6, slots := #[.null, .int 1, .int 0], vm := .none },
  { cls := 6, slots := #[.null, .int 2, .int 0], vm := .none },
  { cls := 6, slots := #[.null, .int 3, .int 0], vm := .none },
  { cls := 6, slots := #[.null, .int 4, .int 0], vm := .none },
  { cls := 6, slots := #[.null, .int 5, .int 0], vm := .none }]
def classes : Array Class := #[k0, k1, k2, k3, k4, k5, k6, k7, k8, k9, k10, k11]
def interned : List (Array UInt16 × Addr) := []
def slotsUsed : Nat := 25
def theMethod : MethodId := ⟨1, 2⟩
def args0 : Array Value := #[.int 5]
def aboutOver (below : List Frame) : State where
  vm := { classes := classes, interned := interned.toArray }
  heap := heap
  slotsUsed := slotsUsed
  threads := #[{ frames := .invoking theMethod args0 :: below }]
def below0 : List Frame := [.native { method := ⟨0, 0⟩, args := #[] }]
def about1 : State := aboutOver below0
def p0 : Program := .bare "" "" ""
def e0 : Env := launch0.env 0 0 0
theorem w_frames : about1.frames = Frame.invoking theMethod args0 :: below0 := rfl
set_option maxRecDepth 65536 in
theorem w_args : argsFit about1.vm theMethod args0 = true := by decide +kernel
set_option maxRecDepth 65536 in
theorem w_heap : heapFits about1 = true := by decide +kernel
set_option maxRecDepth 65536 in
theorem w_runnable : about1.curStatus? = some .runnable := by decide +kernel
set_option maxRecDepth 65536 in
theorem w_alone : about1.alone = true := by decide +kernel
set_option maxRecDepth 65536 in
theorem w_named : about1.methodNamed? x = some theMethod := by decide +kernel
set_option maxRecDepth 65536 in
theorem w_hears : about1.hears theMethod below0 = true := by decide +kernel
set_option maxRecDepth 65536 in
theorem w_ripe : about1.ripe theMethod args0 below0 = true := by decide +kernel
theorem w_running : about1.status = .running := rfl
set_option maxRecDepth 65536 in
theorem w_room : about1.hasRoom e0.platform room_1 = true :=
  launch0.hasRoom_least _ room_1 (by decide +kernel) (by decide +kernel) (by decide +kernel) (by decide +kernel) (by decide +kernel) (by decide +kernel)
theorem allAtoms_all (ts : List Jvm.Cond) (a : Array Jvm.Value) (st : Jvm.State) : (allAtoms ts).before a st = ts.all (fun c => c.before a st) := by
  induction ts with
  | nil => rfl
  | cons c t ih =>
    show (Jvm.Cond.and c (allAtoms t)).before a st = _
    rw [Jvm.Cond.before_and, ih, List.all_cons]
def words1 : List Jvm.Cond := Jvm.Cond.code x code maxLocals ret :: tables_1
/-- a 'code' word, met by the world's own term for the bytes: nothing is compared byte by byte -/
theorem code_word {y : MethodName} {bytes : ByteArray} {mx : Nat} {rt : Option FieldType} {a : Array Value} {s : State} {m : MethodId} {meth : Method} {c : Code} (h1 : s.methodNamed? y = some m) (h2 : s.vm.method? m = some meth) (h3 : meth.code = some c) (h4 : c.code = bytes)
    (h5 : (c.maxLocals == mx && c.exceptionTable.isEmpty && decide (c.maxStack ≤ mostOperands) && decide (meth.sig.returnType = rt) && !meth.locks && decide (parseMethodDescriptor y.desc = some meth.sig)) = true) : (Jvm.Cond.code y bytes mx rt).before a s = true := by
  simp only [Bool.and_eq_true, beq_iff_eq, Bool.not_eq_true', decide_eq_true_eq] at h5
  obtain ⟨⟨⟨⟨⟨g1, g2⟩, g3⟩, g4⟩, g5⟩, g6⟩ := h5
  simp [Cond.before, Cond.holds, Cond.value, h1, h2, h3, h4, g1, g2, g3, g4, g5, g6]
def isCode : Jvm.Cond → Bool
  | .code _ _ _ _ => true
  | _ => false
theorem all_split {L : List Jvm.Cond} {P : Jvm.Cond → Bool} (h1 : L.all (fun c => isCode c || P c) = true) (h2 : ∀ c ∈ L.filter isCode, P c = true) : L.all P = true := by
  refine List.all_eq_true.mpr fun c hc => ?_
  have h := List.all_eq_true.mp h1 c hc
  rcases Bool.eq_false_or_eq_true (isCode c) with hi | hi
  · exact h2 c (List.mem_filter.mpr ⟨hc, hi⟩)
  · simpa [hi] using h
set_option maxRecDepth 65536 in
theorem w_c0 : (Jvm.Cond.code x code maxLocals ret).before args0 about1 = true := code_word (m := ⟨1, 2⟩) (meth := k1m2) (c := k1c2) (by decide +kernel) rfl rfl rfl (by decide +kernel)
set_option maxRecDepth 65536 in
theorem w_c1 : (Jvm.Cond.code ({ cls := "com/example/project_roster/projectroster/model/ComparisonOrderingPinLaw", name := "pick", desc := "(I)Lcom/example/project_roster/projectroster/model/Filter$Comparison;" } : Jvm.MethodName) method_2_code (1 : Nat) (Option.some (Jvm.ClassFile.FieldType.object "com/example/project_roster/projectroster/model/Filter$Comparison"))).before args0 about1 = true := code_word (m := ⟨1, 1⟩) (meth := k1m1) (c := k1c1) (by decide +kernel) rfl rfl rfl (by decide +kernel)
set_option maxRecDepth 65536 in
theorem w_c2 : (Jvm.Cond.code ({ cls := "com/example/project_roster/projectroster/model/Filter$Comparison", name := "ordering", desc := "()Z" } : Jvm.MethodName) prog_96_method_4_code (1 : Nat) (Option.some Jvm.ClassFile.FieldType.boolean)).before args0 about1 = true := code_word (m := ⟨6, 0⟩) (meth := k6m0) (c := k6c0) (by decide +kernel) rfl rfl rfl (by decide +kernel)
def codes1 : List Jvm.Cond := [Jvm.Cond.code x code maxLocals ret, Jvm.Cond.code ({ cls := "com/example/project_roster/projectroster/model/ComparisonOrderingPinLaw", name := "pick", desc := "(I)Lcom/example/project_roster/projectroster/model/Filter$Comparison;" } : Jvm.MethodName) method_2_code (1 : Nat) (Option.some (Jvm.ClassFile.FieldType.object "com/example/project_roster/projectroster/model/Filter$Comparison")), Jvm.Cond.code ({ cls := "com/example/project_roster/projectroster/model/Filter$Comparison", name := "ordering", desc := "()Z" } : Jvm.MethodName) prog_96_method_4_code (1 : Nat) (Option.some Jvm.ClassFile.FieldType.boolean)]
set_option maxRecDepth 65536 in
theorem codes_eq : words1.filter isCode = codes1 := rfl
theorem w_codes : ∀ c ∈ words1.filter isCode, c.before args0 about1 = true := by
  rw [codes_eq]
  intro c hc
  simp only [codes1, List.mem_cons, List.not_mem_nil, or_false] at hc
  rcases hc with rfl | rfl | rfl
  · exact w_c0
  · exact w_c1
  · exact w_c2
set_option maxRecDepth 65536 in
theorem w_t1 : (words1.take 24).all (fun c => isCode c || c.before args0 about1) = true := by decide +kernel
set_option maxRecDepth 65536 in
theorem w_t2 : (words1.drop 24).all (fun c => isCode c || c.before args0 about1) = true := by decide +kernel
theorem w_tables : (allAtoms (Jvm.Cond.code x code maxLocals ret :: tables_1)).before args0 about1 = true := by
  rw [allAtoms_all]
  show words1.all (fun c => c.before args0 about1) = true
  refine all_split ?_ w_codes
  rw [← List.take_append_drop 24 words1, List.all_append, w_t1, w_t2]
  rfl
set_option maxRecDepth 65536 in
theorem w_case : (Jvm.Cond.and given_1 narrow_1).before args0 about1 = true := by decide +kernel
theorem w_applies : (headSpec (Jvm.Cond.code x code maxLocals ret :: tables_1) room_1).applies x e0.platform about1 = true :=
  (Spec.applies_iff w_frames).mpr ⟨w_running, w_runnable, w_alone, w_named, w_hears, w_ripe, w_room, w_tables⟩
theorem atStart : AtStart classFile x code maxLocals ret World_1 tables_1 room_1 Calls_1 rest_1 Pre_1 launch0 p0 e0 about1 theMethod args0 below0 :=
  ⟨lists_1, trivial, launch0.admits_env _ _ _, launch0.least_env, fairChoices_fair.cas, fairChoices_fair.clock, w_frames, w_args, w_heap, w_applies, trivial, trivial, w_case⟩
end start1
theorem witness_1 : WitnessClaimed_1 := ⟨start1.p0, start1.e0, start1.about1, start1.theMethod, start1.args0, start1.below0, start1.atStart⟩
end Jvm.Pilot.@@N@@
