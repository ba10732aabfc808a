import JvmDerived
import JvmDerived.Pilot.@@N@@Statement
import JvmDerived.Pilot.@@N@@Code
set_option linter.unusedVariables false
set_option linter.unusedSimpArgs false
namespace Jvm.Pilot.@@N@@
open Jvm Jvm.ClassFile Sem Op Lib Jvm.Free Jvm.Stand Jvm.LawKit Jvm.RoadKit Bundle Jvm.Pilot.@@N@@.Jvm.D
theorem d_isPrivateUse_0 : decode prog_24_method_8_code 0 = .ok (.iload_n 0, 1) := by decide +kernel
theorem d_isPrivateUse_1 : decode prog_24_method_8_code 1 = .ok (.ldc 46, 2) := by decide +kernel
theorem d_isPrivateUse_3 : decode prog_24_method_8_code 3 = .ok (.if_icmp .lt 9, 3) := by decide +kernel
theorem d_isPrivateUse_6 : decode prog_24_method_8_code 6 = .ok (.iload_n 0, 1) := by decide +kernel
theorem d_isPrivateUse_7 : decode prog_24_method_8_code 7 = .ok (.ldc 47, 2) := by decide +kernel
theorem d_isPrivateUse_9 : decode prog_24_method_8_code 9 = .ok (.if_icmp .le 27, 3) := by decide +kernel
theorem d_isPrivateUse_12 : decode prog_24_method_8_code 12 = .ok (.iload_n 0, 1) := by decide +kernel
theorem d_isPrivateUse_13 : decode prog_24_method_8_code 13 = .ok (.ldc 48, 2) := by decide +kernel
theorem d_isPrivateUse_15 : decode prog_24_method_8_code 15 = .ok (.if_icmp .lt 9, 3) := by decide +kernel
theorem d_isPrivateUse_18 : decode prog_24_method_8_code 18 = .ok (.iload_n 0, 1) := by decide +kernel
theorem d_isPrivateUse_19 : decode prog_24_method_8_code 19 = .ok (.ldc 49, 2) := by decide +kernel
theorem d_isPrivateUse_21 : decode prog_24_method_8_code 21 = .ok (.if_icmp .le 15, 3) := by decide +kernel
theorem d_isPrivateUse_24 : decode prog_24_method_8_code 24 = .ok (.iload_n 0, 1) := by decide +kernel
theorem d_isPrivateUse_25 : decode prog_24_method_8_code 25 = .ok (.ldc 50, 2) := by decide +kernel
theorem d_isPrivateUse_27 : decode prog_24_method_8_code 27 = .ok (.if_icmp .lt 13, 3) := by decide +kernel
theorem d_isPrivateUse_30 : decode prog_24_method_8_code 30 = .ok (.iload_n 0, 1) := by decide +kernel
theorem d_isPrivateUse_31 : decode prog_24_method_8_code 31 = .ok (.ldc 51, 2) := by decide +kernel
theorem d_isPrivateUse_33 : decode prog_24_method_8_code 33 = .ok (.if_icmp .gt 7, 3) := by decide +kernel
theorem d_isPrivateUse_36 : decode prog_24_method_8_code 36 = .ok (.iconst 1, 1) := by decide +kernel
theorem d_isPrivateUse_37 : decode prog_24_method_8_code 37 = .ok (.goto 4, 3) := by decide +kernel
theorem d_isPrivateUse_40 : decode prog_24_method_8_code 40 = .ok (.iconst 0, 1) := by decide +kernel
theorem d_isPrivateUse_41 : decode prog_24_method_8_code 41 = .ok (.ireturn, 1) := by decide +kernel
theorem d_expected_0 : decode method_2_code 0 = .ok (.iload_n 0, 1) := by decide +kernel
theorem d_expected_1 : decode method_2_code 1 = .ok (.ifCond .ge 5, 3) := by decide +kernel
theorem d_expected_4 : decode method_2_code 4 = .ok (.iconst 0, 1) := by decide +kernel
theorem d_expected_5 : decode method_2_code 5 = .ok (.ireturn, 1) := by decide +kernel
theorem d_expected_6 : decode method_2_code 6 = .ok (.iload_n 0, 1) := by decide +kernel
theorem d_expected_7 : decode method_2_code 7 = .ok (.bipush 16, 2) := by decide +kernel
theorem d_expected_9 : decode method_2_code 9 = .ok (.ishr, 1) := by decide +kernel
theorem d_expected_10 : decode method_2_code 10 = .ok (.istore_n 1, 1) := by decide +kernel
theorem d_expected_11 : decode method_2_code 11 = .ok (.iload_n 0, 1) := by decide +kernel
theorem d_expected_12 : decode method_2_code 12 = .ok (.ldc 7, 2) := by decide +kernel
theorem d_expected_14 : decode method_2_code 14 = .ok (.iand, 1) := by decide +kernel
theorem d_expected_15 : decode method_2_code 15 = .ok (.istore_n 2, 1) := by decide +kernel
theorem d_expected_16 : decode method_2_code 16 = .ok (.iload_n 1, 1) := by decide +kernel
theorem d_expected_17 : decode method_2_code 17 = .ok (.ifCond .ne 21, 3) := by decide +kernel
theorem d_expected_20 : decode method_2_code 20 = .ok (.iload_n 2, 1) := by decide +kernel
theorem d_expected_21 : decode method_2_code 21 = .ok (.ldc 8, 2) := by decide +kernel
theorem d_expected_23 : decode method_2_code 23 = .ok (.if_icmp .lt 13, 3) := by decide +kernel
theorem d_expected_26 : decode method_2_code 26 = .ok (.iload_n 2, 1) := by decide +kernel
theorem d_expected_27 : decode method_2_code 27 = .ok (.ldc 9, 2) := by decide +kernel
theorem d_expected_29 : decode method_2_code 29 = .ok (.if_icmp .gt 7, 3) := by decide +kernel
theorem d_expected_32 : decode method_2_code 32 = .ok (.iconst 1, 1) := by decide +kernel
theorem d_expected_33 : decode method_2_code 33 = .ok (.goto 4, 3) := by decide +kernel
theorem d_expected_36 : decode method_2_code 36 = .ok (.iconst 0, 1) := by decide +kernel
theorem d_expected_37 : decode method_2_code 37 = .ok (.ireturn, 1) := by decide +kernel
theorem d_expected_38 : decode method_2_code 38 = .ok (.iload_n 1, 1) := by decide +kernel
theorem d_expected_39 : decode method_2_code 39 = .ok (.bipush 15, 2) := by decide +kernel
theorem d_expected_41 : decode method_2_code 41 = .ok (.if_icmp .eq 9, 3) := by decide +kernel
theorem d_expected_44 : decode method_2_code 44 = .ok (.iload_n 1, 1) := by decide +kernel
theorem d_expected_45 : decode method_2_code 45 = .ok (.bipush 16, 2) := by decide +kernel
theorem d_expected_47 : decode method_2_code 47 = .ok (.if_icmp .ne 15, 3) := by decide +kernel
theorem d_expected_50 : decode method_2_code 50 = .ok (.iload_n 2, 1) := by decide +kernel
theorem d_expected_51 : decode method_2_code 51 = .ok (.ldc 10, 2) := by decide +kernel
theorem d_expected_53 : decode method_2_code 53 = .ok (.if_icmp .gt 7, 3) := by decide +kernel
theorem d_expected_56 : decode method_2_code 56 = .ok (.iconst 1, 1) := by decide +kernel
theorem d_expected_57 : decode method_2_code 57 = .ok (.goto 4, 3) := by decide +kernel
theorem d_expected_60 : decode method_2_code 60 = .ok (.iconst 0, 1) := by decide +kernel
theorem d_expected_61 : decode method_2_code 61 = .ok (.ireturn, 1) := by decide +kernel
theorem d_expected_62 : decode method_2_code 62 = .ok (.iconst 0, 1) := by decide +kernel
theorem d_expected_63 : decode method_2_code 63 = .ok (.ireturn, 1) := by decide +kernel
theorem pn_0 : plainName "com/example/sagoma/sagoma/format/Rfc3986IsPrivateUsePinLaw" = true := by first | (simp [plainName, overriddenIn]; done) | decide +kernel
theorem pn_u : plainName "com/example/sagoma/sagoma/format/Rfc3986" = true := by first | (simp [plainName, overriddenIn]; done) | decide +kernel
theorem pd_1 : parseMethodDescriptor "(I)Z" = some ⟨[.int], some .boolean⟩ := by decide +kernel
theorem ef_1 (m : MethodId) (x0 : Int32) : entryFrame m #[(.int x0)] 1 = mkF m 0 #[.val (.int x0)] [] := by first | (simp [entryFrame, mkF, argsToLocals, Value.category]; done) | rfl
theorem ef_2 (m : MethodId) (x0 : Int32) : entryFrame m #[(.int x0)] 3 = mkF m 0 #[.val (.int x0), .unset, .unset] [] := by first | (simp [entryFrame, mkF, argsToLocals, Value.category]; done) | rfl
theorem ef_0 (m : MethodId) (x0 : Int32) (x1 : Int32) (x2 : Int32) : entryFrame m #[(.int x0), (.int x1), (.int x2)] maxLocals = mkF m 0 #[.val (.int x0), .val (.int x1), .val (.int x2), .unset, .unset, .unset] [] := by first | (simp [entryFrame, mkF, argsToLocals, Value.category, maxLocals]; done) | rfl
def own_P (n : Int) : Bool := (decide (57344 ≤ n) && decide (n ≤ 63743)) || (decide (983040 ≤ n) && decide (n ≤ 1048573)) || (decide (1048576 ≤ n) && decide (n ≤ 1114109))
def own_p (c : Int32) : Int32 := if own_P c.toInt = true then 1 else 0
def Q_rm_p (Z : State) (p1 : Int32)  (h0 : Heap) (n0 : Nat) (v : Option Value) (h : Heap) (L : List Loc) : Prop := (v = some (.int (own_p p1)) ∧ Fr n0 L ∧ h = h0)
set_option maxRecDepth 65536 in
set_option maxHeartbeats 40000000 in
theorem rm_p (l : Launch) (Z : State) (a0 : Array Value) (hw : ∀ d ∈ tables_1, d.before a0 Z = true) (ws : List Jvm.Cond) (p1 : Int32) (h0 : Heap) (n0 : Nat)  :
    MetFree l (⟨"com/example/sagoma/sagoma/format/Rfc3986", "isPrivateUse", "(I)Z"⟩ : MethodName) (head1 (Jvm.Cond.code (⟨"com/example/sagoma/sagoma/format/Rfc3986", "isPrivateUse", "(I)Z"⟩ : MethodName) prog_24_method_8_code 1 (some .boolean) :: ws) ({ frames := 0, cells := 0, slots := 0, locals := 0 } : Room)) (fun a U => a = #[(.int p1)] ∧ Z.Warmed39 U.vm ∧ U.heap = h0) (fun _ _ _ _ _ => True) (fun _ U o U' => ∃ v L, o = .returned v ∧ Q_rm_p Z p1 h0 n0 v U'.heap L ∧ FrameEnd U o U' L ({ frames := 0, cells := 0, slots := 0, locals := 0 } : Room).cells ({ frames := 0, cells := 0, slots := 0, locals := 0 } : Room).slots) := by
  refine MetFree.of_bodySF (plainFor_of_name pn_u) hisR ?_
  intro p e s m args below meth c s₁ Bd hml0 hP hK
  obtain ⟨rfl, hZ, hh⟩ := hP
  have hx := Bd.exec
  have hby := Bd.bytes
  have hml : c.maxLocals = 1 := hml0
  have hown : s.vm.findClass "com/example/sagoma/sagoma/format/Rfc3986" = some m.cls := findClass_of_methodNamed Bd.named
  have hnm := (name_of_methodNamed Bd.named Bd.method).1
  have X0 : Stand p l e ({ frames := 0, cells := 0, slots := 0, locals := 0 } : Room) s m #[(.int p1)] below meth c s₁ [] 0 0 := Stand.of_body Bd
  have e0 : s₁.heap = h0 := by rw [← hh, Bd.state]; rfl
  have N0 := Fr.nil n0
  have pre0 : ∀ t, Steps p.tables e below (s₁.setTop (mkF m 0 #[.val (.int p1)] [])) t → Steps p.tables e below (s₁.setTop (entryFrame m #[(.int p1)] 1)) t := fun t k => castTop (ef_1 m p1) k
  obtain ⟨fs, hr, hrun, hended, hW, hsame⟩ := X0.leave (v := some (.int (own_p p1))) (fun h => by rw [Bd.returns] at h; cases h)
  refine ⟨_, _, pre0 _ ?_, hrun, hended, _, _, rfl, ⟨rfl, N0, e0⟩, ⟨_, rfl⟩, hW, hsame.mono (by decide) (by decide)⟩
  have c57344 : (57344 : Int32).toInt = 57344 := by decide
  have c63743 : (63743 : Int32).toInt = 63743 := by decide
  have c983040 : (983040 : Int32).toInt = 983040 := by decide
  have c1048573 : (1048573 : Int32).toInt = 1048573 := by decide
  have c1048576 : (1048576 : Int32).toInt = 1048576 := by decide
  have c1114109 : (1114109 : Int32).toInt = 1114109 := by decide
  show Steps p.tables e below (s₁.setTop (mkF m 0 #[.val (.int p1)] [])) _
  refine XS.iloadN X0.here hx rfl (hb hby d_isPrivateUse_0) rfl ?_
  show Steps p.tables e below (s₁.setTop (mkF m 1 #[.val (.int p1)] [(.int p1)])) _
  refine Jvm.Stand.ldcI X0 hx hown (mvT hZ (hw _ (List.mem_of_getElem? (i := 14) rfl))) rfl (hb hby d_isPrivateUse_1) ?_
  by_cases hc3 : p1 < (57344 : Int32)
  · show Steps p.tables e below (s₁.setTop (mkF m 3 #[.val (.int p1)] [(.int (57344 : Int32)), (.int p1)])) _
    refine XS.icmpYes X0.here hx rfl (pc0 := 3) (pc' := 12) rfl (hb hby d_isPrivateUse_3) rfl (tlt hc3).1 (by decide) (by decide) ?_
    show Steps p.tables e below (s₁.setTop (mkF m 12 #[.val (.int p1)] [])) _
    refine XS.iloadN X0.here hx rfl (hb hby d_isPrivateUse_12) rfl ?_
    show Steps p.tables e below (s₁.setTop (mkF m 13 #[.val (.int p1)] [(.int p1)])) _
    refine Jvm.Stand.ldcI X0 hx hown (mvT hZ (hw _ (List.mem_of_getElem? (i := 15) rfl))) rfl (hb hby d_isPrivateUse_13) ?_
    by_cases hc15 : p1 < (983040 : Int32)
    · show Steps p.tables e below (s₁.setTop (mkF m 15 #[.val (.int p1)] [(.int (983040 : Int32)), (.int p1)])) _
      refine XS.icmpYes X0.here hx rfl (pc0 := 15) (pc' := 24) rfl (hb hby d_isPrivateUse_15) rfl (tlt hc15).1 (by decide) (by decide) ?_
      show Steps p.tables e below (s₁.setTop (mkF m 24 #[.val (.int p1)] [])) _
      refine XS.iloadN X0.here hx rfl (hb hby d_isPrivateUse_24) rfl ?_
      show Steps p.tables e below (s₁.setTop (mkF m 25 #[.val (.int p1)] [(.int p1)])) _
      refine Jvm.Stand.ldcI X0 hx hown (mvT hZ (hw _ (List.mem_of_getElem? (i := 16) rfl))) rfl (hb hby d_isPrivateUse_25) ?_
      by_cases hc27 : p1 < (1048576 : Int32)
      · show Steps p.tables e below (s₁.setTop (mkF m 27 #[.val (.int p1)] [(.int (1048576 : Int32)), (.int p1)])) _
        refine XS.icmpYes X0.here hx rfl (pc0 := 27) (pc' := 40) rfl (hb hby d_isPrivateUse_27) rfl (tlt hc27).1 (by decide) (by decide) ?_
        show Steps p.tables e below (s₁.setTop (mkF m 40 #[.val (.int p1)] [])) _
        refine XS.iconst X0.here hx rfl (hb hby d_isPrivateUse_40) ?_
        show Steps p.tables e below (s₁.setTop (mkF m 41 #[.val (.int p1)] [(.int (0 : Int32))])) _
        have hU : own_P p1.toInt = false := by
          clear hr
          simp only [Int32.lt_iff_toInt_lt, ← Int32.toInt_inj, c57344, c63743, c983040, c1048573, c1048576, c1114109] at *
          simp only [own_P, Bool.or_eq_true, Bool.and_eq_true, Bool.not_eq_true', decide_eq_true_eq, Bool.and_eq_false_iff, Bool.or_eq_false_iff, Bool.not_eq_false', decide_eq_false_iff_not]
          omega
        have hv : own_p p1 = (0 : Int32) := by simp only [own_p, hU]; rfl
        rw [hv] at hr
        exact retN X0 hx (t := .boolean) Bd.returns (by simp) (hb hby d_isPrivateUse_41) hr
      · show Steps p.tables e below (s₁.setTop (mkF m 27 #[.val (.int p1)] [(.int (1048576 : Int32)), (.int p1)])) _
        refine XS.icmpNo X0.here hx rfl (hb hby d_isPrivateUse_27) rfl (flt hc27).1 ?_
        show Steps p.tables e below (s₁.setTop (mkF m 30 #[.val (.int p1)] [])) _
        refine XS.iloadN X0.here hx rfl (hb hby d_isPrivateUse_30) rfl ?_
        show Steps p.tables e below (s₁.setTop (mkF m 31 #[.val (.int p1)] [(.int p1)])) _
        refine Jvm.Stand.ldcI X0 hx hown (mvT hZ (hw _ (List.mem_of_getElem? (i := 24) rfl))) rfl (hb hby d_isPrivateUse_31) ?_
        by_cases hc33 : (1114109 : Int32) < p1
        · show Steps p.tables e below (s₁.setTop (mkF m 33 #[.val (.int p1)] [(.int (1114109 : Int32)), (.int p1)])) _
          refine XS.icmpYes X0.here hx rfl (pc0 := 33) (pc' := 40) rfl (hb hby d_isPrivateUse_33) rfl (tlt hc33).2.2.1 (by decide) (by decide) ?_
          show Steps p.tables e below (s₁.setTop (mkF m 40 #[.val (.int p1)] [])) _
          refine XS.iconst X0.here hx rfl (hb hby d_isPrivateUse_40) ?_
          show Steps p.tables e below (s₁.setTop (mkF m 41 #[.val (.int p1)] [(.int (0 : Int32))])) _
          have hU : own_P p1.toInt = false := by
            clear hr
            simp only [Int32.lt_iff_toInt_lt, ← Int32.toInt_inj, c57344, c63743, c983040, c1048573, c1048576, c1114109] at *
            simp only [own_P, Bool.or_eq_true, Bool.and_eq_true, Bool.not_eq_true', decide_eq_true_eq, Bool.and_eq_false_iff, Bool.or_eq_false_iff, Bool.not_eq_false', decide_eq_false_iff_not]
            omega
          have hv : own_p p1 = (0 : Int32) := by simp only [own_p, hU]; rfl
          rw [hv] at hr
          exact retN X0 hx (t := .boolean) Bd.returns (by simp) (hb hby d_isPrivateUse_41) hr
        · show Steps p.tables e below (s₁.setTop (mkF m 33 #[.val (.int p1)] [(.int (1114109 : Int32)), (.int p1)])) _
          refine XS.icmpNo X0.here hx rfl (hb hby d_isPrivateUse_33) rfl (flt hc33).2.2.1 ?_
          show Steps p.tables e below (s₁.setTop (mkF m 36 #[.val (.int p1)] [])) _
          refine XS.iconst X0.here hx rfl (hb hby d_isPrivateUse_36) ?_
          show Steps p.tables e below (s₁.setTop (mkF m 37 #[.val (.int p1)] [(.int (1 : Int32))])) _
          refine XS.goto X0.here hx rfl (pc0 := 37) (pc' := 41) rfl (hb hby d_isPrivateUse_37) (by decide) (by decide) ?_
          show Steps p.tables e below (s₁.setTop (mkF m 41 #[.val (.int p1)] [(.int (1 : Int32))])) _
          have hU : own_P p1.toInt = true := by
            clear hr
            simp only [Int32.lt_iff_toInt_lt, ← Int32.toInt_inj, c57344, c63743, c983040, c1048573, c1048576, c1114109] at *
            simp only [own_P, Bool.or_eq_true, Bool.and_eq_true, Bool.not_eq_true', decide_eq_true_eq, Bool.and_eq_false_iff, Bool.or_eq_false_iff, Bool.not_eq_false', decide_eq_false_iff_not]
            omega
          have hv : own_p p1 = (1 : Int32) := by simp only [own_p, hU]; rfl
          rw [hv] at hr
          exact retN X0 hx (t := .boolean) Bd.returns (by simp) (hb hby d_isPrivateUse_41) hr
    · show Steps p.tables e below (s₁.setTop (mkF m 15 #[.val (.int p1)] [(.int (983040 : Int32)), (.int p1)])) _
      refine XS.icmpNo X0.here hx rfl (hb hby d_isPrivateUse_15) rfl (flt hc15).1 ?_
      show Steps p.tables e below (s₁.setTop (mkF m 18 #[.val (.int p1)] [])) _
      refine XS.iloadN X0.here hx rfl (hb hby d_isPrivateUse_18) rfl ?_
      show Steps p.tables e below (s₁.setTop (mkF m 19 #[.val (.int p1)] [(.int p1)])) _
      refine Jvm.Stand.ldcI X0 hx hown (mvT hZ (hw _ (List.mem_of_getElem? (i := 23) rfl))) rfl (hb hby d_isPrivateUse_19) ?_
      by_cases hc21 : (1048573 : Int32) < p1
      · show Steps p.tables e below (s₁.setTop (mkF m 21 #[.val (.int p1)] [(.int (1048573 : Int32)), (.int p1)])) _
        refine XS.icmpNo X0.here hx rfl (hb hby d_isPrivateUse_21) rfl (tlt hc21).2.2.2 ?_
        show Steps p.tables e below (s₁.setTop (mkF m 24 #[.val (.int p1)] [])) _
        refine XS.iloadN X0.here hx rfl (hb hby d_isPrivateUse_24) rfl ?_
        show Steps p.tables e below (s₁.setTop (mkF m 25 #[.val (.int p1)] [(.int p1)])) _
        refine Jvm.Stand.ldcI X0 hx hown (mvT hZ (hw _ (List.mem_of_getElem? (i := 16) rfl))) rfl (hb hby d_isPrivateUse_25) ?_
        by_cases hc27 : p1 < (1048576 : Int32)
        · show Steps p.tables e below (s₁.setTop (mkF m 27 #[.val (.int p1)] [(.int (1048576 : Int32)), (.int p1)])) _
          refine XS.icmpYes X0.here hx rfl (pc0 := 27) (pc' := 40) rfl (hb hby d_isPrivateUse_27) rfl (tlt hc27).1 (by decide) (by decide) ?_
          show Steps p.tables e below (s₁.setTop (mkF m 40 #[.val (.int p1)] [])) _
          refine XS.iconst X0.here hx rfl (hb hby d_isPrivateUse_40) ?_
          show Steps p.tables e below (s₁.setTop (mkF m 41 #[.val (.int p1)] [(.int (0 : Int32))])) _
          have hU : own_P p1.toInt = false := by
            clear hr
            simp only [Int32.lt_iff_toInt_lt, ← Int32.toInt_inj, c57344, c63743, c983040, c1048573, c1048576, c1114109] at *
            simp only [own_P, Bool.or_eq_true, Bool.and_eq_true, Bool.not_eq_true', decide_eq_true_eq, Bool.and_eq_false_iff, Bool.or_eq_false_iff, Bool.not_eq_false', decide_eq_false_iff_not]
            omega
          have hv : own_p p1 = (0 : Int32) := by simp only [own_p, hU]; rfl
          rw [hv] at hr
          exact retN X0 hx (t := .boolean) Bd.returns (by simp) (hb hby d_isPrivateUse_41) hr
        · show Steps p.tables e below (s₁.setTop (mkF m 27 #[.val (.int p1)] [(.int (1048576 : Int32)), (.int p1)])) _
          refine XS.icmpNo X0.here hx rfl (hb hby d_isPrivateUse_27) rfl (flt hc27).1 ?_
          show Steps p.tables e below (s₁.setTop (mkF m 30 #[.val (.int p1)] [])) _
          refine XS.iloadN X0.here hx rfl (hb hby d_isPrivateUse_30) rfl ?_
          show Steps p.tables e below (s₁.setTop (mkF m 31 #[.val (.int p1)] [(.int p1)])) _
          refine Jvm.Stand.ldcI X0 hx hown (mvT hZ (hw _ (List.mem_of_getElem? (i := 24) rfl))) rfl (hb hby d_isPrivateUse_31) ?_
          by_cases hc33 : (1114109 : Int32) < p1
          · show Steps p.tables e below (s₁.setTop (mkF m 33 #[.val (.int p1)] [(.int (1114109 : Int32)), (.int p1)])) _
            refine XS.icmpYes X0.here hx rfl (pc0 := 33) (pc' := 40) rfl (hb hby d_isPrivateUse_33) rfl (tlt hc33).2.2.1 (by decide) (by decide) ?_
            show Steps p.tables e below (s₁.setTop (mkF m 40 #[.val (.int p1)] [])) _
            refine XS.iconst X0.here hx rfl (hb hby d_isPrivateUse_40) ?_
            show Steps p.tables e below (s₁.setTop (mkF m 41 #[.val (.int p1)] [(.int (0 : Int32))])) _
            have hU : own_P p1.toInt = false := by
              clear hr
              simp only [Int32.lt_iff_toInt_lt, ← Int32.toInt_inj, c57344, c63743, c983040, c1048573, c1048576, c1114109] at *
              simp only [own_P, Bool.or_eq_true, Bool.and_eq_true, Bool.not_eq_true', decide_eq_true_eq, Bool.and_eq_false_iff, Bool.or_eq_false_iff, Bool.not_eq_false', decide_eq_false_iff_not]
              omega
            have hv : own_p p1 = (0 : Int32) := by simp only [own_p, hU]; rfl
            rw [hv] at hr
            exact retN X0 hx (t := .boolean) Bd.returns (by simp) (hb hby d_isPrivateUse_41) hr
          · show Steps p.tables e below (s₁.setTop (mkF m 33 #[.val (.int p1)] [(.int (1114109 : Int32)), (.int p1)])) _
            refine XS.icmpNo X0.here hx rfl (hb hby d_isPrivateUse_33) rfl (flt hc33).2.2.1 ?_
            show Steps p.tables e below (s₁.setTop (mkF m 36 #[.val (.int p1)] [])) _
            refine XS.iconst X0.here hx rfl (hb hby d_isPrivateUse_36) ?_
            show Steps p.tables e below (s₁.setTop (mkF m 37 #[.val (.int p1)] [(.int (1 : Int32))])) _
            refine XS.goto X0.here hx rfl (pc0 := 37) (pc' := 41) rfl (hb hby d_isPrivateUse_37) (by decide) (by decide) ?_
            show Steps p.tables e below (s₁.setTop (mkF m 41 #[.val (.int p1)] [(.int (1 : Int32))])) _
            have hU : own_P p1.toInt = true := by
              clear hr
              simp only [Int32.lt_iff_toInt_lt, ← Int32.toInt_inj, c57344, c63743, c983040, c1048573, c1048576, c1114109] at *
              simp only [own_P, Bool.or_eq_true, Bool.and_eq_true, Bool.not_eq_true', decide_eq_true_eq, Bool.and_eq_false_iff, Bool.or_eq_false_iff, Bool.not_eq_false', decide_eq_false_iff_not]
              omega
            have hv : own_p p1 = (1 : Int32) := by simp only [own_p, hU]; rfl
            rw [hv] at hr
            exact retN X0 hx (t := .boolean) Bd.returns (by simp) (hb hby d_isPrivateUse_41) hr
      · show Steps p.tables e below (s₁.setTop (mkF m 21 #[.val (.int p1)] [(.int (1048573 : Int32)), (.int p1)])) _
        refine XS.icmpYes X0.here hx rfl (pc0 := 21) (pc' := 36) rfl (hb hby d_isPrivateUse_21) rfl (flt hc21).2.2.2 (by decide) (by decide) ?_
        show Steps p.tables e below (s₁.setTop (mkF m 36 #[.val (.int p1)] [])) _
        refine XS.iconst X0.here hx rfl (hb hby d_isPrivateUse_36) ?_
        show Steps p.tables e below (s₁.setTop (mkF m 37 #[.val (.int p1)] [(.int (1 : Int32))])) _
        refine XS.goto X0.here hx rfl (pc0 := 37) (pc' := 41) rfl (hb hby d_isPrivateUse_37) (by decide) (by decide) ?_
        show Steps p.tables e below (s₁.setTop (mkF m 41 #[.val (.int p1)] [(.int (1 : Int32))])) _
        have hU : own_P p1.toInt = true := by
          clear hr
          simp only [Int32.lt_iff_toInt_lt, ← Int32.toInt_inj, c57344, c63743, c983040, c1048573, c1048576, c1114109] at *
          simp only [own_P, Bool.or_eq_true, Bool.and_eq_true, Bool.not_eq_true', decide_eq_true_eq, Bool.and_eq_false_iff, Bool.or_eq_false_iff, Bool.not_eq_false', decide_eq_false_iff_not]
          omega
        have hv : own_p p1 = (1 : Int32) := by simp only [own_p, hU]; rfl
        rw [hv] at hr
        exact retN X0 hx (t := .boolean) Bd.returns (by simp) (hb hby d_isPrivateUse_41) hr
  · show Steps p.tables e below (s₁.setTop (mkF m 3 #[.val (.int p1)] [(.int (57344 : Int32)), (.int p1)])) _
    refine XS.icmpNo X0.here hx rfl (hb hby d_isPrivateUse_3) rfl (flt hc3).1 ?_
    show Steps p.tables e below (s₁.setTop (mkF m 6 #[.val (.int p1)] [])) _
    refine XS.iloadN X0.here hx rfl (hb hby d_isPrivateUse_6) rfl ?_
    show Steps p.tables e below (s₁.setTop (mkF m 7 #[.val (.int p1)] [(.int p1)])) _
    refine Jvm.Stand.ldcI X0 hx hown (mvT hZ (hw _ (List.mem_of_getElem? (i := 22) rfl))) rfl (hb hby d_isPrivateUse_7) ?_
    by_cases hc9 : (63743 : Int32) < p1
    · show Steps p.tables e below (s₁.setTop (mkF m 9 #[.val (.int p1)] [(.int (63743 : Int32)), (.int p1)])) _
      refine XS.icmpNo X0.here hx rfl (hb hby d_isPrivateUse_9) rfl (tlt hc9).2.2.2 ?_
      show Steps p.tables e below (s₁.setTop (mkF m 12 #[.val (.int p1)] [])) _
      refine XS.iloadN X0.here hx rfl (hb hby d_isPrivateUse_12) rfl ?_
      show Steps p.tables e below (s₁.setTop (mkF m 13 #[.val (.int p1)] [(.int p1)])) _
      refine Jvm.Stand.ldcI X0 hx hown (mvT hZ (hw _ (List.mem_of_getElem? (i := 15) rfl))) rfl (hb hby d_isPrivateUse_13) ?_
      by_cases hc15 : p1 < (983040 : Int32)
      · show Steps p.tables e below (s₁.setTop (mkF m 15 #[.val (.int p1)] [(.int (983040 : Int32)), (.int p1)])) _
        refine XS.icmpYes X0.here hx rfl (pc0 := 15) (pc' := 24) rfl (hb hby d_isPrivateUse_15) rfl (tlt hc15).1 (by decide) (by decide) ?_
        show Steps p.tables e below (s₁.setTop (mkF m 24 #[.val (.int p1)] [])) _
        refine XS.iloadN X0.here hx rfl (hb hby d_isPrivateUse_24) rfl ?_
        show Steps p.tables e below (s₁.setTop (mkF m 25 #[.val (.int p1)] [(.int p1)])) _
        refine Jvm.Stand.ldcI X0 hx hown (mvT hZ (hw _ (List.mem_of_getElem? (i := 16) rfl))) rfl (hb hby d_isPrivateUse_25) ?_
        by_cases hc27 : p1 < (1048576 : Int32)
        · show Steps p.tables e below (s₁.setTop (mkF m 27 #[.val (.int p1)] [(.int (1048576 : Int32)), (.int p1)])) _
          refine XS.icmpYes X0.here hx rfl (pc0 := 27) (pc' := 40) rfl (hb hby d_isPrivateUse_27) rfl (tlt hc27).1 (by decide) (by decide) ?_
          show Steps p.tables e below (s₁.setTop (mkF m 40 #[.val (.int p1)] [])) _
          refine XS.iconst X0.here hx rfl (hb hby d_isPrivateUse_40) ?_
          show Steps p.tables e below (s₁.setTop (mkF m 41 #[.val (.int p1)] [(.int (0 : Int32))])) _
          have hU : own_P p1.toInt = false := by
            clear hr
            simp only [Int32.lt_iff_toInt_lt, ← Int32.toInt_inj, c57344, c63743, c983040, c1048573, c1048576, c1114109] at *
            simp only [own_P, Bool.or_eq_true, Bool.and_eq_true, Bool.not_eq_true', decide_eq_true_eq, Bool.and_eq_false_iff, Bool.or_eq_false_iff, Bool.not_eq_false', decide_eq_false_iff_not]
            omega
          have hv : own_p p1 = (0 : Int32) := by simp only [own_p, hU]; rfl
          rw [hv] at hr
          exact retN X0 hx (t := .boolean) Bd.returns (by simp) (hb hby d_isPrivateUse_41) hr
        · show Steps p.tables e below (s₁.setTop (mkF m 27 #[.val (.int p1)] [(.int (1048576 : Int32)), (.int p1)])) _
          refine XS.icmpNo X0.here hx rfl (hb hby d_isPrivateUse_27) rfl (flt hc27).1 ?_
          show Steps p.tables e below (s₁.setTop (mkF m 30 #[.val (.int p1)] [])) _
          refine XS.iloadN X0.here hx rfl (hb hby d_isPrivateUse_30) rfl ?_
          show Steps p.tables e below (s₁.setTop (mkF m 31 #[.val (.int p1)] [(.int p1)])) _
          refine Jvm.Stand.ldcI X0 hx hown (mvT hZ (hw _ (List.mem_of_getElem? (i := 24) rfl))) rfl (hb hby d_isPrivateUse_31) ?_
          by_cases hc33 : (1114109 : Int32) < p1
          · show Steps p.tables e below (s₁.setTop (mkF m 33 #[.val (.int p1)] [(.int (1114109 : Int32)), (.int p1)])) _
            refine XS.icmpYes X0.here hx rfl (pc0 := 33) (pc' := 40) rfl (hb hby d_isPrivateUse_33) rfl (tlt hc33).2.2.1 (by decide) (by decide) ?_
            show Steps p.tables e below (s₁.setTop (mkF m 40 #[.val (.int p1)] [])) _
            refine XS.iconst X0.here hx rfl (hb hby d_isPrivateUse_40) ?_
            show Steps p.tables e below (s₁.setTop (mkF m 41 #[.val (.int p1)] [(.int (0 : Int32))])) _
            have hU : own_P p1.toInt = false := by
              clear hr
              simp only [Int32.lt_iff_toInt_lt, ← Int32.toInt_inj, c57344, c63743, c983040, c1048573, c1048576, c1114109] at *
              simp only [own_P, Bool.or_eq_true, Bool.and_eq_true, Bool.not_eq_true', decide_eq_true_eq, Bool.and_eq_false_iff, Bool.or_eq_false_iff, Bool.not_eq_false', decide_eq_false_iff_not]
              omega
            have hv : own_p p1 = (0 : Int32) := by simp only [own_p, hU]; rfl
            rw [hv] at hr
            exact retN X0 hx (t := .boolean) Bd.returns (by simp) (hb hby d_isPrivateUse_41) hr
          · show Steps p.tables e below (s₁.setTop (mkF m 33 #[.val (.int p1)] [(.int (1114109 : Int32)), (.int p1)])) _
            refine XS.icmpNo X0.here hx rfl (hb hby d_isPrivateUse_33) rfl (flt hc33).2.2.1 ?_
            show Steps p.tables e below (s₁.setTop (mkF m 36 #[.val (.int p1)] [])) _
            refine XS.iconst X0.here hx rfl (hb hby d_isPrivateUse_36) ?_
            show Steps p.tables e below (s₁.setTop (mkF m 37 #[.val (.int p1)] [(.int (1 : Int32))])) _
            refine XS.goto X0.here hx rfl (pc0 := 37) (pc' := 41) rfl (hb hby d_isPrivateUse_37) (by decide) (by decide) ?_
            show Steps p.tables e below (s₁.setTop (mkF m 41 #[.val (.int p1)] [(.int (1 : Int32))])) _
            have hU : own_P p1.toInt = true := by
              clear hr
              simp only [Int32.lt_iff_toInt_lt, ← Int32.toInt_inj, c57344, c63743, c983040, c1048573, c1048576, c1114109] at *
              simp only [own_P, Bool.or_eq_true, Bool.and_eq_true, Bool.not_eq_true', decide_eq_true_eq, Bool.and_eq_false_iff, Bool.or_eq_false_iff, Bool.not_eq_false', decide_eq_false_iff_not]
              omega
            have hv : own_p p1 = (1 : Int32) := by simp only [own_p, hU]; rfl
            rw [hv] at hr
            exact retN X0 hx (t := .boolean) Bd.returns (by simp) (hb hby d_isPrivateUse_41) hr
      · show Steps p.tables e below (s₁.setTop (mkF m 15 #[.val (.int p1)] [(.int (983040 : Int32)), (.int p1)])) _
        refine XS.icmpNo X0.here hx rfl (hb hby d_isPrivateUse_15) rfl (flt hc15).1 ?_
        show Steps p.tables e below (s₁.setTop (mkF m 18 #[.val (.int p1)] [])) _
        refine XS.iloadN X0.here hx rfl (hb hby d_isPrivateUse_18) rfl ?_
        show Steps p.tables e below (s₁.setTop (mkF m 19 #[.val (.int p1)] [(.int p1)])) _
        refine Jvm.Stand.ldcI X0 hx hown (mvT hZ (hw _ (List.mem_of_getElem? (i := 23) rfl))) rfl (hb hby d_isPrivateUse_19) ?_
        by_cases hc21 : (1048573 : Int32) < p1
        · show Steps p.tables e below (s₁.setTop (mkF m 21 #[.val (.int p1)] [(.int (1048573 : Int32)), (.int p1)])) _
          refine XS.icmpNo X0.here hx rfl (hb hby d_isPrivateUse_21) rfl (tlt hc21).2.2.2 ?_
          show Steps p.tables e below (s₁.setTop (mkF m 24 #[.val (.int p1)] [])) _
          refine XS.iloadN X0.here hx rfl (hb hby d_isPrivateUse_24) rfl ?_
          show Steps p.tables e below (s₁.setTop (mkF m 25 #[.val (.int p1)] [(.int p1)])) _
          refine Jvm.Stand.ldcI X0 hx hown (mvT hZ (hw _ (List.mem_of_getElem? (i := 16) rfl))) rfl (hb hby d_isPrivateUse_25) ?_
          by_cases hc27 : p1 < (1048576 : Int32)
          · show Steps p.tables e below (s₁.setTop (mkF m 27 #[.val (.int p1)] [(.int (1048576 : Int32)), (.int p1)])) _
            refine XS.icmpYes X0.here hx rfl (pc0 := 27) (pc' := 40) rfl (hb hby d_isPrivateUse_27) rfl (tlt hc27).1 (by decide) (by decide) ?_
            show Steps p.tables e below (s₁.setTop (mkF m 40 #[.val (.int p1)] [])) _
            refine XS.iconst X0.here hx rfl (hb hby d_isPrivateUse_40) ?_
            show Steps p.tables e below (s₁.setTop (mkF m 41 #[.val (.int p1)] [(.int (0 : Int32))])) _
            have hU : own_P p1.toInt = false := by
              clear hr
              simp only [Int32.lt_iff_toInt_lt, ← Int32.toInt_inj, c57344, c63743, c983040, c1048573, c1048576, c1114109] at *
              simp only [own_P, Bool.or_eq_true, Bool.and_eq_true, Bool.not_eq_true', decide_eq_true_eq, Bool.and_eq_false_iff, Bool.or_eq_false_iff, Bool.not_eq_false', decide_eq_false_iff_not]
              omega
            have hv : own_p p1 = (0 : Int32) := by simp only [own_p, hU]; rfl
            rw [hv] at hr
            exact retN X0 hx (t := .boolean) Bd.returns (by simp) (hb hby d_isPrivateUse_41) hr
          · show Steps p.tables e below (s₁.setTop (mkF m 27 #[.val (.int p1)] [(.int (1048576 : Int32)), (.int p1)])) _
            refine XS.icmpNo X0.here hx rfl (hb hby d_isPrivateUse_27) rfl (flt hc27).1 ?_
            show Steps p.tables e below (s₁.setTop (mkF m 30 #[.val (.int p1)] [])) _
            refine XS.iloadN X0.here hx rfl (hb hby d_isPrivateUse_30) rfl ?_
            show Steps p.tables e below (s₁.setTop (mkF m 31 #[.val (.int p1)] [(.int p1)])) _
            refine Jvm.Stand.ldcI X0 hx hown (mvT hZ (hw _ (List.mem_of_getElem? (i := 24) rfl))) rfl (hb hby d_isPrivateUse_31) ?_
            by_cases hc33 : (1114109 : Int32) < p1
            · show Steps p.tables e below (s₁.setTop (mkF m 33 #[.val (.int p1)] [(.int (1114109 : Int32)), (.int p1)])) _
              refine XS.icmpYes X0.here hx rfl (pc0 := 33) (pc' := 40) rfl (hb hby d_isPrivateUse_33) rfl (tlt hc33).2.2.1 (by decide) (by decide) ?_
              show Steps p.tables e below (s₁.setTop (mkF m 40 #[.val (.int p1)] [])) _
              refine XS.iconst X0.here hx rfl (hb hby d_isPrivateUse_40) ?_
              show Steps p.tables e below (s₁.setTop (mkF m 41 #[.val (.int p1)] [(.int (0 : Int32))])) _
              have hU : own_P p1.toInt = false := by
                clear hr
                simp only [Int32.lt_iff_toInt_lt, ← Int32.toInt_inj, c57344, c63743, c983040, c1048573, c1048576, c1114109] at *
                simp only [own_P, Bool.or_eq_true, Bool.and_eq_true, Bool.not_eq_true', decide_eq_true_eq, Bool.and_eq_false_iff, Bool.or_eq_false_iff, Bool.not_eq_false', decide_eq_false_iff_not]
                omega
              have hv : own_p p1 = (0 : Int32) := by simp only [own_p, hU]; rfl
              rw [hv] at hr
              exact retN X0 hx (t := .boolean) Bd.returns (by simp) (hb hby d_isPrivateUse_41) hr
            · show Steps p.tables e below (s₁.setTop (mkF m 33 #[.val (.int p1)] [(.int (1114109 : Int32)), (.int p1)])) _
              refine XS.icmpNo X0.here hx rfl (hb hby d_isPrivateUse_33) rfl (flt hc33).2.2.1 ?_
              show Steps p.tables e below (s₁.setTop (mkF m 36 #[.val (.int p1)] [])) _
              refine XS.iconst X0.here hx rfl (hb hby d_isPrivateUse_36) ?_
              show Steps p.tables e below (s₁.setTop (mkF m 37 #[.val (.int p1)] [(.int (1 : Int32))])) _
              refine XS.goto X0.here hx rfl (pc0 := 37) (pc' := 41) rfl (hb hby d_isPrivateUse_37) (by decide) (by decide) ?_
              show Steps p.tables e below (s₁.setTop (mkF m 41 #[.val (.int p1)] [(.int (1 : Int32))])) _
              have hU : own_P p1.toInt = true := by
                clear hr
                simp only [Int32.lt_iff_toInt_lt, ← Int32.toInt_inj, c57344, c63743, c983040, c1048573, c1048576, c1114109] at *
                simp only [own_P, Bool.or_eq_true, Bool.and_eq_true, Bool.not_eq_true', decide_eq_true_eq, Bool.and_eq_false_iff, Bool.or_eq_false_iff, Bool.not_eq_false', decide_eq_false_iff_not]
                omega
              have hv : own_p p1 = (1 : Int32) := by simp only [own_p, hU]; rfl
              rw [hv] at hr
              exact retN X0 hx (t := .boolean) Bd.returns (by simp) (hb hby d_isPrivateUse_41) hr
        · show Steps p.tables e below (s₁.setTop (mkF m 21 #[.val (.int p1)] [(.int (1048573 : Int32)), (.int p1)])) _
          refine XS.icmpYes X0.here hx rfl (pc0 := 21) (pc' := 36) rfl (hb hby d_isPrivateUse_21) rfl (flt hc21).2.2.2 (by decide) (by decide) ?_
          show Steps p.tables e below (s₁.setTop (mkF m 36 #[.val (.int p1)] [])) _
          refine XS.iconst X0.here hx rfl (hb hby d_isPrivateUse_36) ?_
          show Steps p.tables e below (s₁.setTop (mkF m 37 #[.val (.int p1)] [(.int (1 : Int32))])) _
          refine XS.goto X0.here hx rfl (pc0 := 37) (pc' := 41) rfl (hb hby d_isPrivateUse_37) (by decide) (by decide) ?_
          show Steps p.tables e below (s₁.setTop (mkF m 41 #[.val (.int p1)] [(.int (1 : Int32))])) _
          have hU : own_P p1.toInt = true := by
            clear hr
            simp only [Int32.lt_iff_toInt_lt, ← Int32.toInt_inj, c57344, c63743, c983040, c1048573, c1048576, c1114109] at *
            simp only [own_P, Bool.or_eq_true, Bool.and_eq_true, Bool.not_eq_true', decide_eq_true_eq, Bool.and_eq_false_iff, Bool.or_eq_false_iff, Bool.not_eq_false', decide_eq_false_iff_not]
            omega
          have hv : own_p p1 = (1 : Int32) := by simp only [own_p, hU]; rfl
          rw [hv] at hr
          exact retN X0 hx (t := .boolean) Bd.returns (by simp) (hb hby d_isPrivateUse_41) hr
    · show Steps p.tables e below (s₁.setTop (mkF m 9 #[.val (.int p1)] [(.int (63743 : Int32)), (.int p1)])) _
      refine XS.icmpYes X0.here hx rfl (pc0 := 9) (pc' := 36) rfl (hb hby d_isPrivateUse_9) rfl (flt hc9).2.2.2 (by decide) (by decide) ?_
      show Steps p.tables e below (s₁.setTop (mkF m 36 #[.val (.int p1)] [])) _
      refine XS.iconst X0.here hx rfl (hb hby d_isPrivateUse_36) ?_
      show Steps p.tables e below (s₁.setTop (mkF m 37 #[.val (.int p1)] [(.int (1 : Int32))])) _
      refine XS.goto X0.here hx rfl (pc0 := 37) (pc' := 41) rfl (hb hby d_isPrivateUse_37) (by decide) (by decide) ?_
      show Steps p.tables e below (s₁.setTop (mkF m 41 #[.val (.int p1)] [(.int (1 : Int32))])) _
      have hU : own_P p1.toInt = true := by
        clear hr
        simp only [Int32.lt_iff_toInt_lt, ← Int32.toInt_inj, c57344, c63743, c983040, c1048573, c1048576, c1114109] at *
        simp only [own_P, Bool.or_eq_true, Bool.and_eq_true, Bool.not_eq_true', decide_eq_true_eq, Bool.and_eq_false_iff, Bool.or_eq_false_iff, Bool.not_eq_false', decide_eq_false_iff_not]
        omega
      have hv : own_p p1 = (1 : Int32) := by simp only [own_p, hU]; rfl
      rw [hv] at hr
      exact retN X0 hx (t := .boolean) Bd.returns (by simp) (hb hby d_isPrivateUse_41) hr
def Q_rm_e (Z : State) (p1 : Int32)  (h0 : Heap) (n0 : Nat) (v : Option Value) (h : Heap) (L : List Loc) : Prop := (v = some (.int (own_p p1)) ∧ Fr n0 L ∧ h = h0)
set_option maxRecDepth 65536 in
set_option maxHeartbeats 40000000 in
theorem rm_e (l : Launch) (Z : State) (a0 : Array Value) (hw : ∀ d ∈ tables_1, d.before a0 Z = true) (ws : List Jvm.Cond) (p1 : Int32) (h0 : Heap) (n0 : Nat)  :
    MetFree l (⟨"com/example/sagoma/sagoma/format/Rfc3986IsPrivateUsePinLaw", "expected", "(I)Z"⟩ : MethodName) (head1 (Jvm.Cond.code (⟨"com/example/sagoma/sagoma/format/Rfc3986IsPrivateUsePinLaw", "expected", "(I)Z"⟩ : MethodName) method_2_code 3 (some .boolean) :: ws) ({ frames := 0, cells := 0, slots := 0, locals := 0 } : Room)) (fun a U => a = #[(.int p1)] ∧ Z.Warmed39 U.vm ∧ U.heap = h0) (fun _ _ _ _ _ => True) (fun _ U o U' => ∃ v L, o = .returned v ∧ Q_rm_e Z p1 h0 n0 v U'.heap L ∧ FrameEnd U o U' L ({ frames := 0, cells := 0, slots := 0, locals := 0 } : Room).cells ({ frames := 0, cells := 0, slots := 0, locals := 0 } : Room).slots) := by
  refine MetFree.of_bodySF (plainFor_of_name pn_0) hisR ?_
  intro p e s m args below meth c s₁ Bd hml0 hP hK
  obtain ⟨rfl, hZ, hh⟩ := hP
  have hx := Bd.exec
  have hby := Bd.bytes
  have hml : c.maxLocals = 3 := hml0
  have hown : s.vm.findClass "com/example/sagoma/sagoma/format/Rfc3986IsPrivateUsePinLaw" = some m.cls := findClass_of_methodNamed Bd.named
  have hnm := (name_of_methodNamed Bd.named Bd.method).1
  have X0 : Stand p l e ({ frames := 0, cells := 0, slots := 0, locals := 0 } : Room) s m #[(.int p1)] below meth c s₁ [] 0 0 := Stand.of_body Bd
  have e0 : s₁.heap = h0 := by rw [← hh, Bd.state]; rfl
  have N0 := Fr.nil n0
  have pre0 : ∀ t, Steps p.tables e below (s₁.setTop (mkF m 0 #[.val (.int p1), .unset, .unset] [])) t → Steps p.tables e below (s₁.setTop (entryFrame m #[(.int p1)] 3)) t := fun t k => castTop (ef_2 m p1) k
  obtain ⟨fs, hr, hrun, hended, hW, hsame⟩ := X0.leave (v := some (.int (own_p p1))) (fun h => by rw [Bd.returns] at h; cases h)
  refine ⟨_, _, pre0 _ ?_, hrun, hended, _, _, rfl, ⟨rfl, N0, e0⟩, ⟨_, rfl⟩, hW, hsame.mono (by decide) (by decide)⟩
  have hmask : (p1 &&& (65535 : Int32)).toInt = p1.toInt % 65536 := c_mask p1 65535 16 (by decide) (by decide)
  have hshr : (p1 >>> ((16 : Int32) &&& 31)).toInt = p1.toInt / 65536 := c_ishr p1 16 16 (by decide)
  have c0 : (0 : Int32).toInt = 0 := by decide
  have c15 : (15 : Int32).toInt = 15 := by decide
  have c16 : (16 : Int32).toInt = 16 := by decide
  have c57344 : (57344 : Int32).toInt = 57344 := by decide
  have c63743 : (63743 : Int32).toInt = 63743 := by decide
  have c65533 : (65533 : Int32).toInt = 65533 := by decide
  show Steps p.tables e below (s₁.setTop (mkF m 0 #[.val (.int p1), .unset, .unset] [])) _
  refine XS.iloadN X0.here hx rfl (hb hby d_expected_0) rfl ?_
  by_cases hc1 : p1 < (0 : Int32)
  · show Steps p.tables e below (s₁.setTop (mkF m 1 #[.val (.int p1), .unset, .unset] [(.int p1)])) _
    refine XS.ifNo X0.here hx rfl (hb hby d_expected_1) rfl ((if0 _ _).trans (tlt hc1).2.1) ?_
    show Steps p.tables e below (s₁.setTop (mkF m 4 #[.val (.int p1), .unset, .unset] [])) _
    refine XS.iconst X0.here hx rfl (hb hby d_expected_4) ?_
    show Steps p.tables e below (s₁.setTop (mkF m 5 #[.val (.int p1), .unset, .unset] [(.int (0 : Int32))])) _
    have hU : own_P p1.toInt = false := by
      clear hr
      simp only [Int32.lt_iff_toInt_lt, ← Int32.toInt_inj, hmask, hshr, c0, c15, c16, c57344, c63743, c65533] at *
      simp only [own_P, Bool.or_eq_true, Bool.and_eq_true, Bool.not_eq_true', decide_eq_true_eq, Bool.and_eq_false_iff, Bool.or_eq_false_iff, Bool.not_eq_false', decide_eq_false_iff_not]
      omega
    have hv : own_p p1 = (0 : Int32) := by simp only [own_p, hU]; rfl
    rw [hv] at hr
    exact retN X0 hx (t := .boolean) Bd.returns (by simp) (hb hby d_expected_5) hr
  · show Steps p.tables e below (s₁.setTop (mkF m 1 #[.val (.int p1), .unset, .unset] [(.int p1)])) _
    refine XS.ifYes X0.here hx rfl (pc0 := 1) (pc' := 6) rfl (hb hby d_expected_1) rfl ((if0 _ _).trans (flt hc1).2.1) (by decide) (by decide) ?_
    show Steps p.tables e below (s₁.setTop (mkF m 6 #[.val (.int p1), .unset, .unset] [])) _
    refine XS.iloadN X0.here hx rfl (hb hby d_expected_6) rfl ?_
    show Steps p.tables e below (s₁.setTop (mkF m 7 #[.val (.int p1), .unset, .unset] [(.int p1)])) _
    refine XS.bipush X0.here hx rfl (hb hby d_expected_7) ?_
    show Steps p.tables e below (s₁.setTop (mkF m 9 #[.val (.int p1), .unset, .unset] [(.int (16 : Int32)), (.int p1)])) _
    refine XS.ishr X0.here hx rfl (hb hby d_expected_9) rfl ?_
    show Steps p.tables e below (s₁.setTop (mkF m 10 #[.val (.int p1), .unset, .unset] [(.int (p1 >>> ((16 : Int32) &&& 31)))])) _
    refine XS.istoreN X0.here hx rfl (hb hby d_expected_10) rfl (l' := #[.val (.int p1), .val (.int (p1 >>> ((16 : Int32) &&& 31))), .unset]) rfl ?_
    show Steps p.tables e below (s₁.setTop (mkF m 11 #[.val (.int p1), .val (.int (p1 >>> ((16 : Int32) &&& 31))), .unset] [])) _
    refine XS.iloadN X0.here hx rfl (hb hby d_expected_11) rfl ?_
    show Steps p.tables e below (s₁.setTop (mkF m 12 #[.val (.int p1), .val (.int (p1 >>> ((16 : Int32) &&& 31))), .unset] [(.int p1)])) _
    refine Jvm.Stand.ldcI X0 hx hown (mvT hZ (hw _ (List.mem_of_getElem? (i := 21) rfl))) rfl (hb hby d_expected_12) ?_
    show Steps p.tables e below (s₁.setTop (mkF m 14 #[.val (.int p1), .val (.int (p1 >>> ((16 : Int32) &&& 31))), .unset] [(.int (65535 : Int32)), (.int p1)])) _
    refine XS.iand X0.here hx rfl (hb hby d_expected_14) rfl ?_
    show Steps p.tables e below (s₁.setTop (mkF m 15 #[.val (.int p1), .val (.int (p1 >>> ((16 : Int32) &&& 31))), .unset] [(.int (p1 &&& (65535 : Int32)))])) _
    refine XS.istoreN X0.here hx rfl (hb hby d_expected_15) rfl (l' := #[.val (.int p1), .val (.int (p1 >>> ((16 : Int32) &&& 31))), .val (.int (p1 &&& (65535 : Int32)))]) rfl ?_
    show Steps p.tables e below (s₁.setTop (mkF m 16 #[.val (.int p1), .val (.int (p1 >>> ((16 : Int32) &&& 31))), .val (.int (p1 &&& (65535 : Int32)))] [])) _
    refine XS.iloadN X0.here hx rfl (hb hby d_expected_16) rfl ?_
    by_cases hc17 : (p1 >>> ((16 : Int32) &&& 31)) = (0 : Int32)
    · show Steps p.tables e below (s₁.setTop (mkF m 17 #[.val (.int p1), .val (.int (p1 >>> ((16 : Int32) &&& 31))), .val (.int (p1 &&& (65535 : Int32)))] [(.int (p1 >>> ((16 : Int32) &&& 31)))])) _
      refine XS.ifNo X0.here hx rfl (hb hby d_expected_17) rfl ((if0 _ _).trans (teq hc17).2) ?_
      show Steps p.tables e below (s₁.setTop (mkF m 20 #[.val (.int p1), .val (.int (p1 >>> ((16 : Int32) &&& 31))), .val (.int (p1 &&& (65535 : Int32)))] [])) _
      refine XS.iloadN X0.here hx rfl (hb hby d_expected_20) rfl ?_
      show Steps p.tables e below (s₁.setTop (mkF m 21 #[.val (.int p1), .val (.int (p1 >>> ((16 : Int32) &&& 31))), .val (.int (p1 &&& (65535 : Int32)))] [(.int (p1 &&& (65535 : Int32)))])) _
      refine Jvm.Stand.ldcI X0 hx hown (mvT hZ (hw _ (List.mem_of_getElem? (i := 1) rfl))) rfl (hb hby d_expected_21) ?_
      by_cases hc23 : (p1 &&& (65535 : Int32)) < (57344 : Int32)
      · show Steps p.tables e below (s₁.setTop (mkF m 23 #[.val (.int p1), .val (.int (p1 >>> ((16 : Int32) &&& 31))), .val (.int (p1 &&& (65535 : Int32)))] [(.int (57344 : Int32)), (.int (p1 &&& (65535 : Int32)))])) _
        refine XS.icmpYes X0.here hx rfl (pc0 := 23) (pc' := 36) rfl (hb hby d_expected_23) rfl (tlt hc23).1 (by decide) (by decide) ?_
        show Steps p.tables e below (s₁.setTop (mkF m 36 #[.val (.int p1), .val (.int (p1 >>> ((16 : Int32) &&& 31))), .val (.int (p1 &&& (65535 : Int32)))] [])) _
        refine XS.iconst X0.here hx rfl (hb hby d_expected_36) ?_
        show Steps p.tables e below (s₁.setTop (mkF m 37 #[.val (.int p1), .val (.int (p1 >>> ((16 : Int32) &&& 31))), .val (.int (p1 &&& (65535 : Int32)))] [(.int (0 : Int32))])) _
        have hU : own_P p1.toInt = false := by
          clear hr
          simp only [Int32.lt_iff_toInt_lt, ← Int32.toInt_inj, hmask, hshr, c0, c15, c16, c57344, c63743, c65533] at *
          simp only [own_P, Bool.or_eq_true, Bool.and_eq_true, Bool.not_eq_true', decide_eq_true_eq, Bool.and_eq_false_iff, Bool.or_eq_false_iff, Bool.not_eq_false', decide_eq_false_iff_not]
          omega
        have hv : own_p p1 = (0 : Int32) := by simp only [own_p, hU]; rfl
        rw [hv] at hr
        exact retN X0 hx (t := .boolean) Bd.returns (by simp) (hb hby d_expected_37) hr
      · show Steps p.tables e below (s₁.setTop (mkF m 23 #[.val (.int p1), .val (.int (p1 >>> ((16 : Int32) &&& 31))), .val (.int (p1 &&& (65535 : Int32)))] [(.int (57344 : Int32)), (.int (p1 &&& (65535 : Int32)))])) _
        refine XS.icmpNo X0.here hx rfl (hb hby d_expected_23) rfl (flt hc23).1 ?_
        show Steps p.tables e below (s₁.setTop (mkF m 26 #[.val (.int p1), .val (.int (p1 >>> ((16 : Int32) &&& 31))), .val (.int (p1 &&& (65535 : Int32)))] [])) _
        refine XS.iloadN X0.here hx rfl (hb hby d_expected_26) rfl ?_
        show Steps p.tables e below (s₁.setTop (mkF m 27 #[.val (.int p1), .val (.int (p1 >>> ((16 : Int32) &&& 31))), .val (.int (p1 &&& (65535 : Int32)))] [(.int (p1 &&& (65535 : Int32)))])) _
        refine Jvm.Stand.ldcI X0 hx hown (mvT hZ (hw _ (List.mem_of_getElem? (i := 26) rfl))) rfl (hb hby d_expected_27) ?_
        by_cases hc29 : (63743 : Int32) < (p1 &&& (65535 : Int32))
        · show Steps p.tables e below (s₁.setTop (mkF m 29 #[.val (.int p1), .val (.int (p1 >>> ((16 : Int32) &&& 31))), .val (.int (p1 &&& (65535 : Int32)))] [(.int (63743 : Int32)), (.int (p1 &&& (65535 : Int32)))])) _
          refine XS.icmpYes X0.here hx rfl (pc0 := 29) (pc' := 36) rfl (hb hby d_expected_29) rfl (tlt hc29).2.2.1 (by decide) (by decide) ?_
          show Steps p.tables e below (s₁.setTop (mkF m 36 #[.val (.int p1), .val (.int (p1 >>> ((16 : Int32) &&& 31))), .val (.int (p1 &&& (65535 : Int32)))] [])) _
          refine XS.iconst X0.here hx rfl (hb hby d_expected_36) ?_
          show Steps p.tables e below (s₁.setTop (mkF m 37 #[.val (.int p1), .val (.int (p1 >>> ((16 : Int32) &&& 31))), .val (.int (p1 &&& (65535 : Int32)))] [(.int (0 : Int32))])) _
          have hU : own_P p1.toInt = false := by
            clear hr
            simp only [Int32.lt_iff_toInt_lt, ← Int32.toInt_inj, hmask, hshr, c0, c15, c16, c57344, c63743, c65533] at *
            simp only [own_P, Bool.or_eq_true, Bool.and_eq_true, Bool.not_eq_true', decide_eq_true_eq, Bool.and_eq_false_iff, Bool.or_eq_false_iff, Bool.not_eq_false', decide_eq_false_iff_not]
            omega
          have hv : own_p p1 = (0 : Int32) := by simp only [own_p, hU]; rfl
          rw [hv] at hr
          exact retN X0 hx (t := .boolean) Bd.returns (by simp) (hb hby d_expected_37) hr
        · show Steps p.tables e below (s₁.setTop (mkF m 29 #[.val (.int p1), .val (.int (p1 >>> ((16 : Int32) &&& 31))), .val (.int (p1 &&& (65535 : Int32)))] [(.int (63743 : Int32)), (.int (p1 &&& (65535 : Int32)))])) _
          refine XS.icmpNo X0.here hx rfl (hb hby d_expected_29) rfl (flt hc29).2.2.1 ?_
          show Steps p.tables e below (s₁.setTop (mkF m 32 #[.val (.int p1), .val (.int (p1 >>> ((16 : Int32) &&& 31))), .val (.int (p1 &&& (65535 : Int32)))] [])) _
          refine XS.iconst X0.here hx rfl (hb hby d_expected_32) ?_
          show Steps p.tables e below (s₁.setTop (mkF m 33 #[.val (.int p1), .val (.int (p1 >>> ((16 : Int32) &&& 31))), .val (.int (p1 &&& (65535 : Int32)))] [(.int (1 : Int32))])) _
          refine XS.goto X0.here hx rfl (pc0 := 33) (pc' := 37) rfl (hb hby d_expected_33) (by decide) (by decide) ?_
          show Steps p.tables e below (s₁.setTop (mkF m 37 #[.val (.int p1), .val (.int (p1 >>> ((16 : Int32) &&& 31))), .val (.int (p1 &&& (65535 : Int32)))] [(.int (1 : Int32))])) _
          have hU : own_P p1.toInt = true := by
            clear hr
            simp only [Int32.lt_iff_toInt_lt, ← Int32.toInt_inj, hmask, hshr, c0, c15, c16, c57344, c63743, c65533] at *
            simp only [own_P, Bool.or_eq_true, Bool.and_eq_true, Bool.not_eq_true', decide_eq_true_eq, Bool.and_eq_false_iff, Bool.or_eq_false_iff, Bool.not_eq_false', decide_eq_false_iff_not]
            omega
          have hv : own_p p1 = (1 : Int32) := by simp only [own_p, hU]; rfl
          rw [hv] at hr
          exact retN X0 hx (t := .boolean) Bd.returns (by simp) (hb hby d_expected_37) hr
    · show Steps p.tables e below (s₁.setTop (mkF m 17 #[.val (.int p1), .val (.int (p1 >>> ((16 : Int32) &&& 31))), .val (.int (p1 &&& (65535 : Int32)))] [(.int (p1 >>> ((16 : Int32) &&& 31)))])) _
      refine XS.ifYes X0.here hx rfl (pc0 := 17) (pc' := 38) rfl (hb hby d_expected_17) rfl ((if0 _ _).trans (feq hc17).2) (by decide) (by decide) ?_
      show Steps p.tables e below (s₁.setTop (mkF m 38 #[.val (.int p1), .val (.int (p1 >>> ((16 : Int32) &&& 31))), .val (.int (p1 &&& (65535 : Int32)))] [])) _
      refine XS.iloadN X0.here hx rfl (hb hby d_expected_38) rfl ?_
      show Steps p.tables e below (s₁.setTop (mkF m 39 #[.val (.int p1), .val (.int (p1 >>> ((16 : Int32) &&& 31))), .val (.int (p1 &&& (65535 : Int32)))] [(.int (p1 >>> ((16 : Int32) &&& 31)))])) _
      refine XS.bipush X0.here hx rfl (hb hby d_expected_39) ?_
      by_cases hc41 : (p1 >>> ((16 : Int32) &&& 31)) = (15 : Int32)
      · show Steps p.tables e below (s₁.setTop (mkF m 41 #[.val (.int p1), .val (.int (p1 >>> ((16 : Int32) &&& 31))), .val (.int (p1 &&& (65535 : Int32)))] [(.int (15 : Int32)), (.int (p1 >>> ((16 : Int32) &&& 31)))])) _
        refine XS.icmpYes X0.here hx rfl (pc0 := 41) (pc' := 50) rfl (hb hby d_expected_41) rfl (teq hc41).1 (by decide) (by decide) ?_
        show Steps p.tables e below (s₁.setTop (mkF m 50 #[.val (.int p1), .val (.int (p1 >>> ((16 : Int32) &&& 31))), .val (.int (p1 &&& (65535 : Int32)))] [])) _
        refine XS.iloadN X0.here hx rfl (hb hby d_expected_50) rfl ?_
        show Steps p.tables e below (s₁.setTop (mkF m 51 #[.val (.int p1), .val (.int (p1 >>> ((16 : Int32) &&& 31))), .val (.int (p1 &&& (65535 : Int32)))] [(.int (p1 &&& (65535 : Int32)))])) _
        refine Jvm.Stand.ldcI X0 hx hown (mvT hZ (hw _ (List.mem_of_getElem? (i := 25) rfl))) rfl (hb hby d_expected_51) ?_
        by_cases hc53 : (65533 : Int32) < (p1 &&& (65535 : Int32))
        · show Steps p.tables e below (s₁.setTop (mkF m 53 #[.val (.int p1), .val (.int (p1 >>> ((16 : Int32) &&& 31))), .val (.int (p1 &&& (65535 : Int32)))] [(.int (65533 : Int32)), (.int (p1 &&& (65535 : Int32)))])) _
          refine XS.icmpYes X0.here hx rfl (pc0 := 53) (pc' := 60) rfl (hb hby d_expected_53) rfl (tlt hc53).2.2.1 (by decide) (by decide) ?_
          show Steps p.tables e below (s₁.setTop (mkF m 60 #[.val (.int p1), .val (.int (p1 >>> ((16 : Int32) &&& 31))), .val (.int (p1 &&& (65535 : Int32)))] [])) _
          refine XS.iconst X0.here hx rfl (hb hby d_expected_60) ?_
          show Steps p.tables e below (s₁.setTop (mkF m 61 #[.val (.int p1), .val (.int (p1 >>> ((16 : Int32) &&& 31))), .val (.int (p1 &&& (65535 : Int32)))] [(.int (0 : Int32))])) _
          have hU : own_P p1.toInt = false := by
            clear hr
            simp only [Int32.lt_iff_toInt_lt, ← Int32.toInt_inj, hmask, hshr, c0, c15, c16, c57344, c63743, c65533] at *
            simp only [own_P, Bool.or_eq_true, Bool.and_eq_true, Bool.not_eq_true', decide_eq_true_eq, Bool.and_eq_false_iff, Bool.or_eq_false_iff, Bool.not_eq_false', decide_eq_false_iff_not]
            omega
          have hv : own_p p1 = (0 : Int32) := by simp only [own_p, hU]; rfl
          rw [hv] at hr
          exact retN X0 hx (t := .boolean) Bd.returns (by simp) (hb hby d_expected_61) hr
        · show Steps p.tables e below (s₁.setTop (mkF m 53 #[.val (.int p1), .val (.int (p1 >>> ((16 : Int32) &&& 31))), .val (.int (p1 &&& (65535 : Int32)))] [(.int (65533 : Int32)), (.int (p1 &&& (65535 : Int32)))])) _
          refine XS.icmpNo X0.here hx rfl (hb hby d_expected_53) rfl (flt hc53).2.2.1 ?_
          show Steps p.tables e below (s₁.setTop (mkF m 56 #[.val (.int p1), .val (.int (p1 >>> ((16 : Int32) &&& 31))), .val (.int (p1 &&& (65535 : Int32)))] [])) _
          refine XS.iconst X0.here hx rfl (hb hby d_expected_56) ?_
          show Steps p.tables e below (s₁.setTop (mkF m 57 #[.val (.int p1), .val (.int (p1 >>> ((16 : Int32) &&& 31))), .val (.int (p1 &&& (65535 : Int32)))] [(.int (1 : Int32))])) _
          refine XS.goto X0.here hx rfl (pc0 := 57) (pc' := 61) rfl (hb hby d_expected_57) (by decide) (by decide) ?_
          show Steps p.tables e below (s₁.setTop (mkF m 61 #[.val (.int p1), .val (.int (p1 >>> ((16 : Int32) &&& 31))), .val (.int (p1 &&& (65535 : Int32)))] [(.int (1 : Int32))])) _
          have hU : own_P p1.toInt = true := by
            clear hr
            simp only [Int32.lt_iff_toInt_lt, ← Int32.toInt_inj, hmask, hshr, c0, c15, c16, c57344, c63743, c65533] at *
            simp only [own_P, Bool.or_eq_true, Bool.and_eq_true, Bool.not_eq_true', decide_eq_true_eq, Bool.and_eq_false_iff, Bool.or_eq_false_iff, Bool.not_eq_false', decide_eq_false_iff_not]
            omega
          have hv : own_p p1 = (1 : Int32) := by simp only [own_p, hU]; rfl
          rw [hv] at hr
          exact retN X0 hx (t := .boolean) Bd.returns (by simp) (hb hby d_expected_61) hr
      · show Steps p.tables e below (s₁.setTop (mkF m 41 #[.val (.int p1), .val (.int (p1 >>> ((16 : Int32) &&& 31))), .val (.int (p1 &&& (65535 : Int32)))] [(.int (15 : Int32)), (.int (p1 >>> ((16 : Int32) &&& 31)))])) _
        refine XS.icmpNo X0.here hx rfl (hb hby d_expected_41) rfl (feq hc41).1 ?_
        show Steps p.tables e below (s₁.setTop (mkF m 44 #[.val (.int p1), .val (.int (p1 >>> ((16 : Int32) &&& 31))), .val (.int (p1 &&& (65535 : Int32)))] [])) _
        refine XS.iloadN X0.here hx rfl (hb hby d_expected_44) rfl ?_
        show Steps p.tables e below (s₁.setTop (mkF m 45 #[.val (.int p1), .val (.int (p1 >>> ((16 : Int32) &&& 31))), .val (.int (p1 &&& (65535 : Int32)))] [(.int (p1 >>> ((16 : Int32) &&& 31)))])) _
        refine XS.bipush X0.here hx rfl (hb hby d_expected_45) ?_
        by_cases hc47 : (p1 >>> ((16 : Int32) &&& 31)) = (16 : Int32)
        · show Steps p.tables e below (s₁.setTop (mkF m 47 #[.val (.int p1), .val (.int (p1 >>> ((16 : Int32) &&& 31))), .val (.int (p1 &&& (65535 : Int32)))] [(.int (16 : Int32)), (.int (p1 >>> ((16 : Int32) &&& 31)))])) _
          refine XS.icmpNo X0.here hx rfl (hb hby d_expected_47) rfl (teq hc47).2 ?_
          show Steps p.tables e below (s₁.setTop (mkF m 50 #[.val (.int p1), .val (.int (p1 >>> ((16 : Int32) &&& 31))), .val (.int (p1 &&& (65535 : Int32)))] [])) _
          refine XS.iloadN X0.here hx rfl (hb hby d_expected_50) rfl ?_
          show Steps p.tables e below (s₁.setTop (mkF m 51 #[.val (.int p1), .val (.int (p1 >>> ((16 : Int32) &&& 31))), .val (.int (p1 &&& (65535 : Int32)))] [(.int (p1 &&& (65535 : Int32)))])) _
          refine Jvm.Stand.ldcI X0 hx hown (mvT hZ (hw _ (List.mem_of_getElem? (i := 25) rfl))) rfl (hb hby d_expected_51) ?_
          by_cases hc53 : (65533 : Int32) < (p1 &&& (65535 : Int32))
          · show Steps p.tables e below (s₁.setTop (mkF m 53 #[.val (.int p1), .val (.int (p1 >>> ((16 : Int32) &&& 31))), .val (.int (p1 &&& (65535 : Int32)))] [(.int (65533 : Int32)), (.int (p1 &&& (65535 : Int32)))])) _
            refine XS.icmpYes X0.here hx rfl (pc0 := 53) (pc' := 60) rfl (hb hby d_expected_53) rfl (tlt hc53).2.2.1 (by decide) (by decide) ?_
            show Steps p.tables e below (s₁.setTop (mkF m 60 #[.val (.int p1), .val (.int (p1 >>> ((16 : Int32) &&& 31))), .val (.int (p1 &&& (65535 : Int32)))] [])) _
            refine XS.iconst X0.here hx rfl (hb hby d_expected_60) ?_
            show Steps p.tables e below (s₁.setTop (mkF m 61 #[.val (.int p1), .val (.int (p1 >>> ((16 : Int32) &&& 31))), .val (.int (p1 &&& (65535 : Int32)))] [(.int (0 : Int32))])) _
            have hU : own_P p1.toInt = false := by
              clear hr
              simp only [Int32.lt_iff_toInt_lt, ← Int32.toInt_inj, hmask, hshr, c0, c15, c16, c57344, c63743, c65533] at *
              simp only [own_P, Bool.or_eq_true, Bool.and_eq_true, Bool.not_eq_true', decide_eq_true_eq, Bool.and_eq_false_iff, Bool.or_eq_false_iff, Bool.not_eq_false', decide_eq_false_iff_not]
              omega
            have hv : own_p p1 = (0 : Int32) := by simp only [own_p, hU]; rfl
            rw [hv] at hr
            exact retN X0 hx (t := .boolean) Bd.returns (by simp) (hb hby d_expected_61) hr
          · show Steps p.tables e below (s₁.setTop (mkF m 53 #[.val (.int p1), .val (.int (p1 >>> ((16 : Int32) &&& 31))), .val (.int (p1 &&& (65535 : Int32)))] [(.int (65533 : Int32)), (.int (p1 &&& (65535 : Int32)))])) _
            refine XS.icmpNo X0.here hx rfl (hb hby d_expected_53) rfl (flt hc53).2.2.1 ?_
            show Steps p.tables e below (s₁.setTop (mkF m 56 #[.val (.int p1), .val (.int (p1 >>> ((16 : Int32) &&& 31))), .val (.int (p1 &&& (65535 : Int32)))] [])) _
            refine XS.iconst X0.here hx rfl (hb hby d_expected_56) ?_
            show Steps p.tables e below (s₁.setTop (mkF m 57 #[.val (.int p1), .val (.int (p1 >>> ((16 : Int32) &&& 31))), .val (.int (p1 &&& (65535 : Int32)))] [(.int (1 : Int32))])) _
            refine XS.goto X0.here hx rfl (pc0 := 57) (pc' := 61) rfl (hb hby d_expected_57) (by decide) (by decide) ?_
            show Steps p.tables e below (s₁.setTop (mkF m 61 #[.val (.int p1), .val (.int (p1 >>> ((16 : Int32) &&& 31))), .val (.int (p1 &&& (65535 : Int32)))] [(.int (1 : Int32))])) _
            have hU : own_P p1.toInt = true := by
              clear hr
              simp only [Int32.lt_iff_toInt_lt, ← Int32.toInt_inj, hmask, hshr, c0, c15, c16, c57344, c63743, c65533] at *
              simp only [own_P, Bool.or_eq_true, Bool.and_eq_true, Bool.not_eq_true', decide_eq_true_eq, Bool.and_eq_false_iff, Bool.or_eq_false_iff, Bool.not_eq_false', decide_eq_false_iff_not]
              omega
            have hv : own_p p1 = (1 : Int32) := by simp only [own_p, hU]; rfl
            rw [hv] at hr
            exact retN X0 hx (t := .boolean) Bd.returns (by simp) (hb hby d_expected_61) hr
        · show Steps p.tables e below (s₁.setTop (mkF m 47 #[.val (.int p1), .val (.int (p1 >>> ((16 : Int32) &&& 31))), .val (.int (p1 &&& (65535 : Int32)))] [(.int (16 : Int32)), (.int (p1 >>> ((16 : Int32) &&& 31)))])) _
          refine XS.icmpYes X0.here hx rfl (pc0 := 47) (pc' := 62) rfl (hb hby d_expected_47) rfl (feq hc47).2 (by decide) (by decide) ?_
          show Steps p.tables e below (s₁.setTop (mkF m 62 #[.val (.int p1), .val (.int (p1 >>> ((16 : Int32) &&& 31))), .val (.int (p1 &&& (65535 : Int32)))] [])) _
          refine XS.iconst X0.here hx rfl (hb hby d_expected_62) ?_
          show Steps p.tables e below (s₁.setTop (mkF m 63 #[.val (.int p1), .val (.int (p1 >>> ((16 : Int32) &&& 31))), .val (.int (p1 &&& (65535 : Int32)))] [(.int (0 : Int32))])) _
          have hU : own_P p1.toInt = false := by
            clear hr
            simp only [Int32.lt_iff_toInt_lt, ← Int32.toInt_inj, hmask, hshr, c0, c15, c16, c57344, c63743, c65533] at *
            simp only [own_P, Bool.or_eq_true, Bool.and_eq_true, Bool.not_eq_true', decide_eq_true_eq, Bool.and_eq_false_iff, Bool.or_eq_false_iff, Bool.not_eq_false', decide_eq_false_iff_not]
            omega
          have hv : own_p p1 = (0 : Int32) := by simp only [own_p, hU]; rfl
          rw [hv] at hr
          exact retN X0 hx (t := .boolean) Bd.returns (by simp) (hb hby d_expected_63) hr
set_option maxRecDepth 65536 in
set_option maxHeartbeats 40000000 in
theorem rm0 (l : Launch) (Z : State) (a0 : Array Value) (hw : ∀ d ∈ tables_1, d.before a0 Z = true) (ws : List Jvm.Cond) (p1 : Int32) (p2 : Int32) (p3 : Int32) (h0 : Heap) (n0 : Nat) (Z0 : n0 ≤ h0.size) :
    MetFree l x (head1 (Jvm.Cond.code x code maxLocals ret :: ws) room_1) (fun a U => a = #[(.int p1), (.int p2), (.int p3)] ∧ Z.Warmed39 U.vm ∧ U.heap = h0) (fun _ _ _ _ _ => True) (fun _ U o U' => ∃ v L, o = .returned v ∧ (v = some (.int 1) ∧ Fr n0 L) ∧ FrameEnd U o U' L room_1.cells room_1.slots) := by
  refine MetFree.of_bodySF (plainFor_of_name pn_0) hisR ?_
  intro p e s m args below meth c s₁ Bd hml0 hP hK
  obtain ⟨rfl, hZ, hh⟩ := hP
  have hx := Bd.exec
  have hby := Bd.bytes
  have hml : c.maxLocals = 6 := hml0
  have hown : s.vm.findClass "com/example/sagoma/sagoma/format/Rfc3986IsPrivateUsePinLaw" = some m.cls := findClass_of_methodNamed Bd.named
  have hnm := (name_of_methodNamed Bd.named Bd.method).1
  have X0 : Stand p l e room_1 s m #[(.int p1), (.int p2), (.int p3)] below meth c s₁ [] 0 0 := Stand.of_body Bd
  have e0 : s₁.heap = h0 := by rw [← hh, Bd.state]; rfl
  have N0 := Fr.nil n0
  have pre0 : ∀ t, Steps p.tables e below (s₁.setTop (mkF m 0 #[.val (.int p1), .val (.int p2), .val (.int p3), .unset, .unset, .unset] [])) t → Steps p.tables e below (s₁.setTop (entryFrame m #[(.int p1), (.int p2), (.int p3)] maxLocals)) t := fun t k => castTop (ef_0 m p1 p2 p3) k
  have P0 : ∀ t, Steps p.tables e below (s₁.setTop (mkF m 0 #[.val (.int p1), .val (.int p2), .val (.int p3), .unset, .unset, .unset] [])) t → Steps p.tables e below (s₁.setTop (entryFrame m #[(.int p1), (.int p2), (.int p3)] maxLocals)) t := fun t k => pre0 t k
  obtain ⟨Ta, ha, ka, Xa, ea, Ea, Aa, sta⟩ := newP X0 hx hZ (hw _ (List.mem_of_getElem? (i := 0) rfl)) e0 (g := (mkF m 2 #[.val (.int p1), .val (.int p2), .val (.int p3), .unset, .unset, .unset] [(.int (8 : Int32))])) rfl (hb hby at_2) rfl (by decide) (cap := 8) (by decide) (by decide) (by decide) (by decide)
  obtain ⟨ba, ga⟩ : ∃ z, z = h0.size := ⟨_, rfl⟩
  rw [← ga] at Aa sta
  have Va : Arv Z ha ba ka .int (8 : Int32) [(.int (0 : Int32)), (.int (0 : Int32)), (.int (0 : Int32)), (.int (0 : Int32)), (.int (0 : Int32)), (.int (0 : Int32)), (.int (0 : Int32)), (.int (0 : Int32))] (.int (0 : Int32)) := (Arv.new Aa (by decide)).pad (pad_rep [] (.int (0 : Int32)) 8)
  have Pa : ∀ t, Steps p.tables e below (Ta.setTop (mkF m 4 #[.val (.int p1), .val (.int p2), .val (.int p3), .unset, .unset, .unset] [(.ref ba)])) t → Steps p.tables e below (s₁.setTop (entryFrame m #[(.int p1), (.int p2), (.int p3)] maxLocals)) t := by
    intro t k
    refine P0 t ?_
    show Steps p.tables e below (s₁.setTop (mkF m 0 #[.val (.int p1), .val (.int p2), .val (.int p3), .unset, .unset, .unset] [])) _
    refine XS.bipush X0.here hx rfl (hb hby at_0) ?_
    refine sta _ ?_
    exact k
  have gb : n0 ≤ ba := Nat.le_trans Z0 (Nat.le_of_eq ga.symm)
  obtain ⟨cli0, Ari0, qi0, Si0, Ni0', Hi0, Gi0⟩ := Va
  obtain ⟨Ti0, hi0, Xi0, ei0, Wi0, sti0⟩ := stI Xa hx hZ ea Ari0 (j := (0 : Int32)) (inb_of Si0 ⟨by decide, by decide⟩) (g := (mkF m 8 #[.val (.int p1), .val (.int p2), .val (.int p3), .unset, .unset, .unset] [(.int (57344 : Int32)), (.int (0 : Int32)), (.ref ba), (.ref ba)])) rfl rfl (hb hby at_8)
  have Vi0 : Arv Z hi0 ba ka .int (8 : Int32) [(.int (57344 : Int32)), (.int (0 : Int32)), (.int (0 : Int32)), (.int (0 : Int32)), (.int (0 : Int32)), (.int (0 : Int32)), (.int (0 : Int32)), (.int (0 : Int32))] (.int (0 : Int32)) := Arv.set Ari0 qi0 Si0 Ni0' Hi0 Gi0 rfl Wi0 0 rfl (Nat.le_of_ble_eq_true rfl)
  have Ni0 := Fr.snoc Xi0 N0 gb
  have Pi0 : ∀ t, Steps p.tables e below (Ti0.setTop (mkF m 9 #[.val (.int p1), .val (.int p2), .val (.int p3), .unset, .unset, .unset] [(.ref ba)])) t → Steps p.tables e below (s₁.setTop (entryFrame m #[(.int p1), (.int p2), (.int p3)] maxLocals)) t := by
    intro t k
    refine Pa t ?_
    show Steps p.tables e below (Ta.setTop (mkF m 4 #[.val (.int p1), .val (.int p2), .val (.int p3), .unset, .unset, .unset] [(.ref ba)])) _
    refine XS.dup Xa.here hx rfl (hb hby at_4) rfl rfl ?_
    show Steps p.tables e below (Ta.setTop (mkF m 5 #[.val (.int p1), .val (.int p2), .val (.int p3), .unset, .unset, .unset] [(.ref ba), (.ref ba)])) _
    refine XS.iconst Xa.here hx rfl (hb hby at_5) ?_
    show Steps p.tables e below (Ta.setTop (mkF m 6 #[.val (.int p1), .val (.int p2), .val (.int p3), .unset, .unset, .unset] [(.int (0 : Int32)), (.ref ba), (.ref ba)])) _
    refine Jvm.Stand.ldcI Xa hx hown (mvT hZ (hw _ (List.mem_of_getElem? (i := 1) rfl))) rfl (hb hby at_6) ?_
    refine sti0 _ ?_
    exact k
  obtain ⟨cli1, Ari1, qi1, Si1, Ni1', Hi1, Gi1⟩ := Vi0
  obtain ⟨Ti1, hi1, Xi1, ei1, Wi1, sti1⟩ := stI Xi0 hx hZ ei0 Ari1 (j := (1 : Int32)) (inb_of Si1 ⟨by decide, by decide⟩) (g := (mkF m 13 #[.val (.int p1), .val (.int p2), .val (.int p3), .unset, .unset, .unset] [(.int (63744 : Int32)), (.int (1 : Int32)), (.ref ba), (.ref ba)])) rfl rfl (hb hby at_13)
  have Vi1 : Arv Z hi1 ba ka .int (8 : Int32) [(.int (57344 : Int32)), (.int (63744 : Int32)), (.int (0 : Int32)), (.int (0 : Int32)), (.int (0 : Int32)), (.int (0 : Int32)), (.int (0 : Int32)), (.int (0 : Int32))] (.int (0 : Int32)) := Arv.set Ari1 qi1 Si1 Ni1' Hi1 Gi1 rfl Wi1 1 rfl (Nat.le_of_ble_eq_true rfl)
  have Ni1 := Fr.snoc Xi1 Ni0 gb
  have Pi1 : ∀ t, Steps p.tables e below (Ti1.setTop (mkF m 14 #[.val (.int p1), .val (.int p2), .val (.int p3), .unset, .unset, .unset] [(.ref ba)])) t → Steps p.tables e below (s₁.setTop (entryFrame m #[(.int p1), (.int p2), (.int p3)] maxLocals)) t := by
    intro t k
    refine Pi0 t ?_
    show Steps p.tables e below (Ti0.setTop (mkF m 9 #[.val (.int p1), .val (.int p2), .val (.int p3), .unset, .unset, .unset] [(.ref ba)])) _
    refine XS.dup Xi0.here hx rfl (hb hby at_9) rfl rfl ?_
    show Steps p.tables e below (Ti0.setTop (mkF m 10 #[.val (.int p1), .val (.int p2), .val (.int p3), .unset, .unset, .unset] [(.ref ba), (.ref ba)])) _
    refine XS.iconst Xi0.here hx rfl (hb hby at_10) ?_
    show Steps p.tables e below (Ti0.setTop (mkF m 11 #[.val (.int p1), .val (.int p2), .val (.int p3), .unset, .unset, .unset] [(.int (1 : Int32)), (.ref ba), (.ref ba)])) _
    refine Jvm.Stand.ldcI Xi0 hx hown (mvT hZ (hw _ (List.mem_of_getElem? (i := 2) rfl))) rfl (hb hby at_11) ?_
    refine sti1 _ ?_
    exact k
  obtain ⟨cli2, Ari2, qi2, Si2, Ni2', Hi2, Gi2⟩ := Vi1
  obtain ⟨Ti2, hi2, Xi2, ei2, Wi2, sti2⟩ := stI Xi1 hx hZ ei1 Ari2 (j := (2 : Int32)) (inb_of Si2 ⟨by decide, by decide⟩) (g := (mkF m 18 #[.val (.int p1), .val (.int p2), .val (.int p3), .unset, .unset, .unset] [(.int (983040 : Int32)), (.int (2 : Int32)), (.ref ba), (.ref ba)])) rfl rfl (hb hby at_18)
  have Vi2 : Arv Z hi2 ba ka .int (8 : Int32) [(.int (57344 : Int32)), (.int (63744 : Int32)), (.int (983040 : Int32)), (.int (0 : Int32)), (.int (0 : Int32)), (.int (0 : Int32)), (.int (0 : Int32)), (.int (0 : Int32))] (.int (0 : Int32)) := Arv.set Ari2 qi2 Si2 Ni2' Hi2 Gi2 rfl Wi2 2 rfl (Nat.le_of_ble_eq_true rfl)
  have Ni2 := Fr.snoc Xi2 Ni1 gb
  have Pi2 : ∀ t, Steps p.tables e below (Ti2.setTop (mkF m 19 #[.val (.int p1), .val (.int p2), .val (.int p3), .unset, .unset, .unset] [(.ref ba)])) t → Steps p.tables e below (s₁.setTop (entryFrame m #[(.int p1), (.int p2), (.int p3)] maxLocals)) t := by
    intro t k
    refine Pi1 t ?_
    show Steps p.tables e below (Ti1.setTop (mkF m 14 #[.val (.int p1), .val (.int p2), .val (.int p3), .unset, .unset, .unset] [(.ref ba)])) _
    refine XS.dup Xi1.here hx rfl (hb hby at_14) rfl rfl ?_
    show Steps p.tables e below (Ti1.setTop (mkF m 15 #[.val (.int p1), .val (.int p2), .val (.int p3), .unset, .unset, .unset] [(.ref ba), (.ref ba)])) _
    refine XS.iconst Xi1.here hx rfl (hb hby at_15) ?_
    show Steps p.tables e below (Ti1.setTop (mkF m 16 #[.val (.int p1), .val (.int p2), .val (.int p3), .unset, .unset, .unset] [(.int (2 : Int32)), (.ref ba), (.ref ba)])) _
    refine Jvm.Stand.ldcI Xi1 hx hown (mvT hZ (hw _ (List.mem_of_getElem? (i := 3) rfl))) rfl (hb hby at_16) ?_
    refine sti2 _ ?_
    exact k
  obtain ⟨cli3, Ari3, qi3, Si3, Ni3', Hi3, Gi3⟩ := Vi2
  obtain ⟨Ti3, hi3, Xi3, ei3, Wi3, sti3⟩ := stI Xi2 hx hZ ei2 Ari3 (j := (3 : Int32)) (inb_of Si3 ⟨by decide, by decide⟩) (g := (mkF m 23 #[.val (.int p1), .val (.int p2), .val (.int p3), .unset, .unset, .unset] [(.int (1048574 : Int32)), (.int (3 : Int32)), (.ref ba), (.ref ba)])) rfl rfl (hb hby at_23)
  have Vi3 : Arv Z hi3 ba ka .int (8 : Int32) [(.int (57344 : Int32)), (.int (63744 : Int32)), (.int (983040 : Int32)), (.int (1048574 : Int32)), (.int (0 : Int32)), (.int (0 : Int32)), (.int (0 : Int32)), (.int (0 : Int32))] (.int (0 : Int32)) := Arv.set Ari3 qi3 Si3 Ni3' Hi3 Gi3 rfl Wi3 3 rfl (Nat.le_of_ble_eq_true rfl)
  have Ni3 := Fr.snoc Xi3 Ni2 gb
  have Pi3 : ∀ t, Steps p.tables e below (Ti3.setTop (mkF m 24 #[.val (.int p1), .val (.int p2), .val (.int p3), .unset, .unset, .unset] [(.ref ba)])) t → Steps p.tables e below (s₁.setTop (entryFrame m #[(.int p1), (.int p2), (.int p3)] maxLocals)) t := by
    intro t k
    refine Pi2 t ?_
    show Steps p.tables e below (Ti2.setTop (mkF m 19 #[.val (.int p1), .val (.int p2), .val (.int p3), .unset, .unset, .unset] [(.ref ba)])) _
    refine XS.dup Xi2.here hx rfl (hb hby at_19) rfl rfl ?_
    show Steps p.tables e below (Ti2.setTop (mkF m 20 #[.val (.int p1), .val (.int p2), .val (.int p3), .unset, .unset, .unset] [(.ref ba), (.ref ba)])) _
    refine XS.iconst Xi2.here hx rfl (hb hby at_20) ?_
    show Steps p.tables e below (Ti2.setTop (mkF m 21 #[.val (.int p1), .val (.int p2), .val (.int p3), .unset, .unset, .unset] [(.int (3 : Int32)), (.ref ba), (.ref ba)])) _
    refine Jvm.Stand.ldcI Xi2 hx hown (mvT hZ (hw _ (List.mem_of_getElem? (i := 4) rfl))) rfl (hb hby at_21) ?_
    refine sti3 _ ?_
    exact k
  obtain ⟨cli4, Ari4, qi4, Si4, Ni4', Hi4, Gi4⟩ := Vi3
  obtain ⟨Ti4, hi4, Xi4, ei4, Wi4, sti4⟩ := stI Xi3 hx hZ ei3 Ari4 (j := (4 : Int32)) (inb_of Si4 ⟨by decide, by decide⟩) (g := (mkF m 28 #[.val (.int p1), .val (.int p2), .val (.int p3), .unset, .unset, .unset] [(.int (1048576 : Int32)), (.int (4 : Int32)), (.ref ba), (.ref ba)])) rfl rfl (hb hby at_28)
  have Vi4 : Arv Z hi4 ba ka .int (8 : Int32) [(.int (57344 : Int32)), (.int (63744 : Int32)), (.int (983040 : Int32)), (.int (1048574 : Int32)), (.int (1048576 : Int32)), (.int (0 : Int32)), (.int (0 : Int32)), (.int (0 : Int32))] (.int (0 : Int32)) := Arv.set Ari4 qi4 Si4 Ni4' Hi4 Gi4 rfl Wi4 4 rfl (Nat.le_of_ble_eq_true rfl)
  have Ni4 := Fr.snoc Xi4 Ni3 gb
  have Pi4 : ∀ t, Steps p.tables e below (Ti4.setTop (mkF m 29 #[.val (.int p1), .val (.int p2), .val (.int p3), .unset, .unset, .unset] [(.ref ba)])) t → Steps p.tables e below (s₁.setTop (entryFrame m #[(.int p1), (.int p2), (.int p3)] maxLocals)) t := by
    intro t k
    refine Pi3 t ?_
    show Steps p.tables e below (Ti3.setTop (mkF m 24 #[.val (.int p1), .val (.int p2), .val (.int p3), .unset, .unset, .unset] [(.ref ba)])) _
    refine XS.dup Xi3.here hx rfl (hb hby at_24) rfl rfl ?_
    show Steps p.tables e below (Ti3.setTop (mkF m 25 #[.val (.int p1), .val (.int p2), .val (.int p3), .unset, .unset, .unset] [(.ref ba), (.ref ba)])) _
    refine XS.iconst Xi3.here hx rfl (hb hby at_25) ?_
    show Steps p.tables e below (Ti3.setTop (mkF m 26 #[.val (.int p1), .val (.int p2), .val (.int p3), .unset, .unset, .unset] [(.int (4 : Int32)), (.ref ba), (.ref ba)])) _
    refine Jvm.Stand.ldcI Xi3 hx hown (mvT hZ (hw _ (List.mem_of_getElem? (i := 5) rfl))) rfl (hb hby at_26) ?_
    refine sti4 _ ?_
    exact k
  obtain ⟨cli5, Ari5, qi5, Si5, Ni5', Hi5, Gi5⟩ := Vi4
  obtain ⟨Ti5, hi5, Xi5, ei5, Wi5, sti5⟩ := stI Xi4 hx hZ ei4 Ari5 (j := (5 : Int32)) (inb_of Si5 ⟨by decide, by decide⟩) (g := (mkF m 33 #[.val (.int p1), .val (.int p2), .val (.int p3), .unset, .unset, .unset] [(.int (1114110 : Int32)), (.int (5 : Int32)), (.ref ba), (.ref ba)])) rfl rfl (hb hby at_33)
  have Vi5 : Arv Z hi5 ba ka .int (8 : Int32) [(.int (57344 : Int32)), (.int (63744 : Int32)), (.int (983040 : Int32)), (.int (1048574 : Int32)), (.int (1048576 : Int32)), (.int (1114110 : Int32)), (.int (0 : Int32)), (.int (0 : Int32))] (.int (0 : Int32)) := Arv.set Ari5 qi5 Si5 Ni5' Hi5 Gi5 rfl Wi5 5 rfl (Nat.le_of_ble_eq_true rfl)
  have Ni5 := Fr.snoc Xi5 Ni4 gb
  have Pi5 : ∀ t, Steps p.tables e below (Ti5.setTop (mkF m 34 #[.val (.int p1), .val (.int p2), .val (.int p3), .unset, .unset, .unset] [(.ref ba)])) t → Steps p.tables e below (s₁.setTop (entryFrame m #[(.int p1), (.int p2), (.int p3)] maxLocals)) t := by
    intro t k
    refine Pi4 t ?_
    show Steps p.tables e below (Ti4.setTop (mkF m 29 #[.val (.int p1), .val (.int p2), .val (.int p3), .unset, .unset, .unset] [(.ref ba)])) _
    refine XS.dup Xi4.here hx rfl (hb hby at_29) rfl rfl ?_
    show Steps p.tables e below (Ti4.setTop (mkF m 30 #[.val (.int p1), .val (.int p2), .val (.int p3), .unset, .unset, .unset] [(.ref ba), (.ref ba)])) _
    refine XS.iconst Xi4.here hx rfl (hb hby at_30) ?_
    show Steps p.tables e below (Ti4.setTop (mkF m 31 #[.val (.int p1), .val (.int p2), .val (.int p3), .unset, .unset, .unset] [(.int (5 : Int32)), (.ref ba), (.ref ba)])) _
    refine Jvm.Stand.ldcI Xi4 hx hown (mvT hZ (hw _ (List.mem_of_getElem? (i := 6) rfl))) rfl (hb hby at_31) ?_
    refine sti5 _ ?_
    exact k
  obtain ⟨cli6, Ari6, qi6, Si6, Ni6', Hi6, Gi6⟩ := Vi5
  obtain ⟨Ti6, hi6, Xi6, ei6, Wi6, sti6⟩ := stI Xi5 hx hZ ei5 Ari6 (j := (6 : Int32)) (inb_of Si6 ⟨by decide, by decide⟩) (g := (mkF m 39 #[.val (.int p1), .val (.int p2), .val (.int p3), .unset, .unset, .unset] [(.int (1114112 : Int32)), (.int (6 : Int32)), (.ref ba), (.ref ba)])) rfl rfl (hb hby at_39)
  have Vi6 : Arv Z hi6 ba ka .int (8 : Int32) [(.int (57344 : Int32)), (.int (63744 : Int32)), (.int (983040 : Int32)), (.int (1048574 : Int32)), (.int (1048576 : Int32)), (.int (1114110 : Int32)), (.int (1114112 : Int32)), (.int (0 : Int32))] (.int (0 : Int32)) := Arv.set Ari6 qi6 Si6 Ni6' Hi6 Gi6 rfl Wi6 6 rfl (Nat.le_of_ble_eq_true rfl)
  have Ni6 := Fr.snoc Xi6 Ni5 gb
  have Pi6 : ∀ t, Steps p.tables e below (Ti6.setTop (mkF m 40 #[.val (.int p1), .val (.int p2), .val (.int p3), .unset, .unset, .unset] [(.ref ba)])) t → Steps p.tables e below (s₁.setTop (entryFrame m #[(.int p1), (.int p2), (.int p3)] maxLocals)) t := by
    intro t k
    refine Pi5 t ?_
    show Steps p.tables e below (Ti5.setTop (mkF m 34 #[.val (.int p1), .val (.int p2), .val (.int p3), .unset, .unset, .unset] [(.ref ba)])) _
    refine XS.dup Xi5.here hx rfl (hb hby at_34) rfl rfl ?_
    show Steps p.tables e below (Ti5.setTop (mkF m 35 #[.val (.int p1), .val (.int p2), .val (.int p3), .unset, .unset, .unset] [(.ref ba), (.ref ba)])) _
    refine XS.bipush Xi5.here hx rfl (hb hby at_35) ?_
    show Steps p.tables e below (Ti5.setTop (mkF m 37 #[.val (.int p1), .val (.int p2), .val (.int p3), .unset, .unset, .unset] [(.int (6 : Int32)), (.ref ba), (.ref ba)])) _
    refine Jvm.Stand.ldcI Xi5 hx hown (mvT hZ (hw _ (List.mem_of_getElem? (i := 7) rfl))) rfl (hb hby at_37) ?_
    refine sti6 _ ?_
    exact k
  obtain ⟨cli7, Ari7, qi7, Si7, Ni7', Hi7, Gi7⟩ := Vi6
  obtain ⟨Ti7, hi7, Xi7, ei7, Wi7, sti7⟩ := stI Xi6 hx hZ ei6 Ari7 (j := (7 : Int32)) (inb_of Si7 ⟨by decide, by decide⟩) (g := (mkF m 45 #[.val (.int p1), .val (.int p2), .val (.int p3), .unset, .unset, .unset] [(.int (-2147483648 : Int32)), (.int (7 : Int32)), (.ref ba), (.ref ba)])) rfl rfl (hb hby at_45)
  have Vi7 : Arv Z hi7 ba ka .int (8 : Int32) [(.int (57344 : Int32)), (.int (63744 : Int32)), (.int (983040 : Int32)), (.int (1048574 : Int32)), (.int (1048576 : Int32)), (.int (1114110 : Int32)), (.int (1114112 : Int32)), (.int (-2147483648 : Int32))] (.int (0 : Int32)) := Arv.set Ari7 qi7 Si7 Ni7' Hi7 Gi7 rfl Wi7 7 rfl (Nat.le_of_ble_eq_true rfl)
  have Ni7 := Fr.snoc Xi7 Ni6 gb
  have Pi7 : ∀ t, Steps p.tables e below (Ti7.setTop (mkF m 46 #[.val (.int p1), .val (.int p2), .val (.int p3), .unset, .unset, .unset] [(.ref ba)])) t → Steps p.tables e below (s₁.setTop (entryFrame m #[(.int p1), (.int p2), (.int p3)] maxLocals)) t := by
    intro t k
    refine Pi6 t ?_
    show Steps p.tables e below (Ti6.setTop (mkF m 40 #[.val (.int p1), .val (.int p2), .val (.int p3), .unset, .unset, .unset] [(.ref ba)])) _
    refine XS.dup Xi6.here hx rfl (hb hby at_40) rfl rfl ?_
    show Steps p.tables e below (Ti6.setTop (mkF m 41 #[.val (.int p1), .val (.int p2), .val (.int p3), .unset, .unset, .unset] [(.ref ba), (.ref ba)])) _
    refine XS.bipush Xi6.here hx rfl (hb hby at_41) ?_
    show Steps p.tables e below (Ti6.setTop (mkF m 43 #[.val (.int p1), .val (.int p2), .val (.int p3), .unset, .unset, .unset] [(.int (7 : Int32)), (.ref ba), (.ref ba)])) _
    refine Jvm.Stand.ldcI Xi6 hx hown (mvT hZ (hw _ (List.mem_of_getElem? (i := 8) rfl))) rfl (hb hby at_43) ?_
    refine sti7 _ ?_
    exact k
  obtain ⟨cl, Ar, qc, Sc, Nc, Hc, Gc⟩ := Vi7
  have hj1 : (p1 &&& (2147483647 : Int32)).toInt = p1.toInt % 2147483648 := c_mask p1 2147483647 31 (by decide) (by decide)
  have hj2 := (c_irem (p1 &&& (2147483647 : Int32)) (8 : Int32) 8 (by decide)).1 (by omega)
  have hin : ¬ (((p1 &&& (2147483647 : Int32)) % (8 : Int32)) < 0 ∨ cl.slots.size ≤ ((p1 &&& (2147483647 : Int32)) % (8 : Int32)).toNatClampNeg) := inb_of Sc ⟨by rw [Int32.lt_iff_toInt_lt, show (0 : Int32).toInt = 0 from rfl]; omega, by rw [Int32.lt_iff_toInt_lt, show (8 : Int32).toInt = 8 from by decide]; omega⟩
  obtain ⟨w, hat⟩ : ∃ w : Int32, cl.slots[((p1 &&& (2147483647 : Int32)) % (8 : Int32)).toNatClampNeg]? = some (.int w) := by
    have hlt := Nat.lt_of_not_le fun q => hin (Or.inr q)
    have h1 := Hc _ hlt
    have h2 := Gc _ hlt
    rw [h1]
    revert h2
    generalize (List.getD _ _ _ : Value) = v
    intro h2
    cases v <;> first | exact ⟨_, rfl⟩ | (simp [fits] at h2)
  obtain ⟨z, kA⟩ : ∃ z : Int32, ∀ t, Steps p.tables e below (Ti7.setTop (mkF m 107 #[.val (.int p1), .val (.int p2), .val (.int p3), .val (.ref ba), .val (.int (p2 &&& (3 : Int32))), .val (.int z)] [])) t → Steps p.tables e below (Ti7.setTop (mkF m 46 #[.val (.int p1), .val (.int p2), .val (.int p3), .unset, .unset, .unset] [(.ref ba)])) t := by
    have pre46 : ∀ t, Steps p.tables e below (Ti7.setTop (mkF m 54 #[.val (.int p1), .val (.int p2), .val (.int p3), .val (.ref ba), .val (.int (p2 &&& (3 : Int32))), .unset] [(.int (p2 &&& (3 : Int32)))])) t → Steps p.tables e below (Ti7.setTop (mkF m 46 #[.val (.int p1), .val (.int p2), .val (.int p3), .unset, .unset, .unset] [(.ref ba)])) t := by
      intro t k
      show Steps p.tables e below (Ti7.setTop (mkF m 46 #[.val (.int p1), .val (.int p2), .val (.int p3), .unset, .unset, .unset] [(.ref ba)])) _
      refine XS.astoreN Xi7.here hx rfl (hb hby at_46) rfl rfl (l' := #[.val (.int p1), .val (.int p2), .val (.int p3), .val (.ref ba), .unset, .unset]) rfl ?_
      show Steps p.tables e below (Ti7.setTop (mkF m 47 #[.val (.int p1), .val (.int p2), .val (.int p3), .val (.ref ba), .unset, .unset] [])) _
      refine XS.iloadN Xi7.here hx rfl (hb hby at_47) rfl ?_
      show Steps p.tables e below (Ti7.setTop (mkF m 48 #[.val (.int p1), .val (.int p2), .val (.int p3), .val (.ref ba), .unset, .unset] [(.int p2)])) _
      refine XS.iconst Xi7.here hx rfl (hb hby at_48) ?_
      show Steps p.tables e below (Ti7.setTop (mkF m 49 #[.val (.int p1), .val (.int p2), .val (.int p3), .val (.ref ba), .unset, .unset] [(.int (3 : Int32)), (.int p2)])) _
      refine XS.iand Xi7.here hx rfl (hb hby at_49) rfl ?_
      show Steps p.tables e below (Ti7.setTop (mkF m 50 #[.val (.int p1), .val (.int p2), .val (.int p3), .val (.ref ba), .unset, .unset] [(.int (p2 &&& (3 : Int32)))])) _
      refine XS.istore Xi7.here hx rfl (hb hby at_50) rfl (l' := #[.val (.int p1), .val (.int p2), .val (.int p3), .val (.ref ba), .val (.int (p2 &&& (3 : Int32))), .unset]) rfl ?_
      show Steps p.tables e below (Ti7.setTop (mkF m 52 #[.val (.int p1), .val (.int p2), .val (.int p3), .val (.ref ba), .val (.int (p2 &&& (3 : Int32))), .unset] [])) _
      refine XS.iload Xi7.here hx rfl (hb hby at_52) rfl ?_
      exact k
    by_cases hc54 : (p2 &&& (3 : Int32)) = (0 : Int32)
    · obtain ⟨z, k⟩ : ∃ z : Int32, ∀ t, Steps p.tables e below (Ti7.setTop (mkF m 107 #[.val (.int p1), .val (.int p2), .val (.int p3), .val (.ref ba), .val (.int (p2 &&& (3 : Int32))), .val (.int z)] [])) t → Steps p.tables e below (Ti7.setTop (mkF m 57 #[.val (.int p1), .val (.int p2), .val (.int p3), .val (.ref ba), .val (.int (p2 &&& (3 : Int32))), .unset] [])) t := by
        refine ⟨p1, fun t k => ?_⟩
        show Steps p.tables e below (Ti7.setTop (mkF m 57 #[.val (.int p1), .val (.int p2), .val (.int p3), .val (.ref ba), .val (.int (p2 &&& (3 : Int32))), .unset] [])) _
        refine XS.iloadN Xi7.here hx rfl (hb hby at_57) rfl ?_
        show Steps p.tables e below (Ti7.setTop (mkF m 58 #[.val (.int p1), .val (.int p2), .val (.int p3), .val (.ref ba), .val (.int (p2 &&& (3 : Int32))), .unset] [(.int p1)])) _
        refine XS.istore Xi7.here hx rfl (hb hby at_58) rfl (l' := #[.val (.int p1), .val (.int p2), .val (.int p3), .val (.ref ba), .val (.int (p2 &&& (3 : Int32))), .val (.int p1)]) rfl ?_
        show Steps p.tables e below (Ti7.setTop (mkF m 60 #[.val (.int p1), .val (.int p2), .val (.int p3), .val (.ref ba), .val (.int (p2 &&& (3 : Int32))), .val (.int p1)] [])) _
        refine XS.goto Xi7.here hx rfl (pc0 := 60) (pc' := 107) rfl (hb hby at_60) (by decide) (by decide) ?_
        exact k
      refine ⟨z, fun t q => pre46 t ?_⟩
      show Steps p.tables e below (Ti7.setTop (mkF m 54 #[.val (.int p1), .val (.int p2), .val (.int p3), .val (.ref ba), .val (.int (p2 &&& (3 : Int32))), .unset] [(.int (p2 &&& (3 : Int32)))])) _
      refine XS.ifNo Xi7.here hx rfl (hb hby at_54) rfl ((if0 _ _).trans (teq hc54).2) ?_
      exact k t q
    · obtain ⟨z, k⟩ : ∃ z : Int32, ∀ t, Steps p.tables e below (Ti7.setTop (mkF m 107 #[.val (.int p1), .val (.int p2), .val (.int p3), .val (.ref ba), .val (.int (p2 &&& (3 : Int32))), .val (.int z)] [])) t → Steps p.tables e below (Ti7.setTop (mkF m 63 #[.val (.int p1), .val (.int p2), .val (.int p3), .val (.ref ba), .val (.int (p2 &&& (3 : Int32))), .unset] [])) t := by
        have pre63 : ∀ t, Steps p.tables e below (Ti7.setTop (mkF m 66 #[.val (.int p1), .val (.int p2), .val (.int p3), .val (.ref ba), .val (.int (p2 &&& (3 : Int32))), .unset] [(.int (1 : Int32)), (.int (p2 &&& (3 : Int32)))])) t → Steps p.tables e below (Ti7.setTop (mkF m 63 #[.val (.int p1), .val (.int p2), .val (.int p3), .val (.ref ba), .val (.int (p2 &&& (3 : Int32))), .unset] [])) t := by
          intro t k
          show Steps p.tables e below (Ti7.setTop (mkF m 63 #[.val (.int p1), .val (.int p2), .val (.int p3), .val (.ref ba), .val (.int (p2 &&& (3 : Int32))), .unset] [])) _
          refine XS.iload Xi7.here hx rfl (hb hby at_63) rfl ?_
          show Steps p.tables e below (Ti7.setTop (mkF m 65 #[.val (.int p1), .val (.int p2), .val (.int p3), .val (.ref ba), .val (.int (p2 &&& (3 : Int32))), .unset] [(.int (p2 &&& (3 : Int32)))])) _
          refine XS.iconst Xi7.here hx rfl (hb hby at_65) ?_
          exact k
        by_cases hc66 : (p2 &&& (3 : Int32)) = (1 : Int32)
        · obtain ⟨z, k⟩ : ∃ z : Int32, ∀ t, Steps p.tables e below (Ti7.setTop (mkF m 107 #[.val (.int p1), .val (.int p2), .val (.int p3), .val (.ref ba), .val (.int (p2 &&& (3 : Int32))), .val (.int z)] [])) t → Steps p.tables e below (Ti7.setTop (mkF m 69 #[.val (.int p1), .val (.int p2), .val (.int p3), .val (.ref ba), .val (.int (p2 &&& (3 : Int32))), .unset] [])) t := by
            refine ⟨((((p1 &&& (2147483647 : Int32)) % (18 : Int32)) <<< ((16 : Int32) &&& 31)) ||| (p3 &&& (65535 : Int32))), fun t k => ?_⟩
            show Steps p.tables e below (Ti7.setTop (mkF m 69 #[.val (.int p1), .val (.int p2), .val (.int p3), .val (.ref ba), .val (.int (p2 &&& (3 : Int32))), .unset] [])) _
            refine XS.iloadN Xi7.here hx rfl (hb hby at_69) rfl ?_
            show Steps p.tables e below (Ti7.setTop (mkF m 70 #[.val (.int p1), .val (.int p2), .val (.int p3), .val (.ref ba), .val (.int (p2 &&& (3 : Int32))), .unset] [(.int p1)])) _
            refine Jvm.Stand.ldcI Xi7 hx hown (mvT hZ (hw _ (List.mem_of_getElem? (i := 9) rfl))) rfl (hb hby at_70) ?_
            show Steps p.tables e below (Ti7.setTop (mkF m 72 #[.val (.int p1), .val (.int p2), .val (.int p3), .val (.ref ba), .val (.int (p2 &&& (3 : Int32))), .unset] [(.int (2147483647 : Int32)), (.int p1)])) _
            refine XS.iand Xi7.here hx rfl (hb hby at_72) rfl ?_
            show Steps p.tables e below (Ti7.setTop (mkF m 73 #[.val (.int p1), .val (.int p2), .val (.int p3), .val (.ref ba), .val (.int (p2 &&& (3 : Int32))), .unset] [(.int (p1 &&& (2147483647 : Int32)))])) _
            refine XS.bipush Xi7.here hx rfl (hb hby at_73) ?_
            show Steps p.tables e below (Ti7.setTop (mkF m 75 #[.val (.int p1), .val (.int p2), .val (.int p3), .val (.ref ba), .val (.int (p2 &&& (3 : Int32))), .unset] [(.int (18 : Int32)), (.int (p1 &&& (2147483647 : Int32)))])) _
            refine iremM Xi7 hx rfl (hb hby at_75) rfl (by decide) ?_
            show Steps p.tables e below (Ti7.setTop (mkF m 76 #[.val (.int p1), .val (.int p2), .val (.int p3), .val (.ref ba), .val (.int (p2 &&& (3 : Int32))), .unset] [(.int ((p1 &&& (2147483647 : Int32)) % (18 : Int32)))])) _
            refine XS.bipush Xi7.here hx rfl (hb hby at_76) ?_
            show Steps p.tables e below (Ti7.setTop (mkF m 78 #[.val (.int p1), .val (.int p2), .val (.int p3), .val (.ref ba), .val (.int (p2 &&& (3 : Int32))), .unset] [(.int (16 : Int32)), (.int ((p1 &&& (2147483647 : Int32)) % (18 : Int32)))])) _
            refine XS.ishl Xi7.here hx rfl (hb hby at_78) rfl ?_
            show Steps p.tables e below (Ti7.setTop (mkF m 79 #[.val (.int p1), .val (.int p2), .val (.int p3), .val (.ref ba), .val (.int (p2 &&& (3 : Int32))), .unset] [(.int (((p1 &&& (2147483647 : Int32)) % (18 : Int32)) <<< ((16 : Int32) &&& 31)))])) _
            refine XS.iloadN Xi7.here hx rfl (hb hby at_79) rfl ?_
            show Steps p.tables e below (Ti7.setTop (mkF m 80 #[.val (.int p1), .val (.int p2), .val (.int p3), .val (.ref ba), .val (.int (p2 &&& (3 : Int32))), .unset] [(.int p3), (.int (((p1 &&& (2147483647 : Int32)) % (18 : Int32)) <<< ((16 : Int32) &&& 31)))])) _
            refine Jvm.Stand.ldcI Xi7 hx hown (mvT hZ (hw _ (List.mem_of_getElem? (i := 21) rfl))) rfl (hb hby at_80) ?_
            show Steps p.tables e below (Ti7.setTop (mkF m 82 #[.val (.int p1), .val (.int p2), .val (.int p3), .val (.ref ba), .val (.int (p2 &&& (3 : Int32))), .unset] [(.int (65535 : Int32)), (.int p3), (.int (((p1 &&& (2147483647 : Int32)) % (18 : Int32)) <<< ((16 : Int32) &&& 31)))])) _
            refine XS.iand Xi7.here hx rfl (hb hby at_82) rfl ?_
            show Steps p.tables e below (Ti7.setTop (mkF m 83 #[.val (.int p1), .val (.int p2), .val (.int p3), .val (.ref ba), .val (.int (p2 &&& (3 : Int32))), .unset] [(.int (p3 &&& (65535 : Int32))), (.int (((p1 &&& (2147483647 : Int32)) % (18 : Int32)) <<< ((16 : Int32) &&& 31)))])) _
            refine XS.ior Xi7.here hx rfl (hb hby at_83) rfl ?_
            show Steps p.tables e below (Ti7.setTop (mkF m 84 #[.val (.int p1), .val (.int p2), .val (.int p3), .val (.ref ba), .val (.int (p2 &&& (3 : Int32))), .unset] [(.int ((((p1 &&& (2147483647 : Int32)) % (18 : Int32)) <<< ((16 : Int32) &&& 31)) ||| (p3 &&& (65535 : Int32))))])) _
            refine XS.istore Xi7.here hx rfl (hb hby at_84) rfl (l' := #[.val (.int p1), .val (.int p2), .val (.int p3), .val (.ref ba), .val (.int (p2 &&& (3 : Int32))), .val (.int ((((p1 &&& (2147483647 : Int32)) % (18 : Int32)) <<< ((16 : Int32) &&& 31)) ||| (p3 &&& (65535 : Int32))))]) rfl ?_
            show Steps p.tables e below (Ti7.setTop (mkF m 86 #[.val (.int p1), .val (.int p2), .val (.int p3), .val (.ref ba), .val (.int (p2 &&& (3 : Int32))), .val (.int ((((p1 &&& (2147483647 : Int32)) % (18 : Int32)) <<< ((16 : Int32) &&& 31)) ||| (p3 &&& (65535 : Int32))))] [])) _
            refine XS.goto Xi7.here hx rfl (pc0 := 86) (pc' := 107) rfl (hb hby at_86) (by decide) (by decide) ?_
            exact k
          refine ⟨z, fun t q => pre63 t ?_⟩
          show Steps p.tables e below (Ti7.setTop (mkF m 66 #[.val (.int p1), .val (.int p2), .val (.int p3), .val (.ref ba), .val (.int (p2 &&& (3 : Int32))), .unset] [(.int (1 : Int32)), (.int (p2 &&& (3 : Int32)))])) _
          refine XS.icmpNo Xi7.here hx rfl (hb hby at_66) rfl (teq hc66).2 ?_
          exact k t q
        · obtain ⟨z, k⟩ : ∃ z : Int32, ∀ t, Steps p.tables e below (Ti7.setTop (mkF m 107 #[.val (.int p1), .val (.int p2), .val (.int p3), .val (.ref ba), .val (.int (p2 &&& (3 : Int32))), .val (.int z)] [])) t → Steps p.tables e below (Ti7.setTop (mkF m 89 #[.val (.int p1), .val (.int p2), .val (.int p3), .val (.ref ba), .val (.int (p2 &&& (3 : Int32))), .unset] [])) t := by
            refine ⟨(w + ((p3 &&& (7 : Int32)) - (4 : Int32))), fun t k => ?_⟩
            show Steps p.tables e below (Ti7.setTop (mkF m 89 #[.val (.int p1), .val (.int p2), .val (.int p3), .val (.ref ba), .val (.int (p2 &&& (3 : Int32))), .unset] [])) _
            refine XS.aloadN Xi7.here hx rfl (hb hby at_89) rfl rfl ?_
            show Steps p.tables e below (Ti7.setTop (mkF m 90 #[.val (.int p1), .val (.int p2), .val (.int p3), .val (.ref ba), .val (.int (p2 &&& (3 : Int32))), .unset] [(.ref ba)])) _
            refine XS.iloadN Xi7.here hx rfl (hb hby at_90) rfl ?_
            show Steps p.tables e below (Ti7.setTop (mkF m 91 #[.val (.int p1), .val (.int p2), .val (.int p3), .val (.ref ba), .val (.int (p2 &&& (3 : Int32))), .unset] [(.int p1), (.ref ba)])) _
            refine Jvm.Stand.ldcI Xi7 hx hown (mvT hZ (hw _ (List.mem_of_getElem? (i := 9) rfl))) rfl (hb hby at_91) ?_
            show Steps p.tables e below (Ti7.setTop (mkF m 93 #[.val (.int p1), .val (.int p2), .val (.int p3), .val (.ref ba), .val (.int (p2 &&& (3 : Int32))), .unset] [(.int (2147483647 : Int32)), (.int p1), (.ref ba)])) _
            refine XS.iand Xi7.here hx rfl (hb hby at_93) rfl ?_
            show Steps p.tables e below (Ti7.setTop (mkF m 94 #[.val (.int p1), .val (.int p2), .val (.int p3), .val (.ref ba), .val (.int (p2 &&& (3 : Int32))), .unset] [(.int (p1 &&& (2147483647 : Int32))), (.ref ba)])) _
            refine XS.bipush Xi7.here hx rfl (hb hby at_94) ?_
            show Steps p.tables e below (Ti7.setTop (mkF m 96 #[.val (.int p1), .val (.int p2), .val (.int p3), .val (.ref ba), .val (.int (p2 &&& (3 : Int32))), .unset] [(.int (8 : Int32)), (.int (p1 &&& (2147483647 : Int32))), (.ref ba)])) _
            refine iremM Xi7 hx rfl (hb hby at_96) rfl (by decide) ?_
            show Steps p.tables e below (Ti7.setTop (mkF m 97 #[.val (.int p1), .val (.int p2), .val (.int p3), .val (.ref ba), .val (.int (p2 &&& (3 : Int32))), .unset] [(.int ((p1 &&& (2147483647 : Int32)) % (8 : Int32))), (.ref ba)])) _
            refine Xi7.iaload hx (j := ((p1 &&& (2147483647 : Int32)) % (8 : Int32))) (v := (.int w)) (by rw [ei7]; exact Ar.1) (State.isArrayOf_alike hZ.alike Ar.2.1) Ar.2.2 hin hat (g := (mkF m 97 #[.val (.int p1), .val (.int p2), .val (.int p3), .val (.ref ba), .val (.int (p2 &&& (3 : Int32))), .unset] [(.int ((p1 &&& (2147483647 : Int32)) % (8 : Int32))), (.ref ba)])) rfl rfl (hb hby at_97) _ ?_
            show Steps p.tables e below (Ti7.setTop (mkF m 98 #[.val (.int p1), .val (.int p2), .val (.int p3), .val (.ref ba), .val (.int (p2 &&& (3 : Int32))), .unset] [(.int w)])) _
            refine XS.iloadN Xi7.here hx rfl (hb hby at_98) rfl ?_
            show Steps p.tables e below (Ti7.setTop (mkF m 99 #[.val (.int p1), .val (.int p2), .val (.int p3), .val (.ref ba), .val (.int (p2 &&& (3 : Int32))), .unset] [(.int p3), (.int w)])) _
            refine XS.bipush Xi7.here hx rfl (hb hby at_99) ?_
            show Steps p.tables e below (Ti7.setTop (mkF m 101 #[.val (.int p1), .val (.int p2), .val (.int p3), .val (.ref ba), .val (.int (p2 &&& (3 : Int32))), .unset] [(.int (7 : Int32)), (.int p3), (.int w)])) _
            refine XS.iand Xi7.here hx rfl (hb hby at_101) rfl ?_
            show Steps p.tables e below (Ti7.setTop (mkF m 102 #[.val (.int p1), .val (.int p2), .val (.int p3), .val (.ref ba), .val (.int (p2 &&& (3 : Int32))), .unset] [(.int (p3 &&& (7 : Int32))), (.int w)])) _
            refine XS.iconst Xi7.here hx rfl (hb hby at_102) ?_
            show Steps p.tables e below (Ti7.setTop (mkF m 103 #[.val (.int p1), .val (.int p2), .val (.int p3), .val (.ref ba), .val (.int (p2 &&& (3 : Int32))), .unset] [(.int (4 : Int32)), (.int (p3 &&& (7 : Int32))), (.int w)])) _
            refine XS.isub Xi7.here hx rfl (hb hby at_103) rfl ?_
            show Steps p.tables e below (Ti7.setTop (mkF m 104 #[.val (.int p1), .val (.int p2), .val (.int p3), .val (.ref ba), .val (.int (p2 &&& (3 : Int32))), .unset] [(.int ((p3 &&& (7 : Int32)) - (4 : Int32))), (.int w)])) _
            refine XS.iadd Xi7.here hx rfl (hb hby at_104) rfl ?_
            show Steps p.tables e below (Ti7.setTop (mkF m 105 #[.val (.int p1), .val (.int p2), .val (.int p3), .val (.ref ba), .val (.int (p2 &&& (3 : Int32))), .unset] [(.int (w + ((p3 &&& (7 : Int32)) - (4 : Int32))))])) _
            refine XS.istore Xi7.here hx rfl (hb hby at_105) rfl (l' := #[.val (.int p1), .val (.int p2), .val (.int p3), .val (.ref ba), .val (.int (p2 &&& (3 : Int32))), .val (.int (w + ((p3 &&& (7 : Int32)) - (4 : Int32))))]) rfl ?_
            exact k
          refine ⟨z, fun t q => pre63 t ?_⟩
          show Steps p.tables e below (Ti7.setTop (mkF m 66 #[.val (.int p1), .val (.int p2), .val (.int p3), .val (.ref ba), .val (.int (p2 &&& (3 : Int32))), .unset] [(.int (1 : Int32)), (.int (p2 &&& (3 : Int32)))])) _
          refine XS.icmpYes Xi7.here hx rfl (pc0 := 66) (pc' := 89) rfl (hb hby at_66) rfl (feq hc66).2 (by decide) (by decide) ?_
          exact k t q
      refine ⟨z, fun t q => pre46 t ?_⟩
      show Steps p.tables e below (Ti7.setTop (mkF m 54 #[.val (.int p1), .val (.int p2), .val (.int p3), .val (.ref ba), .val (.int (p2 &&& (3 : Int32))), .unset] [(.int (p2 &&& (3 : Int32)))])) _
      refine XS.ifYes Xi7.here hx rfl (pc0 := 54) (pc' := 63) rfl (hb hby at_54) rfl ((if0 _ _).trans (feq hc54).2) (by decide) (by decide) ?_
      exact k t q
  obtain ⟨_, _, ⟨T1, L1, k1, n1⟩, -, X1, ⟨Lc1, hQ1, l1, y1, z1⟩, st1⟩ := Jvm.LawKit.callS Xi7 hx (y := (⟨"com/example/sagoma/sagoma/format/Rfc3986", "isPrivateUse", "(I)Z"⟩ : MethodName)) hown (mvT hZ (hw _ (List.mem_of_getElem? (i := 10) rfl))) (mvT hZ (hw _ (List.mem_of_getElem? (i := 11) rfl))) (mvT hZ (hw _ (List.mem_of_getElem? (i := 12) rfl))) (mvT hZ (hw _ (List.mem_of_getElem? (i := 13) rfl))) (by decide) (backOf (W := 0) (rm_p l Z a0 hw [] z hi7 n0) hZ (hw _ (List.mem_of_getElem? (i := 13) rfl)) (hw _ (List.mem_of_getElem? (i := 12) rfl)) (by decide) (by decide)) (g := (mkF m 109 #[.val (.int p1), .val (.int p2), .val (.int p3), .val (.ref ba), .val (.int (p2 &&& (3 : Int32))), .val (.int z)] [(.int z)])) rfl (by rw [hml]; rfl) (argsL := [(.int z)]) (rest := []) (lenOf pd_1 rfl) rfl (by show 2 * 0 + _ ≤ _; exact Nat.le_of_eq rfl) (hb hby at_109) (fun _ _ => ⟨rfl, ei7, (by decide : 1 + 0 ≤ _), (by decide : 8 + 0 ≤ _)⟩)
  dsimp only [Pt.U, Pt.locs, Pt.cells, Pt.slots] at X1 l1 y1 z1 st1 hQ1
  subst l1 y1 z1
  obtain ⟨rfl, N1q, e1⟩ := hQ1
  have N1 := Fr.app Ni7 N1q
  obtain ⟨_, _, ⟨T2, L2, k2, n2⟩, -, X2, ⟨Lc2, hQ2, l2, y2, z2⟩, st2⟩ := Jvm.LawKit.callS X1 hx (y := (⟨"com/example/sagoma/sagoma/format/Rfc3986IsPrivateUsePinLaw", "expected", "(I)Z"⟩ : MethodName)) hown (mvT hZ (hw _ (List.mem_of_getElem? (i := 17) rfl))) (mvT hZ (hw _ (List.mem_of_getElem? (i := 18) rfl))) (mvT hZ (hw _ (List.mem_of_getElem? (i := 19) rfl))) (mvT hZ (hw _ (List.mem_of_getElem? (i := 20) rfl))) (by decide) (backOf (W := 1) (rm_e l Z a0 hw [] z hi7 n0) hZ (hw _ (List.mem_of_getElem? (i := 20) rfl)) (hw _ (List.mem_of_getElem? (i := 19) rfl)) (by decide) (by decide)) (g := (mkF m 114 #[.val (.int p1), .val (.int p2), .val (.int p3), .val (.ref ba), .val (.int (p2 &&& (3 : Int32))), .val (.int z)] [(.int z), (.int (own_p z))])) rfl (by rw [hml]; rfl) (argsL := [(.int z)]) (rest := [(.int (own_p z))]) (lenOf pd_1 rfl) rfl (by show 2 * 0 + _ ≤ _; exact Nat.le_of_eq rfl) (hb hby at_114) (fun _ _ => ⟨rfl, e1, (by decide : 1 + 0 ≤ _), (by decide : 8 + 0 ≤ _)⟩)
  dsimp only [Pt.U, Pt.locs, Pt.cells, Pt.slots] at X2 l2 y2 z2 st2 hQ2
  subst l2 y2 z2
  obtain ⟨rfl, N2q, e2⟩ := hQ2
  have N2 := Fr.app N1 N2q
  obtain ⟨fs, hr, hrun, hended, hW, hsame⟩ := X2.leave (v := some (.int (1 : Int32))) (fun h => by rw [Bd.returns] at h; cases h)
  refine ⟨_, _, Pi7 _ (kA _ ?_), hrun, hended, _, _, rfl, ⟨rfl, N2⟩, ⟨_, rfl⟩, hW, hsame.mono (by decide) (by decide)⟩
  show Steps p.tables e below (Ti7.setTop (mkF m 107 #[.val (.int p1), .val (.int p2), .val (.int p3), .val (.ref ba), .val (.int (p2 &&& (3 : Int32))), .val (.int z)] [])) _
  refine XS.iload Xi7.here hx rfl (hb hby at_107) rfl ?_
  refine st1 _ ?_
  show Steps p.tables e below (T1.setTop (mkF m 112 #[.val (.int p1), .val (.int p2), .val (.int p3), .val (.ref ba), .val (.int (p2 &&& (3 : Int32))), .val (.int z)] [(.int (own_p z))])) _
  refine XS.iload X1.here hx rfl (hb hby at_112) rfl ?_
  refine st2 _ ?_
  have hc117 : (own_p z) = (own_p z) := rfl
  show Steps p.tables e below (T2.setTop (mkF m 117 #[.val (.int p1), .val (.int p2), .val (.int p3), .val (.ref ba), .val (.int (p2 &&& (3 : Int32))), .val (.int z)] [(.int (own_p z)), (.int (own_p z))])) _
  refine XS.icmpNo X2.here hx rfl (hb hby at_117) rfl (teq hc117).2 ?_
  show Steps p.tables e below (T2.setTop (mkF m 120 #[.val (.int p1), .val (.int p2), .val (.int p3), .val (.ref ba), .val (.int (p2 &&& (3 : Int32))), .val (.int z)] [])) _
  refine XS.iconst X2.here hx rfl (hb hby at_120) ?_
  show Steps p.tables e below (T2.setTop (mkF m 121 #[.val (.int p1), .val (.int p2), .val (.int p3), .val (.ref ba), .val (.int (p2 &&& (3 : Int32))), .val (.int z)] [(.int (1 : Int32))])) _
  refine XS.goto X2.here hx rfl (pc0 := 121) (pc' := 125) rfl (hb hby at_121) (by decide) (by decide) ?_
  show Steps p.tables e below (T2.setTop (mkF m 125 #[.val (.int p1), .val (.int p2), .val (.int p3), .val (.ref ba), .val (.int (p2 &&& (3 : Int32))), .val (.int z)] [(.int (1 : Int32))])) _
  exact retN X2 hx (t := .boolean) Bd.returns (by simp) (hb hby at_125) hr
set_option maxRecDepth 65536 in
set_option maxHeartbeats 40000000 in
theorem comes_1 {Post : Tables → Env → Array Value → State → Outcome → State → Prop} (hpost : ∀ tb e args s v u, (limb_1_1.after args s (.returned v) u = true ∧ limb_1_2.after args s (.returned v) u = true ∧ True) → FrameEnd s (.returned v) u (Jvm.fieldLocs frame_1_writes args s ++ Jvm.arrayLocs frame_1_arrays args s ++ Jvm.staticLocs frame_1_statics s) 16 128 → Post tb e args s (.returned v) u) :
    ArmFor flags0 classFile x code maxLocals ret World_1 tables_1 room_1 Calls_1 rest_1 Pre_1 Post := by
  intro l hfl _ _ p e ha hc hk s m args below hf hA hF happ hP
  obtain ⟨hcalls, hrest, hpre⟩ := hP
  obtain ⟨-, -, -, hnamed, -, -, -, hat⟩ := (Spec.applies_iff hf).mp happ
  obtain ⟨hg, hn⟩ := and_e (Cond.before_iff.mp (show (Jvm.Cond.and given_1 narrow_1).before args s = true from hpre))
  obtain ⟨gc, gr0⟩ := and_e hg
  obtain ⟨g0, gr1⟩ := and_e gr0
  obtain ⟨g1, gr2⟩ := and_e gr1
  obtain ⟨w0, w1, w2, rfl⟩ : ∃ w0 w1 w2 : Value, args = #[w0, w1, w2] := by
    have hs : args.size = 3 := by simpa [Cond.value, given_1] using gc
    obtain ⟨L⟩ := args
    match L, hs with
    | [w0, w1, w2], _ => exact ⟨w0, w1, w2, rfl⟩
  have hw := fun d (hd : d ∈ tables_1) => atoms_spec (ws := Jvm.Cond.code x code maxLocals ret :: tables_1) hat d (List.mem_cons_of_mem _ hd)
  obtain ⟨i0, ei0⟩ := is_v g0
  obtain rfl : w0 = (.int i0) := Option.some.inj ei0
  obtain ⟨i1, ei1⟩ := is_v g1
  obtain rfl : w1 = (.int i1) := Option.some.inj ei1
  obtain ⟨i2, ei2⟩ := is_v gr2
  obtain rfl : w2 = (.int i2) := Option.some.inj ei2
  obtain ⟨n, o, h1, h2, h3, _, L, rfl, ⟨rfl, N⟩, hq⟩ := rm0 l s _ hw tables_1 i0 i1 i2 s.heap s.heap.size (Nat.le_refl _) p e ha hc hk s m _ below hf ((Spec.applies_iff_loose hf).mp happ).1 ⟨rfl, State.Warmed39.refl s, rfl⟩ trivial
  refine ⟨n, _, h1, h2, h3, hpost _ _ _ _ _ _ ⟨Cond.after_iff.mpr rfl, Cond.after_iff.mpr (eq_i res_at (Term.int_eval (1)) rfl), trivial⟩ ⟨hq.1, hq.2.1, (hq.2.2.sift fun y hy => Or.inr (N y hy)).mono (by decide) (by decide)⟩⟩
theorem main_1_1 : Claimed_1_1 := comes_1 fun _ _ _ _ _ _ h hF => ⟨h.1, hF⟩
theorem main_1_2 : Claimed_1_2 := comes_1 fun _ _ _ _ _ _ h hF => ⟨h.2.1, hF⟩
end Jvm.Pilot.@@N@@
namespace Jvm.Pilot.@@N@@
open Jvm Jvm.ClassFile Sem Op Lib Jvm.Free Jvm.Stand Jvm.Pilot.@@N@@.Jvm.D
/-! MADE BY PROGRAM (witnessworld.py) out of the Statement's table words and the real class files: 9 classes; the members and pool entries that the words name. The judged class is class 1, her method 2. -/
namespace start1
open Jvm.ClassFile
def u (s : String) : CpInfo := .utf8 (stringToUtf16 s)
/-- a pool by its gaps: so many unusable entries, then the entry; so many at the end -/
def gap : Nat → List CpInfo → List CpInfo
  | 0, r => r
  | n + 1, r => .unusable :: gap n r
def poolList (es : List (Nat × CpInfo)) (last : Nat) : List CpInfo := es.foldr (fun e r => gap e.1 (e.2 :: r)) (gap last [])
def pool (es : List (Nat × CpInfo)) (last : Nat) : Array CpInfo := ⟨poolList es last⟩
def fileOf (pool : Array CpInfo) (this : Nat) (attrs : Array Attribute := #[]) (ms : Array MethodInfo := #[]) (fl : Nat := 33) (sup : Nat := 0) (ifs : Array Nat := #[]) (fds : Array FieldInfo := #[]) : ClassFile where
  minorVersion := 0
  majorVersion := 65
  constantPool := pool
  accessFlags := fl
  thisClass := this
  superClass := sup
  interfaces := ifs
  fields := fds
  methods := ms
  attributes := attrs
def plain (name : String) (sup : Option ClassId) : Class where
  name := name
  kind := .ordinary
  loader := none
  accessFlags := 33
  super := sup
  interfaces := #[]
  cf := none
  fields := #[]
  methods := #[]
  instanceTypes := #[]
  staticTypes := #[]
  resolved := #[]
  callSites := []
  init := .initialized
  statics := none
  mirror := none

def pool0 : Array CpInfo := pool [(5, u "<init>"), (0, u "()V"), (1, .class_ 10), (1, u "java/lang/Object")] 113

def k0m0 : Method := { name := "<init>", desc := "()V", sig := { parameters := [], returnType := none }, accessFlags := 1, code := none }
/-- java/lang/Object -/
def k0 : Class := { plain "java/lang/Object" none with
  accessFlags := 33
  interfaces := #[]
  cf := some (fileOf pool0 8 #[] #[{ accessFlags := 1, nameIndex := 5, descriptorIndex := 6, attributes := #[] }] 33 0 #[] #[])
  fields := #[]
  methods := #[k0m0]
  instanceTypes := #[]
  staticTypes := #[]
  resolved := Array.replicate 124 none
  statics := none }

def pool1 : Array CpInfo := pool [(2, .class_ 4), (1, u "java/lang/Object"), (0, u "<init>"), (0, u "()V"), (0, .integer 65535), (0, .integer 57344), (0, .integer 63743), (0, .integer 65533), (0, .integer 63744), (0, .integer 983040), (0, .integer 1048574), (0, .integer 1048576), (0, .integer 1114110), (0, .integer 1114112), (2, .integer 2147483648), (0, .integer 2147483647), (0, .methodref 22 23), (0, .class_ 24), (0, .nameAndType 25 26), (0, u "com/example/sagoma/sagoma/format/Rfc3986"), (0, u "isPrivateUse"), (0, u "(I)Z"), (0, .methodref 28 29), (0, .class_ 30), (0, .nameAndType 31 26), (0, u "com/example/sagoma/sagoma/format/Rfc3986IsPrivateUsePinLaw"), (0, u "expected"), (3, u "law"), (0, u "(III)Z")] 4

def k1m0 : Method := { name := "<init>", desc := "()V", sig := { parameters := [], returnType := none }, accessFlags := 2, code := none }
def k1c1 : Code := { maxStack := 2, maxLocals := 3, code := method_2_code, exceptionTable := #[], attributes := #[] }
def k1m1 : Method := { name := "expected", desc := "(I)Z", sig := { parameters := [.int], returnType := some .boolean }, accessFlags := 10, code := some k1c1 }
def k1c2 : Code := { maxStack := 4, maxLocals := 6, code := code, exceptionTable := #[], attributes := #[] }
def k1m2 : Method := { name := "law", desc := "(III)Z", sig := { parameters := [.int, .int, .int], returnType := some .boolean }, accessFlags := 9, code := some k1c2 }
/-- com/example/sagoma/sagoma/format/Rfc3986IsPrivateUsePinLaw -/
def k1 : Class := { plain "com/example/sagoma/sagoma/format/Rfc3986IsPrivateUsePinLaw" (some 0) with
  accessFlags := 49
  interfaces := #[]
  cf := some (fileOf pool1 28 #[] #[{ accessFlags := 2, nameIndex := 5, descriptorIndex := 6, attributes := #[] }, { accessFlags := 10, nameIndex := 31, descriptorIndex := 26, attributes := #[] }, { accessFlags := 9, nameIndex := 35, descriptorIndex := 36, attributes := #[] }] 49 2 #[] #[])
  fields := #[]
  methods := #[k1m0, k1m1, k1m2]
  instanceTypes := #[]
  staticTypes := #[]
  resolved := Array.replicate 41 none
  statics := none }

def pool2 : Array CpInfo := pool [(2, .class_ 4), (1, u "java/lang/Object"), (0, u "<init>"), (0, u "()V"), (1, .class_ 10), (1, u "com/example/sagoma/sagoma/format/Rfc3986"), (35, .integer 57344), (0, .integer 63743), (0, .integer 983040), (0, .integer 1048573), (0, .integer 1048576), (0, .integer 1114109), (13, u "(I)Z"), (11, .class_ 79), (1, u "com/example/sagoma/sagoma/format/Rfc3986$Component"), (64, u "Ljava/lang/String;"), (5, u "isPrivateUse"), (5, u "SUB_DELIMITERS")] 14

def k2m0 : Method := { name := "<init>", desc := "()V", sig := { parameters := [], returnType := none }, accessFlags := 2, code := none }
def k2c1 : Code := { maxStack := 2, maxLocals := 1, code := prog_24_method_8_code, exceptionTable := #[], attributes := #[] }
def k2m1 : Method := { name := "isPrivateUse", desc := "(I)Z", sig := { parameters := [.int], returnType := some .boolean }, accessFlags := 8, code := some k2c1 }
/-- com/example/sagoma/sagoma/format/Rfc3986 -/
def k2 : Class := { plain "com/example/sagoma/sagoma/format/Rfc3986" (some 0) with
  accessFlags := 49
  interfaces := #[]
  cf := some (fileOf pool2 8 #[.nestMembers #[77]] #[{ accessFlags := 2, nameIndex := 5, descriptorIndex := 6, attributes := #[] }, { accessFlags := 8, nameIndex := 150, descriptorIndex := 65, attributes := #[] }] 49 2 #[] #[{ accessFlags := 26, nameIndex := 156, descriptorIndex := 144, attributes := #[] }])
  fields := #[{ name := "SUB_DELIMITERS", type := (.object "java/lang/String"), accessFlags := 26, slot := 0, constantValue := 0 }]
  methods := #[k2m0, k2m1]
  instanceTypes := #[]
  staticTypes := #[(.object "java/lang/String")]
  resolved := Array.replicate 171 none
  statics := none }

def pool3 : Array CpInfo := pool [(1, u "java/lang/Cloneable"), (0, .class_ 1), (0, u "java/lang/Object"), (0, .class_ 3)] 3

/-- java/lang/Cloneable -/
def k3 : Class := { plain "java/lang/Cloneable" (some 0) with
  accessFlags := 1537
  interfaces := #[]
  cf := some (fileOf pool3 2 #[] #[] 1537 4 #[] #[])
  fields := #[]
  methods := #[]
  instanceTypes := #[]
  staticTypes := #[]
  resolved := Array.replicate 8 none
  statics := none }

def pool4 : Array CpInfo := pool [(1, u "java/io/Serializable"), (0, .class_ 1), (0, u "java/lang/Object"), (0, .class_ 3)] 3

/-- java/io/Serializable -/
def k4 : Class := { plain "java/io/Serializable" (some 0) with
  accessFlags := 1537
  interfaces := #[]
  cf := some (fileOf pool4 2 #[] #[] 1537 4 #[] #[])
  fields := #[]
  methods := #[]
  instanceTypes := #[]
  staticTypes := #[]
  resolved := Array.replicate 8 none
  statics := none }

/-- the primitive byte -/
def k5 : Class := { plain "byte" none with kind := .primitive 'B', accessFlags := 0x411 }
/-- [B -/
def k6 : Class := { plain "[B" (some 0) with kind := .array 5 .byte, interfaces := #[3, 4], accessFlags := 1041 }

/-- the primitive int -/
def k7 : Class := { plain "int" none with kind := .primitive 'I', accessFlags := 0x411 }
/-- [I -/
def k8 : Class := { plain "[I" (some 0) with kind := .array 7 .int, interfaces := #[3, 4], accessFlags := 1041 }

def heap : Heap := #[]
def classes : Array Class := #[k0, k1, k2, k3, k4, k5, k6, k7, k8]
def interned : List (Array UInt16 × Addr) := []
def slotsUsed : Nat := 0
def theMethod : MethodId := ⟨1, 2⟩
def args0 : Array Value := #[.int 5, .int 3, .int 7]
def aboutOver (below : List Frame) : State where
  vm := { classes := classes, interned := interned.toArray }
  heap := heap
  slotsUsed := slotsUsed
  threads := #[{ frames := .invoking theMethod args0 :: below }]
def below0 : List Frame := [.native { method := ⟨0, 0⟩, args := #[] }]
def about1 : State := aboutOver below0
def p0 : Program := .bare "" "" ""
def e0 : Env := launch0.env 0 0 0
theorem w_frames : about1.frames = Frame.invoking theMethod args0 :: below0 := rfl
set_option maxRecDepth 65536 in
theorem w_args : argsFit about1.vm theMethod args0 = true := by decide +kernel
set_option maxRecDepth 65536 in
theorem w_heap : heapFits about1 = true := by decide +kernel
set_option maxRecDepth 65536 in
theorem w_runnable : about1.curStatus? = some .runnable := by decide +kernel
set_option maxRecDepth 65536 in
theorem w_alone : about1.alone = true := by decide +kernel
set_option maxRecDepth 65536 in
theorem w_named : about1.methodNamed? x = some theMethod := by decide +kernel
set_option maxRecDepth 65536 in
theorem w_hears : about1.hears theMethod below0 = true := by decide +kernel
set_option maxRecDepth 65536 in
theorem w_ripe : about1.ripe theMethod args0 below0 = true := by decide +kernel
theorem w_running : about1.status = .running := rfl
set_option maxRecDepth 65536 in
theorem w_room : about1.hasRoom e0.platform room_1 = true :=
  launch0.hasRoom_least _ room_1 (by decide +kernel) (by decide +kernel) (by decide +kernel) (by decide +kernel) (by decide +kernel) (by decide +kernel)
theorem allAtoms_all (ts : List Jvm.Cond) (a : Array Jvm.Value) (st : Jvm.State) : (allAtoms ts).before a st = ts.all (fun c => c.before a st) := by
  induction ts with
  | nil => rfl
  | cons c t ih =>
    show (Jvm.Cond.and c (allAtoms t)).before a st = _
    rw [Jvm.Cond.before_and, ih, List.all_cons]
def words1 : List Jvm.Cond := Jvm.Cond.code x code maxLocals ret :: tables_1
/-- a 'code' word, met by the world's own term for the bytes: nothing is compared byte by byte -/
theorem code_word {y : MethodName} {bytes : ByteArray} {mx : Nat} {rt : Option FieldType} {a : Array Value} {s : State} {m : MethodId} {meth : Method} {c : Code} (h1 : s.methodNamed? y = some m) (h2 : s.vm.method? m = some meth) (h3 : meth.code = some c) (h4 : c.code = bytes)
    (h5 : (c.maxLocals == mx && c.exceptionTable.isEmpty && decide (c.maxStack ≤ mostOperands) && decide (meth.sig.returnType = rt) && !meth.locks && decide (parseMethodDescriptor y.desc = some meth.sig)) = true) : (Jvm.Cond.code y bytes mx rt).before a s = true := by
  simp only [Bool.and_eq_true, beq_iff_eq, Bool.not_eq_true', decide_eq_true_eq] at h5
  obtain ⟨⟨⟨⟨⟨g1, g2⟩, g3⟩, g4⟩, g5⟩, g6⟩ := h5
  simp [Cond.before, Cond.holds, Cond.value, h1, h2, h3, h4, g1, g2, g3, g4, g5, g6]
def isCode : Jvm.Cond → Bool
  | .code _ _ _ _ => true
  | _ => false
theorem all_split {L : List Jvm.Cond} {P : Jvm.Cond → Bool} (h1 : L.all (fun c => isCode c || P c) = true) (h2 : ∀ c ∈ L.filter isCode, P c = true) : L.all P = true := by
  refine List.all_eq_true.mpr fun c hc => ?_
  have h := List.all_eq_true.mp h1 c hc
  rcases Bool.eq_false_or_eq_true (isCode c) with hi | hi
  · exact h2 c (List.mem_filter.mpr ⟨hc, hi⟩)
  · simpa [hi] using h
set_option maxRecDepth 65536 in
theorem w_c0 : (Jvm.Cond.code x code maxLocals ret).before args0 about1 = true := code_word (m := ⟨1, 2⟩) (meth := k1m2) (c := k1c2) (by decide +kernel) rfl rfl rfl (by decide +kernel)
set_option maxRecDepth 65536 in
theorem w_c1 : (Jvm.Cond.code ({ cls := "com/example/sagoma/sagoma/format/Rfc3986", name := "isPrivateUse", desc := "(I)Z" } : Jvm.MethodName) prog_24_method_8_code (1 : Nat) (Option.some Jvm.ClassFile.FieldType.boolean)).before args0 about1 = true := code_word (m := ⟨2, 1⟩) (meth := k2m1) (c := k2c1) (by decide +kernel) rfl rfl rfl (by decide +kernel)
set_option maxRecDepth 65536 in
theorem w_c2 : (Jvm.Cond.code ({ cls := "com/example/sagoma/sagoma/format/Rfc3986IsPrivateUsePinLaw", name := "expected", desc := "(I)Z" } : Jvm.MethodName) method_2_code (3 : Nat) (Option.some Jvm.ClassFile.FieldType.boolean)).before args0 about1 = true := code_word (m := ⟨1, 1⟩) (meth := k1m1) (c := k1c1) (by decide +kernel) rfl rfl rfl (by decide +kernel)
def codes1 : List Jvm.Cond := [Jvm.Cond.code x code maxLocals ret, Jvm.Cond.code ({ cls := "com/example/sagoma/sagoma/format/Rfc3986", name := "isPrivateUse", desc := "(I)Z" } : Jvm.MethodName) prog_24_method_8_code (1 : Nat) (Option.some Jvm.ClassFile.FieldType.boolean), Jvm.Cond.code ({ cls := "com/example/sagoma/sagoma/format/Rfc3986IsPrivateUsePinLaw", name := "expected", desc := "(I)Z" } : Jvm.MethodName) method_2_code (3 : Nat) (Option.some Jvm.ClassFile.FieldType.boolean)]
set_option maxRecDepth 65536 in
theorem codes_eq : words1.filter isCode = codes1 := rfl
theorem w_codes : ∀ c ∈ words1.filter isCode, c.before args0 about1 = true := by
  rw [codes_eq]
  intro c hc
  simp only [codes1, List.mem_cons, List.not_mem_nil, or_false] at hc
  rcases hc with rfl | rfl | rfl
  · exact w_c0
  · exact w_c1
  · exact w_c2
set_option maxRecDepth 65536 in
theorem w_t1 : (words1.take 24).all (fun c => isCode c || c.before args0 about1) = true := by decide +kernel
set_option maxRecDepth 65536 in
theorem w_t2 : (words1.drop 24).all (fun c => isCode c || c.before args0 about1) = true := by decide +kernel
theorem w_tables : (allAtoms (Jvm.Cond.code x code maxLocals ret :: tables_1)).before args0 about1 = true := by
  rw [allAtoms_all]
  show words1.all (fun c => c.before args0 about1) = true
  refine all_split ?_ w_codes
  rw [← List.take_append_drop 24 words1, List.all_append, w_t1, w_t2]
  rfl
set_option maxRecDepth 65536 in
theorem w_case : (Jvm.Cond.and given_1 narrow_1).before args0 about1 = true := by decide +kernel
theorem w_applies : (headSpec (Jvm.Cond.code x code maxLocals ret :: tables_1) room_1).applies x e0.platform about1 = true :=
  (Spec.applies_iff w_frames).mpr ⟨w_running, w_runnable, w_alone, w_named, w_hears, w_ripe, w_room, w_tables⟩
theorem atStart : AtStart classFile x code maxLocals ret World_1 tables_1 room_1 Calls_1 rest_1 Pre_1 launch0 p0 e0 about1 theMethod args0 below0 :=
  ⟨lists_1, trivial, launch0.admits_env _ _ _, launch0.least_env, fairChoices_fair.cas, fairChoices_fair.clock, w_frames, w_args, w_heap, w_applies, trivial, trivial, w_case⟩
end start1
theorem witness_1 : WitnessClaimed_1 := ⟨start1.p0, start1.e0, start1.about1, start1.theMethod, start1.args0, start1.below0, start1.atStart⟩
end Jvm.Pilot.@@N@@
