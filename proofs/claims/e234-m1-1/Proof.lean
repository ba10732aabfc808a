import JvmDerived
import JvmDerived.Pilot.@@N@@Statement
import JvmDerived.Pilot.@@N@@Code
set_option linter.unusedVariables false
set_option linter.unusedSimpArgs false
namespace Jvm.Pilot.@@N@@
open Jvm Jvm.ClassFile Sem Op Lib Jvm.Free Jvm.Stand Jvm.LawKit Jvm.RoadKit Bundle Jvm.Pilot.@@N@@.Jvm.D
theorem d_isListed_0 : decode method_3_code 0 = .ok (.iload_n 1, 1) := by decide +kernel
theorem d_isListed_1 : decode method_3_code 1 = .ok (.aload_n 0, 1) := by decide +kernel
theorem d_isListed_2 : decode method_3_code 2 = .ok (.iconst 0, 1) := by decide +kernel
theorem d_isListed_3 : decode method_3_code 3 = .ok (.caload, 1) := by decide +kernel
theorem d_isListed_4 : decode method_3_code 4 = .ok (.if_icmp .eq 118, 3) := by decide +kernel
theorem d_isListed_7 : decode method_3_code 7 = .ok (.iload_n 1, 1) := by decide +kernel
theorem d_isListed_8 : decode method_3_code 8 = .ok (.aload_n 0, 1) := by decide +kernel
theorem d_isListed_9 : decode method_3_code 9 = .ok (.iconst 1, 1) := by decide +kernel
theorem d_isListed_10 : decode method_3_code 10 = .ok (.caload, 1) := by decide +kernel
theorem d_isListed_11 : decode method_3_code 11 = .ok (.if_icmp .eq 111, 3) := by decide +kernel
theorem d_isListed_14 : decode method_3_code 14 = .ok (.iload_n 1, 1) := by decide +kernel
theorem d_isListed_15 : decode method_3_code 15 = .ok (.aload_n 0, 1) := by decide +kernel
theorem d_isListed_16 : decode method_3_code 16 = .ok (.iconst 2, 1) := by decide +kernel
theorem d_isListed_17 : decode method_3_code 17 = .ok (.caload, 1) := by decide +kernel
theorem d_isListed_18 : decode method_3_code 18 = .ok (.if_icmp .eq 104, 3) := by decide +kernel
theorem d_isListed_21 : decode method_3_code 21 = .ok (.iload_n 1, 1) := by decide +kernel
theorem d_isListed_22 : decode method_3_code 22 = .ok (.aload_n 0, 1) := by decide +kernel
theorem d_isListed_23 : decode method_3_code 23 = .ok (.iconst 3, 1) := by decide +kernel
theorem d_isListed_24 : decode method_3_code 24 = .ok (.caload, 1) := by decide +kernel
theorem d_isListed_25 : decode method_3_code 25 = .ok (.if_icmp .eq 97, 3) := by decide +kernel
theorem d_isListed_28 : decode method_3_code 28 = .ok (.iload_n 1, 1) := by decide +kernel
theorem d_isListed_29 : decode method_3_code 29 = .ok (.aload_n 0, 1) := by decide +kernel
theorem d_isListed_30 : decode method_3_code 30 = .ok (.iconst 4, 1) := by decide +kernel
theorem d_isListed_31 : decode method_3_code 31 = .ok (.caload, 1) := by decide +kernel
theorem d_isListed_32 : decode method_3_code 32 = .ok (.if_icmp .eq 90, 3) := by decide +kernel
theorem d_isListed_35 : decode method_3_code 35 = .ok (.iload_n 1, 1) := by decide +kernel
theorem d_isListed_36 : decode method_3_code 36 = .ok (.aload_n 0, 1) := by decide +kernel
theorem d_isListed_37 : decode method_3_code 37 = .ok (.iconst 5, 1) := by decide +kernel
theorem d_isListed_38 : decode method_3_code 38 = .ok (.caload, 1) := by decide +kernel
theorem d_isListed_39 : decode method_3_code 39 = .ok (.if_icmp .eq 83, 3) := by decide +kernel
theorem d_isListed_42 : decode method_3_code 42 = .ok (.iload_n 1, 1) := by decide +kernel
theorem d_isListed_43 : decode method_3_code 43 = .ok (.aload_n 0, 1) := by decide +kernel
theorem d_isListed_44 : decode method_3_code 44 = .ok (.bipush 6, 2) := by decide +kernel
theorem d_isListed_46 : decode method_3_code 46 = .ok (.caload, 1) := by decide +kernel
theorem d_isListed_47 : decode method_3_code 47 = .ok (.if_icmp .eq 75, 3) := by decide +kernel
theorem d_isListed_50 : decode method_3_code 50 = .ok (.iload_n 1, 1) := by decide +kernel
theorem d_isListed_51 : decode method_3_code 51 = .ok (.aload_n 0, 1) := by decide +kernel
theorem d_isListed_52 : decode method_3_code 52 = .ok (.bipush 7, 2) := by decide +kernel
theorem d_isListed_54 : decode method_3_code 54 = .ok (.caload, 1) := by decide +kernel
theorem d_isListed_55 : decode method_3_code 55 = .ok (.if_icmp .eq 67, 3) := by decide +kernel
theorem d_isListed_58 : decode method_3_code 58 = .ok (.iload_n 1, 1) := by decide +kernel
theorem d_isListed_59 : decode method_3_code 59 = .ok (.aload_n 0, 1) := by decide +kernel
theorem d_isListed_60 : decode method_3_code 60 = .ok (.bipush 8, 2) := by decide +kernel
theorem d_isListed_62 : decode method_3_code 62 = .ok (.caload, 1) := by decide +kernel
theorem d_isListed_63 : decode method_3_code 63 = .ok (.if_icmp .eq 59, 3) := by decide +kernel
theorem d_isListed_66 : decode method_3_code 66 = .ok (.iload_n 1, 1) := by decide +kernel
theorem d_isListed_67 : decode method_3_code 67 = .ok (.aload_n 0, 1) := by decide +kernel
theorem d_isListed_68 : decode method_3_code 68 = .ok (.bipush 9, 2) := by decide +kernel
theorem d_isListed_70 : decode method_3_code 70 = .ok (.caload, 1) := by decide +kernel
theorem d_isListed_71 : decode method_3_code 71 = .ok (.if_icmp .eq 51, 3) := by decide +kernel
theorem d_isListed_74 : decode method_3_code 74 = .ok (.iload_n 1, 1) := by decide +kernel
theorem d_isListed_75 : decode method_3_code 75 = .ok (.aload_n 0, 1) := by decide +kernel
theorem d_isListed_76 : decode method_3_code 76 = .ok (.bipush 10, 2) := by decide +kernel
theorem d_isListed_78 : decode method_3_code 78 = .ok (.caload, 1) := by decide +kernel
theorem d_isListed_79 : decode method_3_code 79 = .ok (.if_icmp .eq 43, 3) := by decide +kernel
theorem d_isListed_82 : decode method_3_code 82 = .ok (.iload_n 1, 1) := by decide +kernel
theorem d_isListed_83 : decode method_3_code 83 = .ok (.aload_n 0, 1) := by decide +kernel
theorem d_isListed_84 : decode method_3_code 84 = .ok (.bipush 11, 2) := by decide +kernel
theorem d_isListed_86 : decode method_3_code 86 = .ok (.caload, 1) := by decide +kernel
theorem d_isListed_87 : decode method_3_code 87 = .ok (.if_icmp .eq 35, 3) := by decide +kernel
theorem d_isListed_90 : decode method_3_code 90 = .ok (.iload_n 1, 1) := by decide +kernel
theorem d_isListed_91 : decode method_3_code 91 = .ok (.aload_n 0, 1) := by decide +kernel
theorem d_isListed_92 : decode method_3_code 92 = .ok (.bipush 12, 2) := by decide +kernel
theorem d_isListed_94 : decode method_3_code 94 = .ok (.caload, 1) := by decide +kernel
theorem d_isListed_95 : decode method_3_code 95 = .ok (.if_icmp .eq 27, 3) := by decide +kernel
theorem d_isListed_98 : decode method_3_code 98 = .ok (.iload_n 1, 1) := by decide +kernel
theorem d_isListed_99 : decode method_3_code 99 = .ok (.aload_n 0, 1) := by decide +kernel
theorem d_isListed_100 : decode method_3_code 100 = .ok (.bipush 13, 2) := by decide +kernel
theorem d_isListed_102 : decode method_3_code 102 = .ok (.caload, 1) := by decide +kernel
theorem d_isListed_103 : decode method_3_code 103 = .ok (.if_icmp .eq 19, 3) := by decide +kernel
theorem d_isListed_106 : decode method_3_code 106 = .ok (.iload_n 1, 1) := by decide +kernel
theorem d_isListed_107 : decode method_3_code 107 = .ok (.aload_n 0, 1) := by decide +kernel
theorem d_isListed_108 : decode method_3_code 108 = .ok (.bipush 14, 2) := by decide +kernel
theorem d_isListed_110 : decode method_3_code 110 = .ok (.caload, 1) := by decide +kernel
theorem d_isListed_111 : decode method_3_code 111 = .ok (.if_icmp .eq 11, 3) := by decide +kernel
theorem d_isListed_114 : decode method_3_code 114 = .ok (.iload_n 1, 1) := by decide +kernel
theorem d_isListed_115 : decode method_3_code 115 = .ok (.aload_n 0, 1) := by decide +kernel
theorem d_isListed_116 : decode method_3_code 116 = .ok (.bipush 15, 2) := by decide +kernel
theorem d_isListed_118 : decode method_3_code 118 = .ok (.caload, 1) := by decide +kernel
theorem d_isListed_119 : decode method_3_code 119 = .ok (.if_icmp .ne 7, 3) := by decide +kernel
theorem d_isListed_122 : decode method_3_code 122 = .ok (.iconst 1, 1) := by decide +kernel
theorem d_isListed_123 : decode method_3_code 123 = .ok (.goto 4, 3) := by decide +kernel
theorem d_isListed_126 : decode method_3_code 126 = .ok (.iconst 0, 1) := by decide +kernel
theorem d_isListed_127 : decode method_3_code 127 = .ok (.ireturn, 1) := by decide +kernel
theorem d_isCurrencySymbol_0 : decode prog_63_method_6_code 0 = .ok (.iload_n 0, 1) := by decide +kernel
theorem d_isCurrencySymbol_1 : decode prog_63_method_6_code 1 = .ok (.lookupswitch 143 #[(36, 139), (162, 139), (163, 139), (164, 139), (165, 139), (2546, 139), (2547, 139), (3647, 139), (6107, 139), (65020, 139), (65129, 139), (65284, 139), (65504, 139), (65505, 139), (65509, 139), (65510, 139)], 139) := by decide +kernel
theorem d_isCurrencySymbol_140 : decode prog_63_method_6_code 140 = .ok (.iconst 1, 1) := by decide +kernel
theorem d_isCurrencySymbol_141 : decode prog_63_method_6_code 141 = .ok (.goto 22, 3) := by decide +kernel
theorem d_isCurrencySymbol_144 : decode prog_63_method_6_code 144 = .ok (.iload_n 0, 1) := by decide +kernel
theorem d_isCurrencySymbol_145 : decode prog_63_method_6_code 145 = .ok (.sipush 8352, 3) := by decide +kernel
theorem d_isCurrencySymbol_148 : decode prog_63_method_6_code 148 = .ok (.if_icmp .lt 14, 3) := by decide +kernel
theorem d_isCurrencySymbol_151 : decode prog_63_method_6_code 151 = .ok (.iload_n 0, 1) := by decide +kernel
theorem d_isCurrencySymbol_152 : decode prog_63_method_6_code 152 = .ok (.sipush 8369, 3) := by decide +kernel
theorem d_isCurrencySymbol_155 : decode prog_63_method_6_code 155 = .ok (.if_icmp .gt 7, 3) := by decide +kernel
theorem d_isCurrencySymbol_158 : decode prog_63_method_6_code 158 = .ok (.iconst 1, 1) := by decide +kernel
theorem d_isCurrencySymbol_159 : decode prog_63_method_6_code 159 = .ok (.goto 4, 3) := by decide +kernel
theorem d_isCurrencySymbol_162 : decode prog_63_method_6_code 162 = .ok (.iconst 0, 1) := by decide +kernel
theorem d_isCurrencySymbol_163 : decode prog_63_method_6_code 163 = .ok (.ireturn, 1) := by decide +kernel
theorem pn_0 : plainName "com/example/castwright/castwright/CurrencySignIsCurrencySymbolPinLaw" = true := by first | (simp [plainName, overriddenIn]; done) | decide +kernel
theorem pn_u : plainName "com/example/castwright/castwright/NumberText$CurrencySign" = true := by first | (simp [plainName, overriddenIn]; done) | decide +kernel
theorem pd_l : parseMethodDescriptor "([CC)Z" = some ⟨[.array .char, .char], some .boolean⟩ := by decide +kernel
theorem pd_s : parseMethodDescriptor "(C)Z" = some ⟨[.char], some .boolean⟩ := by decide +kernel
theorem ef_l (m : MethodId) (x0 : Addr) (x1 : Int32) : entryFrame m #[(.ref x0), (.int x1)] 2 = mkF m 0 #[.val (.ref x0), .val (.int x1)] [] := by first | (simp [entryFrame, mkF, argsToLocals, Value.category]; done) | rfl
theorem ef_s (m : MethodId) (x0 : Int32) : entryFrame m #[(.int x0)] 1 = mkF m 0 #[.val (.int x0)] [] := by first | (simp [entryFrame, mkF, argsToLocals, Value.category]; done) | rfl
theorem ef_0 (m : MethodId) (x0 : Int32) (x1 : Int32) : entryFrame m #[(.int x0), (.int x1)] maxLocals = mkF m 0 #[.val (.int x0), .val (.int x1), .unset, .unset, .unset, .unset, .unset] [] := by first | (simp [entryFrame, mkF, argsToLocals, Value.category, maxLocals]; done) | rfl
def own_L (c : Int32) : Bool := decide (c = (36 : Int32)) || decide (c = (162 : Int32)) || decide (c = (163 : Int32)) || decide (c = (164 : Int32)) || decide (c = (165 : Int32)) || decide (c = (2546 : Int32)) || decide (c = (2547 : Int32)) || decide (c = (3647 : Int32)) || decide (c = (6107 : Int32)) || decide (c = (65020 : Int32)) || decide (c = (65129 : Int32)) || decide (c = (65284 : Int32)) || decide (c = (65504 : Int32)) || decide (c = (65505 : Int32)) || decide (c = (65509 : Int32)) || decide (c = (65510 : Int32))
def own_l (c : Int32) : Int32 := if own_L c = true then 1 else 0
def own_s (c : Int32) : Int32 := if own_L c = true then 1 else if c < 8352 then 0 else if 8369 < c then 0 else 1
def own_vs : List Value := [(.int (36 : Int32)), (.int (162 : Int32)), (.int (163 : Int32)), (.int (164 : Int32)), (.int (165 : Int32)), (.int (2546 : Int32)), (.int (2547 : Int32)), (.int (3647 : Int32)), (.int (6107 : Int32)), (.int (65020 : Int32)), (.int (65129 : Int32)), (.int (65284 : Int32)), (.int (65504 : Int32)), (.int (65505 : Int32)), (.int (65509 : Int32)), (.int (65510 : Int32))]
def Q_rm_l (Z : State) (b1 : Addr) (p1 : Int32)  (h0 : Heap) (n0 : Nat) (v : Option Value) (h : Heap) (L : List Loc) : Prop := (v = some (.int (own_l p1)) ∧ Fr n0 L ∧ h = h0)
set_option maxRecDepth 65536 in
set_option maxHeartbeats 40000000 in
theorem rm_l (l : Launch) (Z : State) (a0 : Array Value) (hw : ∀ d ∈ tables_1, d.before a0 Z = true) (ws : List Jvm.Cond) (b1 : Addr) (p1 : Int32) (h0 : Heap) (n0 : Nat) (kk : ClassId) (V0 : Arv Z h0 b1 kk .char (16 : Int32) own_vs (.int (0 : Int32))) :
    MetFree l (⟨"com/example/castwright/castwright/CurrencySignIsCurrencySymbolPinLaw", "isListed", "([CC)Z"⟩ : MethodName) (head1 (Jvm.Cond.code (⟨"com/example/castwright/castwright/CurrencySignIsCurrencySymbolPinLaw", "isListed", "([CC)Z"⟩ : MethodName) method_3_code 2 (some .boolean) :: ws) ({ frames := 0, cells := 0, slots := 0, locals := 0 } : Room)) (fun a U => a = #[(.ref b1), (.int p1)] ∧ Z.Warmed39 U.vm ∧ U.heap = h0) (fun _ _ _ _ _ => True) (fun _ U o U' => ∃ v L, o = .returned v ∧ Q_rm_l Z b1 p1 h0 n0 v U'.heap L ∧ FrameEnd U o U' L ({ frames := 0, cells := 0, slots := 0, locals := 0 } : Room).cells ({ frames := 0, cells := 0, slots := 0, locals := 0 } : Room).slots) := by
  refine MetFree.of_bodySF (plainFor_of_name pn_0) hisR ?_
  intro p e s m args below meth c s₁ Bd hml0 hP hK
  obtain ⟨rfl, hZ, hh⟩ := hP
  have hx := Bd.exec
  have hby := Bd.bytes
  have hml : c.maxLocals = 2 := hml0
  have hown : s.vm.findClass "com/example/castwright/castwright/CurrencySignIsCurrencySymbolPinLaw" = some m.cls := findClass_of_methodNamed Bd.named
  have hnm := (name_of_methodNamed Bd.named Bd.method).1
  have X0 : Stand p l e ({ frames := 0, cells := 0, slots := 0, locals := 0 } : Room) s m #[(.ref b1), (.int p1)] below meth c s₁ [] 0 0 := Stand.of_body Bd
  have e0 : s₁.heap = h0 := by rw [← hh, Bd.state]; rfl
  have N0 := Fr.nil n0
  have pre0 : ∀ t, Steps p.tables e below (s₁.setTop (mkF m 0 #[.val (.ref b1), .val (.int p1)] [])) t → Steps p.tables e below (s₁.setTop (entryFrame m #[(.ref b1), (.int p1)] 2)) t := fun t k => castTop (ef_l m b1 p1) k
  obtain ⟨fs, hr, hrun, hended, hW, hsame⟩ := X0.leave (v := some (.int (own_l p1))) (fun h => by rw [Bd.returns] at h; cases h)
  refine ⟨_, _, pre0 _ ?_, hrun, hended, _, _, rfl, ⟨rfl, N0, e0⟩, ⟨_, rfl⟩, hW, hsame.mono (by decide) (by decide)⟩
  obtain ⟨cl, Ar, qc, Sc, Nc, Hc, Gc⟩ := V0
  show Steps p.tables e below (s₁.setTop (mkF m 0 #[.val (.ref b1), .val (.int p1)] [])) _
  refine XS.iloadN X0.here hx rfl (hb hby d_isListed_0) rfl ?_
  show Steps p.tables e below (s₁.setTop (mkF m 1 #[.val (.ref b1), .val (.int p1)] [(.int p1)])) _
  refine XS.aloadN X0.here hx rfl (hb hby d_isListed_1) rfl rfl ?_
  show Steps p.tables e below (s₁.setTop (mkF m 2 #[.val (.ref b1), .val (.int p1)] [(.ref b1), (.int p1)])) _
  refine XS.iconst X0.here hx rfl (hb hby d_isListed_2) ?_
  show Steps p.tables e below (s₁.setTop (mkF m 3 #[.val (.ref b1), .val (.int p1)] [(.int (0 : Int32)), (.ref b1), (.int p1)])) _
  refine X0.caload hx (j := (0 : Int32)) (v := (.int (36 : Int32))) (by rw [e0]; exact Ar.1) (State.isArrayOf_alike hZ.alike Ar.2.1) Ar.2.2 (inb_of Sc ⟨by decide, by decide⟩) (Hc.at (inb_of Sc ⟨by decide, by decide⟩) (show own_vs.getD _ _ = _ from rfl)) (g := (mkF m 3 #[.val (.ref b1), .val (.int p1)] [(.int (0 : Int32)), (.ref b1), (.int p1)])) rfl rfl (hb hby d_isListed_3) _ ?_
  by_cases hc4 : p1 = (36 : Int32)
  · show Steps p.tables e below (s₁.setTop (mkF m 4 #[.val (.ref b1), .val (.int p1)] [(.int (36 : Int32)), (.int p1)])) _
    refine XS.icmpYes X0.here hx rfl (pc0 := 4) (pc' := 122) rfl (hb hby d_isListed_4) rfl (teq hc4).1 (by decide) (by decide) ?_
    show Steps p.tables e below (s₁.setTop (mkF m 122 #[.val (.ref b1), .val (.int p1)] [])) _
    refine XS.iconst X0.here hx rfl (hb hby d_isListed_122) ?_
    show Steps p.tables e below (s₁.setTop (mkF m 123 #[.val (.ref b1), .val (.int p1)] [(.int (1 : Int32))])) _
    refine XS.goto X0.here hx rfl (pc0 := 123) (pc' := 127) rfl (hb hby d_isListed_123) (by decide) (by decide) ?_
    show Steps p.tables e below (s₁.setTop (mkF m 127 #[.val (.ref b1), .val (.int p1)] [(.int (1 : Int32))])) _
    have hv : own_l p1 = (1 : Int32) := by
      have hL : own_L p1 = true := by simp only [own_L, Bool.or_eq_true, Bool.and_eq_true, decide_eq_true_eq, Bool.and_eq_false_iff, Bool.or_eq_false_iff, decide_eq_false_iff_not]; simp only [*, true_or, or_true]
      simp only [own_l, hL]; rfl
    rw [hv] at hr
    exact retN X0 hx (t := .boolean) Bd.returns (by simp) (hb hby d_isListed_127) hr
  · show Steps p.tables e below (s₁.setTop (mkF m 4 #[.val (.ref b1), .val (.int p1)] [(.int (36 : Int32)), (.int p1)])) _
    refine XS.icmpNo X0.here hx rfl (hb hby d_isListed_4) rfl (feq hc4).1 ?_
    show Steps p.tables e below (s₁.setTop (mkF m 7 #[.val (.ref b1), .val (.int p1)] [])) _
    refine XS.iloadN X0.here hx rfl (hb hby d_isListed_7) rfl ?_
    show Steps p.tables e below (s₁.setTop (mkF m 8 #[.val (.ref b1), .val (.int p1)] [(.int p1)])) _
    refine XS.aloadN X0.here hx rfl (hb hby d_isListed_8) rfl rfl ?_
    show Steps p.tables e below (s₁.setTop (mkF m 9 #[.val (.ref b1), .val (.int p1)] [(.ref b1), (.int p1)])) _
    refine XS.iconst X0.here hx rfl (hb hby d_isListed_9) ?_
    show Steps p.tables e below (s₁.setTop (mkF m 10 #[.val (.ref b1), .val (.int p1)] [(.int (1 : Int32)), (.ref b1), (.int p1)])) _
    refine X0.caload hx (j := (1 : Int32)) (v := (.int (162 : Int32))) (by rw [e0]; exact Ar.1) (State.isArrayOf_alike hZ.alike Ar.2.1) Ar.2.2 (inb_of Sc ⟨by decide, by decide⟩) (Hc.at (inb_of Sc ⟨by decide, by decide⟩) (show own_vs.getD _ _ = _ from rfl)) (g := (mkF m 10 #[.val (.ref b1), .val (.int p1)] [(.int (1 : Int32)), (.ref b1), (.int p1)])) rfl rfl (hb hby d_isListed_10) _ ?_
    by_cases hc11 : p1 = (162 : Int32)
    · show Steps p.tables e below (s₁.setTop (mkF m 11 #[.val (.ref b1), .val (.int p1)] [(.int (162 : Int32)), (.int p1)])) _
      refine XS.icmpYes X0.here hx rfl (pc0 := 11) (pc' := 122) rfl (hb hby d_isListed_11) rfl (teq hc11).1 (by decide) (by decide) ?_
      show Steps p.tables e below (s₁.setTop (mkF m 122 #[.val (.ref b1), .val (.int p1)] [])) _
      refine XS.iconst X0.here hx rfl (hb hby d_isListed_122) ?_
      show Steps p.tables e below (s₁.setTop (mkF m 123 #[.val (.ref b1), .val (.int p1)] [(.int (1 : Int32))])) _
      refine XS.goto X0.here hx rfl (pc0 := 123) (pc' := 127) rfl (hb hby d_isListed_123) (by decide) (by decide) ?_
      show Steps p.tables e below (s₁.setTop (mkF m 127 #[.val (.ref b1), .val (.int p1)] [(.int (1 : Int32))])) _
      have hv : own_l p1 = (1 : Int32) := by
        have hL : own_L p1 = true := by simp only [own_L, Bool.or_eq_true, Bool.and_eq_true, decide_eq_true_eq, Bool.and_eq_false_iff, Bool.or_eq_false_iff, decide_eq_false_iff_not]; simp only [*, true_or, or_true]
        simp only [own_l, hL]; rfl
      rw [hv] at hr
      exact retN X0 hx (t := .boolean) Bd.returns (by simp) (hb hby d_isListed_127) hr
    · show Steps p.tables e below (s₁.setTop (mkF m 11 #[.val (.ref b1), .val (.int p1)] [(.int (162 : Int32)), (.int p1)])) _
      refine XS.icmpNo X0.here hx rfl (hb hby d_isListed_11) rfl (feq hc11).1 ?_
      show Steps p.tables e below (s₁.setTop (mkF m 14 #[.val (.ref b1), .val (.int p1)] [])) _
      refine XS.iloadN X0.here hx rfl (hb hby d_isListed_14) rfl ?_
      show Steps p.tables e below (s₁.setTop (mkF m 15 #[.val (.ref b1), .val (.int p1)] [(.int p1)])) _
      refine XS.aloadN X0.here hx rfl (hb hby d_isListed_15) rfl rfl ?_
      show Steps p.tables e below (s₁.setTop (mkF m 16 #[.val (.ref b1), .val (.int p1)] [(.ref b1), (.int p1)])) _
      refine XS.iconst X0.here hx rfl (hb hby d_isListed_16) ?_
      show Steps p.tables e below (s₁.setTop (mkF m 17 #[.val (.ref b1), .val (.int p1)] [(.int (2 : Int32)), (.ref b1), (.int p1)])) _
      refine X0.caload hx (j := (2 : Int32)) (v := (.int (163 : Int32))) (by rw [e0]; exact Ar.1) (State.isArrayOf_alike hZ.alike Ar.2.1) Ar.2.2 (inb_of Sc ⟨by decide, by decide⟩) (Hc.at (inb_of Sc ⟨by decide, by decide⟩) (show own_vs.getD _ _ = _ from rfl)) (g := (mkF m 17 #[.val (.ref b1), .val (.int p1)] [(.int (2 : Int32)), (.ref b1), (.int p1)])) rfl rfl (hb hby d_isListed_17) _ ?_
      by_cases hc18 : p1 = (163 : Int32)
      · show Steps p.tables e below (s₁.setTop (mkF m 18 #[.val (.ref b1), .val (.int p1)] [(.int (163 : Int32)), (.int p1)])) _
        refine XS.icmpYes X0.here hx rfl (pc0 := 18) (pc' := 122) rfl (hb hby d_isListed_18) rfl (teq hc18).1 (by decide) (by decide) ?_
        show Steps p.tables e below (s₁.setTop (mkF m 122 #[.val (.ref b1), .val (.int p1)] [])) _
        refine XS.iconst X0.here hx rfl (hb hby d_isListed_122) ?_
        show Steps p.tables e below (s₁.setTop (mkF m 123 #[.val (.ref b1), .val (.int p1)] [(.int (1 : Int32))])) _
        refine XS.goto X0.here hx rfl (pc0 := 123) (pc' := 127) rfl (hb hby d_isListed_123) (by decide) (by decide) ?_
        show Steps p.tables e below (s₁.setTop (mkF m 127 #[.val (.ref b1), .val (.int p1)] [(.int (1 : Int32))])) _
        have hv : own_l p1 = (1 : Int32) := by
          have hL : own_L p1 = true := by simp only [own_L, Bool.or_eq_true, Bool.and_eq_true, decide_eq_true_eq, Bool.and_eq_false_iff, Bool.or_eq_false_iff, decide_eq_false_iff_not]; simp only [*, true_or, or_true]
          simp only [own_l, hL]; rfl
        rw [hv] at hr
        exact retN X0 hx (t := .boolean) Bd.returns (by simp) (hb hby d_isListed_127) hr
      · show Steps p.tables e below (s₁.setTop (mkF m 18 #[.val (.ref b1), .val (.int p1)] [(.int (163 : Int32)), (.int p1)])) _
        refine XS.icmpNo X0.here hx rfl (hb hby d_isListed_18) rfl (feq hc18).1 ?_
        show Steps p.tables e below (s₁.setTop (mkF m 21 #[.val (.ref b1), .val (.int p1)] [])) _
        refine XS.iloadN X0.here hx rfl (hb hby d_isListed_21) rfl ?_
        show Steps p.tables e below (s₁.setTop (mkF m 22 #[.val (.ref b1), .val (.int p1)] [(.int p1)])) _
        refine XS.aloadN X0.here hx rfl (hb hby d_isListed_22) rfl rfl ?_
        show Steps p.tables e below (s₁.setTop (mkF m 23 #[.val (.ref b1), .val (.int p1)] [(.ref b1), (.int p1)])) _
        refine XS.iconst X0.here hx rfl (hb hby d_isListed_23) ?_
        show Steps p.tables e below (s₁.setTop (mkF m 24 #[.val (.ref b1), .val (.int p1)] [(.int (3 : Int32)), (.ref b1), (.int p1)])) _
        refine X0.caload hx (j := (3 : Int32)) (v := (.int (164 : Int32))) (by rw [e0]; exact Ar.1) (State.isArrayOf_alike hZ.alike Ar.2.1) Ar.2.2 (inb_of Sc ⟨by decide, by decide⟩) (Hc.at (inb_of Sc ⟨by decide, by decide⟩) (show own_vs.getD _ _ = _ from rfl)) (g := (mkF m 24 #[.val (.ref b1), .val (.int p1)] [(.int (3 : Int32)), (.ref b1), (.int p1)])) rfl rfl (hb hby d_isListed_24) _ ?_
        by_cases hc25 : p1 = (164 : Int32)
        · show Steps p.tables e below (s₁.setTop (mkF m 25 #[.val (.ref b1), .val (.int p1)] [(.int (164 : Int32)), (.int p1)])) _
          refine XS.icmpYes X0.here hx rfl (pc0 := 25) (pc' := 122) rfl (hb hby d_isListed_25) rfl (teq hc25).1 (by decide) (by decide) ?_
          show Steps p.tables e below (s₁.setTop (mkF m 122 #[.val (.ref b1), .val (.int p1)] [])) _
          refine XS.iconst X0.here hx rfl (hb hby d_isListed_122) ?_
          show Steps p.tables e below (s₁.setTop (mkF m 123 #[.val (.ref b1), .val (.int p1)] [(.int (1 : Int32))])) _
          refine XS.goto X0.here hx rfl (pc0 := 123) (pc' := 127) rfl (hb hby d_isListed_123) (by decide) (by decide) ?_
          show Steps p.tables e below (s₁.setTop (mkF m 127 #[.val (.ref b1), .val (.int p1)] [(.int (1 : Int32))])) _
          have hv : own_l p1 = (1 : Int32) := by
            have hL : own_L p1 = true := by simp only [own_L, Bool.or_eq_true, Bool.and_eq_true, decide_eq_true_eq, Bool.and_eq_false_iff, Bool.or_eq_false_iff, decide_eq_false_iff_not]; simp only [*, true_or, or_true]
            simp only [own_l, hL]; rfl
          rw [hv] at hr
          exact retN X0 hx (t := .boolean) Bd.returns (by simp) (hb hby d_isListed_127) hr
        · show Steps p.tables e below (s₁.setTop (mkF m 25 #[.val (.ref b1), .val (.int p1)] [(.int (164 : Int32)), (.int p1)])) _
          refine XS.icmpNo X0.here hx rfl (hb hby d_isListed_25) rfl (feq hc25).1 ?_
          show Steps p.tables e below (s₁.setTop (mkF m 28 #[.val (.ref b1), .val (.int p1)] [])) _
          refine XS.iloadN X0.here hx rfl (hb hby d_isListed_28) rfl ?_
          show Steps p.tables e below (s₁.setTop (mkF m 29 #[.val (.ref b1), .val (.int p1)] [(.int p1)])) _
          refine XS.aloadN X0.here hx rfl (hb hby d_isListed_29) rfl rfl ?_
          show Steps p.tables e below (s₁.setTop (mkF m 30 #[.val (.ref b1), .val (.int p1)] [(.ref b1), (.int p1)])) _
          refine XS.iconst X0.here hx rfl (hb hby d_isListed_30) ?_
          show Steps p.tables e below (s₁.setTop (mkF m 31 #[.val (.ref b1), .val (.int p1)] [(.int (4 : Int32)), (.ref b1), (.int p1)])) _
          refine X0.caload hx (j := (4 : Int32)) (v := (.int (165 : Int32))) (by rw [e0]; exact Ar.1) (State.isArrayOf_alike hZ.alike Ar.2.1) Ar.2.2 (inb_of Sc ⟨by decide, by decide⟩) (Hc.at (inb_of Sc ⟨by decide, by decide⟩) (show own_vs.getD _ _ = _ from rfl)) (g := (mkF m 31 #[.val (.ref b1), .val (.int p1)] [(.int (4 : Int32)), (.ref b1), (.int p1)])) rfl rfl (hb hby d_isListed_31) _ ?_
          by_cases hc32 : p1 = (165 : Int32)
          · show Steps p.tables e below (s₁.setTop (mkF m 32 #[.val (.ref b1), .val (.int p1)] [(.int (165 : Int32)), (.int p1)])) _
            refine XS.icmpYes X0.here hx rfl (pc0 := 32) (pc' := 122) rfl (hb hby d_isListed_32) rfl (teq hc32).1 (by decide) (by decide) ?_
            show Steps p.tables e below (s₁.setTop (mkF m 122 #[.val (.ref b1), .val (.int p1)] [])) _
            refine XS.iconst X0.here hx rfl (hb hby d_isListed_122) ?_
            show Steps p.tables e below (s₁.setTop (mkF m 123 #[.val (.ref b1), .val (.int p1)] [(.int (1 : Int32))])) _
            refine XS.goto X0.here hx rfl (pc0 := 123) (pc' := 127) rfl (hb hby d_isListed_123) (by decide) (by decide) ?_
            show Steps p.tables e below (s₁.setTop (mkF m 127 #[.val (.ref b1), .val (.int p1)] [(.int (1 : Int32))])) _
            have hv : own_l p1 = (1 : Int32) := by
              have hL : own_L p1 = true := by simp only [own_L, Bool.or_eq_true, Bool.and_eq_true, decide_eq_true_eq, Bool.and_eq_false_iff, Bool.or_eq_false_iff, decide_eq_false_iff_not]; simp only [*, true_or, or_true]
              simp only [own_l, hL]; rfl
            rw [hv] at hr
            exact retN X0 hx (t := .boolean) Bd.returns (by simp) (hb hby d_isListed_127) hr
          · show Steps p.tables e below (s₁.setTop (mkF m 32 #[.val (.ref b1), .val (.int p1)] [(.int (165 : Int32)), (.int p1)])) _
            refine XS.icmpNo X0.here hx rfl (hb hby d_isListed_32) rfl (feq hc32).1 ?_
            show Steps p.tables e below (s₁.setTop (mkF m 35 #[.val (.ref b1), .val (.int p1)] [])) _
            refine XS.iloadN X0.here hx rfl (hb hby d_isListed_35) rfl ?_
            show Steps p.tables e below (s₁.setTop (mkF m 36 #[.val (.ref b1), .val (.int p1)] [(.int p1)])) _
            refine XS.aloadN X0.here hx rfl (hb hby d_isListed_36) rfl rfl ?_
            show Steps p.tables e below (s₁.setTop (mkF m 37 #[.val (.ref b1), .val (.int p1)] [(.ref b1), (.int p1)])) _
            refine XS.iconst X0.here hx rfl (hb hby d_isListed_37) ?_
            show Steps p.tables e below (s₁.setTop (mkF m 38 #[.val (.ref b1), .val (.int p1)] [(.int (5 : Int32)), (.ref b1), (.int p1)])) _
            refine X0.caload hx (j := (5 : Int32)) (v := (.int (2546 : Int32))) (by rw [e0]; exact Ar.1) (State.isArrayOf_alike hZ.alike Ar.2.1) Ar.2.2 (inb_of Sc ⟨by decide, by decide⟩) (Hc.at (inb_of Sc ⟨by decide, by decide⟩) (show own_vs.getD _ _ = _ from rfl)) (g := (mkF m 38 #[.val (.ref b1), .val (.int p1)] [(.int (5 : Int32)), (.ref b1), (.int p1)])) rfl rfl (hb hby d_isListed_38) _ ?_
            by_cases hc39 : p1 = (2546 : Int32)
            · show Steps p.tables e below (s₁.setTop (mkF m 39 #[.val (.ref b1), .val (.int p1)] [(.int (2546 : Int32)), (.int p1)])) _
              refine XS.icmpYes X0.here hx rfl (pc0 := 39) (pc' := 122) rfl (hb hby d_isListed_39) rfl (teq hc39).1 (by decide) (by decide) ?_
              show Steps p.tables e below (s₁.setTop (mkF m 122 #[.val (.ref b1), .val (.int p1)] [])) _
              refine XS.iconst X0.here hx rfl (hb hby d_isListed_122) ?_
              show Steps p.tables e below (s₁.setTop (mkF m 123 #[.val (.ref b1), .val (.int p1)] [(.int (1 : Int32))])) _
              refine XS.goto X0.here hx rfl (pc0 := 123) (pc' := 127) rfl (hb hby d_isListed_123) (by decide) (by decide) ?_
              show Steps p.tables e below (s₁.setTop (mkF m 127 #[.val (.ref b1), .val (.int p1)] [(.int (1 : Int32))])) _
              have hv : own_l p1 = (1 : Int32) := by
                have hL : own_L p1 = true := by simp only [own_L, Bool.or_eq_true, Bool.and_eq_true, decide_eq_true_eq, Bool.and_eq_false_iff, Bool.or_eq_false_iff, decide_eq_false_iff_not]; simp only [*, true_or, or_true]
                simp only [own_l, hL]; rfl
              rw [hv] at hr
              exact retN X0 hx (t := .boolean) Bd.returns (by simp) (hb hby d_isListed_127) hr
            · show Steps p.tables e below (s₁.setTop (mkF m 39 #[.val (.ref b1), .val (.int p1)] [(.int (2546 : Int32)), (.int p1)])) _
              refine XS.icmpNo X0.here hx rfl (hb hby d_isListed_39) rfl (feq hc39).1 ?_
              show Steps p.tables e below (s₁.setTop (mkF m 42 #[.val (.ref b1), .val (.int p1)] [])) _
              refine XS.iloadN X0.here hx rfl (hb hby d_isListed_42) rfl ?_
              show Steps p.tables e below (s₁.setTop (mkF m 43 #[.val (.ref b1), .val (.int p1)] [(.int p1)])) _
              refine XS.aloadN X0.here hx rfl (hb hby d_isListed_43) rfl rfl ?_
              show Steps p.tables e below (s₁.setTop (mkF m 44 #[.val (.ref b1), .val (.int p1)] [(.ref b1), (.int p1)])) _
              refine XS.bipush X0.here hx rfl (hb hby d_isListed_44) ?_
              show Steps p.tables e below (s₁.setTop (mkF m 46 #[.val (.ref b1), .val (.int p1)] [(.int (6 : Int32)), (.ref b1), (.int p1)])) _
              refine X0.caload hx (j := (6 : Int32)) (v := (.int (2547 : Int32))) (by rw [e0]; exact Ar.1) (State.isArrayOf_alike hZ.alike Ar.2.1) Ar.2.2 (inb_of Sc ⟨by decide, by decide⟩) (Hc.at (inb_of Sc ⟨by decide, by decide⟩) (show own_vs.getD _ _ = _ from rfl)) (g := (mkF m 46 #[.val (.ref b1), .val (.int p1)] [(.int (6 : Int32)), (.ref b1), (.int p1)])) rfl rfl (hb hby d_isListed_46) _ ?_
              by_cases hc47 : p1 = (2547 : Int32)
              · show Steps p.tables e below (s₁.setTop (mkF m 47 #[.val (.ref b1), .val (.int p1)] [(.int (2547 : Int32)), (.int p1)])) _
                refine XS.icmpYes X0.here hx rfl (pc0 := 47) (pc' := 122) rfl (hb hby d_isListed_47) rfl (teq hc47).1 (by decide) (by decide) ?_
                show Steps p.tables e below (s₁.setTop (mkF m 122 #[.val (.ref b1), .val (.int p1)] [])) _
                refine XS.iconst X0.here hx rfl (hb hby d_isListed_122) ?_
                show Steps p.tables e below (s₁.setTop (mkF m 123 #[.val (.ref b1), .val (.int p1)] [(.int (1 : Int32))])) _
                refine XS.goto X0.here hx rfl (pc0 := 123) (pc' := 127) rfl (hb hby d_isListed_123) (by decide) (by decide) ?_
                show Steps p.tables e below (s₁.setTop (mkF m 127 #[.val (.ref b1), .val (.int p1)] [(.int (1 : Int32))])) _
                have hv : own_l p1 = (1 : Int32) := by
                  have hL : own_L p1 = true := by simp only [own_L, Bool.or_eq_true, Bool.and_eq_true, decide_eq_true_eq, Bool.and_eq_false_iff, Bool.or_eq_false_iff, decide_eq_false_iff_not]; simp only [*, true_or, or_true]
                  simp only [own_l, hL]; rfl
                rw [hv] at hr
                exact retN X0 hx (t := .boolean) Bd.returns (by simp) (hb hby d_isListed_127) hr
              · show Steps p.tables e below (s₁.setTop (mkF m 47 #[.val (.ref b1), .val (.int p1)] [(.int (2547 : Int32)), (.int p1)])) _
                refine XS.icmpNo X0.here hx rfl (hb hby d_isListed_47) rfl (feq hc47).1 ?_
                show Steps p.tables e below (s₁.setTop (mkF m 50 #[.val (.ref b1), .val (.int p1)] [])) _
                refine XS.iloadN X0.here hx rfl (hb hby d_isListed_50) rfl ?_
                show Steps p.tables e below (s₁.setTop (mkF m 51 #[.val (.ref b1), .val (.int p1)] [(.int p1)])) _
                refine XS.aloadN X0.here hx rfl (hb hby d_isListed_51) rfl rfl ?_
                show Steps p.tables e below (s₁.setTop (mkF m 52 #[.val (.ref b1), .val (.int p1)] [(.ref b1), (.int p1)])) _
                refine XS.bipush X0.here hx rfl (hb hby d_isListed_52) ?_
                show Steps p.tables e below (s₁.setTop (mkF m 54 #[.val (.ref b1), .val (.int p1)] [(.int (7 : Int32)), (.ref b1), (.int p1)])) _
                refine X0.caload hx (j := (7 : Int32)) (v := (.int (3647 : Int32))) (by rw [e0]; exact Ar.1) (State.isArrayOf_alike hZ.alike Ar.2.1) Ar.2.2 (inb_of Sc ⟨by decide, by decide⟩) (Hc.at (inb_of Sc ⟨by decide, by decide⟩) (show own_vs.getD _ _ = _ from rfl)) (g := (mkF m 54 #[.val (.ref b1), .val (.int p1)] [(.int (7 : Int32)), (.ref b1), (.int p1)])) rfl rfl (hb hby d_isListed_54) _ ?_
                by_cases hc55 : p1 = (3647 : Int32)
                · show Steps p.tables e below (s₁.setTop (mkF m 55 #[.val (.ref b1), .val (.int p1)] [(.int (3647 : Int32)), (.int p1)])) _
                  refine XS.icmpYes X0.here hx rfl (pc0 := 55) (pc' := 122) rfl (hb hby d_isListed_55) rfl (teq hc55).1 (by decide) (by decide) ?_
                  show Steps p.tables e below (s₁.setTop (mkF m 122 #[.val (.ref b1), .val (.int p1)] [])) _
                  refine XS.iconst X0.here hx rfl (hb hby d_isListed_122) ?_
                  show Steps p.tables e below (s₁.setTop (mkF m 123 #[.val (.ref b1), .val (.int p1)] [(.int (1 : Int32))])) _
                  refine XS.goto X0.here hx rfl (pc0 := 123) (pc' := 127) rfl (hb hby d_isListed_123) (by decide) (by decide) ?_
                  show Steps p.tables e below (s₁.setTop (mkF m 127 #[.val (.ref b1), .val (.int p1)] [(.int (1 : Int32))])) _
                  have hv : own_l p1 = (1 : Int32) := by
                    have hL : own_L p1 = true := by simp only [own_L, Bool.or_eq_true, Bool.and_eq_true, decide_eq_true_eq, Bool.and_eq_false_iff, Bool.or_eq_false_iff, decide_eq_false_iff_not]; simp only [*, true_or, or_true]
                    simp only [own_l, hL]; rfl
                  rw [hv] at hr
                  exact retN X0 hx (t := .boolean) Bd.returns (by simp) (hb hby d_isListed_127) hr
                · show Steps p.tables e below (s₁.setTop (mkF m 55 #[.val (.ref b1), .val (.int p1)] [(.int (3647 : Int32)), (.int p1)])) _
                  refine XS.icmpNo X0.here hx rfl (hb hby d_isListed_55) rfl (feq hc55).1 ?_
                  show Steps p.tables e below (s₁.setTop (mkF m 58 #[.val (.ref b1), .val (.int p1)] [])) _
                  refine XS.iloadN X0.here hx rfl (hb hby d_isListed_58) rfl ?_
                  show Steps p.tables e below (s₁.setTop (mkF m 59 #[.val (.ref b1), .val (.int p1)] [(.int p1)])) _
                  refine XS.aloadN X0.here hx rfl (hb hby d_isListed_59) rfl rfl ?_
                  show Steps p.tables e below (s₁.setTop (mkF m 60 #[.val (.ref b1), .val (.int p1)] [(.ref b1), (.int p1)])) _
                  refine XS.bipush X0.here hx rfl (hb hby d_isListed_60) ?_
                  show Steps p.tables e below (s₁.setTop (mkF m 62 #[.val (.ref b1), .val (.int p1)] [(.int (8 : Int32)), (.ref b1), (.int p1)])) _
                  refine X0.caload hx (j := (8 : Int32)) (v := (.int (6107 : Int32))) (by rw [e0]; exact Ar.1) (State.isArrayOf_alike hZ.alike Ar.2.1) Ar.2.2 (inb_of Sc ⟨by decide, by decide⟩) (Hc.at (inb_of Sc ⟨by decide, by decide⟩) (show own_vs.getD _ _ = _ from rfl)) (g := (mkF m 62 #[.val (.ref b1), .val (.int p1)] [(.int (8 : Int32)), (.ref b1), (.int p1)])) rfl rfl (hb hby d_isListed_62) _ ?_
                  by_cases hc63 : p1 = (6107 : Int32)
                  · show Steps p.tables e below (s₁.setTop (mkF m 63 #[.val (.ref b1), .val (.int p1)] [(.int (6107 : Int32)), (.int p1)])) _
                    refine XS.icmpYes X0.here hx rfl (pc0 := 63) (pc' := 122) rfl (hb hby d_isListed_63) rfl (teq hc63).1 (by decide) (by decide) ?_
                    show Steps p.tables e below (s₁.setTop (mkF m 122 #[.val (.ref b1), .val (.int p1)] [])) _
                    refine XS.iconst X0.here hx rfl (hb hby d_isListed_122) ?_
                    show Steps p.tables e below (s₁.setTop (mkF m 123 #[.val (.ref b1), .val (.int p1)] [(.int (1 : Int32))])) _
                    refine XS.goto X0.here hx rfl (pc0 := 123) (pc' := 127) rfl (hb hby d_isListed_123) (by decide) (by decide) ?_
                    show Steps p.tables e below (s₁.setTop (mkF m 127 #[.val (.ref b1), .val (.int p1)] [(.int (1 : Int32))])) _
                    have hv : own_l p1 = (1 : Int32) := by
                      have hL : own_L p1 = true := by simp only [own_L, Bool.or_eq_true, Bool.and_eq_true, decide_eq_true_eq, Bool.and_eq_false_iff, Bool.or_eq_false_iff, decide_eq_false_iff_not]; simp only [*, true_or, or_true]
                      simp only [own_l, hL]; rfl
                    rw [hv] at hr
                    exact retN X0 hx (t := .boolean) Bd.returns (by simp) (hb hby d_isListed_127) hr
                  · show Steps p.tables e below (s₁.setTop (mkF m 63 #[.val (.ref b1), .val (.int p1)] [(.int (6107 : Int32)), (.int p1)])) _
                    refine XS.icmpNo X0.here hx rfl (hb hby d_isListed_63) rfl (feq hc63).1 ?_
                    show Steps p.tables e below (s₁.setTop (mkF m 66 #[.val (.ref b1), .val (.int p1)] [])) _
                    refine XS.iloadN X0.here hx rfl (hb hby d_isListed_66) rfl ?_
                    show Steps p.tables e below (s₁.setTop (mkF m 67 #[.val (.ref b1), .val (.int p1)] [(.int p1)])) _
                    refine XS.aloadN X0.here hx rfl (hb hby d_isListed_67) rfl rfl ?_
                    show Steps p.tables e below (s₁.setTop (mkF m 68 #[.val (.ref b1), .val (.int p1)] [(.ref b1), (.int p1)])) _
                    refine XS.bipush X0.here hx rfl (hb hby d_isListed_68) ?_
                    show Steps p.tables e below (s₁.setTop (mkF m 70 #[.val (.ref b1), .val (.int p1)] [(.int (9 : Int32)), (.ref b1), (.int p1)])) _
                    refine X0.caload hx (j := (9 : Int32)) (v := (.int (65020 : Int32))) (by rw [e0]; exact Ar.1) (State.isArrayOf_alike hZ.alike Ar.2.1) Ar.2.2 (inb_of Sc ⟨by decide, by decide⟩) (Hc.at (inb_of Sc ⟨by decide, by decide⟩) (show own_vs.getD _ _ = _ from rfl)) (g := (mkF m 70 #[.val (.ref b1), .val (.int p1)] [(.int (9 : Int32)), (.ref b1), (.int p1)])) rfl rfl (hb hby d_isListed_70) _ ?_
                    by_cases hc71 : p1 = (65020 : Int32)
                    · show Steps p.tables e below (s₁.setTop (mkF m 71 #[.val (.ref b1), .val (.int p1)] [(.int (65020 : Int32)), (.int p1)])) _
                      refine XS.icmpYes X0.here hx rfl (pc0 := 71) (pc' := 122) rfl (hb hby d_isListed_71) rfl (teq hc71).1 (by decide) (by decide) ?_
                      show Steps p.tables e below (s₁.setTop (mkF m 122 #[.val (.ref b1), .val (.int p1)] [])) _
                      refine XS.iconst X0.here hx rfl (hb hby d_isListed_122) ?_
                      show Steps p.tables e below (s₁.setTop (mkF m 123 #[.val (.ref b1), .val (.int p1)] [(.int (1 : Int32))])) _
                      refine XS.goto X0.here hx rfl (pc0 := 123) (pc' := 127) rfl (hb hby d_isListed_123) (by decide) (by decide) ?_
                      show Steps p.tables e below (s₁.setTop (mkF m 127 #[.val (.ref b1), .val (.int p1)] [(.int (1 : Int32))])) _
                      have hv : own_l p1 = (1 : Int32) := by
                        have hL : own_L p1 = true := by simp only [own_L, Bool.or_eq_true, Bool.and_eq_true, decide_eq_true_eq, Bool.and_eq_false_iff, Bool.or_eq_false_iff, decide_eq_false_iff_not]; simp only [*, true_or, or_true]
                        simp only [own_l, hL]; rfl
                      rw [hv] at hr
                      exact retN X0 hx (t := .boolean) Bd.returns (by simp) (hb hby d_isListed_127) hr
                    · show Steps p.tables e below (s₁.setTop (mkF m 71 #[.val (.ref b1), .val (.int p1)] [(.int (65020 : Int32)), (.int p1)])) _
                      refine XS.icmpNo X0.here hx rfl (hb hby d_isListed_71) rfl (feq hc71).1 ?_
                      show Steps p.tables e below (s₁.setTop (mkF m 74 #[.val (.ref b1), .val (.int p1)] [])) _
                      refine XS.iloadN X0.here hx rfl (hb hby d_isListed_74) rfl ?_
                      show Steps p.tables e below (s₁.setTop (mkF m 75 #[.val (.ref b1), .val (.int p1)] [(.int p1)])) _
                      refine XS.aloadN X0.here hx rfl (hb hby d_isListed_75) rfl rfl ?_
                      show Steps p.tables e below (s₁.setTop (mkF m 76 #[.val (.ref b1), .val (.int p1)] [(.ref b1), (.int p1)])) _
                      refine XS.bipush X0.here hx rfl (hb hby d_isListed_76) ?_
                      show Steps p.tables e below (s₁.setTop (mkF m 78 #[.val (.ref b1), .val (.int p1)] [(.int (10 : Int32)), (.ref b1), (.int p1)])) _
                      refine X0.caload hx (j := (10 : Int32)) (v := (.int (65129 : Int32))) (by rw [e0]; exact Ar.1) (State.isArrayOf_alike hZ.alike Ar.2.1) Ar.2.2 (inb_of Sc ⟨by decide, by decide⟩) (Hc.at (inb_of Sc ⟨by decide, by decide⟩) (show own_vs.getD _ _ = _ from rfl)) (g := (mkF m 78 #[.val (.ref b1), .val (.int p1)] [(.int (10 : Int32)), (.ref b1), (.int p1)])) rfl rfl (hb hby d_isListed_78) _ ?_
                      by_cases hc79 : p1 = (65129 : Int32)
                      · show Steps p.tables e below (s₁.setTop (mkF m 79 #[.val (.ref b1), .val (.int p1)] [(.int (65129 : Int32)), (.int p1)])) _
                        refine XS.icmpYes X0.here hx rfl (pc0 := 79) (pc' := 122) rfl (hb hby d_isListed_79) rfl (teq hc79).1 (by decide) (by decide) ?_
                        show Steps p.tables e below (s₁.setTop (mkF m 122 #[.val (.ref b1), .val (.int p1)] [])) _
                        refine XS.iconst X0.here hx rfl (hb hby d_isListed_122) ?_
                        show Steps p.tables e below (s₁.setTop (mkF m 123 #[.val (.ref b1), .val (.int p1)] [(.int (1 : Int32))])) _
                        refine XS.goto X0.here hx rfl (pc0 := 123) (pc' := 127) rfl (hb hby d_isListed_123) (by decide) (by decide) ?_
                        show Steps p.tables e below (s₁.setTop (mkF m 127 #[.val (.ref b1), .val (.int p1)] [(.int (1 : Int32))])) _
                        have hv : own_l p1 = (1 : Int32) := by
                          have hL : own_L p1 = true := by simp only [own_L, Bool.or_eq_true, Bool.and_eq_true, decide_eq_true_eq, Bool.and_eq_false_iff, Bool.or_eq_false_iff, decide_eq_false_iff_not]; simp only [*, true_or, or_true]
                          simp only [own_l, hL]; rfl
                        rw [hv] at hr
                        exact retN X0 hx (t := .boolean) Bd.returns (by simp) (hb hby d_isListed_127) hr
                      · show Steps p.tables e below (s₁.setTop (mkF m 79 #[.val (.ref b1), .val (.int p1)] [(.int (65129 : Int32)), (.int p1)])) _
                        refine XS.icmpNo X0.here hx rfl (hb hby d_isListed_79) rfl (feq hc79).1 ?_
                        show Steps p.tables e below (s₁.setTop (mkF m 82 #[.val (.ref b1), .val (.int p1)] [])) _
                        refine XS.iloadN X0.here hx rfl (hb hby d_isListed_82) rfl ?_
                        show Steps p.tables e below (s₁.setTop (mkF m 83 #[.val (.ref b1), .val (.int p1)] [(.int p1)])) _
                        refine XS.aloadN X0.here hx rfl (hb hby d_isListed_83) rfl rfl ?_
                        show Steps p.tables e below (s₁.setTop (mkF m 84 #[.val (.ref b1), .val (.int p1)] [(.ref b1), (.int p1)])) _
                        refine XS.bipush X0.here hx rfl (hb hby d_isListed_84) ?_
                        show Steps p.tables e below (s₁.setTop (mkF m 86 #[.val (.ref b1), .val (.int p1)] [(.int (11 : Int32)), (.ref b1), (.int p1)])) _
                        refine X0.caload hx (j := (11 : Int32)) (v := (.int (65284 : Int32))) (by rw [e0]; exact Ar.1) (State.isArrayOf_alike hZ.alike Ar.2.1) Ar.2.2 (inb_of Sc ⟨by decide, by decide⟩) (Hc.at (inb_of Sc ⟨by decide, by decide⟩) (show own_vs.getD _ _ = _ from rfl)) (g := (mkF m 86 #[.val (.ref b1), .val (.int p1)] [(.int (11 : Int32)), (.ref b1), (.int p1)])) rfl rfl (hb hby d_isListed_86) _ ?_
                        by_cases hc87 : p1 = (65284 : Int32)
                        · show Steps p.tables e below (s₁.setTop (mkF m 87 #[.val (.ref b1), .val (.int p1)] [(.int (65284 : Int32)), (.int p1)])) _
                          refine XS.icmpYes X0.here hx rfl (pc0 := 87) (pc' := 122) rfl (hb hby d_isListed_87) rfl (teq hc87).1 (by decide) (by decide) ?_
                          show Steps p.tables e below (s₁.setTop (mkF m 122 #[.val (.ref b1), .val (.int p1)] [])) _
                          refine XS.iconst X0.here hx rfl (hb hby d_isListed_122) ?_
                          show Steps p.tables e below (s₁.setTop (mkF m 123 #[.val (.ref b1), .val (.int p1)] [(.int (1 : Int32))])) _
                          refine XS.goto X0.here hx rfl (pc0 := 123) (pc' := 127) rfl (hb hby d_isListed_123) (by decide) (by decide) ?_
                          show Steps p.tables e below (s₁.setTop (mkF m 127 #[.val (.ref b1), .val (.int p1)] [(.int (1 : Int32))])) _
                          have hv : own_l p1 = (1 : Int32) := by
                            have hL : own_L p1 = true := by simp only [own_L, Bool.or_eq_true, Bool.and_eq_true, decide_eq_true_eq, Bool.and_eq_false_iff, Bool.or_eq_false_iff, decide_eq_false_iff_not]; simp only [*, true_or, or_true]
                            simp only [own_l, hL]; rfl
                          rw [hv] at hr
                          exact retN X0 hx (t := .boolean) Bd.returns (by simp) (hb hby d_isListed_127) hr
                        · show Steps p.tables e below (s₁.setTop (mkF m 87 #[.val (.ref b1), .val (.int p1)] [(.int (65284 : Int32)), (.int p1)])) _
                          refine XS.icmpNo X0.here hx rfl (hb hby d_isListed_87) rfl (feq hc87).1 ?_
                          show Steps p.tables e below (s₁.setTop (mkF m 90 #[.val (.ref b1), .val (.int p1)] [])) _
                          refine XS.iloadN X0.here hx rfl (hb hby d_isListed_90) rfl ?_
                          show Steps p.tables e below (s₁.setTop (mkF m 91 #[.val (.ref b1), .val (.int p1)] [(.int p1)])) _
                          refine XS.aloadN X0.here hx rfl (hb hby d_isListed_91) rfl rfl ?_
                          show Steps p.tables e below (s₁.setTop (mkF m 92 #[.val (.ref b1), .val (.int p1)] [(.ref b1), (.int p1)])) _
                          refine XS.bipush X0.here hx rfl (hb hby d_isListed_92) ?_
                          show Steps p.tables e below (s₁.setTop (mkF m 94 #[.val (.ref b1), .val (.int p1)] [(.int (12 : Int32)), (.ref b1), (.int p1)])) _
                          refine X0.caload hx (j := (12 : Int32)) (v := (.int (65504 : Int32))) (by rw [e0]; exact Ar.1) (State.isArrayOf_alike hZ.alike Ar.2.1) Ar.2.2 (inb_of Sc ⟨by decide, by decide⟩) (Hc.at (inb_of Sc ⟨by decide, by decide⟩) (show own_vs.getD _ _ = _ from rfl)) (g := (mkF m 94 #[.val (.ref b1), .val (.int p1)] [(.int (12 : Int32)), (.ref b1), (.int p1)])) rfl rfl (hb hby d_isListed_94) _ ?_
                          by_cases hc95 : p1 = (65504 : Int32)
                          · show Steps p.tables e below (s₁.setTop (mkF m 95 #[.val (.ref b1), .val (.int p1)] [(.int (65504 : Int32)), (.int p1)])) _
                            refine XS.icmpYes X0.here hx rfl (pc0 := 95) (pc' := 122) rfl (hb hby d_isListed_95) rfl (teq hc95).1 (by decide) (by decide) ?_
                            show Steps p.tables e below (s₁.setTop (mkF m 122 #[.val (.ref b1), .val (.int p1)] [])) _
                            refine XS.iconst X0.here hx rfl (hb hby d_isListed_122) ?_
                            show Steps p.tables e below (s₁.setTop (mkF m 123 #[.val (.ref b1), .val (.int p1)] [(.int (1 : Int32))])) _
                            refine XS.goto X0.here hx rfl (pc0 := 123) (pc' := 127) rfl (hb hby d_isListed_123) (by decide) (by decide) ?_
                            show Steps p.tables e below (s₁.setTop (mkF m 127 #[.val (.ref b1), .val (.int p1)] [(.int (1 : Int32))])) _
                            have hv : own_l p1 = (1 : Int32) := by
                              have hL : own_L p1 = true := by simp only [own_L, Bool.or_eq_true, Bool.and_eq_true, decide_eq_true_eq, Bool.and_eq_false_iff, Bool.or_eq_false_iff, decide_eq_false_iff_not]; simp only [*, true_or, or_true]
                              simp only [own_l, hL]; rfl
                            rw [hv] at hr
                            exact retN X0 hx (t := .boolean) Bd.returns (by simp) (hb hby d_isListed_127) hr
                          · show Steps p.tables e below (s₁.setTop (mkF m 95 #[.val (.ref b1), .val (.int p1)] [(.int (65504 : Int32)), (.int p1)])) _
                            refine XS.icmpNo X0.here hx rfl (hb hby d_isListed_95) rfl (feq hc95).1 ?_
                            show Steps p.tables e below (s₁.setTop (mkF m 98 #[.val (.ref b1), .val (.int p1)] [])) _
                            refine XS.iloadN X0.here hx rfl (hb hby d_isListed_98) rfl ?_
                            show Steps p.tables e below (s₁.setTop (mkF m 99 #[.val (.ref b1), .val (.int p1)] [(.int p1)])) _
                            refine XS.aloadN X0.here hx rfl (hb hby d_isListed_99) rfl rfl ?_
                            show Steps p.tables e below (s₁.setTop (mkF m 100 #[.val (.ref b1), .val (.int p1)] [(.ref b1), (.int p1)])) _
                            refine XS.bipush X0.here hx rfl (hb hby d_isListed_100) ?_
                            show Steps p.tables e below (s₁.setTop (mkF m 102 #[.val (.ref b1), .val (.int p1)] [(.int (13 : Int32)), (.ref b1), (.int p1)])) _
                            refine X0.caload hx (j := (13 : Int32)) (v := (.int (65505 : Int32))) (by rw [e0]; exact Ar.1) (State.isArrayOf_alike hZ.alike Ar.2.1) Ar.2.2 (inb_of Sc ⟨by decide, by decide⟩) (Hc.at (inb_of Sc ⟨by decide, by decide⟩) (show own_vs.getD _ _ = _ from rfl)) (g := (mkF m 102 #[.val (.ref b1), .val (.int p1)] [(.int (13 : Int32)), (.ref b1), (.int p1)])) rfl rfl (hb hby d_isListed_102) _ ?_
                            by_cases hc103 : p1 = (65505 : Int32)
                            · show Steps p.tables e below (s₁.setTop (mkF m 103 #[.val (.ref b1), .val (.int p1)] [(.int (65505 : Int32)), (.int p1)])) _
                              refine XS.icmpYes X0.here hx rfl (pc0 := 103) (pc' := 122) rfl (hb hby d_isListed_103) rfl (teq hc103).1 (by decide) (by decide) ?_
                              show Steps p.tables e below (s₁.setTop (mkF m 122 #[.val (.ref b1), .val (.int p1)] [])) _
                              refine XS.iconst X0.here hx rfl (hb hby d_isListed_122) ?_
                              show Steps p.tables e below (s₁.setTop (mkF m 123 #[.val (.ref b1), .val (.int p1)] [(.int (1 : Int32))])) _
                              refine XS.goto X0.here hx rfl (pc0 := 123) (pc' := 127) rfl (hb hby d_isListed_123) (by decide) (by decide) ?_
                              show Steps p.tables e below (s₁.setTop (mkF m 127 #[.val (.ref b1), .val (.int p1)] [(.int (1 : Int32))])) _
                              have hv : own_l p1 = (1 : Int32) := by
                                have hL : own_L p1 = true := by simp only [own_L, Bool.or_eq_true, Bool.and_eq_true, decide_eq_true_eq, Bool.and_eq_false_iff, Bool.or_eq_false_iff, decide_eq_false_iff_not]; simp only [*, true_or, or_true]
                                simp only [own_l, hL]; rfl
                              rw [hv] at hr
                              exact retN X0 hx (t := .boolean) Bd.returns (by simp) (hb hby d_isListed_127) hr
                            · show Steps p.tables e below (s₁.setTop (mkF m 103 #[.val (.ref b1), .val (.int p1)] [(.int (65505 : Int32)), (.int p1)])) _
                              refine XS.icmpNo X0.here hx rfl (hb hby d_isListed_103) rfl (feq hc103).1 ?_
                              show Steps p.tables e below (s₁.setTop (mkF m 106 #[.val (.ref b1), .val (.int p1)] [])) _
                              refine XS.iloadN X0.here hx rfl (hb hby d_isListed_106) rfl ?_
                              show Steps p.tables e below (s₁.setTop (mkF m 107 #[.val (.ref b1), .val (.int p1)] [(.int p1)])) _
                              refine XS.aloadN X0.here hx rfl (hb hby d_isListed_107) rfl rfl ?_
                              show Steps p.tables e below (s₁.setTop (mkF m 108 #[.val (.ref b1), .val (.int p1)] [(.ref b1), (.int p1)])) _
                              refine XS.bipush X0.here hx rfl (hb hby d_isListed_108) ?_
                              show Steps p.tables e below (s₁.setTop (mkF m 110 #[.val (.ref b1), .val (.int p1)] [(.int (14 : Int32)), (.ref b1), (.int p1)])) _
                              refine X0.caload hx (j := (14 : Int32)) (v := (.int (65509 : Int32))) (by rw [e0]; exact Ar.1) (State.isArrayOf_alike hZ.alike Ar.2.1) Ar.2.2 (inb_of Sc ⟨by decide, by decide⟩) (Hc.at (inb_of Sc ⟨by decide, by decide⟩) (show own_vs.getD _ _ = _ from rfl)) (g := (mkF m 110 #[.val (.ref b1), .val (.int p1)] [(.int (14 : Int32)), (.ref b1), (.int p1)])) rfl rfl (hb hby d_isListed_110) _ ?_
                              by_cases hc111 : p1 = (65509 : Int32)
                              · show Steps p.tables e below (s₁.setTop (mkF m 111 #[.val (.ref b1), .val (.int p1)] [(.int (65509 : Int32)), (.int p1)])) _
                                refine XS.icmpYes X0.here hx rfl (pc0 := 111) (pc' := 122) rfl (hb hby d_isListed_111) rfl (teq hc111).1 (by decide) (by decide) ?_
                                show Steps p.tables e below (s₁.setTop (mkF m 122 #[.val (.ref b1), .val (.int p1)] [])) _
                                refine XS.iconst X0.here hx rfl (hb hby d_isListed_122) ?_
                                show Steps p.tables e below (s₁.setTop (mkF m 123 #[.val (.ref b1), .val (.int p1)] [(.int (1 : Int32))])) _
                                refine XS.goto X0.here hx rfl (pc0 := 123) (pc' := 127) rfl (hb hby d_isListed_123) (by decide) (by decide) ?_
                                show Steps p.tables e below (s₁.setTop (mkF m 127 #[.val (.ref b1), .val (.int p1)] [(.int (1 : Int32))])) _
                                have hv : own_l p1 = (1 : Int32) := by
                                  have hL : own_L p1 = true := by simp only [own_L, Bool.or_eq_true, Bool.and_eq_true, decide_eq_true_eq, Bool.and_eq_false_iff, Bool.or_eq_false_iff, decide_eq_false_iff_not]; simp only [*, true_or, or_true]
                                  simp only [own_l, hL]; rfl
                                rw [hv] at hr
                                exact retN X0 hx (t := .boolean) Bd.returns (by simp) (hb hby d_isListed_127) hr
                              · show Steps p.tables e below (s₁.setTop (mkF m 111 #[.val (.ref b1), .val (.int p1)] [(.int (65509 : Int32)), (.int p1)])) _
                                refine XS.icmpNo X0.here hx rfl (hb hby d_isListed_111) rfl (feq hc111).1 ?_
                                show Steps p.tables e below (s₁.setTop (mkF m 114 #[.val (.ref b1), .val (.int p1)] [])) _
                                refine XS.iloadN X0.here hx rfl (hb hby d_isListed_114) rfl ?_
                                show Steps p.tables e below (s₁.setTop (mkF m 115 #[.val (.ref b1), .val (.int p1)] [(.int p1)])) _
                                refine XS.aloadN X0.here hx rfl (hb hby d_isListed_115) rfl rfl ?_
                                show Steps p.tables e below (s₁.setTop (mkF m 116 #[.val (.ref b1), .val (.int p1)] [(.ref b1), (.int p1)])) _
                                refine XS.bipush X0.here hx rfl (hb hby d_isListed_116) ?_
                                show Steps p.tables e below (s₁.setTop (mkF m 118 #[.val (.ref b1), .val (.int p1)] [(.int (15 : Int32)), (.ref b1), (.int p1)])) _
                                refine X0.caload hx (j := (15 : Int32)) (v := (.int (65510 : Int32))) (by rw [e0]; exact Ar.1) (State.isArrayOf_alike hZ.alike Ar.2.1) Ar.2.2 (inb_of Sc ⟨by decide, by decide⟩) (Hc.at (inb_of Sc ⟨by decide, by decide⟩) (show own_vs.getD _ _ = _ from rfl)) (g := (mkF m 118 #[.val (.ref b1), .val (.int p1)] [(.int (15 : Int32)), (.ref b1), (.int p1)])) rfl rfl (hb hby d_isListed_118) _ ?_
                                by_cases hc119 : p1 = (65510 : Int32)
                                · show Steps p.tables e below (s₁.setTop (mkF m 119 #[.val (.ref b1), .val (.int p1)] [(.int (65510 : Int32)), (.int p1)])) _
                                  refine XS.icmpNo X0.here hx rfl (hb hby d_isListed_119) rfl (teq hc119).2 ?_
                                  show Steps p.tables e below (s₁.setTop (mkF m 122 #[.val (.ref b1), .val (.int p1)] [])) _
                                  refine XS.iconst X0.here hx rfl (hb hby d_isListed_122) ?_
                                  show Steps p.tables e below (s₁.setTop (mkF m 123 #[.val (.ref b1), .val (.int p1)] [(.int (1 : Int32))])) _
                                  refine XS.goto X0.here hx rfl (pc0 := 123) (pc' := 127) rfl (hb hby d_isListed_123) (by decide) (by decide) ?_
                                  show Steps p.tables e below (s₁.setTop (mkF m 127 #[.val (.ref b1), .val (.int p1)] [(.int (1 : Int32))])) _
                                  have hv : own_l p1 = (1 : Int32) := by
                                    have hL : own_L p1 = true := by simp only [own_L, Bool.or_eq_true, Bool.and_eq_true, decide_eq_true_eq, Bool.and_eq_false_iff, Bool.or_eq_false_iff, decide_eq_false_iff_not]; simp only [*, true_or, or_true]
                                    simp only [own_l, hL]; rfl
                                  rw [hv] at hr
                                  exact retN X0 hx (t := .boolean) Bd.returns (by simp) (hb hby d_isListed_127) hr
                                · show Steps p.tables e below (s₁.setTop (mkF m 119 #[.val (.ref b1), .val (.int p1)] [(.int (65510 : Int32)), (.int p1)])) _
                                  refine XS.icmpYes X0.here hx rfl (pc0 := 119) (pc' := 126) rfl (hb hby d_isListed_119) rfl (feq hc119).2 (by decide) (by decide) ?_
                                  show Steps p.tables e below (s₁.setTop (mkF m 126 #[.val (.ref b1), .val (.int p1)] [])) _
                                  refine XS.iconst X0.here hx rfl (hb hby d_isListed_126) ?_
                                  show Steps p.tables e below (s₁.setTop (mkF m 127 #[.val (.ref b1), .val (.int p1)] [(.int (0 : Int32))])) _
                                  have hv : own_l p1 = (0 : Int32) := by
                                    have hL : own_L p1 = false := by simp only [own_L, Bool.or_eq_true, Bool.and_eq_true, decide_eq_true_eq, Bool.and_eq_false_iff, Bool.or_eq_false_iff, decide_eq_false_iff_not]; simp only [*, not_false_eq_true, and_self]
                                    simp only [own_l, hL]; rfl
                                  rw [hv] at hr
                                  exact retN X0 hx (t := .boolean) Bd.returns (by simp) (hb hby d_isListed_127) hr
def Q_rm_s (Z : State) (p1 : Int32)  (h0 : Heap) (n0 : Nat) (v : Option Value) (h : Heap) (L : List Loc) : Prop := (v = some (.int (own_s p1)) ∧ Fr n0 L ∧ h = h0)
set_option maxRecDepth 65536 in
set_option maxHeartbeats 40000000 in
theorem rm_s (l : Launch) (Z : State) (a0 : Array Value) (hw : ∀ d ∈ tables_1, d.before a0 Z = true) (ws : List Jvm.Cond) (p1 : Int32) (h0 : Heap) (n0 : Nat)  :
    MetFree l (⟨"com/example/castwright/castwright/NumberText$CurrencySign", "isCurrencySymbol", "(C)Z"⟩ : MethodName) (head1 (Jvm.Cond.code (⟨"com/example/castwright/castwright/NumberText$CurrencySign", "isCurrencySymbol", "(C)Z"⟩ : MethodName) prog_63_method_6_code 1 (some .boolean) :: ws) ({ frames := 0, cells := 0, slots := 0, locals := 0 } : Room)) (fun a U => a = #[(.int p1)] ∧ Z.Warmed39 U.vm ∧ U.heap = h0) (fun _ _ _ _ _ => True) (fun _ U o U' => ∃ v L, o = .returned v ∧ Q_rm_s Z p1 h0 n0 v U'.heap L ∧ FrameEnd U o U' L ({ frames := 0, cells := 0, slots := 0, locals := 0 } : Room).cells ({ frames := 0, cells := 0, slots := 0, locals := 0 } : Room).slots) := by
  refine MetFree.of_bodySF (plainFor_of_name pn_u) hisR ?_
  intro p e s m args below meth c s₁ Bd hml0 hP hK
  obtain ⟨rfl, hZ, hh⟩ := hP
  have hx := Bd.exec
  have hby := Bd.bytes
  have hml : c.maxLocals = 1 := hml0
  have hown : s.vm.findClass "com/example/castwright/castwright/NumberText$CurrencySign" = some m.cls := findClass_of_methodNamed Bd.named
  have hnm := (name_of_methodNamed Bd.named Bd.method).1
  have X0 : Stand p l e ({ frames := 0, cells := 0, slots := 0, locals := 0 } : Room) s m #[(.int p1)] below meth c s₁ [] 0 0 := Stand.of_body Bd
  have e0 : s₁.heap = h0 := by rw [← hh, Bd.state]; rfl
  have N0 := Fr.nil n0
  have pre0 : ∀ t, Steps p.tables e below (s₁.setTop (mkF m 0 #[.val (.int p1)] [])) t → Steps p.tables e below (s₁.setTop (entryFrame m #[(.int p1)] 1)) t := fun t k => castTop (ef_s m p1) k
  obtain ⟨fs, hr, hrun, hended, hW, hsame⟩ := X0.leave (v := some (.int (own_s p1))) (fun h => by rw [Bd.returns] at h; cases h)
  refine ⟨_, _, pre0 _ ?_, hrun, hended, _, _, rfl, ⟨rfl, N0, e0⟩, ⟨_, rfl⟩, hW, hsame.mono (by decide) (by decide)⟩
  show Steps p.tables e below (s₁.setTop (mkF m 0 #[.val (.int p1)] [])) _
  refine XS.iloadN X0.here hx rfl (hb hby d_isCurrencySymbol_0) rfl ?_
  have kH : own_L p1 = true → Steps p.tables e below (s₁.setTop (mkF m 140 #[.val (.int p1)] [])) (s₁.setFrames fs) := by
    intro hL
    have hv : own_s p1 = 1 := if_pos hL
    rw [hv] at hr
    show Steps p.tables e below (s₁.setTop (mkF m 140 #[.val (.int p1)] [])) _
    refine XS.iconst X0.here hx rfl (hb hby d_isCurrencySymbol_140) ?_
    show Steps p.tables e below (s₁.setTop (mkF m 141 #[.val (.int p1)] [(.int (1 : Int32))])) _
    refine XS.goto X0.here hx rfl (pc0 := 141) (pc' := 163) rfl (hb hby d_isCurrencySymbol_141) (by decide) (by decide) ?_
    show Steps p.tables e below (s₁.setTop (mkF m 163 #[.val (.int p1)] [(.int (1 : Int32))])) _
    exact retN X0 hx (t := .boolean) Bd.returns (by simp) (hb hby d_isCurrencySymbol_163) hr
  by_cases h36 : p1 = (36 : Int32)
  · refine X0.lookupswitchHit hx (g := (mkF m 1 #[.val (.int p1)] [(.int p1)])) rfl rfl (hb hby d_isCurrencySymbol_1) (by decide) (a := 36) (off := 139) (by rw [h36]; rfl) (by show (0 : Int) ≤ 1 + 139; decide) _ ?_
    exact kH (by simp only [own_L, Bool.or_eq_true, Bool.and_eq_true, decide_eq_true_eq, Bool.and_eq_false_iff, Bool.or_eq_false_iff, decide_eq_false_iff_not]; simp only [h36, true_or, or_true])
  by_cases h162 : p1 = (162 : Int32)
  · refine X0.lookupswitchHit hx (g := (mkF m 1 #[.val (.int p1)] [(.int p1)])) rfl rfl (hb hby d_isCurrencySymbol_1) (by decide) (a := 162) (off := 139) (by rw [h162]; rfl) (by show (0 : Int) ≤ 1 + 139; decide) _ ?_
    exact kH (by simp only [own_L, Bool.or_eq_true, Bool.and_eq_true, decide_eq_true_eq, Bool.and_eq_false_iff, Bool.or_eq_false_iff, decide_eq_false_iff_not]; simp only [h162, true_or, or_true])
  by_cases h163 : p1 = (163 : Int32)
  · refine X0.lookupswitchHit hx (g := (mkF m 1 #[.val (.int p1)] [(.int p1)])) rfl rfl (hb hby d_isCurrencySymbol_1) (by decide) (a := 163) (off := 139) (by rw [h163]; rfl) (by show (0 : Int) ≤ 1 + 139; decide) _ ?_
    exact kH (by simp only [own_L, Bool.or_eq_true, Bool.and_eq_true, decide_eq_true_eq, Bool.and_eq_false_iff, Bool.or_eq_false_iff, decide_eq_false_iff_not]; simp only [h163, true_or, or_true])
  by_cases h164 : p1 = (164 : Int32)
  · refine X0.lookupswitchHit hx (g := (mkF m 1 #[.val (.int p1)] [(.int p1)])) rfl rfl (hb hby d_isCurrencySymbol_1) (by decide) (a := 164) (off := 139) (by rw [h164]; rfl) (by show (0 : Int) ≤ 1 + 139; decide) _ ?_
    exact kH (by simp only [own_L, Bool.or_eq_true, Bool.and_eq_true, decide_eq_true_eq, Bool.and_eq_false_iff, Bool.or_eq_false_iff, decide_eq_false_iff_not]; simp only [h164, true_or, or_true])
  by_cases h165 : p1 = (165 : Int32)
  · refine X0.lookupswitchHit hx (g := (mkF m 1 #[.val (.int p1)] [(.int p1)])) rfl rfl (hb hby d_isCurrencySymbol_1) (by decide) (a := 165) (off := 139) (by rw [h165]; rfl) (by show (0 : Int) ≤ 1 + 139; decide) _ ?_
    exact kH (by simp only [own_L, Bool.or_eq_true, Bool.and_eq_true, decide_eq_true_eq, Bool.and_eq_false_iff, Bool.or_eq_false_iff, decide_eq_false_iff_not]; simp only [h165, true_or, or_true])
  by_cases h2546 : p1 = (2546 : Int32)
  · refine X0.lookupswitchHit hx (g := (mkF m 1 #[.val (.int p1)] [(.int p1)])) rfl rfl (hb hby d_isCurrencySymbol_1) (by decide) (a := 2546) (off := 139) (by rw [h2546]; rfl) (by show (0 : Int) ≤ 1 + 139; decide) _ ?_
    exact kH (by simp only [own_L, Bool.or_eq_true, Bool.and_eq_true, decide_eq_true_eq, Bool.and_eq_false_iff, Bool.or_eq_false_iff, decide_eq_false_iff_not]; simp only [h2546, true_or, or_true])
  by_cases h2547 : p1 = (2547 : Int32)
  · refine X0.lookupswitchHit hx (g := (mkF m 1 #[.val (.int p1)] [(.int p1)])) rfl rfl (hb hby d_isCurrencySymbol_1) (by decide) (a := 2547) (off := 139) (by rw [h2547]; rfl) (by show (0 : Int) ≤ 1 + 139; decide) _ ?_
    exact kH (by simp only [own_L, Bool.or_eq_true, Bool.and_eq_true, decide_eq_true_eq, Bool.and_eq_false_iff, Bool.or_eq_false_iff, decide_eq_false_iff_not]; simp only [h2547, true_or, or_true])
  by_cases h3647 : p1 = (3647 : Int32)
  · refine X0.lookupswitchHit hx (g := (mkF m 1 #[.val (.int p1)] [(.int p1)])) rfl rfl (hb hby d_isCurrencySymbol_1) (by decide) (a := 3647) (off := 139) (by rw [h3647]; rfl) (by show (0 : Int) ≤ 1 + 139; decide) _ ?_
    exact kH (by simp only [own_L, Bool.or_eq_true, Bool.and_eq_true, decide_eq_true_eq, Bool.and_eq_false_iff, Bool.or_eq_false_iff, decide_eq_false_iff_not]; simp only [h3647, true_or, or_true])
  by_cases h6107 : p1 = (6107 : Int32)
  · refine X0.lookupswitchHit hx (g := (mkF m 1 #[.val (.int p1)] [(.int p1)])) rfl rfl (hb hby d_isCurrencySymbol_1) (by decide) (a := 6107) (off := 139) (by rw [h6107]; rfl) (by show (0 : Int) ≤ 1 + 139; decide) _ ?_
    exact kH (by simp only [own_L, Bool.or_eq_true, Bool.and_eq_true, decide_eq_true_eq, Bool.and_eq_false_iff, Bool.or_eq_false_iff, decide_eq_false_iff_not]; simp only [h6107, true_or, or_true])
  by_cases h65020 : p1 = (65020 : Int32)
  · refine X0.lookupswitchHit hx (g := (mkF m 1 #[.val (.int p1)] [(.int p1)])) rfl rfl (hb hby d_isCurrencySymbol_1) (by decide) (a := 65020) (off := 139) (by rw [h65020]; rfl) (by show (0 : Int) ≤ 1 + 139; decide) _ ?_
    exact kH (by simp only [own_L, Bool.or_eq_true, Bool.and_eq_true, decide_eq_true_eq, Bool.and_eq_false_iff, Bool.or_eq_false_iff, decide_eq_false_iff_not]; simp only [h65020, true_or, or_true])
  by_cases h65129 : p1 = (65129 : Int32)
  · refine X0.lookupswitchHit hx (g := (mkF m 1 #[.val (.int p1)] [(.int p1)])) rfl rfl (hb hby d_isCurrencySymbol_1) (by decide) (a := 65129) (off := 139) (by rw [h65129]; rfl) (by show (0 : Int) ≤ 1 + 139; decide) _ ?_
    exact kH (by simp only [own_L, Bool.or_eq_true, Bool.and_eq_true, decide_eq_true_eq, Bool.and_eq_false_iff, Bool.or_eq_false_iff, decide_eq_false_iff_not]; simp only [h65129, true_or, or_true])
  by_cases h65284 : p1 = (65284 : Int32)
  · refine X0.lookupswitchHit hx (g := (mkF m 1 #[.val (.int p1)] [(.int p1)])) rfl rfl (hb hby d_isCurrencySymbol_1) (by decide) (a := 65284) (off := 139) (by rw [h65284]; rfl) (by show (0 : Int) ≤ 1 + 139; decide) _ ?_
    exact kH (by simp only [own_L, Bool.or_eq_true, Bool.and_eq_true, decide_eq_true_eq, Bool.and_eq_false_iff, Bool.or_eq_false_iff, decide_eq_false_iff_not]; simp only [h65284, true_or, or_true])
  by_cases h65504 : p1 = (65504 : Int32)
  · refine X0.lookupswitchHit hx (g := (mkF m 1 #[.val (.int p1)] [(.int p1)])) rfl rfl (hb hby d_isCurrencySymbol_1) (by decide) (a := 65504) (off := 139) (by rw [h65504]; rfl) (by show (0 : Int) ≤ 1 + 139; decide) _ ?_
    exact kH (by simp only [own_L, Bool.or_eq_true, Bool.and_eq_true, decide_eq_true_eq, Bool.and_eq_false_iff, Bool.or_eq_false_iff, decide_eq_false_iff_not]; simp only [h65504, true_or, or_true])
  by_cases h65505 : p1 = (65505 : Int32)
  · refine X0.lookupswitchHit hx (g := (mkF m 1 #[.val (.int p1)] [(.int p1)])) rfl rfl (hb hby d_isCurrencySymbol_1) (by decide) (a := 65505) (off := 139) (by rw [h65505]; rfl) (by show (0 : Int) ≤ 1 + 139; decide) _ ?_
    exact kH (by simp only [own_L, Bool.or_eq_true, Bool.and_eq_true, decide_eq_true_eq, Bool.and_eq_false_iff, Bool.or_eq_false_iff, decide_eq_false_iff_not]; simp only [h65505, true_or, or_true])
  by_cases h65509 : p1 = (65509 : Int32)
  · refine X0.lookupswitchHit hx (g := (mkF m 1 #[.val (.int p1)] [(.int p1)])) rfl rfl (hb hby d_isCurrencySymbol_1) (by decide) (a := 65509) (off := 139) (by rw [h65509]; rfl) (by show (0 : Int) ≤ 1 + 139; decide) _ ?_
    exact kH (by simp only [own_L, Bool.or_eq_true, Bool.and_eq_true, decide_eq_true_eq, Bool.and_eq_false_iff, Bool.or_eq_false_iff, decide_eq_false_iff_not]; simp only [h65509, true_or, or_true])
  by_cases h65510 : p1 = (65510 : Int32)
  · refine X0.lookupswitchHit hx (g := (mkF m 1 #[.val (.int p1)] [(.int p1)])) rfl rfl (hb hby d_isCurrencySymbol_1) (by decide) (a := 65510) (off := 139) (by rw [h65510]; rfl) (by show (0 : Int) ≤ 1 + 139; decide) _ ?_
    exact kH (by simp only [own_L, Bool.or_eq_true, Bool.and_eq_true, decide_eq_true_eq, Bool.and_eq_false_iff, Bool.or_eq_false_iff, decide_eq_false_iff_not]; simp only [h65510, true_or, or_true])
  have n36 : ¬ (36 : Int) = p1.toInt := fun q => h36 (Int32.toInt_inj.mp (q.symm.trans (by decide)))
  have n162 : ¬ (162 : Int) = p1.toInt := fun q => h162 (Int32.toInt_inj.mp (q.symm.trans (by decide)))
  have n163 : ¬ (163 : Int) = p1.toInt := fun q => h163 (Int32.toInt_inj.mp (q.symm.trans (by decide)))
  have n164 : ¬ (164 : Int) = p1.toInt := fun q => h164 (Int32.toInt_inj.mp (q.symm.trans (by decide)))
  have n165 : ¬ (165 : Int) = p1.toInt := fun q => h165 (Int32.toInt_inj.mp (q.symm.trans (by decide)))
  have n2546 : ¬ (2546 : Int) = p1.toInt := fun q => h2546 (Int32.toInt_inj.mp (q.symm.trans (by decide)))
  have n2547 : ¬ (2547 : Int) = p1.toInt := fun q => h2547 (Int32.toInt_inj.mp (q.symm.trans (by decide)))
  have n3647 : ¬ (3647 : Int) = p1.toInt := fun q => h3647 (Int32.toInt_inj.mp (q.symm.trans (by decide)))
  have n6107 : ¬ (6107 : Int) = p1.toInt := fun q => h6107 (Int32.toInt_inj.mp (q.symm.trans (by decide)))
  have n65020 : ¬ (65020 : Int) = p1.toInt := fun q => h65020 (Int32.toInt_inj.mp (q.symm.trans (by decide)))
  have n65129 : ¬ (65129 : Int) = p1.toInt := fun q => h65129 (Int32.toInt_inj.mp (q.symm.trans (by decide)))
  have n65284 : ¬ (65284 : Int) = p1.toInt := fun q => h65284 (Int32.toInt_inj.mp (q.symm.trans (by decide)))
  have n65504 : ¬ (65504 : Int) = p1.toInt := fun q => h65504 (Int32.toInt_inj.mp (q.symm.trans (by decide)))
  have n65505 : ¬ (65505 : Int) = p1.toInt := fun q => h65505 (Int32.toInt_inj.mp (q.symm.trans (by decide)))
  have n65509 : ¬ (65509 : Int) = p1.toInt := fun q => h65509 (Int32.toInt_inj.mp (q.symm.trans (by decide)))
  have n65510 : ¬ (65510 : Int) = p1.toInt := fun q => h65510 (Int32.toInt_inj.mp (q.symm.trans (by decide)))
  have hL : own_L p1 = false := by simp only [own_L, Bool.or_eq_true, Bool.and_eq_true, decide_eq_true_eq, Bool.and_eq_false_iff, Bool.or_eq_false_iff, decide_eq_false_iff_not]; simp only [h36, h162, h163, h164, h165, h2546, h2547, h3647, h6107, h65020, h65129, h65284, h65504, h65505, h65509, h65510, not_false_eq_true, and_self]
  refine X0.lookupswitchMiss hx (g := (mkF m 1 #[.val (.int p1)] [(.int p1)])) rfl rfl (hb hby d_isCurrencySymbol_1) (by decide) (by simp [n36, n162, n163, n164, n165, n2546, n2547, n3647, n6107, n65020, n65129, n65284, n65504, n65505, n65509, n65510]) (by show (0 : Int) ≤ 1 + 143; decide) _ ?_
  show Steps p.tables e below (s₁.setTop (mkF m 144 #[.val (.int p1)] [])) _
  refine XS.iloadN X0.here hx rfl (hb hby d_isCurrencySymbol_144) rfl ?_
  show Steps p.tables e below (s₁.setTop (mkF m 145 #[.val (.int p1)] [(.int p1)])) _
  refine XS.sipush X0.here hx rfl (hb hby d_isCurrencySymbol_145) ?_
  by_cases hc148 : p1 < (8352 : Int32)
  · show Steps p.tables e below (s₁.setTop (mkF m 148 #[.val (.int p1)] [(.int (8352 : Int32)), (.int p1)])) _
    refine XS.icmpYes X0.here hx rfl (pc0 := 148) (pc' := 162) rfl (hb hby d_isCurrencySymbol_148) rfl (tlt hc148).1 (by decide) (by decide) ?_
    show Steps p.tables e below (s₁.setTop (mkF m 162 #[.val (.int p1)] [])) _
    refine XS.iconst X0.here hx rfl (hb hby d_isCurrencySymbol_162) ?_
    show Steps p.tables e below (s₁.setTop (mkF m 163 #[.val (.int p1)] [(.int (0 : Int32))])) _
    have hv : own_s p1 = (0 : Int32) := by simp only [own_s, hL, *, if_true, if_false, Bool.false_eq_true]
    rw [hv] at hr
    exact retN X0 hx (t := .boolean) Bd.returns (by simp) (hb hby d_isCurrencySymbol_163) hr
  · show Steps p.tables e below (s₁.setTop (mkF m 148 #[.val (.int p1)] [(.int (8352 : Int32)), (.int p1)])) _
    refine XS.icmpNo X0.here hx rfl (hb hby d_isCurrencySymbol_148) rfl (flt hc148).1 ?_
    show Steps p.tables e below (s₁.setTop (mkF m 151 #[.val (.int p1)] [])) _
    refine XS.iloadN X0.here hx rfl (hb hby d_isCurrencySymbol_151) rfl ?_
    show Steps p.tables e below (s₁.setTop (mkF m 152 #[.val (.int p1)] [(.int p1)])) _
    refine XS.sipush X0.here hx rfl (hb hby d_isCurrencySymbol_152) ?_
    by_cases hc155 : (8369 : Int32) < p1
    · show Steps p.tables e below (s₁.setTop (mkF m 155 #[.val (.int p1)] [(.int (8369 : Int32)), (.int p1)])) _
      refine XS.icmpYes X0.here hx rfl (pc0 := 155) (pc' := 162) rfl (hb hby d_isCurrencySymbol_155) rfl (tlt hc155).2.2.1 (by decide) (by decide) ?_
      show Steps p.tables e below (s₁.setTop (mkF m 162 #[.val (.int p1)] [])) _
      refine XS.iconst X0.here hx rfl (hb hby d_isCurrencySymbol_162) ?_
      show Steps p.tables e below (s₁.setTop (mkF m 163 #[.val (.int p1)] [(.int (0 : Int32))])) _
      have hv : own_s p1 = (0 : Int32) := by simp only [own_s, hL, *, if_true, if_false, Bool.false_eq_true]
      rw [hv] at hr
      exact retN X0 hx (t := .boolean) Bd.returns (by simp) (hb hby d_isCurrencySymbol_163) hr
    · show Steps p.tables e below (s₁.setTop (mkF m 155 #[.val (.int p1)] [(.int (8369 : Int32)), (.int p1)])) _
      refine XS.icmpNo X0.here hx rfl (hb hby d_isCurrencySymbol_155) rfl (flt hc155).2.2.1 ?_
      show Steps p.tables e below (s₁.setTop (mkF m 158 #[.val (.int p1)] [])) _
      refine XS.iconst X0.here hx rfl (hb hby d_isCurrencySymbol_158) ?_
      show Steps p.tables e below (s₁.setTop (mkF m 159 #[.val (.int p1)] [(.int (1 : Int32))])) _
      refine XS.goto X0.here hx rfl (pc0 := 159) (pc' := 163) rfl (hb hby d_isCurrencySymbol_159) (by decide) (by decide) ?_
      show Steps p.tables e below (s₁.setTop (mkF m 163 #[.val (.int p1)] [(.int (1 : Int32))])) _
      have hv : own_s p1 = (1 : Int32) := by simp only [own_s, hL, *, if_true, if_false, Bool.false_eq_true]
      rw [hv] at hr
      exact retN X0 hx (t := .boolean) Bd.returns (by simp) (hb hby d_isCurrencySymbol_163) hr
set_option maxRecDepth 65536 in
set_option maxHeartbeats 40000000 in
theorem rm0 (l : Launch) (Z : State) (a0 : Array Value) (hw : ∀ d ∈ tables_1, d.before a0 Z = true) (ws : List Jvm.Cond) (p1 : Int32) (p2 : Int32) (h0 : Heap) (n0 : Nat) (Z0 : n0 ≤ h0.size) :
    MetFree l x (head1 (Jvm.Cond.code x code maxLocals ret :: ws) room_1) (fun a U => a = #[(.int p1), (.int p2)] ∧ Z.Warmed39 U.vm ∧ U.heap = h0) (fun _ _ _ _ _ => True) (fun _ U o U' => ∃ v L, o = .returned v ∧ (v = some (.int 1) ∧ Fr n0 L) ∧ FrameEnd U o U' L room_1.cells room_1.slots) := by
  refine MetFree.of_bodySF (plainFor_of_name pn_0) hisR ?_
  intro p e s m args below meth c s₁ Bd hml0 hP hK
  obtain ⟨rfl, hZ, hh⟩ := hP
  have hx := Bd.exec
  have hby := Bd.bytes
  have hml : c.maxLocals = 7 := hml0
  have hown : s.vm.findClass "com/example/castwright/castwright/CurrencySignIsCurrencySymbolPinLaw" = some m.cls := findClass_of_methodNamed Bd.named
  have hnm := (name_of_methodNamed Bd.named Bd.method).1
  have X0 : Stand p l e room_1 s m #[(.int p1), (.int p2)] below meth c s₁ [] 0 0 := Stand.of_body Bd
  have e0 : s₁.heap = h0 := by rw [← hh, Bd.state]; rfl
  have N0 := Fr.nil n0
  have pre0 : ∀ t, Steps p.tables e below (s₁.setTop (mkF m 0 #[.val (.int p1), .val (.int p2), .unset, .unset, .unset, .unset, .unset] [])) t → Steps p.tables e below (s₁.setTop (entryFrame m #[(.int p1), (.int p2)] maxLocals)) t := fun t k => castTop (ef_0 m p1 p2) k
  have P0 : ∀ t, Steps p.tables e below (s₁.setTop (mkF m 0 #[.val (.int p1), .val (.int p2), .unset, .unset, .unset, .unset, .unset] [])) t → Steps p.tables e below (s₁.setTop (entryFrame m #[(.int p1), (.int p2)] maxLocals)) t := fun t k => pre0 t k
  obtain ⟨Ta, ha, ka, Xa, ea, Ea, Aa, sta⟩ := newP X0 hx hZ (hw _ (List.mem_of_getElem? (i := 0) rfl)) e0 (g := (mkF m 2 #[.val (.int p1), .val (.int p2), .unset, .unset, .unset, .unset, .unset] [(.int (16 : Int32))])) rfl (hb hby at_2) rfl (by decide) (cap := 16) (by decide) (by decide) (by decide) (by decide)
  obtain ⟨ba, ga⟩ : ∃ z, z = h0.size := ⟨_, rfl⟩
  rw [← ga] at Aa sta
  have Va : Arv Z ha ba ka .char (16 : Int32) [(.int (0 : Int32)), (.int (0 : Int32)), (.int (0 : Int32)), (.int (0 : Int32)), (.int (0 : Int32)), (.int (0 : Int32)), (.int (0 : Int32)), (.int (0 : Int32)), (.int (0 : Int32)), (.int (0 : Int32)), (.int (0 : Int32)), (.int (0 : Int32)), (.int (0 : Int32)), (.int (0 : Int32)), (.int (0 : Int32)), (.int (0 : Int32))] (.int (0 : Int32)) := (Arv.new Aa (by decide)).pad (pad_rep [] (.int (0 : Int32)) 16)
  have Pa : ∀ t, Steps p.tables e below (Ta.setTop (mkF m 4 #[.val (.int p1), .val (.int p2), .unset, .unset, .unset, .unset, .unset] [(.ref ba)])) t → Steps p.tables e below (s₁.setTop (entryFrame m #[(.int p1), (.int p2)] maxLocals)) t := by
    intro t k
    refine P0 t ?_
    show Steps p.tables e below (s₁.setTop (mkF m 0 #[.val (.int p1), .val (.int p2), .unset, .unset, .unset, .unset, .unset] [])) _
    refine XS.bipush X0.here hx rfl (hb hby at_0) ?_
    refine sta _ ?_
    exact k
  have gb : n0 ≤ ba := Nat.le_trans Z0 (Nat.le_of_eq ga.symm)
  obtain ⟨cli0, Ari0, qi0, Si0, Ni0', Hi0, Gi0⟩ := Va
  obtain ⟨Ti0, hi0, Xi0, ei0, Wi0, sti0⟩ := stC Xa hx hZ ea Ari0 (j := (0 : Int32)) (inb_of Si0 ⟨by decide, by decide⟩) (g := (mkF m 8 #[.val (.int p1), .val (.int p2), .unset, .unset, .unset, .unset, .unset] [(.int (36 : Int32)), (.int (0 : Int32)), (.ref ba), (.ref ba)])) rfl rfl (hb hby at_8)
  have Vi0 : Arv Z hi0 ba ka .char (16 : Int32) [(.int (36 : Int32)), (.int (0 : Int32)), (.int (0 : Int32)), (.int (0 : Int32)), (.int (0 : Int32)), (.int (0 : Int32)), (.int (0 : Int32)), (.int (0 : Int32)), (.int (0 : Int32)), (.int (0 : Int32)), (.int (0 : Int32)), (.int (0 : Int32)), (.int (0 : Int32)), (.int (0 : Int32)), (.int (0 : Int32)), (.int (0 : Int32))] (.int (0 : Int32)) := Arv.set Ari0 qi0 Si0 Ni0' Hi0 Gi0 (fits_nar_char _) Wi0 0 rfl (Nat.le_of_ble_eq_true rfl)
  have Ni0 := Fr.snoc Xi0 N0 gb
  have Pi0 : ∀ t, Steps p.tables e below (Ti0.setTop (mkF m 9 #[.val (.int p1), .val (.int p2), .unset, .unset, .unset, .unset, .unset] [(.ref ba)])) t → Steps p.tables e below (s₁.setTop (entryFrame m #[(.int p1), (.int p2)] maxLocals)) t := by
    intro t k
    refine Pa t ?_
    show Steps p.tables e below (Ta.setTop (mkF m 4 #[.val (.int p1), .val (.int p2), .unset, .unset, .unset, .unset, .unset] [(.ref ba)])) _
    refine XS.dup Xa.here hx rfl (hb hby at_4) rfl rfl ?_
    show Steps p.tables e below (Ta.setTop (mkF m 5 #[.val (.int p1), .val (.int p2), .unset, .unset, .unset, .unset, .unset] [(.ref ba), (.ref ba)])) _
    refine XS.iconst Xa.here hx rfl (hb hby at_5) ?_
    show Steps p.tables e below (Ta.setTop (mkF m 6 #[.val (.int p1), .val (.int p2), .unset, .unset, .unset, .unset, .unset] [(.int (0 : Int32)), (.ref ba), (.ref ba)])) _
    refine XS.bipush Xa.here hx rfl (hb hby at_6) ?_
    refine sti0 _ ?_
    exact k
  obtain ⟨cli1, Ari1, qi1, Si1, Ni1', Hi1, Gi1⟩ := Vi0
  obtain ⟨Ti1, hi1, Xi1, ei1, Wi1, sti1⟩ := stC Xi0 hx hZ ei0 Ari1 (j := (1 : Int32)) (inb_of Si1 ⟨by decide, by decide⟩) (g := (mkF m 14 #[.val (.int p1), .val (.int p2), .unset, .unset, .unset, .unset, .unset] [(.int (162 : Int32)), (.int (1 : Int32)), (.ref ba), (.ref ba)])) rfl rfl (hb hby at_14)
  have Vi1 : Arv Z hi1 ba ka .char (16 : Int32) [(.int (36 : Int32)), (.int (162 : Int32)), (.int (0 : Int32)), (.int (0 : Int32)), (.int (0 : Int32)), (.int (0 : Int32)), (.int (0 : Int32)), (.int (0 : Int32)), (.int (0 : Int32)), (.int (0 : Int32)), (.int (0 : Int32)), (.int (0 : Int32)), (.int (0 : Int32)), (.int (0 : Int32)), (.int (0 : Int32)), (.int (0 : Int32))] (.int (0 : Int32)) := Arv.set Ari1 qi1 Si1 Ni1' Hi1 Gi1 (fits_nar_char _) Wi1 1 rfl (Nat.le_of_ble_eq_true rfl)
  have Ni1 := Fr.snoc Xi1 Ni0 gb
  have Pi1 : ∀ t, Steps p.tables e below (Ti1.setTop (mkF m 15 #[.val (.int p1), .val (.int p2), .unset, .unset, .unset, .unset, .unset] [(.ref ba)])) t → Steps p.tables e below (s₁.setTop (entryFrame m #[(.int p1), (.int p2)] maxLocals)) t := by
    intro t k
    refine Pi0 t ?_
    show Steps p.tables e below (Ti0.setTop (mkF m 9 #[.val (.int p1), .val (.int p2), .unset, .unset, .unset, .unset, .unset] [(.ref ba)])) _
    refine XS.dup Xi0.here hx rfl (hb hby at_9) rfl rfl ?_
    show Steps p.tables e below (Ti0.setTop (mkF m 10 #[.val (.int p1), .val (.int p2), .unset, .unset, .unset, .unset, .unset] [(.ref ba), (.ref ba)])) _
    refine XS.iconst Xi0.here hx rfl (hb hby at_10) ?_
    show Steps p.tables e below (Ti0.setTop (mkF m 11 #[.val (.int p1), .val (.int p2), .unset, .unset, .unset, .unset, .unset] [(.int (1 : Int32)), (.ref ba), (.ref ba)])) _
    refine XS.sipush Xi0.here hx rfl (hb hby at_11) ?_
    refine sti1 _ ?_
    exact k
  obtain ⟨cli2, Ari2, qi2, Si2, Ni2', Hi2, Gi2⟩ := Vi1
  obtain ⟨Ti2, hi2, Xi2, ei2, Wi2, sti2⟩ := stC Xi1 hx hZ ei1 Ari2 (j := (2 : Int32)) (inb_of Si2 ⟨by decide, by decide⟩) (g := (mkF m 20 #[.val (.int p1), .val (.int p2), .unset, .unset, .unset, .unset, .unset] [(.int (163 : Int32)), (.int (2 : Int32)), (.ref ba), (.ref ba)])) rfl rfl (hb hby at_20)
  have Vi2 : Arv Z hi2 ba ka .char (16 : Int32) [(.int (36 : Int32)), (.int (162 : Int32)), (.int (163 : Int32)), (.int (0 : Int32)), (.int (0 : Int32)), (.int (0 : Int32)), (.int (0 : Int32)), (.int (0 : Int32)), (.int (0 : Int32)), (.int (0 : Int32)), (.int (0 : Int32)), (.int (0 : Int32)), (.int (0 : Int32)), (.int (0 : Int32)), (.int (0 : Int32)), (.int (0 : Int32))] (.int (0 : Int32)) := Arv.set Ari2 qi2 Si2 Ni2' Hi2 Gi2 (fits_nar_char _) Wi2 2 rfl (Nat.le_of_ble_eq_true rfl)
  have Ni2 := Fr.snoc Xi2 Ni1 gb
  have Pi2 : ∀ t, Steps p.tables e below (Ti2.setTop (mkF m 21 #[.val (.int p1), .val (.int p2), .unset, .unset, .unset, .unset, .unset] [(.ref ba)])) t → Steps p.tables e below (s₁.setTop (entryFrame m #[(.int p1), (.int p2)] maxLocals)) t := by
    intro t k
    refine Pi1 t ?_
    show Steps p.tables e below (Ti1.setTop (mkF m 15 #[.val (.int p1), .val (.int p2), .unset, .unset, .unset, .unset, .unset] [(.ref ba)])) _
    refine XS.dup Xi1.here hx rfl (hb hby at_15) rfl rfl ?_
    show Steps p.tables e below (Ti1.setTop (mkF m 16 #[.val (.int p1), .val (.int p2), .unset, .unset, .unset, .unset, .unset] [(.ref ba), (.ref ba)])) _
    refine XS.iconst Xi1.here hx rfl (hb hby at_16) ?_
    show Steps p.tables e below (Ti1.setTop (mkF m 17 #[.val (.int p1), .val (.int p2), .unset, .unset, .unset, .unset, .unset] [(.int (2 : Int32)), (.ref ba), (.ref ba)])) _
    refine XS.sipush Xi1.here hx rfl (hb hby at_17) ?_
    refine sti2 _ ?_
    exact k
  obtain ⟨cli3, Ari3, qi3, Si3, Ni3', Hi3, Gi3⟩ := Vi2
  obtain ⟨Ti3, hi3, Xi3, ei3, Wi3, sti3⟩ := stC Xi2 hx hZ ei2 Ari3 (j := (3 : Int32)) (inb_of Si3 ⟨by decide, by decide⟩) (g := (mkF m 26 #[.val (.int p1), .val (.int p2), .unset, .unset, .unset, .unset, .unset] [(.int (164 : Int32)), (.int (3 : Int32)), (.ref ba), (.ref ba)])) rfl rfl (hb hby at_26)
  have Vi3 : Arv Z hi3 ba ka .char (16 : Int32) [(.int (36 : Int32)), (.int (162 : Int32)), (.int (163 : Int32)), (.int (164 : Int32)), (.int (0 : Int32)), (.int (0 : Int32)), (.int (0 : Int32)), (.int (0 : Int32)), (.int (0 : Int32)), (.int (0 : Int32)), (.int (0 : Int32)), (.int (0 : Int32)), (.int (0 : Int32)), (.int (0 : Int32)), (.int (0 : Int32)), (.int (0 : Int32))] (.int (0 : Int32)) := Arv.set Ari3 qi3 Si3 Ni3' Hi3 Gi3 (fits_nar_char _) Wi3 3 rfl (Nat.le_of_ble_eq_true rfl)
  have Ni3 := Fr.snoc Xi3 Ni2 gb
  have Pi3 : ∀ t, Steps p.tables e below (Ti3.setTop (mkF m 27 #[.val (.int p1), .val (.int p2), .unset, .unset, .unset, .unset, .unset] [(.ref ba)])) t → Steps p.tables e below (s₁.setTop (entryFrame m #[(.int p1), (.int p2)] maxLocals)) t := by
    intro t k
    refine Pi2 t ?_
    show Steps p.tables e below (Ti2.setTop (mkF m 21 #[.val (.int p1), .val (.int p2), .unset, .unset, .unset, .unset, .unset] [(.ref ba)])) _
    refine XS.dup Xi2.here hx rfl (hb hby at_21) rfl rfl ?_
    show Steps p.tables e below (Ti2.setTop (mkF m 22 #[.val (.int p1), .val (.int p2), .unset, .unset, .unset, .unset, .unset] [(.ref ba), (.ref ba)])) _
    refine XS.iconst Xi2.here hx rfl (hb hby at_22) ?_
    show Steps p.tables e below (Ti2.setTop (mkF m 23 #[.val (.int p1), .val (.int p2), .unset, .unset, .unset, .unset, .unset] [(.int (3 : Int32)), (.ref ba), (.ref ba)])) _
    refine XS.sipush Xi2.here hx rfl (hb hby at_23) ?_
    refine sti3 _ ?_
    exact k
  obtain ⟨cli4, Ari4, qi4, Si4, Ni4', Hi4, Gi4⟩ := Vi3
  obtain ⟨Ti4, hi4, Xi4, ei4, Wi4, sti4⟩ := stC Xi3 hx hZ ei3 Ari4 (j := (4 : Int32)) (inb_of Si4 ⟨by decide, by decide⟩) (g := (mkF m 32 #[.val (.int p1), .val (.int p2), .unset, .unset, .unset, .unset, .unset] [(.int (165 : Int32)), (.int (4 : Int32)), (.ref ba), (.ref ba)])) rfl rfl (hb hby at_32)
  have Vi4 : Arv Z hi4 ba ka .char (16 : Int32) [(.int (36 : Int32)), (.int (162 : Int32)), (.int (163 : Int32)), (.int (164 : Int32)), (.int (165 : Int32)), (.int (0 : Int32)), (.int (0 : Int32)), (.int (0 : Int32)), (.int (0 : Int32)), (.int (0 : Int32)), (.int (0 : Int32)), (.int (0 : Int32)), (.int (0 : Int32)), (.int (0 : Int32)), (.int (0 : Int32)), (.int (0 : Int32))] (.int (0 : Int32)) := Arv.set Ari4 qi4 Si4 Ni4' Hi4 Gi4 (fits_nar_char _) Wi4 4 rfl (Nat.le_of_ble_eq_true rfl)
  have Ni4 := Fr.snoc Xi4 Ni3 gb
  have Pi4 : ∀ t, Steps p.tables e below (Ti4.setTop (mkF m 33 #[.val (.int p1), .val (.int p2), .unset, .unset, .unset, .unset, .unset] [(.ref ba)])) t → Steps p.tables e below (s₁.setTop (entryFrame m #[(.int p1), (.int p2)] maxLocals)) t := by
    intro t k
    refine Pi3 t ?_
    show Steps p.tables e below (Ti3.setTop (mkF m 27 #[.val (.int p1), .val (.int p2), .unset, .unset, .unset, .unset, .unset] [(.ref ba)])) _
    refine XS.dup Xi3.here hx rfl (hb hby at_27) rfl rfl ?_
    show Steps p.tables e below (Ti3.setTop (mkF m 28 #[.val (.int p1), .val (.int p2), .unset, .unset, .unset, .unset, .unset] [(.ref ba), (.ref ba)])) _
    refine XS.iconst Xi3.here hx rfl (hb hby at_28) ?_
    show Steps p.tables e below (Ti3.setTop (mkF m 29 #[.val (.int p1), .val (.int p2), .unset, .unset, .unset, .unset, .unset] [(.int (4 : Int32)), (.ref ba), (.ref ba)])) _
    refine XS.sipush Xi3.here hx rfl (hb hby at_29) ?_
    refine sti4 _ ?_
    exact k
  obtain ⟨cli5, Ari5, qi5, Si5, Ni5', Hi5, Gi5⟩ := Vi4
  obtain ⟨Ti5, hi5, Xi5, ei5, Wi5, sti5⟩ := stC Xi4 hx hZ ei4 Ari5 (j := (5 : Int32)) (inb_of Si5 ⟨by decide, by decide⟩) (g := (mkF m 38 #[.val (.int p1), .val (.int p2), .unset, .unset, .unset, .unset, .unset] [(.int (2546 : Int32)), (.int (5 : Int32)), (.ref ba), (.ref ba)])) rfl rfl (hb hby at_38)
  have Vi5 : Arv Z hi5 ba ka .char (16 : Int32) [(.int (36 : Int32)), (.int (162 : Int32)), (.int (163 : Int32)), (.int (164 : Int32)), (.int (165 : Int32)), (.int (2546 : Int32)), (.int (0 : Int32)), (.int (0 : Int32)), (.int (0 : Int32)), (.int (0 : Int32)), (.int (0 : Int32)), (.int (0 : Int32)), (.int (0 : Int32)), (.int (0 : Int32)), (.int (0 : Int32)), (.int (0 : Int32))] (.int (0 : Int32)) := Arv.set Ari5 qi5 Si5 Ni5' Hi5 Gi5 (fits_nar_char _) Wi5 5 rfl (Nat.le_of_ble_eq_true rfl)
  have Ni5 := Fr.snoc Xi5 Ni4 gb
  have Pi5 : ∀ t, Steps p.tables e below (Ti5.setTop (mkF m 39 #[.val (.int p1), .val (.int p2), .unset, .unset, .unset, .unset, .unset] [(.ref ba)])) t → Steps p.tables e below (s₁.setTop (entryFrame m #[(.int p1), (.int p2)] maxLocals)) t := by
    intro t k
    refine Pi4 t ?_
    show Steps p.tables e below (Ti4.setTop (mkF m 33 #[.val (.int p1), .val (.int p2), .unset, .unset, .unset, .unset, .unset] [(.ref ba)])) _
    refine XS.dup Xi4.here hx rfl (hb hby at_33) rfl rfl ?_
    show Steps p.tables e below (Ti4.setTop (mkF m 34 #[.val (.int p1), .val (.int p2), .unset, .unset, .unset, .unset, .unset] [(.ref ba), (.ref ba)])) _
    refine XS.iconst Xi4.here hx rfl (hb hby at_34) ?_
    show Steps p.tables e below (Ti4.setTop (mkF m 35 #[.val (.int p1), .val (.int p2), .unset, .unset, .unset, .unset, .unset] [(.int (5 : Int32)), (.ref ba), (.ref ba)])) _
    refine XS.sipush Xi4.here hx rfl (hb hby at_35) ?_
    refine sti5 _ ?_
    exact k
  obtain ⟨cli6, Ari6, qi6, Si6, Ni6', Hi6, Gi6⟩ := Vi5
  obtain ⟨Ti6, hi6, Xi6, ei6, Wi6, sti6⟩ := stC Xi5 hx hZ ei5 Ari6 (j := (6 : Int32)) (inb_of Si6 ⟨by decide, by decide⟩) (g := (mkF m 45 #[.val (.int p1), .val (.int p2), .unset, .unset, .unset, .unset, .unset] [(.int (2547 : Int32)), (.int (6 : Int32)), (.ref ba), (.ref ba)])) rfl rfl (hb hby at_45)
  have Vi6 : Arv Z hi6 ba ka .char (16 : Int32) [(.int (36 : Int32)), (.int (162 : Int32)), (.int (163 : Int32)), (.int (164 : Int32)), (.int (165 : Int32)), (.int (2546 : Int32)), (.int (2547 : Int32)), (.int (0 : Int32)), (.int (0 : Int32)), (.int (0 : Int32)), (.int (0 : Int32)), (.int (0 : Int32)), (.int (0 : Int32)), (.int (0 : Int32)), (.int (0 : Int32)), (.int (0 : Int32))] (.int (0 : Int32)) := Arv.set Ari6 qi6 Si6 Ni6' Hi6 Gi6 (fits_nar_char _) Wi6 6 rfl (Nat.le_of_ble_eq_true rfl)
  have Ni6 := Fr.snoc Xi6 Ni5 gb
  have Pi6 : ∀ t, Steps p.tables e below (Ti6.setTop (mkF m 46 #[.val (.int p1), .val (.int p2), .unset, .unset, .unset, .unset, .unset] [(.ref ba)])) t → Steps p.tables e below (s₁.setTop (entryFrame m #[(.int p1), (.int p2)] maxLocals)) t := by
    intro t k
    refine Pi5 t ?_
    show Steps p.tables e below (Ti5.setTop (mkF m 39 #[.val (.int p1), .val (.int p2), .unset, .unset, .unset, .unset, .unset] [(.ref ba)])) _
    refine XS.dup Xi5.here hx rfl (hb hby at_39) rfl rfl ?_
    show Steps p.tables e below (Ti5.setTop (mkF m 40 #[.val (.int p1), .val (.int p2), .unset, .unset, .unset, .unset, .unset] [(.ref ba), (.ref ba)])) _
    refine XS.bipush Xi5.here hx rfl (hb hby at_40) ?_
    show Steps p.tables e below (Ti5.setTop (mkF m 42 #[.val (.int p1), .val (.int p2), .unset, .unset, .unset, .unset, .unset] [(.int (6 : Int32)), (.ref ba), (.ref ba)])) _
    refine XS.sipush Xi5.here hx rfl (hb hby at_42) ?_
    refine sti6 _ ?_
    exact k
  obtain ⟨cli7, Ari7, qi7, Si7, Ni7', Hi7, Gi7⟩ := Vi6
  obtain ⟨Ti7, hi7, Xi7, ei7, Wi7, sti7⟩ := stC Xi6 hx hZ ei6 Ari7 (j := (7 : Int32)) (inb_of Si7 ⟨by decide, by decide⟩) (g := (mkF m 52 #[.val (.int p1), .val (.int p2), .unset, .unset, .unset, .unset, .unset] [(.int (3647 : Int32)), (.int (7 : Int32)), (.ref ba), (.ref ba)])) rfl rfl (hb hby at_52)
  have Vi7 : Arv Z hi7 ba ka .char (16 : Int32) [(.int (36 : Int32)), (.int (162 : Int32)), (.int (163 : Int32)), (.int (164 : Int32)), (.int (165 : Int32)), (.int (2546 : Int32)), (.int (2547 : Int32)), (.int (3647 : Int32)), (.int (0 : Int32)), (.int (0 : Int32)), (.int (0 : Int32)), (.int (0 : Int32)), (.int (0 : Int32)), (.int (0 : Int32)), (.int (0 : Int32)), (.int (0 : Int32))] (.int (0 : Int32)) := Arv.set Ari7 qi7 Si7 Ni7' Hi7 Gi7 (fits_nar_char _) Wi7 7 rfl (Nat.le_of_ble_eq_true rfl)
  have Ni7 := Fr.snoc Xi7 Ni6 gb
  have Pi7 : ∀ t, Steps p.tables e below (Ti7.setTop (mkF m 53 #[.val (.int p1), .val (.int p2), .unset, .unset, .unset, .unset, .unset] [(.ref ba)])) t → Steps p.tables e below (s₁.setTop (entryFrame m #[(.int p1), (.int p2)] maxLocals)) t := by
    intro t k
    refine Pi6 t ?_
    show Steps p.tables e below (Ti6.setTop (mkF m 46 #[.val (.int p1), .val (.int p2), .unset, .unset, .unset, .unset, .unset] [(.ref ba)])) _
    refine XS.dup Xi6.here hx rfl (hb hby at_46) rfl rfl ?_
    show Steps p.tables e below (Ti6.setTop (mkF m 47 #[.val (.int p1), .val (.int p2), .unset, .unset, .unset, .unset, .unset] [(.ref ba), (.ref ba)])) _
    refine XS.bipush Xi6.here hx rfl (hb hby at_47) ?_
    show Steps p.tables e below (Ti6.setTop (mkF m 49 #[.val (.int p1), .val (.int p2), .unset, .unset, .unset, .unset, .unset] [(.int (7 : Int32)), (.ref ba), (.ref ba)])) _
    refine XS.sipush Xi6.here hx rfl (hb hby at_49) ?_
    refine sti7 _ ?_
    exact k
  obtain ⟨cli8, Ari8, qi8, Si8, Ni8', Hi8, Gi8⟩ := Vi7
  obtain ⟨Ti8, hi8, Xi8, ei8, Wi8, sti8⟩ := stC Xi7 hx hZ ei7 Ari8 (j := (8 : Int32)) (inb_of Si8 ⟨by decide, by decide⟩) (g := (mkF m 59 #[.val (.int p1), .val (.int p2), .unset, .unset, .unset, .unset, .unset] [(.int (6107 : Int32)), (.int (8 : Int32)), (.ref ba), (.ref ba)])) rfl rfl (hb hby at_59)
  have Vi8 : Arv Z hi8 ba ka .char (16 : Int32) [(.int (36 : Int32)), (.int (162 : Int32)), (.int (163 : Int32)), (.int (164 : Int32)), (.int (165 : Int32)), (.int (2546 : Int32)), (.int (2547 : Int32)), (.int (3647 : Int32)), (.int (6107 : Int32)), (.int (0 : Int32)), (.int (0 : Int32)), (.int (0 : Int32)), (.int (0 : Int32)), (.int (0 : Int32)), (.int (0 : Int32)), (.int (0 : Int32))] (.int (0 : Int32)) := Arv.set Ari8 qi8 Si8 Ni8' Hi8 Gi8 (fits_nar_char _) Wi8 8 rfl (Nat.le_of_ble_eq_true rfl)
  have Ni8 := Fr.snoc Xi8 Ni7 gb
  have Pi8 : ∀ t, Steps p.tables e below (Ti8.setTop (mkF m 60 #[.val (.int p1), .val (.int p2), .unset, .unset, .unset, .unset, .unset] [(.ref ba)])) t → Steps p.tables e below (s₁.setTop (entryFrame m #[(.int p1), (.int p2)] maxLocals)) t := by
    intro t k
    refine Pi7 t ?_
    show Steps p.tables e below (Ti7.setTop (mkF m 53 #[.val (.int p1), .val (.int p2), .unset, .unset, .unset, .unset, .unset] [(.ref ba)])) _
    refine XS.dup Xi7.here hx rfl (hb hby at_53) rfl rfl ?_
    show Steps p.tables e below (Ti7.setTop (mkF m 54 #[.val (.int p1), .val (.int p2), .unset, .unset, .unset, .unset, .unset] [(.ref ba), (.ref ba)])) _
    refine XS.bipush Xi7.here hx rfl (hb hby at_54) ?_
    show Steps p.tables e below (Ti7.setTop (mkF m 56 #[.val (.int p1), .val (.int p2), .unset, .unset, .unset, .unset, .unset] [(.int (8 : Int32)), (.ref ba), (.ref ba)])) _
    refine XS.sipush Xi7.here hx rfl (hb hby at_56) ?_
    refine sti8 _ ?_
    exact k
  obtain ⟨cli9, Ari9, qi9, Si9, Ni9', Hi9, Gi9⟩ := Vi8
  obtain ⟨Ti9, hi9, Xi9, ei9, Wi9, sti9⟩ := stC Xi8 hx hZ ei8 Ari9 (j := (9 : Int32)) (inb_of Si9 ⟨by decide, by decide⟩) (g := (mkF m 65 #[.val (.int p1), .val (.int p2), .unset, .unset, .unset, .unset, .unset] [(.int (65020 : Int32)), (.int (9 : Int32)), (.ref ba), (.ref ba)])) rfl rfl (hb hby at_65)
  have Vi9 : Arv Z hi9 ba ka .char (16 : Int32) [(.int (36 : Int32)), (.int (162 : Int32)), (.int (163 : Int32)), (.int (164 : Int32)), (.int (165 : Int32)), (.int (2546 : Int32)), (.int (2547 : Int32)), (.int (3647 : Int32)), (.int (6107 : Int32)), (.int (65020 : Int32)), (.int (0 : Int32)), (.int (0 : Int32)), (.int (0 : Int32)), (.int (0 : Int32)), (.int (0 : Int32)), (.int (0 : Int32))] (.int (0 : Int32)) := Arv.set Ari9 qi9 Si9 Ni9' Hi9 Gi9 (fits_nar_char _) Wi9 9 rfl (Nat.le_of_ble_eq_true rfl)
  have Ni9 := Fr.snoc Xi9 Ni8 gb
  have Pi9 : ∀ t, Steps p.tables e below (Ti9.setTop (mkF m 66 #[.val (.int p1), .val (.int p2), .unset, .unset, .unset, .unset, .unset] [(.ref ba)])) t → Steps p.tables e below (s₁.setTop (entryFrame m #[(.int p1), (.int p2)] maxLocals)) t := by
    intro t k
    refine Pi8 t ?_
    show Steps p.tables e below (Ti8.setTop (mkF m 60 #[.val (.int p1), .val (.int p2), .unset, .unset, .unset, .unset, .unset] [(.ref ba)])) _
    refine XS.dup Xi8.here hx rfl (hb hby at_60) rfl rfl ?_
    show Steps p.tables e below (Ti8.setTop (mkF m 61 #[.val (.int p1), .val (.int p2), .unset, .unset, .unset, .unset, .unset] [(.ref ba), (.ref ba)])) _
    refine XS.bipush Xi8.here hx rfl (hb hby at_61) ?_
    show Steps p.tables e below (Ti8.setTop (mkF m 63 #[.val (.int p1), .val (.int p2), .unset, .unset, .unset, .unset, .unset] [(.int (9 : Int32)), (.ref ba), (.ref ba)])) _
    refine Jvm.Stand.ldcI Xi8 hx hown (mvT hZ (hw _ (List.mem_of_getElem? (i := 1) rfl))) rfl (hb hby at_63) ?_
    refine sti9 _ ?_
    exact k
  obtain ⟨cli10, Ari10, qi10, Si10, Ni10', Hi10, Gi10⟩ := Vi9
  obtain ⟨Ti10, hi10, Xi10, ei10, Wi10, sti10⟩ := stC Xi9 hx hZ ei9 Ari10 (j := (10 : Int32)) (inb_of Si10 ⟨by decide, by decide⟩) (g := (mkF m 71 #[.val (.int p1), .val (.int p2), .unset, .unset, .unset, .unset, .unset] [(.int (65129 : Int32)), (.int (10 : Int32)), (.ref ba), (.ref ba)])) rfl rfl (hb hby at_71)
  have Vi10 : Arv Z hi10 ba ka .char (16 : Int32) [(.int (36 : Int32)), (.int (162 : Int32)), (.int (163 : Int32)), (.int (164 : Int32)), (.int (165 : Int32)), (.int (2546 : Int32)), (.int (2547 : Int32)), (.int (3647 : Int32)), (.int (6107 : Int32)), (.int (65020 : Int32)), (.int (65129 : Int32)), (.int (0 : Int32)), (.int (0 : Int32)), (.int (0 : Int32)), (.int (0 : Int32)), (.int (0 : Int32))] (.int (0 : Int32)) := Arv.set Ari10 qi10 Si10 Ni10' Hi10 Gi10 (fits_nar_char _) Wi10 10 rfl (Nat.le_of_ble_eq_true rfl)
  have Ni10 := Fr.snoc Xi10 Ni9 gb
  have Pi10 : ∀ t, Steps p.tables e below (Ti10.setTop (mkF m 72 #[.val (.int p1), .val (.int p2), .unset, .unset, .unset, .unset, .unset] [(.ref ba)])) t → Steps p.tables e below (s₁.setTop (entryFrame m #[(.int p1), (.int p2)] maxLocals)) t := by
    intro t k
    refine Pi9 t ?_
    show Steps p.tables e below (Ti9.setTop (mkF m 66 #[.val (.int p1), .val (.int p2), .unset, .unset, .unset, .unset, .unset] [(.ref ba)])) _
    refine XS.dup Xi9.here hx rfl (hb hby at_66) rfl rfl ?_
    show Steps p.tables e below (Ti9.setTop (mkF m 67 #[.val (.int p1), .val (.int p2), .unset, .unset, .unset, .unset, .unset] [(.ref ba), (.ref ba)])) _
    refine XS.bipush Xi9.here hx rfl (hb hby at_67) ?_
    show Steps p.tables e below (Ti9.setTop (mkF m 69 #[.val (.int p1), .val (.int p2), .unset, .unset, .unset, .unset, .unset] [(.int (10 : Int32)), (.ref ba), (.ref ba)])) _
    refine Jvm.Stand.ldcI Xi9 hx hown (mvT hZ (hw _ (List.mem_of_getElem? (i := 2) rfl))) rfl (hb hby at_69) ?_
    refine sti10 _ ?_
    exact k
  obtain ⟨cli11, Ari11, qi11, Si11, Ni11', Hi11, Gi11⟩ := Vi10
  obtain ⟨Ti11, hi11, Xi11, ei11, Wi11, sti11⟩ := stC Xi10 hx hZ ei10 Ari11 (j := (11 : Int32)) (inb_of Si11 ⟨by decide, by decide⟩) (g := (mkF m 77 #[.val (.int p1), .val (.int p2), .unset, .unset, .unset, .unset, .unset] [(.int (65284 : Int32)), (.int (11 : Int32)), (.ref ba), (.ref ba)])) rfl rfl (hb hby at_77)
  have Vi11 : Arv Z hi11 ba ka .char (16 : Int32) [(.int (36 : Int32)), (.int (162 : Int32)), (.int (163 : Int32)), (.int (164 : Int32)), (.int (165 : Int32)), (.int (2546 : Int32)), (.int (2547 : Int32)), (.int (3647 : Int32)), (.int (6107 : Int32)), (.int (65020 : Int32)), (.int (65129 : Int32)), (.int (65284 : Int32)), (.int (0 : Int32)), (.int (0 : Int32)), (.int (0 : Int32)), (.int (0 : Int32))] (.int (0 : Int32)) := Arv.set Ari11 qi11 Si11 Ni11' Hi11 Gi11 (fits_nar_char _) Wi11 11 rfl (Nat.le_of_ble_eq_true rfl)
  have Ni11 := Fr.snoc Xi11 Ni10 gb
  have Pi11 : ∀ t, Steps p.tables e below (Ti11.setTop (mkF m 78 #[.val (.int p1), .val (.int p2), .unset, .unset, .unset, .unset, .unset] [(.ref ba)])) t → Steps p.tables e below (s₁.setTop (entryFrame m #[(.int p1), (.int p2)] maxLocals)) t := by
    intro t k
    refine Pi10 t ?_
    show Steps p.tables e below (Ti10.setTop (mkF m 72 #[.val (.int p1), .val (.int p2), .unset, .unset, .unset, .unset, .unset] [(.ref ba)])) _
    refine XS.dup Xi10.here hx rfl (hb hby at_72) rfl rfl ?_
    show Steps p.tables e below (Ti10.setTop (mkF m 73 #[.val (.int p1), .val (.int p2), .unset, .unset, .unset, .unset, .unset] [(.ref ba), (.ref ba)])) _
    refine XS.bipush Xi10.here hx rfl (hb hby at_73) ?_
    show Steps p.tables e below (Ti10.setTop (mkF m 75 #[.val (.int p1), .val (.int p2), .unset, .unset, .unset, .unset, .unset] [(.int (11 : Int32)), (.ref ba), (.ref ba)])) _
    refine Jvm.Stand.ldcI Xi10 hx hown (mvT hZ (hw _ (List.mem_of_getElem? (i := 3) rfl))) rfl (hb hby at_75) ?_
    refine sti11 _ ?_
    exact k
  obtain ⟨cli12, Ari12, qi12, Si12, Ni12', Hi12, Gi12⟩ := Vi11
  obtain ⟨Ti12, hi12, Xi12, ei12, Wi12, sti12⟩ := stC Xi11 hx hZ ei11 Ari12 (j := (12 : Int32)) (inb_of Si12 ⟨by decide, by decide⟩) (g := (mkF m 83 #[.val (.int p1), .val (.int p2), .unset, .unset, .unset, .unset, .unset] [(.int (65504 : Int32)), (.int (12 : Int32)), (.ref ba), (.ref ba)])) rfl rfl (hb hby at_83)
  have Vi12 : Arv Z hi12 ba ka .char (16 : Int32) [(.int (36 : Int32)), (.int (162 : Int32)), (.int (163 : Int32)), (.int (164 : Int32)), (.int (165 : Int32)), (.int (2546 : Int32)), (.int (2547 : Int32)), (.int (3647 : Int32)), (.int (6107 : Int32)), (.int (65020 : Int32)), (.int (65129 : Int32)), (.int (65284 : Int32)), (.int (65504 : Int32)), (.int (0 : Int32)), (.int (0 : Int32)), (.int (0 : Int32))] (.int (0 : Int32)) := Arv.set Ari12 qi12 Si12 Ni12' Hi12 Gi12 (fits_nar_char _) Wi12 12 rfl (Nat.le_of_ble_eq_true rfl)
  have Ni12 := Fr.snoc Xi12 Ni11 gb
  have Pi12 : ∀ t, Steps p.tables e below (Ti12.setTop (mkF m 84 #[.val (.int p1), .val (.int p2), .unset, .unset, .unset, .unset, .unset] [(.ref ba)])) t → Steps p.tables e below (s₁.setTop (entryFrame m #[(.int p1), (.int p2)] maxLocals)) t := by
    intro t k
    refine Pi11 t ?_
    show Steps p.tables e below (Ti11.setTop (mkF m 78 #[.val (.int p1), .val (.int p2), .unset, .unset, .unset, .unset, .unset] [(.ref ba)])) _
    refine XS.dup Xi11.here hx rfl (hb hby at_78) rfl rfl ?_
    show Steps p.tables e below (Ti11.setTop (mkF m 79 #[.val (.int p1), .val (.int p2), .unset, .unset, .unset, .unset, .unset] [(.ref ba), (.ref ba)])) _
    refine XS.bipush Xi11.here hx rfl (hb hby at_79) ?_
    show Steps p.tables e below (Ti11.setTop (mkF m 81 #[.val (.int p1), .val (.int p2), .unset, .unset, .unset, .unset, .unset] [(.int (12 : Int32)), (.ref ba), (.ref ba)])) _
    refine Jvm.Stand.ldcI Xi11 hx hown (mvT hZ (hw _ (List.mem_of_getElem? (i := 4) rfl))) rfl (hb hby at_81) ?_
    refine sti12 _ ?_
    exact k
  obtain ⟨cli13, Ari13, qi13, Si13, Ni13', Hi13, Gi13⟩ := Vi12
  obtain ⟨Ti13, hi13, Xi13, ei13, Wi13, sti13⟩ := stC Xi12 hx hZ ei12 Ari13 (j := (13 : Int32)) (inb_of Si13 ⟨by decide, by decide⟩) (g := (mkF m 89 #[.val (.int p1), .val (.int p2), .unset, .unset, .unset, .unset, .unset] [(.int (65505 : Int32)), (.int (13 : Int32)), (.ref ba), (.ref ba)])) rfl rfl (hb hby at_89)
  have Vi13 : Arv Z hi13 ba ka .char (16 : Int32) [(.int (36 : Int32)), (.int (162 : Int32)), (.int (163 : Int32)), (.int (164 : Int32)), (.int (165 : Int32)), (.int (2546 : Int32)), (.int (2547 : Int32)), (.int (3647 : Int32)), (.int (6107 : Int32)), (.int (65020 : Int32)), (.int (65129 : Int32)), (.int (65284 : Int32)), (.int (65504 : Int32)), (.int (65505 : Int32)), (.int (0 : Int32)), (.int (0 : Int32))] (.int (0 : Int32)) := Arv.set Ari13 qi13 Si13 Ni13' Hi13 Gi13 (fits_nar_char _) Wi13 13 rfl (Nat.le_of_ble_eq_true rfl)
  have Ni13 := Fr.snoc Xi13 Ni12 gb
  have Pi13 : ∀ t, Steps p.tables e below (Ti13.setTop (mkF m 90 #[.val (.int p1), .val (.int p2), .unset, .unset, .unset, .unset, .unset] [(.ref ba)])) t → Steps p.tables e below (s₁.setTop (entryFrame m #[(.int p1), (.int p2)] maxLocals)) t := by
    intro t k
    refine Pi12 t ?_
    show Steps p.tables e below (Ti12.setTop (mkF m 84 #[.val (.int p1), .val (.int p2), .unset, .unset, .unset, .unset, .unset] [(.ref ba)])) _
    refine XS.dup Xi12.here hx rfl (hb hby at_84) rfl rfl ?_
    show Steps p.tables e below (Ti12.setTop (mkF m 85 #[.val (.int p1), .val (.int p2), .unset, .unset, .unset, .unset, .unset] [(.ref ba), (.ref ba)])) _
    refine XS.bipush Xi12.here hx rfl (hb hby at_85) ?_
    show Steps p.tables e below (Ti12.setTop (mkF m 87 #[.val (.int p1), .val (.int p2), .unset, .unset, .unset, .unset, .unset] [(.int (13 : Int32)), (.ref ba), (.ref ba)])) _
    refine Jvm.Stand.ldcI Xi12 hx hown (mvT hZ (hw _ (List.mem_of_getElem? (i := 5) rfl))) rfl (hb hby at_87) ?_
    refine sti13 _ ?_
    exact k
  obtain ⟨cli14, Ari14, qi14, Si14, Ni14', Hi14, Gi14⟩ := Vi13
  obtain ⟨Ti14, hi14, Xi14, ei14, Wi14, sti14⟩ := stC Xi13 hx hZ ei13 Ari14 (j := (14 : Int32)) (inb_of Si14 ⟨by decide, by decide⟩) (g := (mkF m 95 #[.val (.int p1), .val (.int p2), .unset, .unset, .unset, .unset, .unset] [(.int (65509 : Int32)), (.int (14 : Int32)), (.ref ba), (.ref ba)])) rfl rfl (hb hby at_95)
  have Vi14 : Arv Z hi14 ba ka .char (16 : Int32) [(.int (36 : Int32)), (.int (162 : Int32)), (.int (163 : Int32)), (.int (164 : Int32)), (.int (165 : Int32)), (.int (2546 : Int32)), (.int (2547 : Int32)), (.int (3647 : Int32)), (.int (6107 : Int32)), (.int (65020 : Int32)), (.int (65129 : Int32)), (.int (65284 : Int32)), (.int (65504 : Int32)), (.int (65505 : Int32)), (.int (65509 : Int32)), (.int (0 : Int32))] (.int (0 : Int32)) := Arv.set Ari14 qi14 Si14 Ni14' Hi14 Gi14 (fits_nar_char _) Wi14 14 rfl (Nat.le_of_ble_eq_true rfl)
  have Ni14 := Fr.snoc Xi14 Ni13 gb
  have Pi14 : ∀ t, Steps p.tables e below (Ti14.setTop (mkF m 96 #[.val (.int p1), .val (.int p2), .unset, .unset, .unset, .unset, .unset] [(.ref ba)])) t → Steps p.tables e below (s₁.setTop (entryFrame m #[(.int p1), (.int p2)] maxLocals)) t := by
    intro t k
    refine Pi13 t ?_
    show Steps p.tables e below (Ti13.setTop (mkF m 90 #[.val (.int p1), .val (.int p2), .unset, .unset, .unset, .unset, .unset] [(.ref ba)])) _
    refine XS.dup Xi13.here hx rfl (hb hby at_90) rfl rfl ?_
    show Steps p.tables e below (Ti13.setTop (mkF m 91 #[.val (.int p1), .val (.int p2), .unset, .unset, .unset, .unset, .unset] [(.ref ba), (.ref ba)])) _
    refine XS.bipush Xi13.here hx rfl (hb hby at_91) ?_
    show Steps p.tables e below (Ti13.setTop (mkF m 93 #[.val (.int p1), .val (.int p2), .unset, .unset, .unset, .unset, .unset] [(.int (14 : Int32)), (.ref ba), (.ref ba)])) _
    refine Jvm.Stand.ldcI Xi13 hx hown (mvT hZ (hw _ (List.mem_of_getElem? (i := 6) rfl))) rfl (hb hby at_93) ?_
    refine sti14 _ ?_
    exact k
  obtain ⟨cli15, Ari15, qi15, Si15, Ni15', Hi15, Gi15⟩ := Vi14
  obtain ⟨Ti15, hi15, Xi15, ei15, Wi15, sti15⟩ := stC Xi14 hx hZ ei14 Ari15 (j := (15 : Int32)) (inb_of Si15 ⟨by decide, by decide⟩) (g := (mkF m 101 #[.val (.int p1), .val (.int p2), .unset, .unset, .unset, .unset, .unset] [(.int (65510 : Int32)), (.int (15 : Int32)), (.ref ba), (.ref ba)])) rfl rfl (hb hby at_101)
  have Vi15 : Arv Z hi15 ba ka .char (16 : Int32) [(.int (36 : Int32)), (.int (162 : Int32)), (.int (163 : Int32)), (.int (164 : Int32)), (.int (165 : Int32)), (.int (2546 : Int32)), (.int (2547 : Int32)), (.int (3647 : Int32)), (.int (6107 : Int32)), (.int (65020 : Int32)), (.int (65129 : Int32)), (.int (65284 : Int32)), (.int (65504 : Int32)), (.int (65505 : Int32)), (.int (65509 : Int32)), (.int (65510 : Int32))] (.int (0 : Int32)) := Arv.set Ari15 qi15 Si15 Ni15' Hi15 Gi15 (fits_nar_char _) Wi15 15 rfl (Nat.le_of_ble_eq_true rfl)
  have Ni15 := Fr.snoc Xi15 Ni14 gb
  have Pi15 : ∀ t, Steps p.tables e below (Ti15.setTop (mkF m 102 #[.val (.int p1), .val (.int p2), .unset, .unset, .unset, .unset, .unset] [(.ref ba)])) t → Steps p.tables e below (s₁.setTop (entryFrame m #[(.int p1), (.int p2)] maxLocals)) t := by
    intro t k
    refine Pi14 t ?_
    show Steps p.tables e below (Ti14.setTop (mkF m 96 #[.val (.int p1), .val (.int p2), .unset, .unset, .unset, .unset, .unset] [(.ref ba)])) _
    refine XS.dup Xi14.here hx rfl (hb hby at_96) rfl rfl ?_
    show Steps p.tables e below (Ti14.setTop (mkF m 97 #[.val (.int p1), .val (.int p2), .unset, .unset, .unset, .unset, .unset] [(.ref ba), (.ref ba)])) _
    refine XS.bipush Xi14.here hx rfl (hb hby at_97) ?_
    show Steps p.tables e below (Ti14.setTop (mkF m 99 #[.val (.int p1), .val (.int p2), .unset, .unset, .unset, .unset, .unset] [(.int (15 : Int32)), (.ref ba), (.ref ba)])) _
    refine Jvm.Stand.ldcI Xi14 hx hown (mvT hZ (hw _ (List.mem_of_getElem? (i := 7) rfl))) rfl (hb hby at_99) ?_
    refine sti15 _ ?_
    exact k
  have VV : Arv Z hi15 ba ka .char (16 : Int32) own_vs (.int (0 : Int32)) := Vi15
  obtain ⟨cl, Ar, qc, Sc, Nc, Hc, Gc⟩ := id VV
  have hj1 : (p2 &&& (15 : Int32)).toInt = p2.toInt % 16 := c_mask p2 15 4 (by decide) (by decide)
  have hin : ¬ ((p2 &&& (15 : Int32)) < 0 ∨ cl.slots.size ≤ (p2 &&& (15 : Int32)).toNatClampNeg) := inb_of Sc ⟨by rw [Int32.lt_iff_toInt_lt, show (0 : Int32).toInt = 0 from rfl]; omega, by rw [Int32.lt_iff_toInt_lt, show (16 : Int32).toInt = 16 from by decide]; omega⟩
  obtain ⟨w, hat⟩ : ∃ w : Int32, cl.slots[(p2 &&& (15 : Int32)).toNatClampNeg]? = some (.int w) := by
    have hlt := Nat.lt_of_not_le fun q => hin (Or.inr q)
    have h1 := Hc _ hlt
    have h2 := Gc _ hlt
    rw [h1]
    revert h2
    generalize (List.getD _ _ _ : Value) = v
    intro h2
    cases v <;> first | exact ⟨_, rfl⟩ | (simp [fits] at h2)
  obtain ⟨z, kA⟩ : ∃ z : Int32, ∀ t, Steps p.tables e below (Ti15.setTop (mkF m 176 #[.val (.int p1), .val (.int p2), .val (.ref ba), .val (.int (p1 &&& (3 : Int32))), .val (.int z), .unset, .unset] [])) t → Steps p.tables e below (Ti15.setTop (mkF m 102 #[.val (.int p1), .val (.int p2), .unset, .unset, .unset, .unset, .unset] [(.ref ba)])) t := by
    have pre102 : ∀ t, Steps p.tables e below (Ti15.setTop (mkF m 108 #[.val (.int p1), .val (.int p2), .val (.ref ba), .val (.int (p1 &&& (3 : Int32))), .unset, .unset, .unset] [(.int (p1 &&& (3 : Int32)))])) t → Steps p.tables e below (Ti15.setTop (mkF m 102 #[.val (.int p1), .val (.int p2), .unset, .unset, .unset, .unset, .unset] [(.ref ba)])) t := by
      intro t k
      show Steps p.tables e below (Ti15.setTop (mkF m 102 #[.val (.int p1), .val (.int p2), .unset, .unset, .unset, .unset, .unset] [(.ref ba)])) _
      refine XS.astoreN Xi15.here hx rfl (hb hby at_102) rfl rfl (l' := #[.val (.int p1), .val (.int p2), .val (.ref ba), .unset, .unset, .unset, .unset]) rfl ?_
      show Steps p.tables e below (Ti15.setTop (mkF m 103 #[.val (.int p1), .val (.int p2), .val (.ref ba), .unset, .unset, .unset, .unset] [])) _
      refine XS.iloadN Xi15.here hx rfl (hb hby at_103) rfl ?_
      show Steps p.tables e below (Ti15.setTop (mkF m 104 #[.val (.int p1), .val (.int p2), .val (.ref ba), .unset, .unset, .unset, .unset] [(.int p1)])) _
      refine XS.iconst Xi15.here hx rfl (hb hby at_104) ?_
      show Steps p.tables e below (Ti15.setTop (mkF m 105 #[.val (.int p1), .val (.int p2), .val (.ref ba), .unset, .unset, .unset, .unset] [(.int (3 : Int32)), (.int p1)])) _
      refine XS.iand Xi15.here hx rfl (hb hby at_105) rfl ?_
      show Steps p.tables e below (Ti15.setTop (mkF m 106 #[.val (.int p1), .val (.int p2), .val (.ref ba), .unset, .unset, .unset, .unset] [(.int (p1 &&& (3 : Int32)))])) _
      refine XS.istoreN Xi15.here hx rfl (hb hby at_106) rfl (l' := #[.val (.int p1), .val (.int p2), .val (.ref ba), .val (.int (p1 &&& (3 : Int32))), .unset, .unset, .unset]) rfl ?_
      show Steps p.tables e below (Ti15.setTop (mkF m 107 #[.val (.int p1), .val (.int p2), .val (.ref ba), .val (.int (p1 &&& (3 : Int32))), .unset, .unset, .unset] [])) _
      refine XS.iloadN Xi15.here hx rfl (hb hby at_107) rfl ?_
      exact k
    by_cases hc108 : (p1 &&& (3 : Int32)) = (0 : Int32)
    · obtain ⟨z, k⟩ : ∃ z : Int32, ∀ t, Steps p.tables e below (Ti15.setTop (mkF m 176 #[.val (.int p1), .val (.int p2), .val (.ref ba), .val (.int (p1 &&& (3 : Int32))), .val (.int z), .unset, .unset] [])) t → Steps p.tables e below (Ti15.setTop (mkF m 111 #[.val (.int p1), .val (.int p2), .val (.ref ba), .val (.int (p1 &&& (3 : Int32))), .unset, .unset, .unset] [])) t := by
        refine ⟨(p2 &&& (65535 : Int32)), fun t k => ?_⟩
        show Steps p.tables e below (Ti15.setTop (mkF m 111 #[.val (.int p1), .val (.int p2), .val (.ref ba), .val (.int (p1 &&& (3 : Int32))), .unset, .unset, .unset] [])) _
        refine XS.iloadN Xi15.here hx rfl (hb hby at_111) rfl ?_
        show Steps p.tables e below (Ti15.setTop (mkF m 112 #[.val (.int p1), .val (.int p2), .val (.ref ba), .val (.int (p1 &&& (3 : Int32))), .unset, .unset, .unset] [(.int p2)])) _
        refine Jvm.Stand.ldcI Xi15 hx hown (mvT hZ (hw _ (List.mem_of_getElem? (i := 8) rfl))) rfl (hb hby at_112) ?_
        show Steps p.tables e below (Ti15.setTop (mkF m 114 #[.val (.int p1), .val (.int p2), .val (.ref ba), .val (.int (p1 &&& (3 : Int32))), .unset, .unset, .unset] [(.int (65535 : Int32)), (.int p2)])) _
        refine XS.iand Xi15.here hx rfl (hb hby at_114) rfl ?_
        show Steps p.tables e below (Ti15.setTop (mkF m 115 #[.val (.int p1), .val (.int p2), .val (.ref ba), .val (.int (p1 &&& (3 : Int32))), .unset, .unset, .unset] [(.int (p2 &&& (65535 : Int32)))])) _
        refine XS.istore Xi15.here hx rfl (hb hby at_115) rfl (l' := #[.val (.int p1), .val (.int p2), .val (.ref ba), .val (.int (p1 &&& (3 : Int32))), .val (.int (p2 &&& (65535 : Int32))), .unset, .unset]) rfl ?_
        show Steps p.tables e below (Ti15.setTop (mkF m 117 #[.val (.int p1), .val (.int p2), .val (.ref ba), .val (.int (p1 &&& (3 : Int32))), .val (.int (p2 &&& (65535 : Int32))), .unset, .unset] [])) _
        refine XS.goto Xi15.here hx rfl (pc0 := 117) (pc' := 176) rfl (hb hby at_117) (by decide) (by decide) ?_
        exact k
      refine ⟨z, fun t q => pre102 t ?_⟩
      show Steps p.tables e below (Ti15.setTop (mkF m 108 #[.val (.int p1), .val (.int p2), .val (.ref ba), .val (.int (p1 &&& (3 : Int32))), .unset, .unset, .unset] [(.int (p1 &&& (3 : Int32)))])) _
      refine XS.ifNo Xi15.here hx rfl (hb hby at_108) rfl ((if0 _ _).trans (teq hc108).2) ?_
      exact k t q
    · obtain ⟨z, k⟩ : ∃ z : Int32, ∀ t, Steps p.tables e below (Ti15.setTop (mkF m 176 #[.val (.int p1), .val (.int p2), .val (.ref ba), .val (.int (p1 &&& (3 : Int32))), .val (.int z), .unset, .unset] [])) t → Steps p.tables e below (Ti15.setTop (mkF m 120 #[.val (.int p1), .val (.int p2), .val (.ref ba), .val (.int (p1 &&& (3 : Int32))), .unset, .unset, .unset] [])) t := by
        have pre120 : ∀ t, Steps p.tables e below (Ti15.setTop (mkF m 122 #[.val (.int p1), .val (.int p2), .val (.ref ba), .val (.int (p1 &&& (3 : Int32))), .unset, .unset, .unset] [(.int (1 : Int32)), (.int (p1 &&& (3 : Int32)))])) t → Steps p.tables e below (Ti15.setTop (mkF m 120 #[.val (.int p1), .val (.int p2), .val (.ref ba), .val (.int (p1 &&& (3 : Int32))), .unset, .unset, .unset] [])) t := by
          intro t k
          show Steps p.tables e below (Ti15.setTop (mkF m 120 #[.val (.int p1), .val (.int p2), .val (.ref ba), .val (.int (p1 &&& (3 : Int32))), .unset, .unset, .unset] [])) _
          refine XS.iloadN Xi15.here hx rfl (hb hby at_120) rfl ?_
          show Steps p.tables e below (Ti15.setTop (mkF m 121 #[.val (.int p1), .val (.int p2), .val (.ref ba), .val (.int (p1 &&& (3 : Int32))), .unset, .unset, .unset] [(.int (p1 &&& (3 : Int32)))])) _
          refine XS.iconst Xi15.here hx rfl (hb hby at_121) ?_
          exact k
        by_cases hc122 : (p1 &&& (3 : Int32)) = (1 : Int32)
        · obtain ⟨z, k⟩ : ∃ z : Int32, ∀ t, Steps p.tables e below (Ti15.setTop (mkF m 176 #[.val (.int p1), .val (.int p2), .val (.ref ba), .val (.int (p1 &&& (3 : Int32))), .val (.int z), .unset, .unset] [])) t → Steps p.tables e below (Ti15.setTop (mkF m 125 #[.val (.int p1), .val (.int p2), .val (.ref ba), .val (.int (p1 &&& (3 : Int32))), .unset, .unset, .unset] [])) t := by
            refine ⟨(((w + (((p1.toUInt32 >>> ((2 : Int32) &&& 31).toUInt32).toInt32) &&& (7 : Int32))) - (3 : Int32)) &&& (65535 : Int32)), fun t k => ?_⟩
            show Steps p.tables e below (Ti15.setTop (mkF m 125 #[.val (.int p1), .val (.int p2), .val (.ref ba), .val (.int (p1 &&& (3 : Int32))), .unset, .unset, .unset] [])) _
            refine XS.aloadN Xi15.here hx rfl (hb hby at_125) rfl rfl ?_
            show Steps p.tables e below (Ti15.setTop (mkF m 126 #[.val (.int p1), .val (.int p2), .val (.ref ba), .val (.int (p1 &&& (3 : Int32))), .unset, .unset, .unset] [(.ref ba)])) _
            refine XS.iloadN Xi15.here hx rfl (hb hby at_126) rfl ?_
            show Steps p.tables e below (Ti15.setTop (mkF m 127 #[.val (.int p1), .val (.int p2), .val (.ref ba), .val (.int (p1 &&& (3 : Int32))), .unset, .unset, .unset] [(.int p2), (.ref ba)])) _
            refine XS.bipush Xi15.here hx rfl (hb hby at_127) ?_
            show Steps p.tables e below (Ti15.setTop (mkF m 129 #[.val (.int p1), .val (.int p2), .val (.ref ba), .val (.int (p1 &&& (3 : Int32))), .unset, .unset, .unset] [(.int (15 : Int32)), (.int p2), (.ref ba)])) _
            refine XS.iand Xi15.here hx rfl (hb hby at_129) rfl ?_
            show Steps p.tables e below (Ti15.setTop (mkF m 130 #[.val (.int p1), .val (.int p2), .val (.ref ba), .val (.int (p1 &&& (3 : Int32))), .unset, .unset, .unset] [(.int (p2 &&& (15 : Int32))), (.ref ba)])) _
            refine Xi15.caload hx (j := (p2 &&& (15 : Int32))) (v := (.int w)) (by rw [ei15]; exact Ar.1) (State.isArrayOf_alike hZ.alike Ar.2.1) Ar.2.2 hin hat (g := (mkF m 130 #[.val (.int p1), .val (.int p2), .val (.ref ba), .val (.int (p1 &&& (3 : Int32))), .unset, .unset, .unset] [(.int (p2 &&& (15 : Int32))), (.ref ba)])) rfl rfl (hb hby at_130) _ ?_
            show Steps p.tables e below (Ti15.setTop (mkF m 131 #[.val (.int p1), .val (.int p2), .val (.ref ba), .val (.int (p1 &&& (3 : Int32))), .unset, .unset, .unset] [(.int w)])) _
            refine XS.iloadN Xi15.here hx rfl (hb hby at_131) rfl ?_
            show Steps p.tables e below (Ti15.setTop (mkF m 132 #[.val (.int p1), .val (.int p2), .val (.ref ba), .val (.int (p1 &&& (3 : Int32))), .unset, .unset, .unset] [(.int p1), (.int w)])) _
            refine XS.iconst Xi15.here hx rfl (hb hby at_132) ?_
            show Steps p.tables e below (Ti15.setTop (mkF m 133 #[.val (.int p1), .val (.int p2), .val (.ref ba), .val (.int (p1 &&& (3 : Int32))), .unset, .unset, .unset] [(.int (2 : Int32)), (.int p1), (.int w)])) _
            refine XS.iushr Xi15.here hx rfl (hb hby at_133) rfl ?_
            show Steps p.tables e below (Ti15.setTop (mkF m 134 #[.val (.int p1), .val (.int p2), .val (.ref ba), .val (.int (p1 &&& (3 : Int32))), .unset, .unset, .unset] [(.int ((p1.toUInt32 >>> ((2 : Int32) &&& 31).toUInt32).toInt32)), (.int w)])) _
            refine XS.bipush Xi15.here hx rfl (hb hby at_134) ?_
            show Steps p.tables e below (Ti15.setTop (mkF m 136 #[.val (.int p1), .val (.int p2), .val (.ref ba), .val (.int (p1 &&& (3 : Int32))), .unset, .unset, .unset] [(.int (7 : Int32)), (.int ((p1.toUInt32 >>> ((2 : Int32) &&& 31).toUInt32).toInt32)), (.int w)])) _
            refine XS.iand Xi15.here hx rfl (hb hby at_136) rfl ?_
            show Steps p.tables e below (Ti15.setTop (mkF m 137 #[.val (.int p1), .val (.int p2), .val (.ref ba), .val (.int (p1 &&& (3 : Int32))), .unset, .unset, .unset] [(.int (((p1.toUInt32 >>> ((2 : Int32) &&& 31).toUInt32).toInt32) &&& (7 : Int32))), (.int w)])) _
            refine XS.iadd Xi15.here hx rfl (hb hby at_137) rfl ?_
            show Steps p.tables e below (Ti15.setTop (mkF m 138 #[.val (.int p1), .val (.int p2), .val (.ref ba), .val (.int (p1 &&& (3 : Int32))), .unset, .unset, .unset] [(.int (w + (((p1.toUInt32 >>> ((2 : Int32) &&& 31).toUInt32).toInt32) &&& (7 : Int32))))])) _
            refine XS.iconst Xi15.here hx rfl (hb hby at_138) ?_
            show Steps p.tables e below (Ti15.setTop (mkF m 139 #[.val (.int p1), .val (.int p2), .val (.ref ba), .val (.int (p1 &&& (3 : Int32))), .unset, .unset, .unset] [(.int (3 : Int32)), (.int (w + (((p1.toUInt32 >>> ((2 : Int32) &&& 31).toUInt32).toInt32) &&& (7 : Int32))))])) _
            refine XS.isub Xi15.here hx rfl (hb hby at_139) rfl ?_
            show Steps p.tables e below (Ti15.setTop (mkF m 140 #[.val (.int p1), .val (.int p2), .val (.ref ba), .val (.int (p1 &&& (3 : Int32))), .unset, .unset, .unset] [(.int ((w + (((p1.toUInt32 >>> ((2 : Int32) &&& 31).toUInt32).toInt32) &&& (7 : Int32))) - (3 : Int32)))])) _
            refine Jvm.Stand.ldcI Xi15 hx hown (mvT hZ (hw _ (List.mem_of_getElem? (i := 8) rfl))) rfl (hb hby at_140) ?_
            show Steps p.tables e below (Ti15.setTop (mkF m 142 #[.val (.int p1), .val (.int p2), .val (.ref ba), .val (.int (p1 &&& (3 : Int32))), .unset, .unset, .unset] [(.int (65535 : Int32)), (.int ((w + (((p1.toUInt32 >>> ((2 : Int32) &&& 31).toUInt32).toInt32) &&& (7 : Int32))) - (3 : Int32)))])) _
            refine XS.iand Xi15.here hx rfl (hb hby at_142) rfl ?_
            show Steps p.tables e below (Ti15.setTop (mkF m 143 #[.val (.int p1), .val (.int p2), .val (.ref ba), .val (.int (p1 &&& (3 : Int32))), .unset, .unset, .unset] [(.int (((w + (((p1.toUInt32 >>> ((2 : Int32) &&& 31).toUInt32).toInt32) &&& (7 : Int32))) - (3 : Int32)) &&& (65535 : Int32)))])) _
            refine XS.istore Xi15.here hx rfl (hb hby at_143) rfl (l' := #[.val (.int p1), .val (.int p2), .val (.ref ba), .val (.int (p1 &&& (3 : Int32))), .val (.int (((w + (((p1.toUInt32 >>> ((2 : Int32) &&& 31).toUInt32).toInt32) &&& (7 : Int32))) - (3 : Int32)) &&& (65535 : Int32))), .unset, .unset]) rfl ?_
            show Steps p.tables e below (Ti15.setTop (mkF m 145 #[.val (.int p1), .val (.int p2), .val (.ref ba), .val (.int (p1 &&& (3 : Int32))), .val (.int (((w + (((p1.toUInt32 >>> ((2 : Int32) &&& 31).toUInt32).toInt32) &&& (7 : Int32))) - (3 : Int32)) &&& (65535 : Int32))), .unset, .unset] [])) _
            refine XS.goto Xi15.here hx rfl (pc0 := 145) (pc' := 176) rfl (hb hby at_145) (by decide) (by decide) ?_
            exact k
          refine ⟨z, fun t q => pre120 t ?_⟩
          show Steps p.tables e below (Ti15.setTop (mkF m 122 #[.val (.int p1), .val (.int p2), .val (.ref ba), .val (.int (p1 &&& (3 : Int32))), .unset, .unset, .unset] [(.int (1 : Int32)), (.int (p1 &&& (3 : Int32)))])) _
          refine XS.icmpNo Xi15.here hx rfl (hb hby at_122) rfl (teq hc122).2 ?_
          exact k t q
        · obtain ⟨z, k⟩ : ∃ z : Int32, ∀ t, Steps p.tables e below (Ti15.setTop (mkF m 176 #[.val (.int p1), .val (.int p2), .val (.ref ba), .val (.int (p1 &&& (3 : Int32))), .val (.int z), .unset, .unset] [])) t → Steps p.tables e below (Ti15.setTop (mkF m 148 #[.val (.int p1), .val (.int p2), .val (.ref ba), .val (.int (p1 &&& (3 : Int32))), .unset, .unset, .unset] [])) t := by
            have pre148 : ∀ t, Steps p.tables e below (Ti15.setTop (mkF m 150 #[.val (.int p1), .val (.int p2), .val (.ref ba), .val (.int (p1 &&& (3 : Int32))), .unset, .unset, .unset] [(.int (2 : Int32)), (.int (p1 &&& (3 : Int32)))])) t → Steps p.tables e below (Ti15.setTop (mkF m 148 #[.val (.int p1), .val (.int p2), .val (.ref ba), .val (.int (p1 &&& (3 : Int32))), .unset, .unset, .unset] [])) t := by
              intro t k
              show Steps p.tables e below (Ti15.setTop (mkF m 148 #[.val (.int p1), .val (.int p2), .val (.ref ba), .val (.int (p1 &&& (3 : Int32))), .unset, .unset, .unset] [])) _
              refine XS.iloadN Xi15.here hx rfl (hb hby at_148) rfl ?_
              show Steps p.tables e below (Ti15.setTop (mkF m 149 #[.val (.int p1), .val (.int p2), .val (.ref ba), .val (.int (p1 &&& (3 : Int32))), .unset, .unset, .unset] [(.int (p1 &&& (3 : Int32)))])) _
              refine XS.iconst Xi15.here hx rfl (hb hby at_149) ?_
              exact k
            by_cases hc150 : (p1 &&& (3 : Int32)) = (2 : Int32)
            · obtain ⟨z, k⟩ : ∃ z : Int32, ∀ t, Steps p.tables e below (Ti15.setTop (mkF m 176 #[.val (.int p1), .val (.int p2), .val (.ref ba), .val (.int (p1 &&& (3 : Int32))), .val (.int z), .unset, .unset] [])) t → Steps p.tables e below (Ti15.setTop (mkF m 153 #[.val (.int p1), .val (.int p2), .val (.ref ba), .val (.int (p1 &&& (3 : Int32))), .unset, .unset, .unset] [])) t := by
                refine ⟨((8351 : Int32) + ((p2 &&& (2147483647 : Int32)) % (20 : Int32))), fun t k => ?_⟩
                show Steps p.tables e below (Ti15.setTop (mkF m 153 #[.val (.int p1), .val (.int p2), .val (.ref ba), .val (.int (p1 &&& (3 : Int32))), .unset, .unset, .unset] [])) _
                refine XS.sipush Xi15.here hx rfl (hb hby at_153) ?_
                show Steps p.tables e below (Ti15.setTop (mkF m 156 #[.val (.int p1), .val (.int p2), .val (.ref ba), .val (.int (p1 &&& (3 : Int32))), .unset, .unset, .unset] [(.int (8351 : Int32))])) _
                refine XS.iloadN Xi15.here hx rfl (hb hby at_156) rfl ?_
                show Steps p.tables e below (Ti15.setTop (mkF m 157 #[.val (.int p1), .val (.int p2), .val (.ref ba), .val (.int (p1 &&& (3 : Int32))), .unset, .unset, .unset] [(.int p2), (.int (8351 : Int32))])) _
                refine Jvm.Stand.ldcI Xi15 hx hown (mvT hZ (hw _ (List.mem_of_getElem? (i := 17) rfl))) rfl (hb hby at_157) ?_
                show Steps p.tables e below (Ti15.setTop (mkF m 159 #[.val (.int p1), .val (.int p2), .val (.ref ba), .val (.int (p1 &&& (3 : Int32))), .unset, .unset, .unset] [(.int (2147483647 : Int32)), (.int p2), (.int (8351 : Int32))])) _
                refine XS.iand Xi15.here hx rfl (hb hby at_159) rfl ?_
                show Steps p.tables e below (Ti15.setTop (mkF m 160 #[.val (.int p1), .val (.int p2), .val (.ref ba), .val (.int (p1 &&& (3 : Int32))), .unset, .unset, .unset] [(.int (p2 &&& (2147483647 : Int32))), (.int (8351 : Int32))])) _
                refine XS.bipush Xi15.here hx rfl (hb hby at_160) ?_
                show Steps p.tables e below (Ti15.setTop (mkF m 162 #[.val (.int p1), .val (.int p2), .val (.ref ba), .val (.int (p1 &&& (3 : Int32))), .unset, .unset, .unset] [(.int (20 : Int32)), (.int (p2 &&& (2147483647 : Int32))), (.int (8351 : Int32))])) _
                refine iremM Xi15 hx rfl (hb hby at_162) rfl (by decide) ?_
                show Steps p.tables e below (Ti15.setTop (mkF m 163 #[.val (.int p1), .val (.int p2), .val (.ref ba), .val (.int (p1 &&& (3 : Int32))), .unset, .unset, .unset] [(.int ((p2 &&& (2147483647 : Int32)) % (20 : Int32))), (.int (8351 : Int32))])) _
                refine XS.iadd Xi15.here hx rfl (hb hby at_163) rfl ?_
                show Steps p.tables e below (Ti15.setTop (mkF m 164 #[.val (.int p1), .val (.int p2), .val (.ref ba), .val (.int (p1 &&& (3 : Int32))), .unset, .unset, .unset] [(.int ((8351 : Int32) + ((p2 &&& (2147483647 : Int32)) % (20 : Int32))))])) _
                refine XS.istore Xi15.here hx rfl (hb hby at_164) rfl (l' := #[.val (.int p1), .val (.int p2), .val (.ref ba), .val (.int (p1 &&& (3 : Int32))), .val (.int ((8351 : Int32) + ((p2 &&& (2147483647 : Int32)) % (20 : Int32)))), .unset, .unset]) rfl ?_
                show Steps p.tables e below (Ti15.setTop (mkF m 166 #[.val (.int p1), .val (.int p2), .val (.ref ba), .val (.int (p1 &&& (3 : Int32))), .val (.int ((8351 : Int32) + ((p2 &&& (2147483647 : Int32)) % (20 : Int32)))), .unset, .unset] [])) _
                refine XS.goto Xi15.here hx rfl (pc0 := 166) (pc' := 176) rfl (hb hby at_166) (by decide) (by decide) ?_
                exact k
              refine ⟨z, fun t q => pre148 t ?_⟩
              show Steps p.tables e below (Ti15.setTop (mkF m 150 #[.val (.int p1), .val (.int p2), .val (.ref ba), .val (.int (p1 &&& (3 : Int32))), .unset, .unset, .unset] [(.int (2 : Int32)), (.int (p1 &&& (3 : Int32)))])) _
              refine XS.icmpNo Xi15.here hx rfl (hb hby at_150) rfl (teq hc150).2 ?_
              exact k t q
            · obtain ⟨z, k⟩ : ∃ z : Int32, ∀ t, Steps p.tables e below (Ti15.setTop (mkF m 176 #[.val (.int p1), .val (.int p2), .val (.ref ba), .val (.int (p1 &&& (3 : Int32))), .val (.int z), .unset, .unset] [])) t → Steps p.tables e below (Ti15.setTop (mkF m 169 #[.val (.int p1), .val (.int p2), .val (.ref ba), .val (.int (p1 &&& (3 : Int32))), .unset, .unset, .unset] [])) t := by
                refine ⟨(p2 &&& (255 : Int32)), fun t k => ?_⟩
                show Steps p.tables e below (Ti15.setTop (mkF m 169 #[.val (.int p1), .val (.int p2), .val (.ref ba), .val (.int (p1 &&& (3 : Int32))), .unset, .unset, .unset] [])) _
                refine XS.iloadN Xi15.here hx rfl (hb hby at_169) rfl ?_
                show Steps p.tables e below (Ti15.setTop (mkF m 170 #[.val (.int p1), .val (.int p2), .val (.ref ba), .val (.int (p1 &&& (3 : Int32))), .unset, .unset, .unset] [(.int p2)])) _
                refine XS.sipush Xi15.here hx rfl (hb hby at_170) ?_
                show Steps p.tables e below (Ti15.setTop (mkF m 173 #[.val (.int p1), .val (.int p2), .val (.ref ba), .val (.int (p1 &&& (3 : Int32))), .unset, .unset, .unset] [(.int (255 : Int32)), (.int p2)])) _
                refine XS.iand Xi15.here hx rfl (hb hby at_173) rfl ?_
                show Steps p.tables e below (Ti15.setTop (mkF m 174 #[.val (.int p1), .val (.int p2), .val (.ref ba), .val (.int (p1 &&& (3 : Int32))), .unset, .unset, .unset] [(.int (p2 &&& (255 : Int32)))])) _
                refine XS.istore Xi15.here hx rfl (hb hby at_174) rfl (l' := #[.val (.int p1), .val (.int p2), .val (.ref ba), .val (.int (p1 &&& (3 : Int32))), .val (.int (p2 &&& (255 : Int32))), .unset, .unset]) rfl ?_
                exact k
              refine ⟨z, fun t q => pre148 t ?_⟩
              show Steps p.tables e below (Ti15.setTop (mkF m 150 #[.val (.int p1), .val (.int p2), .val (.ref ba), .val (.int (p1 &&& (3 : Int32))), .unset, .unset, .unset] [(.int (2 : Int32)), (.int (p1 &&& (3 : Int32)))])) _
              refine XS.icmpYes Xi15.here hx rfl (pc0 := 150) (pc' := 169) rfl (hb hby at_150) rfl (feq hc150).2 (by decide) (by decide) ?_
              exact k t q
          refine ⟨z, fun t q => pre120 t ?_⟩
          show Steps p.tables e below (Ti15.setTop (mkF m 122 #[.val (.int p1), .val (.int p2), .val (.ref ba), .val (.int (p1 &&& (3 : Int32))), .unset, .unset, .unset] [(.int (1 : Int32)), (.int (p1 &&& (3 : Int32)))])) _
          refine XS.icmpYes Xi15.here hx rfl (pc0 := 122) (pc' := 148) rfl (hb hby at_122) rfl (feq hc122).2 (by decide) (by decide) ?_
          exact k t q
      refine ⟨z, fun t q => pre102 t ?_⟩
      show Steps p.tables e below (Ti15.setTop (mkF m 108 #[.val (.int p1), .val (.int p2), .val (.ref ba), .val (.int (p1 &&& (3 : Int32))), .unset, .unset, .unset] [(.int (p1 &&& (3 : Int32)))])) _
      refine XS.ifYes Xi15.here hx rfl (pc0 := 108) (pc' := 120) rfl (hb hby at_108) rfl ((if0 _ _).trans (feq hc108).2) (by decide) (by decide) ?_
      exact k t q
  obtain ⟨y, hy⟩ : ∃ y : Int32, y = (z.toUInt32.toUInt16.toUInt32.toInt32) := ⟨_, rfl⟩
  have kC : ∀ t, Steps p.tables e below (Ti15.setTop (mkF m 181 #[.val (.int p1), .val (.int p2), .val (.ref ba), .val (.int (p1 &&& (3 : Int32))), .val (.int z), .val (.int y), .unset] [])) t → Steps p.tables e below (s₁.setTop (entryFrame m #[(.int p1), (.int p2)] maxLocals)) t := by
    intro t k
    refine Pi15 t (kA t ?_)
    show Steps p.tables e below (Ti15.setTop (mkF m 176 #[.val (.int p1), .val (.int p2), .val (.ref ba), .val (.int (p1 &&& (3 : Int32))), .val (.int z), .unset, .unset] [])) _
    refine XS.iload Xi15.here hx rfl (hb hby at_176) rfl ?_
    show Steps p.tables e below (Ti15.setTop (mkF m 178 #[.val (.int p1), .val (.int p2), .val (.ref ba), .val (.int (p1 &&& (3 : Int32))), .val (.int z), .unset, .unset] [(.int z)])) _
    refine XS.i2c Xi15.here hx rfl (hb hby at_178) rfl ?_
    show Steps p.tables e below (Ti15.setTop (mkF m 179 #[.val (.int p1), .val (.int p2), .val (.ref ba), .val (.int (p1 &&& (3 : Int32))), .val (.int z), .unset, .unset] [(.int (z.toUInt32.toUInt16.toUInt32.toInt32))])) _
    refine XS.istore Xi15.here hx rfl (hb hby at_179) rfl (l' := #[.val (.int p1), .val (.int p2), .val (.ref ba), .val (.int (p1 &&& (3 : Int32))), .val (.int z), .val (.int (z.toUInt32.toUInt16.toUInt32.toInt32)), .unset]) rfl ?_
    rw [← hy]
    exact k
  obtain ⟨T9, locs9, X9, e9, N9, k9⟩ : ∃ (T9 : State) (locs9 : List Loc), Stand p l e room_1 s m #[(.int p1), (.int p2)] below meth c T9 locs9 1 16 ∧ T9.heap = hi15 ∧ Fr n0 locs9 ∧ ∀ t, Steps p.tables e below (T9.setTop (mkF m 211 #[.val (.int p1), .val (.int p2), .val (.ref ba), .val (.int (p1 &&& (3 : Int32))), .val (.int z), .val (.int y), .unset] [(.int (own_s y))])) t → Steps p.tables e below (Ti15.setTop (mkF m 181 #[.val (.int p1), .val (.int p2), .val (.ref ba), .val (.int (p1 &&& (3 : Int32))), .val (.int z), .val (.int y), .unset] [])) t := by
    by_cases hc186 : y < (8352 : Int32)
    · obtain ⟨_, _, ⟨T1, L1, k1, n1⟩, -, X1, ⟨Lc1, hQ1, l1, y1, z1⟩, st1⟩ := Jvm.LawKit.callS Xi15 hx (y := (⟨"com/example/castwright/castwright/CurrencySignIsCurrencySymbolPinLaw", "isListed", "([CC)Z"⟩ : MethodName)) hown (mvT hZ (hw _ (List.mem_of_getElem? (i := 9) rfl))) (mvT hZ (hw _ (List.mem_of_getElem? (i := 10) rfl))) (mvT hZ (hw _ (List.mem_of_getElem? (i := 11) rfl))) (mvT hZ (hw _ (List.mem_of_getElem? (i := 12) rfl))) (by decide) (backOf (W := 0) (rm_l l Z a0 hw [] ba y hi15 n0 ka VV) hZ (hw _ (List.mem_of_getElem? (i := 12) rfl)) (hw _ (List.mem_of_getElem? (i := 11) rfl)) (by decide) (by decide)) (g := (mkF m 200 #[.val (.int p1), .val (.int p2), .val (.ref ba), .val (.int (p1 &&& (3 : Int32))), .val (.int z), .val (.int y), .unset] [(.int y), (.ref ba)])) rfl (by rw [hml]; rfl) (argsL := [(.ref ba), (.int y)]) (rest := []) (lenOf pd_l rfl) rfl (by show 2 * 0 + _ ≤ _; exact Nat.le_of_eq rfl) (hb hby at_200) (fun _ _ => ⟨rfl, ei15, (by decide : 1 + 0 ≤ _), (by decide : 16 + 0 ≤ _)⟩)
      dsimp only [Pt.U, Pt.locs, Pt.cells, Pt.slots] at X1 l1 y1 z1 st1 hQ1
      subst l1 y1 z1
      obtain ⟨rfl, N1q, e1⟩ := hQ1
      have N1 := Fr.app Ni15 N1q
      refine ⟨T1, _, X1, e1, N1, fun t k => ?_⟩
      show Steps p.tables e below (Ti15.setTop (mkF m 181 #[.val (.int p1), .val (.int p2), .val (.ref ba), .val (.int (p1 &&& (3 : Int32))), .val (.int z), .val (.int y), .unset] [])) _
      refine XS.iload Xi15.here hx rfl (hb hby at_181) rfl ?_
      show Steps p.tables e below (Ti15.setTop (mkF m 183 #[.val (.int p1), .val (.int p2), .val (.ref ba), .val (.int (p1 &&& (3 : Int32))), .val (.int z), .val (.int y), .unset] [(.int y)])) _
      refine XS.sipush Xi15.here hx rfl (hb hby at_183) ?_
      show Steps p.tables e below (Ti15.setTop (mkF m 186 #[.val (.int p1), .val (.int p2), .val (.ref ba), .val (.int (p1 &&& (3 : Int32))), .val (.int z), .val (.int y), .unset] [(.int (8352 : Int32)), (.int y)])) _
      refine XS.icmpYes Xi15.here hx rfl (pc0 := 186) (pc' := 197) rfl (hb hby at_186) rfl (tlt hc186).1 (by decide) (by decide) ?_
      show Steps p.tables e below (Ti15.setTop (mkF m 197 #[.val (.int p1), .val (.int p2), .val (.ref ba), .val (.int (p1 &&& (3 : Int32))), .val (.int z), .val (.int y), .unset] [])) _
      refine XS.aloadN Xi15.here hx rfl (hb hby at_197) rfl rfl ?_
      show Steps p.tables e below (Ti15.setTop (mkF m 198 #[.val (.int p1), .val (.int p2), .val (.ref ba), .val (.int (p1 &&& (3 : Int32))), .val (.int z), .val (.int y), .unset] [(.ref ba)])) _
      refine XS.iload Xi15.here hx rfl (hb hby at_198) rfl ?_
      refine st1 _ ?_
      by_cases hc203 : (own_l y) = (0 : Int32)
      · show Steps p.tables e below (T1.setTop (mkF m 203 #[.val (.int p1), .val (.int p2), .val (.ref ba), .val (.int (p1 &&& (3 : Int32))), .val (.int z), .val (.int y), .unset] [(.int (own_l y))])) _
        refine XS.ifYes X1.here hx rfl (pc0 := 203) (pc' := 210) rfl (hb hby at_203) rfl ((if0 _ _).trans (teq hc203).1) (by decide) (by decide) ?_
        show Steps p.tables e below (T1.setTop (mkF m 210 #[.val (.int p1), .val (.int p2), .val (.ref ba), .val (.int (p1 &&& (3 : Int32))), .val (.int z), .val (.int y), .unset] [])) _
        refine XS.iconst X1.here hx rfl (hb hby at_210) ?_
        have hL : own_L y = false := by
          cases hq : own_L y
          · rfl
          · exact absurd (hc203 : own_l y = 0) (by simp only [own_l, hq]; decide)
        have hv : own_s y = (0 : Int32) := (if_neg (by rw [hL]; decide)).trans (if_pos hc186)
        rw [hv] at k
        exact k
      · show Steps p.tables e below (T1.setTop (mkF m 203 #[.val (.int p1), .val (.int p2), .val (.ref ba), .val (.int (p1 &&& (3 : Int32))), .val (.int z), .val (.int y), .unset] [(.int (own_l y))])) _
        refine XS.ifNo X1.here hx rfl (hb hby at_203) rfl ((if0 _ _).trans (feq hc203).1) ?_
        show Steps p.tables e below (T1.setTop (mkF m 206 #[.val (.int p1), .val (.int p2), .val (.ref ba), .val (.int (p1 &&& (3 : Int32))), .val (.int z), .val (.int y), .unset] [])) _
        refine XS.iconst X1.here hx rfl (hb hby at_206) ?_
        show Steps p.tables e below (T1.setTop (mkF m 207 #[.val (.int p1), .val (.int p2), .val (.ref ba), .val (.int (p1 &&& (3 : Int32))), .val (.int z), .val (.int y), .unset] [(.int (1 : Int32))])) _
        refine XS.goto X1.here hx rfl (pc0 := 207) (pc' := 211) rfl (hb hby at_207) (by decide) (by decide) ?_
        have hL : own_L y = true := by
          cases hq : own_L y
          · exact absurd (show own_l y = 0 by simp only [own_l, hq]; rfl) hc203
          · rfl
        have hv : own_s y = (1 : Int32) := if_pos hL
        rw [hv] at k
        exact k
    by_cases hc194 : (8369 : Int32) < y
    · obtain ⟨_, _, ⟨T1, L1, k1, n1⟩, -, X1, ⟨Lc1, hQ1, l1, y1, z1⟩, st1⟩ := Jvm.LawKit.callS Xi15 hx (y := (⟨"com/example/castwright/castwright/CurrencySignIsCurrencySymbolPinLaw", "isListed", "([CC)Z"⟩ : MethodName)) hown (mvT hZ (hw _ (List.mem_of_getElem? (i := 9) rfl))) (mvT hZ (hw _ (List.mem_of_getElem? (i := 10) rfl))) (mvT hZ (hw _ (List.mem_of_getElem? (i := 11) rfl))) (mvT hZ (hw _ (List.mem_of_getElem? (i := 12) rfl))) (by decide) (backOf (W := 0) (rm_l l Z a0 hw [] ba y hi15 n0 ka VV) hZ (hw _ (List.mem_of_getElem? (i := 12) rfl)) (hw _ (List.mem_of_getElem? (i := 11) rfl)) (by decide) (by decide)) (g := (mkF m 200 #[.val (.int p1), .val (.int p2), .val (.ref ba), .val (.int (p1 &&& (3 : Int32))), .val (.int z), .val (.int y), .unset] [(.int y), (.ref ba)])) rfl (by rw [hml]; rfl) (argsL := [(.ref ba), (.int y)]) (rest := []) (lenOf pd_l rfl) rfl (by show 2 * 0 + _ ≤ _; exact Nat.le_of_eq rfl) (hb hby at_200) (fun _ _ => ⟨rfl, ei15, (by decide : 1 + 0 ≤ _), (by decide : 16 + 0 ≤ _)⟩)
      dsimp only [Pt.U, Pt.locs, Pt.cells, Pt.slots] at X1 l1 y1 z1 st1 hQ1
      subst l1 y1 z1
      obtain ⟨rfl, N1q, e1⟩ := hQ1
      have N1 := Fr.app Ni15 N1q
      refine ⟨T1, _, X1, e1, N1, fun t k => ?_⟩
      show Steps p.tables e below (Ti15.setTop (mkF m 181 #[.val (.int p1), .val (.int p2), .val (.ref ba), .val (.int (p1 &&& (3 : Int32))), .val (.int z), .val (.int y), .unset] [])) _
      refine XS.iload Xi15.here hx rfl (hb hby at_181) rfl ?_
      show Steps p.tables e below (Ti15.setTop (mkF m 183 #[.val (.int p1), .val (.int p2), .val (.ref ba), .val (.int (p1 &&& (3 : Int32))), .val (.int z), .val (.int y), .unset] [(.int y)])) _
      refine XS.sipush Xi15.here hx rfl (hb hby at_183) ?_
      show Steps p.tables e below (Ti15.setTop (mkF m 186 #[.val (.int p1), .val (.int p2), .val (.ref ba), .val (.int (p1 &&& (3 : Int32))), .val (.int z), .val (.int y), .unset] [(.int (8352 : Int32)), (.int y)])) _
      refine XS.icmpNo Xi15.here hx rfl (hb hby at_186) rfl (flt hc186).1 ?_
      show Steps p.tables e below (Ti15.setTop (mkF m 189 #[.val (.int p1), .val (.int p2), .val (.ref ba), .val (.int (p1 &&& (3 : Int32))), .val (.int z), .val (.int y), .unset] [])) _
      refine XS.iload Xi15.here hx rfl (hb hby at_189) rfl ?_
      show Steps p.tables e below (Ti15.setTop (mkF m 191 #[.val (.int p1), .val (.int p2), .val (.ref ba), .val (.int (p1 &&& (3 : Int32))), .val (.int z), .val (.int y), .unset] [(.int y)])) _
      refine XS.sipush Xi15.here hx rfl (hb hby at_191) ?_
      show Steps p.tables e below (Ti15.setTop (mkF m 194 #[.val (.int p1), .val (.int p2), .val (.ref ba), .val (.int (p1 &&& (3 : Int32))), .val (.int z), .val (.int y), .unset] [(.int (8369 : Int32)), (.int y)])) _
      refine XS.icmpNo Xi15.here hx rfl (hb hby at_194) rfl (tlt hc194).2.2.2 ?_
      show Steps p.tables e below (Ti15.setTop (mkF m 197 #[.val (.int p1), .val (.int p2), .val (.ref ba), .val (.int (p1 &&& (3 : Int32))), .val (.int z), .val (.int y), .unset] [])) _
      refine XS.aloadN Xi15.here hx rfl (hb hby at_197) rfl rfl ?_
      show Steps p.tables e below (Ti15.setTop (mkF m 198 #[.val (.int p1), .val (.int p2), .val (.ref ba), .val (.int (p1 &&& (3 : Int32))), .val (.int z), .val (.int y), .unset] [(.ref ba)])) _
      refine XS.iload Xi15.here hx rfl (hb hby at_198) rfl ?_
      refine st1 _ ?_
      by_cases hc203 : (own_l y) = (0 : Int32)
      · show Steps p.tables e below (T1.setTop (mkF m 203 #[.val (.int p1), .val (.int p2), .val (.ref ba), .val (.int (p1 &&& (3 : Int32))), .val (.int z), .val (.int y), .unset] [(.int (own_l y))])) _
        refine XS.ifYes X1.here hx rfl (pc0 := 203) (pc' := 210) rfl (hb hby at_203) rfl ((if0 _ _).trans (teq hc203).1) (by decide) (by decide) ?_
        show Steps p.tables e below (T1.setTop (mkF m 210 #[.val (.int p1), .val (.int p2), .val (.ref ba), .val (.int (p1 &&& (3 : Int32))), .val (.int z), .val (.int y), .unset] [])) _
        refine XS.iconst X1.here hx rfl (hb hby at_210) ?_
        have hL : own_L y = false := by
          cases hq : own_L y
          · rfl
          · exact absurd (hc203 : own_l y = 0) (by simp only [own_l, hq]; decide)
        have hv : own_s y = (0 : Int32) := (if_neg (by rw [hL]; decide)).trans ((if_neg hc186).trans (if_pos hc194))
        rw [hv] at k
        exact k
      · show Steps p.tables e below (T1.setTop (mkF m 203 #[.val (.int p1), .val (.int p2), .val (.ref ba), .val (.int (p1 &&& (3 : Int32))), .val (.int z), .val (.int y), .unset] [(.int (own_l y))])) _
        refine XS.ifNo X1.here hx rfl (hb hby at_203) rfl ((if0 _ _).trans (feq hc203).1) ?_
        show Steps p.tables e below (T1.setTop (mkF m 206 #[.val (.int p1), .val (.int p2), .val (.ref ba), .val (.int (p1 &&& (3 : Int32))), .val (.int z), .val (.int y), .unset] [])) _
        refine XS.iconst X1.here hx rfl (hb hby at_206) ?_
        show Steps p.tables e below (T1.setTop (mkF m 207 #[.val (.int p1), .val (.int p2), .val (.ref ba), .val (.int (p1 &&& (3 : Int32))), .val (.int z), .val (.int y), .unset] [(.int (1 : Int32))])) _
        refine XS.goto X1.here hx rfl (pc0 := 207) (pc' := 211) rfl (hb hby at_207) (by decide) (by decide) ?_
        have hL : own_L y = true := by
          cases hq : own_L y
          · exact absurd (show own_l y = 0 by simp only [own_l, hq]; rfl) hc203
          · rfl
        have hv : own_s y = (1 : Int32) := if_pos hL
        rw [hv] at k
        exact k
    · refine ⟨_, _, Xi15, ei15, Ni15, fun t k => ?_⟩
      show Steps p.tables e below (Ti15.setTop (mkF m 181 #[.val (.int p1), .val (.int p2), .val (.ref ba), .val (.int (p1 &&& (3 : Int32))), .val (.int z), .val (.int y), .unset] [])) _
      refine XS.iload Xi15.here hx rfl (hb hby at_181) rfl ?_
      show Steps p.tables e below (Ti15.setTop (mkF m 183 #[.val (.int p1), .val (.int p2), .val (.ref ba), .val (.int (p1 &&& (3 : Int32))), .val (.int z), .val (.int y), .unset] [(.int y)])) _
      refine XS.sipush Xi15.here hx rfl (hb hby at_183) ?_
      show Steps p.tables e below (Ti15.setTop (mkF m 186 #[.val (.int p1), .val (.int p2), .val (.ref ba), .val (.int (p1 &&& (3 : Int32))), .val (.int z), .val (.int y), .unset] [(.int (8352 : Int32)), (.int y)])) _
      refine XS.icmpNo Xi15.here hx rfl (hb hby at_186) rfl (flt hc186).1 ?_
      show Steps p.tables e below (Ti15.setTop (mkF m 189 #[.val (.int p1), .val (.int p2), .val (.ref ba), .val (.int (p1 &&& (3 : Int32))), .val (.int z), .val (.int y), .unset] [])) _
      refine XS.iload Xi15.here hx rfl (hb hby at_189) rfl ?_
      show Steps p.tables e below (Ti15.setTop (mkF m 191 #[.val (.int p1), .val (.int p2), .val (.ref ba), .val (.int (p1 &&& (3 : Int32))), .val (.int z), .val (.int y), .unset] [(.int y)])) _
      refine XS.sipush Xi15.here hx rfl (hb hby at_191) ?_
      show Steps p.tables e below (Ti15.setTop (mkF m 194 #[.val (.int p1), .val (.int p2), .val (.ref ba), .val (.int (p1 &&& (3 : Int32))), .val (.int z), .val (.int y), .unset] [(.int (8369 : Int32)), (.int y)])) _
      refine XS.icmpYes Xi15.here hx rfl (pc0 := 194) (pc' := 206) rfl (hb hby at_194) rfl (flt hc194).2.2.2 (by decide) (by decide) ?_
      show Steps p.tables e below (Ti15.setTop (mkF m 206 #[.val (.int p1), .val (.int p2), .val (.ref ba), .val (.int (p1 &&& (3 : Int32))), .val (.int z), .val (.int y), .unset] [])) _
      refine XS.iconst Xi15.here hx rfl (hb hby at_206) ?_
      show Steps p.tables e below (Ti15.setTop (mkF m 207 #[.val (.int p1), .val (.int p2), .val (.ref ba), .val (.int (p1 &&& (3 : Int32))), .val (.int z), .val (.int y), .unset] [(.int (1 : Int32))])) _
      refine XS.goto Xi15.here hx rfl (pc0 := 207) (pc' := 211) rfl (hb hby at_207) (by decide) (by decide) ?_
      have hv : own_s y = (1 : Int32) := by
        cases hq : own_L y
        · exact (if_neg (by rw [hq]; decide)).trans ((if_neg hc186).trans (if_neg hc194))
        · exact if_pos hq
      rw [hv] at k
      exact k
  obtain ⟨_, _, ⟨T2, L2, k2, n2⟩, -, X2, ⟨Lc2, hQ2, l2, y2, z2⟩, st2⟩ := Jvm.LawKit.callS X9 hx (y := (⟨"com/example/castwright/castwright/NumberText$CurrencySign", "isCurrencySymbol", "(C)Z"⟩ : MethodName)) hown (mvT hZ (hw _ (List.mem_of_getElem? (i := 13) rfl))) (mvT hZ (hw _ (List.mem_of_getElem? (i := 14) rfl))) (mvT hZ (hw _ (List.mem_of_getElem? (i := 15) rfl))) (mvT hZ (hw _ (List.mem_of_getElem? (i := 16) rfl))) (by decide) (backOf (W := 0) (rm_s l Z a0 hw [] y hi15 n0) hZ (hw _ (List.mem_of_getElem? (i := 16) rfl)) (hw _ (List.mem_of_getElem? (i := 15) rfl)) (by decide) (by decide)) (g := (mkF m 215 #[.val (.int p1), .val (.int p2), .val (.ref ba), .val (.int (p1 &&& (3 : Int32))), .val (.int z), .val (.int y), .val (.int (own_s y))] [(.int y)])) rfl (by rw [hml]; rfl) (argsL := [(.int y)]) (rest := []) (lenOf pd_s rfl) rfl (by show 2 * 0 + _ ≤ _; exact Nat.le_of_eq rfl) (hb hby at_215) (fun _ _ => ⟨rfl, e9, (by decide : 1 + 0 ≤ _), (by decide : 16 + 0 ≤ _)⟩)
  dsimp only [Pt.U, Pt.locs, Pt.cells, Pt.slots] at X2 l2 y2 z2 st2 hQ2
  subst l2 y2 z2
  obtain ⟨rfl, N2q, e2⟩ := hQ2
  have N2 := Fr.app N9 N2q
  obtain ⟨fs, hr, hrun, hended, hW, hsame⟩ := X2.leave (v := some (.int (1 : Int32))) (fun h => by rw [Bd.returns] at h; cases h)
  refine ⟨_, _, kC _ (k9 _ ?_), hrun, hended, _, _, rfl, ⟨rfl, N2⟩, ⟨_, rfl⟩, hW, hsame.mono (by decide) (by decide)⟩
  show Steps p.tables e below (T9.setTop (mkF m 211 #[.val (.int p1), .val (.int p2), .val (.ref ba), .val (.int (p1 &&& (3 : Int32))), .val (.int z), .val (.int y), .unset] [(.int (own_s y))])) _
  refine XS.istore X9.here hx rfl (hb hby at_211) rfl (l' := #[.val (.int p1), .val (.int p2), .val (.ref ba), .val (.int (p1 &&& (3 : Int32))), .val (.int z), .val (.int y), .val (.int (own_s y))]) rfl ?_
  show Steps p.tables e below (T9.setTop (mkF m 213 #[.val (.int p1), .val (.int p2), .val (.ref ba), .val (.int (p1 &&& (3 : Int32))), .val (.int z), .val (.int y), .val (.int (own_s y))] [])) _
  refine XS.iload X9.here hx rfl (hb hby at_213) rfl ?_
  refine st2 _ ?_
  show Steps p.tables e below (T2.setTop (mkF m 218 #[.val (.int p1), .val (.int p2), .val (.ref ba), .val (.int (p1 &&& (3 : Int32))), .val (.int z), .val (.int y), .val (.int (own_s y))] [(.int (own_s y))])) _
  refine XS.iload X2.here hx rfl (hb hby at_218) rfl ?_
  have hc220 : (own_s y) = (own_s y) := rfl
  show Steps p.tables e below (T2.setTop (mkF m 220 #[.val (.int p1), .val (.int p2), .val (.ref ba), .val (.int (p1 &&& (3 : Int32))), .val (.int z), .val (.int y), .val (.int (own_s y))] [(.int (own_s y)), (.int (own_s y))])) _
  refine XS.icmpNo X2.here hx rfl (hb hby at_220) rfl (teq hc220).2 ?_
  show Steps p.tables e below (T2.setTop (mkF m 223 #[.val (.int p1), .val (.int p2), .val (.ref ba), .val (.int (p1 &&& (3 : Int32))), .val (.int z), .val (.int y), .val (.int (own_s y))] [])) _
  refine XS.iconst X2.here hx rfl (hb hby at_223) ?_
  show Steps p.tables e below (T2.setTop (mkF m 224 #[.val (.int p1), .val (.int p2), .val (.ref ba), .val (.int (p1 &&& (3 : Int32))), .val (.int z), .val (.int y), .val (.int (own_s y))] [(.int (1 : Int32))])) _
  refine XS.goto X2.here hx rfl (pc0 := 224) (pc' := 228) rfl (hb hby at_224) (by decide) (by decide) ?_
  show Steps p.tables e below (T2.setTop (mkF m 228 #[.val (.int p1), .val (.int p2), .val (.ref ba), .val (.int (p1 &&& (3 : Int32))), .val (.int z), .val (.int y), .val (.int (own_s y))] [(.int (1 : Int32))])) _
  exact retN X2 hx (t := .boolean) Bd.returns (by simp) (hb hby at_228) hr
set_option maxRecDepth 65536 in
set_option maxHeartbeats 40000000 in
theorem comes_1 {Post : Tables → Env → Array Value → State → Outcome → State → Prop} (hpost : ∀ tb e args s v u, (limb_1_1.after args s (.returned v) u = true ∧ limb_1_2.after args s (.returned v) u = true ∧ True) → FrameEnd s (.returned v) u (Jvm.fieldLocs frame_1_writes args s ++ Jvm.arrayLocs frame_1_arrays args s ++ Jvm.staticLocs frame_1_statics s) 16 128 → Post tb e args s (.returned v) u) :
    ArmFor flags0 classFile x code maxLocals ret World_1 tables_1 room_1 Calls_1 rest_1 Pre_1 Post := by
  intro l hfl _ _ p e ha hc hk s m args below hf hA hF happ hP
  obtain ⟨hcalls, hrest, hpre⟩ := hP
  obtain ⟨-, -, -, hnamed, -, -, -, hat⟩ := (Spec.applies_iff hf).mp happ
  obtain ⟨hg, hn⟩ := and_e (Cond.before_iff.mp (show (Jvm.Cond.and given_1 narrow_1).before args s = true from hpre))
  obtain ⟨gc, gr0⟩ := and_e hg
  obtain ⟨g0, gr1⟩ := and_e gr0
  obtain ⟨w0, w1, rfl⟩ : ∃ w0 w1 : Value, args = #[w0, w1] := by
    have hs : args.size = 2 := by simpa [Cond.value, given_1] using gc
    obtain ⟨L⟩ := args
    match L, hs with
    | [w0, w1], _ => exact ⟨w0, w1, rfl⟩
  have hw := fun d (hd : d ∈ tables_1) => atoms_spec (ws := Jvm.Cond.code x code maxLocals ret :: tables_1) hat d (List.mem_cons_of_mem _ hd)
  obtain ⟨i0, ei0⟩ := is_v g0
  obtain rfl : w0 = (.int i0) := Option.some.inj ei0
  obtain ⟨i1, ei1⟩ := is_v gr1
  obtain rfl : w1 = (.int i1) := Option.some.inj ei1
  obtain ⟨n, o, h1, h2, h3, _, L, rfl, ⟨rfl, N⟩, hq⟩ := rm0 l s _ hw tables_1 i0 i1 s.heap s.heap.size (Nat.le_refl _) p e ha hc hk s m _ below hf ((Spec.applies_iff_loose hf).mp happ).1 ⟨rfl, State.Warmed39.refl s, rfl⟩ trivial
  refine ⟨n, _, h1, h2, h3, hpost _ _ _ _ _ _ ⟨Cond.after_iff.mpr rfl, Cond.after_iff.mpr (eq_i res_at (Term.int_eval (1)) rfl), trivial⟩ ⟨hq.1, hq.2.1, (hq.2.2.sift fun y hy => Or.inr (N y hy)).mono (by decide) (by decide)⟩⟩
theorem main_1_1 : Claimed_1_1 := comes_1 fun _ _ _ _ _ _ h hF => ⟨h.1, hF⟩
theorem main_1_2 : Claimed_1_2 := comes_1 fun _ _ _ _ _ _ h hF => ⟨h.2.1, hF⟩
end Jvm.Pilot.@@N@@
namespace Jvm.Pilot.@@N@@
open Jvm Jvm.ClassFile Sem Op Lib Jvm.Free Jvm.Stand Jvm.Pilot.@@N@@.Jvm.D
/-! MADE BY PROGRAM (witnessworld.py) out of the Statement's table words and the real class files: 14 classes; the members and pool entries that the words name. The judged class is class 1, her method 1. -/
namespace start1
open Jvm.ClassFile
def u (s : String) : CpInfo := .utf8 (stringToUtf16 s)
/-- a pool by its gaps: so many unusable entries, then the entry; so many at the end -/
def gap : Nat → List CpInfo → List CpInfo
  | 0, r => r
  | n + 1, r => .unusable :: gap n r
def poolList (es : List (Nat × CpInfo)) (last : Nat) : List CpInfo := es.foldr (fun e r => gap e.1 (e.2 :: r)) (gap last [])
def pool (es : List (Nat × CpInfo)) (last : Nat) : Array CpInfo := ⟨poolList es last⟩
def fileOf (pool : Array CpInfo) (this : Nat) (attrs : Array Attribute := #[]) (ms : Array MethodInfo := #[]) (fl : Nat := 33) (sup : Nat := 0) (ifs : Array Nat := #[]) (fds : Array FieldInfo := #[]) : ClassFile where
  minorVersion := 0
  majorVersion := 65
  constantPool := pool
  accessFlags := fl
  thisClass := this
  superClass := sup
  interfaces := ifs
  fields := fds
  methods := ms
  attributes := attrs
def plain (name : String) (sup : Option ClassId) : Class where
  name := name
  kind := .ordinary
  loader := none
  accessFlags := 33
  super := sup
  interfaces := #[]
  cf := none
  fields := #[]
  methods := #[]
  instanceTypes := #[]
  staticTypes := #[]
  resolved := #[]
  callSites := []
  init := .initialized
  statics := none
  mirror := none

def pool0 : Array CpInfo := pool [(5, u "<init>"), (0, u "()V"), (1, .class_ 10), (1, u "java/lang/Object")] 113

def k0m0 : Method := { name := "<init>", desc := "()V", sig := { parameters := [], returnType := none }, accessFlags := 1, code := none }
/-- java/lang/Object -/
def k0 : Class := { plain "java/lang/Object" none with
  accessFlags := 33
  interfaces := #[]
  cf := some (fileOf pool0 8 #[] #[{ accessFlags := 1, nameIndex := 5, descriptorIndex := 6, attributes := #[] }] 33 0 #[] #[])
  fields := #[]
  methods := #[k0m0]
  instanceTypes := #[]
  staticTypes := #[]
  resolved := Array.replicate 124 none
  statics := none }

def pool1 : Array CpInfo := pool [(2, .class_ 4), (1, u "java/lang/Object"), (0, u "<init>"), (0, u "()V"), (0, .integer 65020), (0, .integer 65129), (0, .integer 65284), (0, .integer 65504), (0, .integer 65505), (0, .integer 65509), (0, .integer 65510), (0, .integer 65535), (0, .integer 2147483647), (0, .methodref 17 18), (0, .class_ 19), (0, .nameAndType 20 21), (0, u "com/example/castwright/castwright/CurrencySignIsCurrencySymbolPinLaw"), (0, u "isListed"), (0, u "([CC)Z"), (0, .methodref 23 24), (0, .class_ 25), (0, .nameAndType 26 27), (0, u "com/example/castwright/castwright/NumberText$CurrencySign"), (0, u "isCurrencySymbol"), (0, u "(C)Z"), (2, u "law"), (0, u "(II)Z")] 9

def k1m0 : Method := { name := "<init>", desc := "()V", sig := { parameters := [], returnType := none }, accessFlags := 1, code := none }
def k1c1 : Code := { maxStack := 4, maxLocals := 7, code := code, exceptionTable := #[], attributes := #[] }
def k1m1 : Method := { name := "law", desc := "(II)Z", sig := { parameters := [.int, .int], returnType := some .boolean }, accessFlags := 9, code := some k1c1 }
def k1c2 : Code := { maxStack := 3, maxLocals := 2, code := method_3_code, exceptionTable := #[], attributes := #[] }
def k1m2 : Method := { name := "isListed", desc := "([CC)Z", sig := { parameters := [(.array .char), .char], returnType := some .boolean }, accessFlags := 10, code := some k1c2 }
/-- com/example/castwright/castwright/CurrencySignIsCurrencySymbolPinLaw -/
def k1 : Class := { plain "com/example/castwright/castwright/CurrencySignIsCurrencySymbolPinLaw" (some 0) with
  accessFlags := 49
  interfaces := #[]
  cf := some (fileOf pool1 17 #[] #[{ accessFlags := 1, nameIndex := 5, descriptorIndex := 6, attributes := #[] }, { accessFlags := 9, nameIndex := 30, descriptorIndex := 31, attributes := #[] }, { accessFlags := 10, nameIndex := 20, descriptorIndex := 21, attributes := #[] }] 49 2 #[] #[])
  fields := #[]
  methods := #[k1m0, k1m1, k1m2]
  instanceTypes := #[]
  staticTypes := #[]
  resolved := Array.replicate 41 none
  statics := none }

def pool2 : Array CpInfo := pool [(1, .class_ 2), (0, u "java/lang/constant/Constable"), (0, .class_ 4), (0, u "java/lang/Object")] 6

/-- java/lang/constant/Constable -/
def k2 : Class := { plain "java/lang/constant/Constable" (some 0) with
  accessFlags := 1537
  interfaces := #[]
  cf := some (fileOf pool2 1 #[] #[] 1537 3 #[] #[])
  fields := #[]
  methods := #[]
  instanceTypes := #[]
  staticTypes := #[]
  resolved := Array.replicate 11 none
  statics := none }

def pool3 : Array CpInfo := pool [(1, .class_ 2), (0, u "java/lang/Comparable"), (0, .class_ 4), (0, u "java/lang/Object")] 7

/-- java/lang/Comparable -/
def k3 : Class := { plain "java/lang/Comparable" (some 0) with
  accessFlags := 1537
  interfaces := #[]
  cf := some (fileOf pool3 1 #[] #[] 1537 3 #[] #[])
  fields := #[]
  methods := #[]
  instanceTypes := #[]
  staticTypes := #[]
  resolved := Array.replicate 12 none
  statics := none }

def pool4 : Array CpInfo := pool [(1, .class_ 2), (0, u "java/io/Serializable"), (0, .class_ 4), (0, u "java/lang/Object")] 2

/-- java/io/Serializable -/
def k4 : Class := { plain "java/io/Serializable" (some 0) with
  accessFlags := 1537
  interfaces := #[]
  cf := some (fileOf pool4 1 #[] #[] 1537 3 #[] #[])
  fields := #[]
  methods := #[]
  instanceTypes := #[]
  staticTypes := #[]
  resolved := Array.replicate 7 none
  statics := none }

def pool5 : Array CpInfo := pool [(2, .class_ 4), (1, u "java/lang/Enum"), (0, u "name"), (0, u "Ljava/lang/String;"), (2, u "ordinal"), (0, u "I"), (1, .class_ 14), (1, u "java/lang/Object"), (4, u "hash"), (86, .class_ 108), (1, u "java/lang/Enum$EnumDesc"), (2, .class_ 112), (0, u "java/lang/constant/Constable"), (0, .class_ 114), (0, u "java/lang/Comparable"), (0, .class_ 116), (0, u "java/io/Serializable")] 87

/-- java/lang/Enum -/
def k5 : Class := { plain "java/lang/Enum" (some 0) with
  accessFlags := 1057
  interfaces := #[2, 3, 4]
  cf := some (fileOf pool5 2 #[.nestMembers #[106]] #[] 1057 12 #[111, 113, 115] #[{ accessFlags := 18, nameIndex := 5, descriptorIndex := 6, attributes := #[] }, { accessFlags := 18, nameIndex := 9, descriptorIndex := 10, attributes := #[] }, { accessFlags := 2, nameIndex := 19, descriptorIndex := 10, attributes := #[] }])
  fields := #[{ name := "name", type := (.object "java/lang/String"), accessFlags := 18, slot := 0, constantValue := 0 }, { name := "ordinal", type := .int, accessFlags := 18, slot := 1, constantValue := 0 }, { name := "hash", type := .int, accessFlags := 2, slot := 2, constantValue := 0 }]
  methods := #[]
  instanceTypes := #[(.object "java/lang/String"), .int, .int]
  staticTypes := #[]
  resolved := Array.replicate 204 none
  statics := none }

def pool6 : Array CpInfo := pool [(1, .class_ 2), (0, u "com/example/castwright/castwright/NumberText$CurrencySign"), (2, u "NONE"), (0, u "Lcom/example/castwright/castwright/NumberText$CurrencySign;"), (2, u "FIRST"), (2, u "BESIDE_SIGN"), (2, u "ANY_BESIDE_SIGN"), (2, u "$VALUES"), (0, u "[Lcom/example/castwright/castwright/NumberText$CurrencySign;"), (6, .class_ 28), (1, u "java/lang/Enum"), (14, u "isCurrencySymbol"), (0, u "(C)Z"), (26, .class_ 72), (0, u "com/example/castwright/castwright/NumberText")] 2

def k6c0 : Code := { maxStack := 2, maxLocals := 1, code := prog_63_method_6_code, exceptionTable := #[], attributes := #[] }
def k6m0 : Method := { name := "isCurrencySymbol", desc := "(C)Z", sig := { parameters := [.char], returnType := some .boolean }, accessFlags := 8, code := some k6c0 }
/-- com/example/castwright/castwright/NumberText$CurrencySign -/
def k6 : Class := { plain "com/example/castwright/castwright/NumberText$CurrencySign" (some 5) with
  accessFlags := 16432
  interfaces := #[]
  cf := some (fileOf pool6 1 #[.nestHost 71] #[{ accessFlags := 8, nameIndex := 43, descriptorIndex := 44, attributes := #[] }] 16432 26 #[] #[{ accessFlags := 16409, nameIndex := 5, descriptorIndex := 6, attributes := #[] }, { accessFlags := 16409, nameIndex := 9, descriptorIndex := 6, attributes := #[] }, { accessFlags := 16409, nameIndex := 12, descriptorIndex := 6, attributes := #[] }, { accessFlags := 16409, nameIndex := 15, descriptorIndex := 6, attributes := #[] }, { accessFlags := 4122, nameIndex := 18, descriptorIndex := 19, attributes := #[] }])
  fields := #[{ name := "NONE", type := (.object "com/example/castwright/castwright/NumberText$CurrencySign"), accessFlags := 16409, slot := 0, constantValue := 0 }, { name := "FIRST", type := (.object "com/example/castwright/castwright/NumberText$CurrencySign"), accessFlags := 16409, slot := 1, constantValue := 0 }, { name := "BESIDE_SIGN", type := (.object "com/example/castwright/castwright/NumberText$CurrencySign"), accessFlags := 16409, slot := 2, constantValue := 0 }, { name := "ANY_BESIDE_SIGN", type := (.object "com/example/castwright/castwright/NumberText$CurrencySign"), accessFlags := 16409, slot := 3, constantValue := 0 }, { name := "$VALUES", type := (.array (.object "com/example/castwright/castwright/NumberText$CurrencySign")), accessFlags := 4122, slot := 4, constantValue := 0 }]
  methods := #[k6m0]
  instanceTypes := #[(.object "java/lang/String"), .int, .int]
  staticTypes := #[(.object "com/example/castwright/castwright/NumberText$CurrencySign"), (.object "com/example/castwright/castwright/NumberText$CurrencySign"), (.object "com/example/castwright/castwright/NumberText$CurrencySign"), (.object "com/example/castwright/castwright/NumberText$CurrencySign"), (.array (.object "com/example/castwright/castwright/NumberText$CurrencySign"))]
  resolved := Array.replicate 75 none
  statics := none }

def pool7 : Array CpInfo := pool [(1, u "java/lang/Cloneable"), (0, .class_ 1), (0, u "java/lang/Object"), (0, .class_ 3)] 3

/-- java/lang/Cloneable -/
def k7 : Class := { plain "java/lang/Cloneable" (some 0) with
  accessFlags := 1537
  interfaces := #[]
  cf := some (fileOf pool7 2 #[] #[] 1537 4 #[] #[])
  fields := #[]
  methods := #[]
  instanceTypes := #[]
  staticTypes := #[]
  resolved := Array.replicate 8 none
  statics := none }

/-- the primitive byte -/
def k8 : Class := { plain "byte" none with kind := .primitive 'B', accessFlags := 0x411 }
/-- [B -/
def k9 : Class := { plain "[B" (some 0) with kind := .array 8 .byte, interfaces := #[7, 4], accessFlags := 1041 }

/-- the primitive char -/
def k10 : Class := { plain "char" none with kind := .primitive 'C', accessFlags := 0x411 }
/-- [C -/
def k11 : Class := { plain "[C" (some 0) with kind := .array 10 .char, interfaces := #[7, 4], accessFlags := 1041 }

/-- the primitive int -/
def k12 : Class := { plain "int" none with kind := .primitive 'I', accessFlags := 0x411 }
/-- [I -/
def k13 : Class := { plain "[I" (some 0) with kind := .array 12 .int, interfaces := #[7, 4], accessFlags := 1041 }

def heap : Heap := #[]
def classes : Array Class := #[k0, k1, k2, k3, k4, k5, k6, k7, k8, k9, k10, k11, k12, k13]
def interned : List (Array UInt16 × Addr) := []
def slotsUsed : Nat := 0
def theMethod : MethodId := ⟨1, 1⟩
def args0 : Array Value := #[.int 5, .int 3]
def aboutOver (below : List Frame) : State where
  vm := { classes := classes, interned := interned.toArray }
  heap := heap
  slotsUsed := slotsUsed
  threads := #[{ frames := .invoking theMethod args0 :: below }]
def below0 : List Frame := [.native { method := ⟨0, 0⟩, args := #[] }]
def about1 : State := aboutOver below0
def p0 : Program := .bare "" "" ""
def e0 : Env := launch0.env 0 0 0
theorem w_frames : about1.frames = Frame.invoking theMethod args0 :: below0 := rfl
set_option maxRecDepth 65536 in
theorem w_args : argsFit about1.vm theMethod args0 = true := by decide +kernel
set_option maxRecDepth 65536 in
theorem w_heap : heapFits about1 = true := by decide +kernel
set_option maxRecDepth 65536 in
theorem w_runnable : about1.curStatus? = some .runnable := by decide +kernel
set_option maxRecDepth 65536 in
theorem w_alone : about1.alone = true := by decide +kernel
set_option maxRecDepth 65536 in
theorem w_named : about1.methodNamed? x = some theMethod := by decide +kernel
set_option maxRecDepth 65536 in
theorem w_hears : about1.hears theMethod below0 = true := by decide +kernel
set_option maxRecDepth 65536 in
theorem w_ripe : about1.ripe theMethod args0 below0 = true := by decide +kernel
theorem w_running : about1.status = .running := rfl
set_option maxRecDepth 65536 in
theorem w_room : about1.hasRoom e0.platform room_1 = true :=
  launch0.hasRoom_least _ room_1 (by decide +kernel) (by decide +kernel) (by decide +kernel) (by decide +kernel) (by decide +kernel) (by decide +kernel)
theorem allAtoms_all (ts : List Jvm.Cond) (a : Array Jvm.Value) (st : Jvm.State) : (allAtoms ts).before a st = ts.all (fun c => c.before a st) := by
  induction ts with
  | nil => rfl
  | cons c t ih =>
    show (Jvm.Cond.and c (allAtoms t)).before a st = _
    rw [Jvm.Cond.before_and, ih, List.all_cons]
def words1 : List Jvm.Cond := Jvm.Cond.code x code maxLocals ret :: tables_1
/-- a 'code' word, met by the world's own term for the bytes: nothing is compared byte by byte -/
theorem code_word {y : MethodName} {bytes : ByteArray} {mx : Nat} {rt : Option FieldType} {a : Array Value} {s : State} {m : MethodId} {meth : Method} {c : Code} (h1 : s.methodNamed? y = some m) (h2 : s.vm.method? m = some meth) (h3 : meth.code = some c) (h4 : c.code = bytes)
    (h5 : (c.maxLocals == mx && c.exceptionTable.isEmpty && decide (c.maxStack ≤ mostOperands) && decide (meth.sig.returnType = rt) && !meth.locks && decide (parseMethodDescriptor y.desc = some meth.sig)) = true) : (Jvm.Cond.code y bytes mx rt).before a s = true := by
  simp only [Bool.and_eq_true, beq_iff_eq, Bool.not_eq_true', decide_eq_true_eq] at h5
  obtain ⟨⟨⟨⟨⟨g1, g2⟩, g3⟩, g4⟩, g5⟩, g6⟩ := h5
  simp [Cond.before, Cond.holds, Cond.value, h1, h2, h3, h4, g1, g2, g3, g4, g5, g6]
def isCode : Jvm.Cond → Bool
  | .code _ _ _ _ => true
  | _ => false
theorem all_split {L : List Jvm.Cond} {P : Jvm.Cond → Bool} (h1 : L.all (fun c => isCode c || P c) = true) (h2 : ∀ c ∈ L.filter isCode, P c = true) : L.all P = true := by
  refine List.all_eq_true.mpr fun c hc => ?_
  have h := List.all_eq_true.mp h1 c hc
  rcases Bool.eq_false_or_eq_true (isCode c) with hi | hi
  · exact h2 c (List.mem_filter.mpr ⟨hc, hi⟩)
  · simpa [hi] using h
set_option maxRecDepth 65536 in
theorem w_c0 : (Jvm.Cond.code x code maxLocals ret).before args0 about1 = true := code_word (m := ⟨1, 1⟩) (meth := k1m1) (c := k1c1) (by decide +kernel) rfl rfl rfl (by decide +kernel)
set_option maxRecDepth 65536 in
theorem w_c1 : (Jvm.Cond.code ({ cls := "com/example/castwright/castwright/CurrencySignIsCurrencySymbolPinLaw", name := "isListed", desc := "([CC)Z" } : Jvm.MethodName) method_3_code (2 : Nat) (Option.some Jvm.ClassFile.FieldType.boolean)).before args0 about1 = true := code_word (m := ⟨1, 2⟩) (meth := k1m2) (c := k1c2) (by decide +kernel) rfl rfl rfl (by decide +kernel)
set_option maxRecDepth 65536 in
theorem w_c2 : (Jvm.Cond.code ({ cls := "com/example/castwright/castwright/NumberText$CurrencySign", name := "isCurrencySymbol", desc := "(C)Z" } : Jvm.MethodName) prog_63_method_6_code (1 : Nat) (Option.some Jvm.ClassFile.FieldType.boolean)).before args0 about1 = true := code_word (m := ⟨6, 0⟩) (meth := k6m0) (c := k6c0) (by decide +kernel) rfl rfl rfl (by decide +kernel)
def codes1 : List Jvm.Cond := [Jvm.Cond.code x code maxLocals ret, Jvm.Cond.code ({ cls := "com/example/castwright/castwright/CurrencySignIsCurrencySymbolPinLaw", name := "isListed", desc := "([CC)Z" } : Jvm.MethodName) method_3_code (2 : Nat) (Option.some Jvm.ClassFile.FieldType.boolean), Jvm.Cond.code ({ cls := "com/example/castwright/castwright/NumberText$CurrencySign", name := "isCurrencySymbol", desc := "(C)Z" } : Jvm.MethodName) prog_63_method_6_code (1 : Nat) (Option.some Jvm.ClassFile.FieldType.boolean)]
set_option maxRecDepth 65536 in
theorem codes_eq : words1.filter isCode = codes1 := rfl
theorem w_codes : ∀ c ∈ words1.filter isCode, c.before args0 about1 = true := by
  rw [codes_eq]
  intro c hc
  simp only [codes1, List.mem_cons, List.not_mem_nil, or_false] at hc
  rcases hc with rfl | rfl | rfl
  · exact w_c0
  · exact w_c1
  · exact w_c2
set_option maxRecDepth 65536 in
theorem w_t1 : words1.all (fun c => isCode c || c.before args0 about1) = true := by decide +kernel
theorem w_tables : (allAtoms (Jvm.Cond.code x code maxLocals ret :: tables_1)).before args0 about1 = true := by
  rw [allAtoms_all]
  show words1.all (fun c => c.before args0 about1) = true
  refine all_split ?_ w_codes
  rw [w_t1]
set_option maxRecDepth 65536 in
theorem w_case : (Jvm.Cond.and given_1 narrow_1).before args0 about1 = true := by decide +kernel
theorem w_applies : (headSpec (Jvm.Cond.code x code maxLocals ret :: tables_1) room_1).applies x e0.platform about1 = true :=
  (Spec.applies_iff w_frames).mpr ⟨w_running, w_runnable, w_alone, w_named, w_hears, w_ripe, w_room, w_tables⟩
theorem atStart : AtStart classFile x code maxLocals ret World_1 tables_1 room_1 Calls_1 rest_1 Pre_1 launch0 p0 e0 about1 theMethod args0 below0 :=
  ⟨lists_1, trivial, launch0.admits_env _ _ _, launch0.least_env, fairChoices_fair.cas, fairChoices_fair.clock, w_frames, w_args, w_heap, w_applies, trivial, trivial, w_case⟩
end start1
theorem witness_1 : WitnessClaimed_1 := ⟨start1.p0, start1.e0, start1.about1, start1.theMethod, start1.args0, start1.below0, start1.atStart⟩
end Jvm.Pilot.@@N@@
