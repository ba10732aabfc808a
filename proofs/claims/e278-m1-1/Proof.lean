import JvmDerived
import JvmDerived.Pilot.@@N@@Statement
import JvmDerived.Pilot.@@N@@Code
set_option linter.unusedVariables false
set_option linter.unusedSimpArgs false
namespace Jvm.Pilot.@@N@@
open Jvm Jvm.ClassFile Sem Op Lib Jvm.Free Jvm.Stand Jvm.LawKit Jvm.RoadKit Bundle Jvm.Pilot.@@N@@.Jvm.D
theorem d_in_0 : decode method_2_code 0 = .ok (.iload_n 0, 1) := by decide +kernel
theorem d_in_1 : decode method_2_code 1 = .ok (.iload_n 1, 1) := by decide +kernel
theorem d_in_2 : decode method_2_code 2 = .ok (.if_icmp .lt 12, 3) := by decide +kernel
theorem d_in_5 : decode method_2_code 5 = .ok (.iload_n 0, 1) := by decide +kernel
theorem d_in_6 : decode method_2_code 6 = .ok (.iload_n 2, 1) := by decide +kernel
theorem d_in_7 : decode method_2_code 7 = .ok (.if_icmp .gt 7, 3) := by decide +kernel
theorem d_in_10 : decode method_2_code 10 = .ok (.iconst 1, 1) := by decide +kernel
theorem d_in_11 : decode method_2_code 11 = .ok (.goto 4, 3) := by decide +kernel
theorem d_in_14 : decode method_2_code 14 = .ok (.iconst 0, 1) := by decide +kernel
theorem d_in_15 : decode method_2_code 15 = .ok (.ireturn, 1) := by decide +kernel
theorem d_reference_0 : decode method_3_code 0 = .ok (.iload_n 0, 1) := by decide +kernel
theorem d_reference_1 : decode method_3_code 1 = .ok (.sipush 160, 3) := by decide +kernel
theorem d_reference_4 : decode method_3_code 4 = .ok (.ldc 7, 2) := by decide +kernel
theorem d_reference_6 : decode method_3_code 6 = .ok (.invokestatic 8, 3) := by decide +kernel
theorem d_reference_9 : decode method_3_code 9 = .ok (.ifCond .ne 179, 3) := by decide +kernel
theorem d_reference_12 : decode method_3_code 12 = .ok (.iload_n 0, 1) := by decide +kernel
theorem d_reference_13 : decode method_3_code 13 = .ok (.ldc 14, 2) := by decide +kernel
theorem d_reference_15 : decode method_3_code 15 = .ok (.ldc 15, 2) := by decide +kernel
theorem d_reference_17 : decode method_3_code 17 = .ok (.invokestatic 8, 3) := by decide +kernel
theorem d_reference_20 : decode method_3_code 20 = .ok (.ifCond .ne 168, 3) := by decide +kernel
theorem d_reference_23 : decode method_3_code 23 = .ok (.iload_n 0, 1) := by decide +kernel
theorem d_reference_24 : decode method_3_code 24 = .ok (.ldc 16, 2) := by decide +kernel
theorem d_reference_26 : decode method_3_code 26 = .ok (.ldc 17, 2) := by decide +kernel
theorem d_reference_28 : decode method_3_code 28 = .ok (.invokestatic 8, 3) := by decide +kernel
theorem d_reference_31 : decode method_3_code 31 = .ok (.ifCond .ne 157, 3) := by decide +kernel
theorem d_reference_34 : decode method_3_code 34 = .ok (.iload_n 0, 1) := by decide +kernel
theorem d_reference_35 : decode method_3_code 35 = .ok (.ldc 18, 2) := by decide +kernel
theorem d_reference_37 : decode method_3_code 37 = .ok (.ldc 19, 2) := by decide +kernel
theorem d_reference_39 : decode method_3_code 39 = .ok (.invokestatic 8, 3) := by decide +kernel
theorem d_reference_42 : decode method_3_code 42 = .ok (.ifCond .ne 146, 3) := by decide +kernel
theorem d_reference_45 : decode method_3_code 45 = .ok (.iload_n 0, 1) := by decide +kernel
theorem d_reference_46 : decode method_3_code 46 = .ok (.ldc 20, 2) := by decide +kernel
theorem d_reference_48 : decode method_3_code 48 = .ok (.ldc 21, 2) := by decide +kernel
theorem d_reference_50 : decode method_3_code 50 = .ok (.invokestatic 8, 3) := by decide +kernel
theorem d_reference_53 : decode method_3_code 53 = .ok (.ifCond .ne 135, 3) := by decide +kernel
theorem d_reference_56 : decode method_3_code 56 = .ok (.iload_n 0, 1) := by decide +kernel
theorem d_reference_57 : decode method_3_code 57 = .ok (.ldc 22, 2) := by decide +kernel
theorem d_reference_59 : decode method_3_code 59 = .ok (.ldc 23, 2) := by decide +kernel
theorem d_reference_61 : decode method_3_code 61 = .ok (.invokestatic 8, 3) := by decide +kernel
theorem d_reference_64 : decode method_3_code 64 = .ok (.ifCond .ne 124, 3) := by decide +kernel
theorem d_reference_67 : decode method_3_code 67 = .ok (.iload_n 0, 1) := by decide +kernel
theorem d_reference_68 : decode method_3_code 68 = .ok (.ldc 24, 2) := by decide +kernel
theorem d_reference_70 : decode method_3_code 70 = .ok (.ldc 25, 2) := by decide +kernel
theorem d_reference_72 : decode method_3_code 72 = .ok (.invokestatic 8, 3) := by decide +kernel
theorem d_reference_75 : decode method_3_code 75 = .ok (.ifCond .ne 113, 3) := by decide +kernel
theorem d_reference_78 : decode method_3_code 78 = .ok (.iload_n 0, 1) := by decide +kernel
theorem d_reference_79 : decode method_3_code 79 = .ok (.ldc 26, 2) := by decide +kernel
theorem d_reference_81 : decode method_3_code 81 = .ok (.ldc 27, 2) := by decide +kernel
theorem d_reference_83 : decode method_3_code 83 = .ok (.invokestatic 8, 3) := by decide +kernel
theorem d_reference_86 : decode method_3_code 86 = .ok (.ifCond .ne 102, 3) := by decide +kernel
theorem d_reference_89 : decode method_3_code 89 = .ok (.iload_n 0, 1) := by decide +kernel
theorem d_reference_90 : decode method_3_code 90 = .ok (.ldc 28, 2) := by decide +kernel
theorem d_reference_92 : decode method_3_code 92 = .ok (.ldc 29, 2) := by decide +kernel
theorem d_reference_94 : decode method_3_code 94 = .ok (.invokestatic 8, 3) := by decide +kernel
theorem d_reference_97 : decode method_3_code 97 = .ok (.ifCond .ne 91, 3) := by decide +kernel
theorem d_reference_100 : decode method_3_code 100 = .ok (.iload_n 0, 1) := by decide +kernel
theorem d_reference_101 : decode method_3_code 101 = .ok (.ldc 30, 2) := by decide +kernel
theorem d_reference_103 : decode method_3_code 103 = .ok (.ldc 31, 2) := by decide +kernel
theorem d_reference_105 : decode method_3_code 105 = .ok (.invokestatic 8, 3) := by decide +kernel
theorem d_reference_108 : decode method_3_code 108 = .ok (.ifCond .ne 80, 3) := by decide +kernel
theorem d_reference_111 : decode method_3_code 111 = .ok (.iload_n 0, 1) := by decide +kernel
theorem d_reference_112 : decode method_3_code 112 = .ok (.ldc 32, 2) := by decide +kernel
theorem d_reference_114 : decode method_3_code 114 = .ok (.ldc 33, 2) := by decide +kernel
theorem d_reference_116 : decode method_3_code 116 = .ok (.invokestatic 8, 3) := by decide +kernel
theorem d_reference_119 : decode method_3_code 119 = .ok (.ifCond .ne 69, 3) := by decide +kernel
theorem d_reference_122 : decode method_3_code 122 = .ok (.iload_n 0, 1) := by decide +kernel
theorem d_reference_123 : decode method_3_code 123 = .ok (.ldc 34, 2) := by decide +kernel
theorem d_reference_125 : decode method_3_code 125 = .ok (.ldc 35, 2) := by decide +kernel
theorem d_reference_127 : decode method_3_code 127 = .ok (.invokestatic 8, 3) := by decide +kernel
theorem d_reference_130 : decode method_3_code 130 = .ok (.ifCond .ne 58, 3) := by decide +kernel
theorem d_reference_133 : decode method_3_code 133 = .ok (.iload_n 0, 1) := by decide +kernel
theorem d_reference_134 : decode method_3_code 134 = .ok (.ldc 36, 2) := by decide +kernel
theorem d_reference_136 : decode method_3_code 136 = .ok (.ldc 37, 2) := by decide +kernel
theorem d_reference_138 : decode method_3_code 138 = .ok (.invokestatic 8, 3) := by decide +kernel
theorem d_reference_141 : decode method_3_code 141 = .ok (.ifCond .ne 47, 3) := by decide +kernel
theorem d_reference_144 : decode method_3_code 144 = .ok (.iload_n 0, 1) := by decide +kernel
theorem d_reference_145 : decode method_3_code 145 = .ok (.ldc 38, 2) := by decide +kernel
theorem d_reference_147 : decode method_3_code 147 = .ok (.ldc 39, 2) := by decide +kernel
theorem d_reference_149 : decode method_3_code 149 = .ok (.invokestatic 8, 3) := by decide +kernel
theorem d_reference_152 : decode method_3_code 152 = .ok (.ifCond .ne 36, 3) := by decide +kernel
theorem d_reference_155 : decode method_3_code 155 = .ok (.iload_n 0, 1) := by decide +kernel
theorem d_reference_156 : decode method_3_code 156 = .ok (.ldc 40, 2) := by decide +kernel
theorem d_reference_158 : decode method_3_code 158 = .ok (.ldc 41, 2) := by decide +kernel
theorem d_reference_160 : decode method_3_code 160 = .ok (.invokestatic 8, 3) := by decide +kernel
theorem d_reference_163 : decode method_3_code 163 = .ok (.ifCond .ne 25, 3) := by decide +kernel
theorem d_reference_166 : decode method_3_code 166 = .ok (.iload_n 0, 1) := by decide +kernel
theorem d_reference_167 : decode method_3_code 167 = .ok (.ldc 42, 2) := by decide +kernel
theorem d_reference_169 : decode method_3_code 169 = .ok (.ldc 43, 2) := by decide +kernel
theorem d_reference_171 : decode method_3_code 171 = .ok (.invokestatic 8, 3) := by decide +kernel
theorem d_reference_174 : decode method_3_code 174 = .ok (.ifCond .ne 14, 3) := by decide +kernel
theorem d_reference_177 : decode method_3_code 177 = .ok (.iload_n 0, 1) := by decide +kernel
theorem d_reference_178 : decode method_3_code 178 = .ok (.ldc 44, 2) := by decide +kernel
theorem d_reference_180 : decode method_3_code 180 = .ok (.ldc 45, 2) := by decide +kernel
theorem d_reference_182 : decode method_3_code 182 = .ok (.invokestatic 8, 3) := by decide +kernel
theorem d_reference_185 : decode method_3_code 185 = .ok (.ifCond .eq 7, 3) := by decide +kernel
theorem d_reference_188 : decode method_3_code 188 = .ok (.iconst 1, 1) := by decide +kernel
theorem d_reference_189 : decode method_3_code 189 = .ok (.goto 4, 3) := by decide +kernel
theorem d_reference_192 : decode method_3_code 192 = .ok (.iconst 0, 1) := by decide +kernel
theorem d_reference_193 : decode method_3_code 193 = .ok (.ireturn, 1) := by decide +kernel
theorem d_isUcsChar_0 : decode prog_24_method_7_code 0 = .ok (.iload_n 0, 1) := by decide +kernel
theorem d_isUcsChar_1 : decode prog_24_method_7_code 1 = .ok (.sipush 160, 3) := by decide +kernel
theorem d_isUcsChar_4 : decode prog_24_method_7_code 4 = .ok (.if_icmp .lt 11, 3) := by decide +kernel
theorem d_isUcsChar_7 : decode prog_24_method_7_code 7 = .ok (.iload_n 0, 1) := by decide +kernel
theorem d_isUcsChar_8 : decode prog_24_method_7_code 8 = .ok (.ldc 35, 2) := by decide +kernel
theorem d_isUcsChar_10 : decode prog_24_method_7_code 10 = .ok (.if_icmp .gt 5, 3) := by decide +kernel
theorem d_isUcsChar_13 : decode prog_24_method_7_code 13 = .ok (.iconst 1, 1) := by decide +kernel
theorem d_isUcsChar_14 : decode prog_24_method_7_code 14 = .ok (.ireturn, 1) := by decide +kernel
theorem d_isUcsChar_15 : decode prog_24_method_7_code 15 = .ok (.iload_n 0, 1) := by decide +kernel
theorem d_isUcsChar_16 : decode prog_24_method_7_code 16 = .ok (.ldc 36, 2) := by decide +kernel
theorem d_isUcsChar_18 : decode prog_24_method_7_code 18 = .ok (.if_icmp .lt 11, 3) := by decide +kernel
theorem d_isUcsChar_21 : decode prog_24_method_7_code 21 = .ok (.iload_n 0, 1) := by decide +kernel
theorem d_isUcsChar_22 : decode prog_24_method_7_code 22 = .ok (.ldc 37, 2) := by decide +kernel
theorem d_isUcsChar_24 : decode prog_24_method_7_code 24 = .ok (.if_icmp .gt 5, 3) := by decide +kernel
theorem d_isUcsChar_27 : decode prog_24_method_7_code 27 = .ok (.iconst 1, 1) := by decide +kernel
theorem d_isUcsChar_28 : decode prog_24_method_7_code 28 = .ok (.ireturn, 1) := by decide +kernel
theorem d_isUcsChar_29 : decode prog_24_method_7_code 29 = .ok (.iload_n 0, 1) := by decide +kernel
theorem d_isUcsChar_30 : decode prog_24_method_7_code 30 = .ok (.ldc 38, 2) := by decide +kernel
theorem d_isUcsChar_32 : decode prog_24_method_7_code 32 = .ok (.if_icmp .lt 11, 3) := by decide +kernel
theorem d_isUcsChar_35 : decode prog_24_method_7_code 35 = .ok (.iload_n 0, 1) := by decide +kernel
theorem d_isUcsChar_36 : decode prog_24_method_7_code 36 = .ok (.ldc 39, 2) := by decide +kernel
theorem d_isUcsChar_38 : decode prog_24_method_7_code 38 = .ok (.if_icmp .gt 5, 3) := by decide +kernel
theorem d_isUcsChar_41 : decode prog_24_method_7_code 41 = .ok (.iconst 1, 1) := by decide +kernel
theorem d_isUcsChar_42 : decode prog_24_method_7_code 42 = .ok (.ireturn, 1) := by decide +kernel
theorem d_isUcsChar_43 : decode prog_24_method_7_code 43 = .ok (.iload_n 0, 1) := by decide +kernel
theorem d_isUcsChar_44 : decode prog_24_method_7_code 44 = .ok (.ldc 40, 2) := by decide +kernel
theorem d_isUcsChar_46 : decode prog_24_method_7_code 46 = .ok (.if_icmp .lt 34, 3) := by decide +kernel
theorem d_isUcsChar_49 : decode prog_24_method_7_code 49 = .ok (.iload_n 0, 1) := by decide +kernel
theorem d_isUcsChar_50 : decode prog_24_method_7_code 50 = .ok (.ldc 41, 2) := by decide +kernel
theorem d_isUcsChar_52 : decode prog_24_method_7_code 52 = .ok (.if_icmp .gt 28, 3) := by decide +kernel
theorem d_isUcsChar_55 : decode prog_24_method_7_code 55 = .ok (.iload_n 0, 1) := by decide +kernel
theorem d_isUcsChar_56 : decode prog_24_method_7_code 56 = .ok (.ldc 42, 2) := by decide +kernel
theorem d_isUcsChar_58 : decode prog_24_method_7_code 58 = .ok (.iand, 1) := by decide +kernel
theorem d_isUcsChar_59 : decode prog_24_method_7_code 59 = .ok (.ldc 43, 2) := by decide +kernel
theorem d_isUcsChar_61 : decode prog_24_method_7_code 61 = .ok (.if_icmp .gt 19, 3) := by decide +kernel
theorem d_isUcsChar_64 : decode prog_24_method_7_code 64 = .ok (.iload_n 0, 1) := by decide +kernel
theorem d_isUcsChar_65 : decode prog_24_method_7_code 65 = .ok (.ldc 44, 2) := by decide +kernel
theorem d_isUcsChar_67 : decode prog_24_method_7_code 67 = .ok (.if_icmp .lt 9, 3) := by decide +kernel
theorem d_isUcsChar_70 : decode prog_24_method_7_code 70 = .ok (.iload_n 0, 1) := by decide +kernel
theorem d_isUcsChar_71 : decode prog_24_method_7_code 71 = .ok (.ldc 45, 2) := by decide +kernel
theorem d_isUcsChar_73 : decode prog_24_method_7_code 73 = .ok (.if_icmp .lt 7, 3) := by decide +kernel
theorem d_isUcsChar_76 : decode prog_24_method_7_code 76 = .ok (.iconst 1, 1) := by decide +kernel
theorem d_isUcsChar_77 : decode prog_24_method_7_code 77 = .ok (.goto 4, 3) := by decide +kernel
theorem d_isUcsChar_80 : decode prog_24_method_7_code 80 = .ok (.iconst 0, 1) := by decide +kernel
theorem d_isUcsChar_81 : decode prog_24_method_7_code 81 = .ok (.ireturn, 1) := by decide +kernel
theorem pn_0 : plainName "com/example/sagoma/sagoma/format/Rfc3986IsUcsCharPinLaw" = true := by first | (simp [plainName, overriddenIn]; done) | decide +kernel
theorem pn_u : plainName "com/example/sagoma/sagoma/format/Rfc3986" = true := by first | (simp [plainName, overriddenIn]; done) | decide +kernel
theorem pd_1 : parseMethodDescriptor "(I)Z" = some ⟨[.int], some .boolean⟩ := by decide +kernel
theorem pd_3 : parseMethodDescriptor "(III)Z" = some ⟨[.int, .int, .int], some .boolean⟩ := by decide +kernel
theorem ef_1 (m : MethodId) (x0 : Int32) : entryFrame m #[(.int x0)] 1 = mkF m 0 #[.val (.int x0)] [] := by first | (simp [entryFrame, mkF, argsToLocals, Value.category]; done) | rfl
theorem ef_3 (m : MethodId) (x0 : Int32) (x1 : Int32) (x2 : Int32) : entryFrame m #[(.int x0), (.int x1), (.int x2)] 3 = mkF m 0 #[.val (.int x0), .val (.int x1), .val (.int x2)] [] := by first | (simp [entryFrame, mkF, argsToLocals, Value.category]; done) | rfl
theorem ef_0 (m : MethodId) (x0 : Int32) (x1 : Int32) : entryFrame m #[(.int x0), (.int x1)] maxLocals = mkF m 0 #[.val (.int x0), .val (.int x1), .unset] [] := by first | (simp [entryFrame, mkF, argsToLocals, Value.category, maxLocals]; done) | rfl
def own_in (c lo hi : Int32) : Int32 := if c < lo then 0 else if hi < c then 0 else 1
def own_R (n : Int) : Bool := (decide (160 ≤ n) && decide (n ≤ 55295)) || (decide (63744 ≤ n) && decide (n ≤ 64975)) || (decide (65008 ≤ n) && decide (n ≤ 65519)) || (decide (65536 ≤ n) && decide (n ≤ 131069)) || (decide (131072 ≤ n) && decide (n ≤ 196605)) || (decide (196608 ≤ n) && decide (n ≤ 262141)) || (decide (262144 ≤ n) && decide (n ≤ 327677)) || (decide (327680 ≤ n) && decide (n ≤ 393213)) || (decide (393216 ≤ n) && decide (n ≤ 458749)) || (decide (458752 ≤ n) && decide (n ≤ 524285)) || (decide (524288 ≤ n) && decide (n ≤ 589821)) || (decide (589824 ≤ n) && decide (n ≤ 655357)) || (decide (655360 ≤ n) && decide (n ≤ 720893)) || (decide (720896 ≤ n) && decide (n ≤ 786429)) || (decide (786432 ≤ n) && decide (n ≤ 851965)) || (decide (851968 ≤ n) && decide (n ≤ 917501)) || (decide (921600 ≤ n) && decide (n ≤ 983037))
def own_r (c : Int32) : Int32 := if own_R c.toInt = true then 1 else 0
def own_U (n : Int) : Bool := (decide (160 ≤ n) && decide (n ≤ 55295)) || (decide (63744 ≤ n) && decide (n ≤ 64975)) || (decide (65008 ≤ n) && decide (n ≤ 65519)) || (decide (65536 ≤ n) && decide (n ≤ 983037) && decide (n % 65536 ≤ 65533) && !(decide (917504 ≤ n) && decide (n < 921600)))
def own_u (c : Int32) : Int32 := if own_U c.toInt = true then 1 else 0
theorem own_same (n : Int) : own_U n = own_R n := by
  rw [Bool.eq_iff_iff]
  simp only [own_U, own_R, Bool.or_eq_true, Bool.and_eq_true, Bool.not_eq_true', decide_eq_true_eq, Bool.and_eq_false_iff, decide_eq_false_iff_not]
  omega
theorem own_in0 {c lo hi : Int32} (h : own_in c lo hi = 0) : ¬ (lo.toInt ≤ c.toInt ∧ c.toInt ≤ hi.toInt) := by
  unfold own_in at h
  by_cases h1 : c < lo
  · rw [Int32.lt_iff_toInt_lt] at h1; omega
  · rw [if_neg h1] at h
    by_cases h2 : hi < c
    · rw [Int32.lt_iff_toInt_lt] at h2; omega
    · rw [if_neg h2] at h; exact absurd h (by decide)
theorem own_in1 {c lo hi : Int32} (h : ¬ own_in c lo hi = 0) : lo.toInt ≤ c.toInt ∧ c.toInt ≤ hi.toInt := by
  unfold own_in at h
  by_cases h1 : c < lo
  · rw [if_pos h1] at h; exact absurd rfl h
  · rw [if_neg h1] at h
    by_cases h2 : hi < c
    · rw [if_pos h2] at h; exact absurd rfl h
    · rw [Int32.lt_iff_toInt_lt] at h1 h2; omega
def Q_rm_in (Z : State) (p1 : Int32) (p2 : Int32) (p3 : Int32)  (h0 : Heap) (n0 : Nat) (v : Option Value) (h : Heap) (L : List Loc) : Prop := (v = some (.int (own_in p1 p2 p3)) ∧ Fr n0 L ∧ h = h0)
set_option maxRecDepth 65536 in
set_option maxHeartbeats 40000000 in
theorem rm_in (l : Launch) (Z : State) (a0 : Array Value) (hw : ∀ d ∈ tables_1, d.before a0 Z = true) (ws : List Jvm.Cond) (p1 : Int32) (p2 : Int32) (p3 : Int32) (h0 : Heap) (n0 : Nat)  :
    MetFree l (⟨"com/example/sagoma/sagoma/format/Rfc3986IsUcsCharPinLaw", "in", "(III)Z"⟩ : MethodName) (head1 (Jvm.Cond.code (⟨"com/example/sagoma/sagoma/format/Rfc3986IsUcsCharPinLaw", "in", "(III)Z"⟩ : MethodName) method_2_code 3 (some .boolean) :: ws) ({ frames := 0, cells := 0, slots := 0, locals := 0 } : Room)) (fun a U => a = #[(.int p1), (.int p2), (.int p3)] ∧ Z.Warmed39 U.vm ∧ U.heap = h0) (fun _ _ _ _ _ => True) (fun _ U o U' => ∃ v L, o = .returned v ∧ Q_rm_in Z p1 p2 p3 h0 n0 v U'.heap L ∧ FrameEnd U o U' L ({ frames := 0, cells := 0, slots := 0, locals := 0 } : Room).cells ({ frames := 0, cells := 0, slots := 0, locals := 0 } : Room).slots) := by
  refine MetFree.of_bodySF (plainFor_of_name pn_0) hisR ?_
  intro p e s m args below meth c s₁ Bd hml0 hP hK
  obtain ⟨rfl, hZ, hh⟩ := hP
  have hx := Bd.exec
  have hby := Bd.bytes
  have hml : c.maxLocals = 3 := hml0
  have hown : s.vm.findClass "com/example/sagoma/sagoma/format/Rfc3986IsUcsCharPinLaw" = some m.cls := findClass_of_methodNamed Bd.named
  have hnm := (name_of_methodNamed Bd.named Bd.method).1
  have X0 : Stand p l e ({ frames := 0, cells := 0, slots := 0, locals := 0 } : Room) s m #[(.int p1), (.int p2), (.int p3)] below meth c s₁ [] 0 0 := Stand.of_body Bd
  have e0 : s₁.heap = h0 := by rw [← hh, Bd.state]; rfl
  have N0 := Fr.nil n0
  have pre0 : ∀ t, Steps p.tables e below (s₁.setTop (mkF m 0 #[.val (.int p1), .val (.int p2), .val (.int p3)] [])) t → Steps p.tables e below (s₁.setTop (entryFrame m #[(.int p1), (.int p2), (.int p3)] 3)) t := fun t k => castTop (ef_3 m p1 p2 p3) k
  obtain ⟨fs, hr, hrun, hended, hW, hsame⟩ := X0.leave (v := some (.int (own_in p1 p2 p3))) (fun h => by rw [Bd.returns] at h; cases h)
  refine ⟨_, _, pre0 _ ?_, hrun, hended, _, _, rfl, ⟨rfl, N0, e0⟩, ⟨_, rfl⟩, hW, hsame.mono (by decide) (by decide)⟩
  show Steps p.tables e below (s₁.setTop (mkF m 0 #[.val (.int p1), .val (.int p2), .val (.int p3)] [])) _
  refine XS.iloadN X0.here hx rfl (hb hby d_in_0) rfl ?_
  show Steps p.tables e below (s₁.setTop (mkF m 1 #[.val (.int p1), .val (.int p2), .val (.int p3)] [(.int p1)])) _
  refine XS.iloadN X0.here hx rfl (hb hby d_in_1) rfl ?_
  by_cases hc2 : p1 < p2
  · show Steps p.tables e below (s₁.setTop (mkF m 2 #[.val (.int p1), .val (.int p2), .val (.int p3)] [(.int p2), (.int p1)])) _
    refine XS.icmpYes X0.here hx rfl (pc0 := 2) (pc' := 14) rfl (hb hby d_in_2) rfl (tlt hc2).1 (by decide) (by decide) ?_
    show Steps p.tables e below (s₁.setTop (mkF m 14 #[.val (.int p1), .val (.int p2), .val (.int p3)] [])) _
    refine XS.iconst X0.here hx rfl (hb hby d_in_14) ?_
    show Steps p.tables e below (s₁.setTop (mkF m 15 #[.val (.int p1), .val (.int p2), .val (.int p3)] [(.int (0 : Int32))])) _
    have hv : own_in p1 p2 p3 = (0 : Int32) := by simp only [own_in, *, if_true, if_false]
    rw [hv] at hr
    exact retN X0 hx (t := .boolean) Bd.returns (by simp) (hb hby d_in_15) hr
  · show Steps p.tables e below (s₁.setTop (mkF m 2 #[.val (.int p1), .val (.int p2), .val (.int p3)] [(.int p2), (.int p1)])) _
    refine XS.icmpNo X0.here hx rfl (hb hby d_in_2) rfl (flt hc2).1 ?_
    show Steps p.tables e below (s₁.setTop (mkF m 5 #[.val (.int p1), .val (.int p2), .val (.int p3)] [])) _
    refine XS.iloadN X0.here hx rfl (hb hby d_in_5) rfl ?_
    show Steps p.tables e below (s₁.setTop (mkF m 6 #[.val (.int p1), .val (.int p2), .val (.int p3)] [(.int p1)])) _
    refine XS.iloadN X0.here hx rfl (hb hby d_in_6) rfl ?_
    by_cases hc7 : p3 < p1
    · show Steps p.tables e below (s₁.setTop (mkF m 7 #[.val (.int p1), .val (.int p2), .val (.int p3)] [(.int p3), (.int p1)])) _
      refine XS.icmpYes X0.here hx rfl (pc0 := 7) (pc' := 14) rfl (hb hby d_in_7) rfl (tlt hc7).2.2.1 (by decide) (by decide) ?_
      show Steps p.tables e below (s₁.setTop (mkF m 14 #[.val (.int p1), .val (.int p2), .val (.int p3)] [])) _
      refine XS.iconst X0.here hx rfl (hb hby d_in_14) ?_
      show Steps p.tables e below (s₁.setTop (mkF m 15 #[.val (.int p1), .val (.int p2), .val (.int p3)] [(.int (0 : Int32))])) _
      have hv : own_in p1 p2 p3 = (0 : Int32) := by simp only [own_in, *, if_true, if_false]
      rw [hv] at hr
      exact retN X0 hx (t := .boolean) Bd.returns (by simp) (hb hby d_in_15) hr
    · show Steps p.tables e below (s₁.setTop (mkF m 7 #[.val (.int p1), .val (.int p2), .val (.int p3)] [(.int p3), (.int p1)])) _
      refine XS.icmpNo X0.here hx rfl (hb hby d_in_7) rfl (flt hc7).2.2.1 ?_
      show Steps p.tables e below (s₁.setTop (mkF m 10 #[.val (.int p1), .val (.int p2), .val (.int p3)] [])) _
      refine XS.iconst X0.here hx rfl (hb hby d_in_10) ?_
      show Steps p.tables e below (s₁.setTop (mkF m 11 #[.val (.int p1), .val (.int p2), .val (.int p3)] [(.int (1 : Int32))])) _
      refine XS.goto X0.here hx rfl (pc0 := 11) (pc' := 15) rfl (hb hby d_in_11) (by decide) (by decide) ?_
      show Steps p.tables e below (s₁.setTop (mkF m 15 #[.val (.int p1), .val (.int p2), .val (.int p3)] [(.int (1 : Int32))])) _
      have hv : own_in p1 p2 p3 = (1 : Int32) := by simp only [own_in, *, if_true, if_false]
      rw [hv] at hr
      exact retN X0 hx (t := .boolean) Bd.returns (by simp) (hb hby d_in_15) hr
def Q_rm_u (Z : State) (p1 : Int32)  (h0 : Heap) (n0 : Nat) (v : Option Value) (h : Heap) (L : List Loc) : Prop := (v = some (.int (own_u p1)) ∧ Fr n0 L ∧ h = h0)
set_option maxRecDepth 65536 in
set_option maxHeartbeats 40000000 in
theorem rm_u (l : Launch) (Z : State) (a0 : Array Value) (hw : ∀ d ∈ tables_1, d.before a0 Z = true) (ws : List Jvm.Cond) (p1 : Int32) (h0 : Heap) (n0 : Nat)  :
    MetFree l (⟨"com/example/sagoma/sagoma/format/Rfc3986", "isUcsChar", "(I)Z"⟩ : MethodName) (head1 (Jvm.Cond.code (⟨"com/example/sagoma/sagoma/format/Rfc3986", "isUcsChar", "(I)Z"⟩ : MethodName) prog_24_method_7_code 1 (some .boolean) :: ws) ({ frames := 0, cells := 0, slots := 0, locals := 0 } : Room)) (fun a U => a = #[(.int p1)] ∧ Z.Warmed39 U.vm ∧ U.heap = h0) (fun _ _ _ _ _ => True) (fun _ U o U' => ∃ v L, o = .returned v ∧ Q_rm_u Z p1 h0 n0 v U'.heap L ∧ FrameEnd U o U' L ({ frames := 0, cells := 0, slots := 0, locals := 0 } : Room).cells ({ frames := 0, cells := 0, slots := 0, locals := 0 } : Room).slots) := by
  refine MetFree.of_bodySF (plainFor_of_name pn_u) hisR ?_
  intro p e s m args below meth c s₁ Bd hml0 hP hK
  obtain ⟨rfl, hZ, hh⟩ := hP
  have hx := Bd.exec
  have hby := Bd.bytes
  have hml : c.maxLocals = 1 := hml0
  have hown : s.vm.findClass "com/example/sagoma/sagoma/format/Rfc3986" = some m.cls := findClass_of_methodNamed Bd.named
  have hnm := (name_of_methodNamed Bd.named Bd.method).1
  have X0 : Stand p l e ({ frames := 0, cells := 0, slots := 0, locals := 0 } : Room) s m #[(.int p1)] below meth c s₁ [] 0 0 := Stand.of_body Bd
  have e0 : s₁.heap = h0 := by rw [← hh, Bd.state]; rfl
  have N0 := Fr.nil n0
  have pre0 : ∀ t, Steps p.tables e below (s₁.setTop (mkF m 0 #[.val (.int p1)] [])) t → Steps p.tables e below (s₁.setTop (entryFrame m #[(.int p1)] 1)) t := fun t k => castTop (ef_1 m p1) k
  obtain ⟨fs, hr, hrun, hended, hW, hsame⟩ := X0.leave (v := some (.int (own_u p1))) (fun h => by rw [Bd.returns] at h; cases h)
  refine ⟨_, _, pre0 _ ?_, hrun, hended, _, _, rfl, ⟨rfl, N0, e0⟩, ⟨_, rfl⟩, hW, hsame.mono (by decide) (by decide)⟩
  have hmask : (p1 &&& (65535 : Int32)).toInt = p1.toInt % 65536 := c_mask p1 65535 16 (by decide) (by decide)
  have c160 : (160 : Int32).toInt = 160 := by decide
  have c55295 : (55295 : Int32).toInt = 55295 := by decide
  have c63744 : (63744 : Int32).toInt = 63744 := by decide
  have c64975 : (64975 : Int32).toInt = 64975 := by decide
  have c65008 : (65008 : Int32).toInt = 65008 := by decide
  have c65519 : (65519 : Int32).toInt = 65519 := by decide
  have c65536 : (65536 : Int32).toInt = 65536 := by decide
  have c983037 : (983037 : Int32).toInt = 983037 := by decide
  have c65533 : (65533 : Int32).toInt = 65533 := by decide
  have c917504 : (917504 : Int32).toInt = 917504 := by decide
  have c921600 : (921600 : Int32).toInt = 921600 := by decide
  have k43 : ¬ (160 ≤ p1.toInt ∧ p1.toInt ≤ 55295) ∧ ¬ (63744 ≤ p1.toInt ∧ p1.toInt ≤ 64975) ∧ ¬ (65008 ≤ p1.toInt ∧ p1.toInt ≤ 65519) → Steps p.tables e below (s₁.setTop (mkF m 43 #[.val (.int p1)] [])) (s₁.setFrames fs) := by
    intro hk
    show Steps p.tables e below (s₁.setTop (mkF m 43 #[.val (.int p1)] [])) _
    refine XS.iloadN X0.here hx rfl (hb hby d_isUcsChar_43) rfl ?_
    show Steps p.tables e below (s₁.setTop (mkF m 44 #[.val (.int p1)] [(.int p1)])) _
    refine Jvm.Stand.ldcI X0 hx hown (mvT hZ (hw _ (List.mem_of_getElem? (i := 6) rfl))) rfl (hb hby d_isUcsChar_44) ?_
    by_cases hc46 : p1 < (65536 : Int32)
    · show Steps p.tables e below (s₁.setTop (mkF m 46 #[.val (.int p1)] [(.int (65536 : Int32)), (.int p1)])) _
      refine XS.icmpYes X0.here hx rfl (pc0 := 46) (pc' := 80) rfl (hb hby d_isUcsChar_46) rfl (tlt hc46).1 (by decide) (by decide) ?_
      show Steps p.tables e below (s₁.setTop (mkF m 80 #[.val (.int p1)] [])) _
      refine XS.iconst X0.here hx rfl (hb hby d_isUcsChar_80) ?_
      show Steps p.tables e below (s₁.setTop (mkF m 81 #[.val (.int p1)] [(.int (0 : Int32))])) _
      have hU : own_U p1.toInt = false := by
        simp only [Int32.lt_iff_toInt_lt, hmask, c160, c55295, c63744, c64975, c65008, c65519, c65536, c983037, c65533, c917504, c921600] at *
        simp only [own_U, Bool.or_eq_true, Bool.and_eq_true, Bool.not_eq_true', decide_eq_true_eq, Bool.and_eq_false_iff, Bool.or_eq_false_iff, Bool.not_eq_false', decide_eq_false_iff_not]
        omega
      have hv : own_u p1 = (0 : Int32) := by simp only [own_u, hU]; rfl
      rw [hv] at hr
      exact retN X0 hx (t := .boolean) Bd.returns (by simp) (hb hby d_isUcsChar_81) hr
    · show Steps p.tables e below (s₁.setTop (mkF m 46 #[.val (.int p1)] [(.int (65536 : Int32)), (.int p1)])) _
      refine XS.icmpNo X0.here hx rfl (hb hby d_isUcsChar_46) rfl (flt hc46).1 ?_
      show Steps p.tables e below (s₁.setTop (mkF m 49 #[.val (.int p1)] [])) _
      refine XS.iloadN X0.here hx rfl (hb hby d_isUcsChar_49) rfl ?_
      show Steps p.tables e below (s₁.setTop (mkF m 50 #[.val (.int p1)] [(.int p1)])) _
      refine Jvm.Stand.ldcI X0 hx hown (mvT hZ (hw _ (List.mem_of_getElem? (i := 51) rfl))) rfl (hb hby d_isUcsChar_50) ?_
      by_cases hc52 : (983037 : Int32) < p1
      · show Steps p.tables e below (s₁.setTop (mkF m 52 #[.val (.int p1)] [(.int (983037 : Int32)), (.int p1)])) _
        refine XS.icmpYes X0.here hx rfl (pc0 := 52) (pc' := 80) rfl (hb hby d_isUcsChar_52) rfl (tlt hc52).2.2.1 (by decide) (by decide) ?_
        show Steps p.tables e below (s₁.setTop (mkF m 80 #[.val (.int p1)] [])) _
        refine XS.iconst X0.here hx rfl (hb hby d_isUcsChar_80) ?_
        show Steps p.tables e below (s₁.setTop (mkF m 81 #[.val (.int p1)] [(.int (0 : Int32))])) _
        have hU : own_U p1.toInt = false := by
          simp only [Int32.lt_iff_toInt_lt, hmask, c160, c55295, c63744, c64975, c65008, c65519, c65536, c983037, c65533, c917504, c921600] at *
          simp only [own_U, Bool.or_eq_true, Bool.and_eq_true, Bool.not_eq_true', decide_eq_true_eq, Bool.and_eq_false_iff, Bool.or_eq_false_iff, Bool.not_eq_false', decide_eq_false_iff_not]
          omega
        have hv : own_u p1 = (0 : Int32) := by simp only [own_u, hU]; rfl
        rw [hv] at hr
        exact retN X0 hx (t := .boolean) Bd.returns (by simp) (hb hby d_isUcsChar_81) hr
      · show Steps p.tables e below (s₁.setTop (mkF m 52 #[.val (.int p1)] [(.int (983037 : Int32)), (.int p1)])) _
        refine XS.icmpNo X0.here hx rfl (hb hby d_isUcsChar_52) rfl (flt hc52).2.2.1 ?_
        show Steps p.tables e below (s₁.setTop (mkF m 55 #[.val (.int p1)] [])) _
        refine XS.iloadN X0.here hx rfl (hb hby d_isUcsChar_55) rfl ?_
        show Steps p.tables e below (s₁.setTop (mkF m 56 #[.val (.int p1)] [(.int p1)])) _
        refine Jvm.Stand.ldcI X0 hx hown (mvT hZ (hw _ (List.mem_of_getElem? (i := 52) rfl))) rfl (hb hby d_isUcsChar_56) ?_
        show Steps p.tables e below (s₁.setTop (mkF m 58 #[.val (.int p1)] [(.int (65535 : Int32)), (.int p1)])) _
        refine XS.iand X0.here hx rfl (hb hby d_isUcsChar_58) rfl ?_
        show Steps p.tables e below (s₁.setTop (mkF m 59 #[.val (.int p1)] [(.int (p1 &&& (65535 : Int32)))])) _
        refine Jvm.Stand.ldcI X0 hx hown (mvT hZ (hw _ (List.mem_of_getElem? (i := 53) rfl))) rfl (hb hby d_isUcsChar_59) ?_
        by_cases hc61 : (65533 : Int32) < (p1 &&& (65535 : Int32))
        · show Steps p.tables e below (s₁.setTop (mkF m 61 #[.val (.int p1)] [(.int (65533 : Int32)), (.int (p1 &&& (65535 : Int32)))])) _
          refine XS.icmpYes X0.here hx rfl (pc0 := 61) (pc' := 80) rfl (hb hby d_isUcsChar_61) rfl (tlt hc61).2.2.1 (by decide) (by decide) ?_
          show Steps p.tables e below (s₁.setTop (mkF m 80 #[.val (.int p1)] [])) _
          refine XS.iconst X0.here hx rfl (hb hby d_isUcsChar_80) ?_
          show Steps p.tables e below (s₁.setTop (mkF m 81 #[.val (.int p1)] [(.int (0 : Int32))])) _
          have hU : own_U p1.toInt = false := by
            simp only [Int32.lt_iff_toInt_lt, hmask, c160, c55295, c63744, c64975, c65008, c65519, c65536, c983037, c65533, c917504, c921600] at *
            simp only [own_U, Bool.or_eq_true, Bool.and_eq_true, Bool.not_eq_true', decide_eq_true_eq, Bool.and_eq_false_iff, Bool.or_eq_false_iff, Bool.not_eq_false', decide_eq_false_iff_not]
            omega
          have hv : own_u p1 = (0 : Int32) := by simp only [own_u, hU]; rfl
          rw [hv] at hr
          exact retN X0 hx (t := .boolean) Bd.returns (by simp) (hb hby d_isUcsChar_81) hr
        · show Steps p.tables e below (s₁.setTop (mkF m 61 #[.val (.int p1)] [(.int (65533 : Int32)), (.int (p1 &&& (65535 : Int32)))])) _
          refine XS.icmpNo X0.here hx rfl (hb hby d_isUcsChar_61) rfl (flt hc61).2.2.1 ?_
          show Steps p.tables e below (s₁.setTop (mkF m 64 #[.val (.int p1)] [])) _
          refine XS.iloadN X0.here hx rfl (hb hby d_isUcsChar_64) rfl ?_
          show Steps p.tables e below (s₁.setTop (mkF m 65 #[.val (.int p1)] [(.int p1)])) _
          refine Jvm.Stand.ldcI X0 hx hown (mvT hZ (hw _ (List.mem_of_getElem? (i := 54) rfl))) rfl (hb hby d_isUcsChar_65) ?_
          by_cases hc67 : p1 < (917504 : Int32)
          · show Steps p.tables e below (s₁.setTop (mkF m 67 #[.val (.int p1)] [(.int (917504 : Int32)), (.int p1)])) _
            refine XS.icmpYes X0.here hx rfl (pc0 := 67) (pc' := 76) rfl (hb hby d_isUcsChar_67) rfl (tlt hc67).1 (by decide) (by decide) ?_
            show Steps p.tables e below (s₁.setTop (mkF m 76 #[.val (.int p1)] [])) _
            refine XS.iconst X0.here hx rfl (hb hby d_isUcsChar_76) ?_
            show Steps p.tables e below (s₁.setTop (mkF m 77 #[.val (.int p1)] [(.int (1 : Int32))])) _
            refine XS.goto X0.here hx rfl (pc0 := 77) (pc' := 81) rfl (hb hby d_isUcsChar_77) (by decide) (by decide) ?_
            show Steps p.tables e below (s₁.setTop (mkF m 81 #[.val (.int p1)] [(.int (1 : Int32))])) _
            have hU : own_U p1.toInt = true := by
              simp only [Int32.lt_iff_toInt_lt, hmask, c160, c55295, c63744, c64975, c65008, c65519, c65536, c983037, c65533, c917504, c921600] at *
              simp only [own_U, Bool.or_eq_true, Bool.and_eq_true, Bool.not_eq_true', decide_eq_true_eq, Bool.and_eq_false_iff, Bool.or_eq_false_iff, Bool.not_eq_false', decide_eq_false_iff_not]
              omega
            have hv : own_u p1 = (1 : Int32) := by simp only [own_u, hU]; rfl
            rw [hv] at hr
            exact retN X0 hx (t := .boolean) Bd.returns (by simp) (hb hby d_isUcsChar_81) hr
          · show Steps p.tables e below (s₁.setTop (mkF m 67 #[.val (.int p1)] [(.int (917504 : Int32)), (.int p1)])) _
            refine XS.icmpNo X0.here hx rfl (hb hby d_isUcsChar_67) rfl (flt hc67).1 ?_
            show Steps p.tables e below (s₁.setTop (mkF m 70 #[.val (.int p1)] [])) _
            refine XS.iloadN X0.here hx rfl (hb hby d_isUcsChar_70) rfl ?_
            show Steps p.tables e below (s₁.setTop (mkF m 71 #[.val (.int p1)] [(.int p1)])) _
            refine Jvm.Stand.ldcI X0 hx hown (mvT hZ (hw _ (List.mem_of_getElem? (i := 55) rfl))) rfl (hb hby d_isUcsChar_71) ?_
            by_cases hc73 : p1 < (921600 : Int32)
            · show Steps p.tables e below (s₁.setTop (mkF m 73 #[.val (.int p1)] [(.int (921600 : Int32)), (.int p1)])) _
              refine XS.icmpYes X0.here hx rfl (pc0 := 73) (pc' := 80) rfl (hb hby d_isUcsChar_73) rfl (tlt hc73).1 (by decide) (by decide) ?_
              show Steps p.tables e below (s₁.setTop (mkF m 80 #[.val (.int p1)] [])) _
              refine XS.iconst X0.here hx rfl (hb hby d_isUcsChar_80) ?_
              show Steps p.tables e below (s₁.setTop (mkF m 81 #[.val (.int p1)] [(.int (0 : Int32))])) _
              have hU : own_U p1.toInt = false := by
                simp only [Int32.lt_iff_toInt_lt, hmask, c160, c55295, c63744, c64975, c65008, c65519, c65536, c983037, c65533, c917504, c921600] at *
                simp only [own_U, Bool.or_eq_true, Bool.and_eq_true, Bool.not_eq_true', decide_eq_true_eq, Bool.and_eq_false_iff, Bool.or_eq_false_iff, Bool.not_eq_false', decide_eq_false_iff_not]
                omega
              have hv : own_u p1 = (0 : Int32) := by simp only [own_u, hU]; rfl
              rw [hv] at hr
              exact retN X0 hx (t := .boolean) Bd.returns (by simp) (hb hby d_isUcsChar_81) hr
            · show Steps p.tables e below (s₁.setTop (mkF m 73 #[.val (.int p1)] [(.int (921600 : Int32)), (.int p1)])) _
              refine XS.icmpNo X0.here hx rfl (hb hby d_isUcsChar_73) rfl (flt hc73).1 ?_
              show Steps p.tables e below (s₁.setTop (mkF m 76 #[.val (.int p1)] [])) _
              refine XS.iconst X0.here hx rfl (hb hby d_isUcsChar_76) ?_
              show Steps p.tables e below (s₁.setTop (mkF m 77 #[.val (.int p1)] [(.int (1 : Int32))])) _
              refine XS.goto X0.here hx rfl (pc0 := 77) (pc' := 81) rfl (hb hby d_isUcsChar_77) (by decide) (by decide) ?_
              show Steps p.tables e below (s₁.setTop (mkF m 81 #[.val (.int p1)] [(.int (1 : Int32))])) _
              have hU : own_U p1.toInt = true := by
                simp only [Int32.lt_iff_toInt_lt, hmask, c160, c55295, c63744, c64975, c65008, c65519, c65536, c983037, c65533, c917504, c921600] at *
                simp only [own_U, Bool.or_eq_true, Bool.and_eq_true, Bool.not_eq_true', decide_eq_true_eq, Bool.and_eq_false_iff, Bool.or_eq_false_iff, Bool.not_eq_false', decide_eq_false_iff_not]
                omega
              have hv : own_u p1 = (1 : Int32) := by simp only [own_u, hU]; rfl
              rw [hv] at hr
              exact retN X0 hx (t := .boolean) Bd.returns (by simp) (hb hby d_isUcsChar_81) hr
  have k29 : ¬ (160 ≤ p1.toInt ∧ p1.toInt ≤ 55295) ∧ ¬ (63744 ≤ p1.toInt ∧ p1.toInt ≤ 64975) → Steps p.tables e below (s₁.setTop (mkF m 29 #[.val (.int p1)] [])) (s₁.setFrames fs) := by
    intro hk
    show Steps p.tables e below (s₁.setTop (mkF m 29 #[.val (.int p1)] [])) _
    refine XS.iloadN X0.here hx rfl (hb hby d_isUcsChar_29) rfl ?_
    show Steps p.tables e below (s₁.setTop (mkF m 30 #[.val (.int p1)] [(.int p1)])) _
    refine Jvm.Stand.ldcI X0 hx hown (mvT hZ (hw _ (List.mem_of_getElem? (i := 5) rfl))) rfl (hb hby d_isUcsChar_30) ?_
    by_cases hc32 : p1 < (65008 : Int32)
    · show Steps p.tables e below (s₁.setTop (mkF m 32 #[.val (.int p1)] [(.int (65008 : Int32)), (.int p1)])) _
      refine XS.icmpYes X0.here hx rfl (pc0 := 32) (pc' := 43) rfl (hb hby d_isUcsChar_32) rfl (tlt hc32).1 (by decide) (by decide) ?_
      exact k43 (by simp only [Int32.lt_iff_toInt_lt, hmask, c160, c55295, c63744, c64975, c65008, c65519, c65536, c983037, c65533, c917504, c921600] at *; omega)
    · show Steps p.tables e below (s₁.setTop (mkF m 32 #[.val (.int p1)] [(.int (65008 : Int32)), (.int p1)])) _
      refine XS.icmpNo X0.here hx rfl (hb hby d_isUcsChar_32) rfl (flt hc32).1 ?_
      show Steps p.tables e below (s₁.setTop (mkF m 35 #[.val (.int p1)] [])) _
      refine XS.iloadN X0.here hx rfl (hb hby d_isUcsChar_35) rfl ?_
      show Steps p.tables e below (s₁.setTop (mkF m 36 #[.val (.int p1)] [(.int p1)])) _
      refine Jvm.Stand.ldcI X0 hx hown (mvT hZ (hw _ (List.mem_of_getElem? (i := 50) rfl))) rfl (hb hby d_isUcsChar_36) ?_
      by_cases hc38 : (65519 : Int32) < p1
      · show Steps p.tables e below (s₁.setTop (mkF m 38 #[.val (.int p1)] [(.int (65519 : Int32)), (.int p1)])) _
        refine XS.icmpYes X0.here hx rfl (pc0 := 38) (pc' := 43) rfl (hb hby d_isUcsChar_38) rfl (tlt hc38).2.2.1 (by decide) (by decide) ?_
        exact k43 (by simp only [Int32.lt_iff_toInt_lt, hmask, c160, c55295, c63744, c64975, c65008, c65519, c65536, c983037, c65533, c917504, c921600] at *; omega)
      · show Steps p.tables e below (s₁.setTop (mkF m 38 #[.val (.int p1)] [(.int (65519 : Int32)), (.int p1)])) _
        refine XS.icmpNo X0.here hx rfl (hb hby d_isUcsChar_38) rfl (flt hc38).2.2.1 ?_
        show Steps p.tables e below (s₁.setTop (mkF m 41 #[.val (.int p1)] [])) _
        refine XS.iconst X0.here hx rfl (hb hby d_isUcsChar_41) ?_
        show Steps p.tables e below (s₁.setTop (mkF m 42 #[.val (.int p1)] [(.int (1 : Int32))])) _
        have hU : own_U p1.toInt = true := by
          simp only [Int32.lt_iff_toInt_lt, hmask, c160, c55295, c63744, c64975, c65008, c65519, c65536, c983037, c65533, c917504, c921600] at *
          simp only [own_U, Bool.or_eq_true, Bool.and_eq_true, Bool.not_eq_true', decide_eq_true_eq, Bool.and_eq_false_iff, Bool.or_eq_false_iff, Bool.not_eq_false', decide_eq_false_iff_not]
          omega
        have hv : own_u p1 = (1 : Int32) := by simp only [own_u, hU]; rfl
        rw [hv] at hr
        exact retN X0 hx (t := .boolean) Bd.returns (by simp) (hb hby d_isUcsChar_42) hr
  have k15 : ¬ (160 ≤ p1.toInt ∧ p1.toInt ≤ 55295) → Steps p.tables e below (s₁.setTop (mkF m 15 #[.val (.int p1)] [])) (s₁.setFrames fs) := by
    intro hk
    show Steps p.tables e below (s₁.setTop (mkF m 15 #[.val (.int p1)] [])) _
    refine XS.iloadN X0.here hx rfl (hb hby d_isUcsChar_15) rfl ?_
    show Steps p.tables e below (s₁.setTop (mkF m 16 #[.val (.int p1)] [(.int p1)])) _
    refine Jvm.Stand.ldcI X0 hx hown (mvT hZ (hw _ (List.mem_of_getElem? (i := 4) rfl))) rfl (hb hby d_isUcsChar_16) ?_
    by_cases hc18 : p1 < (63744 : Int32)
    · show Steps p.tables e below (s₁.setTop (mkF m 18 #[.val (.int p1)] [(.int (63744 : Int32)), (.int p1)])) _
      refine XS.icmpYes X0.here hx rfl (pc0 := 18) (pc' := 29) rfl (hb hby d_isUcsChar_18) rfl (tlt hc18).1 (by decide) (by decide) ?_
      exact k29 (by simp only [Int32.lt_iff_toInt_lt, hmask, c160, c55295, c63744, c64975, c65008, c65519, c65536, c983037, c65533, c917504, c921600] at *; omega)
    · show Steps p.tables e below (s₁.setTop (mkF m 18 #[.val (.int p1)] [(.int (63744 : Int32)), (.int p1)])) _
      refine XS.icmpNo X0.here hx rfl (hb hby d_isUcsChar_18) rfl (flt hc18).1 ?_
      show Steps p.tables e below (s₁.setTop (mkF m 21 #[.val (.int p1)] [])) _
      refine XS.iloadN X0.here hx rfl (hb hby d_isUcsChar_21) rfl ?_
      show Steps p.tables e below (s₁.setTop (mkF m 22 #[.val (.int p1)] [(.int p1)])) _
      refine Jvm.Stand.ldcI X0 hx hown (mvT hZ (hw _ (List.mem_of_getElem? (i := 49) rfl))) rfl (hb hby d_isUcsChar_22) ?_
      by_cases hc24 : (64975 : Int32) < p1
      · show Steps p.tables e below (s₁.setTop (mkF m 24 #[.val (.int p1)] [(.int (64975 : Int32)), (.int p1)])) _
        refine XS.icmpYes X0.here hx rfl (pc0 := 24) (pc' := 29) rfl (hb hby d_isUcsChar_24) rfl (tlt hc24).2.2.1 (by decide) (by decide) ?_
        exact k29 (by simp only [Int32.lt_iff_toInt_lt, hmask, c160, c55295, c63744, c64975, c65008, c65519, c65536, c983037, c65533, c917504, c921600] at *; omega)
      · show Steps p.tables e below (s₁.setTop (mkF m 24 #[.val (.int p1)] [(.int (64975 : Int32)), (.int p1)])) _
        refine XS.icmpNo X0.here hx rfl (hb hby d_isUcsChar_24) rfl (flt hc24).2.2.1 ?_
        show Steps p.tables e below (s₁.setTop (mkF m 27 #[.val (.int p1)] [])) _
        refine XS.iconst X0.here hx rfl (hb hby d_isUcsChar_27) ?_
        show Steps p.tables e below (s₁.setTop (mkF m 28 #[.val (.int p1)] [(.int (1 : Int32))])) _
        have hU : own_U p1.toInt = true := by
          simp only [Int32.lt_iff_toInt_lt, hmask, c160, c55295, c63744, c64975, c65008, c65519, c65536, c983037, c65533, c917504, c921600] at *
          simp only [own_U, Bool.or_eq_true, Bool.and_eq_true, Bool.not_eq_true', decide_eq_true_eq, Bool.and_eq_false_iff, Bool.or_eq_false_iff, Bool.not_eq_false', decide_eq_false_iff_not]
          omega
        have hv : own_u p1 = (1 : Int32) := by simp only [own_u, hU]; rfl
        rw [hv] at hr
        exact retN X0 hx (t := .boolean) Bd.returns (by simp) (hb hby d_isUcsChar_28) hr
  show Steps p.tables e below (s₁.setTop (mkF m 0 #[.val (.int p1)] [])) _
  refine XS.iloadN X0.here hx rfl (hb hby d_isUcsChar_0) rfl ?_
  show Steps p.tables e below (s₁.setTop (mkF m 1 #[.val (.int p1)] [(.int p1)])) _
  refine XS.sipush X0.here hx rfl (hb hby d_isUcsChar_1) ?_
  by_cases hc4 : p1 < (160 : Int32)
  · show Steps p.tables e below (s₁.setTop (mkF m 4 #[.val (.int p1)] [(.int (160 : Int32)), (.int p1)])) _
    refine XS.icmpYes X0.here hx rfl (pc0 := 4) (pc' := 15) rfl (hb hby d_isUcsChar_4) rfl (tlt hc4).1 (by decide) (by decide) ?_
    exact k15 (by simp only [Int32.lt_iff_toInt_lt, hmask, c160, c55295, c63744, c64975, c65008, c65519, c65536, c983037, c65533, c917504, c921600] at *; omega)
  · show Steps p.tables e below (s₁.setTop (mkF m 4 #[.val (.int p1)] [(.int (160 : Int32)), (.int p1)])) _
    refine XS.icmpNo X0.here hx rfl (hb hby d_isUcsChar_4) rfl (flt hc4).1 ?_
    show Steps p.tables e below (s₁.setTop (mkF m 7 #[.val (.int p1)] [])) _
    refine XS.iloadN X0.here hx rfl (hb hby d_isUcsChar_7) rfl ?_
    show Steps p.tables e below (s₁.setTop (mkF m 8 #[.val (.int p1)] [(.int p1)])) _
    refine Jvm.Stand.ldcI X0 hx hown (mvT hZ (hw _ (List.mem_of_getElem? (i := 48) rfl))) rfl (hb hby d_isUcsChar_8) ?_
    by_cases hc10 : (55295 : Int32) < p1
    · show Steps p.tables e below (s₁.setTop (mkF m 10 #[.val (.int p1)] [(.int (55295 : Int32)), (.int p1)])) _
      refine XS.icmpYes X0.here hx rfl (pc0 := 10) (pc' := 15) rfl (hb hby d_isUcsChar_10) rfl (tlt hc10).2.2.1 (by decide) (by decide) ?_
      exact k15 (by simp only [Int32.lt_iff_toInt_lt, hmask, c160, c55295, c63744, c64975, c65008, c65519, c65536, c983037, c65533, c917504, c921600] at *; omega)
    · show Steps p.tables e below (s₁.setTop (mkF m 10 #[.val (.int p1)] [(.int (55295 : Int32)), (.int p1)])) _
      refine XS.icmpNo X0.here hx rfl (hb hby d_isUcsChar_10) rfl (flt hc10).2.2.1 ?_
      show Steps p.tables e below (s₁.setTop (mkF m 13 #[.val (.int p1)] [])) _
      refine XS.iconst X0.here hx rfl (hb hby d_isUcsChar_13) ?_
      show Steps p.tables e below (s₁.setTop (mkF m 14 #[.val (.int p1)] [(.int (1 : Int32))])) _
      have hU : own_U p1.toInt = true := by
        simp only [Int32.lt_iff_toInt_lt, hmask, c160, c55295, c63744, c64975, c65008, c65519, c65536, c983037, c65533, c917504, c921600] at *
        simp only [own_U, Bool.or_eq_true, Bool.and_eq_true, Bool.not_eq_true', decide_eq_true_eq, Bool.and_eq_false_iff, Bool.or_eq_false_iff, Bool.not_eq_false', decide_eq_false_iff_not]
        omega
      have hv : own_u p1 = (1 : Int32) := by simp only [own_u, hU]; rfl
      rw [hv] at hr
      exact retN X0 hx (t := .boolean) Bd.returns (by simp) (hb hby d_isUcsChar_14) hr
def Q_rm_r (Z : State) (p1 : Int32)  (h0 : Heap) (n0 : Nat) (v : Option Value) (h : Heap) (L : List Loc) : Prop := (v = some (.int (own_r p1)) ∧ Fr n0 L ∧ h = h0)
set_option maxRecDepth 65536 in
set_option maxHeartbeats 40000000 in
theorem rm_r (l : Launch) (Z : State) (a0 : Array Value) (hw : ∀ d ∈ tables_1, d.before a0 Z = true) (ws : List Jvm.Cond) (p1 : Int32) (h0 : Heap) (n0 : Nat)  :
    MetFree l (⟨"com/example/sagoma/sagoma/format/Rfc3986IsUcsCharPinLaw", "reference", "(I)Z"⟩ : MethodName) (head1 (Jvm.Cond.code (⟨"com/example/sagoma/sagoma/format/Rfc3986IsUcsCharPinLaw", "reference", "(I)Z"⟩ : MethodName) method_3_code 1 (some .boolean) :: ws) ({ frames := 1, cells := 0, slots := 0, locals := 14 } : Room)) (fun a U => a = #[(.int p1)] ∧ Z.Warmed39 U.vm ∧ U.heap = h0) (fun _ _ _ _ _ => True) (fun _ U o U' => ∃ v L, o = .returned v ∧ Q_rm_r Z p1 h0 n0 v U'.heap L ∧ FrameEnd U o U' L ({ frames := 1, cells := 0, slots := 0, locals := 14 } : Room).cells ({ frames := 1, cells := 0, slots := 0, locals := 14 } : Room).slots) := by
  refine MetFree.of_bodySF (plainFor_of_name pn_0) hisR ?_
  intro p e s m args below meth c s₁ Bd hml0 hP hK
  obtain ⟨rfl, hZ, hh⟩ := hP
  have hx := Bd.exec
  have hby := Bd.bytes
  have hml : c.maxLocals = 1 := hml0
  have hown : s.vm.findClass "com/example/sagoma/sagoma/format/Rfc3986IsUcsCharPinLaw" = some m.cls := findClass_of_methodNamed Bd.named
  have hnm := (name_of_methodNamed Bd.named Bd.method).1
  have X0 : Stand p l e ({ frames := 1, cells := 0, slots := 0, locals := 14 } : Room) s m #[(.int p1)] below meth c s₁ [] 0 0 := Stand.of_body Bd
  have e0 : s₁.heap = h0 := by rw [← hh, Bd.state]; rfl
  have N0 := Fr.nil n0
  have pre0 : ∀ t, Steps p.tables e below (s₁.setTop (mkF m 0 #[.val (.int p1)] [])) t → Steps p.tables e below (s₁.setTop (entryFrame m #[(.int p1)] 1)) t := fun t k => castTop (ef_1 m p1) k
  have P0 : ∀ t, Steps p.tables e below (s₁.setTop (mkF m 0 #[.val (.int p1)] [])) t → Steps p.tables e below (s₁.setTop (entryFrame m #[(.int p1)] 1)) t := fun t k => pre0 t k
  obtain ⟨_, _, ⟨T1, L1, k1, n1⟩, -, X1, ⟨Lc1, hQ1, l1, y1, z1⟩, st1⟩ := Jvm.LawKit.callS X0 hx (y := (⟨"com/example/sagoma/sagoma/format/Rfc3986IsUcsCharPinLaw", "in", "(III)Z"⟩ : MethodName)) hown (mvT hZ (hw _ (List.mem_of_getElem? (i := 12) rfl))) (mvT hZ (hw _ (List.mem_of_getElem? (i := 13) rfl))) (mvT hZ (hw _ (List.mem_of_getElem? (i := 9) rfl))) (mvT hZ (hw _ (List.mem_of_getElem? (i := 14) rfl))) (by decide) (backOf (W := 0) (rm_in l Z a0 hw [] p1 (160 : Int32) (55295 : Int32) h0 n0) hZ (hw _ (List.mem_of_getElem? (i := 14) rfl)) (hw _ (List.mem_of_getElem? (i := 9) rfl)) (by decide) (by decide)) (g := (mkF m 6 #[.val (.int p1)] [(.int (55295 : Int32)), (.int (160 : Int32)), (.int p1)])) rfl (by rw [hml]; rfl) (argsL := [(.int p1), (.int (160 : Int32)), (.int (55295 : Int32))]) (rest := []) (lenOf pd_3 rfl) rfl (by show 2 * 0 + _ ≤ _; exact Nat.le_of_eq rfl) (hb hby d_reference_6) (fun _ _ => ⟨rfl, e0, (by decide : 0 + 0 ≤ _), (by decide : 0 + 0 ≤ _)⟩)
  dsimp only [Pt.U, Pt.locs, Pt.cells, Pt.slots] at X1 l1 y1 z1 st1 hQ1
  subst l1 y1 z1
  obtain ⟨rfl, N1q, e1⟩ := hQ1
  have N1 := Fr.app N0 N1q
  have P1' : ∀ t, Steps p.tables e below (T1.setTop (mkF m 9 #[.val (.int p1)] [(.int (own_in p1 (160 : Int32) (55295 : Int32)))])) t → Steps p.tables e below (s₁.setTop (entryFrame m #[(.int p1)] 1)) t := by
    intro t k
    refine P0 t ?_
    show Steps p.tables e below (s₁.setTop (mkF m 0 #[.val (.int p1)] [])) _
    refine XS.iloadN X0.here hx rfl (hb hby d_reference_0) rfl ?_
    show Steps p.tables e below (s₁.setTop (mkF m 1 #[.val (.int p1)] [(.int p1)])) _
    refine XS.sipush X0.here hx rfl (hb hby d_reference_1) ?_
    show Steps p.tables e below (s₁.setTop (mkF m 4 #[.val (.int p1)] [(.int (160 : Int32)), (.int p1)])) _
    refine Jvm.Stand.ldcI X0 hx hown (mvT hZ (hw _ (List.mem_of_getElem? (i := 11) rfl))) rfl (hb hby d_reference_4) ?_
    refine st1 _ ?_
    exact k
  by_cases hc9 : (own_in p1 (160 : Int32) (55295 : Int32)) = (0 : Int32)
  rotate_left
  · obtain ⟨fs, hr, hrun, hended, hW, hsame⟩ := X1.leave (v := some (.int (own_r p1))) (fun h => by rw [Bd.returns] at h; cases h)
    refine ⟨_, _, P1' _ ?_, hrun, hended, _, _, rfl, ⟨rfl, N1, e1⟩, ⟨_, rfl⟩, hW, hsame.mono (by decide) (by decide)⟩
    show Steps p.tables e below (T1.setTop (mkF m 9 #[.val (.int p1)] [(.int (own_in p1 (160 : Int32) (55295 : Int32)))])) _
    refine XS.ifYes X1.here hx rfl (pc0 := 9) (pc' := 188) rfl (hb hby d_reference_9) rfl ((if0 _ _).trans (feq hc9).2) (by decide) (by decide) ?_
    show Steps p.tables e below (T1.setTop (mkF m 188 #[.val (.int p1)] [])) _
    refine XS.iconst X1.here hx rfl (hb hby d_reference_188) ?_
    show Steps p.tables e below (T1.setTop (mkF m 189 #[.val (.int p1)] [(.int (1 : Int32))])) _
    refine XS.goto X1.here hx rfl (pc0 := 189) (pc' := 193) rfl (hb hby d_reference_189) (by decide) (by decide) ?_
    show Steps p.tables e below (T1.setTop (mkF m 193 #[.val (.int p1)] [(.int (1 : Int32))])) _
    have hv : own_r p1 = 1 := by
      have q := own_in1 hc9
      rw [show ((160 : Int32)).toInt = 160 from by decide, show ((55295 : Int32)).toInt = 55295 from by decide] at q
      have hR : own_R p1.toInt = true := by
        simp only [own_R, Bool.or_eq_true, Bool.and_eq_true, decide_eq_true_eq]
        omega
      simp only [own_r, hR]; rfl
    rw [hv] at hr
    exact retN X1 hx (t := .boolean) Bd.returns (by simp) (hb hby d_reference_193) hr
  have q1 := own_in0 hc9
  rw [show ((160 : Int32)).toInt = 160 from by decide, show ((55295 : Int32)).toInt = 55295 from by decide] at q1
  have P1 : ∀ t, Steps p.tables e below (T1.setTop (mkF m 12 #[.val (.int p1)] [])) t → Steps p.tables e below (s₁.setTop (entryFrame m #[(.int p1)] 1)) t := by
    intro t k
    refine P1' t ?_
    show Steps p.tables e below (T1.setTop (mkF m 9 #[.val (.int p1)] [(.int (own_in p1 (160 : Int32) (55295 : Int32)))])) _
    refine XS.ifNo X1.here hx rfl (hb hby d_reference_9) rfl ((if0 _ _).trans (teq hc9).2) ?_
    exact k
  obtain ⟨_, _, ⟨T2, L2, k2, n2⟩, -, X2, ⟨Lc2, hQ2, l2, y2, z2⟩, st2⟩ := Jvm.LawKit.callS X1 hx (y := (⟨"com/example/sagoma/sagoma/format/Rfc3986IsUcsCharPinLaw", "in", "(III)Z"⟩ : MethodName)) hown (mvT hZ (hw _ (List.mem_of_getElem? (i := 12) rfl))) (mvT hZ (hw _ (List.mem_of_getElem? (i := 13) rfl))) (mvT hZ (hw _ (List.mem_of_getElem? (i := 9) rfl))) (mvT hZ (hw _ (List.mem_of_getElem? (i := 14) rfl))) (by decide) (backOf (W := 0) (rm_in l Z a0 hw [] p1 (63744 : Int32) (64975 : Int32) h0 n0) hZ (hw _ (List.mem_of_getElem? (i := 14) rfl)) (hw _ (List.mem_of_getElem? (i := 9) rfl)) (by decide) (by decide)) (g := (mkF m 17 #[.val (.int p1)] [(.int (64975 : Int32)), (.int (63744 : Int32)), (.int p1)])) rfl (by rw [hml]; rfl) (argsL := [(.int p1), (.int (63744 : Int32)), (.int (64975 : Int32))]) (rest := []) (lenOf pd_3 rfl) rfl (by show 2 * 0 + _ ≤ _; exact Nat.le_of_eq rfl) (hb hby d_reference_17) (fun _ _ => ⟨rfl, e1, (by decide : 0 + 0 ≤ _), (by decide : 0 + 0 ≤ _)⟩)
  dsimp only [Pt.U, Pt.locs, Pt.cells, Pt.slots] at X2 l2 y2 z2 st2 hQ2
  subst l2 y2 z2
  obtain ⟨rfl, N2q, e2⟩ := hQ2
  have N2 := Fr.app N1 N2q
  have P2' : ∀ t, Steps p.tables e below (T2.setTop (mkF m 20 #[.val (.int p1)] [(.int (own_in p1 (63744 : Int32) (64975 : Int32)))])) t → Steps p.tables e below (s₁.setTop (entryFrame m #[(.int p1)] 1)) t := by
    intro t k
    refine P1 t ?_
    show Steps p.tables e below (T1.setTop (mkF m 12 #[.val (.int p1)] [])) _
    refine XS.iloadN X1.here hx rfl (hb hby d_reference_12) rfl ?_
    show Steps p.tables e below (T1.setTop (mkF m 13 #[.val (.int p1)] [(.int p1)])) _
    refine Jvm.Stand.ldcI X1 hx hown (mvT hZ (hw _ (List.mem_of_getElem? (i := 15) rfl))) rfl (hb hby d_reference_13) ?_
    show Steps p.tables e below (T1.setTop (mkF m 15 #[.val (.int p1)] [(.int (63744 : Int32)), (.int p1)])) _
    refine Jvm.Stand.ldcI X1 hx hown (mvT hZ (hw _ (List.mem_of_getElem? (i := 16) rfl))) rfl (hb hby d_reference_15) ?_
    refine st2 _ ?_
    exact k
  by_cases hc20 : (own_in p1 (63744 : Int32) (64975 : Int32)) = (0 : Int32)
  rotate_left
  · obtain ⟨fs, hr, hrun, hended, hW, hsame⟩ := X2.leave (v := some (.int (own_r p1))) (fun h => by rw [Bd.returns] at h; cases h)
    refine ⟨_, _, P2' _ ?_, hrun, hended, _, _, rfl, ⟨rfl, N2, e2⟩, ⟨_, rfl⟩, hW, hsame.mono (by decide) (by decide)⟩
    show Steps p.tables e below (T2.setTop (mkF m 20 #[.val (.int p1)] [(.int (own_in p1 (63744 : Int32) (64975 : Int32)))])) _
    refine XS.ifYes X2.here hx rfl (pc0 := 20) (pc' := 188) rfl (hb hby d_reference_20) rfl ((if0 _ _).trans (feq hc20).2) (by decide) (by decide) ?_
    show Steps p.tables e below (T2.setTop (mkF m 188 #[.val (.int p1)] [])) _
    refine XS.iconst X2.here hx rfl (hb hby d_reference_188) ?_
    show Steps p.tables e below (T2.setTop (mkF m 189 #[.val (.int p1)] [(.int (1 : Int32))])) _
    refine XS.goto X2.here hx rfl (pc0 := 189) (pc' := 193) rfl (hb hby d_reference_189) (by decide) (by decide) ?_
    show Steps p.tables e below (T2.setTop (mkF m 193 #[.val (.int p1)] [(.int (1 : Int32))])) _
    have hv : own_r p1 = 1 := by
      have q := own_in1 hc20
      rw [show ((63744 : Int32)).toInt = 63744 from by decide, show ((64975 : Int32)).toInt = 64975 from by decide] at q
      have hR : own_R p1.toInt = true := by
        simp only [own_R, Bool.or_eq_true, Bool.and_eq_true, decide_eq_true_eq]
        omega
      simp only [own_r, hR]; rfl
    rw [hv] at hr
    exact retN X2 hx (t := .boolean) Bd.returns (by simp) (hb hby d_reference_193) hr
  have q2 := own_in0 hc20
  rw [show ((63744 : Int32)).toInt = 63744 from by decide, show ((64975 : Int32)).toInt = 64975 from by decide] at q2
  have P2 : ∀ t, Steps p.tables e below (T2.setTop (mkF m 23 #[.val (.int p1)] [])) t → Steps p.tables e below (s₁.setTop (entryFrame m #[(.int p1)] 1)) t := by
    intro t k
    refine P2' t ?_
    show Steps p.tables e below (T2.setTop (mkF m 20 #[.val (.int p1)] [(.int (own_in p1 (63744 : Int32) (64975 : Int32)))])) _
    refine XS.ifNo X2.here hx rfl (hb hby d_reference_20) rfl ((if0 _ _).trans (teq hc20).2) ?_
    exact k
  obtain ⟨_, _, ⟨T3, L3, k3, n3⟩, -, X3, ⟨Lc3, hQ3, l3, y3, z3⟩, st3⟩ := Jvm.LawKit.callS X2 hx (y := (⟨"com/example/sagoma/sagoma/format/Rfc3986IsUcsCharPinLaw", "in", "(III)Z"⟩ : MethodName)) hown (mvT hZ (hw _ (List.mem_of_getElem? (i := 12) rfl))) (mvT hZ (hw _ (List.mem_of_getElem? (i := 13) rfl))) (mvT hZ (hw _ (List.mem_of_getElem? (i := 9) rfl))) (mvT hZ (hw _ (List.mem_of_getElem? (i := 14) rfl))) (by decide) (backOf (W := 0) (rm_in l Z a0 hw [] p1 (65008 : Int32) (65519 : Int32) h0 n0) hZ (hw _ (List.mem_of_getElem? (i := 14) rfl)) (hw _ (List.mem_of_getElem? (i := 9) rfl)) (by decide) (by decide)) (g := (mkF m 28 #[.val (.int p1)] [(.int (65519 : Int32)), (.int (65008 : Int32)), (.int p1)])) rfl (by rw [hml]; rfl) (argsL := [(.int p1), (.int (65008 : Int32)), (.int (65519 : Int32))]) (rest := []) (lenOf pd_3 rfl) rfl (by show 2 * 0 + _ ≤ _; exact Nat.le_of_eq rfl) (hb hby d_reference_28) (fun _ _ => ⟨rfl, e2, (by decide : 0 + 0 ≤ _), (by decide : 0 + 0 ≤ _)⟩)
  dsimp only [Pt.U, Pt.locs, Pt.cells, Pt.slots] at X3 l3 y3 z3 st3 hQ3
  subst l3 y3 z3
  obtain ⟨rfl, N3q, e3⟩ := hQ3
  have N3 := Fr.app N2 N3q
  have P3' : ∀ t, Steps p.tables e below (T3.setTop (mkF m 31 #[.val (.int p1)] [(.int (own_in p1 (65008 : Int32) (65519 : Int32)))])) t → Steps p.tables e below (s₁.setTop (entryFrame m #[(.int p1)] 1)) t := by
    intro t k
    refine P2 t ?_
    show Steps p.tables e below (T2.setTop (mkF m 23 #[.val (.int p1)] [])) _
    refine XS.iloadN X2.here hx rfl (hb hby d_reference_23) rfl ?_
    show Steps p.tables e below (T2.setTop (mkF m 24 #[.val (.int p1)] [(.int p1)])) _
    refine Jvm.Stand.ldcI X2 hx hown (mvT hZ (hw _ (List.mem_of_getElem? (i := 17) rfl))) rfl (hb hby d_reference_24) ?_
    show Steps p.tables e below (T2.setTop (mkF m 26 #[.val (.int p1)] [(.int (65008 : Int32)), (.int p1)])) _
    refine Jvm.Stand.ldcI X2 hx hown (mvT hZ (hw _ (List.mem_of_getElem? (i := 18) rfl))) rfl (hb hby d_reference_26) ?_
    refine st3 _ ?_
    exact k
  by_cases hc31 : (own_in p1 (65008 : Int32) (65519 : Int32)) = (0 : Int32)
  rotate_left
  · obtain ⟨fs, hr, hrun, hended, hW, hsame⟩ := X3.leave (v := some (.int (own_r p1))) (fun h => by rw [Bd.returns] at h; cases h)
    refine ⟨_, _, P3' _ ?_, hrun, hended, _, _, rfl, ⟨rfl, N3, e3⟩, ⟨_, rfl⟩, hW, hsame.mono (by decide) (by decide)⟩
    show Steps p.tables e below (T3.setTop (mkF m 31 #[.val (.int p1)] [(.int (own_in p1 (65008 : Int32) (65519 : Int32)))])) _
    refine XS.ifYes X3.here hx rfl (pc0 := 31) (pc' := 188) rfl (hb hby d_reference_31) rfl ((if0 _ _).trans (feq hc31).2) (by decide) (by decide) ?_
    show Steps p.tables e below (T3.setTop (mkF m 188 #[.val (.int p1)] [])) _
    refine XS.iconst X3.here hx rfl (hb hby d_reference_188) ?_
    show Steps p.tables e below (T3.setTop (mkF m 189 #[.val (.int p1)] [(.int (1 : Int32))])) _
    refine XS.goto X3.here hx rfl (pc0 := 189) (pc' := 193) rfl (hb hby d_reference_189) (by decide) (by decide) ?_
    show Steps p.tables e below (T3.setTop (mkF m 193 #[.val (.int p1)] [(.int (1 : Int32))])) _
    have hv : own_r p1 = 1 := by
      have q := own_in1 hc31
      rw [show ((65008 : Int32)).toInt = 65008 from by decide, show ((65519 : Int32)).toInt = 65519 from by decide] at q
      have hR : own_R p1.toInt = true := by
        simp only [own_R, Bool.or_eq_true, Bool.and_eq_true, decide_eq_true_eq]
        omega
      simp only [own_r, hR]; rfl
    rw [hv] at hr
    exact retN X3 hx (t := .boolean) Bd.returns (by simp) (hb hby d_reference_193) hr
  have q3 := own_in0 hc31
  rw [show ((65008 : Int32)).toInt = 65008 from by decide, show ((65519 : Int32)).toInt = 65519 from by decide] at q3
  have P3 : ∀ t, Steps p.tables e below (T3.setTop (mkF m 34 #[.val (.int p1)] [])) t → Steps p.tables e below (s₁.setTop (entryFrame m #[(.int p1)] 1)) t := by
    intro t k
    refine P3' t ?_
    show Steps p.tables e below (T3.setTop (mkF m 31 #[.val (.int p1)] [(.int (own_in p1 (65008 : Int32) (65519 : Int32)))])) _
    refine XS.ifNo X3.here hx rfl (hb hby d_reference_31) rfl ((if0 _ _).trans (teq hc31).2) ?_
    exact k
  obtain ⟨_, _, ⟨T4, L4, k4, n4⟩, -, X4, ⟨Lc4, hQ4, l4, y4, z4⟩, st4⟩ := Jvm.LawKit.callS X3 hx (y := (⟨"com/example/sagoma/sagoma/format/Rfc3986IsUcsCharPinLaw", "in", "(III)Z"⟩ : MethodName)) hown (mvT hZ (hw _ (List.mem_of_getElem? (i := 12) rfl))) (mvT hZ (hw _ (List.mem_of_getElem? (i := 13) rfl))) (mvT hZ (hw _ (List.mem_of_getElem? (i := 9) rfl))) (mvT hZ (hw _ (List.mem_of_getElem? (i := 14) rfl))) (by decide) (backOf (W := 0) (rm_in l Z a0 hw [] p1 (65536 : Int32) (131069 : Int32) h0 n0) hZ (hw _ (List.mem_of_getElem? (i := 14) rfl)) (hw _ (List.mem_of_getElem? (i := 9) rfl)) (by decide) (by decide)) (g := (mkF m 39 #[.val (.int p1)] [(.int (131069 : Int32)), (.int (65536 : Int32)), (.int p1)])) rfl (by rw [hml]; rfl) (argsL := [(.int p1), (.int (65536 : Int32)), (.int (131069 : Int32))]) (rest := []) (lenOf pd_3 rfl) rfl (by show 2 * 0 + _ ≤ _; exact Nat.le_of_eq rfl) (hb hby d_reference_39) (fun _ _ => ⟨rfl, e3, (by decide : 0 + 0 ≤ _), (by decide : 0 + 0 ≤ _)⟩)
  dsimp only [Pt.U, Pt.locs, Pt.cells, Pt.slots] at X4 l4 y4 z4 st4 hQ4
  subst l4 y4 z4
  obtain ⟨rfl, N4q, e4⟩ := hQ4
  have N4 := Fr.app N3 N4q
  have P4' : ∀ t, Steps p.tables e below (T4.setTop (mkF m 42 #[.val (.int p1)] [(.int (own_in p1 (65536 : Int32) (131069 : Int32)))])) t → Steps p.tables e below (s₁.setTop (entryFrame m #[(.int p1)] 1)) t := by
    intro t k
    refine P3 t ?_
    show Steps p.tables e below (T3.setTop (mkF m 34 #[.val (.int p1)] [])) _
    refine XS.iloadN X3.here hx rfl (hb hby d_reference_34) rfl ?_
    show Steps p.tables e below (T3.setTop (mkF m 35 #[.val (.int p1)] [(.int p1)])) _
    refine Jvm.Stand.ldcI X3 hx hown (mvT hZ (hw _ (List.mem_of_getElem? (i := 19) rfl))) rfl (hb hby d_reference_35) ?_
    show Steps p.tables e below (T3.setTop (mkF m 37 #[.val (.int p1)] [(.int (65536 : Int32)), (.int p1)])) _
    refine Jvm.Stand.ldcI X3 hx hown (mvT hZ (hw _ (List.mem_of_getElem? (i := 20) rfl))) rfl (hb hby d_reference_37) ?_
    refine st4 _ ?_
    exact k
  by_cases hc42 : (own_in p1 (65536 : Int32) (131069 : Int32)) = (0 : Int32)
  rotate_left
  · obtain ⟨fs, hr, hrun, hended, hW, hsame⟩ := X4.leave (v := some (.int (own_r p1))) (fun h => by rw [Bd.returns] at h; cases h)
    refine ⟨_, _, P4' _ ?_, hrun, hended, _, _, rfl, ⟨rfl, N4, e4⟩, ⟨_, rfl⟩, hW, hsame.mono (by decide) (by decide)⟩
    show Steps p.tables e below (T4.setTop (mkF m 42 #[.val (.int p1)] [(.int (own_in p1 (65536 : Int32) (131069 : Int32)))])) _
    refine XS.ifYes X4.here hx rfl (pc0 := 42) (pc' := 188) rfl (hb hby d_reference_42) rfl ((if0 _ _).trans (feq hc42).2) (by decide) (by decide) ?_
    show Steps p.tables e below (T4.setTop (mkF m 188 #[.val (.int p1)] [])) _
    refine XS.iconst X4.here hx rfl (hb hby d_reference_188) ?_
    show Steps p.tables e below (T4.setTop (mkF m 189 #[.val (.int p1)] [(.int (1 : Int32))])) _
    refine XS.goto X4.here hx rfl (pc0 := 189) (pc' := 193) rfl (hb hby d_reference_189) (by decide) (by decide) ?_
    show Steps p.tables e below (T4.setTop (mkF m 193 #[.val (.int p1)] [(.int (1 : Int32))])) _
    have hv : own_r p1 = 1 := by
      have q := own_in1 hc42
      rw [show ((65536 : Int32)).toInt = 65536 from by decide, show ((131069 : Int32)).toInt = 131069 from by decide] at q
      have hR : own_R p1.toInt = true := by
        simp only [own_R, Bool.or_eq_true, Bool.and_eq_true, decide_eq_true_eq]
        omega
      simp only [own_r, hR]; rfl
    rw [hv] at hr
    exact retN X4 hx (t := .boolean) Bd.returns (by simp) (hb hby d_reference_193) hr
  have q4 := own_in0 hc42
  rw [show ((65536 : Int32)).toInt = 65536 from by decide, show ((131069 : Int32)).toInt = 131069 from by decide] at q4
  have P4 : ∀ t, Steps p.tables e below (T4.setTop (mkF m 45 #[.val (.int p1)] [])) t → Steps p.tables e below (s₁.setTop (entryFrame m #[(.int p1)] 1)) t := by
    intro t k
    refine P4' t ?_
    show Steps p.tables e below (T4.setTop (mkF m 42 #[.val (.int p1)] [(.int (own_in p1 (65536 : Int32) (131069 : Int32)))])) _
    refine XS.ifNo X4.here hx rfl (hb hby d_reference_42) rfl ((if0 _ _).trans (teq hc42).2) ?_
    exact k
  obtain ⟨_, _, ⟨T5, L5, k5, n5⟩, -, X5, ⟨Lc5, hQ5, l5, y5, z5⟩, st5⟩ := Jvm.LawKit.callS X4 hx (y := (⟨"com/example/sagoma/sagoma/format/Rfc3986IsUcsCharPinLaw", "in", "(III)Z"⟩ : MethodName)) hown (mvT hZ (hw _ (List.mem_of_getElem? (i := 12) rfl))) (mvT hZ (hw _ (List.mem_of_getElem? (i := 13) rfl))) (mvT hZ (hw _ (List.mem_of_getElem? (i := 9) rfl))) (mvT hZ (hw _ (List.mem_of_getElem? (i := 14) rfl))) (by decide) (backOf (W := 0) (rm_in l Z a0 hw [] p1 (131072 : Int32) (196605 : Int32) h0 n0) hZ (hw _ (List.mem_of_getElem? (i := 14) rfl)) (hw _ (List.mem_of_getElem? (i := 9) rfl)) (by decide) (by decide)) (g := (mkF m 50 #[.val (.int p1)] [(.int (196605 : Int32)), (.int (131072 : Int32)), (.int p1)])) rfl (by rw [hml]; rfl) (argsL := [(.int p1), (.int (131072 : Int32)), (.int (196605 : Int32))]) (rest := []) (lenOf pd_3 rfl) rfl (by show 2 * 0 + _ ≤ _; exact Nat.le_of_eq rfl) (hb hby d_reference_50) (fun _ _ => ⟨rfl, e4, (by decide : 0 + 0 ≤ _), (by decide : 0 + 0 ≤ _)⟩)
  dsimp only [Pt.U, Pt.locs, Pt.cells, Pt.slots] at X5 l5 y5 z5 st5 hQ5
  subst l5 y5 z5
  obtain ⟨rfl, N5q, e5⟩ := hQ5
  have N5 := Fr.app N4 N5q
  have P5' : ∀ t, Steps p.tables e below (T5.setTop (mkF m 53 #[.val (.int p1)] [(.int (own_in p1 (131072 : Int32) (196605 : Int32)))])) t → Steps p.tables e below (s₁.setTop (entryFrame m #[(.int p1)] 1)) t := by
    intro t k
    refine P4 t ?_
    show Steps p.tables e below (T4.setTop (mkF m 45 #[.val (.int p1)] [])) _
    refine XS.iloadN X4.here hx rfl (hb hby d_reference_45) rfl ?_
    show Steps p.tables e below (T4.setTop (mkF m 46 #[.val (.int p1)] [(.int p1)])) _
    refine Jvm.Stand.ldcI X4 hx hown (mvT hZ (hw _ (List.mem_of_getElem? (i := 21) rfl))) rfl (hb hby d_reference_46) ?_
    show Steps p.tables e below (T4.setTop (mkF m 48 #[.val (.int p1)] [(.int (131072 : Int32)), (.int p1)])) _
    refine Jvm.Stand.ldcI X4 hx hown (mvT hZ (hw _ (List.mem_of_getElem? (i := 22) rfl))) rfl (hb hby d_reference_48) ?_
    refine st5 _ ?_
    exact k
  by_cases hc53 : (own_in p1 (131072 : Int32) (196605 : Int32)) = (0 : Int32)
  rotate_left
  · obtain ⟨fs, hr, hrun, hended, hW, hsame⟩ := X5.leave (v := some (.int (own_r p1))) (fun h => by rw [Bd.returns] at h; cases h)
    refine ⟨_, _, P5' _ ?_, hrun, hended, _, _, rfl, ⟨rfl, N5, e5⟩, ⟨_, rfl⟩, hW, hsame.mono (by decide) (by decide)⟩
    show Steps p.tables e below (T5.setTop (mkF m 53 #[.val (.int p1)] [(.int (own_in p1 (131072 : Int32) (196605 : Int32)))])) _
    refine XS.ifYes X5.here hx rfl (pc0 := 53) (pc' := 188) rfl (hb hby d_reference_53) rfl ((if0 _ _).trans (feq hc53).2) (by decide) (by decide) ?_
    show Steps p.tables e below (T5.setTop (mkF m 188 #[.val (.int p1)] [])) _
    refine XS.iconst X5.here hx rfl (hb hby d_reference_188) ?_
    show Steps p.tables e below (T5.setTop (mkF m 189 #[.val (.int p1)] [(.int (1 : Int32))])) _
    refine XS.goto X5.here hx rfl (pc0 := 189) (pc' := 193) rfl (hb hby d_reference_189) (by decide) (by decide) ?_
    show Steps p.tables e below (T5.setTop (mkF m 193 #[.val (.int p1)] [(.int (1 : Int32))])) _
    have hv : own_r p1 = 1 := by
      have q := own_in1 hc53
      rw [show ((131072 : Int32)).toInt = 131072 from by decide, show ((196605 : Int32)).toInt = 196605 from by decide] at q
      have hR : own_R p1.toInt = true := by
        simp only [own_R, Bool.or_eq_true, Bool.and_eq_true, decide_eq_true_eq]
        omega
      simp only [own_r, hR]; rfl
    rw [hv] at hr
    exact retN X5 hx (t := .boolean) Bd.returns (by simp) (hb hby d_reference_193) hr
  have q5 := own_in0 hc53
  rw [show ((131072 : Int32)).toInt = 131072 from by decide, show ((196605 : Int32)).toInt = 196605 from by decide] at q5
  have P5 : ∀ t, Steps p.tables e below (T5.setTop (mkF m 56 #[.val (.int p1)] [])) t → Steps p.tables e below (s₁.setTop (entryFrame m #[(.int p1)] 1)) t := by
    intro t k
    refine P5' t ?_
    show Steps p.tables e below (T5.setTop (mkF m 53 #[.val (.int p1)] [(.int (own_in p1 (131072 : Int32) (196605 : Int32)))])) _
    refine XS.ifNo X5.here hx rfl (hb hby d_reference_53) rfl ((if0 _ _).trans (teq hc53).2) ?_
    exact k
  obtain ⟨_, _, ⟨T6, L6, k6, n6⟩, -, X6, ⟨Lc6, hQ6, l6, y6, z6⟩, st6⟩ := Jvm.LawKit.callS X5 hx (y := (⟨"com/example/sagoma/sagoma/format/Rfc3986IsUcsCharPinLaw", "in", "(III)Z"⟩ : MethodName)) hown (mvT hZ (hw _ (List.mem_of_getElem? (i := 12) rfl))) (mvT hZ (hw _ (List.mem_of_getElem? (i := 13) rfl))) (mvT hZ (hw _ (List.mem_of_getElem? (i := 9) rfl))) (mvT hZ (hw _ (List.mem_of_getElem? (i := 14) rfl))) (by decide) (backOf (W := 0) (rm_in l Z a0 hw [] p1 (196608 : Int32) (262141 : Int32) h0 n0) hZ (hw _ (List.mem_of_getElem? (i := 14) rfl)) (hw _ (List.mem_of_getElem? (i := 9) rfl)) (by decide) (by decide)) (g := (mkF m 61 #[.val (.int p1)] [(.int (262141 : Int32)), (.int (196608 : Int32)), (.int p1)])) rfl (by rw [hml]; rfl) (argsL := [(.int p1), (.int (196608 : Int32)), (.int (262141 : Int32))]) (rest := []) (lenOf pd_3 rfl) rfl (by show 2 * 0 + _ ≤ _; exact Nat.le_of_eq rfl) (hb hby d_reference_61) (fun _ _ => ⟨rfl, e5, (by decide : 0 + 0 ≤ _), (by decide : 0 + 0 ≤ _)⟩)
  dsimp only [Pt.U, Pt.locs, Pt.cells, Pt.slots] at X6 l6 y6 z6 st6 hQ6
  subst l6 y6 z6
  obtain ⟨rfl, N6q, e6⟩ := hQ6
  have N6 := Fr.app N5 N6q
  have P6' : ∀ t, Steps p.tables e below (T6.setTop (mkF m 64 #[.val (.int p1)] [(.int (own_in p1 (196608 : Int32) (262141 : Int32)))])) t → Steps p.tables e below (s₁.setTop (entryFrame m #[(.int p1)] 1)) t := by
    intro t k
    refine P5 t ?_
    show Steps p.tables e below (T5.setTop (mkF m 56 #[.val (.int p1)] [])) _
    refine XS.iloadN X5.here hx rfl (hb hby d_reference_56) rfl ?_
    show Steps p.tables e below (T5.setTop (mkF m 57 #[.val (.int p1)] [(.int p1)])) _
    refine Jvm.Stand.ldcI X5 hx hown (mvT hZ (hw _ (List.mem_of_getElem? (i := 23) rfl))) rfl (hb hby d_reference_57) ?_
    show Steps p.tables e below (T5.setTop (mkF m 59 #[.val (.int p1)] [(.int (196608 : Int32)), (.int p1)])) _
    refine Jvm.Stand.ldcI X5 hx hown (mvT hZ (hw _ (List.mem_of_getElem? (i := 24) rfl))) rfl (hb hby d_reference_59) ?_
    refine st6 _ ?_
    exact k
  by_cases hc64 : (own_in p1 (196608 : Int32) (262141 : Int32)) = (0 : Int32)
  rotate_left
  · obtain ⟨fs, hr, hrun, hended, hW, hsame⟩ := X6.leave (v := some (.int (own_r p1))) (fun h => by rw [Bd.returns] at h; cases h)
    refine ⟨_, _, P6' _ ?_, hrun, hended, _, _, rfl, ⟨rfl, N6, e6⟩, ⟨_, rfl⟩, hW, hsame.mono (by decide) (by decide)⟩
    show Steps p.tables e below (T6.setTop (mkF m 64 #[.val (.int p1)] [(.int (own_in p1 (196608 : Int32) (262141 : Int32)))])) _
    refine XS.ifYes X6.here hx rfl (pc0 := 64) (pc' := 188) rfl (hb hby d_reference_64) rfl ((if0 _ _).trans (feq hc64).2) (by decide) (by decide) ?_
    show Steps p.tables e below (T6.setTop (mkF m 188 #[.val (.int p1)] [])) _
    refine XS.iconst X6.here hx rfl (hb hby d_reference_188) ?_
    show Steps p.tables e below (T6.setTop (mkF m 189 #[.val (.int p1)] [(.int (1 : Int32))])) _
    refine XS.goto X6.here hx rfl (pc0 := 189) (pc' := 193) rfl (hb hby d_reference_189) (by decide) (by decide) ?_
    show Steps p.tables e below (T6.setTop (mkF m 193 #[.val (.int p1)] [(.int (1 : Int32))])) _
    have hv : own_r p1 = 1 := by
      have q := own_in1 hc64
      rw [show ((196608 : Int32)).toInt = 196608 from by decide, show ((262141 : Int32)).toInt = 262141 from by decide] at q
      have hR : own_R p1.toInt = true := by
        simp only [own_R, Bool.or_eq_true, Bool.and_eq_true, decide_eq_true_eq]
        omega
      simp only [own_r, hR]; rfl
    rw [hv] at hr
    exact retN X6 hx (t := .boolean) Bd.returns (by simp) (hb hby d_reference_193) hr
  have q6 := own_in0 hc64
  rw [show ((196608 : Int32)).toInt = 196608 from by decide, show ((262141 : Int32)).toInt = 262141 from by decide] at q6
  have P6 : ∀ t, Steps p.tables e below (T6.setTop (mkF m 67 #[.val (.int p1)] [])) t → Steps p.tables e below (s₁.setTop (entryFrame m #[(.int p1)] 1)) t := by
    intro t k
    refine P6' t ?_
    show Steps p.tables e below (T6.setTop (mkF m 64 #[.val (.int p1)] [(.int (own_in p1 (196608 : Int32) (262141 : Int32)))])) _
    refine XS.ifNo X6.here hx rfl (hb hby d_reference_64) rfl ((if0 _ _).trans (teq hc64).2) ?_
    exact k
  obtain ⟨_, _, ⟨T7, L7, k7, n7⟩, -, X7, ⟨Lc7, hQ7, l7, y7, z7⟩, st7⟩ := Jvm.LawKit.callS X6 hx (y := (⟨"com/example/sagoma/sagoma/format/Rfc3986IsUcsCharPinLaw", "in", "(III)Z"⟩ : MethodName)) hown (mvT hZ (hw _ (List.mem_of_getElem? (i := 12) rfl))) (mvT hZ (hw _ (List.mem_of_getElem? (i := 13) rfl))) (mvT hZ (hw _ (List.mem_of_getElem? (i := 9) rfl))) (mvT hZ (hw _ (List.mem_of_getElem? (i := 14) rfl))) (by decide) (backOf (W := 0) (rm_in l Z a0 hw [] p1 (262144 : Int32) (327677 : Int32) h0 n0) hZ (hw _ (List.mem_of_getElem? (i := 14) rfl)) (hw _ (List.mem_of_getElem? (i := 9) rfl)) (by decide) (by decide)) (g := (mkF m 72 #[.val (.int p1)] [(.int (327677 : Int32)), (.int (262144 : Int32)), (.int p1)])) rfl (by rw [hml]; rfl) (argsL := [(.int p1), (.int (262144 : Int32)), (.int (327677 : Int32))]) (rest := []) (lenOf pd_3 rfl) rfl (by show 2 * 0 + _ ≤ _; exact Nat.le_of_eq rfl) (hb hby d_reference_72) (fun _ _ => ⟨rfl, e6, (by decide : 0 + 0 ≤ _), (by decide : 0 + 0 ≤ _)⟩)
  dsimp only [Pt.U, Pt.locs, Pt.cells, Pt.slots] at X7 l7 y7 z7 st7 hQ7
  subst l7 y7 z7
  obtain ⟨rfl, N7q, e7⟩ := hQ7
  have N7 := Fr.app N6 N7q
  have P7' : ∀ t, Steps p.tables e below (T7.setTop (mkF m 75 #[.val (.int p1)] [(.int (own_in p1 (262144 : Int32) (327677 : Int32)))])) t → Steps p.tables e below (s₁.setTop (entryFrame m #[(.int p1)] 1)) t := by
    intro t k
    refine P6 t ?_
    show Steps p.tables e below (T6.setTop (mkF m 67 #[.val (.int p1)] [])) _
    refine XS.iloadN X6.here hx rfl (hb hby d_reference_67) rfl ?_
    show Steps p.tables e below (T6.setTop (mkF m 68 #[.val (.int p1)] [(.int p1)])) _
    refine Jvm.Stand.ldcI X6 hx hown (mvT hZ (hw _ (List.mem_of_getElem? (i := 25) rfl))) rfl (hb hby d_reference_68) ?_
    show Steps p.tables e below (T6.setTop (mkF m 70 #[.val (.int p1)] [(.int (262144 : Int32)), (.int p1)])) _
    refine Jvm.Stand.ldcI X6 hx hown (mvT hZ (hw _ (List.mem_of_getElem? (i := 26) rfl))) rfl (hb hby d_reference_70) ?_
    refine st7 _ ?_
    exact k
  by_cases hc75 : (own_in p1 (262144 : Int32) (327677 : Int32)) = (0 : Int32)
  rotate_left
  · obtain ⟨fs, hr, hrun, hended, hW, hsame⟩ := X7.leave (v := some (.int (own_r p1))) (fun h => by rw [Bd.returns] at h; cases h)
    refine ⟨_, _, P7' _ ?_, hrun, hended, _, _, rfl, ⟨rfl, N7, e7⟩, ⟨_, rfl⟩, hW, hsame.mono (by decide) (by decide)⟩
    show Steps p.tables e below (T7.setTop (mkF m 75 #[.val (.int p1)] [(.int (own_in p1 (262144 : Int32) (327677 : Int32)))])) _
    refine XS.ifYes X7.here hx rfl (pc0 := 75) (pc' := 188) rfl (hb hby d_reference_75) rfl ((if0 _ _).trans (feq hc75).2) (by decide) (by decide) ?_
    show Steps p.tables e below (T7.setTop (mkF m 188 #[.val (.int p1)] [])) _
    refine XS.iconst X7.here hx rfl (hb hby d_reference_188) ?_
    show Steps p.tables e below (T7.setTop (mkF m 189 #[.val (.int p1)] [(.int (1 : Int32))])) _
    refine XS.goto X7.here hx rfl (pc0 := 189) (pc' := 193) rfl (hb hby d_reference_189) (by decide) (by decide) ?_
    show Steps p.tables e below (T7.setTop (mkF m 193 #[.val (.int p1)] [(.int (1 : Int32))])) _
    have hv : own_r p1 = 1 := by
      have q := own_in1 hc75
      rw [show ((262144 : Int32)).toInt = 262144 from by decide, show ((327677 : Int32)).toInt = 327677 from by decide] at q
      have hR : own_R p1.toInt = true := by
        simp only [own_R, Bool.or_eq_true, Bool.and_eq_true, decide_eq_true_eq]
        omega
      simp only [own_r, hR]; rfl
    rw [hv] at hr
    exact retN X7 hx (t := .boolean) Bd.returns (by simp) (hb hby d_reference_193) hr
  have q7 := own_in0 hc75
  rw [show ((262144 : Int32)).toInt = 262144 from by decide, show ((327677 : Int32)).toInt = 327677 from by decide] at q7
  have P7 : ∀ t, Steps p.tables e below (T7.setTop (mkF m 78 #[.val (.int p1)] [])) t → Steps p.tables e below (s₁.setTop (entryFrame m #[(.int p1)] 1)) t := by
    intro t k
    refine P7' t ?_
    show Steps p.tables e below (T7.setTop (mkF m 75 #[.val (.int p1)] [(.int (own_in p1 (262144 : Int32) (327677 : Int32)))])) _
    refine XS.ifNo X7.here hx rfl (hb hby d_reference_75) rfl ((if0 _ _).trans (teq hc75).2) ?_
    exact k
  obtain ⟨_, _, ⟨T8, L8, k8, n8⟩, -, X8, ⟨Lc8, hQ8, l8, y8, z8⟩, st8⟩ := Jvm.LawKit.callS X7 hx (y := (⟨"com/example/sagoma/sagoma/format/Rfc3986IsUcsCharPinLaw", "in", "(III)Z"⟩ : MethodName)) hown (mvT hZ (hw _ (List.mem_of_getElem? (i := 12) rfl))) (mvT hZ (hw _ (List.mem_of_getElem? (i := 13) rfl))) (mvT hZ (hw _ (List.mem_of_getElem? (i := 9) rfl))) (mvT hZ (hw _ (List.mem_of_getElem? (i := 14) rfl))) (by decide) (backOf (W := 0) (rm_in l Z a0 hw [] p1 (327680 : Int32) (393213 : Int32) h0 n0) hZ (hw _ (List.mem_of_getElem? (i := 14) rfl)) (hw _ (List.mem_of_getElem? (i := 9) rfl)) (by decide) (by decide)) (g := (mkF m 83 #[.val (.int p1)] [(.int (393213 : Int32)), (.int (327680 : Int32)), (.int p1)])) rfl (by rw [hml]; rfl) (argsL := [(.int p1), (.int (327680 : Int32)), (.int (393213 : Int32))]) (rest := []) (lenOf pd_3 rfl) rfl (by show 2 * 0 + _ ≤ _; exact Nat.le_of_eq rfl) (hb hby d_reference_83) (fun _ _ => ⟨rfl, e7, (by decide : 0 + 0 ≤ _), (by decide : 0 + 0 ≤ _)⟩)
  dsimp only [Pt.U, Pt.locs, Pt.cells, Pt.slots] at X8 l8 y8 z8 st8 hQ8
  subst l8 y8 z8
  obtain ⟨rfl, N8q, e8⟩ := hQ8
  have N8 := Fr.app N7 N8q
  have P8' : ∀ t, Steps p.tables e below (T8.setTop (mkF m 86 #[.val (.int p1)] [(.int (own_in p1 (327680 : Int32) (393213 : Int32)))])) t → Steps p.tables e below (s₁.setTop (entryFrame m #[(.int p1)] 1)) t := by
    intro t k
    refine P7 t ?_
    show Steps p.tables e below (T7.setTop (mkF m 78 #[.val (.int p1)] [])) _
    refine XS.iloadN X7.here hx rfl (hb hby d_reference_78) rfl ?_
    show Steps p.tables e below (T7.setTop (mkF m 79 #[.val (.int p1)] [(.int p1)])) _
    refine Jvm.Stand.ldcI X7 hx hown (mvT hZ (hw _ (List.mem_of_getElem? (i := 27) rfl))) rfl (hb hby d_reference_79) ?_
    show Steps p.tables e below (T7.setTop (mkF m 81 #[.val (.int p1)] [(.int (327680 : Int32)), (.int p1)])) _
    refine Jvm.Stand.ldcI X7 hx hown (mvT hZ (hw _ (List.mem_of_getElem? (i := 28) rfl))) rfl (hb hby d_reference_81) ?_
    refine st8 _ ?_
    exact k
  by_cases hc86 : (own_in p1 (327680 : Int32) (393213 : Int32)) = (0 : Int32)
  rotate_left
  · obtain ⟨fs, hr, hrun, hended, hW, hsame⟩ := X8.leave (v := some (.int (own_r p1))) (fun h => by rw [Bd.returns] at h; cases h)
    refine ⟨_, _, P8' _ ?_, hrun, hended, _, _, rfl, ⟨rfl, N8, e8⟩, ⟨_, rfl⟩, hW, hsame.mono (by decide) (by decide)⟩
    show Steps p.tables e below (T8.setTop (mkF m 86 #[.val (.int p1)] [(.int (own_in p1 (327680 : Int32) (393213 : Int32)))])) _
    refine XS.ifYes X8.here hx rfl (pc0 := 86) (pc' := 188) rfl (hb hby d_reference_86) rfl ((if0 _ _).trans (feq hc86).2) (by decide) (by decide) ?_
    show Steps p.tables e below (T8.setTop (mkF m 188 #[.val (.int p1)] [])) _
    refine XS.iconst X8.here hx rfl (hb hby d_reference_188) ?_
    show Steps p.tables e below (T8.setTop (mkF m 189 #[.val (.int p1)] [(.int (1 : Int32))])) _
    refine XS.goto X8.here hx rfl (pc0 := 189) (pc' := 193) rfl (hb hby d_reference_189) (by decide) (by decide) ?_
    show Steps p.tables e below (T8.setTop (mkF m 193 #[.val (.int p1)] [(.int (1 : Int32))])) _
    have hv : own_r p1 = 1 := by
      have q := own_in1 hc86
      rw [show ((327680 : Int32)).toInt = 327680 from by decide, show ((393213 : Int32)).toInt = 393213 from by decide] at q
      have hR : own_R p1.toInt = true := by
        simp only [own_R, Bool.or_eq_true, Bool.and_eq_true, decide_eq_true_eq]
        omega
      simp only [own_r, hR]; rfl
    rw [hv] at hr
    exact retN X8 hx (t := .boolean) Bd.returns (by simp) (hb hby d_reference_193) hr
  have q8 := own_in0 hc86
  rw [show ((327680 : Int32)).toInt = 327680 from by decide, show ((393213 : Int32)).toInt = 393213 from by decide] at q8
  have P8 : ∀ t, Steps p.tables e below (T8.setTop (mkF m 89 #[.val (.int p1)] [])) t → Steps p.tables e below (s₁.setTop (entryFrame m #[(.int p1)] 1)) t := by
    intro t k
    refine P8' t ?_
    show Steps p.tables e below (T8.setTop (mkF m 86 #[.val (.int p1)] [(.int (own_in p1 (327680 : Int32) (393213 : Int32)))])) _
    refine XS.ifNo X8.here hx rfl (hb hby d_reference_86) rfl ((if0 _ _).trans (teq hc86).2) ?_
    exact k
  obtain ⟨_, _, ⟨T9, L9, k9, n9⟩, -, X9, ⟨Lc9, hQ9, l9, y9, z9⟩, st9⟩ := Jvm.LawKit.callS X8 hx (y := (⟨"com/example/sagoma/sagoma/format/Rfc3986IsUcsCharPinLaw", "in", "(III)Z"⟩ : MethodName)) hown (mvT hZ (hw _ (List.mem_of_getElem? (i := 12) rfl))) (mvT hZ (hw _ (List.mem_of_getElem? (i := 13) rfl))) (mvT hZ (hw _ (List.mem_of_getElem? (i := 9) rfl))) (mvT hZ (hw _ (List.mem_of_getElem? (i := 14) rfl))) (by decide) (backOf (W := 0) (rm_in l Z a0 hw [] p1 (393216 : Int32) (458749 : Int32) h0 n0) hZ (hw _ (List.mem_of_getElem? (i := 14) rfl)) (hw _ (List.mem_of_getElem? (i := 9) rfl)) (by decide) (by decide)) (g := (mkF m 94 #[.val (.int p1)] [(.int (458749 : Int32)), (.int (393216 : Int32)), (.int p1)])) rfl (by rw [hml]; rfl) (argsL := [(.int p1), (.int (393216 : Int32)), (.int (458749 : Int32))]) (rest := []) (lenOf pd_3 rfl) rfl (by show 2 * 0 + _ ≤ _; exact Nat.le_of_eq rfl) (hb hby d_reference_94) (fun _ _ => ⟨rfl, e8, (by decide : 0 + 0 ≤ _), (by decide : 0 + 0 ≤ _)⟩)
  dsimp only [Pt.U, Pt.locs, Pt.cells, Pt.slots] at X9 l9 y9 z9 st9 hQ9
  subst l9 y9 z9
  obtain ⟨rfl, N9q, e9⟩ := hQ9
  have N9 := Fr.app N8 N9q
  have P9' : ∀ t, Steps p.tables e below (T9.setTop (mkF m 97 #[.val (.int p1)] [(.int (own_in p1 (393216 : Int32) (458749 : Int32)))])) t → Steps p.tables e below (s₁.setTop (entryFrame m #[(.int p1)] 1)) t := by
    intro t k
    refine P8 t ?_
    show Steps p.tables e below (T8.setTop (mkF m 89 #[.val (.int p1)] [])) _
    refine XS.iloadN X8.here hx rfl (hb hby d_reference_89) rfl ?_
    show Steps p.tables e below (T8.setTop (mkF m 90 #[.val (.int p1)] [(.int p1)])) _
    refine Jvm.Stand.ldcI X8 hx hown (mvT hZ (hw _ (List.mem_of_getElem? (i := 29) rfl))) rfl (hb hby d_reference_90) ?_
    show Steps p.tables e below (T8.setTop (mkF m 92 #[.val (.int p1)] [(.int (393216 : Int32)), (.int p1)])) _
    refine Jvm.Stand.ldcI X8 hx hown (mvT hZ (hw _ (List.mem_of_getElem? (i := 30) rfl))) rfl (hb hby d_reference_92) ?_
    refine st9 _ ?_
    exact k
  by_cases hc97 : (own_in p1 (393216 : Int32) (458749 : Int32)) = (0 : Int32)
  rotate_left
  · obtain ⟨fs, hr, hrun, hended, hW, hsame⟩ := X9.leave (v := some (.int (own_r p1))) (fun h => by rw [Bd.returns] at h; cases h)
    refine ⟨_, _, P9' _ ?_, hrun, hended, _, _, rfl, ⟨rfl, N9, e9⟩, ⟨_, rfl⟩, hW, hsame.mono (by decide) (by decide)⟩
    show Steps p.tables e below (T9.setTop (mkF m 97 #[.val (.int p1)] [(.int (own_in p1 (393216 : Int32) (458749 : Int32)))])) _
    refine XS.ifYes X9.here hx rfl (pc0 := 97) (pc' := 188) rfl (hb hby d_reference_97) rfl ((if0 _ _).trans (feq hc97).2) (by decide) (by decide) ?_
    show Steps p.tables e below (T9.setTop (mkF m 188 #[.val (.int p1)] [])) _
    refine XS.iconst X9.here hx rfl (hb hby d_reference_188) ?_
    show Steps p.tables e below (T9.setTop (mkF m 189 #[.val (.int p1)] [(.int (1 : Int32))])) _
    refine XS.goto X9.here hx rfl (pc0 := 189) (pc' := 193) rfl (hb hby d_reference_189) (by decide) (by decide) ?_
    show Steps p.tables e below (T9.setTop (mkF m 193 #[.val (.int p1)] [(.int (1 : Int32))])) _
    have hv : own_r p1 = 1 := by
      have q := own_in1 hc97
      rw [show ((393216 : Int32)).toInt = 393216 from by decide, show ((458749 : Int32)).toInt = 458749 from by decide] at q
      have hR : own_R p1.toInt = true := by
        simp only [own_R, Bool.or_eq_true, Bool.and_eq_true, decide_eq_true_eq]
        omega
      simp only [own_r, hR]; rfl
    rw [hv] at hr
    exact retN X9 hx (t := .boolean) Bd.returns (by simp) (hb hby d_reference_193) hr
  have q9 := own_in0 hc97
  rw [show ((393216 : Int32)).toInt = 393216 from by decide, show ((458749 : Int32)).toInt = 458749 from by decide] at q9
  have P9 : ∀ t, Steps p.tables e below (T9.setTop (mkF m 100 #[.val (.int p1)] [])) t → Steps p.tables e below (s₁.setTop (entryFrame m #[(.int p1)] 1)) t := by
    intro t k
    refine P9' t ?_
    show Steps p.tables e below (T9.setTop (mkF m 97 #[.val (.int p1)] [(.int (own_in p1 (393216 : Int32) (458749 : Int32)))])) _
    refine XS.ifNo X9.here hx rfl (hb hby d_reference_97) rfl ((if0 _ _).trans (teq hc97).2) ?_
    exact k
  obtain ⟨_, _, ⟨T10, L10, k10, n10⟩, -, X10, ⟨Lc10, hQ10, l10, y10, z10⟩, st10⟩ := Jvm.LawKit.callS X9 hx (y := (⟨"com/example/sagoma/sagoma/format/Rfc3986IsUcsCharPinLaw", "in", "(III)Z"⟩ : MethodName)) hown (mvT hZ (hw _ (List.mem_of_getElem? (i := 12) rfl))) (mvT hZ (hw _ (List.mem_of_getElem? (i := 13) rfl))) (mvT hZ (hw _ (List.mem_of_getElem? (i := 9) rfl))) (mvT hZ (hw _ (List.mem_of_getElem? (i := 14) rfl))) (by decide) (backOf (W := 0) (rm_in l Z a0 hw [] p1 (458752 : Int32) (524285 : Int32) h0 n0) hZ (hw _ (List.mem_of_getElem? (i := 14) rfl)) (hw _ (List.mem_of_getElem? (i := 9) rfl)) (by decide) (by decide)) (g := (mkF m 105 #[.val (.int p1)] [(.int (524285 : Int32)), (.int (458752 : Int32)), (.int p1)])) rfl (by rw [hml]; rfl) (argsL := [(.int p1), (.int (458752 : Int32)), (.int (524285 : Int32))]) (rest := []) (lenOf pd_3 rfl) rfl (by show 2 * 0 + _ ≤ _; exact Nat.le_of_eq rfl) (hb hby d_reference_105) (fun _ _ => ⟨rfl, e9, (by decide : 0 + 0 ≤ _), (by decide : 0 + 0 ≤ _)⟩)
  dsimp only [Pt.U, Pt.locs, Pt.cells, Pt.slots] at X10 l10 y10 z10 st10 hQ10
  subst l10 y10 z10
  obtain ⟨rfl, N10q, e10⟩ := hQ10
  have N10 := Fr.app N9 N10q
  have P10' : ∀ t, Steps p.tables e below (T10.setTop (mkF m 108 #[.val (.int p1)] [(.int (own_in p1 (458752 : Int32) (524285 : Int32)))])) t → Steps p.tables e below (s₁.setTop (entryFrame m #[(.int p1)] 1)) t := by
    intro t k
    refine P9 t ?_
    show Steps p.tables e below (T9.setTop (mkF m 100 #[.val (.int p1)] [])) _
    refine XS.iloadN X9.here hx rfl (hb hby d_reference_100) rfl ?_
    show Steps p.tables e below (T9.setTop (mkF m 101 #[.val (.int p1)] [(.int p1)])) _
    refine Jvm.Stand.ldcI X9 hx hown (mvT hZ (hw _ (List.mem_of_getElem? (i := 31) rfl))) rfl (hb hby d_reference_101) ?_
    show Steps p.tables e below (T9.setTop (mkF m 103 #[.val (.int p1)] [(.int (458752 : Int32)), (.int p1)])) _
    refine Jvm.Stand.ldcI X9 hx hown (mvT hZ (hw _ (List.mem_of_getElem? (i := 32) rfl))) rfl (hb hby d_reference_103) ?_
    refine st10 _ ?_
    exact k
  by_cases hc108 : (own_in p1 (458752 : Int32) (524285 : Int32)) = (0 : Int32)
  rotate_left
  · obtain ⟨fs, hr, hrun, hended, hW, hsame⟩ := X10.leave (v := some (.int (own_r p1))) (fun h => by rw [Bd.returns] at h; cases h)
    refine ⟨_, _, P10' _ ?_, hrun, hended, _, _, rfl, ⟨rfl, N10, e10⟩, ⟨_, rfl⟩, hW, hsame.mono (by decide) (by decide)⟩
    show Steps p.tables e below (T10.setTop (mkF m 108 #[.val (.int p1)] [(.int (own_in p1 (458752 : Int32) (524285 : Int32)))])) _
    refine XS.ifYes X10.here hx rfl (pc0 := 108) (pc' := 188) rfl (hb hby d_reference_108) rfl ((if0 _ _).trans (feq hc108).2) (by decide) (by decide) ?_
    show Steps p.tables e below (T10.setTop (mkF m 188 #[.val (.int p1)] [])) _
    refine XS.iconst X10.here hx rfl (hb hby d_reference_188) ?_
    show Steps p.tables e below (T10.setTop (mkF m 189 #[.val (.int p1)] [(.int (1 : Int32))])) _
    refine XS.goto X10.here hx rfl (pc0 := 189) (pc' := 193) rfl (hb hby d_reference_189) (by decide) (by decide) ?_
    show Steps p.tables e below (T10.setTop (mkF m 193 #[.val (.int p1)] [(.int (1 : Int32))])) _
    have hv : own_r p1 = 1 := by
      have q := own_in1 hc108
      rw [show ((458752 : Int32)).toInt = 458752 from by decide, show ((524285 : Int32)).toInt = 524285 from by decide] at q
      have hR : own_R p1.toInt = true := by
        simp only [own_R, Bool.or_eq_true, Bool.and_eq_true, decide_eq_true_eq]
        omega
      simp only [own_r, hR]; rfl
    rw [hv] at hr
    exact retN X10 hx (t := .boolean) Bd.returns (by simp) (hb hby d_reference_193) hr
  have q10 := own_in0 hc108
  rw [show ((458752 : Int32)).toInt = 458752 from by decide, show ((524285 : Int32)).toInt = 524285 from by decide] at q10
  have P10 : ∀ t, Steps p.tables e below (T10.setTop (mkF m 111 #[.val (.int p1)] [])) t → Steps p.tables e below (s₁.setTop (entryFrame m #[(.int p1)] 1)) t := by
    intro t k
    refine P10' t ?_
    show Steps p.tables e below (T10.setTop (mkF m 108 #[.val (.int p1)] [(.int (own_in p1 (458752 : Int32) (524285 : Int32)))])) _
    refine XS.ifNo X10.here hx rfl (hb hby d_reference_108) rfl ((if0 _ _).trans (teq hc108).2) ?_
    exact k
  obtain ⟨_, _, ⟨T11, L11, k11, n11⟩, -, X11, ⟨Lc11, hQ11, l11, y11, z11⟩, st11⟩ := Jvm.LawKit.callS X10 hx (y := (⟨"com/example/sagoma/sagoma/format/Rfc3986IsUcsCharPinLaw", "in", "(III)Z"⟩ : MethodName)) hown (mvT hZ (hw _ (List.mem_of_getElem? (i := 12) rfl))) (mvT hZ (hw _ (List.mem_of_getElem? (i := 13) rfl))) (mvT hZ (hw _ (List.mem_of_getElem? (i := 9) rfl))) (mvT hZ (hw _ (List.mem_of_getElem? (i := 14) rfl))) (by decide) (backOf (W := 0) (rm_in l Z a0 hw [] p1 (524288 : Int32) (589821 : Int32) h0 n0) hZ (hw _ (List.mem_of_getElem? (i := 14) rfl)) (hw _ (List.mem_of_getElem? (i := 9) rfl)) (by decide) (by decide)) (g := (mkF m 116 #[.val (.int p1)] [(.int (589821 : Int32)), (.int (524288 : Int32)), (.int p1)])) rfl (by rw [hml]; rfl) (argsL := [(.int p1), (.int (524288 : Int32)), (.int (589821 : Int32))]) (rest := []) (lenOf pd_3 rfl) rfl (by show 2 * 0 + _ ≤ _; exact Nat.le_of_eq rfl) (hb hby d_reference_116) (fun _ _ => ⟨rfl, e10, (by decide : 0 + 0 ≤ _), (by decide : 0 + 0 ≤ _)⟩)
  dsimp only [Pt.U, Pt.locs, Pt.cells, Pt.slots] at X11 l11 y11 z11 st11 hQ11
  subst l11 y11 z11
  obtain ⟨rfl, N11q, e11⟩ := hQ11
  have N11 := Fr.app N10 N11q
  have P11' : ∀ t, Steps p.tables e below (T11.setTop (mkF m 119 #[.val (.int p1)] [(.int (own_in p1 (524288 : Int32) (589821 : Int32)))])) t → Steps p.tables e below (s₁.setTop (entryFrame m #[(.int p1)] 1)) t := by
    intro t k
    refine P10 t ?_
    show Steps p.tables e below (T10.setTop (mkF m 111 #[.val (.int p1)] [])) _
    refine XS.iloadN X10.here hx rfl (hb hby d_reference_111) rfl ?_
    show Steps p.tables e below (T10.setTop (mkF m 112 #[.val (.int p1)] [(.int p1)])) _
    refine Jvm.Stand.ldcI X10 hx hown (mvT hZ (hw _ (List.mem_of_getElem? (i := 33) rfl))) rfl (hb hby d_reference_112) ?_
    show Steps p.tables e below (T10.setTop (mkF m 114 #[.val (.int p1)] [(.int (524288 : Int32)), (.int p1)])) _
    refine Jvm.Stand.ldcI X10 hx hown (mvT hZ (hw _ (List.mem_of_getElem? (i := 34) rfl))) rfl (hb hby d_reference_114) ?_
    refine st11 _ ?_
    exact k
  by_cases hc119 : (own_in p1 (524288 : Int32) (589821 : Int32)) = (0 : Int32)
  rotate_left
  · obtain ⟨fs, hr, hrun, hended, hW, hsame⟩ := X11.leave (v := some (.int (own_r p1))) (fun h => by rw [Bd.returns] at h; cases h)
    refine ⟨_, _, P11' _ ?_, hrun, hended, _, _, rfl, ⟨rfl, N11, e11⟩, ⟨_, rfl⟩, hW, hsame.mono (by decide) (by decide)⟩
    show Steps p.tables e below (T11.setTop (mkF m 119 #[.val (.int p1)] [(.int (own_in p1 (524288 : Int32) (589821 : Int32)))])) _
    refine XS.ifYes X11.here hx rfl (pc0 := 119) (pc' := 188) rfl (hb hby d_reference_119) rfl ((if0 _ _).trans (feq hc119).2) (by decide) (by decide) ?_
    show Steps p.tables e below (T11.setTop (mkF m 188 #[.val (.int p1)] [])) _
    refine XS.iconst X11.here hx rfl (hb hby d_reference_188) ?_
    show Steps p.tables e below (T11.setTop (mkF m 189 #[.val (.int p1)] [(.int (1 : Int32))])) _
    refine XS.goto X11.here hx rfl (pc0 := 189) (pc' := 193) rfl (hb hby d_reference_189) (by decide) (by decide) ?_
    show Steps p.tables e below (T11.setTop (mkF m 193 #[.val (.int p1)] [(.int (1 : Int32))])) _
    have hv : own_r p1 = 1 := by
      have q := own_in1 hc119
      rw [show ((524288 : Int32)).toInt = 524288 from by decide, show ((589821 : Int32)).toInt = 589821 from by decide] at q
      have hR : own_R p1.toInt = true := by
        simp only [own_R, Bool.or_eq_true, Bool.and_eq_true, decide_eq_true_eq]
        omega
      simp only [own_r, hR]; rfl
    rw [hv] at hr
    exact retN X11 hx (t := .boolean) Bd.returns (by simp) (hb hby d_reference_193) hr
  have q11 := own_in0 hc119
  rw [show ((524288 : Int32)).toInt = 524288 from by decide, show ((589821 : Int32)).toInt = 589821 from by decide] at q11
  have P11 : ∀ t, Steps p.tables e below (T11.setTop (mkF m 122 #[.val (.int p1)] [])) t → Steps p.tables e below (s₁.setTop (entryFrame m #[(.int p1)] 1)) t := by
    intro t k
    refine P11' t ?_
    show Steps p.tables e below (T11.setTop (mkF m 119 #[.val (.int p1)] [(.int (own_in p1 (524288 : Int32) (589821 : Int32)))])) _
    refine XS.ifNo X11.here hx rfl (hb hby d_reference_119) rfl ((if0 _ _).trans (teq hc119).2) ?_
    exact k
  obtain ⟨_, _, ⟨T12, L12, k12, n12⟩, -, X12, ⟨Lc12, hQ12, l12, y12, z12⟩, st12⟩ := Jvm.LawKit.callS X11 hx (y := (⟨"com/example/sagoma/sagoma/format/Rfc3986IsUcsCharPinLaw", "in", "(III)Z"⟩ : MethodName)) hown (mvT hZ (hw _ (List.mem_of_getElem? (i := 12) rfl))) (mvT hZ (hw _ (List.mem_of_getElem? (i := 13) rfl))) (mvT hZ (hw _ (List.mem_of_getElem? (i := 9) rfl))) (mvT hZ (hw _ (List.mem_of_getElem? (i := 14) rfl))) (by decide) (backOf (W := 0) (rm_in l Z a0 hw [] p1 (589824 : Int32) (655357 : Int32) h0 n0) hZ (hw _ (List.mem_of_getElem? (i := 14) rfl)) (hw _ (List.mem_of_getElem? (i := 9) rfl)) (by decide) (by decide)) (g := (mkF m 127 #[.val (.int p1)] [(.int (655357 : Int32)), (.int (589824 : Int32)), (.int p1)])) rfl (by rw [hml]; rfl) (argsL := [(.int p1), (.int (589824 : Int32)), (.int (655357 : Int32))]) (rest := []) (lenOf pd_3 rfl) rfl (by show 2 * 0 + _ ≤ _; exact Nat.le_of_eq rfl) (hb hby d_reference_127) (fun _ _ => ⟨rfl, e11, (by decide : 0 + 0 ≤ _), (by decide : 0 + 0 ≤ _)⟩)
  dsimp only [Pt.U, Pt.locs, Pt.cells, Pt.slots] at X12 l12 y12 z12 st12 hQ12
  subst l12 y12 z12
  obtain ⟨rfl, N12q, e12⟩ := hQ12
  have N12 := Fr.app N11 N12q
  have P12' : ∀ t, Steps p.tables e below (T12.setTop (mkF m 130 #[.val (.int p1)] [(.int (own_in p1 (589824 : Int32) (655357 : Int32)))])) t → Steps p.tables e below (s₁.setTop (entryFrame m #[(.int p1)] 1)) t := by
    intro t k
    refine P11 t ?_
    show Steps p.tables e below (T11.setTop (mkF m 122 #[.val (.int p1)] [])) _
    refine XS.iloadN X11.here hx rfl (hb hby d_reference_122) rfl ?_
    show Steps p.tables e below (T11.setTop (mkF m 123 #[.val (.int p1)] [(.int p1)])) _
    refine Jvm.Stand.ldcI X11 hx hown (mvT hZ (hw _ (List.mem_of_getElem? (i := 35) rfl))) rfl (hb hby d_reference_123) ?_
    show Steps p.tables e below (T11.setTop (mkF m 125 #[.val (.int p1)] [(.int (589824 : Int32)), (.int p1)])) _
    refine Jvm.Stand.ldcI X11 hx hown (mvT hZ (hw _ (List.mem_of_getElem? (i := 36) rfl))) rfl (hb hby d_reference_125) ?_
    refine st12 _ ?_
    exact k
  by_cases hc130 : (own_in p1 (589824 : Int32) (655357 : Int32)) = (0 : Int32)
  rotate_left
  · obtain ⟨fs, hr, hrun, hended, hW, hsame⟩ := X12.leave (v := some (.int (own_r p1))) (fun h => by rw [Bd.returns] at h; cases h)
    refine ⟨_, _, P12' _ ?_, hrun, hended, _, _, rfl, ⟨rfl, N12, e12⟩, ⟨_, rfl⟩, hW, hsame.mono (by decide) (by decide)⟩
    show Steps p.tables e below (T12.setTop (mkF m 130 #[.val (.int p1)] [(.int (own_in p1 (589824 : Int32) (655357 : Int32)))])) _
    refine XS.ifYes X12.here hx rfl (pc0 := 130) (pc' := 188) rfl (hb hby d_reference_130) rfl ((if0 _ _).trans (feq hc130).2) (by decide) (by decide) ?_
    show Steps p.tables e below (T12.setTop (mkF m 188 #[.val (.int p1)] [])) _
    refine XS.iconst X12.here hx rfl (hb hby d_reference_188) ?_
    show Steps p.tables e below (T12.setTop (mkF m 189 #[.val (.int p1)] [(.int (1 : Int32))])) _
    refine XS.goto X12.here hx rfl (pc0 := 189) (pc' := 193) rfl (hb hby d_reference_189) (by decide) (by decide) ?_
    show Steps p.tables e below (T12.setTop (mkF m 193 #[.val (.int p1)] [(.int (1 : Int32))])) _
    have hv : own_r p1 = 1 := by
      have q := own_in1 hc130
      rw [show ((589824 : Int32)).toInt = 589824 from by decide, show ((655357 : Int32)).toInt = 655357 from by decide] at q
      have hR : own_R p1.toInt = true := by
        simp only [own_R, Bool.or_eq_true, Bool.and_eq_true, decide_eq_true_eq]
        omega
      simp only [own_r, hR]; rfl
    rw [hv] at hr
    exact retN X12 hx (t := .boolean) Bd.returns (by simp) (hb hby d_reference_193) hr
  have q12 := own_in0 hc130
  rw [show ((589824 : Int32)).toInt = 589824 from by decide, show ((655357 : Int32)).toInt = 655357 from by decide] at q12
  have P12 : ∀ t, Steps p.tables e below (T12.setTop (mkF m 133 #[.val (.int p1)] [])) t → Steps p.tables e below (s₁.setTop (entryFrame m #[(.int p1)] 1)) t := by
    intro t k
    refine P12' t ?_
    show Steps p.tables e below (T12.setTop (mkF m 130 #[.val (.int p1)] [(.int (own_in p1 (589824 : Int32) (655357 : Int32)))])) _
    refine XS.ifNo X12.here hx rfl (hb hby d_reference_130) rfl ((if0 _ _).trans (teq hc130).2) ?_
    exact k
  obtain ⟨_, _, ⟨T13, L13, k13, n13⟩, -, X13, ⟨Lc13, hQ13, l13, y13, z13⟩, st13⟩ := Jvm.LawKit.callS X12 hx (y := (⟨"com/example/sagoma/sagoma/format/Rfc3986IsUcsCharPinLaw", "in", "(III)Z"⟩ : MethodName)) hown (mvT hZ (hw _ (List.mem_of_getElem? (i := 12) rfl))) (mvT hZ (hw _ (List.mem_of_getElem? (i := 13) rfl))) (mvT hZ (hw _ (List.mem_of_getElem? (i := 9) rfl))) (mvT hZ (hw _ (List.mem_of_getElem? (i := 14) rfl))) (by decide) (backOf (W := 0) (rm_in l Z a0 hw [] p1 (655360 : Int32) (720893 : Int32) h0 n0) hZ (hw _ (List.mem_of_getElem? (i := 14) rfl)) (hw _ (List.mem_of_getElem? (i := 9) rfl)) (by decide) (by decide)) (g := (mkF m 138 #[.val (.int p1)] [(.int (720893 : Int32)), (.int (655360 : Int32)), (.int p1)])) rfl (by rw [hml]; rfl) (argsL := [(.int p1), (.int (655360 : Int32)), (.int (720893 : Int32))]) (rest := []) (lenOf pd_3 rfl) rfl (by show 2 * 0 + _ ≤ _; exact Nat.le_of_eq rfl) (hb hby d_reference_138) (fun _ _ => ⟨rfl, e12, (by decide : 0 + 0 ≤ _), (by decide : 0 + 0 ≤ _)⟩)
  dsimp only [Pt.U, Pt.locs, Pt.cells, Pt.slots] at X13 l13 y13 z13 st13 hQ13
  subst l13 y13 z13
  obtain ⟨rfl, N13q, e13⟩ := hQ13
  have N13 := Fr.app N12 N13q
  have P13' : ∀ t, Steps p.tables e below (T13.setTop (mkF m 141 #[.val (.int p1)] [(.int (own_in p1 (655360 : Int32) (720893 : Int32)))])) t → Steps p.tables e below (s₁.setTop (entryFrame m #[(.int p1)] 1)) t := by
    intro t k
    refine P12 t ?_
    show Steps p.tables e below (T12.setTop (mkF m 133 #[.val (.int p1)] [])) _
    refine XS.iloadN X12.here hx rfl (hb hby d_reference_133) rfl ?_
    show Steps p.tables e below (T12.setTop (mkF m 134 #[.val (.int p1)] [(.int p1)])) _
    refine Jvm.Stand.ldcI X12 hx hown (mvT hZ (hw _ (List.mem_of_getElem? (i := 37) rfl))) rfl (hb hby d_reference_134) ?_
    show Steps p.tables e below (T12.setTop (mkF m 136 #[.val (.int p1)] [(.int (655360 : Int32)), (.int p1)])) _
    refine Jvm.Stand.ldcI X12 hx hown (mvT hZ (hw _ (List.mem_of_getElem? (i := 38) rfl))) rfl (hb hby d_reference_136) ?_
    refine st13 _ ?_
    exact k
  by_cases hc141 : (own_in p1 (655360 : Int32) (720893 : Int32)) = (0 : Int32)
  rotate_left
  · obtain ⟨fs, hr, hrun, hended, hW, hsame⟩ := X13.leave (v := some (.int (own_r p1))) (fun h => by rw [Bd.returns] at h; cases h)
    refine ⟨_, _, P13' _ ?_, hrun, hended, _, _, rfl, ⟨rfl, N13, e13⟩, ⟨_, rfl⟩, hW, hsame.mono (by decide) (by decide)⟩
    show Steps p.tables e below (T13.setTop (mkF m 141 #[.val (.int p1)] [(.int (own_in p1 (655360 : Int32) (720893 : Int32)))])) _
    refine XS.ifYes X13.here hx rfl (pc0 := 141) (pc' := 188) rfl (hb hby d_reference_141) rfl ((if0 _ _).trans (feq hc141).2) (by decide) (by decide) ?_
    show Steps p.tables e below (T13.setTop (mkF m 188 #[.val (.int p1)] [])) _
    refine XS.iconst X13.here hx rfl (hb hby d_reference_188) ?_
    show Steps p.tables e below (T13.setTop (mkF m 189 #[.val (.int p1)] [(.int (1 : Int32))])) _
    refine XS.goto X13.here hx rfl (pc0 := 189) (pc' := 193) rfl (hb hby d_reference_189) (by decide) (by decide) ?_
    show Steps p.tables e below (T13.setTop (mkF m 193 #[.val (.int p1)] [(.int (1 : Int32))])) _
    have hv : own_r p1 = 1 := by
      have q := own_in1 hc141
      rw [show ((655360 : Int32)).toInt = 655360 from by decide, show ((720893 : Int32)).toInt = 720893 from by decide] at q
      have hR : own_R p1.toInt = true := by
        simp only [own_R, Bool.or_eq_true, Bool.and_eq_true, decide_eq_true_eq]
        omega
      simp only [own_r, hR]; rfl
    rw [hv] at hr
    exact retN X13 hx (t := .boolean) Bd.returns (by simp) (hb hby d_reference_193) hr
  have q13 := own_in0 hc141
  rw [show ((655360 : Int32)).toInt = 655360 from by decide, show ((720893 : Int32)).toInt = 720893 from by decide] at q13
  have P13 : ∀ t, Steps p.tables e below (T13.setTop (mkF m 144 #[.val (.int p1)] [])) t → Steps p.tables e below (s₁.setTop (entryFrame m #[(.int p1)] 1)) t := by
    intro t k
    refine P13' t ?_
    show Steps p.tables e below (T13.setTop (mkF m 141 #[.val (.int p1)] [(.int (own_in p1 (655360 : Int32) (720893 : Int32)))])) _
    refine XS.ifNo X13.here hx rfl (hb hby d_reference_141) rfl ((if0 _ _).trans (teq hc141).2) ?_
    exact k
  obtain ⟨_, _, ⟨T14, L14, k14, n14⟩, -, X14, ⟨Lc14, hQ14, l14, y14, z14⟩, st14⟩ := Jvm.LawKit.callS X13 hx (y := (⟨"com/example/sagoma/sagoma/format/Rfc3986IsUcsCharPinLaw", "in", "(III)Z"⟩ : MethodName)) hown (mvT hZ (hw _ (List.mem_of_getElem? (i := 12) rfl))) (mvT hZ (hw _ (List.mem_of_getElem? (i := 13) rfl))) (mvT hZ (hw _ (List.mem_of_getElem? (i := 9) rfl))) (mvT hZ (hw _ (List.mem_of_getElem? (i := 14) rfl))) (by decide) (backOf (W := 0) (rm_in l Z a0 hw [] p1 (720896 : Int32) (786429 : Int32) h0 n0) hZ (hw _ (List.mem_of_getElem? (i := 14) rfl)) (hw _ (List.mem_of_getElem? (i := 9) rfl)) (by decide) (by decide)) (g := (mkF m 149 #[.val (.int p1)] [(.int (786429 : Int32)), (.int (720896 : Int32)), (.int p1)])) rfl (by rw [hml]; rfl) (argsL := [(.int p1), (.int (720896 : Int32)), (.int (786429 : Int32))]) (rest := []) (lenOf pd_3 rfl) rfl (by show 2 * 0 + _ ≤ _; exact Nat.le_of_eq rfl) (hb hby d_reference_149) (fun _ _ => ⟨rfl, e13, (by decide : 0 + 0 ≤ _), (by decide : 0 + 0 ≤ _)⟩)
  dsimp only [Pt.U, Pt.locs, Pt.cells, Pt.slots] at X14 l14 y14 z14 st14 hQ14
  subst l14 y14 z14
  obtain ⟨rfl, N14q, e14⟩ := hQ14
  have N14 := Fr.app N13 N14q
  have P14' : ∀ t, Steps p.tables e below (T14.setTop (mkF m 152 #[.val (.int p1)] [(.int (own_in p1 (720896 : Int32) (786429 : Int32)))])) t → Steps p.tables e below (s₁.setTop (entryFrame m #[(.int p1)] 1)) t := by
    intro t k
    refine P13 t ?_
    show Steps p.tables e below (T13.setTop (mkF m 144 #[.val (.int p1)] [])) _
    refine XS.iloadN X13.here hx rfl (hb hby d_reference_144) rfl ?_
    show Steps p.tables e below (T13.setTop (mkF m 145 #[.val (.int p1)] [(.int p1)])) _
    refine Jvm.Stand.ldcI X13 hx hown (mvT hZ (hw _ (List.mem_of_getElem? (i := 39) rfl))) rfl (hb hby d_reference_145) ?_
    show Steps p.tables e below (T13.setTop (mkF m 147 #[.val (.int p1)] [(.int (720896 : Int32)), (.int p1)])) _
    refine Jvm.Stand.ldcI X13 hx hown (mvT hZ (hw _ (List.mem_of_getElem? (i := 40) rfl))) rfl (hb hby d_reference_147) ?_
    refine st14 _ ?_
    exact k
  by_cases hc152 : (own_in p1 (720896 : Int32) (786429 : Int32)) = (0 : Int32)
  rotate_left
  · obtain ⟨fs, hr, hrun, hended, hW, hsame⟩ := X14.leave (v := some (.int (own_r p1))) (fun h => by rw [Bd.returns] at h; cases h)
    refine ⟨_, _, P14' _ ?_, hrun, hended, _, _, rfl, ⟨rfl, N14, e14⟩, ⟨_, rfl⟩, hW, hsame.mono (by decide) (by decide)⟩
    show Steps p.tables e below (T14.setTop (mkF m 152 #[.val (.int p1)] [(.int (own_in p1 (720896 : Int32) (786429 : Int32)))])) _
    refine XS.ifYes X14.here hx rfl (pc0 := 152) (pc' := 188) rfl (hb hby d_reference_152) rfl ((if0 _ _).trans (feq hc152).2) (by decide) (by decide) ?_
    show Steps p.tables e below (T14.setTop (mkF m 188 #[.val (.int p1)] [])) _
    refine XS.iconst X14.here hx rfl (hb hby d_reference_188) ?_
    show Steps p.tables e below (T14.setTop (mkF m 189 #[.val (.int p1)] [(.int (1 : Int32))])) _
    refine XS.goto X14.here hx rfl (pc0 := 189) (pc' := 193) rfl (hb hby d_reference_189) (by decide) (by decide) ?_
    show Steps p.tables e below (T14.setTop (mkF m 193 #[.val (.int p1)] [(.int (1 : Int32))])) _
    have hv : own_r p1 = 1 := by
      have q := own_in1 hc152
      rw [show ((720896 : Int32)).toInt = 720896 from by decide, show ((786429 : Int32)).toInt = 786429 from by decide] at q
      have hR : own_R p1.toInt = true := by
        simp only [own_R, Bool.or_eq_true, Bool.and_eq_true, decide_eq_true_eq]
        omega
      simp only [own_r, hR]; rfl
    rw [hv] at hr
    exact retN X14 hx (t := .boolean) Bd.returns (by simp) (hb hby d_reference_193) hr
  have q14 := own_in0 hc152
  rw [show ((720896 : Int32)).toInt = 720896 from by decide, show ((786429 : Int32)).toInt = 786429 from by decide] at q14
  have P14 : ∀ t, Steps p.tables e below (T14.setTop (mkF m 155 #[.val (.int p1)] [])) t → Steps p.tables e below (s₁.setTop (entryFrame m #[(.int p1)] 1)) t := by
    intro t k
    refine P14' t ?_
    show Steps p.tables e below (T14.setTop (mkF m 152 #[.val (.int p1)] [(.int (own_in p1 (720896 : Int32) (786429 : Int32)))])) _
    refine XS.ifNo X14.here hx rfl (hb hby d_reference_152) rfl ((if0 _ _).trans (teq hc152).2) ?_
    exact k
  obtain ⟨_, _, ⟨T15, L15, k15, n15⟩, -, X15, ⟨Lc15, hQ15, l15, y15, z15⟩, st15⟩ := Jvm.LawKit.callS X14 hx (y := (⟨"com/example/sagoma/sagoma/format/Rfc3986IsUcsCharPinLaw", "in", "(III)Z"⟩ : MethodName)) hown (mvT hZ (hw _ (List.mem_of_getElem? (i := 12) rfl))) (mvT hZ (hw _ (List.mem_of_getElem? (i := 13) rfl))) (mvT hZ (hw _ (List.mem_of_getElem? (i := 9) rfl))) (mvT hZ (hw _ (List.mem_of_getElem? (i := 14) rfl))) (by decide) (backOf (W := 0) (rm_in l Z a0 hw [] p1 (786432 : Int32) (851965 : Int32) h0 n0) hZ (hw _ (List.mem_of_getElem? (i := 14) rfl)) (hw _ (List.mem_of_getElem? (i := 9) rfl)) (by decide) (by decide)) (g := (mkF m 160 #[.val (.int p1)] [(.int (851965 : Int32)), (.int (786432 : Int32)), (.int p1)])) rfl (by rw [hml]; rfl) (argsL := [(.int p1), (.int (786432 : Int32)), (.int (851965 : Int32))]) (rest := []) (lenOf pd_3 rfl) rfl (by show 2 * 0 + _ ≤ _; exact Nat.le_of_eq rfl) (hb hby d_reference_160) (fun _ _ => ⟨rfl, e14, (by decide : 0 + 0 ≤ _), (by decide : 0 + 0 ≤ _)⟩)
  dsimp only [Pt.U, Pt.locs, Pt.cells, Pt.slots] at X15 l15 y15 z15 st15 hQ15
  subst l15 y15 z15
  obtain ⟨rfl, N15q, e15⟩ := hQ15
  have N15 := Fr.app N14 N15q
  have P15' : ∀ t, Steps p.tables e below (T15.setTop (mkF m 163 #[.val (.int p1)] [(.int (own_in p1 (786432 : Int32) (851965 : Int32)))])) t → Steps p.tables e below (s₁.setTop (entryFrame m #[(.int p1)] 1)) t := by
    intro t k
    refine P14 t ?_
    show Steps p.tables e below (T14.setTop (mkF m 155 #[.val (.int p1)] [])) _
    refine XS.iloadN X14.here hx rfl (hb hby d_reference_155) rfl ?_
    show Steps p.tables e below (T14.setTop (mkF m 156 #[.val (.int p1)] [(.int p1)])) _
    refine Jvm.Stand.ldcI X14 hx hown (mvT hZ (hw _ (List.mem_of_getElem? (i := 41) rfl))) rfl (hb hby d_reference_156) ?_
    show Steps p.tables e below (T14.setTop (mkF m 158 #[.val (.int p1)] [(.int (786432 : Int32)), (.int p1)])) _
    refine Jvm.Stand.ldcI X14 hx hown (mvT hZ (hw _ (List.mem_of_getElem? (i := 42) rfl))) rfl (hb hby d_reference_158) ?_
    refine st15 _ ?_
    exact k
  by_cases hc163 : (own_in p1 (786432 : Int32) (851965 : Int32)) = (0 : Int32)
  rotate_left
  · obtain ⟨fs, hr, hrun, hended, hW, hsame⟩ := X15.leave (v := some (.int (own_r p1))) (fun h => by rw [Bd.returns] at h; cases h)
    refine ⟨_, _, P15' _ ?_, hrun, hended, _, _, rfl, ⟨rfl, N15, e15⟩, ⟨_, rfl⟩, hW, hsame.mono (by decide) (by decide)⟩
    show Steps p.tables e below (T15.setTop (mkF m 163 #[.val (.int p1)] [(.int (own_in p1 (786432 : Int32) (851965 : Int32)))])) _
    refine XS.ifYes X15.here hx rfl (pc0 := 163) (pc' := 188) rfl (hb hby d_reference_163) rfl ((if0 _ _).trans (feq hc163).2) (by decide) (by decide) ?_
    show Steps p.tables e below (T15.setTop (mkF m 188 #[.val (.int p1)] [])) _
    refine XS.iconst X15.here hx rfl (hb hby d_reference_188) ?_
    show Steps p.tables e below (T15.setTop (mkF m 189 #[.val (.int p1)] [(.int (1 : Int32))])) _
    refine XS.goto X15.here hx rfl (pc0 := 189) (pc' := 193) rfl (hb hby d_reference_189) (by decide) (by decide) ?_
    show Steps p.tables e below (T15.setTop (mkF m 193 #[.val (.int p1)] [(.int (1 : Int32))])) _
    have hv : own_r p1 = 1 := by
      have q := own_in1 hc163
      rw [show ((786432 : Int32)).toInt = 786432 from by decide, show ((851965 : Int32)).toInt = 851965 from by decide] at q
      have hR : own_R p1.toInt = true := by
        simp only [own_R, Bool.or_eq_true, Bool.and_eq_true, decide_eq_true_eq]
        omega
      simp only [own_r, hR]; rfl
    rw [hv] at hr
    exact retN X15 hx (t := .boolean) Bd.returns (by simp) (hb hby d_reference_193) hr
  have q15 := own_in0 hc163
  rw [show ((786432 : Int32)).toInt = 786432 from by decide, show ((851965 : Int32)).toInt = 851965 from by decide] at q15
  have P15 : ∀ t, Steps p.tables e below (T15.setTop (mkF m 166 #[.val (.int p1)] [])) t → Steps p.tables e below (s₁.setTop (entryFrame m #[(.int p1)] 1)) t := by
    intro t k
    refine P15' t ?_
    show Steps p.tables e below (T15.setTop (mkF m 163 #[.val (.int p1)] [(.int (own_in p1 (786432 : Int32) (851965 : Int32)))])) _
    refine XS.ifNo X15.here hx rfl (hb hby d_reference_163) rfl ((if0 _ _).trans (teq hc163).2) ?_
    exact k
  obtain ⟨_, _, ⟨T16, L16, k16, n16⟩, -, X16, ⟨Lc16, hQ16, l16, y16, z16⟩, st16⟩ := Jvm.LawKit.callS X15 hx (y := (⟨"com/example/sagoma/sagoma/format/Rfc3986IsUcsCharPinLaw", "in", "(III)Z"⟩ : MethodName)) hown (mvT hZ (hw _ (List.mem_of_getElem? (i := 12) rfl))) (mvT hZ (hw _ (List.mem_of_getElem? (i := 13) rfl))) (mvT hZ (hw _ (List.mem_of_getElem? (i := 9) rfl))) (mvT hZ (hw _ (List.mem_of_getElem? (i := 14) rfl))) (by decide) (backOf (W := 0) (rm_in l Z a0 hw [] p1 (851968 : Int32) (917501 : Int32) h0 n0) hZ (hw _ (List.mem_of_getElem? (i := 14) rfl)) (hw _ (List.mem_of_getElem? (i := 9) rfl)) (by decide) (by decide)) (g := (mkF m 171 #[.val (.int p1)] [(.int (917501 : Int32)), (.int (851968 : Int32)), (.int p1)])) rfl (by rw [hml]; rfl) (argsL := [(.int p1), (.int (851968 : Int32)), (.int (917501 : Int32))]) (rest := []) (lenOf pd_3 rfl) rfl (by show 2 * 0 + _ ≤ _; exact Nat.le_of_eq rfl) (hb hby d_reference_171) (fun _ _ => ⟨rfl, e15, (by decide : 0 + 0 ≤ _), (by decide : 0 + 0 ≤ _)⟩)
  dsimp only [Pt.U, Pt.locs, Pt.cells, Pt.slots] at X16 l16 y16 z16 st16 hQ16
  subst l16 y16 z16
  obtain ⟨rfl, N16q, e16⟩ := hQ16
  have N16 := Fr.app N15 N16q
  have P16' : ∀ t, Steps p.tables e below (T16.setTop (mkF m 174 #[.val (.int p1)] [(.int (own_in p1 (851968 : Int32) (917501 : Int32)))])) t → Steps p.tables e below (s₁.setTop (entryFrame m #[(.int p1)] 1)) t := by
    intro t k
    refine P15 t ?_
    show Steps p.tables e below (T15.setTop (mkF m 166 #[.val (.int p1)] [])) _
    refine XS.iloadN X15.here hx rfl (hb hby d_reference_166) rfl ?_
    show Steps p.tables e below (T15.setTop (mkF m 167 #[.val (.int p1)] [(.int p1)])) _
    refine Jvm.Stand.ldcI X15 hx hown (mvT hZ (hw _ (List.mem_of_getElem? (i := 43) rfl))) rfl (hb hby d_reference_167) ?_
    show Steps p.tables e below (T15.setTop (mkF m 169 #[.val (.int p1)] [(.int (851968 : Int32)), (.int p1)])) _
    refine Jvm.Stand.ldcI X15 hx hown (mvT hZ (hw _ (List.mem_of_getElem? (i := 44) rfl))) rfl (hb hby d_reference_169) ?_
    refine st16 _ ?_
    exact k
  by_cases hc174 : (own_in p1 (851968 : Int32) (917501 : Int32)) = (0 : Int32)
  rotate_left
  · obtain ⟨fs, hr, hrun, hended, hW, hsame⟩ := X16.leave (v := some (.int (own_r p1))) (fun h => by rw [Bd.returns] at h; cases h)
    refine ⟨_, _, P16' _ ?_, hrun, hended, _, _, rfl, ⟨rfl, N16, e16⟩, ⟨_, rfl⟩, hW, hsame.mono (by decide) (by decide)⟩
    show Steps p.tables e below (T16.setTop (mkF m 174 #[.val (.int p1)] [(.int (own_in p1 (851968 : Int32) (917501 : Int32)))])) _
    refine XS.ifYes X16.here hx rfl (pc0 := 174) (pc' := 188) rfl (hb hby d_reference_174) rfl ((if0 _ _).trans (feq hc174).2) (by decide) (by decide) ?_
    show Steps p.tables e below (T16.setTop (mkF m 188 #[.val (.int p1)] [])) _
    refine XS.iconst X16.here hx rfl (hb hby d_reference_188) ?_
    show Steps p.tables e below (T16.setTop (mkF m 189 #[.val (.int p1)] [(.int (1 : Int32))])) _
    refine XS.goto X16.here hx rfl (pc0 := 189) (pc' := 193) rfl (hb hby d_reference_189) (by decide) (by decide) ?_
    show Steps p.tables e below (T16.setTop (mkF m 193 #[.val (.int p1)] [(.int (1 : Int32))])) _
    have hv : own_r p1 = 1 := by
      have q := own_in1 hc174
      rw [show ((851968 : Int32)).toInt = 851968 from by decide, show ((917501 : Int32)).toInt = 917501 from by decide] at q
      have hR : own_R p1.toInt = true := by
        simp only [own_R, Bool.or_eq_true, Bool.and_eq_true, decide_eq_true_eq]
        omega
      simp only [own_r, hR]; rfl
    rw [hv] at hr
    exact retN X16 hx (t := .boolean) Bd.returns (by simp) (hb hby d_reference_193) hr
  have q16 := own_in0 hc174
  rw [show ((851968 : Int32)).toInt = 851968 from by decide, show ((917501 : Int32)).toInt = 917501 from by decide] at q16
  have P16 : ∀ t, Steps p.tables e below (T16.setTop (mkF m 177 #[.val (.int p1)] [])) t → Steps p.tables e below (s₁.setTop (entryFrame m #[(.int p1)] 1)) t := by
    intro t k
    refine P16' t ?_
    show Steps p.tables e below (T16.setTop (mkF m 174 #[.val (.int p1)] [(.int (own_in p1 (851968 : Int32) (917501 : Int32)))])) _
    refine XS.ifNo X16.here hx rfl (hb hby d_reference_174) rfl ((if0 _ _).trans (teq hc174).2) ?_
    exact k
  obtain ⟨_, _, ⟨T17, L17, k17, n17⟩, -, X17, ⟨Lc17, hQ17, l17, y17, z17⟩, st17⟩ := Jvm.LawKit.callS X16 hx (y := (⟨"com/example/sagoma/sagoma/format/Rfc3986IsUcsCharPinLaw", "in", "(III)Z"⟩ : MethodName)) hown (mvT hZ (hw _ (List.mem_of_getElem? (i := 12) rfl))) (mvT hZ (hw _ (List.mem_of_getElem? (i := 13) rfl))) (mvT hZ (hw _ (List.mem_of_getElem? (i := 9) rfl))) (mvT hZ (hw _ (List.mem_of_getElem? (i := 14) rfl))) (by decide) (backOf (W := 0) (rm_in l Z a0 hw [] p1 (921600 : Int32) (983037 : Int32) h0 n0) hZ (hw _ (List.mem_of_getElem? (i := 14) rfl)) (hw _ (List.mem_of_getElem? (i := 9) rfl)) (by decide) (by decide)) (g := (mkF m 182 #[.val (.int p1)] [(.int (983037 : Int32)), (.int (921600 : Int32)), (.int p1)])) rfl (by rw [hml]; rfl) (argsL := [(.int p1), (.int (921600 : Int32)), (.int (983037 : Int32))]) (rest := []) (lenOf pd_3 rfl) rfl (by show 2 * 0 + _ ≤ _; exact Nat.le_of_eq rfl) (hb hby d_reference_182) (fun _ _ => ⟨rfl, e16, (by decide : 0 + 0 ≤ _), (by decide : 0 + 0 ≤ _)⟩)
  dsimp only [Pt.U, Pt.locs, Pt.cells, Pt.slots] at X17 l17 y17 z17 st17 hQ17
  subst l17 y17 z17
  obtain ⟨rfl, N17q, e17⟩ := hQ17
  have N17 := Fr.app N16 N17q
  have P17' : ∀ t, Steps p.tables e below (T17.setTop (mkF m 185 #[.val (.int p1)] [(.int (own_in p1 (921600 : Int32) (983037 : Int32)))])) t → Steps p.tables e below (s₁.setTop (entryFrame m #[(.int p1)] 1)) t := by
    intro t k
    refine P16 t ?_
    show Steps p.tables e below (T16.setTop (mkF m 177 #[.val (.int p1)] [])) _
    refine XS.iloadN X16.here hx rfl (hb hby d_reference_177) rfl ?_
    show Steps p.tables e below (T16.setTop (mkF m 178 #[.val (.int p1)] [(.int p1)])) _
    refine Jvm.Stand.ldcI X16 hx hown (mvT hZ (hw _ (List.mem_of_getElem? (i := 45) rfl))) rfl (hb hby d_reference_178) ?_
    show Steps p.tables e below (T16.setTop (mkF m 180 #[.val (.int p1)] [(.int (921600 : Int32)), (.int p1)])) _
    refine Jvm.Stand.ldcI X16 hx hown (mvT hZ (hw _ (List.mem_of_getElem? (i := 46) rfl))) rfl (hb hby d_reference_180) ?_
    refine st17 _ ?_
    exact k
  by_cases hc185 : (own_in p1 (921600 : Int32) (983037 : Int32)) = (0 : Int32)
  · have q17 := own_in0 hc185
    rw [show ((921600 : Int32)).toInt = 921600 from by decide, show ((983037 : Int32)).toInt = 983037 from by decide] at q17
    obtain ⟨fs, hr, hrun, hended, hW, hsame⟩ := X17.leave (v := some (.int (own_r p1))) (fun h => by rw [Bd.returns] at h; cases h)
    refine ⟨_, _, P17' _ ?_, hrun, hended, _, _, rfl, ⟨rfl, N17, e17⟩, ⟨_, rfl⟩, hW, hsame.mono (by decide) (by decide)⟩
    show Steps p.tables e below (T17.setTop (mkF m 185 #[.val (.int p1)] [(.int (own_in p1 (921600 : Int32) (983037 : Int32)))])) _
    refine XS.ifYes X17.here hx rfl (pc0 := 185) (pc' := 192) rfl (hb hby d_reference_185) rfl ((if0 _ _).trans (teq hc185).1) (by decide) (by decide) ?_
    show Steps p.tables e below (T17.setTop (mkF m 192 #[.val (.int p1)] [])) _
    refine XS.iconst X17.here hx rfl (hb hby d_reference_192) ?_
    show Steps p.tables e below (T17.setTop (mkF m 193 #[.val (.int p1)] [(.int (0 : Int32))])) _
    have hv : own_r p1 = 0 := by
      have hR : own_R p1.toInt = false := by
        simp only [own_R, Bool.or_eq_false_iff, Bool.and_eq_false_iff, decide_eq_false_iff_not]
        omega
      simp only [own_r, hR]; rfl
    rw [hv] at hr
    exact retN X17 hx (t := .boolean) Bd.returns (by simp) (hb hby d_reference_193) hr
  · obtain ⟨fs, hr, hrun, hended, hW, hsame⟩ := X17.leave (v := some (.int (own_r p1))) (fun h => by rw [Bd.returns] at h; cases h)
    refine ⟨_, _, P17' _ ?_, hrun, hended, _, _, rfl, ⟨rfl, N17, e17⟩, ⟨_, rfl⟩, hW, hsame.mono (by decide) (by decide)⟩
    show Steps p.tables e below (T17.setTop (mkF m 185 #[.val (.int p1)] [(.int (own_in p1 (921600 : Int32) (983037 : Int32)))])) _
    refine XS.ifNo X17.here hx rfl (hb hby d_reference_185) rfl ((if0 _ _).trans (feq hc185).1) ?_
    show Steps p.tables e below (T17.setTop (mkF m 188 #[.val (.int p1)] [])) _
    refine XS.iconst X17.here hx rfl (hb hby d_reference_188) ?_
    show Steps p.tables e below (T17.setTop (mkF m 189 #[.val (.int p1)] [(.int (1 : Int32))])) _
    refine XS.goto X17.here hx rfl (pc0 := 189) (pc' := 193) rfl (hb hby d_reference_189) (by decide) (by decide) ?_
    show Steps p.tables e below (T17.setTop (mkF m 193 #[.val (.int p1)] [(.int (1 : Int32))])) _
    have hv : own_r p1 = 1 := by
      have q := own_in1 hc185
      rw [show ((921600 : Int32)).toInt = 921600 from by decide, show ((983037 : Int32)).toInt = 983037 from by decide] at q
      have hR : own_R p1.toInt = true := by
        simp only [own_R, Bool.or_eq_true, Bool.and_eq_true, decide_eq_true_eq]
        omega
      simp only [own_r, hR]; rfl
    rw [hv] at hr
    exact retN X17 hx (t := .boolean) Bd.returns (by simp) (hb hby d_reference_193) hr
set_option maxRecDepth 65536 in
set_option maxHeartbeats 40000000 in
theorem rm0 (l : Launch) (Z : State) (a0 : Array Value) (hw : ∀ d ∈ tables_1, d.before a0 Z = true) (ws : List Jvm.Cond) (p1 : Int32) (p2 : Int32) (h0 : Heap) (n0 : Nat)  :
    MetFree l x (head1 (Jvm.Cond.code x code maxLocals ret :: ws) room_1) (fun a U => a = #[(.int p1), (.int p2)] ∧ Z.Warmed39 U.vm ∧ U.heap = h0) (fun _ _ _ _ _ => True) (fun _ U o U' => ∃ v L, o = .returned v ∧ (v = some (.int 1) ∧ Fr n0 L) ∧ FrameEnd U o U' L room_1.cells room_1.slots) := by
  refine MetFree.of_bodySF (plainFor_of_name pn_0) hisR ?_
  intro p e s m args below meth c s₁ Bd hml0 hP hK
  obtain ⟨rfl, hZ, hh⟩ := hP
  have hx := Bd.exec
  have hby := Bd.bytes
  have hml : c.maxLocals = 3 := hml0
  have hown : s.vm.findClass "com/example/sagoma/sagoma/format/Rfc3986IsUcsCharPinLaw" = some m.cls := findClass_of_methodNamed Bd.named
  have hnm := (name_of_methodNamed Bd.named Bd.method).1
  have X0 : Stand p l e room_1 s m #[(.int p1), (.int p2)] below meth c s₁ [] 0 0 := Stand.of_body Bd
  have e0 : s₁.heap = h0 := by rw [← hh, Bd.state]; rfl
  have N0 := Fr.nil n0
  have pre0 : ∀ t, Steps p.tables e below (s₁.setTop (mkF m 0 #[.val (.int p1), .val (.int p2), .unset] [])) t → Steps p.tables e below (s₁.setTop (entryFrame m #[(.int p1), (.int p2)] maxLocals)) t := fun t k => castTop (ef_0 m p1 p2) k
  obtain ⟨z, kA⟩ : ∃ z : Int32, ∀ t, Steps p.tables e below (s₁.setTop (mkF m 15 #[.val (.int p1), .val (.int p2), .val (.int z)] [])) t → Steps p.tables e below (s₁.setTop (mkF m 0 #[.val (.int p1), .val (.int p2), .unset] [])) t := by
    have pre0 : ∀ t, Steps p.tables e below (s₁.setTop (mkF m 3 #[.val (.int p1), .val (.int p2), .unset] [(.int (p2 &&& (1 : Int32)))])) t → Steps p.tables e below (s₁.setTop (mkF m 0 #[.val (.int p1), .val (.int p2), .unset] [])) t := by
      intro t k
      show Steps p.tables e below (s₁.setTop (mkF m 0 #[.val (.int p1), .val (.int p2), .unset] [])) _
      refine XS.iloadN X0.here hx rfl (hb hby at_0) rfl ?_
      show Steps p.tables e below (s₁.setTop (mkF m 1 #[.val (.int p1), .val (.int p2), .unset] [(.int p2)])) _
      refine XS.iconst X0.here hx rfl (hb hby at_1) ?_
      show Steps p.tables e below (s₁.setTop (mkF m 2 #[.val (.int p1), .val (.int p2), .unset] [(.int (1 : Int32)), (.int p2)])) _
      refine XS.iand X0.here hx rfl (hb hby at_2) rfl ?_
      exact k
    by_cases hc3 : (p2 &&& (1 : Int32)) = (0 : Int32)
    · obtain ⟨z, k⟩ : ∃ z : Int32, ∀ t, Steps p.tables e below (s₁.setTop (mkF m 15 #[.val (.int p1), .val (.int p2), .val (.int z)] [])) t → Steps p.tables e below (s₁.setTop (mkF m 10 #[.val (.int p1), .val (.int p2), .unset] [])) t := by
        refine ⟨(p1 &&& (2097151 : Int32)), fun t k => ?_⟩
        show Steps p.tables e below (s₁.setTop (mkF m 10 #[.val (.int p1), .val (.int p2), .unset] [])) _
        refine XS.iloadN X0.here hx rfl (hb hby at_10) rfl ?_
        show Steps p.tables e below (s₁.setTop (mkF m 11 #[.val (.int p1), .val (.int p2), .unset] [(.int p1)])) _
        refine Jvm.Stand.ldcI X0 hx hown (mvT hZ (hw _ (List.mem_of_getElem? (i := 47) rfl))) rfl (hb hby at_11) ?_
        show Steps p.tables e below (s₁.setTop (mkF m 13 #[.val (.int p1), .val (.int p2), .unset] [(.int (2097151 : Int32)), (.int p1)])) _
        refine XS.iand X0.here hx rfl (hb hby at_13) rfl ?_
        show Steps p.tables e below (s₁.setTop (mkF m 14 #[.val (.int p1), .val (.int p2), .unset] [(.int (p1 &&& (2097151 : Int32)))])) _
        refine XS.istoreN X0.here hx rfl (hb hby at_14) rfl (l' := #[.val (.int p1), .val (.int p2), .val (.int (p1 &&& (2097151 : Int32)))]) rfl ?_
        exact k
      refine ⟨z, fun t q => pre0 t ?_⟩
      show Steps p.tables e below (s₁.setTop (mkF m 3 #[.val (.int p1), .val (.int p2), .unset] [(.int (p2 &&& (1 : Int32)))])) _
      refine XS.ifYes X0.here hx rfl (pc0 := 3) (pc' := 10) rfl (hb hby at_3) rfl ((if0 _ _).trans (teq hc3).1) (by decide) (by decide) ?_
      exact k t q
    · obtain ⟨z, k⟩ : ∃ z : Int32, ∀ t, Steps p.tables e below (s₁.setTop (mkF m 15 #[.val (.int p1), .val (.int p2), .val (.int z)] [])) t → Steps p.tables e below (s₁.setTop (mkF m 6 #[.val (.int p1), .val (.int p2), .unset] [])) t := by
        refine ⟨p1, fun t k => ?_⟩
        show Steps p.tables e below (s₁.setTop (mkF m 6 #[.val (.int p1), .val (.int p2), .unset] [])) _
        refine XS.iloadN X0.here hx rfl (hb hby at_6) rfl ?_
        show Steps p.tables e below (s₁.setTop (mkF m 7 #[.val (.int p1), .val (.int p2), .unset] [(.int p1)])) _
        refine XS.goto X0.here hx rfl (pc0 := 7) (pc' := 14) rfl (hb hby at_7) (by decide) (by decide) ?_
        show Steps p.tables e below (s₁.setTop (mkF m 14 #[.val (.int p1), .val (.int p2), .unset] [(.int p1)])) _
        refine XS.istoreN X0.here hx rfl (hb hby at_14) rfl (l' := #[.val (.int p1), .val (.int p2), .val (.int p1)]) rfl ?_
        exact k
      refine ⟨z, fun t q => pre0 t ?_⟩
      show Steps p.tables e below (s₁.setTop (mkF m 3 #[.val (.int p1), .val (.int p2), .unset] [(.int (p2 &&& (1 : Int32)))])) _
      refine XS.ifNo X0.here hx rfl (hb hby at_3) rfl ((if0 _ _).trans (feq hc3).1) ?_
      exact k t q
  obtain ⟨_, _, ⟨T1, L1, k1, n1⟩, -, X1, ⟨Lc1, hQ1, l1, y1, z1⟩, st1⟩ := Jvm.LawKit.callS X0 hx (y := (⟨"com/example/sagoma/sagoma/format/Rfc3986", "isUcsChar", "(I)Z"⟩ : MethodName)) hown (mvT hZ (hw _ (List.mem_of_getElem? (i := 0) rfl))) (mvT hZ (hw _ (List.mem_of_getElem? (i := 1) rfl))) (mvT hZ (hw _ (List.mem_of_getElem? (i := 2) rfl))) (mvT hZ (hw _ (List.mem_of_getElem? (i := 3) rfl))) (by decide) (backOf (W := 0) (rm_u l Z a0 hw [] z h0 n0) hZ (hw _ (List.mem_of_getElem? (i := 3) rfl)) (hw _ (List.mem_of_getElem? (i := 2) rfl)) (by decide) (by decide)) (g := (mkF m 16 #[.val (.int p1), .val (.int p2), .val (.int z)] [(.int z)])) rfl (by rw [hml]; rfl) (argsL := [(.int z)]) (rest := []) (lenOf pd_1 rfl) rfl (by show 2 * 0 + _ ≤ _; exact Nat.le_of_eq rfl) (hb hby at_16) (fun _ _ => ⟨rfl, e0, (by decide : 0 + 0 ≤ _), (by decide : 0 + 0 ≤ _)⟩)
  dsimp only [Pt.U, Pt.locs, Pt.cells, Pt.slots] at X1 l1 y1 z1 st1 hQ1
  subst l1 y1 z1
  obtain ⟨rfl, N1q, e1⟩ := hQ1
  have N1 := Fr.app N0 N1q
  obtain ⟨_, _, ⟨T2, L2, k2, n2⟩, -, X2, ⟨Lc2, hQ2, l2, y2, z2⟩, st2⟩ := Jvm.LawKit.callS X1 hx (y := (⟨"com/example/sagoma/sagoma/format/Rfc3986IsUcsCharPinLaw", "reference", "(I)Z"⟩ : MethodName)) hown (mvT hZ (hw _ (List.mem_of_getElem? (i := 7) rfl))) (mvT hZ (hw _ (List.mem_of_getElem? (i := 8) rfl))) (mvT hZ (hw _ (List.mem_of_getElem? (i := 9) rfl))) (mvT hZ (hw _ (List.mem_of_getElem? (i := 10) rfl))) (by decide) (backOf (W := 1) (rm_r l Z a0 hw [] z h0 n0) hZ (hw _ (List.mem_of_getElem? (i := 10) rfl)) (hw _ (List.mem_of_getElem? (i := 9) rfl)) (by decide) (by decide)) (g := (mkF m 20 #[.val (.int p1), .val (.int p2), .val (.int z)] [(.int z), (.int (own_u z))])) rfl (by rw [hml]; rfl) (argsL := [(.int z)]) (rest := [(.int (own_u z))]) (lenOf pd_1 rfl) rfl (by show 2 * 0 + _ ≤ _; exact Nat.le_of_eq rfl) (hb hby at_20) (fun _ _ => ⟨rfl, e1, (by decide : 0 + 0 ≤ _), (by decide : 0 + 0 ≤ _)⟩)
  dsimp only [Pt.U, Pt.locs, Pt.cells, Pt.slots] at X2 l2 y2 z2 st2 hQ2
  subst l2 y2 z2
  obtain ⟨rfl, N2q, e2⟩ := hQ2
  have N2 := Fr.app N1 N2q
  obtain ⟨fs, hr, hrun, hended, hW, hsame⟩ := X2.leave (v := some (.int (1 : Int32))) (fun h => by rw [Bd.returns] at h; cases h)
  refine ⟨_, _, pre0 _ (kA _ ?_), hrun, hended, _, _, rfl, ⟨rfl, N2⟩, ⟨_, rfl⟩, hW, hsame.mono (by decide) (by decide)⟩
  show Steps p.tables e below (s₁.setTop (mkF m 15 #[.val (.int p1), .val (.int p2), .val (.int z)] [])) _
  refine XS.iloadN X0.here hx rfl (hb hby at_15) rfl ?_
  refine st1 _ ?_
  show Steps p.tables e below (T1.setTop (mkF m 19 #[.val (.int p1), .val (.int p2), .val (.int z)] [(.int (own_u z))])) _
  refine XS.iloadN X1.here hx rfl (hb hby at_19) rfl ?_
  refine st2 _ ?_
  have hc23 : (own_u z) = (own_r z) := by simp only [own_u, own_r, own_same]
  show Steps p.tables e below (T2.setTop (mkF m 23 #[.val (.int p1), .val (.int p2), .val (.int z)] [(.int (own_r z)), (.int (own_u z))])) _
  refine XS.icmpNo X2.here hx rfl (hb hby at_23) rfl (teq hc23).2 ?_
  show Steps p.tables e below (T2.setTop (mkF m 26 #[.val (.int p1), .val (.int p2), .val (.int z)] [])) _
  refine XS.iconst X2.here hx rfl (hb hby at_26) ?_
  show Steps p.tables e below (T2.setTop (mkF m 27 #[.val (.int p1), .val (.int p2), .val (.int z)] [(.int (1 : Int32))])) _
  refine XS.goto X2.here hx rfl (pc0 := 27) (pc' := 31) rfl (hb hby at_27) (by decide) (by decide) ?_
  show Steps p.tables e below (T2.setTop (mkF m 31 #[.val (.int p1), .val (.int p2), .val (.int z)] [(.int (1 : Int32))])) _
  exact retN X2 hx (t := .boolean) Bd.returns (by simp) (hb hby at_31) hr
set_option maxRecDepth 65536 in
set_option maxHeartbeats 40000000 in
theorem comes_1 {Post : Tables → Env → Array Value → State → Outcome → State → Prop} (hpost : ∀ tb e args s v u, (limb_1_1.after args s (.returned v) u = true ∧ limb_1_2.after args s (.returned v) u = true ∧ True) → FrameEnd s (.returned v) u (Jvm.fieldLocs frame_1_writes args s ++ Jvm.arrayLocs frame_1_arrays args s ++ Jvm.staticLocs frame_1_statics s) 0 0 → Post tb e args s (.returned v) u) :
    ArmFor flags0 classFile x code maxLocals ret World_1 tables_1 room_1 Calls_1 rest_1 Pre_1 Post := by
  intro l hfl _ _ p e ha hc hk s m args below hf hA hF happ hP
  obtain ⟨hcalls, hrest, hpre⟩ := hP
  obtain ⟨-, -, -, hnamed, -, -, -, hat⟩ := (Spec.applies_iff hf).mp happ
  obtain ⟨hg, hn⟩ := and_e (Cond.before_iff.mp (show (Jvm.Cond.and given_1 narrow_1).before args s = true from hpre))
  obtain ⟨gc, gr0⟩ := and_e hg
  obtain ⟨g0, gr1⟩ := and_e gr0
  obtain ⟨w0, w1, rfl⟩ : ∃ w0 w1 : Value, args = #[w0, w1] := by
    have hs : args.size = 2 := by simpa [Cond.value, given_1] using gc
    obtain ⟨L⟩ := args
    match L, hs with
    | [w0, w1], _ => exact ⟨w0, w1, rfl⟩
  have hw := fun d (hd : d ∈ tables_1) => atoms_spec (ws := Jvm.Cond.code x code maxLocals ret :: tables_1) hat d (List.mem_cons_of_mem _ hd)
  obtain ⟨i0, ei0⟩ := is_v g0
  obtain rfl : w0 = (.int i0) := Option.some.inj ei0
  obtain ⟨i1, ei1⟩ := is_v gr1
  obtain rfl : w1 = (.int i1) := Option.some.inj ei1
  obtain ⟨n, o, h1, h2, h3, _, L, rfl, ⟨rfl, N⟩, hq⟩ := rm0 l s _ hw tables_1 i0 i1 s.heap s.heap.size p e ha hc hk s m _ below hf ((Spec.applies_iff_loose hf).mp happ).1 ⟨rfl, State.Warmed39.refl s, rfl⟩ trivial
  refine ⟨n, _, h1, h2, h3, hpost _ _ _ _ _ _ ⟨Cond.after_iff.mpr rfl, Cond.after_iff.mpr (eq_i res_at (Term.int_eval (1)) rfl), trivial⟩ ⟨hq.1, hq.2.1, (hq.2.2.sift fun y hy => Or.inr (N y hy)).mono (by decide) (by decide)⟩⟩
theorem main_1_1 : Claimed_1_1 := comes_1 fun _ _ _ _ _ _ h hF => ⟨h.1, hF⟩
theorem main_1_2 : Claimed_1_2 := comes_1 fun _ _ _ _ _ _ h hF => ⟨h.2.1, hF⟩
end Jvm.Pilot.@@N@@
namespace Jvm.Pilot.@@N@@
open Jvm Jvm.ClassFile Sem Op Lib Jvm.Free Jvm.Stand Jvm.Pilot.@@N@@.Jvm.D
/-! MADE BY PROGRAM (witnessworld.py) out of the Statement's table words and the real class files: 9 classes; the members and pool entries that the words name. The judged class is class 1, her method 3. -/
namespace start1
open Jvm.ClassFile
def u (s : String) : CpInfo := .utf8 (stringToUtf16 s)
/-- a pool by its gaps: so many unusable entries, then the entry; so many at the end -/
def gap : Nat → List CpInfo → List CpInfo
  | 0, r => r
  | n + 1, r => .unusable :: gap n r
def poolList (es : List (Nat × CpInfo)) (last : Nat) : List CpInfo := es.foldr (fun e r => gap e.1 (e.2 :: r)) (gap last [])
def pool (es : List (Nat × CpInfo)) (last : Nat) : Array CpInfo := ⟨poolList es last⟩
def fileOf (pool : Array CpInfo) (this : Nat) (attrs : Array Attribute := #[]) (ms : Array MethodInfo := #[]) (fl : Nat := 33) (sup : Nat := 0) (ifs : Array Nat := #[]) (fds : Array FieldInfo := #[]) : ClassFile where
  minorVersion := 0
  majorVersion := 65
  constantPool := pool
  accessFlags := fl
  thisClass := this
  superClass := sup
  interfaces := ifs
  fields := fds
  methods := ms
  attributes := attrs
def plain (name : String) (sup : Option ClassId) : Class where
  name := name
  kind := .ordinary
  loader := none
  accessFlags := 33
  super := sup
  interfaces := #[]
  cf := none
  fields := #[]
  methods := #[]
  instanceTypes := #[]
  staticTypes := #[]
  resolved := #[]
  callSites := []
  init := .initialized
  statics := none
  mirror := none

def pool0 : Array CpInfo := pool [(5, u "<init>"), (0, u "()V"), (1, .class_ 10), (1, u "java/lang/Object")] 113

def k0m0 : Method := { name := "<init>", desc := "()V", sig := { parameters := [], returnType := none }, accessFlags := 1, code := none }
/-- java/lang/Object -/
def k0 : Class := { plain "java/lang/Object" none with
  accessFlags := 33
  interfaces := #[]
  cf := some (fileOf pool0 8 #[] #[{ accessFlags := 1, nameIndex := 5, descriptorIndex := 6, attributes := #[] }] 33 0 #[] #[])
  fields := #[]
  methods := #[k0m0]
  instanceTypes := #[]
  staticTypes := #[]
  resolved := Array.replicate 124 none
  statics := none }

def pool1 : Array CpInfo := pool [(2, .class_ 4), (1, u "java/lang/Object"), (0, u "<init>"), (0, u "()V"), (0, .integer 55295), (0, .methodref 9 10), (0, .class_ 11), (0, .nameAndType 12 13), (0, u "com/example/sagoma/sagoma/format/Rfc3986IsUcsCharPinLaw"), (0, u "in"), (0, u "(III)Z"), (0, .integer 63744), (0, .integer 64975), (0, .integer 65008), (0, .integer 65519), (0, .integer 65536), (0, .integer 131069), (0, .integer 131072), (0, .integer 196605), (0, .integer 196608), (0, .integer 262141), (0, .integer 262144), (0, .integer 327677), (0, .integer 327680), (0, .integer 393213), (0, .integer 393216), (0, .integer 458749), (0, .integer 458752), (0, .integer 524285), (0, .integer 524288), (0, .integer 589821), (0, .integer 589824), (0, .integer 655357), (0, .integer 655360), (0, .integer 720893), (0, .integer 720896), (0, .integer 786429), (0, .integer 786432), (0, .integer 851965), (0, .integer 851968), (0, .integer 917501), (0, .integer 921600), (0, .integer 983037), (0, .integer 2097151), (0, .methodref 48 49), (0, .class_ 50), (0, .nameAndType 51 52), (0, u "com/example/sagoma/sagoma/format/Rfc3986"), (0, u "isUcsChar"), (0, u "(I)Z"), (0, .methodref 9 54), (0, .nameAndType 55 52), (0, u "reference"), (3, u "law"), (0, u "(II)Z")] 2

def k1m0 : Method := { name := "<init>", desc := "()V", sig := { parameters := [], returnType := none }, accessFlags := 2, code := none }
def k1c1 : Code := { maxStack := 2, maxLocals := 3, code := method_2_code, exceptionTable := #[], attributes := #[] }
def k1m1 : Method := { name := "in", desc := "(III)Z", sig := { parameters := [.int, .int, .int], returnType := some .boolean }, accessFlags := 10, code := some k1c1 }
def k1c2 : Code := { maxStack := 3, maxLocals := 1, code := method_3_code, exceptionTable := #[], attributes := #[] }
def k1m2 : Method := { name := "reference", desc := "(I)Z", sig := { parameters := [.int], returnType := some .boolean }, accessFlags := 10, code := some k1c2 }
def k1c3 : Code := { maxStack := 2, maxLocals := 3, code := code, exceptionTable := #[], attributes := #[] }
def k1m3 : Method := { name := "law", desc := "(II)Z", sig := { parameters := [.int, .int], returnType := some .boolean }, accessFlags := 9, code := some k1c3 }
/-- com/example/sagoma/sagoma/format/Rfc3986IsUcsCharPinLaw -/
def k1 : Class := { plain "com/example/sagoma/sagoma/format/Rfc3986IsUcsCharPinLaw" (some 0) with
  accessFlags := 49
  interfaces := #[]
  cf := some (fileOf pool1 9 #[] #[{ accessFlags := 2, nameIndex := 5, descriptorIndex := 6, attributes := #[] }, { accessFlags := 10, nameIndex := 12, descriptorIndex := 13, attributes := #[] }, { accessFlags := 10, nameIndex := 55, descriptorIndex := 52, attributes := #[] }, { accessFlags := 9, nameIndex := 59, descriptorIndex := 60, attributes := #[] }] 49 2 #[] #[])
  fields := #[]
  methods := #[k1m0, k1m1, k1m2, k1m3]
  instanceTypes := #[]
  staticTypes := #[]
  resolved := Array.replicate 63 none
  statics := none }

def pool2 : Array CpInfo := pool [(2, .class_ 4), (1, u "java/lang/Object"), (0, u "<init>"), (0, u "()V"), (1, .class_ 10), (1, u "com/example/sagoma/sagoma/format/Rfc3986"), (24, .integer 55295), (0, .integer 63744), (0, .integer 64975), (0, .integer 65008), (0, .integer 65519), (0, .integer 65536), (0, .integer 983037), (0, .integer 65535), (0, .integer 65533), (0, .integer 917504), (0, .integer 921600), (19, u "(I)Z"), (11, .class_ 79), (1, u "com/example/sagoma/sagoma/format/Rfc3986$Component"), (64, u "Ljava/lang/String;"), (2, u "isUcsChar"), (8, u "SUB_DELIMITERS")] 14

def k2m0 : Method := { name := "<init>", desc := "()V", sig := { parameters := [], returnType := none }, accessFlags := 2, code := none }
def k2c1 : Code := { maxStack := 2, maxLocals := 1, code := prog_24_method_7_code, exceptionTable := #[], attributes := #[] }
def k2m1 : Method := { name := "isUcsChar", desc := "(I)Z", sig := { parameters := [.int], returnType := some .boolean }, accessFlags := 8, code := some k2c1 }
/-- com/example/sagoma/sagoma/format/Rfc3986 -/
def k2 : Class := { plain "com/example/sagoma/sagoma/format/Rfc3986" (some 0) with
  accessFlags := 49
  interfaces := #[]
  cf := some (fileOf pool2 8 #[.nestMembers #[77]] #[{ accessFlags := 2, nameIndex := 5, descriptorIndex := 6, attributes := #[] }, { accessFlags := 8, nameIndex := 147, descriptorIndex := 65, attributes := #[] }] 49 2 #[] #[{ accessFlags := 26, nameIndex := 156, descriptorIndex := 144, attributes := #[] }])
  fields := #[{ name := "SUB_DELIMITERS", type := (.object "java/lang/String"), accessFlags := 26, slot := 0, constantValue := 0 }]
  methods := #[k2m0, k2m1]
  instanceTypes := #[]
  staticTypes := #[(.object "java/lang/String")]
  resolved := Array.replicate 171 none
  statics := none }

def pool3 : Array CpInfo := pool [(1, u "java/lang/Cloneable"), (0, .class_ 1), (0, u "java/lang/Object"), (0, .class_ 3)] 3

/-- java/lang/Cloneable -/
def k3 : Class := { plain "java/lang/Cloneable" (some 0) with
  accessFlags := 1537
  interfaces := #[]
  cf := some (fileOf pool3 2 #[] #[] 1537 4 #[] #[])
  fields := #[]
  methods := #[]
  instanceTypes := #[]
  staticTypes := #[]
  resolved := Array.replicate 8 none
  statics := none }

def pool4 : Array CpInfo := pool [(1, u "java/io/Serializable"), (0, .class_ 1), (0, u "java/lang/Object"), (0, .class_ 3)] 3

/-- java/io/Serializable -/
def k4 : Class := { plain "java/io/Serializable" (some 0) with
  accessFlags := 1537
  interfaces := #[]
  cf := some (fileOf pool4 2 #[] #[] 1537 4 #[] #[])
  fields := #[]
  methods := #[]
  instanceTypes := #[]
  staticTypes := #[]
  resolved := Array.replicate 8 none
  statics := none }

/-- the primitive byte -/
def k5 : Class := { plain "byte" none with kind := .primitive 'B', accessFlags := 0x411 }
/-- [B -/
def k6 : Class := { plain "[B" (some 0) with kind := .array 5 .byte, interfaces := #[3, 4], accessFlags := 1041 }

/-- the primitive int -/
def k7 : Class := { plain "int" none with kind := .primitive 'I', accessFlags := 0x411 }
/-- [I -/
def k8 : Class := { plain "[I" (some 0) with kind := .array 7 .int, interfaces := #[3, 4], accessFlags := 1041 }

def heap : Heap := #[]
def classes : Array Class := #[k0, k1, k2, k3, k4, k5, k6, k7, k8]
def interned : List (Array UInt16 × Addr) := []
def slotsUsed : Nat := 0
def theMethod : MethodId := ⟨1, 3⟩
def args0 : Array Value := #[.int 5, .int 3]
def aboutOver (below : List Frame) : State where
  vm := { classes := classes, interned := interned.toArray }
  heap := heap
  slotsUsed := slotsUsed
  threads := #[{ frames := .invoking theMethod args0 :: below }]
def below0 : List Frame := [.native { method := ⟨0, 0⟩, args := #[] }]
def about1 : State := aboutOver below0
def p0 : Program := .bare "" "" ""
def e0 : Env := launch0.env 0 0 0
theorem w_frames : about1.frames = Frame.invoking theMethod args0 :: below0 := rfl
set_option maxRecDepth 65536 in
theorem w_args : argsFit about1.vm theMethod args0 = true := by decide +kernel
set_option maxRecDepth 65536 in
theorem w_heap : heapFits about1 = true := by decide +kernel
set_option maxRecDepth 65536 in
theorem w_runnable : about1.curStatus? = some .runnable := by decide +kernel
set_option maxRecDepth 65536 in
theorem w_alone : about1.alone = true := by decide +kernel
set_option maxRecDepth 65536 in
theorem w_named : about1.methodNamed? x = some theMethod := by decide +kernel
set_option maxRecDepth 65536 in
theorem w_hears : about1.hears theMethod below0 = true := by decide +kernel
set_option maxRecDepth 65536 in
theorem w_ripe : about1.ripe theMethod args0 below0 = true := by decide +kernel
theorem w_running : about1.status = .running := rfl
set_option maxRecDepth 65536 in
theorem w_room : about1.hasRoom e0.platform room_1 = true :=
  launch0.hasRoom_least _ room_1 (by decide +kernel) (by decide +kernel) (by decide +kernel) (by decide +kernel) (by decide +kernel) (by decide +kernel)
theorem allAtoms_all (ts : List Jvm.Cond) (a : Array Jvm.Value) (st : Jvm.State) : (allAtoms ts).before a st = ts.all (fun c => c.before a st) := by
  induction ts with
  | nil => rfl
  | cons c t ih =>
    show (Jvm.Cond.and c (allAtoms t)).before a st = _
    rw [Jvm.Cond.before_and, ih, List.all_cons]
def words1 : List Jvm.Cond := Jvm.Cond.code x code maxLocals ret :: tables_1
/-- a 'code' word, met by the world's own term for the bytes: nothing is compared byte by byte -/
theorem code_word {y : MethodName} {bytes : ByteArray} {mx : Nat} {rt : Option FieldType} {a : Array Value} {s : State} {m : MethodId} {meth : Method} {c : Code} (h1 : s.methodNamed? y = some m) (h2 : s.vm.method? m = some meth) (h3 : meth.code = some c) (h4 : c.code = bytes)
    (h5 : (c.maxLocals == mx && c.exceptionTable.isEmpty && decide (c.maxStack ≤ mostOperands) && decide (meth.sig.returnType = rt) && !meth.locks && decide (parseMethodDescriptor y.desc = some meth.sig)) = true) : (Jvm.Cond.code y bytes mx rt).before a s = true := by
  simp only [Bool.and_eq_true, beq_iff_eq, Bool.not_eq_true', decide_eq_true_eq] at h5
  obtain ⟨⟨⟨⟨⟨g1, g2⟩, g3⟩, g4⟩, g5⟩, g6⟩ := h5
  simp [Cond.before, Cond.holds, Cond.value, h1, h2, h3, h4, g1, g2, g3, g4, g5, g6]
def isCode : Jvm.Cond → Bool
  | .code _ _ _ _ => true
  | _ => false
theorem all_split {L : List Jvm.Cond} {P : Jvm.Cond → Bool} (h1 : L.all (fun c => isCode c || P c) = true) (h2 : ∀ c ∈ L.filter isCode, P c = true) : L.all P = true := by
  refine List.all_eq_true.mpr fun c hc => ?_
  have h := List.all_eq_true.mp h1 c hc
  rcases Bool.eq_false_or_eq_true (isCode c) with hi | hi
  · exact h2 c (List.mem_filter.mpr ⟨hc, hi⟩)
  · simpa [hi] using h
set_option maxRecDepth 65536 in
theorem w_c0 : (Jvm.Cond.code x code maxLocals ret).before args0 about1 = true := code_word (m := ⟨1, 3⟩) (meth := k1m3) (c := k1c3) (by decide +kernel) rfl rfl rfl (by decide +kernel)
set_option maxRecDepth 65536 in
theorem w_c1 : (Jvm.Cond.code ({ cls := "com/example/sagoma/sagoma/format/Rfc3986", name := "isUcsChar", desc := "(I)Z" } : Jvm.MethodName) prog_24_method_7_code (1 : Nat) (Option.some Jvm.ClassFile.FieldType.boolean)).before args0 about1 = true := code_word (m := ⟨2, 1⟩) (meth := k2m1) (c := k2c1) (by decide +kernel) rfl rfl rfl (by decide +kernel)
set_option maxRecDepth 65536 in
theorem w_c2 : (Jvm.Cond.code ({ cls := "com/example/sagoma/sagoma/format/Rfc3986IsUcsCharPinLaw", name := "reference", desc := "(I)Z" } : Jvm.MethodName) method_3_code (1 : Nat) (Option.some Jvm.ClassFile.FieldType.boolean)).before args0 about1 = true := code_word (m := ⟨1, 2⟩) (meth := k1m2) (c := k1c2) (by decide +kernel) rfl rfl rfl (by decide +kernel)
set_option maxRecDepth 65536 in
theorem w_c3 : (Jvm.Cond.code ({ cls := "com/example/sagoma/sagoma/format/Rfc3986IsUcsCharPinLaw", name := "in", desc := "(III)Z" } : Jvm.MethodName) method_2_code (3 : Nat) (Option.some Jvm.ClassFile.FieldType.boolean)).before args0 about1 = true := code_word (m := ⟨1, 1⟩) (meth := k1m1) (c := k1c1) (by decide +kernel) rfl rfl rfl (by decide +kernel)
def codes1 : List Jvm.Cond := [Jvm.Cond.code x code maxLocals ret, Jvm.Cond.code ({ cls := "com/example/sagoma/sagoma/format/Rfc3986", name := "isUcsChar", desc := "(I)Z" } : Jvm.MethodName) prog_24_method_7_code (1 : Nat) (Option.some Jvm.ClassFile.FieldType.boolean), Jvm.Cond.code ({ cls := "com/example/sagoma/sagoma/format/Rfc3986IsUcsCharPinLaw", name := "reference", desc := "(I)Z" } : Jvm.MethodName) method_3_code (1 : Nat) (Option.some Jvm.ClassFile.FieldType.boolean), Jvm.Cond.code ({ cls := "com/example/sagoma/sagoma/format/Rfc3986IsUcsCharPinLaw", name := "in", desc := "(III)Z" } : Jvm.MethodName) method_2_code (3 : Nat) (Option.some Jvm.ClassFile.FieldType.boolean)]
set_option maxRecDepth 65536 in
theorem codes_eq : words1.filter isCode = codes1 := rfl
theorem w_codes : ∀ c ∈ words1.filter isCode, c.before args0 about1 = true := by
  rw [codes_eq]
  intro c hc
  simp only [codes1, List.mem_cons, List.not_mem_nil, or_false] at hc
  rcases hc with rfl | rfl | rfl | rfl
  · exact w_c0
  · exact w_c1
  · exact w_c2
  · exact w_c3
set_option maxRecDepth 65536 in
theorem w_t1 : (words1.take 24).all (fun c => isCode c || c.before args0 about1) = true := by decide +kernel
set_option maxRecDepth 65536 in
theorem w_t2 : ((words1.drop 24).take 24).all (fun c => isCode c || c.before args0 about1) = true := by decide +kernel
set_option maxRecDepth 65536 in
theorem w_t3 : ((words1.drop 24).drop 24).all (fun c => isCode c || c.before args0 about1) = true := by decide +kernel
theorem w_tables : (allAtoms (Jvm.Cond.code x code maxLocals ret :: tables_1)).before args0 about1 = true := by
  rw [allAtoms_all]
  show words1.all (fun c => c.before args0 about1) = true
  refine all_split ?_ w_codes
  rw [← List.take_append_drop 24 words1, List.all_append, w_t1, ← List.take_append_drop 24 (words1.drop 24), List.all_append, w_t2, w_t3]
  rfl
set_option maxRecDepth 65536 in
theorem w_case : (Jvm.Cond.and given_1 narrow_1).before args0 about1 = true := by decide +kernel
theorem w_applies : (headSpec (Jvm.Cond.code x code maxLocals ret :: tables_1) room_1).applies x e0.platform about1 = true :=
  (Spec.applies_iff w_frames).mpr ⟨w_running, w_runnable, w_alone, w_named, w_hears, w_ripe, w_room, w_tables⟩
theorem atStart : AtStart classFile x code maxLocals ret World_1 tables_1 room_1 Calls_1 rest_1 Pre_1 launch0 p0 e0 about1 theMethod args0 below0 :=
  ⟨lists_1, trivial, launch0.admits_env _ _ _, launch0.least_env, fairChoices_fair.cas, fairChoices_fair.clock, w_frames, w_args, w_heap, w_applies, trivial, trivial, w_case⟩
end start1
theorem witness_1 : WitnessClaimed_1 := ⟨start1.p0, start1.e0, start1.about1, start1.theMethod, start1.args0, start1.below0, start1.atStart⟩
end Jvm.Pilot.@@N@@
